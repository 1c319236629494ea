import JvmDerived
import JvmDerived.Pilot.@@N@@Statement
import JvmDerived.Pilot.@@N@@Code
set_option linter.unusedVariables false
set_option linter.unusedSimpArgs false
/- laws to paste: Road.chN, Road.codOf (cut by pick.py; bodies as the Statement names them) -/
namespace Jvm.Pilot.@@N@@
namespace StrChars
open Jvm Sem ClassFile Op Lib Jvm.Stand Jvm.Free.XT Jvm.Free.ALB Jvm.Free.JM Jvm.Free
open Jvm.Lib.Cold (StaticIs)
/-- the byte that i2b leaves of a char -/
def lo8 (x : Int32) : Int32 := x.toInt8.toInt32
/-- the byte, read back as charAt reads it, is the char -/
theorem lo8_mask {x : Int32} (h0 : ¬ x < 0) (h1 : ¬ 255 < x) : lo8 x &&& 255 = x := by
  have t : ∀ k : Fin 256, lo8 (Int32.ofNat k.val) &&& 255 = Int32.ofNat k.val := by decide +kernel
  rw [Int32.lt_iff_toInt_lt] at h0 h1
  have e0 : (0 : Int32).toInt = 0 := rfl
  have e1 : (255 : Int32).toInt = 255 := rfl
  obtain ⟨k, hk⟩ : ∃ k : Nat, x.toInt = k := ⟨x.toInt.toNat, by omega⟩
  have hx : x = Int32.ofNat k := Int32.toInt_inj.mp (by rw [hk, Int32.toInt_ofNat_small (by omega)])
  rw [hx]
  exact t ⟨k, by omega⟩
end StrChars
namespace StrChars.Road
open Jvm Sem ClassFile Op Lib Jvm.Stand Jvm.Free Jvm.Free.XT
open Jvm.Lib.Cold (StaticIs)
abbrev ST : String := "java/lang/String"
end StrChars.Road
namespace StrChars
open Jvm Sem ClassFile Op Lib Jvm.Stand Jvm.Free.XT Jvm.Free.ALB Jvm.Free.JM Jvm.Free
open Jvm.Lib.Cold (StaticIs)
def hi8 (x : Int32) : Int32 := lo8 (x >>> ((8 : Int32) &&& 31))
/-- what StringUTF16.getChar makes of two bytes -/
def pairCh (u v : Int32) : Int32 := (((u &&& 255) <<< ((0 : Int32) &&& 31)) ||| ((v &&& 255) <<< ((8 : Int32) &&& 31))).toUInt32.toUInt16.toUInt32.toInt32
theorem lo8_and (x : Int32) : (lo8 x &&& 255).toBitVec.toNat = x.toBitVec.toNat % 256 := by
  have h : (lo8 x).toBitVec = (x.toBitVec.signExtend 8).signExtend 32 := by rw [lo8, Int8.toBitVec_toInt32, Int32.toBitVec_toInt8]
  rw [Int32.toBitVec_and, BitVec.toNat_and, h]
  have e : ((x.toBitVec.signExtend 8).signExtend 32).toNat % 256 = x.toBitVec.toNat % 256 := by
    rw [BitVec.toNat_signExtend]
    have hlt := x.toBitVec.isLt
    simp only [BitVec.toNat_setWidth, BitVec.toNat_signExtend]
    split <;> split <;> omega
  rw [← e]
  exact Nat.and_two_pow_sub_one_eq_mod _ 8
theorem pair_says {c : Int32} (h0 : ¬ c < 0) (h1 : ¬ 65535 < c) : pairCh (lo8 c) (hi8 c) = c := by
  rw [Int32.lt_iff_toInt_lt] at h0 h1
  have e0 : (0 : Int32).toInt = 0 := rfl
  have e1 : (65535 : Int32).toInt = 65535 := rfl
  have hc : c.toInt = c.toBitVec.toNat := by
    have := c.toBitVec.isLt
    have e : c.toInt = c.toBitVec.toInt := rfl
    rw [e] at h0 h1
    rw [e]
    rw [BitVec.toInt_eq_toNat_cond] at h0 h1 ⊢
    split at h0 <;> split <;> omega
  have hn : c.toBitVec.toNat < 65536 := by omega
  have a1 := lo8_and c
  have a2 : (hi8 c &&& 255).toBitVec.toNat = c.toBitVec.toNat / 256 := by
    rw [hi8, lo8_and]
    have e : ((8 : Int32) &&& 31) = 8 := by decide
    rw [e, Int32.toBitVec_shiftRight]
    have e2 : ((8 : Int32).toBitVec.smod 32) = 8#32 := by decide
    rw [e2, BitVec.sshiftRight_eq', BitVec.toNat_sshiftRight_of_msb_false (by rw [BitVec.msb_eq_false_iff_two_mul_lt]; omega)]
    show c.toBitVec.toNat >>> 8 % 256 = _
    rw [Nat.shiftRight_eq_div_pow]
    omega
  unfold pairCh
  apply Int32.toBitVec_inj.mp
  apply BitVec.eq_of_toNat_eq
  have f0 : ((0 : Int32) &&& 31) = 0 := by decide
  have f8 : ((8 : Int32) &&& 31) = 8 := by decide
  rw [f0, f8]
  have g : (((lo8 c &&& 255) <<< (0 : Int32)) ||| ((hi8 c &&& 255) <<< (8 : Int32))).toBitVec.toNat = c.toBitVec.toNat := by
    rw [Int32.toBitVec_or, Int32.toBitVec_shiftLeft, Int32.toBitVec_shiftLeft]
    have s0 : ((0 : Int32).toBitVec.smod 32) = 0#32 := by decide
    have s8 : ((8 : Int32).toBitVec.smod 32) = 8#32 := by decide
    rw [s0, s8, BitVec.toNat_or]
    simp only [BitVec.shiftLeft_eq', BitVec.toNat_shiftLeft, a1, a2]
    show (c.toBitVec.toNat % 256) <<< 0 % 2 ^ 32 ||| (c.toBitVec.toNat / 256) <<< 8 % 2 ^ 32 = _
    rw [Nat.shiftLeft_zero, Nat.mod_eq_of_lt (show c.toBitVec.toNat % 256 < 2 ^ 32 by omega), Nat.mod_eq_of_lt (show (c.toBitVec.toNat / 256) <<< 8 < 2 ^ 32 by rw [Nat.shiftLeft_eq]; omega), Nat.or_comm, ← Nat.shiftLeft_add_eq_or_of_lt (by omega), Nat.shiftLeft_eq]
    omega
  show BitVec.toNat (((((lo8 c &&& 255) <<< (0 : Int32)) ||| ((hi8 c &&& 255) <<< (8 : Int32))).toBitVec.setWidth 16).setWidth 32) = _
  rw [BitVec.toNat_setWidth, BitVec.toNat_setWidth, g]
  omega
end StrChars
namespace StrChars
open Jvm Sem ClassFile Op Lib Jvm.Stand Jvm.Free.XT Jvm.Free.ALB Jvm.Free.JM Jvm.Free
open Jvm.Lib.Cold (StaticIs)
/-- charAt's cast of a byte read back -/
def chr8 (u : Int32) : Int32 := (u &&& 255).toUInt32.toUInt16.toUInt32.toInt32
theorem chr8_lo8 {c : Int32} (h0 : ¬ c < 0) (h1 : ¬ 255 < c) : chr8 (lo8 c) = c := by
  have t : ∀ k : Fin 256, (Int32.ofNat k.val).toUInt32.toUInt16.toUInt32.toInt32 = Int32.ofNat k.val := by decide +kernel
  unfold chr8
  rw [lo8_mask h0 h1]
  rw [Int32.lt_iff_toInt_lt] at h0 h1
  have e0 : (0 : Int32).toInt = 0 := rfl
  have e1 : (255 : Int32).toInt = 255 := rfl
  obtain ⟨k, hk⟩ : ∃ k : Nat, c.toInt = k := ⟨c.toInt.toNat, by omega⟩
  have hx : c = Int32.ofNat k := Int32.toInt_inj.mp (by rw [hk, Int32.toInt_ofNat_small (by omega)])
  rw [hx]
  exact t ⟨k, by omega⟩
theorem narrow_ch {c : Int32} (h0 : ¬ c < 0) (h1 : ¬ 65535 < c) : narrow .char (.int c) = .int c := by
  have q : narrow .char (.int (pairCh (lo8 c) (hi8 c))) = .int (pairCh (lo8 c) (hi8 c)) := narrow_c _
  rwa [pair_says h0 h1] at q
/-- the array's cell V codes the n chars f 0 .. f (n - 1) by the coder cd, as the JDK does: coder 1 just where some char is above 255 -/
def Cod (cd : Int32) (n : Nat) (f : Nat → Int32) (V : Cell) : Prop := (cd = 0 ∧ V.slots.size = n ∧ ∀ j, j < n → V.slots[j]? = some (.int (lo8 (f j))) ∧ ¬ 255 < f j) ∨ (cd = 1 ∧ V.slots.size = 2 * n ∧ (∀ j, j < n → V.slots[2 * j]? = some (.int (lo8 (f j))) ∧ V.slots[2 * j + 1]? = some (.int (hi8 (f j)))) ∧ ∃ j, j < n ∧ 255 < f j)
theorem Cod.cd {cd : Int32} {n : Nat} {f : Nat → Int32} {V : Cell} (h : Cod cd n f V) : cd = 0 ∨ cd = 1 := h.imp (fun q => q.1) fun q => q.1
/-- **x is a String of the n chars f 0 .. f (n - 1)**, Latin-1 or UTF-16; its array at t has the cell V -/
def Txt (x t : Addr) (V : Cell) (cd : Int32) (n : Nat) (f : Nat → Int32) (U : State) : Prop := Exact "java/lang/String" x U ∧ Has x "java/lang/String" "value" "[B" (.ref t) U ∧ Has x "java/lang/String" "coder" "B" (.int cd) U ∧ XT.Arr .byte t V U ∧ Cod cd n f V ∧ ∀ j, j < n → ¬ f j < 0 ∧ ¬ 65535 < f j
theorem Txt.mv {x t : Addr} {V : Cell} {cd : Int32} {n : Nat} {f : Nat → Int32} {U U' : State} (h : Txt x t V cd n f U) (hal : U.vm.Alike U'.vm) (hh : U'.heap = U.heap) : Txt x t V cd n f U' := ⟨h.1.mv hal hh, h.2.1.mv hal hh, h.2.2.1.mv hal hh, h.2.2.2.1.mv hal hh, h.2.2.2.2⟩
namespace IsL
def yN : MethodName := ⟨"java/lang/String", "isLatin1", "()Z"⟩
abbrev yB : ByteArray := jdk_42_method_154_code
theorem d0 : decode yB 0 = .ok (.getstatic 38, 3) := by decide +kernel
theorem d3 : decode yB 3 = .ok (.ifCond (.eq) 14, 3) := by decide +kernel
theorem d6 : decode yB 6 = .ok (.aload_n 0, 1) := by decide +kernel
theorem d7 : decode yB 7 = .ok (.getfield 15, 3) := by decide +kernel
theorem d10 : decode yB 10 = .ok (.ifCond (.ne) 7, 3) := by decide +kernel
theorem d13 : decode yB 13 = .ok (.iconst 1, 1) := by decide +kernel
theorem d14 : decode yB 14 = .ok (.goto 4, 3) := by decide +kernel
theorem d17 : decode yB 17 = .ok (.iconst 0, 1) := by decide +kernel
theorem d18 : decode yB 18 = .ok (.ireturn, 1) := by decide +kernel
def site : List Cond := [.fieldLink "java/lang/String" 38 "java/lang/String" "COMPACT_STRINGS" "Z", .fieldLink "java/lang/String" 15 "java/lang/String" "coder" "B"]
def tab : Cond := tabOf yN yB 1 (some .boolean) site
def P (x : Addr) (cd z : Int32) (args : Array Value) (s : State) : Prop := args = #[.ref x] ∧ Has x "java/lang/String" "coder" "B" (.int cd) s ∧ (cd = 0 ∨ cd = 1) ∧ StaticIs s "java/lang/String" "COMPACT_STRINGS" "Z" (.int z) ∧ ¬ z = 0
def E (cd : Int32) (r : Option Value) (s u : State) : Prop := XT.PureE (some (.int (1 - cd))) r s u
theorem law (l : Launch) (x : Addr) (cd z : Int32) : Law l yN 1 0 0 0 yB 1 (some .boolean) site (P x cd z) (E cd) [] 0 0 := by
  refine Law.of_walk (plainFor_of_name (by decide +kernel)) (by decide +kernel) (by decide +kernel) (by decide) (fun _ _ h => by rw [h.1]; rfl) (fun _ U U' hal hh h => ⟨h.1, h.2.1.mv hal hh, h.2.2.1, h.2.2.2.1.there hal hh, h.2.2.2.2⟩) (fun r U U' V V' h1 hal h2 h => XT.PureE.mv r U U' V V' h1 hal h2 h) ?_
  intro p e s m args below meth c s₁ X0 hexec hbytes hml hret hlk hnm hown hh0 W hP
  obtain ⟨rfl, hx, hc, s1, hz⟩ := hP
  have c1 : Steps p.tables e below (s₁.setTop (entryFrame m #[.ref x] 1)) (s₁.setTop (mkF m 0 #[.val (.ref x)] [])) := entry rfl
  obtain ⟨T2, X2, q2, st2⟩ := X0.sget hexec hown (wk W (.fieldLink "java/lang/String" 38 "java/lang/String" "COMPACT_STRINGS" "Z")) s1 (fun _ _ h => by rw [hh0]; exact h) (g := (mkF m 0 #[.val (.ref x)] [])) rfl (hb hbytes d0)
  have hh2 := q2.trans hh0
  have c3 : Steps p.tables e below (s₁.setTop (entryFrame m #[.ref x] 1)) (T2.setTop (mkF m 7 #[.val (.ref x)] [.ref x])) := (c1.trans (st2 _ (Steps.refl _))).trans (by
    refine XS.ifNo X2.here hexec rfl (hb hbytes d3) rfl (i0_eq_f hz) ?_
    refine XS.aloadN X2.here hexec rfl (hb hbytes d6) rfl rfl ?_
    exact Steps.refl _)
  obtain ⟨T4, X4, q4, st4⟩ := X2.hget hexec hown (wk W (.fieldLink "java/lang/String" 15 "java/lang/String" "coder" "B")) (hx.mv X2.warmed.alike hh2) (g := (mkF m 7 #[.val (.ref x)] [.ref x])) rfl (rest := []) rfl (hb hbytes d7)
  have c5 : Steps p.tables e below (s₁.setTop (entryFrame m #[.ref x] 1)) (T4.setTop (mkF m 10 #[.val (.ref x)] [.int cd])) := c3.trans (st4 _ (Steps.refl _))
  have c6 : Steps p.tables e below (s₁.setTop (entryFrame m #[.ref x] 1)) (T4.setTop (mkF m 18 #[.val (.ref x)] [.int (1 - cd)])) := by
    rcases hc with rfl | rfl
    · exact c5.trans (by
        refine XS.ifNo X4.here hexec rfl (hb hbytes d10) rfl (i0_ne_f rfl) ?_
        refine iconstV X4.here hexec rfl 1 (hb hbytes d13) (by decide) ?_
        refine XS.goto X4.here hexec rfl (pc0 := 14) rfl (hb hbytes d14) (by decide) rfl ?_
        exact Steps.refl _)
    · exact c5.trans (by
        refine XS.ifYes X4.here hexec rfl (pc0 := 10) rfl (hb hbytes d10) rfl (i0_ne_t (by decide)) (by decide) rfl ?_
        refine iconstV X4.here hexec rfl 0 (hb hbytes d17) (by decide) ?_
        exact Steps.refl _)
  exact ⟨T4, some (.int (1 - cd)), _, _, _, X4, rfl, rfl, rfl, (fun h => by cases h), ⟨rfl, q4.trans hh2⟩, fun fs hl => c6.trans (X4.ireturnOut hexec hret (by rcases hc with rfl | rfl <;> rfl) (Or.inr (Or.inl rfl)) (hb hbytes d18) hl)⟩
end IsL
namespace LChA
def yN : MethodName := ⟨"java/lang/StringLatin1", "charAt", "([BI)C"⟩
abbrev yB : ByteArray := jdk_43_method_2_code
theorem d0 : decode yB 0 = .ok (.iload_n 1, 1) := by decide +kernel
theorem d1 : decode yB 1 = .ok (.aload_n 0, 1) := by decide +kernel
theorem d2 : decode yB 2 = .ok (.arraylength, 1) := by decide +kernel
theorem d3 : decode yB 3 = .ok (.invokestatic 9, 3) := by decide +kernel
theorem d6 : decode yB 6 = .ok (.aload_n 0, 1) := by decide +kernel
theorem d7 : decode yB 7 = .ok (.iload_n 1, 1) := by decide +kernel
theorem d8 : decode yB 8 = .ok (.baload, 1) := by decide +kernel
theorem d9 : decode yB 9 = .ok (.sipush 255, 3) := by decide +kernel
theorem d12 : decode yB 12 = .ok (.iand, 1) := by decide +kernel
theorem d13 : decode yB 13 = .ok (.i2c, 1) := by decide +kernel
theorem d14 : decode yB 14 = .ok (.ireturn, 1) := by decide +kernel
def site : List Cond := [JO.Str_checkIndex.tab] ++ staticW "java/lang/StringLatin1" 9 JO.Str_checkIndex.yN
def tab : Cond := tabOf yN yB 2 (some .char) site
def P (t : Addr) (V : Cell) (i : Nat) (u : Int32) (fm : Value) (args : Array Value) (s : State) : Prop := args = #[.ref t, .int (Int32.ofNat i)] ∧ XT.Arr .byte t V s ∧ V.slots[i]? = some (.int u) ∧ (StaticIs s "jdk/internal/util/Preconditions" "SIOOBE_FORMATTER" "Ljava/util/function/BiFunction;" fm ∧ fm.isRef = true)
def E (u : Int32) (r : Option Value) (s w : State) : Prop := XT.PureE (some (.int (chr8 u))) r s w
theorem law (l : Launch) (t : Addr) (V : Cell) (i : Nat) (u : Int32) (fm : Value) : Law l yN 2 2 2 27 yB 2 (some .char) site (P t V i u fm) (E u) [] 0 0 := by
  refine Law.of_walk (plainFor_of_name (by decide +kernel)) (by decide +kernel) (by decide +kernel) (by decide) (fun _ _ h => by rw [h.1]; rfl) (fun _ U U' hal hh h => ⟨h.1, h.2.1.mv hal hh, h.2.2.1, h.2.2.2.1.there hal hh, h.2.2.2.2⟩) (fun r U U' V V' h1 hal h2 h => XT.PureE.mv r U U' V V' h1 hal h2 h) ?_
  intro p e s m args below meth c s₁ X0 hexec hbytes hml hret hlk hnm hown hh0 W hP
  obtain ⟨rfl, hV, hu, s1, rf⟩ := hP
  have v31 := hV.2.2.2
  have hi : i < V.slots.size := (Array.getElem?_eq_some_iff.mp hu).1
  have c1 : Steps p.tables e below (s₁.setTop (entryFrame m #[.ref t, .int (Int32.ofNat i)] 2)) (s₁.setTop (mkF m 0 #[.val (.ref t), .val (.int (Int32.ofNat i))] [])) := entry rfl
  have c2 : Steps p.tables e below (s₁.setTop (entryFrame m #[.ref t, .int (Int32.ofNat i)] 2)) (s₁.setTop (mkF m 3 #[.val (.ref t), .val (.int (Int32.ofNat i))] [.int (Int32.ofNat V.slots.size), .int (Int32.ofNat i)])) := c1.trans (by
    refine XS.iloadN X0.here hexec rfl (hb hbytes d0) rfl ?_
    refine XS.aloadN X0.here hexec rfl (hb hbytes d1) rfl rfl ?_
    refine X0.alen hexec (hV.mv X0.warmed.alike hh0) rfl rfl (hb hbytes d2) ?_
    exact Steps.refl _)
  obtain ⟨v3, T3, X3, E3, g3⟩ := X0.callS hexec (JO.Str_checkIndex.law l (Int32.ofNat i) (Int32.ofNat V.slots.size) fm) hown (wks W (staticW "java/lang/StringLatin1" 9 JO.Str_checkIndex.yN)) (wk W JO.Str_checkIndex.tab) (W := 0) (Nat.le_of_ble_eq_true rfl) (Nat.le_of_ble_eq_true rfl) (Nat.le_refl _) (Nat.le_refl _) (g := (mkF m 3 #[.val (.ref t), .val (.int (Int32.ofNat i))] [.int (Int32.ofNat V.slots.size), .int (Int32.ofNat i)])) rfl (by rw [hml]; rfl) c2 (argsL := [.int (Int32.ofNat i), .int (Int32.ofNat V.slots.size)]) (rest := []) rfl rfl (by show 2 * 0 + 0 ≤ _; decide) (hb hbytes d3) (⟨rfl, rf, s1.there X0.warmed.alike hh0, Int32.ofNat_not_neg (by omega), lt32 v31 hi⟩)
  obtain ⟨rfl, q3⟩ := E3
  have hh3 := q3.trans hh0
  have c4 : Steps p.tables e below (s₁.setTop (entryFrame m #[.ref t, .int (Int32.ofNat i)] 2)) (T3.setTop (mkF m 14 #[.val (.ref t), .val (.int (Int32.ofNat i))] [.int (chr8 u)])) := Steps.trans g3 (by
    refine XS.aloadN X3.here hexec rfl (hb hbytes d6) rfl rfl ?_
    refine XS.iloadN X3.here hexec rfl (hb hbytes d7) rfl ?_
    refine X3.aget hexec (hV.mv X3.warmed.alike hh3) rfl hu rfl rfl (hb hbytes d8) ?_
    refine sipushV X3.here hexec rfl 255 (hb hbytes d9) (by decide) ?_
    refine XS.iand X3.here hexec rfl (hb hbytes d12) rfl ?_
    refine i2c X3.here hexec rfl (hb hbytes d13) rfl ?_
    exact Steps.refl _)
  exact ⟨T3, some (.int (chr8 u)), _, _, _, X3, rfl, rfl, rfl, (fun h => by cases h), ⟨rfl, hh3⟩, fun fs hl => c4.trans (X3.ireturnOut hexec hret (narrow_c _) (Or.inr (Or.inr (Or.inr (Or.inl rfl)))) (hb hbytes d14) hl)⟩
end LChA
end StrChars
namespace StrChars.Road
open Jvm Sem ClassFile Op Lib Jvm.Stand Jvm.Free Jvm.Free.XT
open Jvm.Lib.Cold (StaticIs)
theorem consq {a : Array Value} {s : State} {c : Jvm.Cond} {L : List Jvm.Cond} (h0 : c.before a s = true) (h : ∀ w ∈ L, w.before a s = true) : ∀ w ∈ c :: L, w.before a s = true := fun w hw => (List.mem_cons.mp hw).elim (fun e => e ▸ h0) (h w)
/-- the bytes of the chars cs, low before high -/
def wideBytes : List Int32 → List Value
  | [] => []
  | c :: cs => .int (lo8 c) :: .int (hi8 c) :: wideBytes cs
theorem wide_lo (d : Value) : ∀ (cs : List Int32) (j : Nat), j < cs.length → (wideBytes cs).getD (2 * j) d = .int (lo8 (cs.getD j 0))
  | [], j, h => absurd h (Nat.not_lt_zero j)
  | c :: cs, 0, _ => rfl
  | c :: cs, j + 1, h => by
    have q := wide_lo d cs j (by simpa using h)
    rw [show 2 * (j + 1) = 2 * j + 1 + 1 from by omega]
    simpa [wideBytes] using q
theorem wide_hi (d : Value) : ∀ (cs : List Int32) (j : Nat), j < cs.length → (wideBytes cs).getD (2 * j + 1) d = .int (hi8 (cs.getD j 0))
  | [], j, h => absurd h (Nat.not_lt_zero j)
  | c :: cs, 0, _ => rfl
  | c :: cs, j + 1, h => by
    have q := wide_hi d cs j (by simpa using h)
    rw [show 2 * (j + 1) + 1 = 2 * j + 1 + 1 + 1 from by omega]
    simpa [wideBytes] using q
theorem low_at (d : Value) (cs : List Int32) (j : Nat) (h : j < cs.length) : (cs.map fun c => Value.int (lo8 c)).getD j d = .int (lo8 (cs.getD j 0)) := by
  simp [List.getD_eq_getElem?_getD, h]
/-- an array of N2 bytes vs codes the chars cs by the coder cd -/
def CodA (cs : List Int32) (cd N2 : Int32) (vs : List Value) : Prop := (cd = 0 ∧ N2 = Int32.ofNat cs.length ∧ vs = (cs.map fun c => Value.int (lo8 c)) ∧ ∀ c ∈ cs, ¬ 255 < c) ∨ (cd = 1 ∧ N2 = Int32.ofNat (2 * cs.length) ∧ vs = wideBytes cs ∧ ∃ c ∈ cs, 255 < c)
theorem CodA.cod {cs : List Int32} {cd N2 : Int32} {vs : List Value} {V : Cell} (h : CodA cs cd N2 vs) (hn : 2 * cs.length < 2 ^ 31) (hs : V.slots.size = N2.toNatClampNeg) (hv : RoadKit.Has V vs (.int 0)) : Cod cd cs.length (fun j => cs.getD j 0) V := by
  rcases h with ⟨rfl, rfl, rfl, h⟩ | ⟨rfl, rfl, rfl, c, hc, hw⟩
  · rw [n32 (by omega)] at hs
    exact Or.inl ⟨rfl, hs, fun j hj => ⟨by rw [hv j (by omega), low_at _ _ _ hj], by
      have e : cs.getD j 0 = cs[j] := by simp [List.getD_eq_getElem?_getD, hj]
      show ¬ 255 < cs.getD j 0
      rw [e]; exact h _ (List.getElem_mem _)⟩⟩
  · rw [n32 (by omega)] at hs
    obtain ⟨j, hj, rfl⟩ := List.getElem_of_mem hc
    exact Or.inr ⟨rfl, hs, fun j hj => ⟨by rw [hv _ (by omega), wide_lo _ _ _ hj], by rw [hv _ (by omega), wide_hi _ _ _ hj]⟩, j, hj, by
      have e : cs.getD j 0 = cs[j] := by simp [List.getD_eq_getElem?_getD, hj]
      show 255 < cs.getD j 0
      rw [e]; exact hw⟩
/-- an object of exactly java/lang/String, its two fields found: as the laws ask it -/
theorem strObj {Z U : State} {a0 : Array Value} {kI : Nat} (wi : (Jvm.Cond.instantiable ST kI).before a0 Z = true) (al : Z.vm.Alike U.vm) {x : Addr} {v0 c0 : Value} (E : RoadKit.Exa Z U.heap x ST) (V : RoadKit.Fld Z U.heap x ST "value" "[B" v0) (C : RoadKit.Fld Z U.heap x ST "coder" "B" c0) :
    ∃ (D : Cell) (fV fC : Field), Blank ST x D U ∧ Found ST "value" "[B" fV U ∧ Found ST "coder" "B" fC U ∧ D.slots[fV.slot]? = some v0 ∧ D.slots[fC.slot]? = some c0 ∧ RoadKit.slotOf Z ST "value" "[B" = fV.slot ∧ RoadKit.slotOf Z ST "coder" "B" = fC.slot := by
  obtain ⟨D, cfV, kV, iV, fV, hD, gV, stV, knV, obV, asV, slV⟩ := V
  obtain ⟨D', cfC, kC, iC, fC, hD', gC, stC, -, -, asC, slC⟩ := C
  cases hD.symm.trans hD'
  obtain ⟨D2, kD, e1, e2, e3, e4, e5⟩ := E
  cases hD.symm.trans e1
  obtain ⟨c2, k2, i1, i2, i3, -⟩ := Cond.instantiable_spec wi
  cases e2.symm.trans i1
  cases e3.symm.trans i2
  obtain ⟨kU, u1, u2⟩ := al.2.2 _ _ e3
  exact ⟨D, fV, fC, ⟨hD, ⟨knV, fun q hq => by rw [hq] at obV; cases obV⟩, by rw [al.findClass]; exact e2, kU, u1, by rw [u2]; exact i3, by rw [u2]; exact e5 i3⟩, ⟨SBG.found_only al ⟨cfV, kV, iV, gV⟩, stV⟩, ⟨SBG.found_only al ⟨cfC, kC, iC, gC⟩, stC⟩, slV, slC, by simp [RoadKit.slotOf, gV], by simp [RoadKit.slotOf, gC]⟩
theorem sta_is {Z U : State} (al : Z.vm.Alike U.vm) {C n d : String} {v : Value} (S : RoadKit.Sta Z U.heap C n d v) : StaticIs U C n d v := by
  obtain ⟨cfS, iS, kS, fS, st, cS, t1, t2, t3, t4, t5, t6, t7⟩ := S
  exact StaticIs.there (s := { Z with heap := U.heap }) ⟨cfS, iS, kS, fS, st, cS, t1, t2, t3, t4, t5, (fun q => by rw [q] at t6; cases t6), t7⟩ al rfl
end StrChars.Road
namespace StrChars.Road
open Jvm Sem ClassFile Op Lib Jvm.Stand Jvm.Free Jvm.Free.XT
open Jvm.Lib.Cold (StaticIs)
/-- the road's facts of a String, as the laws ask it -/
theorem txt_of {Z U : State} {a0 : Array Value} {kI : Nat} (wi : (Jvm.Cond.instantiable ST kI).before a0 Z = true) (al : Z.vm.Alike U.vm) {x t : Addr} {kb : ClassId} {cs : List Int32} {cd N2 : Int32} {vs : List Value} (E : RoadKit.Exa Z U.heap x ST) (V : RoadKit.Fld Z U.heap x ST "value" "[B" (.ref t)) (C : RoadKit.Fld Z U.heap x ST "coder" "B" (.int cd)) (K : RoadKit.Arv Z U.heap t kb .byte N2 vs (.int 0)) (hc : CodA cs cd N2 vs) (hb : ∀ c ∈ cs, ¬ c < 0 ∧ ¬ (65535 : Int32) < c) (l2 : cs.length ≤ 4000) :
    ∃ A, Txt x t A cd cs.length (fun j => cs.getD j 0) U := by
  obtain ⟨A, K1, K2, K3, K4, K5, K6⟩ := K
  have hcod := hc.cod (by omega) K3 K5
  obtain ⟨D, fV, fC, hB, F1, F2, g1, g2, -, -⟩ := strObj wi al E V C
  exact ⟨A, ⟨_, hB.2.2.1, D, hB.1, rfl, by cases q : D.vm <;> first | rfl | exact absurd q (hB.2.1.2 _)⟩, Has.of hB F1 g1, Has.of hB F2 g2, ⟨K1.1, State.isArrayOf_alike al K1.2.1, K1.2.2, by rcases hcod with ⟨-, q, -⟩ | ⟨-, q, -⟩ <;> omega⟩, hcod, fun j hj => by
    have e : cs.getD j 0 = cs[j] := by simp [List.getD_eq_getElem?_getD, hj]
    show ¬ cs.getD j 0 < 0 ∧ ¬ 65535 < cs.getD j 0
    rw [e]; exact hb _ (List.getElem_mem _)⟩
end StrChars.Road
namespace StrChars
open Jvm Sem ClassFile Op Lib Jvm.Stand Jvm.Free.XT Jvm.Free.ALB Jvm.Free.JM Jvm.Free
open Jvm.Lib.Cold (StaticIs)
namespace ChN
def yN : MethodName := ⟨"java/lang/String", "charAt", "(I)C"⟩
abbrev yB : ByteArray := jdk_42_method_56_code
theorem d0 : decode yB 0 = .ok (.aload_n 0, 1) := by decide +kernel
theorem d1 : decode yB 1 = .ok (.invokevirtual 492, 3) := by decide +kernel
theorem d4 : decode yB 4 = .ok (.ifCond (.eq) 12, 3) := by decide +kernel
theorem d7 : decode yB 7 = .ok (.aload_n 0, 1) := by decide +kernel
theorem d8 : decode yB 8 = .ok (.getfield 9, 3) := by decide +kernel
theorem d11 : decode yB 11 = .ok (.iload_n 1, 1) := by decide +kernel
theorem d12 : decode yB 12 = .ok (.invokestatic 495, 3) := by decide +kernel
theorem d15 : decode yB 15 = .ok (.ireturn, 1) := by decide +kernel
def site : List Cond := [.fieldLink "java/lang/String" 9 "java/lang/String" "value" "[B", IsL.tab, LChA.tab] ++ virtW "java/lang/String" 492 "java/lang/String" IsL.yN IsL.yN ++ staticW "java/lang/String" 495 LChA.yN
def tab : Cond := tabOf yN yB 2 (some .char) site
def P (x t : Addr) (V : Cell) (n : Nat) (f : Nat → Int32) (z : Int32) (fm : Value) (i : Nat) (args : Array Value) (s : State) : Prop := args = #[.ref x, .int (Int32.ofNat i)] ∧ Txt x t V 0 n f s ∧ i < n ∧ StaticIs s "java/lang/String" "COMPACT_STRINGS" "Z" (.int z) ∧ ¬ z = 0 ∧ StaticIs s "jdk/internal/util/Preconditions" "SIOOBE_FORMATTER" "Ljava/util/function/BiFunction;" fm ∧ fm.isRef = true
def E (f : Nat → Int32) (i : Nat) (r : Option Value) (s u : State) : Prop := XT.PureE (some (.int (f i))) r s u
/-- charAt(i) of a Latin-1 String of n chars, i < n: f i -/
theorem law (l : Launch) (x t : Addr) (V : Cell) (n : Nat) (f : Nat → Int32) (z : Int32) (fm : Value) (i : Nat) : Law l yN 2 1 3 40 yB 2 (some .char) site (P x t V n f z fm i) (E f i) [] 0 0 := by
  refine Law.of_walk (plainFor_of_name (by decide +kernel)) (by decide +kernel) (by decide +kernel) (by decide) (fun _ _ h => by rw [h.1]; rfl) (fun _ U U' hal hh h => ⟨h.1, h.2.1.mv hal hh, h.2.2.1, h.2.2.2.1.there hal hh, h.2.2.2.2.1, h.2.2.2.2.2.1.there hal hh, h.2.2.2.2.2.2⟩) (fun r U U' V V' h1 hal h2 h => XT.PureE.mv r U U' V V' h1 hal h2 h) ?_
  intro p e s m args below meth c s₁ X0 hexec hbytes hml hret hlk hnm hown hh0 W hP
  obtain ⟨rfl, hx, hi, s1, hz, s3, rf⟩ := hP
  have v31 := hx.2.2.2.1.2.2.2
  have hr := hx.2.2.2.2.2 i hi
  have hx0 := hx.mv X0.warmed.alike hh0
  have c1 : Steps p.tables e below (s₁.setTop (entryFrame m #[.ref x, .int (Int32.ofNat i)] 2)) (s₁.setTop (mkF m 1 #[.val (.ref x), .val (.int (Int32.ofNat i))] [.ref x])) := Steps.trans (entry rfl) (by
    show Steps p.tables e below (s₁.setTop (mkF m 0 #[.val (.ref x), .val (.int (Int32.ofNat i))] [])) _
    refine XS.aloadN X0.here hexec rfl (hb hbytes d0) rfl rfl ?_
    exact Steps.refl _)
  obtain ⟨v2, T2, X2, E2, g2⟩ := X0.callV hexec (IsL.law l x 0 z) hown (wks W (virtW "java/lang/String" 492 "java/lang/String" IsL.yN IsL.yN)) rfl (by decide) (wk W IsL.tab) (W := 0) (Nat.le_of_ble_eq_true rfl) (Nat.le_of_ble_eq_true rfl) (Nat.le_refl _) (Nat.le_refl _) (hx0.1.fc X0.warmed.alike) hx0.1.is (g := (mkF m 1 #[.val (.ref x), .val (.int (Int32.ofNat i))] [.ref x])) rfl (by rw [hml]; rfl) c1 (argsL := []) (rest := []) rfl rfl (by show 2 * 0 + 0 ≤ _; decide) (hb hbytes d1) (⟨rfl, hx0.2.2.1, hx.2.2.2.2.1.cd, s1.there X0.warmed.alike hh0, hz⟩)
  obtain ⟨rfl, q2⟩ := E2
  have hh2 := q2.trans hh0
  have hx2 := hx.mv X2.warmed.alike hh2
  obtain ⟨-, k1, k2⟩ | ⟨k0, -⟩ := hx.2.2.2.2.1
  · have c3 : Steps p.tables e below (s₁.setTop (entryFrame m #[.ref x, .int (Int32.ofNat i)] 2)) (T2.setTop (mkF m 8 #[.val (.ref x), .val (.int (Int32.ofNat i))] [.ref x])) := Steps.trans g2 (by
      refine XS.ifNo X2.here hexec rfl (hb hbytes d4) rfl (i0_eq_f (by decide)) ?_
      refine XS.aloadN X2.here hexec rfl (hb hbytes d7) rfl rfl ?_
      exact Steps.refl _)
    obtain ⟨T4, X4, q4, st4⟩ := X2.hget hexec hown (wk W (.fieldLink "java/lang/String" 9 "java/lang/String" "value" "[B")) hx2.2.1 (g := (mkF m 8 #[.val (.ref x), .val (.int (Int32.ofNat i))] [.ref x])) rfl (rest := []) rfl (hb hbytes d8)
    have hh4 := q4.trans hh2
    have c5 : Steps p.tables e below (s₁.setTop (entryFrame m #[.ref x, .int (Int32.ofNat i)] 2)) (T4.setTop (mkF m 12 #[.val (.ref x), .val (.int (Int32.ofNat i))] [.int (Int32.ofNat i), .ref t])) := (c3.trans (st4 _ (Steps.refl _))).trans (by
      refine XS.iloadN X4.here hexec rfl (hb hbytes d11) rfl ?_
      exact Steps.refl _)
    obtain ⟨v6, T6, X6, E6, g6⟩ := X4.callS hexec (LChA.law l t V i (lo8 (f i)) fm) hown (wks W (staticW "java/lang/String" 495 LChA.yN)) (wk W LChA.tab) (W := 0) (Nat.le_of_ble_eq_true rfl) (Nat.le_of_ble_eq_true rfl) (Nat.le_refl _) (Nat.le_refl _) (g := (mkF m 12 #[.val (.ref x), .val (.int (Int32.ofNat i))] [.int (Int32.ofNat i), .ref t])) rfl (by rw [hml]; rfl) c5 (argsL := [.ref t, .int (Int32.ofNat i)]) (rest := []) rfl rfl (by show 2 * 0 + 0 ≤ _; decide) (hb hbytes d12) (⟨rfl, hx.2.2.2.1.mv X4.warmed.alike hh4, (k2 i hi).1, s3.there X4.warmed.alike hh4, rf⟩)
    obtain ⟨rfl, q6⟩ := E6
    rw [chr8_lo8 hr.1 (k2 i hi).2] at g6
    exact ⟨T6, some (.int (f i)), _, _, _, X6, rfl, rfl, rfl, (fun h => by cases h), ⟨rfl, q6.trans hh4⟩, fun fs hl => Steps.trans g6 (X6.ireturnOut hexec hret (narrow_ch hr.1 hr.2) (Or.inr (Or.inr (Or.inr (Or.inl rfl)))) (hb hbytes d15) hl)⟩
  · exact absurd k0 (by decide)
theorem pays {l : Launch} {R : Room} {p : Program} {e : Env} {below : List Frame} {s : State} {sargs : Array Value} {len W : Nat} (x t : Addr) (V : Cell) (n : Nat) (f : Nat → Int32) (z : Int32) (fm : Value) (i : Nat) (htab : tab.before sargs s = true) (hfr : 4 ≤ R.frames) (hlo : W + 53 ≤ R.locals) :
    Back l R p e below s sargs yN len W (fun A₁ a₁ => A₁.cells + 0 ≤ R.cells ∧ A₁.slots + 0 ≤ R.slots ∧ P x t V n f z fm i a₁ A₁.U) (fun A₁ _ v₁ B₁ => E f i v₁ A₁.U B₁.U ∧ B₁.locs = A₁.locs ++ [] ∧ B₁.cells = A₁.cells + 0 ∧ B₁.slots = A₁.slots + 0) :=
  (law l x t V n f z fm i).pays htab hfr (by omega)
end ChN
end StrChars
namespace StrChars.Road
open Jvm Sem ClassFile Op Lib Jvm.Stand Jvm.Free Jvm.Free.XT
open Jvm.Lib.Cold (StaticIs)
/-- the words of String.charAt(int), the Latin-1 road alone -/
abbrev wordsChN : List Jvm.Cond := [.code ChN.yN ChN.yB 2 (some .char), .initialized ST, .fieldLink ST 9 ST "value" "[B", .fieldLink ST 38 ST "COMPACT_STRINGS" "Z", .fieldLink ST 15 ST "coder" "B", .code IsL.yN IsL.yB 1 (some .boolean), .methodLink ST 492 IsL.yN, .declares IsL.yN, .selects ST IsL.yN IsL.yN, .instanceMethod IsL.yN,
  .methodLink ST 495 LChA.yN, .static LChA.yN, .code LChA.yN LChA.yB 2 (some .char), .initialized "java/lang/StringLatin1", .methodLink "java/lang/StringLatin1" 9 JO.Str_checkIndex.yN, .static JO.Str_checkIndex.yN, .code JO.Str_checkIndex.yN JO.Str_checkIndex.yB 2 none,
  .fieldLink ST 1053 "jdk/internal/util/Preconditions" "SIOOBE_FORMATTER" "Ljava/util/function/BiFunction;", .methodLink ST 1059 JC.PreCheck.yN, .static JC.PreCheck.yN, .code JC.PreCheck.yN JC.PreCheck.yB 3 (some .int), .initialized "jdk/internal/util/Preconditions"]
theorem tabChN_of {a : Array Value} {s : State} (h : ∀ w ∈ wordsChN, w.before a s = true) : ChN.tab.before a s = true := by
  have hp : JC.PreCheck.tab.before a s = true := unparts (wk h (.code JC.PreCheck.yN JC.PreCheck.yB 3 (some .int))) (wks h (.initialized JC.PreCheck.yN.cls :: JC.PreCheck.site))
  have qk := consq hp h
  have hk : JO.Str_checkIndex.tab.before a s = true := unparts (wk qk (.code JO.Str_checkIndex.yN JO.Str_checkIndex.yB 2 none)) (wks qk (.initialized JO.Str_checkIndex.yN.cls :: JO.Str_checkIndex.site))
  have ql := consq hk h
  have hl : LChA.tab.before a s = true := unparts (wk ql (.code LChA.yN LChA.yB 2 (some .char))) (wks ql (.initialized LChA.yN.cls :: LChA.site))
  have hi : IsL.tab.before a s = true := unparts (wk h (.code IsL.yN IsL.yB 1 (some .boolean))) (wks h (.initialized IsL.yN.cls :: IsL.site))
  have q := consq hi (consq hl h)
  exact unparts (wk q (.code ChN.yN ChN.yB 2 (some .char))) (wks q (.initialized ChN.yN.cls :: ChN.site))
theorem movedChN {Z s : State} {a0 args : Array Value} (hZ : Z.Warmed39 s.vm) (hw : ∀ d ∈ wordsChN, d.before a0 Z = true) : ∀ d ∈ wordsChN, d.before args s = true := fun d hd => by
  have t : ∀ d ∈ wordsChN, (d.onTables && d.keepsFace) = true := by decide +kernel
  exact RoadKit.mv hZ (hw d hd) (t d hd)
/-- **charAt(i) OF A LATIN-1 STRING**, i < n: the char -/
theorem chN {p : Program} {l : Launch} {e : Env} {R : Room} {s : State} {args : Array Value} {below : List Frame} {len W : Nat} {Z : State} {a0 : Array Value} {h : Heap} (hZ : Z.Warmed39 s.vm) (hw : ∀ d ∈ wordsChN, d.before a0 Z = true) {kI : Nat} (wi : (Jvm.Cond.instantiable ST kI).before a0 Z = true)
    {x t : Addr} {kb : ClassId} {cs : List Int32} {N2 z : Int32} {vs : List Value} {fm : Value} {i : Nat} {j : Int32} (E : RoadKit.Exa Z h x ST) (V : RoadKit.Fld Z h x ST "value" "[B" (.ref t)) (C : RoadKit.Fld Z h x ST "coder" "B" (.int 0)) (K : RoadKit.Arv Z h t kb .byte N2 vs (.int 0)) (hc : CodA cs 0 N2 vs) (hb : ∀ c ∈ cs, ¬ c < 0 ∧ ¬ (65535 : Int32) < c)
    (S : RoadKit.Sta Z h ST "COMPACT_STRINGS" "Z" (.int z)) (hz : ¬ z = 0) (F : RoadKit.Sta Z h "jdk/internal/util/Preconditions" "SIOOBE_FORMATTER" "Ljava/util/function/BiFunction;" fm) (rf : fm.isRef = true) (l2 : cs.length ≤ 4000) (hi : i < cs.length) (hj : j = Int32.ofNat i) (hfr : 4 ≤ R.frames) (hlo : W + 53 ≤ R.locals) :
    Back l R p e below s args (⟨"java/lang/String", "charAt", "(I)C"⟩ : MethodName) len W (fun P a => a = #[.ref x, .int j] ∧ P.U.heap = h ∧ P.cells + 0 ≤ R.cells ∧ P.slots + 0 ≤ R.slots)
      (fun P _ v B => ∃ L, (v = some (.int (cs.getD i 0)) ∧ L = [] ∧ B.U.heap = h) ∧ B.locs = P.locs ++ L ∧ B.cells = P.cells + 0 ∧ B.slots = P.slots + 0) := by
  subst hj
  intro m meth c P g ig mk a X hg hsize hdg hW hn hp'
  obtain ⟨rfl, rfl, r1, r2⟩ := hp'
  have al : Z.vm.Alike P.U.vm := hZ.alike.trans X.warmed.alike
  obtain ⟨A, hx⟩ := txt_of wi al E V C K hc hb l2
  obtain ⟨v, B, X', ⟨⟨hv, hh⟩, hl, hk, hs⟩, st⟩ := ChN.pays x t A cs.length (fun j => cs.getD j 0) z fm i (tabChN_of (movedChN hZ hw)) hfr hlo m meth c P g ig mk _ X hg hsize hdg hW hn ⟨r1, r2, rfl, hx, hi, sta_is al S, hz, sta_is al F, rf⟩
  exact ⟨v, B, X', ⟨[], ⟨hv, rfl, hh⟩, hl, hk, hs⟩, st⟩
/-- what backV says of its String, as the contracts of this text ask it: cs's low bytes, coder 0 -/
theorem codOf {cs : List Int32} {n : Nat} (hn : cs.length = n) (hb : ∀ c ∈ cs, ¬ 255 < c) : CodA cs 0 (Int32.ofNat n) ((cs.map lo8).map Value.int) := Or.inl ⟨rfl, by rw [hn], by simp [List.map_map, Function.comp_def], hb⟩
end StrChars.Road
end Jvm.Pilot.@@N@@
namespace Jvm.RoadKit
open Sem ClassFile Op Lib Jvm.Stand Jvm.Free Jvm.LawKit
section New
variable {p : Program} {l : Launch} {e : Env} {R : Room} {s : State} {m : MethodId} {args : Array Value} {below : List Frame} {meth : Method} {c : Code} {T : State} {locs : List Loc} {cells slots : Nat}
theorem retI (X : Stand p l e R s m args below meth c T locs cells slots) (hx : p.tables.exec = Jvm.exec) {pc : Nat} {Ls : Array Slot} {z : Int32} {rest : List Value} (hret : meth.sig.returnType = some .int) (hd : decode c.code pc = .ok (.ireturn, 1)) {fs : List Frame}
    (hl : ∀ (f : JFrame) (acts : List Action), f.method = m → f.locked = none → f.entered = [] → (doReturn e (T.setTop f) acts (some (.int z))).1 = T.setFrames fs) : Steps p.tables e below (T.setTop (mkF m pc Ls (.int z :: rest))) (T.setFrames fs) := by
  have hm' : T.vm.method? m = some meth := X.method'
  have hn : narrow .int (.int z) = .int z := rfl
  show Steps p.tables e below (T.setTop { method := m, pc := pc, locals := Ls, stack := _ :: rest, locked := none }) _
  jvm_step X.here [X.here.top, hx, hd, hm', hret, hn]
  first | (intro acts; rw [hl _ acts rfl rfl rfl]) | rw [hl _ _ rfl rfl rfl]
  exact Steps.refl _
end New
end Jvm.RoadKit
namespace Jvm.Pilot.@@N@@
open Jvm Jvm.ClassFile Sem Op Lib Jvm.Free Jvm.Stand Jvm.LawKit Jvm.RoadKit Bundle Jvm.Pilot.@@N@@.Jvm.D
def QP (r : Option Value) (h0 : Heap) (n0 : Nat) (v : Option Value) (h : Heap) (L : List Loc) : Prop := v = r ∧ Fr n0 L ∧ h = h0
def Ctx (p : Program) (s : State) (m : MethodId) (meth : Method) (c : Code) (Z : State) (a0 : Array Value) (own : String) (bytes : ByteArray) (ml : Nat) (rt : Option FieldType) (name : String) : Prop :=
  p.tables.exec = Jvm.exec ∧ Z.Warmed39 s.vm ∧ (∀ d ∈ tables_1, d.before a0 Z = true) ∧ c.code = bytes ∧ c.maxLocals = ml ∧ s.vm.findClass own = some m.cls ∧ meth.sig.returnType = rt ∧ meth.locks = false ∧ meth.name = name
/-- from T with the frame g on top the run comes to a return, of which Φ holds -/
def Runs (p : Program) (e : Env) (below : List Frame) (s : State) (Φ : Option Value → Heap → List Loc → Prop) (k n : Nat) (T : State) (g : JFrame) : Prop :=
  ∃ s₂ o, Steps p.tables e below (T.setTop g) s₂ ∧ s₂.status = .running ∧ Ended s₂ below o ∧ ∃ v L, o = .returned v ∧ Φ v s₂.heap L ∧ FrameEnd s o s₂ L k n
section Own
variable {p : Program} {l : Launch} {e : Env} {R : Room} {s : State} {m : MethodId} {args : Array Value} {below : List Frame} {meth : Method} {c : Code} {T T' T0 Z : State} {a0 : Array Value} {locs : List Loc} {cells slots k n n0 : Nat} {h0 : Heap} {g g' : JFrame} {Φ : Option Value → Heap → List Loc → Prop}
theorem Runs.via (h : ∀ t, Steps p.tables e below (T'.setTop g') t → Steps p.tables e below (T.setTop g) t) (r : Runs p e below s Φ k n T' g') : Runs p e below s Φ k n T g := by
  obtain ⟨s₂, o, h1, r⟩ := r
  exact ⟨s₂, o, h _ h1, r⟩
theorem QP.cast {r r' : Option Value} (h : r = r') (H : Runs p e below s (QP r' h0 n0) k n T g) : Runs p e below s (QP r h0 n0) k n T g := by rw [h]; exact H
theorem own_retI (X : Stand p l e R s m args below meth c T locs cells slots) (hx : p.tables.exec = Jvm.exec) (hlk : meth.locks = false) (hret : meth.sig.returnType = some .int) {pc : Nat} {Ls : Array Slot} {z : Int32} {rest : List Value} (hd : decode c.code pc = .ok (.ireturn, 1)) (hk : cells ≤ k) (hn : slots ≤ n) (hΦ : Φ (some (.int z)) T.heap locs) :
    Runs p e below s Φ k n T (mkF m pc Ls (.int z :: rest)) := by
  obtain ⟨fs, hr, hrun, hended, hW, hsame⟩ := X.leave (v := some (.int z)) (fun h => by rw [hret] at h; cases h) hlk
  exact ⟨_, _, retI X hx hret hd hr, hrun, hended, _, _, rfl, hΦ, ⟨_, rfl⟩, hW, hsame.mono hk hn⟩
theorem own_retN (X : Stand p l e R s m args below meth c T locs cells slots) (hx : p.tables.exec = Jvm.exec) (hlk : meth.locks = false) {t : FieldType} (hret : meth.sig.returnType = some t) (ht : t = .boolean ∨ t = .byte ∨ t = .char ∨ t = .short) {pc : Nat} {Ls : Array Slot} {z : Int32} {rest : List Value} (hd : decode c.code pc = .ok (.ireturn, 1)) (hk : cells ≤ k) (hn : slots ≤ n) (hΦ : Φ (some (.int (nar t z))) T.heap locs) :
    Runs p e below s Φ k n T (mkF m pc Ls (.int z :: rest)) := by
  obtain ⟨fs, hr, hrun, hended, hW, hsame⟩ := X.leave (v := some (.int (nar t z))) (fun h => by rw [hret] at h; cases h) hlk
  exact ⟨_, _, retN X hx hret ht hd hr, hrun, hended, _, _, rfl, hΦ, ⟨_, rfl⟩, hW, hsame.mono hk hn⟩
theorem own_retJ (X : Stand p l e R s m args below meth c T locs cells slots) (hx : p.tables.exec = Jvm.exec) (hlk : meth.locks = false) (hret : meth.sig.returnType = some .long) {pc : Nat} {Ls : Array Slot} {z : Int64} (hd : decode c.code pc = .ok (.lreturn, 1)) (hk : cells ≤ k) (hn : slots ≤ n) (hΦ : Φ (some (.long z)) T.heap locs) :
    Runs p e below s Φ k n T (mkF m pc Ls [.long z]) := by
  obtain ⟨fs, hr, hrun, hended, hW, hsame⟩ := X.leave (v := some (.long z)) (fun h => by rw [hret] at h; cases h) hlk
  exact ⟨_, _, X.lreturnOut hx hret hd hr, hrun, hended, _, _, rfl, hΦ, ⟨_, rfl⟩, hW, hsame.mono hk hn⟩
theorem own_privSel {s : State} {args : Array Value} {y : MethodName} {n : Nat} (hwi : (Cond.instantiable y.cls n).before args s = true) (hp : (Cond.privateMethod y).before args s = true) (hinst : (Cond.instanceMethod y).before args s = true) (hy : y.cls ≠ "java/lang/invoke/MethodHandle" ∧ y.cls ≠ "java/lang/invoke/VarHandle") : (Cond.selects y.cls y y).before args s = true := by
  obtain ⟨c, k, h1, h2, h3, h4, -⟩ := Cond.instantiable_spec hwi
  exact selects_self_of_private h1 h2 (by simp only [Bool.or_eq_false_iff] at h4; exact h4.1) (Cond.privateMethod_at hp) hinst hy
theorem own_retV (X : Stand p l e R s m args below meth c T locs cells slots) (hx : p.tables.exec = Jvm.exec) (hlk : meth.locks = false) (hret : meth.sig.returnType = none) {pc : Nat} {Ls : Array Slot} (hd : decode c.code pc = .ok (.return_, 1)) (hk : cells ≤ k) (hn : slots ≤ n) (hΦ : Φ none T.heap locs) :
    Runs p e below s Φ k n T (mkF m pc Ls []) := by
  obtain ⟨fs, hr, hrun, hended, hW, hsame⟩ := X.leave (v := none) (fun _ => rfl) hlk
  exact ⟨_, _, X.returnOut hx hret hd hr, hrun, hended, _, _, rfl, hΦ, ⟨_, rfl⟩, hW, hsame.mono hk hn⟩
theorem own_retR (X : Stand p l e R s m args below meth c T locs cells slots) (hx : p.tables.exec = Jvm.exec) (hlk : meth.locks = false) {t : FieldType} (hret : meth.sig.returnType = some t) (ht : t.isReference = true) {pc : Nat} {Ls : Array Slot} {a : Addr} {rest : List Value} (hd : decode c.code pc = .ok (.areturn, 1)) (hk : cells ≤ k) (hn : slots ≤ n) (hΦ : Φ (some (.ref a)) T.heap locs) :
    Runs p e below s Φ k n T (mkF m pc Ls (.ref a :: rest)) := by
  obtain ⟨fs, hr, hrun, hended, hW, hsame⟩ := X.leave (v := some (.ref a)) (fun h => by rw [hret] at h; cases h) hlk
  exact ⟨_, _, retOut X hx hret (by cases t <;> first | rfl | (cases ht; done)) (Or.inr (Or.inr (Or.inr (Or.inr ⟨rfl, ht, rfl⟩)))) hd hr, hrun, hended, _, _, rfl, hΦ, ⟨_, rfl⟩, hW, hsame.mono hk hn⟩
theorem bindE {α β : Type} {G : Prop} {x : Option α} {k : α → Option β} {r : β} (hr : x.bind k = some r) (H : ∀ v, x = some v → k v = some r → G) : G := by
  cases x with
  | none => exact nomatch hr
  | some v => exact H v rfl hr
def letO {α β : Type} (x : α) (k : α → β) : β := k x
theorem letE {α β : Type} {G : Prop} {x : α} {k : α → Option β} {r : β} (hr : letO x k = some r) (H : ∀ v, v = x → k v = some r → G) : G := H x rfl hr
theorem iteE {β : Type} {G P : Prop} [Decidable P] {a b : Option β} {r : β} (hr : (if P then a else b) = some r) (H1 : P → a = some r → G) (H2 : ¬ P → b = some r → G) : G := by
  by_cases h : P
  · rw [if_pos h] at hr; exact H1 h hr
  · rw [if_neg h] at hr; exact H2 h hr
/-- an array's place, a store, its length, a new array -/
def rdO {α : Type} (xs : List α) (j : Int32) : Option α := if j < 0 then none else xs[j.toNatClampNeg]?
def wrO {α : Type} (xs : List α) (j : Int32) (v : α) : Option (List α) := if j < 0 ∨ xs.length ≤ j.toNatClampNeg then none else some (xs.set j.toNatClampNeg v)
def lenO {α : Type} (xs : List α) : Int32 := xs.length.toInt32
def mkO (n : Int32) (cap : Nat) : Option (List Int32) := if n < 0 ∨ cap < n.toNatClampNeg then none else some (List.replicate n.toNatClampNeg 0)
def mkOJ (n : Int32) (cap : Nat) : Option (List Int64) := if n < 0 ∨ cap < n.toNatClampNeg then none else some (List.replicate n.toNatClampNeg 0)
def AI (Z : State) (h : Heap) (a : Addr) (ty : FieldType) (xs : List Int32) : Prop := ∃ c : Cell, Arr Z h a c ty ∧ c.slots = (xs.map Value.int).toArray
def AJ (Z : State) (h : Heap) (a : Addr) (ty : FieldType) (xs : List Int64) : Prop := ∃ c : Cell, Arr Z h a c ty ∧ c.slots = (xs.map Value.long).toArray
section Arrs
variable {p : Program} {l : Launch} {e : Env} {R : Room} {s : State} {m : MethodId} {args : Array Value} {below : List Frame} {meth : Method} {c : Code} {T Z : State} {a0 : Array Value} {locs : List Loc} {cells slots : Nat} {h h' : Heap} {a b : Addr} {ty : FieldType} {sl : Nat} {v : Value} {ws : List Addr}
theorem AI.lt {xs : List Int32} (F : AI Z h a ty xs) : a < h.size := by obtain ⟨c, A, -⟩ := F; exact A.lt
theorem AI.ext {xs : List Int32} (F : AI Z h a ty xs) (E : Ext h h') : AI Z h' a ty xs := by obtain ⟨c, A, q⟩ := F; exact ⟨c, A.ext E, q⟩
theorem AI.other {xs : List Int32} (F : AI Z h b ty xs) (W : Wr h h' a sl v) (q : b ≠ a) : AI Z h' b ty xs := by obtain ⟨c, A, r⟩ := F; exact ⟨c, A.other W q, r⟩
theorem AI.keep {xs : List Int32} (F : AI Z h a ty xs) (K : Keep h h' ws) (q : a ∉ ws) : AI Z h' a ty xs := by obtain ⟨c, A, r⟩ := F; exact ⟨c, ⟨K.2.1 a c A.1 q, A.2⟩, r⟩
theorem AJ.lt {xs : List Int64} (F : AJ Z h a ty xs) : a < h.size := by obtain ⟨c, A, -⟩ := F; exact A.lt
theorem AJ.ext {xs : List Int64} (F : AJ Z h a ty xs) (E : Ext h h') : AJ Z h' a ty xs := by obtain ⟨c, A, q⟩ := F; exact ⟨c, A.ext E, q⟩
theorem AJ.other {xs : List Int64} (F : AJ Z h b ty xs) (W : Wr h h' a sl v) (q : b ≠ a) : AJ Z h' b ty xs := by obtain ⟨c, A, r⟩ := F; exact ⟨c, A.other W q, r⟩
theorem AJ.keep {xs : List Int64} (F : AJ Z h a ty xs) (K : Keep h h' ws) (q : a ∉ ws) : AJ Z h' a ty xs := by obtain ⟨c, A, r⟩ := F; exact ⟨c, ⟨K.2.1 a c A.1 q, A.2⟩, r⟩
theorem rd_at {α : Type} {f : α → Value} {xs : List α} {j : Int32} {z : α} {cl : Cell} (q : cl.slots = (xs.map f).toArray) (hr : rdO xs j = some z) : ¬ (j < 0 ∨ cl.slots.size ≤ j.toNatClampNeg) ∧ cl.slots[j.toNatClampNeg]? = some (f z) := by
  unfold rdO at hr
  by_cases hj : j < 0
  · rw [if_pos hj] at hr; exact nomatch hr
  · rw [if_neg hj] at hr
    obtain ⟨hi, he⟩ := List.getElem?_eq_some_iff.mp hr
    rw [q]
    refine ⟨?_, by simp [hr]⟩
    rintro (h1 | h1)
    · exact hj h1
    · simp at h1; omega
theorem wr_at2 {α : Type} {f : α → Value} {xs xs' : List α} {j : Int32} {z : α} {cl : Cell} (q : cl.slots = (xs.map f).toArray) (hr : wrO xs j z = some xs') : ¬ (j < 0 ∨ cl.slots.size ≤ j.toNatClampNeg) ∧ (cl.setSlot j.toNatClampNeg (f z)).slots = (xs'.map f).toArray := by
  unfold wrO at hr
  by_cases hj : j < 0 ∨ xs.length ≤ j.toNatClampNeg
  · rw [if_pos hj] at hr; exact nomatch hr
  · rw [if_neg hj] at hr
    obtain rfl := Option.some.inj hr
    refine ⟨by rw [q]; simpa using hj, ?_⟩
    simp only [Cell.setSlot, q]
    simp [List.map_set]
theorem ldI (X : Stand p l e R s m args below meth c T locs cells slots) (hx : p.tables.exec = Jvm.exec) (hZ : Z.Warmed39 s.vm) (eT : T.heap = h) {xs : List Int32} (A : AI Z h a .int xs) {j z : Int32} (hr : rdO xs j = some z) {g : JFrame} (hg : g.method = m) {rest : List Value} (hs : g.stack = .int j :: .ref a :: rest) (hd : decode c.code g.pc = .ok (.iaload, 1)) :
    ∀ target, Steps p.tables e below (T.setTop { g with pc := g.pc + 1, stack := .int z :: rest }) target → Steps p.tables e below (T.setTop g) target := by
  obtain ⟨cl, A, q⟩ := A
  obtain ⟨h1, h2⟩ := rd_at q hr
  exact X.iaload hx (j := j) (v := .int z) (by rw [eT]; exact A.1) (State.isArrayOf_alike hZ.alike A.2.1) A.2.2 h1 h2 hg hs hd
theorem ldB (X : Stand p l e R s m args below meth c T locs cells slots) (hx : p.tables.exec = Jvm.exec) (hZ : Z.Warmed39 s.vm) (eT : T.heap = h) {xs : List Int32} (A : AI Z h a .byte xs) {j z : Int32} (hr : rdO xs j = some z) {g : JFrame} (hg : g.method = m) {rest : List Value} (hs : g.stack = .int j :: .ref a :: rest) (hd : decode c.code g.pc = .ok (.baload, 1)) :
    ∀ target, Steps p.tables e below (T.setTop { g with pc := g.pc + 1, stack := .int z :: rest }) target → Steps p.tables e below (T.setTop g) target := by
  obtain ⟨cl, A, q⟩ := A
  obtain ⟨h1, h2⟩ := rd_at q hr
  exact X.baloadBytes hx (j := j) (v := .int z) (by rw [eT]; exact A.1) (State.isArrayOf_alike hZ.alike A.2.1) A.2.2 h1 h2 hg hs hd
theorem ldJ (X : Stand p l e R s m args below meth c T locs cells slots) (hx : p.tables.exec = Jvm.exec) (hZ : Z.Warmed39 s.vm) (eT : T.heap = h) {xs : List Int64} (A : AJ Z h a .long xs) {j : Int32} {z : Int64} (hr : rdO xs j = some z) {g : JFrame} (hg : g.method = m) {rest : List Value} (hs : g.stack = .int j :: .ref a :: rest) (hd : decode c.code g.pc = .ok (.laload, 1)) :
    ∀ target, Steps p.tables e below (T.setTop { g with pc := g.pc + 1, stack := .long z :: rest }) target → Steps p.tables e below (T.setTop g) target := by
  obtain ⟨cl, A, q⟩ := A
  obtain ⟨h1, h2⟩ := rd_at q hr
  exact X.laload hx (j := j) (v := .long z) (by rw [eT]; exact A.1) (State.isArrayOf_alike hZ.alike A.2.1) A.2.2 h1 h2 hg hs hd
theorem soI (X : Stand p l e R s m args below meth c T locs cells slots) (hx : p.tables.exec = Jvm.exec) (hZ : Z.Warmed39 s.vm) (eT : T.heap = h) {xs xs' : List Int32} (A : AI Z h a .int xs) {j z : Int32} (hr : wrO xs j z = some xs') {g : JFrame} (hg : g.method = m) {rest : List Value} (hs : g.stack = .int z :: .int j :: .ref a :: rest) (hd : decode c.code g.pc = .ok (.iastore, 1)) :
    ∃ T' h', Stand p l e R s m args below meth c T' (locs ++ [⟨a, j.toNatClampNeg⟩]) cells slots ∧ T'.heap = h' ∧ Wr h h' a j.toNatClampNeg (.int z) ∧ AI Z h' a .int xs' ∧ ∀ target, Steps p.tables e below (T'.setTop { g with pc := g.pc + 1, stack := rest }) target → Steps p.tables e below (T.setTop g) target := by
  obtain ⟨cl, A, q⟩ := A
  obtain ⟨h1, h2⟩ := wr_at2 q hr
  obtain ⟨T', h', X', e', W, st⟩ := stI X hx hZ eT A h1 hg hs hd
  exact ⟨T', h', X', e', W, ⟨_, A.same W, h2⟩, st⟩
theorem soB (X : Stand p l e R s m args below meth c T locs cells slots) (hx : p.tables.exec = Jvm.exec) (hZ : Z.Warmed39 s.vm) (eT : T.heap = h) {xs xs' : List Int32} (A : AI Z h a .byte xs) {j z : Int32} (hr : wrO xs j (z.toInt8.toInt32) = some xs') {g : JFrame} (hg : g.method = m) {rest : List Value} (hs : g.stack = .int z :: .int j :: .ref a :: rest) (hd : decode c.code g.pc = .ok (.bastore, 1)) :
    ∃ T' h', Stand p l e R s m args below meth c T' (locs ++ [⟨a, j.toNatClampNeg⟩]) cells slots ∧ T'.heap = h' ∧ Wr h h' a j.toNatClampNeg (.int (z.toInt8.toInt32)) ∧ AI Z h' a .byte xs' ∧ ∀ target, Steps p.tables e below (T'.setTop { g with pc := g.pc + 1, stack := rest }) target → Steps p.tables e below (T.setTop g) target := by
  obtain ⟨cl, A, q⟩ := A
  obtain ⟨h1, h2⟩ := wr_at2 q hr
  obtain ⟨T', h', X', e', W, st⟩ := stB X hx hZ eT A h1 hg hs hd
  exact ⟨T', h', X', e', W, ⟨_, A.same W, h2⟩, st⟩
theorem soJ (X : Stand p l e R s m args below meth c T locs cells slots) (hx : p.tables.exec = Jvm.exec) (hZ : Z.Warmed39 s.vm) (eT : T.heap = h) {xs xs' : List Int64} (A : AJ Z h a .long xs) {j : Int32} {z : Int64} (hr : wrO xs j z = some xs') {g : JFrame} (hg : g.method = m) {rest : List Value} (hs : g.stack = .long z :: .int j :: .ref a :: rest) (hd : decode c.code g.pc = .ok (.lastore, 1)) :
    ∃ T' h', Stand p l e R s m args below meth c T' (locs ++ [⟨a, j.toNatClampNeg⟩]) cells slots ∧ T'.heap = h' ∧ Wr h h' a j.toNatClampNeg (.long z) ∧ AJ Z h' a .long xs' ∧ ∀ target, Steps p.tables e below (T'.setTop { g with pc := g.pc + 1, stack := rest }) target → Steps p.tables e below (T.setTop g) target := by
  obtain ⟨cl, A, q⟩ := A
  obtain ⟨h1, h2⟩ := wr_at2 q hr
  obtain ⟨T', h', X', e', W, st⟩ := stJ X hx hZ eT A h1 hg hs hd
  exact ⟨T', h', X', e', W, ⟨_, A.same W, h2⟩, st⟩
theorem lenAI (X : Stand p l e R s m args below meth c T locs cells slots) (hx : p.tables.exec = Jvm.exec) (hZ : Z.Warmed39 s.vm) (eT : T.heap = h) {xs : List Int32} (A : AI Z h a ty xs) {g : JFrame} (hg : g.method = m) {rest : List Value} (hs : g.stack = .ref a :: rest) (hd : decode c.code g.pc = .ok (.arraylength, 1)) :
    ∀ target, Steps p.tables e below (T.setTop { g with pc := g.pc + 1, stack := .int (lenO xs) :: rest }) target → Steps p.tables e below (T.setTop g) target := by
  obtain ⟨cl, A, q⟩ := A
  have e1 : cl.slots.size.toInt32 = lenO xs := by rw [q]; simp [lenO]
  intro t k
  refine X.arraylength hx (by rw [eT]; exact A.1) (State.isArrayOf_alike hZ.alike A.2.1) hg hs hd _ ?_
  rw [e1]; exact k
theorem lenAJ (X : Stand p l e R s m args below meth c T locs cells slots) (hx : p.tables.exec = Jvm.exec) (hZ : Z.Warmed39 s.vm) (eT : T.heap = h) {xs : List Int64} (A : AJ Z h a ty xs) {g : JFrame} (hg : g.method = m) {rest : List Value} (hs : g.stack = .ref a :: rest) (hd : decode c.code g.pc = .ok (.arraylength, 1)) :
    ∀ target, Steps p.tables e below (T.setTop { g with pc := g.pc + 1, stack := .int (lenO xs) :: rest }) target → Steps p.tables e below (T.setTop g) target := by
  obtain ⟨cl, A, q⟩ := A
  have e1 : cl.slots.size.toInt32 = lenO xs := by rw [q]; simp [lenO]
  intro t k
  refine X.arraylength hx (by rw [eT]; exact A.1) (State.isArrayOf_alike hZ.alike A.2.1) hg hs hd _ ?_
  rw [e1]; exact k
theorem newI (X : Stand p l e R s m args below meth c T locs cells slots) (hx : p.tables.exec = Jvm.exec) (hZ : Z.Warmed39 s.vm) {aty : ArrayType} (ht : newarray.typeOf aty = ty) (hdv : defaultValue ty = .int 0) (w : (Cond.arrayClass ty).before a0 Z = true) (eT : T.heap = h) {n : Int32} {cap : Nat} {xs : List Int32} (hr : mkO n cap = some xs) {g : JFrame} (hg : g.method = m) (hd : decode c.code g.pc = .ok (.newarray aty, 2)) {rest : List Value} (hs : g.stack = .int n :: rest) (hb : cap * 8 ≤ 536870912) (hc : cells + 1 ≤ R.cells) (hl : slots + cap ≤ R.slots) :
    ∃ T' h', Stand p l e R s m args below meth c T' locs (cells + 1) (slots + cap) ∧ T'.heap = h' ∧ Ext h h' ∧ AI Z h' h.size ty xs ∧ ∀ target, Steps p.tables e below (T'.setTop { g with pc := g.pc + 2, stack := .ref h.size :: rest }) target → Steps p.tables e below (T.setTop g) target := by
  subst ht
  unfold mkO at hr
  by_cases hn : n < 0 ∨ cap < n.toNatClampNeg
  · rw [if_pos hn] at hr; exact nomatch hr
  · rw [if_neg hn] at hr
    obtain rfl := Option.some.inj hr
    obtain ⟨T', h', cA, X', e', E, A, st⟩ := newP X hx hZ w eT hg hd hs (fun q => hn (Or.inl q)) (cap := cap) (Nat.le_of_not_lt fun q => hn (Or.inr q)) hb hc hl
    exact ⟨T', h', X', e', E, ⟨_, A, by simp [newA, hdv]⟩, st⟩
theorem newJ (X : Stand p l e R s m args below meth c T locs cells slots) (hx : p.tables.exec = Jvm.exec) (hZ : Z.Warmed39 s.vm) {aty : ArrayType} (ht : newarray.typeOf aty = .long) (w : (Cond.arrayClass .long).before a0 Z = true) (eT : T.heap = h) {n : Int32} {cap : Nat} {xs : List Int64} (hr : mkOJ n cap = some xs) {g : JFrame} (hg : g.method = m) (hd : decode c.code g.pc = .ok (.newarray aty, 2)) {rest : List Value} (hs : g.stack = .int n :: rest) (hb : cap * 8 ≤ 536870912) (hc : cells + 1 ≤ R.cells) (hl : slots + cap ≤ R.slots) :
    ∃ T' h', Stand p l e R s m args below meth c T' locs (cells + 1) (slots + cap) ∧ T'.heap = h' ∧ Ext h h' ∧ AJ Z h' h.size .long xs ∧ ∀ target, Steps p.tables e below (T'.setTop { g with pc := g.pc + 2, stack := .ref h.size :: rest }) target → Steps p.tables e below (T.setTop g) target := by
  unfold mkOJ at hr
  by_cases hn : n < 0 ∨ cap < n.toNatClampNeg
  · rw [if_pos hn] at hr; exact nomatch hr
  · rw [if_neg hn] at hr
    obtain rfl := Option.some.inj hr
    obtain ⟨T', h', cA, X', e', E, A, st⟩ := newP X hx hZ (by rw [ht]; exact w) eT hg hd hs (fun q => hn (Or.inl q)) (cap := cap) (Nat.le_of_not_lt fun q => hn (Or.inr q)) hb hc hl
    rw [ht] at A
    exact ⟨T', h', X', e', E, ⟨_, A, by simp [newA, defaultValue]⟩, st⟩
end Arrs
/-- the same, for a run that may have loaded String constants -/
def RunsW (p : Program) (e : Env) (below : List Frame) (s : State) (Φ : Option Value → Heap → List Loc → Prop) (k n : Nat) (T : State) (g : JFrame) : Prop :=
  ∃ s₂ o, Steps p.tables e below (T.setTop g) s₂ ∧ s₂.status = .running ∧ Ended s₂ below o ∧ ∃ v L, o = .returned v ∧ Φ v s₂.heap L ∧ ReturnedEndW s o s₂ L k n
section OwnW
variable {p : Program} {l : Launch} {e : Env} {R : Room} {s : State} {vm0 : Vm} {k0 : Nat} {m : MethodId} {args : Array Value} {below : List Frame} {meth : Method} {c : Code} {T T' : State} {locs : List Loc} {cells slots k n : Nat} {g g' : JFrame} {Φ : Option Value → Heap → List Loc → Prop}
theorem RunsW.via (h : ∀ t, Steps p.tables e below (T'.setTop g') t → Steps p.tables e below (T.setTop g) t) (r : RunsW p e below s Φ k n T' g') : RunsW p e below s Φ k n T g := by
  obtain ⟨s₂, o, h1, r⟩ := r
  exact ⟨s₂, o, h _ h1, r⟩
theorem own_retVW (X : Stand p l e R (s.setVm vm0) m args below meth c T locs cells slots) (hx : p.tables.exec = Jvm.exec) (hlk : meth.locks = false) (hret : meth.sig.returnType = none) {pc : Nat} {Ls : Array Slot} (hd : decode c.code pc = .ok (.return_, 1)) (hS : s.Since vm0 k0) (h0 : k0 ≤ T.heap.size) (hk : cells ≤ k) (hn : slots ≤ n) (hΦ : Φ none T.heap locs) :
    RunsW p e below s Φ k n T (mkF m pc Ls []) := by
  obtain ⟨fs, hr, hrun, hended, hE⟩ := X.leaveW hS h0 (v := none) (fun _ => rfl) hlk
  exact ⟨_, _, X.returnOut hx hret hd hr, hrun, hended, _, _, rfl, hΦ, hE.1, hE.2.1, hE.2.2.1, hE.2.2.2.mono hk hn⟩
theorem own_retIW (X : Stand p l e R (s.setVm vm0) m args below meth c T locs cells slots) (hx : p.tables.exec = Jvm.exec) (hlk : meth.locks = false) (hret : meth.sig.returnType = some .int) {pc : Nat} {Ls : Array Slot} {z : Int32} {rest : List Value} (hd : decode c.code pc = .ok (.ireturn, 1)) (hS : s.Since vm0 k0) (h0 : k0 ≤ T.heap.size) (hk : cells ≤ k) (hn : slots ≤ n) (hΦ : Φ (some (.int z)) T.heap locs) :
    RunsW p e below s Φ k n T (mkF m pc Ls (.int z :: rest)) := by
  obtain ⟨fs, hr, hrun, hended, hE⟩ := X.leaveW hS h0 (v := some (.int z)) (fun h => by rw [hret] at h; cases h) hlk
  exact ⟨_, _, retI X hx hret hd hr, hrun, hended, _, _, rfl, hΦ, hE.1, hE.2.1, hE.2.2.1, hE.2.2.2.mono hk hn⟩
theorem own_retNW (X : Stand p l e R (s.setVm vm0) m args below meth c T locs cells slots) (hx : p.tables.exec = Jvm.exec) (hlk : meth.locks = false) {t : FieldType} (hret : meth.sig.returnType = some t) (ht : t = .boolean ∨ t = .byte ∨ t = .char ∨ t = .short) {pc : Nat} {Ls : Array Slot} {z : Int32} {rest : List Value} (hd : decode c.code pc = .ok (.ireturn, 1)) (hS : s.Since vm0 k0) (h0 : k0 ≤ T.heap.size) (hk : cells ≤ k) (hn : slots ≤ n) (hΦ : Φ (some (.int (nar t z))) T.heap locs) :
    RunsW p e below s Φ k n T (mkF m pc Ls (.int z :: rest)) := by
  obtain ⟨fs, hr, hrun, hended, hE⟩ := X.leaveW hS h0 (v := some (.int (nar t z))) (fun h => by rw [hret] at h; cases h) hlk
  exact ⟨_, _, retN X hx hret ht hd hr, hrun, hended, _, _, rfl, hΦ, hE.1, hE.2.1, hE.2.2.1, hE.2.2.2.mono hk hn⟩
end OwnW
theorem own_ch {cs : List Int32} {j v : Int32} (h : rdO cs j = some v) : j.toNatClampNeg < cs.length ∧ j = Int32.ofNat j.toNatClampNeg ∧ cs.getD j.toNatClampNeg 0 = v := by
  unfold rdO at h
  split at h
  · exact nomatch h
  · rename_i q
    obtain ⟨h1, h2⟩ := List.getElem?_eq_some_iff.mp h
    refine ⟨h1, ?_, by rw [List.getD_eq_getElem?_getD, h]; rfl⟩
    have r := rng32 j
    have z : (0 : Int32).toInt = 0 := by decide
    rw [Int32.lt_iff_toInt_lt, z] at q
    have e : j.toNatClampNeg = j.toInt.toNat := rfl
    have e2 := len_toInt (n := j.toInt.toNat) (by omega)
    apply Int32.toInt_inj.mp
    rw [e]
    show j.toInt = (Nat.toInt32 j.toInt.toNat).toInt
    rw [e2]; omega
theorem own_t19 : (∀ c ∈ ("0123456789abcdefABCDEF" : String).toList, c.toNat < 256) ∧ ("0123456789abcdefABCDEF" : String).toList.map (fun c => Value.int (Jvm.Lit.byteI c.toNat.toUInt16)) = (([48, 49, 50, 51, 52, 53, 54, 55, 56, 57, 97, 98, 99, 100, 101, 102, 65, 66, 67, 68, 69, 70] : List Int32).map StrChars.lo8).map Value.int := ⟨by decide +kernel, by first | decide +kernel | rfl⟩
theorem own_t28 : (∀ c ∈ ("/:@G`g" : String).toList, c.toNat < 256) ∧ ("/:@G`g" : String).toList.map (fun c => Value.int (Jvm.Lit.byteI c.toNat.toUInt16)) = (([47, 58, 64, 71, 96, 103] : List Int32).map StrChars.lo8).map Value.int := ⟨by decide +kernel, by first | decide +kernel | rfl⟩
theorem d1_0 : decode prog_45_method_2_code 0 = .ok (.iload_n 0, 1) := by decide +kernel
theorem d1_1 : decode prog_45_method_2_code 1 = .ok (.bipush 48, 2) := by decide +kernel
theorem d1_3 : decode prog_45_method_2_code 3 = .ok (.if_icmp .lt 9, 3) := by decide +kernel
theorem d1_6 : decode prog_45_method_2_code 6 = .ok (.iload_n 0, 1) := by decide +kernel
theorem d1_7 : decode prog_45_method_2_code 7 = .ok (.bipush 57, 2) := by decide +kernel
theorem d1_9 : decode prog_45_method_2_code 9 = .ok (.if_icmp .le 27, 3) := by decide +kernel
theorem d1_12 : decode prog_45_method_2_code 12 = .ok (.iload_n 0, 1) := by decide +kernel
theorem d1_13 : decode prog_45_method_2_code 13 = .ok (.bipush 97, 2) := by decide +kernel
theorem d1_15 : decode prog_45_method_2_code 15 = .ok (.if_icmp .lt 9, 3) := by decide +kernel
theorem d1_18 : decode prog_45_method_2_code 18 = .ok (.iload_n 0, 1) := by decide +kernel
theorem d1_19 : decode prog_45_method_2_code 19 = .ok (.bipush 102, 2) := by decide +kernel
theorem d1_21 : decode prog_45_method_2_code 21 = .ok (.if_icmp .le 15, 3) := by decide +kernel
theorem d1_24 : decode prog_45_method_2_code 24 = .ok (.iload_n 0, 1) := by decide +kernel
theorem d1_25 : decode prog_45_method_2_code 25 = .ok (.bipush 65, 2) := by decide +kernel
theorem d1_27 : decode prog_45_method_2_code 27 = .ok (.if_icmp .lt 13, 3) := by decide +kernel
theorem d1_30 : decode prog_45_method_2_code 30 = .ok (.iload_n 0, 1) := by decide +kernel
theorem d1_31 : decode prog_45_method_2_code 31 = .ok (.bipush 70, 2) := by decide +kernel
theorem d1_33 : decode prog_45_method_2_code 33 = .ok (.if_icmp .gt 7, 3) := by decide +kernel
theorem d1_36 : decode prog_45_method_2_code 36 = .ok (.iconst 1, 1) := by decide +kernel
theorem d1_37 : decode prog_45_method_2_code 37 = .ok (.goto 4, 3) := by decide +kernel
theorem d1_40 : decode prog_45_method_2_code 40 = .ok (.iconst 0, 1) := by decide +kernel
theorem d1_41 : decode prog_45_method_2_code 41 = .ok (.ireturn, 1) := by decide +kernel
def g1_24 (x0 : Int32) : Int32 := (if x0 < (65 : Int32) then (0 : Int32) else (if (70 : Int32) < x0 then (0 : Int32) else (1 : Int32)))
set_option maxRecDepth 65536 in
set_option maxHeartbeats 4000000 in
theorem b1_24 (C : Ctx p s m meth c Z a0 "com/example/earned_trust/earnedtrust/model/UriSyntax" prog_45_method_2_code 1 (some .boolean) "isHexDigit") (X0 : Stand p l e ({ frames := 0, cells := 0, slots := 0, locals := 0 } : Room) s m args below meth c T0 locs cells slots) (e0 : T0.heap = h0) (N0 : Fr n0 locs) (hk : cells ≤ 0) (hn : slots ≤ 0) (x0 : Int32) :
    Runs p e below s (QP (some (.int (g1_24 x0))) h0 n0) 0 0 T0 (mkF m 24 #[.val (.int x0)] []) := by
  have ⟨hx, hZ, hw, hby, hml, hown, hret, hlk, hnm⟩ := C
  refine Runs.via (T' := T0) (g' := (mkF m 27 #[.val (.int x0)] [(.int (65 : Int32)), (.int x0)])) (fun t k => ?_) ?_
  · show Steps p.tables e below (T0.setTop (mkF m 24 #[.val (.int x0)] [])) t
    refine XS.iloadN X0.here hx rfl (hb hby d1_24) rfl ?_
    show Steps p.tables e below (T0.setTop (mkF m 25 #[.val (.int x0)] [(.int x0)])) t
    refine XS.bipush X0.here hx rfl (hb hby d1_25) ?_
    exact k
  by_cases hc1 : x0 < (65 : Int32)
  · refine Runs.via (T' := T0) (g' := (mkF m 40 #[.val (.int x0)] [])) (fun t k => ?_) ?_
    · show Steps p.tables e below (T0.setTop (mkF m 27 #[.val (.int x0)] [(.int (65 : Int32)), (.int x0)])) t
      exact XS.icmpYes X0.here hx rfl (pc0 := 27) (pc' := 40) rfl (hb hby d1_27) rfl (tlt hc1).1 (by decide) (by decide) k
    refine Runs.via (T' := T0) (g' := (mkF m 41 #[.val (.int x0)] [(.int (0 : Int32))])) (fun t k => ?_) ?_
    · show Steps p.tables e below (T0.setTop (mkF m 40 #[.val (.int x0)] [])) t
      refine XS.iconst X0.here hx rfl (hb hby d1_40) ?_
      exact k
    refine QP.cast (congrArg (fun z => some (Value.int z)) (show (g1_24 x0) = (0 : Int32) from (if_pos hc1))) ?_
    exact own_retN X0 hx hlk (t := .boolean) hret (by simp) (hb hby d1_41) hk hn ⟨rfl, N0, e0⟩
  · refine Runs.via (T' := T0) (g' := (mkF m 30 #[.val (.int x0)] [])) (fun t k => ?_) ?_
    · show Steps p.tables e below (T0.setTop (mkF m 27 #[.val (.int x0)] [(.int (65 : Int32)), (.int x0)])) t
      exact XS.icmpNo X0.here hx rfl (hb hby d1_27) rfl (flt hc1).1 k
    refine Runs.via (T' := T0) (g' := (mkF m 33 #[.val (.int x0)] [(.int (70 : Int32)), (.int x0)])) (fun t k => ?_) ?_
    · show Steps p.tables e below (T0.setTop (mkF m 30 #[.val (.int x0)] [])) t
      refine XS.iloadN X0.here hx rfl (hb hby d1_30) rfl ?_
      show Steps p.tables e below (T0.setTop (mkF m 31 #[.val (.int x0)] [(.int x0)])) t
      refine XS.bipush X0.here hx rfl (hb hby d1_31) ?_
      exact k
    by_cases hc2 : (70 : Int32) < x0
    · refine Runs.via (T' := T0) (g' := (mkF m 40 #[.val (.int x0)] [])) (fun t k => ?_) ?_
      · show Steps p.tables e below (T0.setTop (mkF m 33 #[.val (.int x0)] [(.int (70 : Int32)), (.int x0)])) t
        exact XS.icmpYes X0.here hx rfl (pc0 := 33) (pc' := 40) rfl (hb hby d1_33) rfl (tlt hc2).2.2.1 (by decide) (by decide) k
      refine Runs.via (T' := T0) (g' := (mkF m 41 #[.val (.int x0)] [(.int (0 : Int32))])) (fun t k => ?_) ?_
      · show Steps p.tables e below (T0.setTop (mkF m 40 #[.val (.int x0)] [])) t
        refine XS.iconst X0.here hx rfl (hb hby d1_40) ?_
        exact k
      refine QP.cast (congrArg (fun z => some (Value.int z)) (show (g1_24 x0) = (0 : Int32) from ((if_neg hc1).trans (if_pos hc2)))) ?_
      exact own_retN X0 hx hlk (t := .boolean) hret (by simp) (hb hby d1_41) hk hn ⟨rfl, N0, e0⟩
    · refine Runs.via (T' := T0) (g' := (mkF m 36 #[.val (.int x0)] [])) (fun t k => ?_) ?_
      · show Steps p.tables e below (T0.setTop (mkF m 33 #[.val (.int x0)] [(.int (70 : Int32)), (.int x0)])) t
        exact XS.icmpNo X0.here hx rfl (hb hby d1_33) rfl (flt hc2).2.2.1 k
      refine Runs.via (T' := T0) (g' := (mkF m 41 #[.val (.int x0)] [(.int (1 : Int32))])) (fun t k => ?_) ?_
      · show Steps p.tables e below (T0.setTop (mkF m 36 #[.val (.int x0)] [])) t
        refine XS.iconst X0.here hx rfl (hb hby d1_36) ?_
        show Steps p.tables e below (T0.setTop (mkF m 37 #[.val (.int x0)] [(.int (1 : Int32))])) t
        refine XS.goto X0.here hx rfl (pc0 := 37) (pc' := 41) rfl (hb hby d1_37) (by decide) (by decide) ?_
        exact k
      refine QP.cast (congrArg (fun z => some (Value.int z)) (show (g1_24 x0) = (1 : Int32) from ((if_neg hc1).trans (if_neg hc2)))) ?_
      exact own_retN X0 hx hlk (t := .boolean) hret (by simp) (hb hby d1_41) hk hn ⟨rfl, N0, e0⟩
def g1_12 (x0 : Int32) : Int32 := (if x0 < (97 : Int32) then (g1_24 x0) else (if (102 : Int32) < x0 then (g1_24 x0) else (1 : Int32)))
set_option maxRecDepth 65536 in
set_option maxHeartbeats 4000000 in
theorem b1_12 (C : Ctx p s m meth c Z a0 "com/example/earned_trust/earnedtrust/model/UriSyntax" prog_45_method_2_code 1 (some .boolean) "isHexDigit") (X0 : Stand p l e ({ frames := 0, cells := 0, slots := 0, locals := 0 } : Room) s m args below meth c T0 locs cells slots) (e0 : T0.heap = h0) (N0 : Fr n0 locs) (hk : cells ≤ 0) (hn : slots ≤ 0) (x0 : Int32) :
    Runs p e below s (QP (some (.int (g1_12 x0))) h0 n0) 0 0 T0 (mkF m 12 #[.val (.int x0)] []) := by
  have ⟨hx, hZ, hw, hby, hml, hown, hret, hlk, hnm⟩ := C
  refine Runs.via (T' := T0) (g' := (mkF m 15 #[.val (.int x0)] [(.int (97 : Int32)), (.int x0)])) (fun t k => ?_) ?_
  · show Steps p.tables e below (T0.setTop (mkF m 12 #[.val (.int x0)] [])) t
    refine XS.iloadN X0.here hx rfl (hb hby d1_12) rfl ?_
    show Steps p.tables e below (T0.setTop (mkF m 13 #[.val (.int x0)] [(.int x0)])) t
    refine XS.bipush X0.here hx rfl (hb hby d1_13) ?_
    exact k
  by_cases hc1 : x0 < (97 : Int32)
  · refine Runs.via (T' := T0) (g' := (mkF m 24 #[.val (.int x0)] [])) (fun t k => ?_) ?_
    · show Steps p.tables e below (T0.setTop (mkF m 15 #[.val (.int x0)] [(.int (97 : Int32)), (.int x0)])) t
      exact XS.icmpYes X0.here hx rfl (pc0 := 15) (pc' := 24) rfl (hb hby d1_15) rfl (tlt hc1).1 (by decide) (by decide) k
    refine QP.cast (congrArg (fun z => some (Value.int z)) (show (g1_12 x0) = (g1_24 x0) from (if_pos hc1))) ?_
    exact b1_24 C X0 e0 N0 hk hn x0
  · refine Runs.via (T' := T0) (g' := (mkF m 18 #[.val (.int x0)] [])) (fun t k => ?_) ?_
    · show Steps p.tables e below (T0.setTop (mkF m 15 #[.val (.int x0)] [(.int (97 : Int32)), (.int x0)])) t
      exact XS.icmpNo X0.here hx rfl (hb hby d1_15) rfl (flt hc1).1 k
    refine Runs.via (T' := T0) (g' := (mkF m 21 #[.val (.int x0)] [(.int (102 : Int32)), (.int x0)])) (fun t k => ?_) ?_
    · show Steps p.tables e below (T0.setTop (mkF m 18 #[.val (.int x0)] [])) t
      refine XS.iloadN X0.here hx rfl (hb hby d1_18) rfl ?_
      show Steps p.tables e below (T0.setTop (mkF m 19 #[.val (.int x0)] [(.int x0)])) t
      refine XS.bipush X0.here hx rfl (hb hby d1_19) ?_
      exact k
    by_cases hc2 : (102 : Int32) < x0
    · refine Runs.via (T' := T0) (g' := (mkF m 24 #[.val (.int x0)] [])) (fun t k => ?_) ?_
      · show Steps p.tables e below (T0.setTop (mkF m 21 #[.val (.int x0)] [(.int (102 : Int32)), (.int x0)])) t
        exact XS.icmpNo X0.here hx rfl (hb hby d1_21) rfl (tlt hc2).2.2.2 k
      refine QP.cast (congrArg (fun z => some (Value.int z)) (show (g1_12 x0) = (g1_24 x0) from ((if_neg hc1).trans (if_pos hc2)))) ?_
      exact b1_24 C X0 e0 N0 hk hn x0
    · refine Runs.via (T' := T0) (g' := (mkF m 36 #[.val (.int x0)] [])) (fun t k => ?_) ?_
      · show Steps p.tables e below (T0.setTop (mkF m 21 #[.val (.int x0)] [(.int (102 : Int32)), (.int x0)])) t
        exact XS.icmpYes X0.here hx rfl (pc0 := 21) (pc' := 36) rfl (hb hby d1_21) rfl (flt hc2).2.2.2 (by decide) (by decide) k
      refine Runs.via (T' := T0) (g' := (mkF m 41 #[.val (.int x0)] [(.int (1 : Int32))])) (fun t k => ?_) ?_
      · show Steps p.tables e below (T0.setTop (mkF m 36 #[.val (.int x0)] [])) t
        refine XS.iconst X0.here hx rfl (hb hby d1_36) ?_
        show Steps p.tables e below (T0.setTop (mkF m 37 #[.val (.int x0)] [(.int (1 : Int32))])) t
        refine XS.goto X0.here hx rfl (pc0 := 37) (pc' := 41) rfl (hb hby d1_37) (by decide) (by decide) ?_
        exact k
      refine QP.cast (congrArg (fun z => some (Value.int z)) (show (g1_12 x0) = (1 : Int32) from ((if_neg hc1).trans (if_neg hc2)))) ?_
      exact own_retN X0 hx hlk (t := .boolean) hret (by simp) (hb hby d1_41) hk hn ⟨rfl, N0, e0⟩
def g1_0 (x0 : Int32) : Int32 := (if x0 < (48 : Int32) then (g1_12 x0) else (if (57 : Int32) < x0 then (g1_12 x0) else (1 : Int32)))
set_option maxRecDepth 65536 in
set_option maxHeartbeats 4000000 in
theorem b1_0 (C : Ctx p s m meth c Z a0 "com/example/earned_trust/earnedtrust/model/UriSyntax" prog_45_method_2_code 1 (some .boolean) "isHexDigit") (X0 : Stand p l e ({ frames := 0, cells := 0, slots := 0, locals := 0 } : Room) s m args below meth c T0 locs cells slots) (e0 : T0.heap = h0) (N0 : Fr n0 locs) (hk : cells ≤ 0) (hn : slots ≤ 0) (x0 : Int32) :
    Runs p e below s (QP (some (.int (g1_0 x0))) h0 n0) 0 0 T0 (mkF m 0 #[.val (.int x0)] []) := by
  have ⟨hx, hZ, hw, hby, hml, hown, hret, hlk, hnm⟩ := C
  refine Runs.via (T' := T0) (g' := (mkF m 3 #[.val (.int x0)] [(.int (48 : Int32)), (.int x0)])) (fun t k => ?_) ?_
  · show Steps p.tables e below (T0.setTop (mkF m 0 #[.val (.int x0)] [])) t
    refine XS.iloadN X0.here hx rfl (hb hby d1_0) rfl ?_
    show Steps p.tables e below (T0.setTop (mkF m 1 #[.val (.int x0)] [(.int x0)])) t
    refine XS.bipush X0.here hx rfl (hb hby d1_1) ?_
    exact k
  by_cases hc1 : x0 < (48 : Int32)
  · refine Runs.via (T' := T0) (g' := (mkF m 12 #[.val (.int x0)] [])) (fun t k => ?_) ?_
    · show Steps p.tables e below (T0.setTop (mkF m 3 #[.val (.int x0)] [(.int (48 : Int32)), (.int x0)])) t
      exact XS.icmpYes X0.here hx rfl (pc0 := 3) (pc' := 12) rfl (hb hby d1_3) rfl (tlt hc1).1 (by decide) (by decide) k
    refine QP.cast (congrArg (fun z => some (Value.int z)) (show (g1_0 x0) = (g1_12 x0) from (if_pos hc1))) ?_
    exact b1_12 C X0 e0 N0 hk hn x0
  · refine Runs.via (T' := T0) (g' := (mkF m 6 #[.val (.int x0)] [])) (fun t k => ?_) ?_
    · show Steps p.tables e below (T0.setTop (mkF m 3 #[.val (.int x0)] [(.int (48 : Int32)), (.int x0)])) t
      exact XS.icmpNo X0.here hx rfl (hb hby d1_3) rfl (flt hc1).1 k
    refine Runs.via (T' := T0) (g' := (mkF m 9 #[.val (.int x0)] [(.int (57 : Int32)), (.int x0)])) (fun t k => ?_) ?_
    · show Steps p.tables e below (T0.setTop (mkF m 6 #[.val (.int x0)] [])) t
      refine XS.iloadN X0.here hx rfl (hb hby d1_6) rfl ?_
      show Steps p.tables e below (T0.setTop (mkF m 7 #[.val (.int x0)] [(.int x0)])) t
      refine XS.bipush X0.here hx rfl (hb hby d1_7) ?_
      exact k
    by_cases hc2 : (57 : Int32) < x0
    · refine Runs.via (T' := T0) (g' := (mkF m 12 #[.val (.int x0)] [])) (fun t k => ?_) ?_
      · show Steps p.tables e below (T0.setTop (mkF m 9 #[.val (.int x0)] [(.int (57 : Int32)), (.int x0)])) t
        exact XS.icmpNo X0.here hx rfl (hb hby d1_9) rfl (tlt hc2).2.2.2 k
      refine QP.cast (congrArg (fun z => some (Value.int z)) (show (g1_0 x0) = (g1_12 x0) from ((if_neg hc1).trans (if_pos hc2)))) ?_
      exact b1_12 C X0 e0 N0 hk hn x0
    · refine Runs.via (T' := T0) (g' := (mkF m 36 #[.val (.int x0)] [])) (fun t k => ?_) ?_
      · show Steps p.tables e below (T0.setTop (mkF m 9 #[.val (.int x0)] [(.int (57 : Int32)), (.int x0)])) t
        exact XS.icmpYes X0.here hx rfl (pc0 := 9) (pc' := 36) rfl (hb hby d1_9) rfl (flt hc2).2.2.2 (by decide) (by decide) k
      refine Runs.via (T' := T0) (g' := (mkF m 41 #[.val (.int x0)] [(.int (1 : Int32))])) (fun t k => ?_) ?_
      · show Steps p.tables e below (T0.setTop (mkF m 36 #[.val (.int x0)] [])) t
        refine XS.iconst X0.here hx rfl (hb hby d1_36) ?_
        show Steps p.tables e below (T0.setTop (mkF m 37 #[.val (.int x0)] [(.int (1 : Int32))])) t
        refine XS.goto X0.here hx rfl (pc0 := 37) (pc' := 41) rfl (hb hby d1_37) (by decide) (by decide) ?_
        exact k
      refine QP.cast (congrArg (fun z => some (Value.int z)) (show (g1_0 x0) = (1 : Int32) from ((if_neg hc1).trans (if_neg hc2)))) ?_
      exact own_retN X0 hx hlk (t := .boolean) hret (by simp) (hb hby d1_41) hk hn ⟨rfl, N0, e0⟩
def f1 (x0 : Int32) : Int32 := g1_0 x0
theorem pn_1 : plainName "com/example/earned_trust/earnedtrust/model/UriSyntax" = true := by first | (simp [plainName, overriddenIn]; done) | decide +kernel
theorem ef_1 (m : MethodId) (x0 : Int32) : entryFrame m #[(.int x0)] 1 = mkF m 0 #[.val (.int x0)] [] := by first | (simp [entryFrame, mkF, argsToLocals, Value.category]; done) | rfl
set_option maxRecDepth 65536 in
set_option maxHeartbeats 4000000 in
theorem rm1 (l : Launch) (Z : State) (a0 : Array Value) (hw : ∀ d ∈ tables_1, d.before a0 Z = true) (ws : List Jvm.Cond) (x0 : Int32) (h0 : Heap) (n0 : Nat) :
    MetFree l (⟨"com/example/earned_trust/earnedtrust/model/UriSyntax", "isHexDigit", "(C)Z"⟩ : MethodName) (head1 (Jvm.Cond.code (⟨"com/example/earned_trust/earnedtrust/model/UriSyntax", "isHexDigit", "(C)Z"⟩ : MethodName) prog_45_method_2_code 1 (some .boolean) :: ws) ({ frames := 0, cells := 0, slots := 0, locals := 0 } : Room)) (fun a U => a = #[(.int x0)] ∧ Z.Warmed39 U.vm ∧ U.heap = h0) (fun _ _ _ _ _ => True) (fun _ U o U' => ∃ v L, o = .returned v ∧ QP (some (.int (f1 x0))) h0 n0 v U'.heap L ∧ FrameEnd U o U' L ({ frames := 0, cells := 0, slots := 0, locals := 0 } : Room).cells ({ frames := 0, cells := 0, slots := 0, locals := 0 } : Room).slots) := by
  refine MetFree.of_bodySF (plainFor_of_name pn_1) hisR ?_
  intro p e s m args below meth c s₁ Bd hml0 hP hK
  obtain ⟨rfl, hZ, hh⟩ := hP
  have X0 : Stand p l e ({ frames := 0, cells := 0, slots := 0, locals := 0 } : Room) s m #[(.int x0)] below meth c s₁ [] 0 0 := Stand.of_body Bd
  have e0 : s₁.heap = h0 := by rw [← hh, Bd.state]; rfl
  have C : Ctx p s m meth c Z a0 "com/example/earned_trust/earnedtrust/model/UriSyntax" prog_45_method_2_code 1 (some .boolean) "isHexDigit" := ⟨Bd.exec, hZ, hw, Bd.bytes, hml0, findClass_of_methodNamed Bd.named, Bd.returns, BodyLoose.notSynchronized Bd, (name_of_methodNamed Bd.named Bd.method).1⟩
  refine Runs.via (fun t k => castTop (ef_1 m x0) k) (b1_0 C X0 e0 (Fr.nil n0) (Nat.le_refl 0) (Nat.le_refl 0) x0)
theorem pd_0 : parseMethodDescriptor "(C)Z" = some ⟨[.char], some .boolean⟩ := by decide +kernel
theorem d2_0 : decode method_2_code 0 = .ok (.iload_n 0, 1) := by decide +kernel
theorem d2_1 : decode method_2_code 1 = .ok (.bipush 32, 2) := by decide +kernel
theorem d2_3 : decode method_2_code 3 = .ok (.ior, 1) := by decide +kernel
theorem d2_4 : decode method_2_code 4 = .ok (.istore_n 1, 1) := by decide +kernel
theorem d2_5 : decode method_2_code 5 = .ok (.iload_n 0, 1) := by decide +kernel
theorem d2_6 : decode method_2_code 6 = .ok (.bipush 48, 2) := by decide +kernel
theorem d2_8 : decode method_2_code 8 = .ok (.if_icmp .lt 13, 3) := by decide +kernel
theorem d2_11 : decode method_2_code 11 = .ok (.iload_n 0, 1) := by decide +kernel
theorem d2_12 : decode method_2_code 12 = .ok (.bipush 57, 2) := by decide +kernel
theorem d2_14 : decode method_2_code 14 = .ok (.if_icmp .gt 7, 3) := by decide +kernel
theorem d2_17 : decode method_2_code 17 = .ok (.iconst 1, 1) := by decide +kernel
theorem d2_18 : decode method_2_code 18 = .ok (.goto 4, 3) := by decide +kernel
theorem d2_21 : decode method_2_code 21 = .ok (.iconst 0, 1) := by decide +kernel
theorem d2_22 : decode method_2_code 22 = .ok (.istore_n 2, 1) := by decide +kernel
theorem d2_23 : decode method_2_code 23 = .ok (.iload_n 1, 1) := by decide +kernel
theorem d2_24 : decode method_2_code 24 = .ok (.bipush 97, 2) := by decide +kernel
theorem d2_26 : decode method_2_code 26 = .ok (.if_icmp .lt 13, 3) := by decide +kernel
theorem d2_29 : decode method_2_code 29 = .ok (.iload_n 1, 1) := by decide +kernel
theorem d2_30 : decode method_2_code 30 = .ok (.bipush 102, 2) := by decide +kernel
theorem d2_32 : decode method_2_code 32 = .ok (.if_icmp .gt 7, 3) := by decide +kernel
theorem d2_35 : decode method_2_code 35 = .ok (.iconst 1, 1) := by decide +kernel
theorem d2_36 : decode method_2_code 36 = .ok (.goto 4, 3) := by decide +kernel
theorem d2_39 : decode method_2_code 39 = .ok (.iconst 0, 1) := by decide +kernel
theorem d2_40 : decode method_2_code 40 = .ok (.istore_n 3, 1) := by decide +kernel
theorem d2_41 : decode method_2_code 41 = .ok (.iload_n 2, 1) := by decide +kernel
theorem d2_42 : decode method_2_code 42 = .ok (.ifCond .ne 7, 3) := by decide +kernel
theorem d2_45 : decode method_2_code 45 = .ok (.iload_n 3, 1) := by decide +kernel
theorem d2_46 : decode method_2_code 46 = .ok (.ifCond .eq 7, 3) := by decide +kernel
theorem d2_49 : decode method_2_code 49 = .ok (.iconst 1, 1) := by decide +kernel
theorem d2_50 : decode method_2_code 50 = .ok (.goto 4, 3) := by decide +kernel
theorem d2_53 : decode method_2_code 53 = .ok (.iconst 0, 1) := by decide +kernel
theorem d2_54 : decode method_2_code 54 = .ok (.ireturn, 1) := by decide +kernel
def g2_40 (x2 : Int32) (u0 : Int32) : Int32 := (if x2 = (0 : Int32) then (if u0 = (0 : Int32) then (0 : Int32) else (1 : Int32)) else (1 : Int32))
set_option maxRecDepth 65536 in
set_option maxHeartbeats 4000000 in
theorem b2_40 (C : Ctx p s m meth c Z a0 "com/example/earned_trust/earnedtrust/model/UriSyntaxIsHexDigitPinLaw" method_2_code 4 (some .boolean) "reference") (X0 : Stand p l e ({ frames := 0, cells := 0, slots := 0, locals := 0 } : Room) s m args below meth c T0 locs cells slots) (e0 : T0.heap = h0) (N0 : Fr n0 locs) (hk : cells ≤ 0) (hn : slots ≤ 0) (x0 : Int32) (x1 : Int32) (x2 : Int32) (u0 : Int32) :
    Runs p e below s (QP (some (.int (g2_40 x2 u0))) h0 n0) 0 0 T0 (mkF m 40 #[.val (.int x0), .val (.int x1), .val (.int x2), .unset] [(.int u0)]) := by
  have ⟨hx, hZ, hw, hby, hml, hown, hret, hlk, hnm⟩ := C
  refine Runs.via (T' := T0) (g' := (mkF m 42 #[.val (.int x0), .val (.int x1), .val (.int x2), .val (.int u0)] [(.int x2)])) (fun t k => ?_) ?_
  · show Steps p.tables e below (T0.setTop (mkF m 40 #[.val (.int x0), .val (.int x1), .val (.int x2), .unset] [(.int u0)])) t
    refine XS.istoreN X0.here hx rfl (hb hby d2_40) rfl (l' := #[.val (.int x0), .val (.int x1), .val (.int x2), .val (.int u0)]) rfl ?_
    show Steps p.tables e below (T0.setTop (mkF m 41 #[.val (.int x0), .val (.int x1), .val (.int x2), .val (.int u0)] [])) t
    refine XS.iloadN X0.here hx rfl (hb hby d2_41) rfl ?_
    exact k
  by_cases hc1 : x2 = (0 : Int32)
  · refine Runs.via (T' := T0) (g' := (mkF m 45 #[.val (.int x0), .val (.int x1), .val (.int x2), .val (.int u0)] [])) (fun t k => ?_) ?_
    · show Steps p.tables e below (T0.setTop (mkF m 42 #[.val (.int x0), .val (.int x1), .val (.int x2), .val (.int u0)] [(.int x2)])) t
      exact XS.ifNo X0.here hx rfl (hb hby d2_42) rfl ((if0 _ _).trans (teq hc1).2) k
    refine Runs.via (T' := T0) (g' := (mkF m 46 #[.val (.int x0), .val (.int x1), .val (.int x2), .val (.int u0)] [(.int u0)])) (fun t k => ?_) ?_
    · show Steps p.tables e below (T0.setTop (mkF m 45 #[.val (.int x0), .val (.int x1), .val (.int x2), .val (.int u0)] [])) t
      refine XS.iloadN X0.here hx rfl (hb hby d2_45) rfl ?_
      exact k
    by_cases hc2 : u0 = (0 : Int32)
    · refine Runs.via (T' := T0) (g' := (mkF m 53 #[.val (.int x0), .val (.int x1), .val (.int x2), .val (.int u0)] [])) (fun t k => ?_) ?_
      · show Steps p.tables e below (T0.setTop (mkF m 46 #[.val (.int x0), .val (.int x1), .val (.int x2), .val (.int u0)] [(.int u0)])) t
        exact XS.ifYes X0.here hx rfl (pc0 := 46) (pc' := 53) rfl (hb hby d2_46) rfl ((if0 _ _).trans (teq hc2).1) (by decide) (by decide) k
      refine Runs.via (T' := T0) (g' := (mkF m 54 #[.val (.int x0), .val (.int x1), .val (.int x2), .val (.int u0)] [(.int (0 : Int32))])) (fun t k => ?_) ?_
      · show Steps p.tables e below (T0.setTop (mkF m 53 #[.val (.int x0), .val (.int x1), .val (.int x2), .val (.int u0)] [])) t
        refine XS.iconst X0.here hx rfl (hb hby d2_53) ?_
        exact k
      refine QP.cast (congrArg (fun z => some (Value.int z)) (show (g2_40 x2 u0) = (0 : Int32) from ((if_pos hc1).trans (if_pos hc2)))) ?_
      exact own_retN X0 hx hlk (t := .boolean) hret (by simp) (hb hby d2_54) hk hn ⟨rfl, N0, e0⟩
    · refine Runs.via (T' := T0) (g' := (mkF m 49 #[.val (.int x0), .val (.int x1), .val (.int x2), .val (.int u0)] [])) (fun t k => ?_) ?_
      · show Steps p.tables e below (T0.setTop (mkF m 46 #[.val (.int x0), .val (.int x1), .val (.int x2), .val (.int u0)] [(.int u0)])) t
        exact XS.ifNo X0.here hx rfl (hb hby d2_46) rfl ((if0 _ _).trans (feq hc2).1) k
      refine Runs.via (T' := T0) (g' := (mkF m 54 #[.val (.int x0), .val (.int x1), .val (.int x2), .val (.int u0)] [(.int (1 : Int32))])) (fun t k => ?_) ?_
      · show Steps p.tables e below (T0.setTop (mkF m 49 #[.val (.int x0), .val (.int x1), .val (.int x2), .val (.int u0)] [])) t
        refine XS.iconst X0.here hx rfl (hb hby d2_49) ?_
        show Steps p.tables e below (T0.setTop (mkF m 50 #[.val (.int x0), .val (.int x1), .val (.int x2), .val (.int u0)] [(.int (1 : Int32))])) t
        refine XS.goto X0.here hx rfl (pc0 := 50) (pc' := 54) rfl (hb hby d2_50) (by decide) (by decide) ?_
        exact k
      refine QP.cast (congrArg (fun z => some (Value.int z)) (show (g2_40 x2 u0) = (1 : Int32) from ((if_pos hc1).trans (if_neg hc2)))) ?_
      exact own_retN X0 hx hlk (t := .boolean) hret (by simp) (hb hby d2_54) hk hn ⟨rfl, N0, e0⟩
  · refine Runs.via (T' := T0) (g' := (mkF m 49 #[.val (.int x0), .val (.int x1), .val (.int x2), .val (.int u0)] [])) (fun t k => ?_) ?_
    · show Steps p.tables e below (T0.setTop (mkF m 42 #[.val (.int x0), .val (.int x1), .val (.int x2), .val (.int u0)] [(.int x2)])) t
      exact XS.ifYes X0.here hx rfl (pc0 := 42) (pc' := 49) rfl (hb hby d2_42) rfl ((if0 _ _).trans (feq hc1).2) (by decide) (by decide) k
    refine Runs.via (T' := T0) (g' := (mkF m 54 #[.val (.int x0), .val (.int x1), .val (.int x2), .val (.int u0)] [(.int (1 : Int32))])) (fun t k => ?_) ?_
    · show Steps p.tables e below (T0.setTop (mkF m 49 #[.val (.int x0), .val (.int x1), .val (.int x2), .val (.int u0)] [])) t
      refine XS.iconst X0.here hx rfl (hb hby d2_49) ?_
      show Steps p.tables e below (T0.setTop (mkF m 50 #[.val (.int x0), .val (.int x1), .val (.int x2), .val (.int u0)] [(.int (1 : Int32))])) t
      refine XS.goto X0.here hx rfl (pc0 := 50) (pc' := 54) rfl (hb hby d2_50) (by decide) (by decide) ?_
      exact k
    refine QP.cast (congrArg (fun z => some (Value.int z)) (show (g2_40 x2 u0) = (1 : Int32) from (if_neg hc1))) ?_
    exact own_retN X0 hx hlk (t := .boolean) hret (by simp) (hb hby d2_54) hk hn ⟨rfl, N0, e0⟩
def g2_39 (x2 : Int32) : Int32 := (g2_40 x2 (0 : Int32))
set_option maxRecDepth 65536 in
set_option maxHeartbeats 4000000 in
theorem b2_39 (C : Ctx p s m meth c Z a0 "com/example/earned_trust/earnedtrust/model/UriSyntaxIsHexDigitPinLaw" method_2_code 4 (some .boolean) "reference") (X0 : Stand p l e ({ frames := 0, cells := 0, slots := 0, locals := 0 } : Room) s m args below meth c T0 locs cells slots) (e0 : T0.heap = h0) (N0 : Fr n0 locs) (hk : cells ≤ 0) (hn : slots ≤ 0) (x0 : Int32) (x1 : Int32) (x2 : Int32) :
    Runs p e below s (QP (some (.int (g2_39 x2))) h0 n0) 0 0 T0 (mkF m 39 #[.val (.int x0), .val (.int x1), .val (.int x2), .unset] []) := by
  have ⟨hx, hZ, hw, hby, hml, hown, hret, hlk, hnm⟩ := C
  refine Runs.via (T' := T0) (g' := (mkF m 40 #[.val (.int x0), .val (.int x1), .val (.int x2), .unset] [(.int (0 : Int32))])) (fun t k => ?_) ?_
  · show Steps p.tables e below (T0.setTop (mkF m 39 #[.val (.int x0), .val (.int x1), .val (.int x2), .unset] [])) t
    refine XS.iconst X0.here hx rfl (hb hby d2_39) ?_
    exact k
  refine QP.cast (congrArg (fun z => some (Value.int z)) (rfl : (g2_39 x2) = (g2_40 x2 (0 : Int32)))) ?_
  exact b2_40 C X0 e0 N0 hk hn x0 x1 x2 (0 : Int32)
def g2_22 (x1 : Int32) (u0 : Int32) : Int32 := (if x1 < (97 : Int32) then (g2_39 u0) else (if (102 : Int32) < x1 then (g2_39 u0) else (g2_40 u0 (1 : Int32))))
set_option maxRecDepth 65536 in
set_option maxHeartbeats 4000000 in
theorem b2_22 (C : Ctx p s m meth c Z a0 "com/example/earned_trust/earnedtrust/model/UriSyntaxIsHexDigitPinLaw" method_2_code 4 (some .boolean) "reference") (X0 : Stand p l e ({ frames := 0, cells := 0, slots := 0, locals := 0 } : Room) s m args below meth c T0 locs cells slots) (e0 : T0.heap = h0) (N0 : Fr n0 locs) (hk : cells ≤ 0) (hn : slots ≤ 0) (x0 : Int32) (x1 : Int32) (u0 : Int32) :
    Runs p e below s (QP (some (.int (g2_22 x1 u0))) h0 n0) 0 0 T0 (mkF m 22 #[.val (.int x0), .val (.int x1), .unset, .unset] [(.int u0)]) := by
  have ⟨hx, hZ, hw, hby, hml, hown, hret, hlk, hnm⟩ := C
  refine Runs.via (T' := T0) (g' := (mkF m 26 #[.val (.int x0), .val (.int x1), .val (.int u0), .unset] [(.int (97 : Int32)), (.int x1)])) (fun t k => ?_) ?_
  · show Steps p.tables e below (T0.setTop (mkF m 22 #[.val (.int x0), .val (.int x1), .unset, .unset] [(.int u0)])) t
    refine XS.istoreN X0.here hx rfl (hb hby d2_22) rfl (l' := #[.val (.int x0), .val (.int x1), .val (.int u0), .unset]) rfl ?_
    show Steps p.tables e below (T0.setTop (mkF m 23 #[.val (.int x0), .val (.int x1), .val (.int u0), .unset] [])) t
    refine XS.iloadN X0.here hx rfl (hb hby d2_23) rfl ?_
    show Steps p.tables e below (T0.setTop (mkF m 24 #[.val (.int x0), .val (.int x1), .val (.int u0), .unset] [(.int x1)])) t
    refine XS.bipush X0.here hx rfl (hb hby d2_24) ?_
    exact k
  by_cases hc1 : x1 < (97 : Int32)
  · refine Runs.via (T' := T0) (g' := (mkF m 39 #[.val (.int x0), .val (.int x1), .val (.int u0), .unset] [])) (fun t k => ?_) ?_
    · show Steps p.tables e below (T0.setTop (mkF m 26 #[.val (.int x0), .val (.int x1), .val (.int u0), .unset] [(.int (97 : Int32)), (.int x1)])) t
      exact XS.icmpYes X0.here hx rfl (pc0 := 26) (pc' := 39) rfl (hb hby d2_26) rfl (tlt hc1).1 (by decide) (by decide) k
    refine QP.cast (congrArg (fun z => some (Value.int z)) (show (g2_22 x1 u0) = (g2_39 u0) from (if_pos hc1))) ?_
    exact b2_39 C X0 e0 N0 hk hn x0 x1 u0
  · refine Runs.via (T' := T0) (g' := (mkF m 29 #[.val (.int x0), .val (.int x1), .val (.int u0), .unset] [])) (fun t k => ?_) ?_
    · show Steps p.tables e below (T0.setTop (mkF m 26 #[.val (.int x0), .val (.int x1), .val (.int u0), .unset] [(.int (97 : Int32)), (.int x1)])) t
      exact XS.icmpNo X0.here hx rfl (hb hby d2_26) rfl (flt hc1).1 k
    refine Runs.via (T' := T0) (g' := (mkF m 32 #[.val (.int x0), .val (.int x1), .val (.int u0), .unset] [(.int (102 : Int32)), (.int x1)])) (fun t k => ?_) ?_
    · show Steps p.tables e below (T0.setTop (mkF m 29 #[.val (.int x0), .val (.int x1), .val (.int u0), .unset] [])) t
      refine XS.iloadN X0.here hx rfl (hb hby d2_29) rfl ?_
      show Steps p.tables e below (T0.setTop (mkF m 30 #[.val (.int x0), .val (.int x1), .val (.int u0), .unset] [(.int x1)])) t
      refine XS.bipush X0.here hx rfl (hb hby d2_30) ?_
      exact k
    by_cases hc2 : (102 : Int32) < x1
    · refine Runs.via (T' := T0) (g' := (mkF m 39 #[.val (.int x0), .val (.int x1), .val (.int u0), .unset] [])) (fun t k => ?_) ?_
      · show Steps p.tables e below (T0.setTop (mkF m 32 #[.val (.int x0), .val (.int x1), .val (.int u0), .unset] [(.int (102 : Int32)), (.int x1)])) t
        exact XS.icmpYes X0.here hx rfl (pc0 := 32) (pc' := 39) rfl (hb hby d2_32) rfl (tlt hc2).2.2.1 (by decide) (by decide) k
      refine QP.cast (congrArg (fun z => some (Value.int z)) (show (g2_22 x1 u0) = (g2_39 u0) from ((if_neg hc1).trans (if_pos hc2)))) ?_
      exact b2_39 C X0 e0 N0 hk hn x0 x1 u0
    · refine Runs.via (T' := T0) (g' := (mkF m 35 #[.val (.int x0), .val (.int x1), .val (.int u0), .unset] [])) (fun t k => ?_) ?_
      · show Steps p.tables e below (T0.setTop (mkF m 32 #[.val (.int x0), .val (.int x1), .val (.int u0), .unset] [(.int (102 : Int32)), (.int x1)])) t
        exact XS.icmpNo X0.here hx rfl (hb hby d2_32) rfl (flt hc2).2.2.1 k
      refine Runs.via (T' := T0) (g' := (mkF m 40 #[.val (.int x0), .val (.int x1), .val (.int u0), .unset] [(.int (1 : Int32))])) (fun t k => ?_) ?_
      · show Steps p.tables e below (T0.setTop (mkF m 35 #[.val (.int x0), .val (.int x1), .val (.int u0), .unset] [])) t
        refine XS.iconst X0.here hx rfl (hb hby d2_35) ?_
        show Steps p.tables e below (T0.setTop (mkF m 36 #[.val (.int x0), .val (.int x1), .val (.int u0), .unset] [(.int (1 : Int32))])) t
        refine XS.goto X0.here hx rfl (pc0 := 36) (pc' := 40) rfl (hb hby d2_36) (by decide) (by decide) ?_
        exact k
      refine QP.cast (congrArg (fun z => some (Value.int z)) (show (g2_22 x1 u0) = (g2_40 u0 (1 : Int32)) from ((if_neg hc1).trans (if_neg hc2)))) ?_
      exact b2_40 C X0 e0 N0 hk hn x0 x1 u0 (1 : Int32)
def g2_21 (x1 : Int32) : Int32 := (g2_22 x1 (0 : Int32))
set_option maxRecDepth 65536 in
set_option maxHeartbeats 4000000 in
theorem b2_21 (C : Ctx p s m meth c Z a0 "com/example/earned_trust/earnedtrust/model/UriSyntaxIsHexDigitPinLaw" method_2_code 4 (some .boolean) "reference") (X0 : Stand p l e ({ frames := 0, cells := 0, slots := 0, locals := 0 } : Room) s m args below meth c T0 locs cells slots) (e0 : T0.heap = h0) (N0 : Fr n0 locs) (hk : cells ≤ 0) (hn : slots ≤ 0) (x0 : Int32) (x1 : Int32) :
    Runs p e below s (QP (some (.int (g2_21 x1))) h0 n0) 0 0 T0 (mkF m 21 #[.val (.int x0), .val (.int x1), .unset, .unset] []) := by
  have ⟨hx, hZ, hw, hby, hml, hown, hret, hlk, hnm⟩ := C
  refine Runs.via (T' := T0) (g' := (mkF m 22 #[.val (.int x0), .val (.int x1), .unset, .unset] [(.int (0 : Int32))])) (fun t k => ?_) ?_
  · show Steps p.tables e below (T0.setTop (mkF m 21 #[.val (.int x0), .val (.int x1), .unset, .unset] [])) t
    refine XS.iconst X0.here hx rfl (hb hby d2_21) ?_
    exact k
  refine QP.cast (congrArg (fun z => some (Value.int z)) (rfl : (g2_21 x1) = (g2_22 x1 (0 : Int32)))) ?_
  exact b2_22 C X0 e0 N0 hk hn x0 x1 (0 : Int32)
def g2_0 (x0 : Int32) : Int32 := (if x0 < (48 : Int32) then (g2_21 (x0 ||| (32 : Int32))) else (if (57 : Int32) < x0 then (g2_21 (x0 ||| (32 : Int32))) else (g2_22 (x0 ||| (32 : Int32)) (1 : Int32))))
set_option maxRecDepth 65536 in
set_option maxHeartbeats 4000000 in
theorem b2_0 (C : Ctx p s m meth c Z a0 "com/example/earned_trust/earnedtrust/model/UriSyntaxIsHexDigitPinLaw" method_2_code 4 (some .boolean) "reference") (X0 : Stand p l e ({ frames := 0, cells := 0, slots := 0, locals := 0 } : Room) s m args below meth c T0 locs cells slots) (e0 : T0.heap = h0) (N0 : Fr n0 locs) (hk : cells ≤ 0) (hn : slots ≤ 0) (x0 : Int32) :
    Runs p e below s (QP (some (.int (g2_0 x0))) h0 n0) 0 0 T0 (mkF m 0 #[.val (.int x0), .unset, .unset, .unset] []) := by
  have ⟨hx, hZ, hw, hby, hml, hown, hret, hlk, hnm⟩ := C
  refine Runs.via (T' := T0) (g' := (mkF m 8 #[.val (.int x0), .val (.int (x0 ||| (32 : Int32))), .unset, .unset] [(.int (48 : Int32)), (.int x0)])) (fun t k => ?_) ?_
  · show Steps p.tables e below (T0.setTop (mkF m 0 #[.val (.int x0), .unset, .unset, .unset] [])) t
    refine XS.iloadN X0.here hx rfl (hb hby d2_0) rfl ?_
    show Steps p.tables e below (T0.setTop (mkF m 1 #[.val (.int x0), .unset, .unset, .unset] [(.int x0)])) t
    refine XS.bipush X0.here hx rfl (hb hby d2_1) ?_
    show Steps p.tables e below (T0.setTop (mkF m 3 #[.val (.int x0), .unset, .unset, .unset] [(.int (32 : Int32)), (.int x0)])) t
    refine XS.ior X0.here hx rfl (hb hby d2_3) rfl ?_
    show Steps p.tables e below (T0.setTop (mkF m 4 #[.val (.int x0), .unset, .unset, .unset] [(.int (x0 ||| (32 : Int32)))])) t
    refine XS.istoreN X0.here hx rfl (hb hby d2_4) rfl (l' := #[.val (.int x0), .val (.int (x0 ||| (32 : Int32))), .unset, .unset]) rfl ?_
    show Steps p.tables e below (T0.setTop (mkF m 5 #[.val (.int x0), .val (.int (x0 ||| (32 : Int32))), .unset, .unset] [])) t
    refine XS.iloadN X0.here hx rfl (hb hby d2_5) rfl ?_
    show Steps p.tables e below (T0.setTop (mkF m 6 #[.val (.int x0), .val (.int (x0 ||| (32 : Int32))), .unset, .unset] [(.int x0)])) t
    refine XS.bipush X0.here hx rfl (hb hby d2_6) ?_
    exact k
  by_cases hc1 : x0 < (48 : Int32)
  · refine Runs.via (T' := T0) (g' := (mkF m 21 #[.val (.int x0), .val (.int (x0 ||| (32 : Int32))), .unset, .unset] [])) (fun t k => ?_) ?_
    · show Steps p.tables e below (T0.setTop (mkF m 8 #[.val (.int x0), .val (.int (x0 ||| (32 : Int32))), .unset, .unset] [(.int (48 : Int32)), (.int x0)])) t
      exact XS.icmpYes X0.here hx rfl (pc0 := 8) (pc' := 21) rfl (hb hby d2_8) rfl (tlt hc1).1 (by decide) (by decide) k
    refine QP.cast (congrArg (fun z => some (Value.int z)) (show (g2_0 x0) = (g2_21 (x0 ||| (32 : Int32))) from (if_pos hc1))) ?_
    exact b2_21 C X0 e0 N0 hk hn x0 (x0 ||| (32 : Int32))
  · refine Runs.via (T' := T0) (g' := (mkF m 11 #[.val (.int x0), .val (.int (x0 ||| (32 : Int32))), .unset, .unset] [])) (fun t k => ?_) ?_
    · show Steps p.tables e below (T0.setTop (mkF m 8 #[.val (.int x0), .val (.int (x0 ||| (32 : Int32))), .unset, .unset] [(.int (48 : Int32)), (.int x0)])) t
      exact XS.icmpNo X0.here hx rfl (hb hby d2_8) rfl (flt hc1).1 k
    refine Runs.via (T' := T0) (g' := (mkF m 14 #[.val (.int x0), .val (.int (x0 ||| (32 : Int32))), .unset, .unset] [(.int (57 : Int32)), (.int x0)])) (fun t k => ?_) ?_
    · show Steps p.tables e below (T0.setTop (mkF m 11 #[.val (.int x0), .val (.int (x0 ||| (32 : Int32))), .unset, .unset] [])) t
      refine XS.iloadN X0.here hx rfl (hb hby d2_11) rfl ?_
      show Steps p.tables e below (T0.setTop (mkF m 12 #[.val (.int x0), .val (.int (x0 ||| (32 : Int32))), .unset, .unset] [(.int x0)])) t
      refine XS.bipush X0.here hx rfl (hb hby d2_12) ?_
      exact k
    by_cases hc2 : (57 : Int32) < x0
    · refine Runs.via (T' := T0) (g' := (mkF m 21 #[.val (.int x0), .val (.int (x0 ||| (32 : Int32))), .unset, .unset] [])) (fun t k => ?_) ?_
      · show Steps p.tables e below (T0.setTop (mkF m 14 #[.val (.int x0), .val (.int (x0 ||| (32 : Int32))), .unset, .unset] [(.int (57 : Int32)), (.int x0)])) t
        exact XS.icmpYes X0.here hx rfl (pc0 := 14) (pc' := 21) rfl (hb hby d2_14) rfl (tlt hc2).2.2.1 (by decide) (by decide) k
      refine QP.cast (congrArg (fun z => some (Value.int z)) (show (g2_0 x0) = (g2_21 (x0 ||| (32 : Int32))) from ((if_neg hc1).trans (if_pos hc2)))) ?_
      exact b2_21 C X0 e0 N0 hk hn x0 (x0 ||| (32 : Int32))
    · refine Runs.via (T' := T0) (g' := (mkF m 17 #[.val (.int x0), .val (.int (x0 ||| (32 : Int32))), .unset, .unset] [])) (fun t k => ?_) ?_
      · show Steps p.tables e below (T0.setTop (mkF m 14 #[.val (.int x0), .val (.int (x0 ||| (32 : Int32))), .unset, .unset] [(.int (57 : Int32)), (.int x0)])) t
        exact XS.icmpNo X0.here hx rfl (hb hby d2_14) rfl (flt hc2).2.2.1 k
      refine Runs.via (T' := T0) (g' := (mkF m 22 #[.val (.int x0), .val (.int (x0 ||| (32 : Int32))), .unset, .unset] [(.int (1 : Int32))])) (fun t k => ?_) ?_
      · show Steps p.tables e below (T0.setTop (mkF m 17 #[.val (.int x0), .val (.int (x0 ||| (32 : Int32))), .unset, .unset] [])) t
        refine XS.iconst X0.here hx rfl (hb hby d2_17) ?_
        show Steps p.tables e below (T0.setTop (mkF m 18 #[.val (.int x0), .val (.int (x0 ||| (32 : Int32))), .unset, .unset] [(.int (1 : Int32))])) t
        refine XS.goto X0.here hx rfl (pc0 := 18) (pc' := 22) rfl (hb hby d2_18) (by decide) (by decide) ?_
        exact k
      refine QP.cast (congrArg (fun z => some (Value.int z)) (show (g2_0 x0) = (g2_22 (x0 ||| (32 : Int32)) (1 : Int32)) from ((if_neg hc1).trans (if_neg hc2)))) ?_
      exact b2_22 C X0 e0 N0 hk hn x0 (x0 ||| (32 : Int32)) (1 : Int32)
def f2 (x0 : Int32) : Int32 := g2_0 x0
theorem pn_2 : plainName "com/example/earned_trust/earnedtrust/model/UriSyntaxIsHexDigitPinLaw" = true := by first | (simp [plainName, overriddenIn]; done) | decide +kernel
theorem ef_2 (m : MethodId) (x0 : Int32) : entryFrame m #[(.int x0)] 4 = mkF m 0 #[.val (.int x0), .unset, .unset, .unset] [] := by first | (simp [entryFrame, mkF, argsToLocals, Value.category]; done) | rfl
set_option maxRecDepth 65536 in
set_option maxHeartbeats 4000000 in
theorem rm2 (l : Launch) (Z : State) (a0 : Array Value) (hw : ∀ d ∈ tables_1, d.before a0 Z = true) (ws : List Jvm.Cond) (x0 : Int32) (h0 : Heap) (n0 : Nat) :
    MetFree l (⟨"com/example/earned_trust/earnedtrust/model/UriSyntaxIsHexDigitPinLaw", "reference", "(C)Z"⟩ : MethodName) (head1 (Jvm.Cond.code (⟨"com/example/earned_trust/earnedtrust/model/UriSyntaxIsHexDigitPinLaw", "reference", "(C)Z"⟩ : MethodName) method_2_code 4 (some .boolean) :: ws) ({ frames := 0, cells := 0, slots := 0, locals := 0 } : Room)) (fun a U => a = #[(.int x0)] ∧ Z.Warmed39 U.vm ∧ U.heap = h0) (fun _ _ _ _ _ => True) (fun _ U o U' => ∃ v L, o = .returned v ∧ QP (some (.int (f2 x0))) h0 n0 v U'.heap L ∧ FrameEnd U o U' L ({ frames := 0, cells := 0, slots := 0, locals := 0 } : Room).cells ({ frames := 0, cells := 0, slots := 0, locals := 0 } : Room).slots) := by
  refine MetFree.of_bodySF (plainFor_of_name pn_2) hisR ?_
  intro p e s m args below meth c s₁ Bd hml0 hP hK
  obtain ⟨rfl, hZ, hh⟩ := hP
  have X0 : Stand p l e ({ frames := 0, cells := 0, slots := 0, locals := 0 } : Room) s m #[(.int x0)] below meth c s₁ [] 0 0 := Stand.of_body Bd
  have e0 : s₁.heap = h0 := by rw [← hh, Bd.state]; rfl
  have C : Ctx p s m meth c Z a0 "com/example/earned_trust/earnedtrust/model/UriSyntaxIsHexDigitPinLaw" method_2_code 4 (some .boolean) "reference" := ⟨Bd.exec, hZ, hw, Bd.bytes, hml0, findClass_of_methodNamed Bd.named, Bd.returns, BodyLoose.notSynchronized Bd, (name_of_methodNamed Bd.named Bd.method).1⟩
  refine Runs.via (fun t k => castTop (ef_2 m x0) k) (b2_0 C X0 e0 (Fr.nil n0) (Nat.le_refl 0) (Nat.le_refl 0) x0)
theorem pd_1 : parseMethodDescriptor "(I)C" = some ⟨[.int], some .char⟩ := by decide +kernel
def P0 (n0 : Nat) (r : Int32) (v : Option Value) (h : Heap) (L : List Loc) : Prop := v = some (.int r) ∧ Fr n0 L
def g0_0 (x0 : Int32) (x1 : Int32) : Option (Int32) := (letO ((x0 &&& (65535 : Int32)).toUInt32.toUInt16.toUInt32.toInt32) fun v1 => (if (f1 v1) = (f2 v1) then ((rdO ([48, 49, 50, 51, 52, 53, 54, 55, 56, 57, 97, 98, 99, 100, 101, 102, 65, 66, 67, 68, 69, 70] : List Int32) ((x1 &&& (2147483647 : Int32)) - ((x1 &&& (2147483647 : Int32)) / (22 : Int32)) * (22 : Int32))).bind fun v6 => (letO (f1 v6) fun v8 => ((rdO ([47, 58, 64, 71, 96, 103] : List Int32) ((x1 &&& (2147483647 : Int32)) - ((x1 &&& (2147483647 : Int32)) / (6 : Int32)) * (6 : Int32))).bind fun v10 => (if (f1 v10) = (0 : Int32) then (if (1 : Int32) = (0 : Int32) then some (0 : Int32) else (if v8 = (0 : Int32) then some (0 : Int32) else (if (1 : Int32) = (0 : Int32) then some (0 : Int32) else some (1 : Int32)))) else (if (1 : Int32) = (0 : Int32) then some (0 : Int32) else (if v8 = (0 : Int32) then some (0 : Int32) else (if (0 : Int32) = (0 : Int32) then some (0 : Int32) else some (1 : Int32)))))))) else ((rdO ([48, 49, 50, 51, 52, 53, 54, 55, 56, 57, 97, 98, 99, 100, 101, 102, 65, 66, 67, 68, 69, 70] : List Int32) ((x1 &&& (2147483647 : Int32)) - ((x1 &&& (2147483647 : Int32)) / (22 : Int32)) * (22 : Int32))).bind fun v20 => (letO (f1 v20) fun v22 => ((rdO ([47, 58, 64, 71, 96, 103] : List Int32) ((x1 &&& (2147483647 : Int32)) - ((x1 &&& (2147483647 : Int32)) / (6 : Int32)) * (6 : Int32))).bind fun v24 => (if (f1 v24) = (0 : Int32) then (if (0 : Int32) = (0 : Int32) then some (0 : Int32) else (if v22 = (0 : Int32) then some (0 : Int32) else (if (1 : Int32) = (0 : Int32) then some (0 : Int32) else some (1 : Int32)))) else (if (0 : Int32) = (0 : Int32) then some (0 : Int32) else (if v22 = (0 : Int32) then some (0 : Int32) else (if (0 : Int32) = (0 : Int32) then some (0 : Int32) else some (1 : Int32))))))))))
set_option maxRecDepth 65536 in
set_option maxHeartbeats 4000000 in
theorem b0_0 {vm0 : Vm} {k0 : Nat} {r : Int32} (C : Ctx p (s.setVm vm0) m meth c Z a0 "com/example/earned_trust/earnedtrust/model/UriSyntaxIsHexDigitPinLaw" code 10 (some .boolean) "law") (X0 : Stand p l e room_1 (s.setVm vm0) m args below meth c T0 locs cells slots) (e0 : T0.heap = h0) (N0 : Fr n0 locs) (hk : cells ≤ 0) (hn : slots ≤ 0) (Z1 : n0 ≤ h0.size) (hS0 : s.Since vm0 k0) (hk0 : k0 ≤ h0.size) (x0 : Int32) (x1 : Int32) (hn0 : n0 = s.heap.size) (hkeep : ∀ (b : Addr) (cl : Cell), Z.heap[b]? = some cl → s.heap[b]? = some cl) (IB0 : IB Z vm0 []) (hh19 : Jvm.Lit.constHeld Z "com/example/earned_trust/earnedtrust/model/UriSyntaxIsHexDigitPinLaw" 19) (hh28 : Jvm.Lit.constHeld Z "com/example/earned_trust/earnedtrust/model/UriSyntaxIsHexDigitPinLaw" 28) (hcw : Jvm.Lit.compactW.before a0 Z = true) {G1 : Int32} {G3 : Value} (O2 : Sta Z h0 "java/lang/String" "COMPACT_STRINGS" "Z" (.int G1)) (P5 : ¬ G1 = 0) (O4 : Sta Z h0 "jdk/internal/util/Preconditions" "SIOOBE_FORMATTER" "Ljava/util/function/BiFunction;" G3) (rG3 : G3.isRef = true) (hr : g0_0 x0 x1 = some r) :
    RunsW p e below s (P0 n0 r) 4 120 T0 (mkF m 0 #[.val (.int x0), .val (.int x1), .unset, .unset, .unset, .unset, .unset, .unset, .unset, .unset] []) := by
  unfold g0_0 at hr
  have ⟨hx, hZ, hw, hby, hml, hown, hret, hlk, hnm⟩ := C
  refine RunsW.via (T' := T0) (g' := (mkF m 5 #[.val (.int x0), .val (.int x1), .unset, .unset, .unset, .unset, .unset, .unset, .unset, .unset] [(.int ((x0 &&& (65535 : Int32)).toUInt32.toUInt16.toUInt32.toInt32))])) (fun t k => ?_) ?_
  · show Steps p.tables e below (T0.setTop (mkF m 0 #[.val (.int x0), .val (.int x1), .unset, .unset, .unset, .unset, .unset, .unset, .unset, .unset] [])) t
    refine XS.iloadN X0.here hx rfl (hb hby at_0) rfl ?_
    show Steps p.tables e below (T0.setTop (mkF m 1 #[.val (.int x0), .val (.int x1), .unset, .unset, .unset, .unset, .unset, .unset, .unset, .unset] [(.int x0)])) t
    refine X0.ldcInt hx hown (mvT hZ (hw _ (List.mem_of_getElem? (i := 0) rfl))) (g := (mkF m 1 #[.val (.int x0), .val (.int x1), .unset, .unset, .unset, .unset, .unset, .unset, .unset, .unset] [(.int x0)])) rfl (hb hby at_1) _ ?_
    show Steps p.tables e below (T0.setTop (mkF m 3 #[.val (.int x0), .val (.int x1), .unset, .unset, .unset, .unset, .unset, .unset, .unset, .unset] [(.int (65535 : Int32)), (.int x0)])) t
    refine XS.iand X0.here hx rfl (hb hby at_3) rfl ?_
    show Steps p.tables e below (T0.setTop (mkF m 4 #[.val (.int x0), .val (.int x1), .unset, .unset, .unset, .unset, .unset, .unset, .unset, .unset] [(.int (x0 &&& (65535 : Int32)))])) t
    refine XS.i2c X0.here hx rfl (hb hby at_4) rfl ?_
    exact k
  refine letE hr ?_; intro v1 hv1 hr
  rw [← hv1]
  refine RunsW.via (T' := T0) (g' := (mkF m 7 #[.val (.int x0), .val (.int x1), .val (.int v1), .unset, .unset, .unset, .unset, .unset, .unset, .unset] [(.int v1)])) (fun t k => ?_) ?_
  · show Steps p.tables e below (T0.setTop (mkF m 5 #[.val (.int x0), .val (.int x1), .unset, .unset, .unset, .unset, .unset, .unset, .unset, .unset] [(.int v1)])) t
    refine XS.istoreN X0.here hx rfl (hb hby at_5) rfl (l' := #[.val (.int x0), .val (.int x1), .val (.int v1), .unset, .unset, .unset, .unset, .unset, .unset, .unset]) rfl ?_
    show Steps p.tables e below (T0.setTop (mkF m 6 #[.val (.int x0), .val (.int x1), .val (.int v1), .unset, .unset, .unset, .unset, .unset, .unset, .unset] [])) t
    refine XS.iloadN X0.here hx rfl (hb hby at_6) rfl ?_
    exact k
  obtain ⟨_, _, ⟨T2, L2, k2, n2⟩, -, X2, ⟨Lc2, hQ2, l2, y2, z2⟩, st2⟩ := Jvm.LawKit.callS X0 hx (y := (⟨"com/example/earned_trust/earnedtrust/model/UriSyntax", "isHexDigit", "(C)Z"⟩ : MethodName)) hown (mvT hZ (hw _ (List.mem_of_getElem? (i := 1) rfl))) (mvT hZ (hw _ (List.mem_of_getElem? (i := 2) rfl))) (mvT hZ (hw _ (List.mem_of_getElem? (i := 3) rfl))) (mvT hZ (hw _ (List.mem_of_getElem? (i := 4) rfl))) (by decide) (backOf (W := 0) (rm1 l Z a0 hw [] v1 h0 n0) hZ (hw _ (List.mem_of_getElem? (i := 4) rfl)) (hw _ (List.mem_of_getElem? (i := 3) rfl)) (by decide) (by decide)) (g := (mkF m 7 #[.val (.int x0), .val (.int x1), .val (.int v1), .unset, .unset, .unset, .unset, .unset, .unset, .unset] [(.int v1)])) rfl (by rw [hml]; rfl) (argsL := [(.int v1)]) (rest := []) (lenOf pd_0 rfl) rfl (by show 2 * 0 + _ ≤ _; exact Nat.le_of_eq rfl) (hb hby at_7) (fun _ _ => ⟨rfl, e0, (by show cells + 0 ≤ 8; omega), (by show slots + 0 ≤ 2112; omega)⟩)
  dsimp only [Pt.U, Pt.locs, Pt.cells, Pt.slots] at X2 l2 y2 z2 st2 hQ2
  replace y2 := y2.symm; replace z2 := z2.symm; subst l2 y2 z2
  obtain ⟨rfl, N2q, e2⟩ := hQ2
  have N2 := Fr.app N0 N2q
  refine RunsW.via (T' := T2) (g' := (mkF m 10 #[.val (.int x0), .val (.int x1), .val (.int v1), .unset, .unset, .unset, .unset, .unset, .unset, .unset] [(.int (f1 v1))])) (fun t k => st2 _ k) ?_
  refine RunsW.via (T' := T2) (g' := (mkF m 11 #[.val (.int x0), .val (.int x1), .val (.int v1), .unset, .unset, .unset, .unset, .unset, .unset, .unset] [(.int v1), (.int (f1 v1))])) (fun t k => ?_) ?_
  · show Steps p.tables e below (T2.setTop (mkF m 10 #[.val (.int x0), .val (.int x1), .val (.int v1), .unset, .unset, .unset, .unset, .unset, .unset, .unset] [(.int (f1 v1))])) t
    refine XS.iloadN X2.here hx rfl (hb hby at_10) rfl ?_
    exact k
  obtain ⟨_, _, ⟨T3, L3, k3, n3⟩, -, X3, ⟨Lc3, hQ3, l3, y3, z3⟩, st3⟩ := Jvm.LawKit.callS X2 hx (y := (⟨"com/example/earned_trust/earnedtrust/model/UriSyntaxIsHexDigitPinLaw", "reference", "(C)Z"⟩ : MethodName)) hown (mvT hZ (hw _ (List.mem_of_getElem? (i := 5) rfl))) (mvT hZ (hw _ (List.mem_of_getElem? (i := 6) rfl))) (mvT hZ (hw _ (List.mem_of_getElem? (i := 7) rfl))) (mvT hZ (hw _ (List.mem_of_getElem? (i := 8) rfl))) (by decide) (backOf (W := 1) (rm2 l Z a0 hw [] v1 h0 n0) hZ (hw _ (List.mem_of_getElem? (i := 8) rfl)) (hw _ (List.mem_of_getElem? (i := 7) rfl)) (by decide) (by decide)) (g := (mkF m 11 #[.val (.int x0), .val (.int x1), .val (.int v1), .unset, .unset, .unset, .unset, .unset, .unset, .unset] [(.int v1), (.int (f1 v1))])) rfl (by rw [hml]; rfl) (argsL := [(.int v1)]) (rest := [(.int (f1 v1))]) (lenOf pd_0 rfl) rfl (by show 2 * 0 + _ ≤ _; exact Nat.le_of_eq rfl) (hb hby at_11) (fun _ _ => ⟨rfl, e2, (by show (cells + 0) + 0 ≤ 8; omega), (by show (slots + 0) + 0 ≤ 2112; omega)⟩)
  dsimp only [Pt.U, Pt.locs, Pt.cells, Pt.slots] at X3 l3 y3 z3 st3 hQ3
  replace y3 := y3.symm; replace z3 := z3.symm; subst l3 y3 z3
  obtain ⟨rfl, N3q, e3⟩ := hQ3
  have N3 := Fr.app N2 N3q
  refine RunsW.via (T' := T3) (g' := (mkF m 14 #[.val (.int x0), .val (.int x1), .val (.int v1), .unset, .unset, .unset, .unset, .unset, .unset, .unset] [(.int (f2 v1)), (.int (f1 v1))])) (fun t k => st3 _ k) ?_
  refine iteE hr (fun hc4 hr => ?_) (fun hc4 hr => ?_)
  · refine RunsW.via (T' := T3) (g' := (mkF m 17 #[.val (.int x0), .val (.int x1), .val (.int v1), .unset, .unset, .unset, .unset, .unset, .unset, .unset] [])) (fun t k => ?_) ?_
    · show Steps p.tables e below (T3.setTop (mkF m 14 #[.val (.int x0), .val (.int x1), .val (.int v1), .unset, .unset, .unset, .unset, .unset, .unset, .unset] [(.int (f2 v1)), (.int (f1 v1))])) t
      exact XS.icmpNo X3.here hx rfl (hb hby at_14) rfl (teq hc4).2 k
    refine RunsW.via (T' := T3) (g' := (mkF m 23 #[.val (.int x0), .val (.int x1), .val (.int v1), .val (.int (1 : Int32)), .unset, .unset, .unset, .unset, .unset, .unset] [])) (fun t k => ?_) ?_
    · show Steps p.tables e below (T3.setTop (mkF m 17 #[.val (.int x0), .val (.int x1), .val (.int v1), .unset, .unset, .unset, .unset, .unset, .unset, .unset] [])) t
      refine XS.iconst X3.here hx rfl (hb hby at_17) ?_
      show Steps p.tables e below (T3.setTop (mkF m 18 #[.val (.int x0), .val (.int x1), .val (.int v1), .unset, .unset, .unset, .unset, .unset, .unset, .unset] [(.int (1 : Int32))])) t
      refine XS.goto X3.here hx rfl (pc0 := 18) (pc' := 22) rfl (hb hby at_18) (by decide) (by decide) ?_
      show Steps p.tables e below (T3.setTop (mkF m 22 #[.val (.int x0), .val (.int x1), .val (.int v1), .unset, .unset, .unset, .unset, .unset, .unset, .unset] [(.int (1 : Int32))])) t
      refine XS.istoreN X3.here hx rfl (hb hby at_22) rfl (l' := #[.val (.int x0), .val (.int x1), .val (.int v1), .val (.int (1 : Int32)), .unset, .unset, .unset, .unset, .unset, .unset]) rfl ?_
      exact k
    obtain ⟨zs23, T5, h5, ks5, zb23, zk5, X5, e5, E5, hS5, kk5, hZ, hown, SE5, SC5, SV5, SK5, -, -, IB5, st5⟩ := ldcSV X3 hx hZ hown (hw _ (List.mem_of_getElem? (i := 9) rfl)) (fun d hd => hw d ((by decide +kernel : ∀ d ∈ Bundle.stringAtoms, d ∈ tables_1) d hd)) e3 hS0 hk0 (hn0 ▸ N3) hkeep IB0 (by first | decide | simp) hh19 hcw (vs := (([48, 49, 50, 51, 52, 53, 54, 55, 56, 57, 97, 98, 99, 100, 101, 102, 65, 66, 67, 68, 69, 70] : List Int32).map StrChars.lo8).map Value.int) (z := Int32.ofNat 22) own_t19 (by decide) (by decide) (g := (mkF m 23 #[.val (.int x0), .val (.int x1), .val (.int v1), .val (.int (1 : Int32)), .unset, .unset, .unset, .unset, .unset, .unset] [])) rfl (hb hby at_23) (n := 88) (by decide) (by decide) (by show ((cells + 0) + 0) + 2 ≤ 8; omega) (by show ((slots + 0) + 0) + 92 ≤ 2112; omega)
    have i5 := E5.1
    have zz5 : n0 ≤ h5.size := Nat.le_trans Z1 i5
    have C : Ctx p (s.setVm T5.vm) m meth c Z a0 "com/example/earned_trust/earnedtrust/model/UriSyntaxIsHexDigitPinLaw" code 10 (some .boolean) "law" := ⟨hx, hZ, hw, hby, hml, hown, hret, hlk, hnm⟩
    refine RunsW.via (T' := T5) (g' := (mkF m 25 #[.val (.int x0), .val (.int x1), .val (.int v1), .val (.int (1 : Int32)), .unset, .unset, .unset, .unset, .unset, .unset] [(.ref zs23)])) (fun t k => st5 _ k) ?_
    refine RunsW.via (T' := T5) (g' := (mkF m 36 #[.val (.int x0), .val (.int x1), .val (.int v1), .val (.int (1 : Int32)), .val (.ref zs23), .unset, .unset, .unset, .unset, .unset] [(.int ((x1 &&& (2147483647 : Int32)) - ((x1 &&& (2147483647 : Int32)) / (22 : Int32)) * (22 : Int32))), (.ref zs23)])) (fun t k => ?_) ?_
    · show Steps p.tables e below (T5.setTop (mkF m 25 #[.val (.int x0), .val (.int x1), .val (.int v1), .val (.int (1 : Int32)), .unset, .unset, .unset, .unset, .unset, .unset] [(.ref zs23)])) t
      refine XS.astore X5.here hx rfl (hb hby at_25) rfl rfl (l' := #[.val (.int x0), .val (.int x1), .val (.int v1), .val (.int (1 : Int32)), .val (.ref zs23), .unset, .unset, .unset, .unset, .unset]) rfl ?_
      show Steps p.tables e below (T5.setTop (mkF m 27 #[.val (.int x0), .val (.int x1), .val (.int v1), .val (.int (1 : Int32)), .val (.ref zs23), .unset, .unset, .unset, .unset, .unset] [])) t
      refine XS.aload X5.here hx rfl (hb hby at_27) rfl rfl ?_
      show Steps p.tables e below (T5.setTop (mkF m 29 #[.val (.int x0), .val (.int x1), .val (.int v1), .val (.int (1 : Int32)), .val (.ref zs23), .unset, .unset, .unset, .unset, .unset] [(.ref zs23)])) t
      refine XS.iloadN X5.here hx rfl (hb hby at_29) rfl ?_
      show Steps p.tables e below (T5.setTop (mkF m 30 #[.val (.int x0), .val (.int x1), .val (.int v1), .val (.int (1 : Int32)), .val (.ref zs23), .unset, .unset, .unset, .unset, .unset] [(.int x1), (.ref zs23)])) t
      refine X5.ldcInt hx hown (mvT hZ (hw _ (List.mem_of_getElem? (i := 17) rfl))) (g := (mkF m 30 #[.val (.int x0), .val (.int x1), .val (.int v1), .val (.int (1 : Int32)), .val (.ref zs23), .unset, .unset, .unset, .unset, .unset] [(.int x1), (.ref zs23)])) rfl (hb hby at_30) _ ?_
      show Steps p.tables e below (T5.setTop (mkF m 32 #[.val (.int x0), .val (.int x1), .val (.int v1), .val (.int (1 : Int32)), .val (.ref zs23), .unset, .unset, .unset, .unset, .unset] [(.int (2147483647 : Int32)), (.int x1), (.ref zs23)])) t
      refine XS.iand X5.here hx rfl (hb hby at_32) rfl ?_
      show Steps p.tables e below (T5.setTop (mkF m 33 #[.val (.int x0), .val (.int x1), .val (.int v1), .val (.int (1 : Int32)), .val (.ref zs23), .unset, .unset, .unset, .unset, .unset] [(.int (x1 &&& (2147483647 : Int32))), (.ref zs23)])) t
      refine XS.bipush X5.here hx rfl (hb hby at_33) ?_
      show Steps p.tables e below (T5.setTop (mkF m 35 #[.val (.int x0), .val (.int x1), .val (.int v1), .val (.int (1 : Int32)), .val (.ref zs23), .unset, .unset, .unset, .unset, .unset] [(.int (22 : Int32)), (.int (x1 &&& (2147483647 : Int32))), (.ref zs23)])) t
      refine XS.irem X5.here hx rfl (hb hby at_35) rfl (by decide) ?_
      exact k
    refine bindE hr ?_; intro v6 hv6 hr
    obtain ⟨qi6, qj6, qv6⟩ := own_ch hv6
    obtain ⟨cq6, kq6, q6a, q6b, q6c⟩ := isOf hZ e5 SE5
    obtain ⟨_, _, ⟨T6, L6, k6, n6⟩, -, X6, ⟨Lc6, hQ6, l6, y6, z6⟩, st6⟩ := X5.virtualBack hx (y := (⟨"java/lang/String", "charAt", "(I)C"⟩ : MethodName)) (z := (⟨"java/lang/String", "charAt", "(I)C"⟩ : MethodName)) hown (mvT hZ (hw _ (List.mem_of_getElem? (i := 18) rfl))) (mvT hZ (hw _ (List.mem_of_getElem? (i := 19) rfl))) (notFace_of_selects (args := #[]) (mvT hZ (hw _ (List.mem_of_getElem? (i := 21) rfl)))) (mvT hZ (hw _ (List.mem_of_getElem? (i := 21) rfl))) (mvT hZ (hw _ (List.mem_of_getElem? (i := 20) rfl))) (by decide) (StrChars.Road.chN (W := 0) hZ (fun d hd => hw d ((by decide +kernel : ∀ d ∈ StrChars.Road.wordsChN, d ∈ tables_1) d hd)) (kI := 4) (hw _ (List.mem_of_getElem? (i := 11) rfl)) SE5 SV5 SC5 SK5 (StrChars.Road.codOf (cs := ([48, 49, 50, 51, 52, 53, 54, 55, 56, 57, 97, 98, 99, 100, 101, 102, 65, 66, 67, 68, 69, 70] : List Int32)) rfl (by decide)) (by decide) (O2.ext E5) P5 (O4.ext E5) rG3 (by decide) (i := (((x1 &&& (2147483647 : Int32)) - ((x1 &&& (2147483647 : Int32)) / (22 : Int32)) * (22 : Int32))).toNatClampNeg) qi6 (j := ((x1 &&& (2147483647 : Int32)) - ((x1 &&& (2147483647 : Int32)) / (22 : Int32)) * (22 : Int32))) qj6 (by decide) (by decide)) q6a q6c (g := (mkF m 36 #[.val (.int x0), .val (.int x1), .val (.int v1), .val (.int (1 : Int32)), .val (.ref zs23), .unset, .unset, .unset, .unset, .unset] [(.int ((x1 &&& (2147483647 : Int32)) - ((x1 &&& (2147483647 : Int32)) / (22 : Int32)) * (22 : Int32))), (.ref zs23)])) rfl (by rw [hml]; rfl) (Steps.refl _) (argsL := [(.int ((x1 &&& (2147483647 : Int32)) - ((x1 &&& (2147483647 : Int32)) / (22 : Int32)) * (22 : Int32)))]) (rest := []) (lenOf pd_1 rfl) rfl (by show 2 * 0 + _ ≤ _; exact Nat.le_of_eq rfl) (hb hby at_36) (fun _ _ => ⟨rfl, e5, (by show (((cells + 0) + 0) + 2) + 0 ≤ 8; omega), (by show (((slots + 0) + 0) + 92) + 0 ≤ 2112; omega)⟩)
    dsimp only [Pt.U, Pt.locs, Pt.cells, Pt.slots] at X6 l6 y6 z6 st6 hQ6
    replace y6 := y6.symm; replace z6 := z6.symm; subst l6 y6 z6
    rw [qv6] at hQ6
    obtain ⟨rfl, rfl, e6⟩ := hQ6
    have N6 := Fr.app N3 (Fr.nil n0)
    refine RunsW.via (T' := T6) (g' := (mkF m 39 #[.val (.int x0), .val (.int x1), .val (.int v1), .val (.int (1 : Int32)), .val (.ref zs23), .unset, .unset, .unset, .unset, .unset] [(.int v6)])) (fun t k => st6.trans k) ?_
    refine RunsW.via (T' := T6) (g' := (mkF m 43 #[.val (.int x0), .val (.int x1), .val (.int v1), .val (.int (1 : Int32)), .val (.ref zs23), .val (.int v6), .unset, .unset, .unset, .unset] [(.int v6)])) (fun t k => ?_) ?_
    · show Steps p.tables e below (T6.setTop (mkF m 39 #[.val (.int x0), .val (.int x1), .val (.int v1), .val (.int (1 : Int32)), .val (.ref zs23), .unset, .unset, .unset, .unset, .unset] [(.int v6)])) t
      refine XS.istore X6.here hx rfl (hb hby at_39) rfl (l' := #[.val (.int x0), .val (.int x1), .val (.int v1), .val (.int (1 : Int32)), .val (.ref zs23), .val (.int v6), .unset, .unset, .unset, .unset]) rfl ?_
      show Steps p.tables e below (T6.setTop (mkF m 41 #[.val (.int x0), .val (.int x1), .val (.int v1), .val (.int (1 : Int32)), .val (.ref zs23), .val (.int v6), .unset, .unset, .unset, .unset] [])) t
      refine XS.iload X6.here hx rfl (hb hby at_41) rfl ?_
      exact k
    obtain ⟨_, _, ⟨T7, L7, k7, n7⟩, -, X7, ⟨Lc7, hQ7, l7, y7, z7⟩, st7⟩ := Jvm.LawKit.callS X6 hx (y := (⟨"com/example/earned_trust/earnedtrust/model/UriSyntax", "isHexDigit", "(C)Z"⟩ : MethodName)) hown (mvT hZ (hw _ (List.mem_of_getElem? (i := 1) rfl))) (mvT hZ (hw _ (List.mem_of_getElem? (i := 2) rfl))) (mvT hZ (hw _ (List.mem_of_getElem? (i := 3) rfl))) (mvT hZ (hw _ (List.mem_of_getElem? (i := 4) rfl))) (by decide) (backOf (W := 0) (rm1 l Z a0 hw [] v6 h5 n0) hZ (hw _ (List.mem_of_getElem? (i := 4) rfl)) (hw _ (List.mem_of_getElem? (i := 3) rfl)) (by decide) (by decide)) (g := (mkF m 43 #[.val (.int x0), .val (.int x1), .val (.int v1), .val (.int (1 : Int32)), .val (.ref zs23), .val (.int v6), .unset, .unset, .unset, .unset] [(.int v6)])) rfl (by rw [hml]; rfl) (argsL := [(.int v6)]) (rest := []) (lenOf pd_0 rfl) rfl (by show 2 * 0 + _ ≤ _; exact Nat.le_of_eq rfl) (hb hby at_43) (fun _ _ => ⟨rfl, e6, (by show ((((cells + 0) + 0) + 2) + 0) + 0 ≤ 8; omega), (by show ((((slots + 0) + 0) + 92) + 0) + 0 ≤ 2112; omega)⟩)
    dsimp only [Pt.U, Pt.locs, Pt.cells, Pt.slots] at X7 l7 y7 z7 st7 hQ7
    replace y7 := y7.symm; replace z7 := z7.symm; subst l7 y7 z7
    obtain ⟨rfl, N7q, e7⟩ := hQ7
    have N7 := Fr.app N6 N7q
    refine RunsW.via (T' := T7) (g' := (mkF m 46 #[.val (.int x0), .val (.int x1), .val (.int v1), .val (.int (1 : Int32)), .val (.ref zs23), .val (.int v6), .unset, .unset, .unset, .unset] [(.int (f1 v6))])) (fun t k => st7 _ k) ?_
    refine letE hr ?_; intro v8 hv8 hr
    rw [← hv8]
    refine RunsW.via (T' := T7) (g' := (mkF m 48 #[.val (.int x0), .val (.int x1), .val (.int v1), .val (.int (1 : Int32)), .val (.ref zs23), .val (.int v6), .val (.int v8), .unset, .unset, .unset] [])) (fun t k => ?_) ?_
    · show Steps p.tables e below (T7.setTop (mkF m 46 #[.val (.int x0), .val (.int x1), .val (.int v1), .val (.int (1 : Int32)), .val (.ref zs23), .val (.int v6), .unset, .unset, .unset, .unset] [(.int v8)])) t
      refine XS.istore X7.here hx rfl (hb hby at_46) rfl (l' := #[.val (.int x0), .val (.int x1), .val (.int v1), .val (.int (1 : Int32)), .val (.ref zs23), .val (.int v6), .val (.int v8), .unset, .unset, .unset]) rfl ?_
      exact k
    obtain ⟨zs48, T9, h9, ks9, zb48, zk9, X9, e9, E9, hS9, kk9, hZ, hown, SE9, SC9, SV9, SK9, -, -, IB9, st9⟩ := ldcSV X7 hx hZ hown (hw _ (List.mem_of_getElem? (i := 43) rfl)) (fun d hd => hw d ((by decide +kernel : ∀ d ∈ Bundle.stringAtoms, d ∈ tables_1) d hd)) e7 hS5 kk5 (hn0 ▸ N7) hkeep IB5 (by first | decide | simp) hh28 hcw (vs := (([47, 58, 64, 71, 96, 103] : List Int32).map StrChars.lo8).map Value.int) (z := Int32.ofNat 6) own_t28 (by decide) (by decide) (g := (mkF m 48 #[.val (.int x0), .val (.int x1), .val (.int v1), .val (.int (1 : Int32)), .val (.ref zs23), .val (.int v6), .val (.int v8), .unset, .unset, .unset] [])) rfl (hb hby at_48) (n := 24) (by decide) (by decide) (by show (((((cells + 0) + 0) + 2) + 0) + 0) + 2 ≤ 8; omega) (by show (((((slots + 0) + 0) + 92) + 0) + 0) + 28 ≤ 2112; omega)
    have i9 := E9.1
    have zz9 : n0 ≤ h9.size := Nat.le_trans zz5 i9
    have C : Ctx p (s.setVm T9.vm) m meth c Z a0 "com/example/earned_trust/earnedtrust/model/UriSyntaxIsHexDigitPinLaw" code 10 (some .boolean) "law" := ⟨hx, hZ, hw, hby, hml, hown, hret, hlk, hnm⟩
    refine RunsW.via (T' := T9) (g' := (mkF m 50 #[.val (.int x0), .val (.int x1), .val (.int v1), .val (.int (1 : Int32)), .val (.ref zs23), .val (.int v6), .val (.int v8), .unset, .unset, .unset] [(.ref zs48)])) (fun t k => st9 _ k) ?_
    refine RunsW.via (T' := T9) (g' := (mkF m 61 #[.val (.int x0), .val (.int x1), .val (.int v1), .val (.int (1 : Int32)), .val (.ref zs23), .val (.int v6), .val (.int v8), .val (.ref zs48), .unset, .unset] [(.int ((x1 &&& (2147483647 : Int32)) - ((x1 &&& (2147483647 : Int32)) / (6 : Int32)) * (6 : Int32))), (.ref zs48)])) (fun t k => ?_) ?_
    · show Steps p.tables e below (T9.setTop (mkF m 50 #[.val (.int x0), .val (.int x1), .val (.int v1), .val (.int (1 : Int32)), .val (.ref zs23), .val (.int v6), .val (.int v8), .unset, .unset, .unset] [(.ref zs48)])) t
      refine XS.astore X9.here hx rfl (hb hby at_50) rfl rfl (l' := #[.val (.int x0), .val (.int x1), .val (.int v1), .val (.int (1 : Int32)), .val (.ref zs23), .val (.int v6), .val (.int v8), .val (.ref zs48), .unset, .unset]) rfl ?_
      show Steps p.tables e below (T9.setTop (mkF m 52 #[.val (.int x0), .val (.int x1), .val (.int v1), .val (.int (1 : Int32)), .val (.ref zs23), .val (.int v6), .val (.int v8), .val (.ref zs48), .unset, .unset] [])) t
      refine XS.aload X9.here hx rfl (hb hby at_52) rfl rfl ?_
      show Steps p.tables e below (T9.setTop (mkF m 54 #[.val (.int x0), .val (.int x1), .val (.int v1), .val (.int (1 : Int32)), .val (.ref zs23), .val (.int v6), .val (.int v8), .val (.ref zs48), .unset, .unset] [(.ref zs48)])) t
      refine XS.iloadN X9.here hx rfl (hb hby at_54) rfl ?_
      show Steps p.tables e below (T9.setTop (mkF m 55 #[.val (.int x0), .val (.int x1), .val (.int v1), .val (.int (1 : Int32)), .val (.ref zs23), .val (.int v6), .val (.int v8), .val (.ref zs48), .unset, .unset] [(.int x1), (.ref zs48)])) t
      refine X9.ldcInt hx hown (mvT hZ (hw _ (List.mem_of_getElem? (i := 17) rfl))) (g := (mkF m 55 #[.val (.int x0), .val (.int x1), .val (.int v1), .val (.int (1 : Int32)), .val (.ref zs23), .val (.int v6), .val (.int v8), .val (.ref zs48), .unset, .unset] [(.int x1), (.ref zs48)])) rfl (hb hby at_55) _ ?_
      show Steps p.tables e below (T9.setTop (mkF m 57 #[.val (.int x0), .val (.int x1), .val (.int v1), .val (.int (1 : Int32)), .val (.ref zs23), .val (.int v6), .val (.int v8), .val (.ref zs48), .unset, .unset] [(.int (2147483647 : Int32)), (.int x1), (.ref zs48)])) t
      refine XS.iand X9.here hx rfl (hb hby at_57) rfl ?_
      show Steps p.tables e below (T9.setTop (mkF m 58 #[.val (.int x0), .val (.int x1), .val (.int v1), .val (.int (1 : Int32)), .val (.ref zs23), .val (.int v6), .val (.int v8), .val (.ref zs48), .unset, .unset] [(.int (x1 &&& (2147483647 : Int32))), (.ref zs48)])) t
      refine XS.bipush X9.here hx rfl (hb hby at_58) ?_
      show Steps p.tables e below (T9.setTop (mkF m 60 #[.val (.int x0), .val (.int x1), .val (.int v1), .val (.int (1 : Int32)), .val (.ref zs23), .val (.int v6), .val (.int v8), .val (.ref zs48), .unset, .unset] [(.int (6 : Int32)), (.int (x1 &&& (2147483647 : Int32))), (.ref zs48)])) t
      refine XS.irem X9.here hx rfl (hb hby at_60) rfl (by decide) ?_
      exact k
    refine bindE hr ?_; intro v10 hv10 hr
    obtain ⟨qi10, qj10, qv10⟩ := own_ch hv10
    obtain ⟨cq10, kq10, q10a, q10b, q10c⟩ := isOf hZ e9 SE9
    obtain ⟨_, _, ⟨T10, L10, k10, n10⟩, -, X10, ⟨Lc10, hQ10, l10, y10, z10⟩, st10⟩ := X9.virtualBack hx (y := (⟨"java/lang/String", "charAt", "(I)C"⟩ : MethodName)) (z := (⟨"java/lang/String", "charAt", "(I)C"⟩ : MethodName)) hown (mvT hZ (hw _ (List.mem_of_getElem? (i := 18) rfl))) (mvT hZ (hw _ (List.mem_of_getElem? (i := 19) rfl))) (notFace_of_selects (args := #[]) (mvT hZ (hw _ (List.mem_of_getElem? (i := 21) rfl)))) (mvT hZ (hw _ (List.mem_of_getElem? (i := 21) rfl))) (mvT hZ (hw _ (List.mem_of_getElem? (i := 20) rfl))) (by decide) (StrChars.Road.chN (W := 0) hZ (fun d hd => hw d ((by decide +kernel : ∀ d ∈ StrChars.Road.wordsChN, d ∈ tables_1) d hd)) (kI := 4) (hw _ (List.mem_of_getElem? (i := 11) rfl)) SE9 SV9 SC9 SK9 (StrChars.Road.codOf (cs := ([47, 58, 64, 71, 96, 103] : List Int32)) rfl (by decide)) (by decide) ((O2.ext E5).ext E9) P5 ((O4.ext E5).ext E9) rG3 (by decide) (i := (((x1 &&& (2147483647 : Int32)) - ((x1 &&& (2147483647 : Int32)) / (6 : Int32)) * (6 : Int32))).toNatClampNeg) qi10 (j := ((x1 &&& (2147483647 : Int32)) - ((x1 &&& (2147483647 : Int32)) / (6 : Int32)) * (6 : Int32))) qj10 (by decide) (by decide)) q10a q10c (g := (mkF m 61 #[.val (.int x0), .val (.int x1), .val (.int v1), .val (.int (1 : Int32)), .val (.ref zs23), .val (.int v6), .val (.int v8), .val (.ref zs48), .unset, .unset] [(.int ((x1 &&& (2147483647 : Int32)) - ((x1 &&& (2147483647 : Int32)) / (6 : Int32)) * (6 : Int32))), (.ref zs48)])) rfl (by rw [hml]; rfl) (Steps.refl _) (argsL := [(.int ((x1 &&& (2147483647 : Int32)) - ((x1 &&& (2147483647 : Int32)) / (6 : Int32)) * (6 : Int32)))]) (rest := []) (lenOf pd_1 rfl) rfl (by show 2 * 0 + _ ≤ _; exact Nat.le_of_eq rfl) (hb hby at_61) (fun _ _ => ⟨rfl, e9, (by show ((((((cells + 0) + 0) + 2) + 0) + 0) + 2) + 0 ≤ 8; omega), (by show ((((((slots + 0) + 0) + 92) + 0) + 0) + 28) + 0 ≤ 2112; omega)⟩)
    dsimp only [Pt.U, Pt.locs, Pt.cells, Pt.slots] at X10 l10 y10 z10 st10 hQ10
    replace y10 := y10.symm; replace z10 := z10.symm; subst l10 y10 z10
    rw [qv10] at hQ10
    obtain ⟨rfl, rfl, e10⟩ := hQ10
    have N10 := Fr.app N7 (Fr.nil n0)
    refine RunsW.via (T' := T10) (g' := (mkF m 64 #[.val (.int x0), .val (.int x1), .val (.int v1), .val (.int (1 : Int32)), .val (.ref zs23), .val (.int v6), .val (.int v8), .val (.ref zs48), .unset, .unset] [(.int v10)])) (fun t k => st10.trans k) ?_
    refine RunsW.via (T' := T10) (g' := (mkF m 68 #[.val (.int x0), .val (.int x1), .val (.int v1), .val (.int (1 : Int32)), .val (.ref zs23), .val (.int v6), .val (.int v8), .val (.ref zs48), .val (.int v10), .unset] [(.int v10)])) (fun t k => ?_) ?_
    · show Steps p.tables e below (T10.setTop (mkF m 64 #[.val (.int x0), .val (.int x1), .val (.int v1), .val (.int (1 : Int32)), .val (.ref zs23), .val (.int v6), .val (.int v8), .val (.ref zs48), .unset, .unset] [(.int v10)])) t
      refine XS.istore X10.here hx rfl (hb hby at_64) rfl (l' := #[.val (.int x0), .val (.int x1), .val (.int v1), .val (.int (1 : Int32)), .val (.ref zs23), .val (.int v6), .val (.int v8), .val (.ref zs48), .val (.int v10), .unset]) rfl ?_
      show Steps p.tables e below (T10.setTop (mkF m 66 #[.val (.int x0), .val (.int x1), .val (.int v1), .val (.int (1 : Int32)), .val (.ref zs23), .val (.int v6), .val (.int v8), .val (.ref zs48), .val (.int v10), .unset] [])) t
      refine XS.iload X10.here hx rfl (hb hby at_66) rfl ?_
      exact k
    obtain ⟨_, _, ⟨T11, L11, k11, n11⟩, -, X11, ⟨Lc11, hQ11, l11, y11, z11⟩, st11⟩ := Jvm.LawKit.callS X10 hx (y := (⟨"com/example/earned_trust/earnedtrust/model/UriSyntax", "isHexDigit", "(C)Z"⟩ : MethodName)) hown (mvT hZ (hw _ (List.mem_of_getElem? (i := 1) rfl))) (mvT hZ (hw _ (List.mem_of_getElem? (i := 2) rfl))) (mvT hZ (hw _ (List.mem_of_getElem? (i := 3) rfl))) (mvT hZ (hw _ (List.mem_of_getElem? (i := 4) rfl))) (by decide) (backOf (W := 0) (rm1 l Z a0 hw [] v10 h9 n0) hZ (hw _ (List.mem_of_getElem? (i := 4) rfl)) (hw _ (List.mem_of_getElem? (i := 3) rfl)) (by decide) (by decide)) (g := (mkF m 68 #[.val (.int x0), .val (.int x1), .val (.int v1), .val (.int (1 : Int32)), .val (.ref zs23), .val (.int v6), .val (.int v8), .val (.ref zs48), .val (.int v10), .unset] [(.int v10)])) rfl (by rw [hml]; rfl) (argsL := [(.int v10)]) (rest := []) (lenOf pd_0 rfl) rfl (by show 2 * 0 + _ ≤ _; exact Nat.le_of_eq rfl) (hb hby at_68) (fun _ _ => ⟨rfl, e10, (by show (((((((cells + 0) + 0) + 2) + 0) + 0) + 2) + 0) + 0 ≤ 8; omega), (by show (((((((slots + 0) + 0) + 92) + 0) + 0) + 28) + 0) + 0 ≤ 2112; omega)⟩)
    dsimp only [Pt.U, Pt.locs, Pt.cells, Pt.slots] at X11 l11 y11 z11 st11 hQ11
    replace y11 := y11.symm; replace z11 := z11.symm; subst l11 y11 z11
    obtain ⟨rfl, N11q, e11⟩ := hQ11
    have N11 := Fr.app N10 N11q
    refine RunsW.via (T' := T11) (g' := (mkF m 71 #[.val (.int x0), .val (.int x1), .val (.int v1), .val (.int (1 : Int32)), .val (.ref zs23), .val (.int v6), .val (.int v8), .val (.ref zs48), .val (.int v10), .unset] [(.int (f1 v10))])) (fun t k => st11 _ k) ?_
    refine iteE hr (fun hc12 hr => ?_) (fun hc12 hr => ?_)
    · refine RunsW.via (T' := T11) (g' := (mkF m 74 #[.val (.int x0), .val (.int x1), .val (.int v1), .val (.int (1 : Int32)), .val (.ref zs23), .val (.int v6), .val (.int v8), .val (.ref zs48), .val (.int v10), .unset] [])) (fun t k => ?_) ?_
      · show Steps p.tables e below (T11.setTop (mkF m 71 #[.val (.int x0), .val (.int x1), .val (.int v1), .val (.int (1 : Int32)), .val (.ref zs23), .val (.int v6), .val (.int v8), .val (.ref zs48), .val (.int v10), .unset] [(.int (f1 v10))])) t
        exact XS.ifNo X11.here hx rfl (hb hby at_71) rfl ((if0 _ _).trans (teq hc12).2) k
      refine RunsW.via (T' := T11) (g' := (mkF m 82 #[.val (.int x0), .val (.int x1), .val (.int v1), .val (.int (1 : Int32)), .val (.ref zs23), .val (.int v6), .val (.int v8), .val (.ref zs48), .val (.int v10), .val (.int (1 : Int32))] [(.int (1 : Int32))])) (fun t k => ?_) ?_
      · show Steps p.tables e below (T11.setTop (mkF m 74 #[.val (.int x0), .val (.int x1), .val (.int v1), .val (.int (1 : Int32)), .val (.ref zs23), .val (.int v6), .val (.int v8), .val (.ref zs48), .val (.int v10), .unset] [])) t
        refine XS.iconst X11.here hx rfl (hb hby at_74) ?_
        show Steps p.tables e below (T11.setTop (mkF m 75 #[.val (.int x0), .val (.int x1), .val (.int v1), .val (.int (1 : Int32)), .val (.ref zs23), .val (.int v6), .val (.int v8), .val (.ref zs48), .val (.int v10), .unset] [(.int (1 : Int32))])) t
        refine XS.goto X11.here hx rfl (pc0 := 75) (pc' := 79) rfl (hb hby at_75) (by decide) (by decide) ?_
        show Steps p.tables e below (T11.setTop (mkF m 79 #[.val (.int x0), .val (.int x1), .val (.int v1), .val (.int (1 : Int32)), .val (.ref zs23), .val (.int v6), .val (.int v8), .val (.ref zs48), .val (.int v10), .unset] [(.int (1 : Int32))])) t
        refine XS.istore X11.here hx rfl (hb hby at_79) rfl (l' := #[.val (.int x0), .val (.int x1), .val (.int v1), .val (.int (1 : Int32)), .val (.ref zs23), .val (.int v6), .val (.int v8), .val (.ref zs48), .val (.int v10), .val (.int (1 : Int32))]) rfl ?_
        show Steps p.tables e below (T11.setTop (mkF m 81 #[.val (.int x0), .val (.int x1), .val (.int v1), .val (.int (1 : Int32)), .val (.ref zs23), .val (.int v6), .val (.int v8), .val (.ref zs48), .val (.int v10), .val (.int (1 : Int32))] [])) t
        refine XS.iloadN X11.here hx rfl (hb hby at_81) rfl ?_
        exact k
      refine iteE hr (fun hc13 hr => ?_) (fun hc13 hr => ?_)
      · refine RunsW.via (T' := T11) (g' := (mkF m 99 #[.val (.int x0), .val (.int x1), .val (.int v1), .val (.int (1 : Int32)), .val (.ref zs23), .val (.int v6), .val (.int v8), .val (.ref zs48), .val (.int v10), .val (.int (1 : Int32))] [])) (fun t k => ?_) ?_
        · show Steps p.tables e below (T11.setTop (mkF m 82 #[.val (.int x0), .val (.int x1), .val (.int v1), .val (.int (1 : Int32)), .val (.ref zs23), .val (.int v6), .val (.int v8), .val (.ref zs48), .val (.int v10), .val (.int (1 : Int32))] [(.int (1 : Int32))])) t
          exact XS.ifYes X11.here hx rfl (pc0 := 82) (pc' := 99) rfl (hb hby at_82) rfl ((if0 _ _).trans (teq hc13).1) (by decide) (by decide) k
        refine RunsW.via (T' := T11) (g' := (mkF m 100 #[.val (.int x0), .val (.int x1), .val (.int v1), .val (.int (1 : Int32)), .val (.ref zs23), .val (.int v6), .val (.int v8), .val (.ref zs48), .val (.int v10), .val (.int (1 : Int32))] [(.int (0 : Int32))])) (fun t k => ?_) ?_
        · show Steps p.tables e below (T11.setTop (mkF m 99 #[.val (.int x0), .val (.int x1), .val (.int v1), .val (.int (1 : Int32)), .val (.ref zs23), .val (.int v6), .val (.int v8), .val (.ref zs48), .val (.int v10), .val (.int (1 : Int32))] [])) t
          refine XS.iconst X11.here hx rfl (hb hby at_99) ?_
          exact k
        obtain rfl := Option.some.inj hr
        exact own_retNW X11 hx hlk (t := .boolean) hret (by simp) (hb hby at_100) hS9 (by first | (rw [e11]; exact kk9) | exact Nat.le_refl _) (by show ((((((((cells + 0) + 0) + 2) + 0) + 0) + 2) + 0) + 0) ≤ 4; omega) (by show ((((((((slots + 0) + 0) + 92) + 0) + 0) + 28) + 0) + 0) ≤ 120; omega) ⟨rfl, N11⟩
      · refine RunsW.via (T' := T11) (g' := (mkF m 85 #[.val (.int x0), .val (.int x1), .val (.int v1), .val (.int (1 : Int32)), .val (.ref zs23), .val (.int v6), .val (.int v8), .val (.ref zs48), .val (.int v10), .val (.int (1 : Int32))] [])) (fun t k => ?_) ?_
        · show Steps p.tables e below (T11.setTop (mkF m 82 #[.val (.int x0), .val (.int x1), .val (.int v1), .val (.int (1 : Int32)), .val (.ref zs23), .val (.int v6), .val (.int v8), .val (.ref zs48), .val (.int v10), .val (.int (1 : Int32))] [(.int (1 : Int32))])) t
          exact XS.ifNo X11.here hx rfl (hb hby at_82) rfl ((if0 _ _).trans (feq hc13).1) k
        refine RunsW.via (T' := T11) (g' := (mkF m 87 #[.val (.int x0), .val (.int x1), .val (.int v1), .val (.int (1 : Int32)), .val (.ref zs23), .val (.int v6), .val (.int v8), .val (.ref zs48), .val (.int v10), .val (.int (1 : Int32))] [(.int v8)])) (fun t k => ?_) ?_
        · show Steps p.tables e below (T11.setTop (mkF m 85 #[.val (.int x0), .val (.int x1), .val (.int v1), .val (.int (1 : Int32)), .val (.ref zs23), .val (.int v6), .val (.int v8), .val (.ref zs48), .val (.int v10), .val (.int (1 : Int32))] [])) t
          refine XS.iload X11.here hx rfl (hb hby at_85) rfl ?_
          exact k
        refine iteE hr (fun hc14 hr => ?_) (fun hc14 hr => ?_)
        · refine RunsW.via (T' := T11) (g' := (mkF m 99 #[.val (.int x0), .val (.int x1), .val (.int v1), .val (.int (1 : Int32)), .val (.ref zs23), .val (.int v6), .val (.int v8), .val (.ref zs48), .val (.int v10), .val (.int (1 : Int32))] [])) (fun t k => ?_) ?_
          · show Steps p.tables e below (T11.setTop (mkF m 87 #[.val (.int x0), .val (.int x1), .val (.int v1), .val (.int (1 : Int32)), .val (.ref zs23), .val (.int v6), .val (.int v8), .val (.ref zs48), .val (.int v10), .val (.int (1 : Int32))] [(.int v8)])) t
            exact XS.ifYes X11.here hx rfl (pc0 := 87) (pc' := 99) rfl (hb hby at_87) rfl ((if0 _ _).trans (teq hc14).1) (by decide) (by decide) k
          refine RunsW.via (T' := T11) (g' := (mkF m 100 #[.val (.int x0), .val (.int x1), .val (.int v1), .val (.int (1 : Int32)), .val (.ref zs23), .val (.int v6), .val (.int v8), .val (.ref zs48), .val (.int v10), .val (.int (1 : Int32))] [(.int (0 : Int32))])) (fun t k => ?_) ?_
          · show Steps p.tables e below (T11.setTop (mkF m 99 #[.val (.int x0), .val (.int x1), .val (.int v1), .val (.int (1 : Int32)), .val (.ref zs23), .val (.int v6), .val (.int v8), .val (.ref zs48), .val (.int v10), .val (.int (1 : Int32))] [])) t
            refine XS.iconst X11.here hx rfl (hb hby at_99) ?_
            exact k
          obtain rfl := Option.some.inj hr
          exact own_retNW X11 hx hlk (t := .boolean) hret (by simp) (hb hby at_100) hS9 (by first | (rw [e11]; exact kk9) | exact Nat.le_refl _) (by show ((((((((cells + 0) + 0) + 2) + 0) + 0) + 2) + 0) + 0) ≤ 4; omega) (by show ((((((((slots + 0) + 0) + 92) + 0) + 0) + 28) + 0) + 0) ≤ 120; omega) ⟨rfl, N11⟩
        · refine RunsW.via (T' := T11) (g' := (mkF m 90 #[.val (.int x0), .val (.int x1), .val (.int v1), .val (.int (1 : Int32)), .val (.ref zs23), .val (.int v6), .val (.int v8), .val (.ref zs48), .val (.int v10), .val (.int (1 : Int32))] [])) (fun t k => ?_) ?_
          · show Steps p.tables e below (T11.setTop (mkF m 87 #[.val (.int x0), .val (.int x1), .val (.int v1), .val (.int (1 : Int32)), .val (.ref zs23), .val (.int v6), .val (.int v8), .val (.ref zs48), .val (.int v10), .val (.int (1 : Int32))] [(.int v8)])) t
            exact XS.ifNo X11.here hx rfl (hb hby at_87) rfl ((if0 _ _).trans (feq hc14).1) k
          refine RunsW.via (T' := T11) (g' := (mkF m 92 #[.val (.int x0), .val (.int x1), .val (.int v1), .val (.int (1 : Int32)), .val (.ref zs23), .val (.int v6), .val (.int v8), .val (.ref zs48), .val (.int v10), .val (.int (1 : Int32))] [(.int (1 : Int32))])) (fun t k => ?_) ?_
          · show Steps p.tables e below (T11.setTop (mkF m 90 #[.val (.int x0), .val (.int x1), .val (.int v1), .val (.int (1 : Int32)), .val (.ref zs23), .val (.int v6), .val (.int v8), .val (.ref zs48), .val (.int v10), .val (.int (1 : Int32))] [])) t
            refine XS.iload X11.here hx rfl (hb hby at_90) rfl ?_
            exact k
          refine iteE hr (fun hc15 hr => ?_) (fun hc15 hr => ?_)
          · refine RunsW.via (T' := T11) (g' := (mkF m 99 #[.val (.int x0), .val (.int x1), .val (.int v1), .val (.int (1 : Int32)), .val (.ref zs23), .val (.int v6), .val (.int v8), .val (.ref zs48), .val (.int v10), .val (.int (1 : Int32))] [])) (fun t k => ?_) ?_
            · show Steps p.tables e below (T11.setTop (mkF m 92 #[.val (.int x0), .val (.int x1), .val (.int v1), .val (.int (1 : Int32)), .val (.ref zs23), .val (.int v6), .val (.int v8), .val (.ref zs48), .val (.int v10), .val (.int (1 : Int32))] [(.int (1 : Int32))])) t
              exact XS.ifYes X11.here hx rfl (pc0 := 92) (pc' := 99) rfl (hb hby at_92) rfl ((if0 _ _).trans (teq hc15).1) (by decide) (by decide) k
            refine RunsW.via (T' := T11) (g' := (mkF m 100 #[.val (.int x0), .val (.int x1), .val (.int v1), .val (.int (1 : Int32)), .val (.ref zs23), .val (.int v6), .val (.int v8), .val (.ref zs48), .val (.int v10), .val (.int (1 : Int32))] [(.int (0 : Int32))])) (fun t k => ?_) ?_
            · show Steps p.tables e below (T11.setTop (mkF m 99 #[.val (.int x0), .val (.int x1), .val (.int v1), .val (.int (1 : Int32)), .val (.ref zs23), .val (.int v6), .val (.int v8), .val (.ref zs48), .val (.int v10), .val (.int (1 : Int32))] [])) t
              refine XS.iconst X11.here hx rfl (hb hby at_99) ?_
              exact k
            obtain rfl := Option.some.inj hr
            exact own_retNW X11 hx hlk (t := .boolean) hret (by simp) (hb hby at_100) hS9 (by first | (rw [e11]; exact kk9) | exact Nat.le_refl _) (by show ((((((((cells + 0) + 0) + 2) + 0) + 0) + 2) + 0) + 0) ≤ 4; omega) (by show ((((((((slots + 0) + 0) + 92) + 0) + 0) + 28) + 0) + 0) ≤ 120; omega) ⟨rfl, N11⟩
          · refine RunsW.via (T' := T11) (g' := (mkF m 95 #[.val (.int x0), .val (.int x1), .val (.int v1), .val (.int (1 : Int32)), .val (.ref zs23), .val (.int v6), .val (.int v8), .val (.ref zs48), .val (.int v10), .val (.int (1 : Int32))] [])) (fun t k => ?_) ?_
            · show Steps p.tables e below (T11.setTop (mkF m 92 #[.val (.int x0), .val (.int x1), .val (.int v1), .val (.int (1 : Int32)), .val (.ref zs23), .val (.int v6), .val (.int v8), .val (.ref zs48), .val (.int v10), .val (.int (1 : Int32))] [(.int (1 : Int32))])) t
              exact XS.ifNo X11.here hx rfl (hb hby at_92) rfl ((if0 _ _).trans (feq hc15).1) k
            refine RunsW.via (T' := T11) (g' := (mkF m 100 #[.val (.int x0), .val (.int x1), .val (.int v1), .val (.int (1 : Int32)), .val (.ref zs23), .val (.int v6), .val (.int v8), .val (.ref zs48), .val (.int v10), .val (.int (1 : Int32))] [(.int (1 : Int32))])) (fun t k => ?_) ?_
            · show Steps p.tables e below (T11.setTop (mkF m 95 #[.val (.int x0), .val (.int x1), .val (.int v1), .val (.int (1 : Int32)), .val (.ref zs23), .val (.int v6), .val (.int v8), .val (.ref zs48), .val (.int v10), .val (.int (1 : Int32))] [])) t
              refine XS.iconst X11.here hx rfl (hb hby at_95) ?_
              show Steps p.tables e below (T11.setTop (mkF m 96 #[.val (.int x0), .val (.int x1), .val (.int v1), .val (.int (1 : Int32)), .val (.ref zs23), .val (.int v6), .val (.int v8), .val (.ref zs48), .val (.int v10), .val (.int (1 : Int32))] [(.int (1 : Int32))])) t
              refine XS.goto X11.here hx rfl (pc0 := 96) (pc' := 100) rfl (hb hby at_96) (by decide) (by decide) ?_
              exact k
            obtain rfl := Option.some.inj hr
            exact own_retNW X11 hx hlk (t := .boolean) hret (by simp) (hb hby at_100) hS9 (by first | (rw [e11]; exact kk9) | exact Nat.le_refl _) (by show ((((((((cells + 0) + 0) + 2) + 0) + 0) + 2) + 0) + 0) ≤ 4; omega) (by show ((((((((slots + 0) + 0) + 92) + 0) + 0) + 28) + 0) + 0) ≤ 120; omega) ⟨rfl, N11⟩
    · refine RunsW.via (T' := T11) (g' := (mkF m 78 #[.val (.int x0), .val (.int x1), .val (.int v1), .val (.int (1 : Int32)), .val (.ref zs23), .val (.int v6), .val (.int v8), .val (.ref zs48), .val (.int v10), .unset] [])) (fun t k => ?_) ?_
      · show Steps p.tables e below (T11.setTop (mkF m 71 #[.val (.int x0), .val (.int x1), .val (.int v1), .val (.int (1 : Int32)), .val (.ref zs23), .val (.int v6), .val (.int v8), .val (.ref zs48), .val (.int v10), .unset] [(.int (f1 v10))])) t
        exact XS.ifYes X11.here hx rfl (pc0 := 71) (pc' := 78) rfl (hb hby at_71) rfl ((if0 _ _).trans (feq hc12).2) (by decide) (by decide) k
      refine RunsW.via (T' := T11) (g' := (mkF m 82 #[.val (.int x0), .val (.int x1), .val (.int v1), .val (.int (1 : Int32)), .val (.ref zs23), .val (.int v6), .val (.int v8), .val (.ref zs48), .val (.int v10), .val (.int (0 : Int32))] [(.int (1 : Int32))])) (fun t k => ?_) ?_
      · show Steps p.tables e below (T11.setTop (mkF m 78 #[.val (.int x0), .val (.int x1), .val (.int v1), .val (.int (1 : Int32)), .val (.ref zs23), .val (.int v6), .val (.int v8), .val (.ref zs48), .val (.int v10), .unset] [])) t
        refine XS.iconst X11.here hx rfl (hb hby at_78) ?_
        show Steps p.tables e below (T11.setTop (mkF m 79 #[.val (.int x0), .val (.int x1), .val (.int v1), .val (.int (1 : Int32)), .val (.ref zs23), .val (.int v6), .val (.int v8), .val (.ref zs48), .val (.int v10), .unset] [(.int (0 : Int32))])) t
        refine XS.istore X11.here hx rfl (hb hby at_79) rfl (l' := #[.val (.int x0), .val (.int x1), .val (.int v1), .val (.int (1 : Int32)), .val (.ref zs23), .val (.int v6), .val (.int v8), .val (.ref zs48), .val (.int v10), .val (.int (0 : Int32))]) rfl ?_
        show Steps p.tables e below (T11.setTop (mkF m 81 #[.val (.int x0), .val (.int x1), .val (.int v1), .val (.int (1 : Int32)), .val (.ref zs23), .val (.int v6), .val (.int v8), .val (.ref zs48), .val (.int v10), .val (.int (0 : Int32))] [])) t
        refine XS.iloadN X11.here hx rfl (hb hby at_81) rfl ?_
        exact k
      refine iteE hr (fun hc16 hr => ?_) (fun hc16 hr => ?_)
      · refine RunsW.via (T' := T11) (g' := (mkF m 99 #[.val (.int x0), .val (.int x1), .val (.int v1), .val (.int (1 : Int32)), .val (.ref zs23), .val (.int v6), .val (.int v8), .val (.ref zs48), .val (.int v10), .val (.int (0 : Int32))] [])) (fun t k => ?_) ?_
        · show Steps p.tables e below (T11.setTop (mkF m 82 #[.val (.int x0), .val (.int x1), .val (.int v1), .val (.int (1 : Int32)), .val (.ref zs23), .val (.int v6), .val (.int v8), .val (.ref zs48), .val (.int v10), .val (.int (0 : Int32))] [(.int (1 : Int32))])) t
          exact XS.ifYes X11.here hx rfl (pc0 := 82) (pc' := 99) rfl (hb hby at_82) rfl ((if0 _ _).trans (teq hc16).1) (by decide) (by decide) k
        refine RunsW.via (T' := T11) (g' := (mkF m 100 #[.val (.int x0), .val (.int x1), .val (.int v1), .val (.int (1 : Int32)), .val (.ref zs23), .val (.int v6), .val (.int v8), .val (.ref zs48), .val (.int v10), .val (.int (0 : Int32))] [(.int (0 : Int32))])) (fun t k => ?_) ?_
        · show Steps p.tables e below (T11.setTop (mkF m 99 #[.val (.int x0), .val (.int x1), .val (.int v1), .val (.int (1 : Int32)), .val (.ref zs23), .val (.int v6), .val (.int v8), .val (.ref zs48), .val (.int v10), .val (.int (0 : Int32))] [])) t
          refine XS.iconst X11.here hx rfl (hb hby at_99) ?_
          exact k
        obtain rfl := Option.some.inj hr
        exact own_retNW X11 hx hlk (t := .boolean) hret (by simp) (hb hby at_100) hS9 (by first | (rw [e11]; exact kk9) | exact Nat.le_refl _) (by show ((((((((cells + 0) + 0) + 2) + 0) + 0) + 2) + 0) + 0) ≤ 4; omega) (by show ((((((((slots + 0) + 0) + 92) + 0) + 0) + 28) + 0) + 0) ≤ 120; omega) ⟨rfl, N11⟩
      · refine RunsW.via (T' := T11) (g' := (mkF m 85 #[.val (.int x0), .val (.int x1), .val (.int v1), .val (.int (1 : Int32)), .val (.ref zs23), .val (.int v6), .val (.int v8), .val (.ref zs48), .val (.int v10), .val (.int (0 : Int32))] [])) (fun t k => ?_) ?_
        · show Steps p.tables e below (T11.setTop (mkF m 82 #[.val (.int x0), .val (.int x1), .val (.int v1), .val (.int (1 : Int32)), .val (.ref zs23), .val (.int v6), .val (.int v8), .val (.ref zs48), .val (.int v10), .val (.int (0 : Int32))] [(.int (1 : Int32))])) t
          exact XS.ifNo X11.here hx rfl (hb hby at_82) rfl ((if0 _ _).trans (feq hc16).1) k
        refine RunsW.via (T' := T11) (g' := (mkF m 87 #[.val (.int x0), .val (.int x1), .val (.int v1), .val (.int (1 : Int32)), .val (.ref zs23), .val (.int v6), .val (.int v8), .val (.ref zs48), .val (.int v10), .val (.int (0 : Int32))] [(.int v8)])) (fun t k => ?_) ?_
        · show Steps p.tables e below (T11.setTop (mkF m 85 #[.val (.int x0), .val (.int x1), .val (.int v1), .val (.int (1 : Int32)), .val (.ref zs23), .val (.int v6), .val (.int v8), .val (.ref zs48), .val (.int v10), .val (.int (0 : Int32))] [])) t
          refine XS.iload X11.here hx rfl (hb hby at_85) rfl ?_
          exact k
        refine iteE hr (fun hc17 hr => ?_) (fun hc17 hr => ?_)
        · refine RunsW.via (T' := T11) (g' := (mkF m 99 #[.val (.int x0), .val (.int x1), .val (.int v1), .val (.int (1 : Int32)), .val (.ref zs23), .val (.int v6), .val (.int v8), .val (.ref zs48), .val (.int v10), .val (.int (0 : Int32))] [])) (fun t k => ?_) ?_
          · show Steps p.tables e below (T11.setTop (mkF m 87 #[.val (.int x0), .val (.int x1), .val (.int v1), .val (.int (1 : Int32)), .val (.ref zs23), .val (.int v6), .val (.int v8), .val (.ref zs48), .val (.int v10), .val (.int (0 : Int32))] [(.int v8)])) t
            exact XS.ifYes X11.here hx rfl (pc0 := 87) (pc' := 99) rfl (hb hby at_87) rfl ((if0 _ _).trans (teq hc17).1) (by decide) (by decide) k
          refine RunsW.via (T' := T11) (g' := (mkF m 100 #[.val (.int x0), .val (.int x1), .val (.int v1), .val (.int (1 : Int32)), .val (.ref zs23), .val (.int v6), .val (.int v8), .val (.ref zs48), .val (.int v10), .val (.int (0 : Int32))] [(.int (0 : Int32))])) (fun t k => ?_) ?_
          · show Steps p.tables e below (T11.setTop (mkF m 99 #[.val (.int x0), .val (.int x1), .val (.int v1), .val (.int (1 : Int32)), .val (.ref zs23), .val (.int v6), .val (.int v8), .val (.ref zs48), .val (.int v10), .val (.int (0 : Int32))] [])) t
            refine XS.iconst X11.here hx rfl (hb hby at_99) ?_
            exact k
          obtain rfl := Option.some.inj hr
          exact own_retNW X11 hx hlk (t := .boolean) hret (by simp) (hb hby at_100) hS9 (by first | (rw [e11]; exact kk9) | exact Nat.le_refl _) (by show ((((((((cells + 0) + 0) + 2) + 0) + 0) + 2) + 0) + 0) ≤ 4; omega) (by show ((((((((slots + 0) + 0) + 92) + 0) + 0) + 28) + 0) + 0) ≤ 120; omega) ⟨rfl, N11⟩
        · refine RunsW.via (T' := T11) (g' := (mkF m 90 #[.val (.int x0), .val (.int x1), .val (.int v1), .val (.int (1 : Int32)), .val (.ref zs23), .val (.int v6), .val (.int v8), .val (.ref zs48), .val (.int v10), .val (.int (0 : Int32))] [])) (fun t k => ?_) ?_
          · show Steps p.tables e below (T11.setTop (mkF m 87 #[.val (.int x0), .val (.int x1), .val (.int v1), .val (.int (1 : Int32)), .val (.ref zs23), .val (.int v6), .val (.int v8), .val (.ref zs48), .val (.int v10), .val (.int (0 : Int32))] [(.int v8)])) t
            exact XS.ifNo X11.here hx rfl (hb hby at_87) rfl ((if0 _ _).trans (feq hc17).1) k
          refine RunsW.via (T' := T11) (g' := (mkF m 92 #[.val (.int x0), .val (.int x1), .val (.int v1), .val (.int (1 : Int32)), .val (.ref zs23), .val (.int v6), .val (.int v8), .val (.ref zs48), .val (.int v10), .val (.int (0 : Int32))] [(.int (0 : Int32))])) (fun t k => ?_) ?_
          · show Steps p.tables e below (T11.setTop (mkF m 90 #[.val (.int x0), .val (.int x1), .val (.int v1), .val (.int (1 : Int32)), .val (.ref zs23), .val (.int v6), .val (.int v8), .val (.ref zs48), .val (.int v10), .val (.int (0 : Int32))] [])) t
            refine XS.iload X11.here hx rfl (hb hby at_90) rfl ?_
            exact k
          refine iteE hr (fun hc18 hr => ?_) (fun hc18 hr => ?_)
          · refine RunsW.via (T' := T11) (g' := (mkF m 99 #[.val (.int x0), .val (.int x1), .val (.int v1), .val (.int (1 : Int32)), .val (.ref zs23), .val (.int v6), .val (.int v8), .val (.ref zs48), .val (.int v10), .val (.int (0 : Int32))] [])) (fun t k => ?_) ?_
            · show Steps p.tables e below (T11.setTop (mkF m 92 #[.val (.int x0), .val (.int x1), .val (.int v1), .val (.int (1 : Int32)), .val (.ref zs23), .val (.int v6), .val (.int v8), .val (.ref zs48), .val (.int v10), .val (.int (0 : Int32))] [(.int (0 : Int32))])) t
              exact XS.ifYes X11.here hx rfl (pc0 := 92) (pc' := 99) rfl (hb hby at_92) rfl ((if0 _ _).trans (teq hc18).1) (by decide) (by decide) k
            refine RunsW.via (T' := T11) (g' := (mkF m 100 #[.val (.int x0), .val (.int x1), .val (.int v1), .val (.int (1 : Int32)), .val (.ref zs23), .val (.int v6), .val (.int v8), .val (.ref zs48), .val (.int v10), .val (.int (0 : Int32))] [(.int (0 : Int32))])) (fun t k => ?_) ?_
            · show Steps p.tables e below (T11.setTop (mkF m 99 #[.val (.int x0), .val (.int x1), .val (.int v1), .val (.int (1 : Int32)), .val (.ref zs23), .val (.int v6), .val (.int v8), .val (.ref zs48), .val (.int v10), .val (.int (0 : Int32))] [])) t
              refine XS.iconst X11.here hx rfl (hb hby at_99) ?_
              exact k
            obtain rfl := Option.some.inj hr
            exact own_retNW X11 hx hlk (t := .boolean) hret (by simp) (hb hby at_100) hS9 (by first | (rw [e11]; exact kk9) | exact Nat.le_refl _) (by show ((((((((cells + 0) + 0) + 2) + 0) + 0) + 2) + 0) + 0) ≤ 4; omega) (by show ((((((((slots + 0) + 0) + 92) + 0) + 0) + 28) + 0) + 0) ≤ 120; omega) ⟨rfl, N11⟩
          · refine RunsW.via (T' := T11) (g' := (mkF m 95 #[.val (.int x0), .val (.int x1), .val (.int v1), .val (.int (1 : Int32)), .val (.ref zs23), .val (.int v6), .val (.int v8), .val (.ref zs48), .val (.int v10), .val (.int (0 : Int32))] [])) (fun t k => ?_) ?_
            · show Steps p.tables e below (T11.setTop (mkF m 92 #[.val (.int x0), .val (.int x1), .val (.int v1), .val (.int (1 : Int32)), .val (.ref zs23), .val (.int v6), .val (.int v8), .val (.ref zs48), .val (.int v10), .val (.int (0 : Int32))] [(.int (0 : Int32))])) t
              exact XS.ifNo X11.here hx rfl (hb hby at_92) rfl ((if0 _ _).trans (feq hc18).1) k
            refine RunsW.via (T' := T11) (g' := (mkF m 100 #[.val (.int x0), .val (.int x1), .val (.int v1), .val (.int (1 : Int32)), .val (.ref zs23), .val (.int v6), .val (.int v8), .val (.ref zs48), .val (.int v10), .val (.int (0 : Int32))] [(.int (1 : Int32))])) (fun t k => ?_) ?_
            · show Steps p.tables e below (T11.setTop (mkF m 95 #[.val (.int x0), .val (.int x1), .val (.int v1), .val (.int (1 : Int32)), .val (.ref zs23), .val (.int v6), .val (.int v8), .val (.ref zs48), .val (.int v10), .val (.int (0 : Int32))] [])) t
              refine XS.iconst X11.here hx rfl (hb hby at_95) ?_
              show Steps p.tables e below (T11.setTop (mkF m 96 #[.val (.int x0), .val (.int x1), .val (.int v1), .val (.int (1 : Int32)), .val (.ref zs23), .val (.int v6), .val (.int v8), .val (.ref zs48), .val (.int v10), .val (.int (0 : Int32))] [(.int (1 : Int32))])) t
              refine XS.goto X11.here hx rfl (pc0 := 96) (pc' := 100) rfl (hb hby at_96) (by decide) (by decide) ?_
              exact k
            obtain rfl := Option.some.inj hr
            exact own_retNW X11 hx hlk (t := .boolean) hret (by simp) (hb hby at_100) hS9 (by first | (rw [e11]; exact kk9) | exact Nat.le_refl _) (by show ((((((((cells + 0) + 0) + 2) + 0) + 0) + 2) + 0) + 0) ≤ 4; omega) (by show ((((((((slots + 0) + 0) + 92) + 0) + 0) + 28) + 0) + 0) ≤ 120; omega) ⟨rfl, N11⟩
  · refine RunsW.via (T' := T3) (g' := (mkF m 21 #[.val (.int x0), .val (.int x1), .val (.int v1), .unset, .unset, .unset, .unset, .unset, .unset, .unset] [])) (fun t k => ?_) ?_
    · show Steps p.tables e below (T3.setTop (mkF m 14 #[.val (.int x0), .val (.int x1), .val (.int v1), .unset, .unset, .unset, .unset, .unset, .unset, .unset] [(.int (f2 v1)), (.int (f1 v1))])) t
      exact XS.icmpYes X3.here hx rfl (pc0 := 14) (pc' := 21) rfl (hb hby at_14) rfl (feq hc4).2 (by decide) (by decide) k
    refine RunsW.via (T' := T3) (g' := (mkF m 23 #[.val (.int x0), .val (.int x1), .val (.int v1), .val (.int (0 : Int32)), .unset, .unset, .unset, .unset, .unset, .unset] [])) (fun t k => ?_) ?_
    · show Steps p.tables e below (T3.setTop (mkF m 21 #[.val (.int x0), .val (.int x1), .val (.int v1), .unset, .unset, .unset, .unset, .unset, .unset, .unset] [])) t
      refine XS.iconst X3.here hx rfl (hb hby at_21) ?_
      show Steps p.tables e below (T3.setTop (mkF m 22 #[.val (.int x0), .val (.int x1), .val (.int v1), .unset, .unset, .unset, .unset, .unset, .unset, .unset] [(.int (0 : Int32))])) t
      refine XS.istoreN X3.here hx rfl (hb hby at_22) rfl (l' := #[.val (.int x0), .val (.int x1), .val (.int v1), .val (.int (0 : Int32)), .unset, .unset, .unset, .unset, .unset, .unset]) rfl ?_
      exact k
    obtain ⟨zs23, T19, h19, ks19, zb23, zk19, X19, e19, E19, hS19, kk19, hZ, hown, SE19, SC19, SV19, SK19, -, -, IB19, st19⟩ := ldcSV X3 hx hZ hown (hw _ (List.mem_of_getElem? (i := 9) rfl)) (fun d hd => hw d ((by decide +kernel : ∀ d ∈ Bundle.stringAtoms, d ∈ tables_1) d hd)) e3 hS0 hk0 (hn0 ▸ N3) hkeep IB0 (by first | decide | simp) hh19 hcw (vs := (([48, 49, 50, 51, 52, 53, 54, 55, 56, 57, 97, 98, 99, 100, 101, 102, 65, 66, 67, 68, 69, 70] : List Int32).map StrChars.lo8).map Value.int) (z := Int32.ofNat 22) own_t19 (by decide) (by decide) (g := (mkF m 23 #[.val (.int x0), .val (.int x1), .val (.int v1), .val (.int (0 : Int32)), .unset, .unset, .unset, .unset, .unset, .unset] [])) rfl (hb hby at_23) (n := 88) (by decide) (by decide) (by show ((cells + 0) + 0) + 2 ≤ 8; omega) (by show ((slots + 0) + 0) + 92 ≤ 2112; omega)
    have i19 := E19.1
    have zz19 : n0 ≤ h19.size := Nat.le_trans Z1 i19
    have C : Ctx p (s.setVm T19.vm) m meth c Z a0 "com/example/earned_trust/earnedtrust/model/UriSyntaxIsHexDigitPinLaw" code 10 (some .boolean) "law" := ⟨hx, hZ, hw, hby, hml, hown, hret, hlk, hnm⟩
    refine RunsW.via (T' := T19) (g' := (mkF m 25 #[.val (.int x0), .val (.int x1), .val (.int v1), .val (.int (0 : Int32)), .unset, .unset, .unset, .unset, .unset, .unset] [(.ref zs23)])) (fun t k => st19 _ k) ?_
    refine RunsW.via (T' := T19) (g' := (mkF m 36 #[.val (.int x0), .val (.int x1), .val (.int v1), .val (.int (0 : Int32)), .val (.ref zs23), .unset, .unset, .unset, .unset, .unset] [(.int ((x1 &&& (2147483647 : Int32)) - ((x1 &&& (2147483647 : Int32)) / (22 : Int32)) * (22 : Int32))), (.ref zs23)])) (fun t k => ?_) ?_
    · show Steps p.tables e below (T19.setTop (mkF m 25 #[.val (.int x0), .val (.int x1), .val (.int v1), .val (.int (0 : Int32)), .unset, .unset, .unset, .unset, .unset, .unset] [(.ref zs23)])) t
      refine XS.astore X19.here hx rfl (hb hby at_25) rfl rfl (l' := #[.val (.int x0), .val (.int x1), .val (.int v1), .val (.int (0 : Int32)), .val (.ref zs23), .unset, .unset, .unset, .unset, .unset]) rfl ?_
      show Steps p.tables e below (T19.setTop (mkF m 27 #[.val (.int x0), .val (.int x1), .val (.int v1), .val (.int (0 : Int32)), .val (.ref zs23), .unset, .unset, .unset, .unset, .unset] [])) t
      refine XS.aload X19.here hx rfl (hb hby at_27) rfl rfl ?_
      show Steps p.tables e below (T19.setTop (mkF m 29 #[.val (.int x0), .val (.int x1), .val (.int v1), .val (.int (0 : Int32)), .val (.ref zs23), .unset, .unset, .unset, .unset, .unset] [(.ref zs23)])) t
      refine XS.iloadN X19.here hx rfl (hb hby at_29) rfl ?_
      show Steps p.tables e below (T19.setTop (mkF m 30 #[.val (.int x0), .val (.int x1), .val (.int v1), .val (.int (0 : Int32)), .val (.ref zs23), .unset, .unset, .unset, .unset, .unset] [(.int x1), (.ref zs23)])) t
      refine X19.ldcInt hx hown (mvT hZ (hw _ (List.mem_of_getElem? (i := 17) rfl))) (g := (mkF m 30 #[.val (.int x0), .val (.int x1), .val (.int v1), .val (.int (0 : Int32)), .val (.ref zs23), .unset, .unset, .unset, .unset, .unset] [(.int x1), (.ref zs23)])) rfl (hb hby at_30) _ ?_
      show Steps p.tables e below (T19.setTop (mkF m 32 #[.val (.int x0), .val (.int x1), .val (.int v1), .val (.int (0 : Int32)), .val (.ref zs23), .unset, .unset, .unset, .unset, .unset] [(.int (2147483647 : Int32)), (.int x1), (.ref zs23)])) t
      refine XS.iand X19.here hx rfl (hb hby at_32) rfl ?_
      show Steps p.tables e below (T19.setTop (mkF m 33 #[.val (.int x0), .val (.int x1), .val (.int v1), .val (.int (0 : Int32)), .val (.ref zs23), .unset, .unset, .unset, .unset, .unset] [(.int (x1 &&& (2147483647 : Int32))), (.ref zs23)])) t
      refine XS.bipush X19.here hx rfl (hb hby at_33) ?_
      show Steps p.tables e below (T19.setTop (mkF m 35 #[.val (.int x0), .val (.int x1), .val (.int v1), .val (.int (0 : Int32)), .val (.ref zs23), .unset, .unset, .unset, .unset, .unset] [(.int (22 : Int32)), (.int (x1 &&& (2147483647 : Int32))), (.ref zs23)])) t
      refine XS.irem X19.here hx rfl (hb hby at_35) rfl (by decide) ?_
      exact k
    refine bindE hr ?_; intro v20 hv20 hr
    obtain ⟨qi20, qj20, qv20⟩ := own_ch hv20
    obtain ⟨cq20, kq20, q20a, q20b, q20c⟩ := isOf hZ e19 SE19
    obtain ⟨_, _, ⟨T20, L20, k20, n20⟩, -, X20, ⟨Lc20, hQ20, l20, y20, z20⟩, st20⟩ := X19.virtualBack hx (y := (⟨"java/lang/String", "charAt", "(I)C"⟩ : MethodName)) (z := (⟨"java/lang/String", "charAt", "(I)C"⟩ : MethodName)) hown (mvT hZ (hw _ (List.mem_of_getElem? (i := 18) rfl))) (mvT hZ (hw _ (List.mem_of_getElem? (i := 19) rfl))) (notFace_of_selects (args := #[]) (mvT hZ (hw _ (List.mem_of_getElem? (i := 21) rfl)))) (mvT hZ (hw _ (List.mem_of_getElem? (i := 21) rfl))) (mvT hZ (hw _ (List.mem_of_getElem? (i := 20) rfl))) (by decide) (StrChars.Road.chN (W := 0) hZ (fun d hd => hw d ((by decide +kernel : ∀ d ∈ StrChars.Road.wordsChN, d ∈ tables_1) d hd)) (kI := 4) (hw _ (List.mem_of_getElem? (i := 11) rfl)) SE19 SV19 SC19 SK19 (StrChars.Road.codOf (cs := ([48, 49, 50, 51, 52, 53, 54, 55, 56, 57, 97, 98, 99, 100, 101, 102, 65, 66, 67, 68, 69, 70] : List Int32)) rfl (by decide)) (by decide) (O2.ext E19) P5 (O4.ext E19) rG3 (by decide) (i := (((x1 &&& (2147483647 : Int32)) - ((x1 &&& (2147483647 : Int32)) / (22 : Int32)) * (22 : Int32))).toNatClampNeg) qi20 (j := ((x1 &&& (2147483647 : Int32)) - ((x1 &&& (2147483647 : Int32)) / (22 : Int32)) * (22 : Int32))) qj20 (by decide) (by decide)) q20a q20c (g := (mkF m 36 #[.val (.int x0), .val (.int x1), .val (.int v1), .val (.int (0 : Int32)), .val (.ref zs23), .unset, .unset, .unset, .unset, .unset] [(.int ((x1 &&& (2147483647 : Int32)) - ((x1 &&& (2147483647 : Int32)) / (22 : Int32)) * (22 : Int32))), (.ref zs23)])) rfl (by rw [hml]; rfl) (Steps.refl _) (argsL := [(.int ((x1 &&& (2147483647 : Int32)) - ((x1 &&& (2147483647 : Int32)) / (22 : Int32)) * (22 : Int32)))]) (rest := []) (lenOf pd_1 rfl) rfl (by show 2 * 0 + _ ≤ _; exact Nat.le_of_eq rfl) (hb hby at_36) (fun _ _ => ⟨rfl, e19, (by show (((cells + 0) + 0) + 2) + 0 ≤ 8; omega), (by show (((slots + 0) + 0) + 92) + 0 ≤ 2112; omega)⟩)
    dsimp only [Pt.U, Pt.locs, Pt.cells, Pt.slots] at X20 l20 y20 z20 st20 hQ20
    replace y20 := y20.symm; replace z20 := z20.symm; subst l20 y20 z20
    rw [qv20] at hQ20
    obtain ⟨rfl, rfl, e20⟩ := hQ20
    have N20 := Fr.app N3 (Fr.nil n0)
    refine RunsW.via (T' := T20) (g' := (mkF m 39 #[.val (.int x0), .val (.int x1), .val (.int v1), .val (.int (0 : Int32)), .val (.ref zs23), .unset, .unset, .unset, .unset, .unset] [(.int v20)])) (fun t k => st20.trans k) ?_
    refine RunsW.via (T' := T20) (g' := (mkF m 43 #[.val (.int x0), .val (.int x1), .val (.int v1), .val (.int (0 : Int32)), .val (.ref zs23), .val (.int v20), .unset, .unset, .unset, .unset] [(.int v20)])) (fun t k => ?_) ?_
    · show Steps p.tables e below (T20.setTop (mkF m 39 #[.val (.int x0), .val (.int x1), .val (.int v1), .val (.int (0 : Int32)), .val (.ref zs23), .unset, .unset, .unset, .unset, .unset] [(.int v20)])) t
      refine XS.istore X20.here hx rfl (hb hby at_39) rfl (l' := #[.val (.int x0), .val (.int x1), .val (.int v1), .val (.int (0 : Int32)), .val (.ref zs23), .val (.int v20), .unset, .unset, .unset, .unset]) rfl ?_
      show Steps p.tables e below (T20.setTop (mkF m 41 #[.val (.int x0), .val (.int x1), .val (.int v1), .val (.int (0 : Int32)), .val (.ref zs23), .val (.int v20), .unset, .unset, .unset, .unset] [])) t
      refine XS.iload X20.here hx rfl (hb hby at_41) rfl ?_
      exact k
    obtain ⟨_, _, ⟨T21, L21, k21, n21⟩, -, X21, ⟨Lc21, hQ21, l21, y21, z21⟩, st21⟩ := Jvm.LawKit.callS X20 hx (y := (⟨"com/example/earned_trust/earnedtrust/model/UriSyntax", "isHexDigit", "(C)Z"⟩ : MethodName)) hown (mvT hZ (hw _ (List.mem_of_getElem? (i := 1) rfl))) (mvT hZ (hw _ (List.mem_of_getElem? (i := 2) rfl))) (mvT hZ (hw _ (List.mem_of_getElem? (i := 3) rfl))) (mvT hZ (hw _ (List.mem_of_getElem? (i := 4) rfl))) (by decide) (backOf (W := 0) (rm1 l Z a0 hw [] v20 h19 n0) hZ (hw _ (List.mem_of_getElem? (i := 4) rfl)) (hw _ (List.mem_of_getElem? (i := 3) rfl)) (by decide) (by decide)) (g := (mkF m 43 #[.val (.int x0), .val (.int x1), .val (.int v1), .val (.int (0 : Int32)), .val (.ref zs23), .val (.int v20), .unset, .unset, .unset, .unset] [(.int v20)])) rfl (by rw [hml]; rfl) (argsL := [(.int v20)]) (rest := []) (lenOf pd_0 rfl) rfl (by show 2 * 0 + _ ≤ _; exact Nat.le_of_eq rfl) (hb hby at_43) (fun _ _ => ⟨rfl, e20, (by show ((((cells + 0) + 0) + 2) + 0) + 0 ≤ 8; omega), (by show ((((slots + 0) + 0) + 92) + 0) + 0 ≤ 2112; omega)⟩)
    dsimp only [Pt.U, Pt.locs, Pt.cells, Pt.slots] at X21 l21 y21 z21 st21 hQ21
    replace y21 := y21.symm; replace z21 := z21.symm; subst l21 y21 z21
    obtain ⟨rfl, N21q, e21⟩ := hQ21
    have N21 := Fr.app N20 N21q
    refine RunsW.via (T' := T21) (g' := (mkF m 46 #[.val (.int x0), .val (.int x1), .val (.int v1), .val (.int (0 : Int32)), .val (.ref zs23), .val (.int v20), .unset, .unset, .unset, .unset] [(.int (f1 v20))])) (fun t k => st21 _ k) ?_
    refine letE hr ?_; intro v22 hv22 hr
    rw [← hv22]
    refine RunsW.via (T' := T21) (g' := (mkF m 48 #[.val (.int x0), .val (.int x1), .val (.int v1), .val (.int (0 : Int32)), .val (.ref zs23), .val (.int v20), .val (.int v22), .unset, .unset, .unset] [])) (fun t k => ?_) ?_
    · show Steps p.tables e below (T21.setTop (mkF m 46 #[.val (.int x0), .val (.int x1), .val (.int v1), .val (.int (0 : Int32)), .val (.ref zs23), .val (.int v20), .unset, .unset, .unset, .unset] [(.int v22)])) t
      refine XS.istore X21.here hx rfl (hb hby at_46) rfl (l' := #[.val (.int x0), .val (.int x1), .val (.int v1), .val (.int (0 : Int32)), .val (.ref zs23), .val (.int v20), .val (.int v22), .unset, .unset, .unset]) rfl ?_
      exact k
    obtain ⟨zs48, T23, h23, ks23, zb48, zk23, X23, e23, E23, hS23, kk23, hZ, hown, SE23, SC23, SV23, SK23, -, -, IB23, st23⟩ := ldcSV X21 hx hZ hown (hw _ (List.mem_of_getElem? (i := 43) rfl)) (fun d hd => hw d ((by decide +kernel : ∀ d ∈ Bundle.stringAtoms, d ∈ tables_1) d hd)) e21 hS19 kk19 (hn0 ▸ N21) hkeep IB19 (by first | decide | simp) hh28 hcw (vs := (([47, 58, 64, 71, 96, 103] : List Int32).map StrChars.lo8).map Value.int) (z := Int32.ofNat 6) own_t28 (by decide) (by decide) (g := (mkF m 48 #[.val (.int x0), .val (.int x1), .val (.int v1), .val (.int (0 : Int32)), .val (.ref zs23), .val (.int v20), .val (.int v22), .unset, .unset, .unset] [])) rfl (hb hby at_48) (n := 24) (by decide) (by decide) (by show (((((cells + 0) + 0) + 2) + 0) + 0) + 2 ≤ 8; omega) (by show (((((slots + 0) + 0) + 92) + 0) + 0) + 28 ≤ 2112; omega)
    have i23 := E23.1
    have zz23 : n0 ≤ h23.size := Nat.le_trans zz19 i23
    have C : Ctx p (s.setVm T23.vm) m meth c Z a0 "com/example/earned_trust/earnedtrust/model/UriSyntaxIsHexDigitPinLaw" code 10 (some .boolean) "law" := ⟨hx, hZ, hw, hby, hml, hown, hret, hlk, hnm⟩
    refine RunsW.via (T' := T23) (g' := (mkF m 50 #[.val (.int x0), .val (.int x1), .val (.int v1), .val (.int (0 : Int32)), .val (.ref zs23), .val (.int v20), .val (.int v22), .unset, .unset, .unset] [(.ref zs48)])) (fun t k => st23 _ k) ?_
    refine RunsW.via (T' := T23) (g' := (mkF m 61 #[.val (.int x0), .val (.int x1), .val (.int v1), .val (.int (0 : Int32)), .val (.ref zs23), .val (.int v20), .val (.int v22), .val (.ref zs48), .unset, .unset] [(.int ((x1 &&& (2147483647 : Int32)) - ((x1 &&& (2147483647 : Int32)) / (6 : Int32)) * (6 : Int32))), (.ref zs48)])) (fun t k => ?_) ?_
    · show Steps p.tables e below (T23.setTop (mkF m 50 #[.val (.int x0), .val (.int x1), .val (.int v1), .val (.int (0 : Int32)), .val (.ref zs23), .val (.int v20), .val (.int v22), .unset, .unset, .unset] [(.ref zs48)])) t
      refine XS.astore X23.here hx rfl (hb hby at_50) rfl rfl (l' := #[.val (.int x0), .val (.int x1), .val (.int v1), .val (.int (0 : Int32)), .val (.ref zs23), .val (.int v20), .val (.int v22), .val (.ref zs48), .unset, .unset]) rfl ?_
      show Steps p.tables e below (T23.setTop (mkF m 52 #[.val (.int x0), .val (.int x1), .val (.int v1), .val (.int (0 : Int32)), .val (.ref zs23), .val (.int v20), .val (.int v22), .val (.ref zs48), .unset, .unset] [])) t
      refine XS.aload X23.here hx rfl (hb hby at_52) rfl rfl ?_
      show Steps p.tables e below (T23.setTop (mkF m 54 #[.val (.int x0), .val (.int x1), .val (.int v1), .val (.int (0 : Int32)), .val (.ref zs23), .val (.int v20), .val (.int v22), .val (.ref zs48), .unset, .unset] [(.ref zs48)])) t
      refine XS.iloadN X23.here hx rfl (hb hby at_54) rfl ?_
      show Steps p.tables e below (T23.setTop (mkF m 55 #[.val (.int x0), .val (.int x1), .val (.int v1), .val (.int (0 : Int32)), .val (.ref zs23), .val (.int v20), .val (.int v22), .val (.ref zs48), .unset, .unset] [(.int x1), (.ref zs48)])) t
      refine X23.ldcInt hx hown (mvT hZ (hw _ (List.mem_of_getElem? (i := 17) rfl))) (g := (mkF m 55 #[.val (.int x0), .val (.int x1), .val (.int v1), .val (.int (0 : Int32)), .val (.ref zs23), .val (.int v20), .val (.int v22), .val (.ref zs48), .unset, .unset] [(.int x1), (.ref zs48)])) rfl (hb hby at_55) _ ?_
      show Steps p.tables e below (T23.setTop (mkF m 57 #[.val (.int x0), .val (.int x1), .val (.int v1), .val (.int (0 : Int32)), .val (.ref zs23), .val (.int v20), .val (.int v22), .val (.ref zs48), .unset, .unset] [(.int (2147483647 : Int32)), (.int x1), (.ref zs48)])) t
      refine XS.iand X23.here hx rfl (hb hby at_57) rfl ?_
      show Steps p.tables e below (T23.setTop (mkF m 58 #[.val (.int x0), .val (.int x1), .val (.int v1), .val (.int (0 : Int32)), .val (.ref zs23), .val (.int v20), .val (.int v22), .val (.ref zs48), .unset, .unset] [(.int (x1 &&& (2147483647 : Int32))), (.ref zs48)])) t
      refine XS.bipush X23.here hx rfl (hb hby at_58) ?_
      show Steps p.tables e below (T23.setTop (mkF m 60 #[.val (.int x0), .val (.int x1), .val (.int v1), .val (.int (0 : Int32)), .val (.ref zs23), .val (.int v20), .val (.int v22), .val (.ref zs48), .unset, .unset] [(.int (6 : Int32)), (.int (x1 &&& (2147483647 : Int32))), (.ref zs48)])) t
      refine XS.irem X23.here hx rfl (hb hby at_60) rfl (by decide) ?_
      exact k
    refine bindE hr ?_; intro v24 hv24 hr
    obtain ⟨qi24, qj24, qv24⟩ := own_ch hv24
    obtain ⟨cq24, kq24, q24a, q24b, q24c⟩ := isOf hZ e23 SE23
    obtain ⟨_, _, ⟨T24, L24, k24, n24⟩, -, X24, ⟨Lc24, hQ24, l24, y24, z24⟩, st24⟩ := X23.virtualBack hx (y := (⟨"java/lang/String", "charAt", "(I)C"⟩ : MethodName)) (z := (⟨"java/lang/String", "charAt", "(I)C"⟩ : MethodName)) hown (mvT hZ (hw _ (List.mem_of_getElem? (i := 18) rfl))) (mvT hZ (hw _ (List.mem_of_getElem? (i := 19) rfl))) (notFace_of_selects (args := #[]) (mvT hZ (hw _ (List.mem_of_getElem? (i := 21) rfl)))) (mvT hZ (hw _ (List.mem_of_getElem? (i := 21) rfl))) (mvT hZ (hw _ (List.mem_of_getElem? (i := 20) rfl))) (by decide) (StrChars.Road.chN (W := 0) hZ (fun d hd => hw d ((by decide +kernel : ∀ d ∈ StrChars.Road.wordsChN, d ∈ tables_1) d hd)) (kI := 4) (hw _ (List.mem_of_getElem? (i := 11) rfl)) SE23 SV23 SC23 SK23 (StrChars.Road.codOf (cs := ([47, 58, 64, 71, 96, 103] : List Int32)) rfl (by decide)) (by decide) ((O2.ext E19).ext E23) P5 ((O4.ext E19).ext E23) rG3 (by decide) (i := (((x1 &&& (2147483647 : Int32)) - ((x1 &&& (2147483647 : Int32)) / (6 : Int32)) * (6 : Int32))).toNatClampNeg) qi24 (j := ((x1 &&& (2147483647 : Int32)) - ((x1 &&& (2147483647 : Int32)) / (6 : Int32)) * (6 : Int32))) qj24 (by decide) (by decide)) q24a q24c (g := (mkF m 61 #[.val (.int x0), .val (.int x1), .val (.int v1), .val (.int (0 : Int32)), .val (.ref zs23), .val (.int v20), .val (.int v22), .val (.ref zs48), .unset, .unset] [(.int ((x1 &&& (2147483647 : Int32)) - ((x1 &&& (2147483647 : Int32)) / (6 : Int32)) * (6 : Int32))), (.ref zs48)])) rfl (by rw [hml]; rfl) (Steps.refl _) (argsL := [(.int ((x1 &&& (2147483647 : Int32)) - ((x1 &&& (2147483647 : Int32)) / (6 : Int32)) * (6 : Int32)))]) (rest := []) (lenOf pd_1 rfl) rfl (by show 2 * 0 + _ ≤ _; exact Nat.le_of_eq rfl) (hb hby at_61) (fun _ _ => ⟨rfl, e23, (by show ((((((cells + 0) + 0) + 2) + 0) + 0) + 2) + 0 ≤ 8; omega), (by show ((((((slots + 0) + 0) + 92) + 0) + 0) + 28) + 0 ≤ 2112; omega)⟩)
    dsimp only [Pt.U, Pt.locs, Pt.cells, Pt.slots] at X24 l24 y24 z24 st24 hQ24
    replace y24 := y24.symm; replace z24 := z24.symm; subst l24 y24 z24
    rw [qv24] at hQ24
    obtain ⟨rfl, rfl, e24⟩ := hQ24
    have N24 := Fr.app N21 (Fr.nil n0)
    refine RunsW.via (T' := T24) (g' := (mkF m 64 #[.val (.int x0), .val (.int x1), .val (.int v1), .val (.int (0 : Int32)), .val (.ref zs23), .val (.int v20), .val (.int v22), .val (.ref zs48), .unset, .unset] [(.int v24)])) (fun t k => st24.trans k) ?_
    refine RunsW.via (T' := T24) (g' := (mkF m 68 #[.val (.int x0), .val (.int x1), .val (.int v1), .val (.int (0 : Int32)), .val (.ref zs23), .val (.int v20), .val (.int v22), .val (.ref zs48), .val (.int v24), .unset] [(.int v24)])) (fun t k => ?_) ?_
    · show Steps p.tables e below (T24.setTop (mkF m 64 #[.val (.int x0), .val (.int x1), .val (.int v1), .val (.int (0 : Int32)), .val (.ref zs23), .val (.int v20), .val (.int v22), .val (.ref zs48), .unset, .unset] [(.int v24)])) t
      refine XS.istore X24.here hx rfl (hb hby at_64) rfl (l' := #[.val (.int x0), .val (.int x1), .val (.int v1), .val (.int (0 : Int32)), .val (.ref zs23), .val (.int v20), .val (.int v22), .val (.ref zs48), .val (.int v24), .unset]) rfl ?_
      show Steps p.tables e below (T24.setTop (mkF m 66 #[.val (.int x0), .val (.int x1), .val (.int v1), .val (.int (0 : Int32)), .val (.ref zs23), .val (.int v20), .val (.int v22), .val (.ref zs48), .val (.int v24), .unset] [])) t
      refine XS.iload X24.here hx rfl (hb hby at_66) rfl ?_
      exact k
    obtain ⟨_, _, ⟨T25, L25, k25, n25⟩, -, X25, ⟨Lc25, hQ25, l25, y25, z25⟩, st25⟩ := Jvm.LawKit.callS X24 hx (y := (⟨"com/example/earned_trust/earnedtrust/model/UriSyntax", "isHexDigit", "(C)Z"⟩ : MethodName)) hown (mvT hZ (hw _ (List.mem_of_getElem? (i := 1) rfl))) (mvT hZ (hw _ (List.mem_of_getElem? (i := 2) rfl))) (mvT hZ (hw _ (List.mem_of_getElem? (i := 3) rfl))) (mvT hZ (hw _ (List.mem_of_getElem? (i := 4) rfl))) (by decide) (backOf (W := 0) (rm1 l Z a0 hw [] v24 h23 n0) hZ (hw _ (List.mem_of_getElem? (i := 4) rfl)) (hw _ (List.mem_of_getElem? (i := 3) rfl)) (by decide) (by decide)) (g := (mkF m 68 #[.val (.int x0), .val (.int x1), .val (.int v1), .val (.int (0 : Int32)), .val (.ref zs23), .val (.int v20), .val (.int v22), .val (.ref zs48), .val (.int v24), .unset] [(.int v24)])) rfl (by rw [hml]; rfl) (argsL := [(.int v24)]) (rest := []) (lenOf pd_0 rfl) rfl (by show 2 * 0 + _ ≤ _; exact Nat.le_of_eq rfl) (hb hby at_68) (fun _ _ => ⟨rfl, e24, (by show (((((((cells + 0) + 0) + 2) + 0) + 0) + 2) + 0) + 0 ≤ 8; omega), (by show (((((((slots + 0) + 0) + 92) + 0) + 0) + 28) + 0) + 0 ≤ 2112; omega)⟩)
    dsimp only [Pt.U, Pt.locs, Pt.cells, Pt.slots] at X25 l25 y25 z25 st25 hQ25
    replace y25 := y25.symm; replace z25 := z25.symm; subst l25 y25 z25
    obtain ⟨rfl, N25q, e25⟩ := hQ25
    have N25 := Fr.app N24 N25q
    refine RunsW.via (T' := T25) (g' := (mkF m 71 #[.val (.int x0), .val (.int x1), .val (.int v1), .val (.int (0 : Int32)), .val (.ref zs23), .val (.int v20), .val (.int v22), .val (.ref zs48), .val (.int v24), .unset] [(.int (f1 v24))])) (fun t k => st25 _ k) ?_
    refine iteE hr (fun hc26 hr => ?_) (fun hc26 hr => ?_)
    · refine RunsW.via (T' := T25) (g' := (mkF m 74 #[.val (.int x0), .val (.int x1), .val (.int v1), .val (.int (0 : Int32)), .val (.ref zs23), .val (.int v20), .val (.int v22), .val (.ref zs48), .val (.int v24), .unset] [])) (fun t k => ?_) ?_
      · show Steps p.tables e below (T25.setTop (mkF m 71 #[.val (.int x0), .val (.int x1), .val (.int v1), .val (.int (0 : Int32)), .val (.ref zs23), .val (.int v20), .val (.int v22), .val (.ref zs48), .val (.int v24), .unset] [(.int (f1 v24))])) t
        exact XS.ifNo X25.here hx rfl (hb hby at_71) rfl ((if0 _ _).trans (teq hc26).2) k
      refine RunsW.via (T' := T25) (g' := (mkF m 82 #[.val (.int x0), .val (.int x1), .val (.int v1), .val (.int (0 : Int32)), .val (.ref zs23), .val (.int v20), .val (.int v22), .val (.ref zs48), .val (.int v24), .val (.int (1 : Int32))] [(.int (0 : Int32))])) (fun t k => ?_) ?_
      · show Steps p.tables e below (T25.setTop (mkF m 74 #[.val (.int x0), .val (.int x1), .val (.int v1), .val (.int (0 : Int32)), .val (.ref zs23), .val (.int v20), .val (.int v22), .val (.ref zs48), .val (.int v24), .unset] [])) t
        refine XS.iconst X25.here hx rfl (hb hby at_74) ?_
        show Steps p.tables e below (T25.setTop (mkF m 75 #[.val (.int x0), .val (.int x1), .val (.int v1), .val (.int (0 : Int32)), .val (.ref zs23), .val (.int v20), .val (.int v22), .val (.ref zs48), .val (.int v24), .unset] [(.int (1 : Int32))])) t
        refine XS.goto X25.here hx rfl (pc0 := 75) (pc' := 79) rfl (hb hby at_75) (by decide) (by decide) ?_
        show Steps p.tables e below (T25.setTop (mkF m 79 #[.val (.int x0), .val (.int x1), .val (.int v1), .val (.int (0 : Int32)), .val (.ref zs23), .val (.int v20), .val (.int v22), .val (.ref zs48), .val (.int v24), .unset] [(.int (1 : Int32))])) t
        refine XS.istore X25.here hx rfl (hb hby at_79) rfl (l' := #[.val (.int x0), .val (.int x1), .val (.int v1), .val (.int (0 : Int32)), .val (.ref zs23), .val (.int v20), .val (.int v22), .val (.ref zs48), .val (.int v24), .val (.int (1 : Int32))]) rfl ?_
        show Steps p.tables e below (T25.setTop (mkF m 81 #[.val (.int x0), .val (.int x1), .val (.int v1), .val (.int (0 : Int32)), .val (.ref zs23), .val (.int v20), .val (.int v22), .val (.ref zs48), .val (.int v24), .val (.int (1 : Int32))] [])) t
        refine XS.iloadN X25.here hx rfl (hb hby at_81) rfl ?_
        exact k
      refine iteE hr (fun hc27 hr => ?_) (fun hc27 hr => ?_)
      · refine RunsW.via (T' := T25) (g' := (mkF m 99 #[.val (.int x0), .val (.int x1), .val (.int v1), .val (.int (0 : Int32)), .val (.ref zs23), .val (.int v20), .val (.int v22), .val (.ref zs48), .val (.int v24), .val (.int (1 : Int32))] [])) (fun t k => ?_) ?_
        · show Steps p.tables e below (T25.setTop (mkF m 82 #[.val (.int x0), .val (.int x1), .val (.int v1), .val (.int (0 : Int32)), .val (.ref zs23), .val (.int v20), .val (.int v22), .val (.ref zs48), .val (.int v24), .val (.int (1 : Int32))] [(.int (0 : Int32))])) t
          exact XS.ifYes X25.here hx rfl (pc0 := 82) (pc' := 99) rfl (hb hby at_82) rfl ((if0 _ _).trans (teq hc27).1) (by decide) (by decide) k
        refine RunsW.via (T' := T25) (g' := (mkF m 100 #[.val (.int x0), .val (.int x1), .val (.int v1), .val (.int (0 : Int32)), .val (.ref zs23), .val (.int v20), .val (.int v22), .val (.ref zs48), .val (.int v24), .val (.int (1 : Int32))] [(.int (0 : Int32))])) (fun t k => ?_) ?_
        · show Steps p.tables e below (T25.setTop (mkF m 99 #[.val (.int x0), .val (.int x1), .val (.int v1), .val (.int (0 : Int32)), .val (.ref zs23), .val (.int v20), .val (.int v22), .val (.ref zs48), .val (.int v24), .val (.int (1 : Int32))] [])) t
          refine XS.iconst X25.here hx rfl (hb hby at_99) ?_
          exact k
        obtain rfl := Option.some.inj hr
        exact own_retNW X25 hx hlk (t := .boolean) hret (by simp) (hb hby at_100) hS23 (by first | (rw [e25]; exact kk23) | exact Nat.le_refl _) (by show ((((((((cells + 0) + 0) + 2) + 0) + 0) + 2) + 0) + 0) ≤ 4; omega) (by show ((((((((slots + 0) + 0) + 92) + 0) + 0) + 28) + 0) + 0) ≤ 120; omega) ⟨rfl, N25⟩
      · refine RunsW.via (T' := T25) (g' := (mkF m 85 #[.val (.int x0), .val (.int x1), .val (.int v1), .val (.int (0 : Int32)), .val (.ref zs23), .val (.int v20), .val (.int v22), .val (.ref zs48), .val (.int v24), .val (.int (1 : Int32))] [])) (fun t k => ?_) ?_
        · show Steps p.tables e below (T25.setTop (mkF m 82 #[.val (.int x0), .val (.int x1), .val (.int v1), .val (.int (0 : Int32)), .val (.ref zs23), .val (.int v20), .val (.int v22), .val (.ref zs48), .val (.int v24), .val (.int (1 : Int32))] [(.int (0 : Int32))])) t
          exact XS.ifNo X25.here hx rfl (hb hby at_82) rfl ((if0 _ _).trans (feq hc27).1) k
        refine RunsW.via (T' := T25) (g' := (mkF m 87 #[.val (.int x0), .val (.int x1), .val (.int v1), .val (.int (0 : Int32)), .val (.ref zs23), .val (.int v20), .val (.int v22), .val (.ref zs48), .val (.int v24), .val (.int (1 : Int32))] [(.int v22)])) (fun t k => ?_) ?_
        · show Steps p.tables e below (T25.setTop (mkF m 85 #[.val (.int x0), .val (.int x1), .val (.int v1), .val (.int (0 : Int32)), .val (.ref zs23), .val (.int v20), .val (.int v22), .val (.ref zs48), .val (.int v24), .val (.int (1 : Int32))] [])) t
          refine XS.iload X25.here hx rfl (hb hby at_85) rfl ?_
          exact k
        refine iteE hr (fun hc28 hr => ?_) (fun hc28 hr => ?_)
        · refine RunsW.via (T' := T25) (g' := (mkF m 99 #[.val (.int x0), .val (.int x1), .val (.int v1), .val (.int (0 : Int32)), .val (.ref zs23), .val (.int v20), .val (.int v22), .val (.ref zs48), .val (.int v24), .val (.int (1 : Int32))] [])) (fun t k => ?_) ?_
          · show Steps p.tables e below (T25.setTop (mkF m 87 #[.val (.int x0), .val (.int x1), .val (.int v1), .val (.int (0 : Int32)), .val (.ref zs23), .val (.int v20), .val (.int v22), .val (.ref zs48), .val (.int v24), .val (.int (1 : Int32))] [(.int v22)])) t
            exact XS.ifYes X25.here hx rfl (pc0 := 87) (pc' := 99) rfl (hb hby at_87) rfl ((if0 _ _).trans (teq hc28).1) (by decide) (by decide) k
          refine RunsW.via (T' := T25) (g' := (mkF m 100 #[.val (.int x0), .val (.int x1), .val (.int v1), .val (.int (0 : Int32)), .val (.ref zs23), .val (.int v20), .val (.int v22), .val (.ref zs48), .val (.int v24), .val (.int (1 : Int32))] [(.int (0 : Int32))])) (fun t k => ?_) ?_
          · show Steps p.tables e below (T25.setTop (mkF m 99 #[.val (.int x0), .val (.int x1), .val (.int v1), .val (.int (0 : Int32)), .val (.ref zs23), .val (.int v20), .val (.int v22), .val (.ref zs48), .val (.int v24), .val (.int (1 : Int32))] [])) t
            refine XS.iconst X25.here hx rfl (hb hby at_99) ?_
            exact k
          obtain rfl := Option.some.inj hr
          exact own_retNW X25 hx hlk (t := .boolean) hret (by simp) (hb hby at_100) hS23 (by first | (rw [e25]; exact kk23) | exact Nat.le_refl _) (by show ((((((((cells + 0) + 0) + 2) + 0) + 0) + 2) + 0) + 0) ≤ 4; omega) (by show ((((((((slots + 0) + 0) + 92) + 0) + 0) + 28) + 0) + 0) ≤ 120; omega) ⟨rfl, N25⟩
        · refine RunsW.via (T' := T25) (g' := (mkF m 90 #[.val (.int x0), .val (.int x1), .val (.int v1), .val (.int (0 : Int32)), .val (.ref zs23), .val (.int v20), .val (.int v22), .val (.ref zs48), .val (.int v24), .val (.int (1 : Int32))] [])) (fun t k => ?_) ?_
          · show Steps p.tables e below (T25.setTop (mkF m 87 #[.val (.int x0), .val (.int x1), .val (.int v1), .val (.int (0 : Int32)), .val (.ref zs23), .val (.int v20), .val (.int v22), .val (.ref zs48), .val (.int v24), .val (.int (1 : Int32))] [(.int v22)])) t
            exact XS.ifNo X25.here hx rfl (hb hby at_87) rfl ((if0 _ _).trans (feq hc28).1) k
          refine RunsW.via (T' := T25) (g' := (mkF m 92 #[.val (.int x0), .val (.int x1), .val (.int v1), .val (.int (0 : Int32)), .val (.ref zs23), .val (.int v20), .val (.int v22), .val (.ref zs48), .val (.int v24), .val (.int (1 : Int32))] [(.int (1 : Int32))])) (fun t k => ?_) ?_
          · show Steps p.tables e below (T25.setTop (mkF m 90 #[.val (.int x0), .val (.int x1), .val (.int v1), .val (.int (0 : Int32)), .val (.ref zs23), .val (.int v20), .val (.int v22), .val (.ref zs48), .val (.int v24), .val (.int (1 : Int32))] [])) t
            refine XS.iload X25.here hx rfl (hb hby at_90) rfl ?_
            exact k
          refine iteE hr (fun hc29 hr => ?_) (fun hc29 hr => ?_)
          · refine RunsW.via (T' := T25) (g' := (mkF m 99 #[.val (.int x0), .val (.int x1), .val (.int v1), .val (.int (0 : Int32)), .val (.ref zs23), .val (.int v20), .val (.int v22), .val (.ref zs48), .val (.int v24), .val (.int (1 : Int32))] [])) (fun t k => ?_) ?_
            · show Steps p.tables e below (T25.setTop (mkF m 92 #[.val (.int x0), .val (.int x1), .val (.int v1), .val (.int (0 : Int32)), .val (.ref zs23), .val (.int v20), .val (.int v22), .val (.ref zs48), .val (.int v24), .val (.int (1 : Int32))] [(.int (1 : Int32))])) t
              exact XS.ifYes X25.here hx rfl (pc0 := 92) (pc' := 99) rfl (hb hby at_92) rfl ((if0 _ _).trans (teq hc29).1) (by decide) (by decide) k
            refine RunsW.via (T' := T25) (g' := (mkF m 100 #[.val (.int x0), .val (.int x1), .val (.int v1), .val (.int (0 : Int32)), .val (.ref zs23), .val (.int v20), .val (.int v22), .val (.ref zs48), .val (.int v24), .val (.int (1 : Int32))] [(.int (0 : Int32))])) (fun t k => ?_) ?_
            · show Steps p.tables e below (T25.setTop (mkF m 99 #[.val (.int x0), .val (.int x1), .val (.int v1), .val (.int (0 : Int32)), .val (.ref zs23), .val (.int v20), .val (.int v22), .val (.ref zs48), .val (.int v24), .val (.int (1 : Int32))] [])) t
              refine XS.iconst X25.here hx rfl (hb hby at_99) ?_
              exact k
            obtain rfl := Option.some.inj hr
            exact own_retNW X25 hx hlk (t := .boolean) hret (by simp) (hb hby at_100) hS23 (by first | (rw [e25]; exact kk23) | exact Nat.le_refl _) (by show ((((((((cells + 0) + 0) + 2) + 0) + 0) + 2) + 0) + 0) ≤ 4; omega) (by show ((((((((slots + 0) + 0) + 92) + 0) + 0) + 28) + 0) + 0) ≤ 120; omega) ⟨rfl, N25⟩
          · refine RunsW.via (T' := T25) (g' := (mkF m 95 #[.val (.int x0), .val (.int x1), .val (.int v1), .val (.int (0 : Int32)), .val (.ref zs23), .val (.int v20), .val (.int v22), .val (.ref zs48), .val (.int v24), .val (.int (1 : Int32))] [])) (fun t k => ?_) ?_
            · show Steps p.tables e below (T25.setTop (mkF m 92 #[.val (.int x0), .val (.int x1), .val (.int v1), .val (.int (0 : Int32)), .val (.ref zs23), .val (.int v20), .val (.int v22), .val (.ref zs48), .val (.int v24), .val (.int (1 : Int32))] [(.int (1 : Int32))])) t
              exact XS.ifNo X25.here hx rfl (hb hby at_92) rfl ((if0 _ _).trans (feq hc29).1) k
            refine RunsW.via (T' := T25) (g' := (mkF m 100 #[.val (.int x0), .val (.int x1), .val (.int v1), .val (.int (0 : Int32)), .val (.ref zs23), .val (.int v20), .val (.int v22), .val (.ref zs48), .val (.int v24), .val (.int (1 : Int32))] [(.int (1 : Int32))])) (fun t k => ?_) ?_
            · show Steps p.tables e below (T25.setTop (mkF m 95 #[.val (.int x0), .val (.int x1), .val (.int v1), .val (.int (0 : Int32)), .val (.ref zs23), .val (.int v20), .val (.int v22), .val (.ref zs48), .val (.int v24), .val (.int (1 : Int32))] [])) t
              refine XS.iconst X25.here hx rfl (hb hby at_95) ?_
              show Steps p.tables e below (T25.setTop (mkF m 96 #[.val (.int x0), .val (.int x1), .val (.int v1), .val (.int (0 : Int32)), .val (.ref zs23), .val (.int v20), .val (.int v22), .val (.ref zs48), .val (.int v24), .val (.int (1 : Int32))] [(.int (1 : Int32))])) t
              refine XS.goto X25.here hx rfl (pc0 := 96) (pc' := 100) rfl (hb hby at_96) (by decide) (by decide) ?_
              exact k
            obtain rfl := Option.some.inj hr
            exact own_retNW X25 hx hlk (t := .boolean) hret (by simp) (hb hby at_100) hS23 (by first | (rw [e25]; exact kk23) | exact Nat.le_refl _) (by show ((((((((cells + 0) + 0) + 2) + 0) + 0) + 2) + 0) + 0) ≤ 4; omega) (by show ((((((((slots + 0) + 0) + 92) + 0) + 0) + 28) + 0) + 0) ≤ 120; omega) ⟨rfl, N25⟩
    · refine RunsW.via (T' := T25) (g' := (mkF m 78 #[.val (.int x0), .val (.int x1), .val (.int v1), .val (.int (0 : Int32)), .val (.ref zs23), .val (.int v20), .val (.int v22), .val (.ref zs48), .val (.int v24), .unset] [])) (fun t k => ?_) ?_
      · show Steps p.tables e below (T25.setTop (mkF m 71 #[.val (.int x0), .val (.int x1), .val (.int v1), .val (.int (0 : Int32)), .val (.ref zs23), .val (.int v20), .val (.int v22), .val (.ref zs48), .val (.int v24), .unset] [(.int (f1 v24))])) t
        exact XS.ifYes X25.here hx rfl (pc0 := 71) (pc' := 78) rfl (hb hby at_71) rfl ((if0 _ _).trans (feq hc26).2) (by decide) (by decide) k
      refine RunsW.via (T' := T25) (g' := (mkF m 82 #[.val (.int x0), .val (.int x1), .val (.int v1), .val (.int (0 : Int32)), .val (.ref zs23), .val (.int v20), .val (.int v22), .val (.ref zs48), .val (.int v24), .val (.int (0 : Int32))] [(.int (0 : Int32))])) (fun t k => ?_) ?_
      · show Steps p.tables e below (T25.setTop (mkF m 78 #[.val (.int x0), .val (.int x1), .val (.int v1), .val (.int (0 : Int32)), .val (.ref zs23), .val (.int v20), .val (.int v22), .val (.ref zs48), .val (.int v24), .unset] [])) t
        refine XS.iconst X25.here hx rfl (hb hby at_78) ?_
        show Steps p.tables e below (T25.setTop (mkF m 79 #[.val (.int x0), .val (.int x1), .val (.int v1), .val (.int (0 : Int32)), .val (.ref zs23), .val (.int v20), .val (.int v22), .val (.ref zs48), .val (.int v24), .unset] [(.int (0 : Int32))])) t
        refine XS.istore X25.here hx rfl (hb hby at_79) rfl (l' := #[.val (.int x0), .val (.int x1), .val (.int v1), .val (.int (0 : Int32)), .val (.ref zs23), .val (.int v20), .val (.int v22), .val (.ref zs48), .val (.int v24), .val (.int (0 : Int32))]) rfl ?_
        show Steps p.tables e below (T25.setTop (mkF m 81 #[.val (.int x0), .val (.int x1), .val (.int v1), .val (.int (0 : Int32)), .val (.ref zs23), .val (.int v20), .val (.int v22), .val (.ref zs48), .val (.int v24), .val (.int (0 : Int32))] [])) t
        refine XS.iloadN X25.here hx rfl (hb hby at_81) rfl ?_
        exact k
      refine iteE hr (fun hc30 hr => ?_) (fun hc30 hr => ?_)
      · refine RunsW.via (T' := T25) (g' := (mkF m 99 #[.val (.int x0), .val (.int x1), .val (.int v1), .val (.int (0 : Int32)), .val (.ref zs23), .val (.int v20), .val (.int v22), .val (.ref zs48), .val (.int v24), .val (.int (0 : Int32))] [])) (fun t k => ?_) ?_
        · show Steps p.tables e below (T25.setTop (mkF m 82 #[.val (.int x0), .val (.int x1), .val (.int v1), .val (.int (0 : Int32)), .val (.ref zs23), .val (.int v20), .val (.int v22), .val (.ref zs48), .val (.int v24), .val (.int (0 : Int32))] [(.int (0 : Int32))])) t
          exact XS.ifYes X25.here hx rfl (pc0 := 82) (pc' := 99) rfl (hb hby at_82) rfl ((if0 _ _).trans (teq hc30).1) (by decide) (by decide) k
        refine RunsW.via (T' := T25) (g' := (mkF m 100 #[.val (.int x0), .val (.int x1), .val (.int v1), .val (.int (0 : Int32)), .val (.ref zs23), .val (.int v20), .val (.int v22), .val (.ref zs48), .val (.int v24), .val (.int (0 : Int32))] [(.int (0 : Int32))])) (fun t k => ?_) ?_
        · show Steps p.tables e below (T25.setTop (mkF m 99 #[.val (.int x0), .val (.int x1), .val (.int v1), .val (.int (0 : Int32)), .val (.ref zs23), .val (.int v20), .val (.int v22), .val (.ref zs48), .val (.int v24), .val (.int (0 : Int32))] [])) t
          refine XS.iconst X25.here hx rfl (hb hby at_99) ?_
          exact k
        obtain rfl := Option.some.inj hr
        exact own_retNW X25 hx hlk (t := .boolean) hret (by simp) (hb hby at_100) hS23 (by first | (rw [e25]; exact kk23) | exact Nat.le_refl _) (by show ((((((((cells + 0) + 0) + 2) + 0) + 0) + 2) + 0) + 0) ≤ 4; omega) (by show ((((((((slots + 0) + 0) + 92) + 0) + 0) + 28) + 0) + 0) ≤ 120; omega) ⟨rfl, N25⟩
      · refine RunsW.via (T' := T25) (g' := (mkF m 85 #[.val (.int x0), .val (.int x1), .val (.int v1), .val (.int (0 : Int32)), .val (.ref zs23), .val (.int v20), .val (.int v22), .val (.ref zs48), .val (.int v24), .val (.int (0 : Int32))] [])) (fun t k => ?_) ?_
        · show Steps p.tables e below (T25.setTop (mkF m 82 #[.val (.int x0), .val (.int x1), .val (.int v1), .val (.int (0 : Int32)), .val (.ref zs23), .val (.int v20), .val (.int v22), .val (.ref zs48), .val (.int v24), .val (.int (0 : Int32))] [(.int (0 : Int32))])) t
          exact XS.ifNo X25.here hx rfl (hb hby at_82) rfl ((if0 _ _).trans (feq hc30).1) k
        refine RunsW.via (T' := T25) (g' := (mkF m 87 #[.val (.int x0), .val (.int x1), .val (.int v1), .val (.int (0 : Int32)), .val (.ref zs23), .val (.int v20), .val (.int v22), .val (.ref zs48), .val (.int v24), .val (.int (0 : Int32))] [(.int v22)])) (fun t k => ?_) ?_
        · show Steps p.tables e below (T25.setTop (mkF m 85 #[.val (.int x0), .val (.int x1), .val (.int v1), .val (.int (0 : Int32)), .val (.ref zs23), .val (.int v20), .val (.int v22), .val (.ref zs48), .val (.int v24), .val (.int (0 : Int32))] [])) t
          refine XS.iload X25.here hx rfl (hb hby at_85) rfl ?_
          exact k
        refine iteE hr (fun hc31 hr => ?_) (fun hc31 hr => ?_)
        · refine RunsW.via (T' := T25) (g' := (mkF m 99 #[.val (.int x0), .val (.int x1), .val (.int v1), .val (.int (0 : Int32)), .val (.ref zs23), .val (.int v20), .val (.int v22), .val (.ref zs48), .val (.int v24), .val (.int (0 : Int32))] [])) (fun t k => ?_) ?_
          · show Steps p.tables e below (T25.setTop (mkF m 87 #[.val (.int x0), .val (.int x1), .val (.int v1), .val (.int (0 : Int32)), .val (.ref zs23), .val (.int v20), .val (.int v22), .val (.ref zs48), .val (.int v24), .val (.int (0 : Int32))] [(.int v22)])) t
            exact XS.ifYes X25.here hx rfl (pc0 := 87) (pc' := 99) rfl (hb hby at_87) rfl ((if0 _ _).trans (teq hc31).1) (by decide) (by decide) k
          refine RunsW.via (T' := T25) (g' := (mkF m 100 #[.val (.int x0), .val (.int x1), .val (.int v1), .val (.int (0 : Int32)), .val (.ref zs23), .val (.int v20), .val (.int v22), .val (.ref zs48), .val (.int v24), .val (.int (0 : Int32))] [(.int (0 : Int32))])) (fun t k => ?_) ?_
          · show Steps p.tables e below (T25.setTop (mkF m 99 #[.val (.int x0), .val (.int x1), .val (.int v1), .val (.int (0 : Int32)), .val (.ref zs23), .val (.int v20), .val (.int v22), .val (.ref zs48), .val (.int v24), .val (.int (0 : Int32))] [])) t
            refine XS.iconst X25.here hx rfl (hb hby at_99) ?_
            exact k
          obtain rfl := Option.some.inj hr
          exact own_retNW X25 hx hlk (t := .boolean) hret (by simp) (hb hby at_100) hS23 (by first | (rw [e25]; exact kk23) | exact Nat.le_refl _) (by show ((((((((cells + 0) + 0) + 2) + 0) + 0) + 2) + 0) + 0) ≤ 4; omega) (by show ((((((((slots + 0) + 0) + 92) + 0) + 0) + 28) + 0) + 0) ≤ 120; omega) ⟨rfl, N25⟩
        · refine RunsW.via (T' := T25) (g' := (mkF m 90 #[.val (.int x0), .val (.int x1), .val (.int v1), .val (.int (0 : Int32)), .val (.ref zs23), .val (.int v20), .val (.int v22), .val (.ref zs48), .val (.int v24), .val (.int (0 : Int32))] [])) (fun t k => ?_) ?_
          · show Steps p.tables e below (T25.setTop (mkF m 87 #[.val (.int x0), .val (.int x1), .val (.int v1), .val (.int (0 : Int32)), .val (.ref zs23), .val (.int v20), .val (.int v22), .val (.ref zs48), .val (.int v24), .val (.int (0 : Int32))] [(.int v22)])) t
            exact XS.ifNo X25.here hx rfl (hb hby at_87) rfl ((if0 _ _).trans (feq hc31).1) k
          refine RunsW.via (T' := T25) (g' := (mkF m 92 #[.val (.int x0), .val (.int x1), .val (.int v1), .val (.int (0 : Int32)), .val (.ref zs23), .val (.int v20), .val (.int v22), .val (.ref zs48), .val (.int v24), .val (.int (0 : Int32))] [(.int (0 : Int32))])) (fun t k => ?_) ?_
          · show Steps p.tables e below (T25.setTop (mkF m 90 #[.val (.int x0), .val (.int x1), .val (.int v1), .val (.int (0 : Int32)), .val (.ref zs23), .val (.int v20), .val (.int v22), .val (.ref zs48), .val (.int v24), .val (.int (0 : Int32))] [])) t
            refine XS.iload X25.here hx rfl (hb hby at_90) rfl ?_
            exact k
          refine iteE hr (fun hc32 hr => ?_) (fun hc32 hr => ?_)
          · refine RunsW.via (T' := T25) (g' := (mkF m 99 #[.val (.int x0), .val (.int x1), .val (.int v1), .val (.int (0 : Int32)), .val (.ref zs23), .val (.int v20), .val (.int v22), .val (.ref zs48), .val (.int v24), .val (.int (0 : Int32))] [])) (fun t k => ?_) ?_
            · show Steps p.tables e below (T25.setTop (mkF m 92 #[.val (.int x0), .val (.int x1), .val (.int v1), .val (.int (0 : Int32)), .val (.ref zs23), .val (.int v20), .val (.int v22), .val (.ref zs48), .val (.int v24), .val (.int (0 : Int32))] [(.int (0 : Int32))])) t
              exact XS.ifYes X25.here hx rfl (pc0 := 92) (pc' := 99) rfl (hb hby at_92) rfl ((if0 _ _).trans (teq hc32).1) (by decide) (by decide) k
            refine RunsW.via (T' := T25) (g' := (mkF m 100 #[.val (.int x0), .val (.int x1), .val (.int v1), .val (.int (0 : Int32)), .val (.ref zs23), .val (.int v20), .val (.int v22), .val (.ref zs48), .val (.int v24), .val (.int (0 : Int32))] [(.int (0 : Int32))])) (fun t k => ?_) ?_
            · show Steps p.tables e below (T25.setTop (mkF m 99 #[.val (.int x0), .val (.int x1), .val (.int v1), .val (.int (0 : Int32)), .val (.ref zs23), .val (.int v20), .val (.int v22), .val (.ref zs48), .val (.int v24), .val (.int (0 : Int32))] [])) t
              refine XS.iconst X25.here hx rfl (hb hby at_99) ?_
              exact k
            obtain rfl := Option.some.inj hr
            exact own_retNW X25 hx hlk (t := .boolean) hret (by simp) (hb hby at_100) hS23 (by first | (rw [e25]; exact kk23) | exact Nat.le_refl _) (by show ((((((((cells + 0) + 0) + 2) + 0) + 0) + 2) + 0) + 0) ≤ 4; omega) (by show ((((((((slots + 0) + 0) + 92) + 0) + 0) + 28) + 0) + 0) ≤ 120; omega) ⟨rfl, N25⟩
          · refine RunsW.via (T' := T25) (g' := (mkF m 95 #[.val (.int x0), .val (.int x1), .val (.int v1), .val (.int (0 : Int32)), .val (.ref zs23), .val (.int v20), .val (.int v22), .val (.ref zs48), .val (.int v24), .val (.int (0 : Int32))] [])) (fun t k => ?_) ?_
            · show Steps p.tables e below (T25.setTop (mkF m 92 #[.val (.int x0), .val (.int x1), .val (.int v1), .val (.int (0 : Int32)), .val (.ref zs23), .val (.int v20), .val (.int v22), .val (.ref zs48), .val (.int v24), .val (.int (0 : Int32))] [(.int (0 : Int32))])) t
              exact XS.ifNo X25.here hx rfl (hb hby at_92) rfl ((if0 _ _).trans (feq hc32).1) k
            refine RunsW.via (T' := T25) (g' := (mkF m 100 #[.val (.int x0), .val (.int x1), .val (.int v1), .val (.int (0 : Int32)), .val (.ref zs23), .val (.int v20), .val (.int v22), .val (.ref zs48), .val (.int v24), .val (.int (0 : Int32))] [(.int (1 : Int32))])) (fun t k => ?_) ?_
            · show Steps p.tables e below (T25.setTop (mkF m 95 #[.val (.int x0), .val (.int x1), .val (.int v1), .val (.int (0 : Int32)), .val (.ref zs23), .val (.int v20), .val (.int v22), .val (.ref zs48), .val (.int v24), .val (.int (0 : Int32))] [])) t
              refine XS.iconst X25.here hx rfl (hb hby at_95) ?_
              show Steps p.tables e below (T25.setTop (mkF m 96 #[.val (.int x0), .val (.int x1), .val (.int v1), .val (.int (0 : Int32)), .val (.ref zs23), .val (.int v20), .val (.int v22), .val (.ref zs48), .val (.int v24), .val (.int (0 : Int32))] [(.int (1 : Int32))])) t
              refine XS.goto X25.here hx rfl (pc0 := 96) (pc' := 100) rfl (hb hby at_96) (by decide) (by decide) ?_
              exact k
            obtain rfl := Option.some.inj hr
            exact own_retNW X25 hx hlk (t := .boolean) hret (by simp) (hb hby at_100) hS23 (by first | (rw [e25]; exact kk23) | exact Nat.le_refl _) (by show ((((((((cells + 0) + 0) + 2) + 0) + 0) + 2) + 0) + 0) ≤ 4; omega) (by show ((((((((slots + 0) + 0) + 92) + 0) + 0) + 28) + 0) + 0) ≤ 120; omega) ⟨rfl, N25⟩
def f0 (x0 : Int32) (x1 : Int32) : Option (Int32) := g0_0 x0 x1
theorem pn_0 : plainName "com/example/earned_trust/earnedtrust/model/UriSyntaxIsHexDigitPinLaw" = true := by first | (simp [plainName, overriddenIn]; done) | decide +kernel
theorem ef_0 (m : MethodId) (x0 : Int32) (x1 : Int32) : entryFrame m #[(.int x0), (.int x1)] maxLocals = mkF m 0 #[.val (.int x0), .val (.int x1), .unset, .unset, .unset, .unset, .unset, .unset, .unset, .unset] [] := by first | (simp [entryFrame, mkF, argsToLocals, Value.category, maxLocals]; done) | rfl
set_option maxRecDepth 65536 in
set_option maxHeartbeats 4000000 in
theorem rm0 (l : Launch) (Z : State) (a0 : Array Value) (hw : ∀ d ∈ tables_1, d.before a0 Z = true) (ws : List Jvm.Cond) (x0 : Int32) (x1 : Int32) (hE : Heap) (n0 : Nat) (Z0 : n0 ≤ hE.size) (hn0 : n0 = hE.size) (hkeep : ∀ (b : Addr) (cl : Cell), Z.heap[b]? = some cl → hE[b]? = some cl) (hh19 : Jvm.Lit.constHeld Z "com/example/earned_trust/earnedtrust/model/UriSyntaxIsHexDigitPinLaw" 19) (hh28 : Jvm.Lit.constHeld Z "com/example/earned_trust/earnedtrust/model/UriSyntaxIsHexDigitPinLaw" 28) (hcw : Jvm.Lit.compactW.before a0 Z = true) {G1 : Int32} {G3 : Value} (O2 : Sta Z hE "java/lang/String" "COMPACT_STRINGS" "Z" (.int G1)) (P5 : ¬ G1 = 0) (O4 : Sta Z hE "jdk/internal/util/Preconditions" "SIOOBE_FORMATTER" "Ljava/util/function/BiFunction;" G3) (rG3 : G3.isRef = true) (r : Int32) (hr : f0 x0 x1 = some r) :
    MetFree l x (head1 (Jvm.Cond.code x code maxLocals ret :: ws) room_1) (fun a U => a = #[(.int x0), (.int x1)] ∧ Z.Warmed39 U.vm ∧ U.heap = hE ∧ U.vm = Z.vm) (fun _ _ _ _ _ => True) (fun _ U o U' => ∃ v L, o = .returned v ∧ (P0 n0 r v U'.heap L) ∧ ReturnedEndW U o U' L 4 120) := by
  refine MetFree.of_bodySF (plainFor_of_name pn_0) hisR ?_
  intro p e s m args below meth c s₁ Bd hml0 hP hK
  obtain ⟨rfl, hZ, hh, hvm⟩ := hP
  have X0 : Stand p l e room_1 s m #[(.int x0), (.int x1)] below meth c s₁ [] 0 0 := Stand.of_body Bd
  have e0 : s₁.heap = hE := by rw [← hh, Bd.state]; rfl
  have C : Ctx p s m meth c Z a0 "com/example/earned_trust/earnedtrust/model/UriSyntaxIsHexDigitPinLaw" code 10 (some .boolean) "law" := ⟨Bd.exec, hZ, hw, Bd.bytes, hml0, findClass_of_methodNamed Bd.named, Bd.returns, BodyLoose.notSynchronized Bd, (name_of_methodNamed Bd.named Bd.method).1⟩
  have X0 : Stand p l e room_1 (s.setVm s.vm) m #[(.int x0), (.int x1)] below meth c s₁ [] 0 0 := X0
  have hS0 : s.Since s.vm hE.size := (State.WarmedH.refl s).since _
  have hk0 : hE.size ≤ hE.size := Nat.le_refl _
  have C : Ctx p (s.setVm s.vm) m meth c Z a0 "com/example/earned_trust/earnedtrust/model/UriSyntaxIsHexDigitPinLaw" code 10 (some .boolean) "law" := C
  refine RunsW.via (fun t k => castTop (ef_0 m x0 x1) k) (b0_0 C X0 e0 (Fr.nil n0) (by show 0 ≤ 0; omega) (by show 0 ≤ 0; omega) Z0 hS0 hk0 x0 x1 (by rw [hh]; exact hn0) (by rw [hh]; exact hkeep) (by rw [hvm]; exact IB.start) hh19 hh28 hcw O2 P5 O4 rG3 hr)
end Own
theorem bindS {α β : Type} {x : Option α} {k : α → Option β} {r : Option β} {v : α} (h : x = some v) (H : k v = r) : x.bind k = r := by rw [h]; exact H
theorem letS {α β : Type} {x : α} {k : α → β} {r : β} (H : k x = r) : letO x k = r := H
theorem wrS {α β : Type} {n : Nat} {xs : List α} {j : Int32} {v : α} {k : List α → Option β} {r : Option β} (hl : xs.length = n) (h1 : ¬ j < 0) (h2 : j.toNatClampNeg < n) (H : ∀ ys : List α, ys.length = n → k ys = r) : (wrO xs j v).bind k = r := by
  refine bindS (v := xs.set j.toNatClampNeg v) ?_ (H _ (by simp [hl]))
  unfold wrO
  rw [if_neg]
  rintro (q | q)
  · exact h1 q
  · omega
theorem rdS {α β : Type} {n : Nat} {xs : List α} {j : Int32} {k : α → Option β} {r : Option β} (hl : xs.length = n) (h1 : ¬ j < 0) (h2 : j.toNatClampNeg < n) (H : ∀ v : α, k v = r) : (rdO xs j).bind k = r := by
  refine bindS (v := xs[j.toNatClampNeg]'(by omega)) ?_ (H _)
  unfold rdO
  rw [if_neg h1]
  exact List.getElem?_eq_getElem (by omega)
theorem own_irem (u d : Int32) (D : Int) (hd : d.toInt = D) (hD : 0 < D) (h0 : 0 ≤ u.toInt) : (u - (u / d) * d).toInt = u.toInt % D := by
  have hn : d ≠ -1 := fun q => by rw [q] at hd; have : (-1 : Int32).toInt = -1 := by decide
                                  omega
  have e1 := (c_idiv u d D hd hn).1 h0
  have e2 := c_imul (u / d) d
  have e3 := c_isub u ((u / d) * d)
  have r1 := rng32 u
  have r2 := rng32 ((u / d) * d)
  have r3 := rng32 (u - (u / d) * d)
  rw [hd, e1] at e2
  have e4 := Int.emod_add_mul_ediv u.toInt D
  have e5 := Int.emod_nonneg u.toInt (by omega : D ≠ 0)
  have e6 := Int.emod_lt_of_pos u.toInt hD
  have e7 : u.toInt / D * D = D * (u.toInt / D) := Int.mul_comm _ _
  rw [e7] at e2
  have e8 : 0 ≤ D * (u.toInt / D) := Int.mul_nonneg (by omega) (Int.ediv_nonneg h0 (by omega))
  omega
theorem own_pos (x : Int32) : 0 ≤ (x &&& (2147483647 : Int32)).toInt := by rw [c_mask x 2147483647 31 (by decide) (by decide)]; exact Int.emod_nonneg _ (by decide)
theorem own_idx {j : Int32} {n : Nat} (h0 : 0 ≤ j.toInt) (h1 : j.toInt < n) : ¬ j < 0 ∧ j.toNatClampNeg < n := by
  refine ⟨by rw [Int32.lt_iff_toInt_lt]; have : (0 : Int32).toInt = 0 := by decide
             omega, ?_⟩
  show j.toInt.toNat < n
  omega
theorem own_nat (x : Int32) (h : 0 ≤ x.toInt) : Int32.ofNat x.toInt.toNat = x := by
  have r := rng32 x
  have e := len_toInt (n := x.toInt.toNat) (by omega)
  apply Int32.toInt_inj.mp
  show (Nat.toInt32 x.toInt.toNat).toInt = x.toInt
  rw [e]; omega
theorem own_or (c : Int32) (h : 0 ≤ c.toInt) (h2 : c.toInt < 65536) : c.toInt ≤ (c ||| (32 : Int32)).toInt := by
  have q : ∀ x : Int32, x.toInt = if 2 * x.toBitVec.toNat < 2 ^ 32 then (x.toBitVec.toNat : Int) else (x.toBitVec.toNat : Int) - ((2 ^ 32 : Nat) : Int) := fun x => BitVec.toInt_eq_toNat_cond x.toBitVec
  have n1 := q c
  have n2 := q (c ||| (32 : Int32))
  have e : (c ||| (32 : Int32)).toBitVec.toNat = c.toBitVec.toNat ||| 32 := by
    show (c.toBitVec ||| 32#32).toNat = _
    rw [BitVec.toNat_or]
    rfl
  have z : c.toBitVec.toNat < 2 ^ 16 := by split at n1 <;> omega
  have le1 : c.toBitVec.toNat ≤ c.toBitVec.toNat ||| 32 := Nat.left_le_or
  have lt : c.toBitVec.toNat ||| 32 < 2 ^ 16 := Nat.or_lt_two_pow z (by decide)
  rw [e] at n2
  generalize c.toBitVec.toNat ||| 32 = w at *
  rw [if_pos (by omega)] at n2
  rw [if_pos (by omega)] at n1
  omega
def own_ok (k : Nat) : Bool := f1 (Int32.ofNat k) == f2 (Int32.ofNat k)
theorem own_low : ∀ k : Fin 128, own_ok k.val = true := by decide +kernel
theorem own_same (c : Int32) (h : 0 ≤ c.toInt) (h2 : c.toInt < 65536) : f1 c = f2 c := by
  by_cases hs : c.toInt < 128
  · have q := own_low ⟨c.toInt.toNat, by omega⟩
    unfold own_ok at q
    rw [own_nat c h, beq_iff_eq] at q
    exact q
  · have hor := own_or c h h2
    have k1 : (48 : Int32).toInt = 48 := by decide
    have k2 : (57 : Int32).toInt = 57 := by decide
    have k3 : (97 : Int32).toInt = 97 := by decide
    have k4 : (102 : Int32).toInt = 102 := by decide
    have k5 : (65 : Int32).toInt = 65 := by decide
    have k6 : (70 : Int32).toInt = 70 := by decide
    have a1 : ¬ c < (48 : Int32) := by rw [Int32.lt_iff_toInt_lt]; omega
    have a2 : (57 : Int32) < c := by rw [Int32.lt_iff_toInt_lt]; omega
    have a3 : ¬ c < (97 : Int32) := by rw [Int32.lt_iff_toInt_lt]; omega
    have a4 : (102 : Int32) < c := by rw [Int32.lt_iff_toInt_lt]; omega
    have a5 : ¬ c < (65 : Int32) := by rw [Int32.lt_iff_toInt_lt]; omega
    have a6 : (70 : Int32) < c := by rw [Int32.lt_iff_toInt_lt]; omega
    have b3 : ¬ (c ||| (32 : Int32)) < (97 : Int32) := by rw [Int32.lt_iff_toInt_lt]; omega
    have b4 : (102 : Int32) < (c ||| (32 : Int32)) := by rw [Int32.lt_iff_toInt_lt]; omega
    have e1 : f1 c = 0 := by
      unfold f1 g1_0 g1_12 g1_24
      rw [if_neg a1, if_pos a2, if_neg a3, if_pos a4, if_neg a5, if_pos a6]
    have e2 : f2 c = 0 := by
      unfold f2 g2_0 g2_21 g2_22 g2_39 g2_40
      rw [if_neg a1, if_pos a2, if_neg b3, if_pos b4]
      rfl
    rw [e1, e2]
abbrev own_hex : List Int32 := [48, 49, 50, 51, 52, 53, 54, 55, 56, 57, 97, 98, 99, 100, 101, 102, 65, 66, 67, 68, 69, 70]
abbrev own_near : List Int32 := [47, 58, 64, 71, 96, 103]
theorem own_rd22 (j : Int32) (h0 : 0 ≤ j.toInt) (h1 : j.toInt < 22) : ∃ v, rdO own_hex j = some v ∧ f1 v = 1 := by
  have t : ∀ n : Fin 22, ((rdO own_hex (Int32.ofNat n.val)).bind fun v => if f1 v = 1 then some () else none) = some () := by decide +kernel
  have q := t ⟨j.toInt.toNat, by omega⟩
  rw [own_nat j h0] at q
  cases hr : rdO own_hex j with
  | none => rw [hr] at q; exact nomatch q
  | some v =>
    refine ⟨v, rfl, ?_⟩
    rw [hr] at q
    by_cases c : f1 v = 1
    · exact c
    · simp [c] at q
theorem own_rd6 (j : Int32) (h0 : 0 ≤ j.toInt) (h1 : j.toInt < 6) : ∃ v, rdO own_near j = some v ∧ f1 v = 0 := by
  have t : ∀ n : Fin 6, ((rdO own_near (Int32.ofNat n.val)).bind fun v => if f1 v = 0 then some () else none) = some () := by decide +kernel
  have q := t ⟨j.toInt.toNat, by omega⟩
  rw [own_nat j h0] at q
  cases hr : rdO own_near j with
  | none => rw [hr] at q; exact nomatch q
  | some v =>
    refine ⟨v, rfl, ?_⟩
    rw [hr] at q
    by_cases c : f1 v = 0
    · exact c
    · simp [c] at q
theorem own_law (x0 x1 : Int32) : f0 x0 x1 = some 1 := by
  unfold f0 g0_0
  refine letS ?_
  have hc := c_i2c (x0 &&& (65535 : Int32))
  rw [if_pos (own_same _ hc.2.1 hc.2.2)]
  have hj := own_irem (x1 &&& (2147483647 : Int32)) 22 22 (by decide) (by decide) (own_pos x1)
  obtain ⟨v, r1, r2⟩ := own_rd22 ((x1 &&& (2147483647 : Int32)) - ((x1 &&& (2147483647 : Int32)) / 22) * 22) (by rw [hj]; exact Int.emod_nonneg _ (by decide)) (by rw [hj]; exact Int.emod_lt_of_pos _ (by decide))
  refine bindS r1 ?_
  refine letS ?_
  have hk := own_irem (x1 &&& (2147483647 : Int32)) 6 6 (by decide) (by decide) (own_pos x1)
  obtain ⟨w, s1, s2⟩ := own_rd6 ((x1 &&& (2147483647 : Int32)) - ((x1 &&& (2147483647 : Int32)) / 6) * 6) (by rw [hk]; exact Int.emod_nonneg _ (by decide)) (by rw [hk]; exact Int.emod_lt_of_pos _ (by decide))
  refine bindS s1 ?_
  rw [if_pos s2, r2]
  rfl
set_option maxRecDepth 65536 in
set_option maxHeartbeats 40000000 in
theorem comes_1 {Post : Tables → Env → Array Value → State → Outcome → State → Prop} (hpost : ∀ tb e args s v u, (limb_1_1.after args s (.returned v) u = true ∧ limb_1_2.after args s (.returned v) u = true ∧ True) → ReturnedEndW s (.returned v) u (Jvm.fieldLocs frame_1_writes args s ++ Jvm.arrayLocs frame_1_arrays args s ++ Jvm.staticLocs frame_1_statics s) 8 2112 → Post tb e args s (.returned v) u) :
    ArmFor flags0 classFile x code maxLocals ret World_1 tables_1 room_1 Calls_1 rest_1 Pre_1 Post := by
  intro l hfl _ _ p e ha hc hk s m args below hf hA hF happ hP
  obtain ⟨hcalls, hrest, hpre⟩ := hP
  obtain ⟨-, -, -, hnamed, -, -, -, hat⟩ := (Spec.applies_iff hf).mp happ
  obtain ⟨hg, hn⟩ := and_e (Cond.before_iff.mp (show (Jvm.Cond.and given_1 narrow_1).before args s = true from hpre))
  obtain ⟨g1, g2⟩ := and_e hg
  obtain ⟨g3, g4⟩ := and_e g2
  obtain ⟨w0, w1, rfl⟩ : ∃ w0 w1 : Value, args = #[w0, w1] := by
    have hs : args.size = 2 := by simpa [Cond.value, given_1] using g1
    obtain ⟨L⟩ := args
    match L, hs with
    | [w0, w1], _ => exact ⟨w0, w1, rfl⟩
  have hw := fun d (hd : d ∈ tables_1) => atoms_spec (ws := Jvm.Cond.code x code maxLocals ret :: tables_1) hat d (List.mem_cons_of_mem _ hd)
  obtain ⟨i0, ei0⟩ := is_v g3
  obtain rfl : w0 = (.int i0) := Option.some.inj ei0
  obtain ⟨i1, ei1⟩ := is_v g4
  obtain rfl : w1 = (.int i1) := Option.some.inj ei1
  obtain ⟨hsets, hown0⟩ := atoms_of _ (rest_1_c_eq ▸ (show rest_1_c.before _ s = true from hrest))
  have n5 := not_v (Cond.before_iff.mp (hsets _ (List.mem_of_getElem? (i := 2) rfl)))
  obtain ⟨i11, e10⟩ := is_v (Cond.before_iff.mp (hsets _ (List.mem_of_getElem? (i := 1) rfl)))
  have S12 : Sta s s.heap "java/lang/String" "COMPACT_STRINGS" "Z" (.int i11) := Sta.start e10 (Or.inl (hsets _ (List.mem_of_getElem? (i := 0) rfl)))
  obtain ⟨v13, e14, r15⟩ := isR_v (Cond.before_iff.mp (hsets _ (List.mem_of_getElem? (i := 8) rfl)))
  have S16 : Sta s s.heap "jdk/internal/util/Preconditions" "SIOOBE_FORMATTER" "Ljava/util/function/BiFunction;" v13 := Sta.start e14 (Or.inl (hsets _ (List.mem_of_getElem? (i := 7) rfl)))
  have c17 : ¬ (i11 = (0 : Int32)) := gotF (Cond.eq_ints e10 (Term.int_eval (0))) n5
  have hone := own_law i0 i1
  obtain ⟨n, o, h1, h2, h3, _, L, rfl, ⟨rfl, N⟩, hq⟩ := rm0 l s _ hw tables_1 i0 i1 s.heap s.heap.size (Nat.le_refl _) rfl (fun _ _ q => q) (hcalls.1 ("com/example/earned_trust/earnedtrust/model/UriSyntaxIsHexDigitPinLaw", 19) (by simp [consts_1])) (hcalls.1 ("com/example/earned_trust/earnedtrust/model/UriSyntaxIsHexDigitPinLaw", 28) (by simp [consts_1])) (hsets _ (List.mem_of_getElem? (i := 2) rfl)) S12 c17 S16 r15 _ hone p e ha hc hk s m _ below hf ((Spec.applies_iff_loose hf).mp happ).1 ⟨rfl, State.Warmed39.refl s, rfl, rfl⟩ trivial
  refine ⟨n, _, h1, h2, h3, hpost _ _ _ _ _ _ ⟨Cond.after_iff.mpr rfl, Cond.after_iff.mpr (eq_i res_at (Term.int_eval (1)) rfl), trivial⟩ ⟨hq.1, hq.2.1, hq.2.2.1, (hq.2.2.2.sift fun y hy => Or.inr (N y hy)).mono (by decide) (by decide)⟩⟩
theorem main_1_1 : Claimed_1_1 := comes_1 fun _ _ _ _ _ _ h hF => ⟨h.1, hF⟩
theorem main_1_2 : Claimed_1_2 := comes_1 fun _ _ _ _ _ _ h hF => ⟨h.2.1, hF⟩
end Jvm.Pilot.@@N@@
namespace Jvm.Pilot.@@N@@
open Jvm Jvm.ClassFile Sem Op Lib Jvm.Free Jvm.Stand Jvm.Pilot.@@N@@.Jvm.D
/-! MADE BY PROGRAM (witnessworld.py) out of the Statement's table words and the real class files: 17 classes; the members and pool entries that the words name. The judged class is class 1, her method 2. -/
namespace start1
open Jvm.ClassFile
def u (s : String) : CpInfo := .utf8 (stringToUtf16 s)
/-- a pool by its gaps: so many unusable entries, then the entry; so many at the end -/
def gap : Nat → List CpInfo → List CpInfo
  | 0, r => r
  | n + 1, r => .unusable :: gap n r
def poolList (es : List (Nat × CpInfo)) (last : Nat) : List CpInfo := es.foldr (fun e r => gap e.1 (e.2 :: r)) (gap last [])
def pool (es : List (Nat × CpInfo)) (last : Nat) : Array CpInfo := ⟨poolList es last⟩
def fileOf (pool : Array CpInfo) (this : Nat) (attrs : Array Attribute := #[]) (ms : Array MethodInfo := #[]) (fl : Nat := 33) (sup : Nat := 0) (ifs : Array Nat := #[]) (fds : Array FieldInfo := #[]) : ClassFile where
  minorVersion := 0
  majorVersion := 65
  constantPool := pool
  accessFlags := fl
  thisClass := this
  superClass := sup
  interfaces := ifs
  fields := fds
  methods := ms
  attributes := attrs
def plain (name : String) (sup : Option ClassId) : Class where
  name := name
  kind := .ordinary
  loader := none
  accessFlags := 33
  super := sup
  interfaces := #[]
  cf := none
  fields := #[]
  methods := #[]
  instanceTypes := #[]
  staticTypes := #[]
  resolved := #[]
  callSites := []
  init := .initialized
  statics := none
  mirror := none

def pool0 : Array CpInfo := pool [(5, u "<init>"), (0, u "()V"), (1, .class_ 10), (1, u "java/lang/Object")] 113

def k0m0 : Method := { name := "<init>", desc := "()V", sig := { parameters := [], returnType := none }, accessFlags := 1, code := none }
/-- java/lang/Object -/
def k0 : Class := { plain "java/lang/Object" none with
  accessFlags := 33
  interfaces := #[]
  cf := some (fileOf pool0 8 #[] #[{ accessFlags := 1, nameIndex := 5, descriptorIndex := 6, attributes := #[] }] 33 0 #[] #[])
  fields := #[]
  methods := #[k0m0]
  instanceTypes := #[]
  staticTypes := #[]
  resolved := Array.replicate 124 none
  statics := none }

def pool1 : Array CpInfo := pool [(2, .class_ 4), (1, u "java/lang/Object"), (0, u "<init>"), (0, u "()V"), (0, .integer 65535), (0, .methodref 9 10), (0, .class_ 11), (0, .nameAndType 12 13), (0, u "com/example/earned_trust/earnedtrust/model/UriSyntax"), (0, u "isHexDigit"), (0, u "(C)Z"), (0, .methodref 15 16), (0, .class_ 17), (0, .nameAndType 18 13), (0, u "com/example/earned_trust/earnedtrust/model/UriSyntaxIsHexDigitPinLaw"), (0, u "reference"), (0, .string 20), (0, u "0123456789abcdefABCDEF"), (0, .integer 2147483647), (0, .methodref 23 24), (0, .class_ 25), (0, .nameAndType 26 27), (0, u "java/lang/String"), (0, u "charAt"), (0, u "(I)C"), (0, .string 29), (0, u "/:@G`g"), (3, u "law"), (0, u "(II)Z")] 2

def k1m0 : Method := { name := "<init>", desc := "()V", sig := { parameters := [], returnType := none }, accessFlags := 2, code := none }
def k1c1 : Code := { maxStack := 2, maxLocals := 4, code := method_2_code, exceptionTable := #[], attributes := #[] }
def k1m1 : Method := { name := "reference", desc := "(C)Z", sig := { parameters := [.char], returnType := some .boolean }, accessFlags := 10, code := some k1c1 }
def k1c2 : Code := { maxStack := 3, maxLocals := 10, code := code, exceptionTable := #[], attributes := #[] }
def k1m2 : Method := { name := "law", desc := "(II)Z", sig := { parameters := [.int, .int], returnType := some .boolean }, accessFlags := 9, code := some k1c2 }
/-- com/example/earned_trust/earnedtrust/model/UriSyntaxIsHexDigitPinLaw -/
def k1 : Class := { plain "com/example/earned_trust/earnedtrust/model/UriSyntaxIsHexDigitPinLaw" (some 0) with
  accessFlags := 49
  interfaces := #[]
  cf := some (fileOf pool1 15 #[] #[{ accessFlags := 2, nameIndex := 5, descriptorIndex := 6, attributes := #[] }, { accessFlags := 10, nameIndex := 18, descriptorIndex := 13, attributes := #[] }, { accessFlags := 9, nameIndex := 33, descriptorIndex := 34, attributes := #[] }] 49 2 #[] #[])
  fields := #[]
  methods := #[k1m0, k1m1, k1m2]
  instanceTypes := #[]
  staticTypes := #[]
  resolved := Array.replicate 37 none
  statics := none }

def pool2 : Array CpInfo := pool [(1, .class_ 2), (0, u "com/example/earned_trust/earnedtrust/model/UriSyntax"), (1, .class_ 6), (1, u "java/lang/Object"), (0, u "<init>"), (0, u "()V"), (12, u "isHexDigit"), (0, u "(C)Z"), (19, .class_ 44), (1, u "com/example/earned_trust/earnedtrust/model/UriSyntax$Parts"), (77, .class_ 124), (1, u "com/example/earned_trust/earnedtrust/model/UriSyntax$Authority"), (23, u "DEFAULT_PORTS"), (0, u "Ljava/util/Map;"), (197, u "UNRESERVED_PUNCTUATION"), (0, u "Ljava/lang/String;"), (1, u "SUB_DELIMS"), (2, u "SCHEME"), (0, u "USER_INFORMATION"), (0, u "HOST"), (0, u "PATH"), (0, u "QUERY"), (2, u "SHORTENED_IPV6_GROUPS"), (0, u "I")] 59

def k2m0 : Method := { name := "<init>", desc := "()V", sig := { parameters := [], returnType := none }, accessFlags := 2, code := none }
def k2c1 : Code := { maxStack := 2, maxLocals := 1, code := prog_45_method_2_code, exceptionTable := #[], attributes := #[] }
def k2m1 : Method := { name := "isHexDigit", desc := "(C)Z", sig := { parameters := [.char], returnType := some .boolean }, accessFlags := 8, code := some k2c1 }
/-- com/example/earned_trust/earnedtrust/model/UriSyntax -/
def k2 : Class := { plain "com/example/earned_trust/earnedtrust/model/UriSyntax" (some 0) with
  accessFlags := 32
  interfaces := #[]
  cf := some (fileOf pool2 1 #[.nestMembers #[122, 42]] #[{ accessFlags := 2, nameIndex := 7, descriptorIndex := 8, attributes := #[] }, { accessFlags := 8, nameIndex := 21, descriptorIndex := 22, attributes := #[] }] 32 4 #[] #[{ accessFlags := 24, nameIndex := 347, descriptorIndex := 348, attributes := #[] }, { accessFlags := 24, nameIndex := 350, descriptorIndex := 348, attributes := #[] }, { accessFlags := 26, nameIndex := 353, descriptorIndex := 348, attributes := #[] }, { accessFlags := 26, nameIndex := 354, descriptorIndex := 348, attributes := #[] }, { accessFlags := 26, nameIndex := 355, descriptorIndex := 348, attributes := #[] }, { accessFlags := 26, nameIndex := 356, descriptorIndex := 348, attributes := #[] }, { accessFlags := 26, nameIndex := 357, descriptorIndex := 348, attributes := #[] }, { accessFlags := 26, nameIndex := 148, descriptorIndex := 149, attributes := #[] }, { accessFlags := 26, nameIndex := 360, descriptorIndex := 361, attributes := #[] }])
  fields := #[{ name := "UNRESERVED_PUNCTUATION", type := (.object "java/lang/String"), accessFlags := 24, slot := 0, constantValue := 0 }, { name := "SUB_DELIMS", type := (.object "java/lang/String"), accessFlags := 24, slot := 1, constantValue := 0 }, { name := "SCHEME", type := (.object "java/lang/String"), accessFlags := 26, slot := 2, constantValue := 0 }, { name := "USER_INFORMATION", type := (.object "java/lang/String"), accessFlags := 26, slot := 3, constantValue := 0 }, { name := "HOST", type := (.object "java/lang/String"), accessFlags := 26, slot := 4, constantValue := 0 }, { name := "PATH", type := (.object "java/lang/String"), accessFlags := 26, slot := 5, constantValue := 0 }, { name := "QUERY", type := (.object "java/lang/String"), accessFlags := 26, slot := 6, constantValue := 0 }, { name := "DEFAULT_PORTS", type := (.object "java/util/Map"), accessFlags := 26, slot := 7, constantValue := 0 }, { name := "SHORTENED_IPV6_GROUPS", type := .int, accessFlags := 26, slot := 8, constantValue := 0 }]
  methods := #[k2m0, k2m1]
  instanceTypes := #[]
  staticTypes := #[(.object "java/lang/String"), (.object "java/lang/String"), (.object "java/lang/String"), (.object "java/lang/String"), (.object "java/lang/String"), (.object "java/lang/String"), (.object "java/lang/String"), (.object "java/util/Map"), .int]
  resolved := Array.replicate 421 none
  statics := none }

def pool3 : Array CpInfo := pool [(1, .class_ 2), (0, u "java/io/Serializable"), (0, .class_ 4), (0, u "java/lang/Object")] 2

/-- java/io/Serializable -/
def k3 : Class := { plain "java/io/Serializable" (some 0) with
  accessFlags := 1537
  interfaces := #[]
  cf := some (fileOf pool3 1 #[] #[] 1537 3 #[] #[])
  fields := #[]
  methods := #[]
  instanceTypes := #[]
  staticTypes := #[]
  resolved := Array.replicate 7 none
  statics := none }

def pool4 : Array CpInfo := pool [(1, .class_ 2), (0, u "java/lang/Comparable"), (0, .class_ 4), (0, u "java/lang/Object")] 7

/-- java/lang/Comparable -/
def k4 : Class := { plain "java/lang/Comparable" (some 0) with
  accessFlags := 1537
  interfaces := #[]
  cf := some (fileOf pool4 1 #[] #[] 1537 3 #[] #[])
  fields := #[]
  methods := #[]
  instanceTypes := #[]
  staticTypes := #[]
  resolved := Array.replicate 12 none
  statics := none }

def pool5 : Array CpInfo := pool [(2, .class_ 4), (1, u "java/lang/CharSequence"), (42, .class_ 48), (0, u "java/lang/CharSequence$1CodePointIterator"), (10, .class_ 60), (0, u "java/lang/CharSequence$1CharIterator"), (5, .class_ 67), (0, u "java/lang/Object")] 63

/-- java/lang/CharSequence -/
def k5 : Class := { plain "java/lang/CharSequence" (some 0) with
  accessFlags := 1537
  interfaces := #[]
  cf := some (fileOf pool5 2 #[.nestMembers #[47, 59]] #[] 1537 66 #[] #[])
  fields := #[]
  methods := #[]
  instanceTypes := #[]
  staticTypes := #[]
  resolved := Array.replicate 131 none
  statics := none }

def pool6 : Array CpInfo := pool [(1, .class_ 2), (0, u "java/lang/constant/Constable"), (0, .class_ 4), (0, u "java/lang/Object")] 6

/-- java/lang/constant/Constable -/
def k6 : Class := { plain "java/lang/constant/Constable" (some 0) with
  accessFlags := 1537
  interfaces := #[]
  cf := some (fileOf pool6 1 #[] #[] 1537 3 #[] #[])
  fields := #[]
  methods := #[]
  instanceTypes := #[]
  staticTypes := #[]
  resolved := Array.replicate 11 none
  statics := none }

def pool7 : Array CpInfo := pool [(1, .class_ 2), (0, u "java/lang/constant/ConstantDesc"), (0, .class_ 4), (0, u "java/lang/Object")] 32

/-- java/lang/constant/ConstantDesc -/
def k7 : Class := { plain "java/lang/constant/ConstantDesc" (some 0) with
  accessFlags := 1537
  interfaces := #[]
  cf := some (fileOf pool7 1 #[] #[] 1537 3 #[] #[])
  fields := #[]
  methods := #[]
  instanceTypes := #[]
  staticTypes := #[]
  resolved := Array.replicate 37 none
  statics := none }

def pool8 : Array CpInfo := pool [(2, .class_ 4), (1, u "java/lang/Object"), (0, u "<init>"), (0, u "()V"), (2, .fieldref 10 11), (0, .class_ 12), (0, .nameAndType 13 14), (0, u "java/lang/String"), (0, u "value"), (0, u "[B"), (0, .fieldref 10 16), (0, .nameAndType 17 18), (0, u "coder"), (0, u "B"), (2, u "hash"), (0, u "I"), (2, u "hashIsZero"), (0, u "Z"), (11, .fieldref 10 39), (0, .nameAndType 40 26), (0, u "COMPACT_STRINGS"), (66, .class_ 109), (1, u "java/lang/StringLatin1"), (32, u "()Z"), (220, u "([BI)C"), (27, u "(II)V"), (35, u "(I)C"), (64, .methodref 10 493), (0, .nameAndType 494 142), (0, u "isLatin1"), (0, .methodref 107 496), (0, .nameAndType 497 363), (0, u "charAt"), (3, u "checkIndex"), (73, .class_ 576), (0, u "java/lang/CharSequence"), (22, u "CASE_INSENSITIVE_ORDER"), (0, u "Ljava/util/Comparator;"), (452, .fieldref 1054 1055), (0, .class_ 1056), (0, .nameAndType 1057 1058), (0, u "jdk/internal/util/Preconditions"), (0, u "SIOOBE_FORMATTER"), (0, u "Ljava/util/function/BiFunction;"), (0, .methodref 1054 1060), (0, .nameAndType 501 1061), (0, u "(IILjava/util/function/BiFunction;)I"), (39, u "serialPersistentFields"), (0, u "[Ljava/io/ObjectStreamField;"), (0, .class_ 1104), (0, u "java/lang/String$CaseInsensitiveComparator"), (1, .class_ 1107), (0, u "java/io/Serializable"), (0, .class_ 1109), (0, u "java/lang/Comparable"), (0, .class_ 1111), (0, u "java/lang/constant/Constable"), (0, .class_ 1113), (0, u "java/lang/constant/ConstantDesc"), (2, u "serialVersionUID"), (0, u "J"), (3, u "REPL"), (0, u "C"), (2, u "LATIN1"), (1, u "UTF16")] 323

def k8m0 : Method := { name := "<init>", desc := "()V", sig := { parameters := [], returnType := none }, accessFlags := 1, code := none }
def k8c1 : Code := { maxStack := 2, maxLocals := 2, code := jdk_42_method_56_code, exceptionTable := #[], attributes := #[] }
def k8m1 : Method := { name := "charAt", desc := "(I)C", sig := { parameters := [.int], returnType := some .char }, accessFlags := 1, code := some k8c1 }
def k8c2 : Code := { maxStack := 1, maxLocals := 1, code := jdk_42_method_154_code, exceptionTable := #[], attributes := #[] }
def k8m2 : Method := { name := "isLatin1", desc := "()Z", sig := { parameters := [], returnType := some .boolean }, accessFlags := 0, code := some k8c2 }
def k8c3 : Code := { maxStack := 3, maxLocals := 2, code := jdk_42_method_155_code, exceptionTable := #[], attributes := #[] }
def k8m3 : Method := { name := "checkIndex", desc := "(II)V", sig := { parameters := [.int, .int], returnType := none }, accessFlags := 8, code := some k8c3 }
/-- java/lang/String -/
def k8 : Class := { plain "java/lang/String" (some 0) with
  accessFlags := 49
  interfaces := #[3, 4, 5, 6, 7]
  cf := some (fileOf pool8 10 #[.nestMembers #[1103]] #[{ accessFlags := 1, nameIndex := 5, descriptorIndex := 6, attributes := #[] }, { accessFlags := 1, nameIndex := 497, descriptorIndex := 427, attributes := #[] }, { accessFlags := 0, nameIndex := 494, descriptorIndex := 142, attributes := #[] }, { accessFlags := 8, nameIndex := 501, descriptorIndex := 391, attributes := #[] }] 49 2 #[1106, 1108, 575, 1110, 1112] #[{ accessFlags := 18, nameIndex := 13, descriptorIndex := 14, attributes := #[] }, { accessFlags := 18, nameIndex := 17, descriptorIndex := 18, attributes := #[] }, { accessFlags := 2, nameIndex := 21, descriptorIndex := 22, attributes := #[] }, { accessFlags := 2, nameIndex := 25, descriptorIndex := 26, attributes := #[] }, { accessFlags := 26, nameIndex := 1116, descriptorIndex := 1117, attributes := #[] }, { accessFlags := 24, nameIndex := 40, descriptorIndex := 26, attributes := #[] }, { accessFlags := 26, nameIndex := 1101, descriptorIndex := 1102, attributes := #[] }, { accessFlags := 26, nameIndex := 1121, descriptorIndex := 1122, attributes := #[] }, { accessFlags := 25, nameIndex := 599, descriptorIndex := 600, attributes := #[] }, { accessFlags := 24, nameIndex := 1125, descriptorIndex := 18, attributes := #[] }, { accessFlags := 24, nameIndex := 1127, descriptorIndex := 18, attributes := #[] }])
  fields := #[{ name := "value", type := (.array .byte), accessFlags := 18, slot := 0, constantValue := 0 }, { name := "coder", type := .byte, accessFlags := 18, slot := 1, constantValue := 0 }, { name := "hash", type := .int, accessFlags := 2, slot := 2, constantValue := 0 }, { name := "hashIsZero", type := .boolean, accessFlags := 2, slot := 3, constantValue := 0 }, { name := "serialVersionUID", type := .long, accessFlags := 26, slot := 0, constantValue := 0 }, { name := "COMPACT_STRINGS", type := .boolean, accessFlags := 24, slot := 1, constantValue := 0 }, { name := "serialPersistentFields", type := (.array (.object "java/io/ObjectStreamField")), accessFlags := 26, slot := 2, constantValue := 0 }, { name := "REPL", type := .char, accessFlags := 26, slot := 3, constantValue := 0 }, { name := "CASE_INSENSITIVE_ORDER", type := (.object "java/util/Comparator"), accessFlags := 25, slot := 4, constantValue := 0 }, { name := "LATIN1", type := .byte, accessFlags := 24, slot := 5, constantValue := 0 }, { name := "UTF16", type := .byte, accessFlags := 24, slot := 6, constantValue := 0 }]
  methods := #[k8m0, k8m1, k8m2, k8m3]
  instanceTypes := #[(.array .byte), .byte, .int, .boolean]
  staticTypes := #[.long, .boolean, (.array (.object "java/io/ObjectStreamField")), .char, (.object "java/util/Comparator"), .byte, .byte]
  resolved := Array.replicate 1451 none
  statics := some 0 }

def pool9 : Array CpInfo := pool [(1, .class_ 2), (0, u "java/lang/String"), (1, .class_ 6), (1, u "java/lang/Object"), (0, u "<init>"), (0, u "()V"), (0, .methodref 1 10), (0, .nameAndType 11 12), (0, u "checkIndex"), (0, u "(II)V"), (1, .class_ 16), (1, u "java/lang/StringLatin1"), (36, u "([BI)C"), (67, u "$assertionsDisabled"), (0, u "Z"), (98, .class_ 223), (1, u "java/lang/StringLatin1$LinesSpliterator"), (28, u "charAt"), (137, .class_ 391), (0, u "java/lang/StringLatin1$CharsSpliterator")] 3

def k9m0 : Method := { name := "<init>", desc := "()V", sig := { parameters := [], returnType := none }, accessFlags := 0, code := none }
def k9c1 : Code := { maxStack := 2, maxLocals := 2, code := jdk_43_method_2_code, exceptionTable := #[], attributes := #[] }
def k9m1 : Method := { name := "charAt", desc := "([BI)C", sig := { parameters := [(.array .byte), .int], returnType := some .char }, accessFlags := 9, code := some k9c1 }
/-- java/lang/StringLatin1 -/
def k9 : Class := { plain "java/lang/StringLatin1" (some 0) with
  accessFlags := 48
  interfaces := #[]
  cf := some (fileOf pool9 14 #[.nestMembers #[390, 221]] #[{ accessFlags := 0, nameIndex := 7, descriptorIndex := 8, attributes := #[] }, { accessFlags := 9, nameIndex := 252, descriptorIndex := 53, attributes := #[] }] 48 4 #[] #[{ accessFlags := 4120, nameIndex := 121, descriptorIndex := 122, attributes := #[] }])
  fields := #[{ name := "$assertionsDisabled", type := .boolean, accessFlags := 4120, slot := 0, constantValue := 0 }]
  methods := #[k9m0, k9m1]
  instanceTypes := #[]
  staticTypes := #[.boolean]
  resolved := Array.replicate 395 none
  statics := none }

def pool10 : Array CpInfo := pool [(2, .class_ 4), (1, u "java/lang/Object"), (0, u "<init>"), (0, u "()V"), (17, .class_ 26), (1, u "jdk/internal/util/Preconditions"), (6, u "checkIndex"), (21, .class_ 56), (0, u "jdk/internal/util/Preconditions$4"), (57, .class_ 115), (0, u "jdk/internal/util/Preconditions$1"), (7, u "SIOOBE_FORMATTER"), (0, u "Ljava/util/function/BiFunction;"), (0, .class_ 126), (0, u "jdk/internal/util/Preconditions$2"), (3, u "AIOOBE_FORMATTER"), (0, .class_ 132), (0, u "jdk/internal/util/Preconditions$3"), (3, u "IOOBE_FORMATTER"), (41, u "(IILjava/util/function/BiFunction;)I")] 15

def k10m0 : Method := { name := "<init>", desc := "()V", sig := { parameters := [], returnType := none }, accessFlags := 1, code := none }
def k10c1 : Code := { maxStack := 3, maxLocals := 3, code := jdk_41_method_11_code, exceptionTable := #[], attributes := #[] }
def k10m1 : Method := { name := "checkIndex", desc := "(IILjava/util/function/BiFunction;)I", sig := { parameters := [.int, .int, (.object "java/util/function/BiFunction")], returnType := some .int }, accessFlags := 9, code := some k10c1 }
/-- jdk/internal/util/Preconditions -/
def k10 : Class := { plain "jdk/internal/util/Preconditions" (some 0) with
  accessFlags := 33
  interfaces := #[]
  cf := some (fileOf pool10 24 #[.nestMembers #[55, 131, 125, 114]] #[{ accessFlags := 1, nameIndex := 5, descriptorIndex := 6, attributes := #[] }, { accessFlags := 9, nameIndex := 33, descriptorIndex := 178, attributes := #[] }] 33 2 #[] #[{ accessFlags := 25, nameIndex := 123, descriptorIndex := 124, attributes := #[] }, { accessFlags := 25, nameIndex := 130, descriptorIndex := 124, attributes := #[] }, { accessFlags := 25, nameIndex := 136, descriptorIndex := 124, attributes := #[] }])
  fields := #[{ name := "SIOOBE_FORMATTER", type := (.object "java/util/function/BiFunction"), accessFlags := 25, slot := 0, constantValue := 0 }, { name := "AIOOBE_FORMATTER", type := (.object "java/util/function/BiFunction"), accessFlags := 25, slot := 1, constantValue := 0 }, { name := "IOOBE_FORMATTER", type := (.object "java/util/function/BiFunction"), accessFlags := 25, slot := 2, constantValue := 0 }]
  methods := #[k10m0, k10m1]
  instanceTypes := #[]
  staticTypes := #[(.object "java/util/function/BiFunction"), (.object "java/util/function/BiFunction"), (.object "java/util/function/BiFunction")]
  resolved := Array.replicate 194 none
  statics := some 1 }

def pool11 : Array CpInfo := pool [(9, u "<init>"), (6, .class_ 18), (1, u "java/lang/Object"), (0, u "()V"), (1, .class_ 23), (1, u "jdk/internal/util/ArraysSupport"), (0, u "LOG2_ARRAY_LONG_INDEX_SCALE"), (0, u "I"), (2, u "U"), (0, u "Ljdk/internal/misc/Unsafe;"), (8, u "BIG_ENDIAN"), (0, u "Z"), (8, u "LOG2_BYTE_BIT_SIZE"), (4, u "LOG2_ARRAY_INT_INDEX_SCALE"), (54, u "JLA"), (0, u "Ljdk/internal/access/JavaLangAccess;"), (11, u "LOG2_ARRAY_BOOLEAN_INDEX_SCALE"), (9, u "LOG2_ARRAY_BYTE_INDEX_SCALE"), (5, u "LOG2_ARRAY_CHAR_INDEX_SCALE"), (5, u "LOG2_ARRAY_SHORT_INDEX_SCALE"), (18, u "LOG2_ARRAY_FLOAT_INDEX_SCALE"), (24, u "LOG2_ARRAY_DOUBLE_INDEX_SCALE"), (89, u "T_BOOLEAN"), (2, u "T_CHAR"), (1, u "T_FLOAT"), (1, u "T_DOUBLE"), (1, u "T_BYTE"), (1, u "T_SHORT"), (1, u "T_INT"), (1, u "T_LONG"), (1, u "SOFT_MAX_ARRAY_LENGTH")] 83

def k11m0 : Method := { name := "<init>", desc := "()V", sig := { parameters := [], returnType := none }, accessFlags := 2, code := none }
/-- jdk/internal/util/ArraysSupport -/
def k11 : Class := { plain "jdk/internal/util/ArraysSupport" (some 0) with
  accessFlags := 33
  interfaces := #[]
  cf := some (fileOf pool11 21 #[] #[{ accessFlags := 2, nameIndex := 9, descriptorIndex := 19, attributes := #[] }] 33 16 #[] #[{ accessFlags := 24, nameIndex := 28, descriptorIndex := 29, attributes := #[] }, { accessFlags := 26, nameIndex := 38, descriptorIndex := 39, attributes := #[] }, { accessFlags := 25, nameIndex := 121, descriptorIndex := 25, attributes := #[] }, { accessFlags := 25, nameIndex := 131, descriptorIndex := 25, attributes := #[] }, { accessFlags := 25, nameIndex := 137, descriptorIndex := 25, attributes := #[] }, { accessFlags := 25, nameIndex := 143, descriptorIndex := 25, attributes := #[] }, { accessFlags := 25, nameIndex := 53, descriptorIndex := 25, attributes := #[] }, { accessFlags := 25, nameIndex := 24, descriptorIndex := 25, attributes := #[] }, { accessFlags := 25, nameIndex := 162, descriptorIndex := 25, attributes := #[] }, { accessFlags := 25, nameIndex := 187, descriptorIndex := 25, attributes := #[] }, { accessFlags := 26, nameIndex := 48, descriptorIndex := 25, attributes := #[] }, { accessFlags := 25, nameIndex := 277, descriptorIndex := 25, attributes := #[] }, { accessFlags := 25, nameIndex := 280, descriptorIndex := 25, attributes := #[] }, { accessFlags := 25, nameIndex := 282, descriptorIndex := 25, attributes := #[] }, { accessFlags := 25, nameIndex := 284, descriptorIndex := 25, attributes := #[] }, { accessFlags := 25, nameIndex := 286, descriptorIndex := 25, attributes := #[] }, { accessFlags := 25, nameIndex := 288, descriptorIndex := 25, attributes := #[] }, { accessFlags := 25, nameIndex := 290, descriptorIndex := 25, attributes := #[] }, { accessFlags := 25, nameIndex := 292, descriptorIndex := 25, attributes := #[] }, { accessFlags := 26, nameIndex := 108, descriptorIndex := 109, attributes := #[] }, { accessFlags := 25, nameIndex := 294, descriptorIndex := 25, attributes := #[] }])
  fields := #[{ name := "U", type := (.object "jdk/internal/misc/Unsafe"), accessFlags := 24, slot := 0, constantValue := 0 }, { name := "BIG_ENDIAN", type := .boolean, accessFlags := 26, slot := 1, constantValue := 0 }, { name := "LOG2_ARRAY_BOOLEAN_INDEX_SCALE", type := .int, accessFlags := 25, slot := 2, constantValue := 0 }, { name := "LOG2_ARRAY_BYTE_INDEX_SCALE", type := .int, accessFlags := 25, slot := 3, constantValue := 0 }, { name := "LOG2_ARRAY_CHAR_INDEX_SCALE", type := .int, accessFlags := 25, slot := 4, constantValue := 0 }, { name := "LOG2_ARRAY_SHORT_INDEX_SCALE", type := .int, accessFlags := 25, slot := 5, constantValue := 0 }, { name := "LOG2_ARRAY_INT_INDEX_SCALE", type := .int, accessFlags := 25, slot := 6, constantValue := 0 }, { name := "LOG2_ARRAY_LONG_INDEX_SCALE", type := .int, accessFlags := 25, slot := 7, constantValue := 0 }, { name := "LOG2_ARRAY_FLOAT_INDEX_SCALE", type := .int, accessFlags := 25, slot := 8, constantValue := 0 }, { name := "LOG2_ARRAY_DOUBLE_INDEX_SCALE", type := .int, accessFlags := 25, slot := 9, constantValue := 0 }, { name := "LOG2_BYTE_BIT_SIZE", type := .int, accessFlags := 26, slot := 10, constantValue := 0 }, { name := "T_BOOLEAN", type := .int, accessFlags := 25, slot := 11, constantValue := 0 }, { name := "T_CHAR", type := .int, accessFlags := 25, slot := 12, constantValue := 0 }, { name := "T_FLOAT", type := .int, accessFlags := 25, slot := 13, constantValue := 0 }, { name := "T_DOUBLE", type := .int, accessFlags := 25, slot := 14, constantValue := 0 }, { name := "T_BYTE", type := .int, accessFlags := 25, slot := 15, constantValue := 0 }, { name := "T_SHORT", type := .int, accessFlags := 25, slot := 16, constantValue := 0 }, { name := "T_INT", type := .int, accessFlags := 25, slot := 17, constantValue := 0 }, { name := "T_LONG", type := .int, accessFlags := 25, slot := 18, constantValue := 0 }, { name := "JLA", type := (.object "jdk/internal/access/JavaLangAccess"), accessFlags := 26, slot := 19, constantValue := 0 }, { name := "SOFT_MAX_ARRAY_LENGTH", type := .int, accessFlags := 25, slot := 20, constantValue := 0 }]
  methods := #[k11m0]
  instanceTypes := #[]
  staticTypes := #[(.object "jdk/internal/misc/Unsafe"), .boolean, .int, .int, .int, .int, .int, .int, .int, .int, .int, .int, .int, .int, .int, .int, .int, .int, .int, (.object "jdk/internal/access/JavaLangAccess"), .int]
  resolved := Array.replicate 378 none
  statics := none }

def pool12 : Array CpInfo := pool [(1, u "java/lang/Cloneable"), (0, .class_ 1), (0, u "java/lang/Object"), (0, .class_ 3)] 3

/-- java/lang/Cloneable -/
def k12 : Class := { plain "java/lang/Cloneable" (some 0) with
  accessFlags := 1537
  interfaces := #[]
  cf := some (fileOf pool12 2 #[] #[] 1537 4 #[] #[])
  fields := #[]
  methods := #[]
  instanceTypes := #[]
  staticTypes := #[]
  resolved := Array.replicate 8 none
  statics := none }

/-- the primitive byte -/
def k13 : Class := { plain "byte" none with kind := .primitive 'B', accessFlags := 0x411 }
/-- [B -/
def k14 : Class := { plain "[B" (some 0) with kind := .array 13 .byte, interfaces := #[12, 3], accessFlags := 1041 }

/-- the primitive int -/
def k15 : Class := { plain "int" none with kind := .primitive 'I', accessFlags := 0x411 }
/-- [I -/
def k16 : Class := { plain "[I" (some 0) with kind := .array 15 .int, interfaces := #[12, 3], accessFlags := 1041 }

def heap : Heap := #[{ cls := 8, slots := #[.long 0, .int 1, .null, .int 0, .null, .int 0, .int 0], vm := .statics 8 },
  { cls := 10, slots := #[.null, .null, .null], vm := .statics 10 }]
def classes : Array Class := #[k0, k1, k2, k3, k4, k5, k6, k7, k8, k9, k10, k11, k12, k13, k14, k15, k16]
def interned : List (Array UInt16 × Addr) := []
def slotsUsed : Nat := 10
def theMethod : MethodId := ⟨1, 2⟩
def args0 : Array Value := #[.int 65, .int 3]
def aboutOver (below : List Frame) : State where
  vm := { classes := classes, interned := interned.toArray }
  heap := heap
  slotsUsed := slotsUsed
  threads := #[{ frames := .invoking theMethod args0 :: below }]
def below0 : List Frame := [.native { method := ⟨0, 0⟩, args := #[] }]
def about1 : State := aboutOver below0
def p0 : Program := .bare "" "" ""
def e0 : Env := launch0.env 0 0 0
theorem w_frames : about1.frames = Frame.invoking theMethod args0 :: below0 := rfl
set_option maxRecDepth 65536 in
theorem w_args : argsFit about1.vm theMethod args0 = true := by decide +kernel
set_option maxRecDepth 65536 in
theorem w_heap : heapFits about1 = true := by decide +kernel
set_option maxRecDepth 65536 in
theorem w_runnable : about1.curStatus? = some .runnable := by decide +kernel
set_option maxRecDepth 65536 in
theorem w_alone : about1.alone = true := by decide +kernel
set_option maxRecDepth 65536 in
theorem w_named : about1.methodNamed? x = some theMethod := by decide +kernel
set_option maxRecDepth 65536 in
theorem w_hears : about1.hears theMethod below0 = true := by decide +kernel
set_option maxRecDepth 65536 in
theorem w_ripe : about1.ripe theMethod args0 below0 = true := by decide +kernel
theorem w_running : about1.status = .running := rfl
set_option maxRecDepth 65536 in
theorem w_room : about1.hasRoom e0.platform room_1 = true :=
  launch0.hasRoom_least _ room_1 (by decide +kernel) (by decide +kernel) (by decide +kernel) (by decide +kernel) (by decide +kernel) (by decide +kernel)
theorem allAtoms_all (ts : List Jvm.Cond) (a : Array Jvm.Value) (st : Jvm.State) : (allAtoms ts).before a st = ts.all (fun c => c.before a st) := by
  induction ts with
  | nil => rfl
  | cons c t ih =>
    show (Jvm.Cond.and c (allAtoms t)).before a st = _
    rw [Jvm.Cond.before_and, ih, List.all_cons]
def words1 : List Jvm.Cond := Jvm.Cond.code x code maxLocals ret :: tables_1
/-- a 'code' word, met by the world's own term for the bytes: nothing is compared byte by byte -/
theorem code_word {y : MethodName} {bytes : ByteArray} {mx : Nat} {rt : Option FieldType} {a : Array Value} {s : State} {m : MethodId} {meth : Method} {c : Code} (h1 : s.methodNamed? y = some m) (h2 : s.vm.method? m = some meth) (h3 : meth.code = some c) (h4 : c.code = bytes)
    (h5 : (c.maxLocals == mx && c.exceptionTable.isEmpty && decide (c.maxStack ≤ mostOperands) && decide (meth.sig.returnType = rt) && !meth.locks && decide (parseMethodDescriptor y.desc = some meth.sig)) = true) : (Jvm.Cond.code y bytes mx rt).before a s = true := by
  simp only [Bool.and_eq_true, beq_iff_eq, Bool.not_eq_true', decide_eq_true_eq] at h5
  obtain ⟨⟨⟨⟨⟨g1, g2⟩, g3⟩, g4⟩, g5⟩, g6⟩ := h5
  simp [Cond.before, Cond.holds, Cond.value, h1, h2, h3, h4, g1, g2, g3, g4, g5, g6]
def isCode : Jvm.Cond → Bool
  | .code _ _ _ _ => true
  | _ => false
theorem all_split {L : List Jvm.Cond} {P : Jvm.Cond → Bool} (h1 : L.all (fun c => isCode c || P c) = true) (h2 : ∀ c ∈ L.filter isCode, P c = true) : L.all P = true := by
  refine List.all_eq_true.mpr fun c hc => ?_
  have h := List.all_eq_true.mp h1 c hc
  rcases Bool.eq_false_or_eq_true (isCode c) with hi | hi
  · exact h2 c (List.mem_filter.mpr ⟨hc, hi⟩)
  · simpa [hi] using h
set_option maxRecDepth 65536 in
theorem w_c0 : (Jvm.Cond.code x code maxLocals ret).before args0 about1 = true := code_word (m := ⟨1, 2⟩) (meth := k1m2) (c := k1c2) (by decide +kernel) rfl rfl rfl (by decide +kernel)
set_option maxRecDepth 65536 in
theorem w_c1 : (Jvm.Cond.code ({ cls := "com/example/earned_trust/earnedtrust/model/UriSyntax", name := "isHexDigit", desc := "(C)Z" } : Jvm.MethodName) prog_45_method_2_code (1 : Nat) (Option.some Jvm.ClassFile.FieldType.boolean)).before args0 about1 = true := code_word (m := ⟨2, 1⟩) (meth := k2m1) (c := k2c1) (by decide +kernel) rfl rfl rfl (by decide +kernel)
set_option maxRecDepth 65536 in
theorem w_c2 : (Jvm.Cond.code ({ cls := "com/example/earned_trust/earnedtrust/model/UriSyntaxIsHexDigitPinLaw", name := "reference", desc := "(C)Z" } : Jvm.MethodName) method_2_code (4 : Nat) (Option.some Jvm.ClassFile.FieldType.boolean)).before args0 about1 = true := code_word (m := ⟨1, 1⟩) (meth := k1m1) (c := k1c1) (by decide +kernel) rfl rfl rfl (by decide +kernel)
set_option maxRecDepth 65536 in
theorem w_c3 : (Jvm.Cond.code ({ cls := "java/lang/String", name := "charAt", desc := "(I)C" } : Jvm.MethodName) jdk_42_method_56_code (2 : Nat) (Option.some Jvm.ClassFile.FieldType.char)).before args0 about1 = true := code_word (m := ⟨8, 1⟩) (meth := k8m1) (c := k8c1) (by decide +kernel) rfl rfl rfl (by decide +kernel)
set_option maxRecDepth 65536 in
theorem w_c4 : (Jvm.Cond.code ({ cls := "java/lang/String", name := "isLatin1", desc := "()Z" } : Jvm.MethodName) jdk_42_method_154_code (1 : Nat) (Option.some Jvm.ClassFile.FieldType.boolean)).before args0 about1 = true := code_word (m := ⟨8, 2⟩) (meth := k8m2) (c := k8c2) (by decide +kernel) rfl rfl rfl (by decide +kernel)
set_option maxRecDepth 65536 in
theorem w_c5 : (Jvm.Cond.code ({ cls := "java/lang/StringLatin1", name := "charAt", desc := "([BI)C" } : Jvm.MethodName) jdk_43_method_2_code (2 : Nat) (Option.some Jvm.ClassFile.FieldType.char)).before args0 about1 = true := code_word (m := ⟨9, 1⟩) (meth := k9m1) (c := k9c1) (by decide +kernel) rfl rfl rfl (by decide +kernel)
set_option maxRecDepth 65536 in
theorem w_c6 : (Jvm.Cond.code ({ cls := "java/lang/String", name := "checkIndex", desc := "(II)V" } : Jvm.MethodName) jdk_42_method_155_code (2 : Nat) (Option.none : Option Jvm.ClassFile.FieldType)).before args0 about1 = true := code_word (m := ⟨8, 3⟩) (meth := k8m3) (c := k8c3) (by decide +kernel) rfl rfl rfl (by decide +kernel)
set_option maxRecDepth 65536 in
theorem w_c7 : (Jvm.Cond.code ({ cls := "jdk/internal/util/Preconditions", name := "checkIndex", desc := "(IILjava/util/function/BiFunction;)I" } : Jvm.MethodName) jdk_41_method_11_code (3 : Nat) (Option.some Jvm.ClassFile.FieldType.int)).before args0 about1 = true := code_word (m := ⟨10, 1⟩) (meth := k10m1) (c := k10c1) (by decide +kernel) rfl rfl rfl (by decide +kernel)
def codes1 : List Jvm.Cond := [Jvm.Cond.code x code maxLocals ret, Jvm.Cond.code ({ cls := "com/example/earned_trust/earnedtrust/model/UriSyntax", name := "isHexDigit", desc := "(C)Z" } : Jvm.MethodName) prog_45_method_2_code (1 : Nat) (Option.some Jvm.ClassFile.FieldType.boolean), Jvm.Cond.code ({ cls := "com/example/earned_trust/earnedtrust/model/UriSyntaxIsHexDigitPinLaw", name := "reference", desc := "(C)Z" } : Jvm.MethodName) method_2_code (4 : Nat) (Option.some Jvm.ClassFile.FieldType.boolean), Jvm.Cond.code ({ cls := "java/lang/String", name := "charAt", desc := "(I)C" } : Jvm.MethodName) jdk_42_method_56_code (2 : Nat) (Option.some Jvm.ClassFile.FieldType.char), Jvm.Cond.code ({ cls := "java/lang/String", name := "isLatin1", desc := "()Z" } : Jvm.MethodName) jdk_42_method_154_code (1 : Nat) (Option.some Jvm.ClassFile.FieldType.boolean), Jvm.Cond.code ({ cls := "java/lang/StringLatin1", name := "charAt", desc := "([BI)C" } : Jvm.MethodName) jdk_43_method_2_code (2 : Nat) (Option.some Jvm.ClassFile.FieldType.char), Jvm.Cond.code ({ cls := "java/lang/String", name := "checkIndex", desc := "(II)V" } : Jvm.MethodName) jdk_42_method_155_code (2 : Nat) (Option.none : Option Jvm.ClassFile.FieldType), Jvm.Cond.code ({ cls := "jdk/internal/util/Preconditions", name := "checkIndex", desc := "(IILjava/util/function/BiFunction;)I" } : Jvm.MethodName) jdk_41_method_11_code (3 : Nat) (Option.some Jvm.ClassFile.FieldType.int)]
set_option maxRecDepth 65536 in
theorem codes_eq : words1.filter isCode = codes1 := rfl
theorem w_codes : ∀ c ∈ words1.filter isCode, c.before args0 about1 = true := by
  rw [codes_eq]
  intro c hc
  simp only [codes1, List.mem_cons, List.not_mem_nil, or_false] at hc
  rcases hc with rfl | rfl | rfl | rfl | rfl | rfl | rfl | rfl
  · exact w_c0
  · exact w_c1
  · exact w_c2
  · exact w_c3
  · exact w_c4
  · exact w_c5
  · exact w_c6
  · exact w_c7
set_option maxRecDepth 65536 in
theorem w_t1 : (words1.take 24).all (fun c => isCode c || c.before args0 about1) = true := by decide +kernel
set_option maxRecDepth 65536 in
theorem w_t2 : (words1.drop 24).all (fun c => isCode c || c.before args0 about1) = true := by decide +kernel
theorem w_tables : (allAtoms (Jvm.Cond.code x code maxLocals ret :: tables_1)).before args0 about1 = true := by
  rw [allAtoms_all]
  show words1.all (fun c => c.before args0 about1) = true
  refine all_split ?_ w_codes
  rw [← List.take_append_drop 24 words1, List.all_append, w_t1, w_t2]
  rfl
set_option maxRecDepth 65536 in
theorem w_rest : rest_1_c.before args0 about1 = true := by decide +kernel
set_option maxRecDepth 65536 in
theorem w_case : (Jvm.Cond.and given_1 narrow_1).before args0 about1 = true := by decide +kernel
set_option maxRecDepth 65536 in
theorem w_consts : constsHeld consts_1 about1 := Jvm.Lit.constsHeldB_iff.mp (by decide +kernel)
theorem w_applies : (headSpec (Jvm.Cond.code x code maxLocals ret :: tables_1) room_1).applies x e0.platform about1 = true :=
  (Spec.applies_iff w_frames).mpr ⟨w_running, w_runnable, w_alone, w_named, w_hears, w_ripe, w_room, w_tables⟩
theorem atStart : AtStart classFile x code maxLocals ret World_1 tables_1 room_1 Calls_1 rest_1 Pre_1 launch0 p0 e0 about1 theMethod args0 below0 :=
  ⟨lists_1, trivial, launch0.admits_env _ _ _, launch0.least_env, fairChoices_fair.cas, fairChoices_fair.clock, w_frames, w_args, w_heap, w_applies, ⟨w_consts, trivial⟩, w_rest, w_case⟩
end start1
theorem witness_1 : WitnessClaimed_1 := ⟨start1.p0, start1.e0, start1.about1, start1.theMethod, start1.args0, start1.below0, start1.atStart⟩
end Jvm.Pilot.@@N@@
