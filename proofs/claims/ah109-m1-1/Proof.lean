import JvmDerived
import JvmDerived.Pilot.@@N@@Statement
import JvmDerived.Pilot.@@N@@Code
set_option linter.unusedVariables false
set_option linter.unusedSimpArgs false
namespace Jvm.RoadKit
open Sem ClassFile Op Lib Jvm.Stand Jvm.Free Jvm.LawKit
section New
variable {p : Program} {l : Launch} {e : Env} {R : Room} {s : State} {m : MethodId} {args : Array Value} {below : List Frame} {meth : Method} {c : Code} {T : State} {locs : List Loc} {cells slots : Nat}
theorem retI (X : Stand p l e R s m args below meth c T locs cells slots) (hx : p.tables.exec = Jvm.exec) {pc : Nat} {Ls : Array Slot} {z : Int32} {rest : List Value} (hret : meth.sig.returnType = some .int) (hd : decode c.code pc = .ok (.ireturn, 1)) {fs : List Frame}
    (hl : ∀ (f : JFrame) (acts : List Action), f.method = m → f.locked = none → f.entered = [] → (doReturn e (T.setTop f) acts (some (.int z))).1 = T.setFrames fs) : Steps p.tables e below (T.setTop (mkF m pc Ls (.int z :: rest))) (T.setFrames fs) := by
  have hm' : T.vm.method? m = some meth := X.method'
  have hn : narrow .int (.int z) = .int z := rfl
  show Steps p.tables e below (T.setTop { method := m, pc := pc, locals := Ls, stack := _ :: rest, locked := none }) _
  jvm_step X.here [X.here.top, hx, hd, hm', hret, hn]
  first | (intro acts; rw [hl _ acts rfl rfl rfl]) | rw [hl _ _ rfl rfl rfl]
  exact Steps.refl _
end New
end Jvm.RoadKit
/- laws to paste: Road.lenW, pair_says, chr8_lo8 (cut by pick.py; bodies as the Statement names them) -/
namespace Jvm.Pilot.@@N@@
namespace StrChars
open Jvm Sem ClassFile Op Lib Jvm.Stand Jvm.Free.XT Jvm.Free.ALB Jvm.Free.JM Jvm.Free
open Jvm.Lib.Cold (StaticIs)
/-- the byte that i2b leaves of a char -/
def lo8 (x : Int32) : Int32 := x.toInt8.toInt32
def U16 : String := "java/lang/StringUTF16"
namespace Cmp5
def yN : MethodName := ⟨"java/lang/StringUTF16", "compress", "([CI[BII)I"⟩
abbrev yB : ByteArray := jdk_52_method_21_code
end Cmp5
namespace Cmp3
def yN : MethodName := ⟨"java/lang/StringUTF16", "compress", "([CII)[B"⟩
abbrev yB : ByteArray := jdk_52_method_16_code
end Cmp3
namespace CodL
def yN : MethodName := ⟨"java/lang/StringUTF16", "coderFromArrayLen", "([BI)B"⟩
abbrev yB : ByteArray := jdk_52_method_15_code
end CodL
namespace New4
def yN : MethodName := ⟨"java/lang/String", "<init>", "([CIILjava/lang/Void;)V"⟩
abbrev yB : ByteArray := jdk_42_method_149_code
end New4
namespace New1
def yN : MethodName := ⟨"java/lang/String", "<init>", "([C)V"⟩
abbrev yB : ByteArray := jdk_42_method_3_code
end New1
/-- the byte, read back as charAt reads it, is the char -/
theorem lo8_mask {x : Int32} (h0 : ¬ x < 0) (h1 : ¬ 255 < x) : lo8 x &&& 255 = x := by
  have t : ∀ k : Fin 256, lo8 (Int32.ofNat k.val) &&& 255 = Int32.ofNat k.val := by decide +kernel
  rw [Int32.lt_iff_toInt_lt] at h0 h1
  have e0 : (0 : Int32).toInt = 0 := rfl
  have e1 : (255 : Int32).toInt = 255 := rfl
  obtain ⟨k, hk⟩ : ∃ k : Nat, x.toInt = k := ⟨x.toInt.toNat, by omega⟩
  have hx : x = Int32.ofNat k := Int32.toInt_inj.mp (by rw [hk, Int32.toInt_ofNat_small (by omega)])
  rw [hx]
  exact t ⟨k, by omega⟩
end StrChars
namespace StrChars.Road
open Jvm Sem ClassFile Op Lib Jvm.Stand Jvm.Free Jvm.Free.XT
open Jvm.Lib.Cold (StaticIs)
abbrev ST : String := "java/lang/String"
/-- every table word that New1's law asks, flat -/
abbrev words : List Jvm.Cond := [.code New1.yN New1.yB 2 none, .initialized ST, .methodLink ST 27 New4.yN, .instanceMethod New4.yN,
  .code New4.yN New4.yB 6 none, .fieldLink ST 38 ST "COMPACT_STRINGS" "Z", .laysFinal ST ST "value" "[B", .fieldLink ST 9 ST "value" "[B", .laysFinal ST ST "coder" "B", .fieldLink ST 15 ST "coder" "B",
  .methodLink ST 1 Lib.objectInit, .instanceMethod Lib.objectInit, .code Lib.objectInit ⟨#[0xb1]⟩ 1 none, .methodLink ST 177 Cmp3.yN, .static Cmp3.yN, .methodLink ST 47 CodL.yN, .static CodL.yN,
  .code Cmp3.yN Cmp3.yB 6 (some (.array .byte)), .initialized U16, .arrayClass .byte, .methodLink U16 115 Cmp5.yN, .static Cmp5.yN, .code Cmp5.yN Cmp5.yB 7 (some .int), .code CodL.yN CodL.yB 2 (some .byte)]
end StrChars.Road
namespace StrChars
open Jvm Sem ClassFile Op Lib Jvm.Stand Jvm.Free.XT Jvm.Free.ALB Jvm.Free.JM Jvm.Free
open Jvm.Lib.Cold (StaticIs)
def hi8 (x : Int32) : Int32 := lo8 (x >>> ((8 : Int32) &&& 31))
/-- what StringUTF16.getChar makes of two bytes -/
def pairCh (u v : Int32) : Int32 := (((u &&& 255) <<< ((0 : Int32) &&& 31)) ||| ((v &&& 255) <<< ((8 : Int32) &&& 31))).toUInt32.toUInt16.toUInt32.toInt32
theorem shr0 (c : Int32) : c >>> ((0 : Int32) &&& 31) = c := by
  have e : ((0 : Int32) &&& 31) = 0 := by decide
  rw [e]
  apply Int32.toBitVec_inj.mp
  rw [Int32.toBitVec_shiftRight]
  have e1 : ((0 : Int32).toBitVec.smod 32) = 0#32 := by decide
  rw [e1, BitVec.sshiftRight_eq']
  exact BitVec.sshiftRight_zero
theorem lo8_and (x : Int32) : (lo8 x &&& 255).toBitVec.toNat = x.toBitVec.toNat % 256 := by
  have h : (lo8 x).toBitVec = (x.toBitVec.signExtend 8).signExtend 32 := by rw [lo8, Int8.toBitVec_toInt32, Int32.toBitVec_toInt8]
  rw [Int32.toBitVec_and, BitVec.toNat_and, h]
  have e : ((x.toBitVec.signExtend 8).signExtend 32).toNat % 256 = x.toBitVec.toNat % 256 := by
    rw [BitVec.toNat_signExtend]
    have hlt := x.toBitVec.isLt
    simp only [BitVec.toNat_setWidth, BitVec.toNat_signExtend]
    split <;> split <;> omega
  rw [← e]
  exact Nat.and_two_pow_sub_one_eq_mod _ 8
theorem pair_says {c : Int32} (h0 : ¬ c < 0) (h1 : ¬ 65535 < c) : pairCh (lo8 c) (hi8 c) = c := by
  rw [Int32.lt_iff_toInt_lt] at h0 h1
  have e0 : (0 : Int32).toInt = 0 := rfl
  have e1 : (65535 : Int32).toInt = 65535 := rfl
  have hc : c.toInt = c.toBitVec.toNat := by
    have := c.toBitVec.isLt
    have e : c.toInt = c.toBitVec.toInt := rfl
    rw [e] at h0 h1
    rw [e]
    rw [BitVec.toInt_eq_toNat_cond] at h0 h1 ⊢
    split at h0 <;> split <;> omega
  have hn : c.toBitVec.toNat < 65536 := by omega
  have a1 := lo8_and c
  have a2 : (hi8 c &&& 255).toBitVec.toNat = c.toBitVec.toNat / 256 := by
    rw [hi8, lo8_and]
    have e : ((8 : Int32) &&& 31) = 8 := by decide
    rw [e, Int32.toBitVec_shiftRight]
    have e2 : ((8 : Int32).toBitVec.smod 32) = 8#32 := by decide
    rw [e2, BitVec.sshiftRight_eq', BitVec.toNat_sshiftRight_of_msb_false (by rw [BitVec.msb_eq_false_iff_two_mul_lt]; omega)]
    show c.toBitVec.toNat >>> 8 % 256 = _
    rw [Nat.shiftRight_eq_div_pow]
    omega
  unfold pairCh
  apply Int32.toBitVec_inj.mp
  apply BitVec.eq_of_toNat_eq
  have f0 : ((0 : Int32) &&& 31) = 0 := by decide
  have f8 : ((8 : Int32) &&& 31) = 8 := by decide
  rw [f0, f8]
  have g : (((lo8 c &&& 255) <<< (0 : Int32)) ||| ((hi8 c &&& 255) <<< (8 : Int32))).toBitVec.toNat = c.toBitVec.toNat := by
    rw [Int32.toBitVec_or, Int32.toBitVec_shiftLeft, Int32.toBitVec_shiftLeft]
    have s0 : ((0 : Int32).toBitVec.smod 32) = 0#32 := by decide
    have s8 : ((8 : Int32).toBitVec.smod 32) = 8#32 := by decide
    rw [s0, s8, BitVec.toNat_or]
    simp only [BitVec.shiftLeft_eq', BitVec.toNat_shiftLeft, a1, a2]
    show (c.toBitVec.toNat % 256) <<< 0 % 2 ^ 32 ||| (c.toBitVec.toNat / 256) <<< 8 % 2 ^ 32 = _
    rw [Nat.shiftLeft_zero, Nat.mod_eq_of_lt (show c.toBitVec.toNat % 256 < 2 ^ 32 by omega), Nat.mod_eq_of_lt (show (c.toBitVec.toNat / 256) <<< 8 < 2 ^ 32 by rw [Nat.shiftLeft_eq]; omega), Nat.or_comm, ← Nat.shiftLeft_add_eq_or_of_lt (by omega), Nat.shiftLeft_eq]
    omega
  show BitVec.toNat (((((lo8 c &&& 255) <<< (0 : Int32)) ||| ((hi8 c &&& 255) <<< (8 : Int32))).toBitVec.setWidth 16).setWidth 32) = _
  rw [BitVec.toNat_setWidth, BitVec.toNat_setWidth, g]
  omega
end StrChars
namespace StrChars
open Jvm Sem ClassFile Op Lib Jvm.Stand Jvm.Free.XT Jvm.Free.ALB Jvm.Free.JM Jvm.Free
open Jvm.Lib.Cold (StaticIs)
theorem shr1 {n : Nat} (h : 2 * n < 2 ^ 31) : Int32.ofNat (2 * n) >>> ((1 : Int32) &&& 31) = Int32.ofNat n := by
  have e : ((1 : Int32) &&& 31) = 1 := by decide
  rw [e]
  apply Int32.toBitVec_inj.mp
  rw [Int32.toBitVec_shiftRight]
  have e1 : ((1 : Int32).toBitVec.smod 32) = 1#32 := by decide
  have hm : (BitVec.ofNat 32 (2 * n)).toNat = 2 * n := by rw [BitVec.toNat_ofNat, Nat.mod_eq_of_lt (by omega)]
  rw [e1, BitVec.sshiftRight_eq']
  apply BitVec.eq_of_toNat_eq
  show ((BitVec.ofNat 32 (2 * n)).sshiftRight 1).toNat = (BitVec.ofNat 32 n).toNat
  rw [BitVec.toNat_sshiftRight_of_msb_false (by rw [BitVec.msb_eq_false_iff_two_mul_lt, hm]; omega), hm, BitVec.toNat_ofNat, Nat.shiftRight_eq_div_pow]
  omega
/-- charAt's cast of a byte read back -/
def chr8 (u : Int32) : Int32 := (u &&& 255).toUInt32.toUInt16.toUInt32.toInt32
theorem chr8_lo8 {c : Int32} (h0 : ¬ c < 0) (h1 : ¬ 255 < c) : chr8 (lo8 c) = c := by
  have t : ∀ k : Fin 256, (Int32.ofNat k.val).toUInt32.toUInt16.toUInt32.toInt32 = Int32.ofNat k.val := by decide +kernel
  unfold chr8
  rw [lo8_mask h0 h1]
  rw [Int32.lt_iff_toInt_lt] at h0 h1
  have e0 : (0 : Int32).toInt = 0 := rfl
  have e1 : (255 : Int32).toInt = 255 := rfl
  obtain ⟨k, hk⟩ : ∃ k : Nat, c.toInt = k := ⟨c.toInt.toNat, by omega⟩
  have hx : c = Int32.ofNat k := Int32.toInt_inj.mp (by rw [hk, Int32.toInt_ofNat_small (by omega)])
  rw [hx]
  exact t ⟨k, by omega⟩
/-- the array's cell V codes the n chars f 0 .. f (n - 1) by the coder cd, as the JDK does: coder 1 just where some char is above 255 -/
def Cod (cd : Int32) (n : Nat) (f : Nat → Int32) (V : Cell) : Prop := (cd = 0 ∧ V.slots.size = n ∧ ∀ j, j < n → V.slots[j]? = some (.int (lo8 (f j))) ∧ ¬ 255 < f j) ∨ (cd = 1 ∧ V.slots.size = 2 * n ∧ (∀ j, j < n → V.slots[2 * j]? = some (.int (lo8 (f j))) ∧ V.slots[2 * j + 1]? = some (.int (hi8 (f j)))) ∧ ∃ j, j < n ∧ 255 < f j)
theorem Cod.cd {cd : Int32} {n : Nat} {f : Nat → Int32} {V : Cell} (h : Cod cd n f V) : cd = 0 ∨ cd = 1 := h.imp (fun q => q.1) fun q => q.1
theorem Cod.len {cd : Int32} {n : Nat} {f : Nat → Int32} {V : Cell} (h : Cod cd n f V) (hs : V.slots.size < 2 ^ 31) : Int32.ofNat V.slots.size >>> (cd &&& 31) = Int32.ofNat n := by
  rcases h with ⟨rfl, h, -⟩ | ⟨rfl, h, -⟩
  · rw [shr0, h]
  · rw [h, shr1 (by omega)]
/-- **x is a String of the n chars f 0 .. f (n - 1)**, Latin-1 or UTF-16; its array at t has the cell V -/
def Txt (x t : Addr) (V : Cell) (cd : Int32) (n : Nat) (f : Nat → Int32) (U : State) : Prop := Exact "java/lang/String" x U ∧ Has x "java/lang/String" "value" "[B" (.ref t) U ∧ Has x "java/lang/String" "coder" "B" (.int cd) U ∧ XT.Arr .byte t V U ∧ Cod cd n f V ∧ ∀ j, j < n → ¬ f j < 0 ∧ ¬ 65535 < f j
theorem Txt.mv {x t : Addr} {V : Cell} {cd : Int32} {n : Nat} {f : Nat → Int32} {U U' : State} (h : Txt x t V cd n f U) (hal : U.vm.Alike U'.vm) (hh : U'.heap = U.heap) : Txt x t V cd n f U' := ⟨h.1.mv hal hh, h.2.1.mv hal hh, h.2.2.1.mv hal hh, h.2.2.2.1.mv hal hh, h.2.2.2.2⟩
namespace Cdr
def yN : MethodName := ⟨"java/lang/String", "coder", "()B"⟩
abbrev yB : ByteArray := jdk_42_method_152_code
theorem d0 : decode yB 0 = .ok (.getstatic 38, 3) := by decide +kernel
theorem d3 : decode yB 3 = .ok (.ifCond (.eq) 10, 3) := by decide +kernel
theorem d6 : decode yB 6 = .ok (.aload_n 0, 1) := by decide +kernel
theorem d7 : decode yB 7 = .ok (.getfield 15, 3) := by decide +kernel
theorem d10 : decode yB 10 = .ok (.goto 4, 3) := by decide +kernel
theorem d14 : decode yB 14 = .ok (.ireturn, 1) := by decide +kernel
def site : List Cond := [.fieldLink "java/lang/String" 38 "java/lang/String" "COMPACT_STRINGS" "Z", .fieldLink "java/lang/String" 15 "java/lang/String" "coder" "B"]
def tab : Cond := tabOf yN yB 1 (some .byte) site
def P (x : Addr) (cd z : Int32) (args : Array Value) (s : State) : Prop := args = #[.ref x] ∧ Has x "java/lang/String" "coder" "B" (.int cd) s ∧ (cd = 0 ∨ cd = 1) ∧ StaticIs s "java/lang/String" "COMPACT_STRINGS" "Z" (.int z) ∧ ¬ z = 0
def E (cd : Int32) (r : Option Value) (s u : State) : Prop := XT.PureE (some (.int cd)) r s u
theorem law (l : Launch) (x : Addr) (cd z : Int32) : Law l yN 1 0 0 0 yB 1 (some .byte) site (P x cd z) (E cd) [] 0 0 := by
  refine Law.of_walk (plainFor_of_name (by decide +kernel)) (by decide +kernel) (by decide +kernel) (by decide) (fun _ _ h => by rw [h.1]; rfl) (fun _ U U' hal hh h => ⟨h.1, h.2.1.mv hal hh, h.2.2.1, h.2.2.2.1.there hal hh, h.2.2.2.2⟩) (fun r U U' V V' h1 hal h2 h => XT.PureE.mv r U U' V V' h1 hal h2 h) ?_
  intro p e s m args below meth c s₁ X0 hexec hbytes hml hret hlk hnm hown hh0 W hP
  obtain ⟨rfl, hx, hc, s1, hz⟩ := hP
  have c1 : Steps p.tables e below (s₁.setTop (entryFrame m #[.ref x] 1)) (s₁.setTop (mkF m 0 #[.val (.ref x)] [])) := entry rfl
  obtain ⟨T2, X2, q2, st2⟩ := X0.sget hexec hown (wk W (.fieldLink "java/lang/String" 38 "java/lang/String" "COMPACT_STRINGS" "Z")) s1 (fun _ _ h => by rw [hh0]; exact h) (g := (mkF m 0 #[.val (.ref x)] [])) rfl (hb hbytes d0)
  have hh2 := q2.trans hh0
  have c3 : Steps p.tables e below (s₁.setTop (entryFrame m #[.ref x] 1)) (T2.setTop (mkF m 7 #[.val (.ref x)] [.ref x])) := (c1.trans (st2 _ (Steps.refl _))).trans (by
    refine XS.ifNo X2.here hexec rfl (hb hbytes d3) rfl (i0_eq_f hz) ?_
    refine XS.aloadN X2.here hexec rfl (hb hbytes d6) rfl rfl ?_
    exact Steps.refl _)
  obtain ⟨T4, X4, q4, st4⟩ := X2.hget hexec hown (wk W (.fieldLink "java/lang/String" 15 "java/lang/String" "coder" "B")) (hx.mv X2.warmed.alike hh2) (g := (mkF m 7 #[.val (.ref x)] [.ref x])) rfl (rest := []) rfl (hb hbytes d7)
  have c5 : Steps p.tables e below (s₁.setTop (entryFrame m #[.ref x] 1)) (T4.setTop (mkF m 14 #[.val (.ref x)] [.int cd])) := (c3.trans (st4 _ (Steps.refl _))).trans (by
    refine XS.goto X4.here hexec rfl (pc0 := 10) rfl (hb hbytes d10) (by decide) rfl ?_
    exact Steps.refl _)
  exact ⟨T4, some (.int cd), _, _, _, X4, rfl, rfl, rfl, (fun h => by cases h), ⟨rfl, q4.trans hh2⟩, fun fs hl => c5.trans (X4.ireturnOut hexec hret (by rcases hc with rfl | rfl <;> rfl) (Or.inr (Or.inr (Or.inl rfl))) (hb hbytes d14) hl)⟩
end Cdr
namespace Len
def yN : MethodName := ⟨"java/lang/String", "length", "()I"⟩
abbrev yB : ByteArray := jdk_42_method_54_code
theorem d0 : decode yB 0 = .ok (.aload_n 0, 1) := by decide +kernel
theorem d1 : decode yB 1 = .ok (.getfield 9, 3) := by decide +kernel
theorem d4 : decode yB 4 = .ok (.arraylength, 1) := by decide +kernel
theorem d5 : decode yB 5 = .ok (.aload_n 0, 1) := by decide +kernel
theorem d6 : decode yB 6 = .ok (.invokevirtual 335, 3) := by decide +kernel
theorem d9 : decode yB 9 = .ok (.ishr, 1) := by decide +kernel
theorem d10 : decode yB 10 = .ok (.ireturn, 1) := by decide +kernel
def site : List Cond := [.fieldLink "java/lang/String" 9 "java/lang/String" "value" "[B", Cdr.tab] ++ virtW "java/lang/String" 335 "java/lang/String" Cdr.yN Cdr.yN
def tab : Cond := tabOf yN yB 1 (some .int) site
def P (x t : Addr) (V : Cell) (cd : Int32) (n : Nat) (f : Nat → Int32) (z : Int32) (args : Array Value) (s : State) : Prop := args = #[.ref x] ∧ Txt x t V cd n f s ∧ StaticIs s "java/lang/String" "COMPACT_STRINGS" "Z" (.int z) ∧ ¬ z = 0
def E (n : Nat) (r : Option Value) (s u : State) : Prop := XT.PureE (some (.int (Int32.ofNat n))) r s u
/-- length() of a String of n chars, in either coding -/
theorem law (l : Launch) (x t : Addr) (V : Cell) (cd : Int32) (n : Nat) (f : Nat → Int32) (z : Int32) : Law l yN 1 0 1 13 yB 1 (some .int) site (P x t V cd n f z) (E n) [] 0 0 := by
  refine Law.of_walk (plainFor_of_name (by decide +kernel)) (by decide +kernel) (by decide +kernel) (by decide) (fun _ _ h => by rw [h.1]; rfl) (fun _ U U' hal hh h => ⟨h.1, h.2.1.mv hal hh, h.2.2.1.there hal hh, h.2.2.2⟩) (fun r U U' V V' h1 hal h2 h => XT.PureE.mv r U U' V V' h1 hal h2 h) ?_
  intro p e s m args below meth c s₁ X0 hexec hbytes hml hret hlk hnm hown hh0 W hP
  obtain ⟨rfl, hx, s1, hz⟩ := hP
  have v31 := hx.2.2.2.1.2.2.2
  have c1 : Steps p.tables e below (s₁.setTop (entryFrame m #[.ref x] 1)) (s₁.setTop (mkF m 1 #[.val (.ref x)] [.ref x])) := Steps.trans (entry rfl) (by
    show Steps p.tables e below (s₁.setTop (mkF m 0 #[.val (.ref x)] [])) _
    refine XS.aloadN X0.here hexec rfl (hb hbytes d0) rfl rfl ?_
    exact Steps.refl _)
  obtain ⟨T2, X2, q2, st2⟩ := X0.hget hexec hown (wk W (.fieldLink "java/lang/String" 9 "java/lang/String" "value" "[B")) (hx.mv X0.warmed.alike hh0).2.1 (g := (mkF m 1 #[.val (.ref x)] [.ref x])) rfl (rest := []) rfl (hb hbytes d1)
  have hh2 := q2.trans hh0
  have hx2 := hx.mv X2.warmed.alike hh2
  have c3 : Steps p.tables e below (s₁.setTop (entryFrame m #[.ref x] 1)) (T2.setTop (mkF m 6 #[.val (.ref x)] [.ref x, .int (Int32.ofNat V.slots.size)])) := (c1.trans (st2 _ (Steps.refl _))).trans (by
    refine X2.alen hexec hx2.2.2.2.1 rfl rfl (hb hbytes d4) ?_
    refine XS.aloadN X2.here hexec rfl (hb hbytes d5) rfl rfl ?_
    exact Steps.refl _)
  obtain ⟨v4, T4, X4, E4, g4⟩ := X2.callV hexec (Cdr.law l x cd z) hown (wks W (virtW "java/lang/String" 335 "java/lang/String" Cdr.yN Cdr.yN)) rfl (by decide) (wk W Cdr.tab) (W := 1) (Nat.le_of_ble_eq_true rfl) (Nat.le_of_ble_eq_true rfl) (Nat.le_refl _) (Nat.le_refl _) (hx2.1.fc X2.warmed.alike) hx2.1.is (g := (mkF m 6 #[.val (.ref x)] [.ref x, .int (Int32.ofNat V.slots.size)])) rfl (by rw [hml]; rfl) c3 (argsL := []) (rest := [.int (Int32.ofNat V.slots.size)]) rfl rfl (by show 2 * 0 + (1 + 0) ≤ _; decide) (hb hbytes d6) (⟨rfl, hx2.2.2.1, hx.2.2.2.2.1.cd, s1.there X2.warmed.alike hh2, hz⟩)
  obtain ⟨rfl, q4⟩ := E4
  have c5 : Steps p.tables e below (s₁.setTop (entryFrame m #[.ref x] 1)) (T4.setTop (mkF m 10 #[.val (.ref x)] [.int (Int32.ofNat V.slots.size >>> (cd &&& 31))])) := Steps.trans g4 (by
    refine ishr X4.here hexec rfl (hb hbytes d9) rfl ?_
    exact Steps.refl _)
  rw [hx.2.2.2.2.1.len v31] at c5
  exact ⟨T4, some (.int (Int32.ofNat n)), _, _, _, X4, rfl, rfl, rfl, (fun h => by cases h), ⟨rfl, q4.trans hh2⟩, fun fs hl => c5.trans (X4.ireturnOut hexec hret rfl (Or.inl rfl) (hb hbytes d10) hl)⟩
theorem pays {l : Launch} {R : Room} {p : Program} {e : Env} {below : List Frame} {s : State} {sargs : Array Value} {len W : Nat} (x t : Addr) (V : Cell) (cd : Int32) (n : Nat) (f : Nat → Int32) (z : Int32) (htab : tab.before sargs s = true) (hfr : 2 ≤ R.frames) (hlo : W + 25 ≤ R.locals) :
    Back l R p e below s sargs yN len W (fun A₁ a₁ => A₁.cells + 0 ≤ R.cells ∧ A₁.slots + 0 ≤ R.slots ∧ P x t V cd n f z a₁ A₁.U) (fun A₁ _ v₁ B₁ => E n v₁ A₁.U B₁.U ∧ B₁.locs = A₁.locs ++ [] ∧ B₁.cells = A₁.cells + 0 ∧ B₁.slots = A₁.slots + 0) :=
  (law l x t V cd n f z).pays htab hfr (by omega)
end Len
end StrChars
namespace StrChars.Road
open Jvm Sem ClassFile Op Lib Jvm.Stand Jvm.Free Jvm.Free.XT
open Jvm.Lib.Cold (StaticIs)
theorem consq {a : Array Value} {s : State} {c : Jvm.Cond} {L : List Jvm.Cond} (h0 : c.before a s = true) (h : ∀ w ∈ L, w.before a s = true) : ∀ w ∈ c :: L, w.before a s = true := fun w hw => (List.mem_cons.mp hw).elim (fun e => e ▸ h0) (h w)
/-- the words of String.length(), either coding -/
abbrev wordsLen : List Jvm.Cond := [.code Len.yN Len.yB 1 (some .int), .initialized ST, .fieldLink ST 9 ST "value" "[B", .fieldLink ST 38 ST "COMPACT_STRINGS" "Z", .fieldLink ST 15 ST "coder" "B", .code Cdr.yN Cdr.yB 1 (some .byte), .methodLink ST 335 Cdr.yN, .declares Cdr.yN, .selects ST Cdr.yN Cdr.yN, .instanceMethod Cdr.yN]
theorem tabLen_of {a : Array Value} {s : State} (h : ∀ w ∈ wordsLen, w.before a s = true) : Len.tab.before a s = true := by
  have hc : Cdr.tab.before a s = true := unparts (wk h (.code Cdr.yN Cdr.yB 1 (some .byte))) (wks h (.initialized Cdr.yN.cls :: Cdr.site))
  have q := consq hc h
  exact unparts (wk q (.code Len.yN Len.yB 1 (some .int))) (wks q (.initialized Len.yN.cls :: Len.site))
theorem movedLen {Z s : State} {a0 args : Array Value} (hZ : Z.Warmed39 s.vm) (hw : ∀ d ∈ wordsLen, d.before a0 Z = true) : ∀ d ∈ wordsLen, d.before args s = true := fun d hd => by
  have q := hw d hd
  have t : ∀ d ∈ wordsLen, d = .arrayClass .byte ∨ (d.onTables && d.keepsFace) = true := by decide +kernel
  rcases t d hd with rfl | t
  · exact RoadKit.mvA hZ q
  · exact RoadKit.mv hZ q t
/-- the bytes of the chars cs, low before high -/
def wideBytes : List Int32 → List Value
  | [] => []
  | c :: cs => .int (lo8 c) :: .int (hi8 c) :: wideBytes cs
theorem wide_lo (d : Value) : ∀ (cs : List Int32) (j : Nat), j < cs.length → (wideBytes cs).getD (2 * j) d = .int (lo8 (cs.getD j 0))
  | [], j, h => absurd h (Nat.not_lt_zero j)
  | c :: cs, 0, _ => rfl
  | c :: cs, j + 1, h => by
    have q := wide_lo d cs j (by simpa using h)
    rw [show 2 * (j + 1) = 2 * j + 1 + 1 from by omega]
    simpa [wideBytes] using q
theorem wide_hi (d : Value) : ∀ (cs : List Int32) (j : Nat), j < cs.length → (wideBytes cs).getD (2 * j + 1) d = .int (hi8 (cs.getD j 0))
  | [], j, h => absurd h (Nat.not_lt_zero j)
  | c :: cs, 0, _ => rfl
  | c :: cs, j + 1, h => by
    have q := wide_hi d cs j (by simpa using h)
    rw [show 2 * (j + 1) + 1 = 2 * j + 1 + 1 + 1 from by omega]
    simpa [wideBytes] using q
theorem low_at (d : Value) (cs : List Int32) (j : Nat) (h : j < cs.length) : (cs.map fun c => Value.int (lo8 c)).getD j d = .int (lo8 (cs.getD j 0)) := by
  simp [List.getD_eq_getElem?_getD, h]
/-- an array of N2 bytes vs codes the chars cs by the coder cd -/
def CodA (cs : List Int32) (cd N2 : Int32) (vs : List Value) : Prop := (cd = 0 ∧ N2 = Int32.ofNat cs.length ∧ vs = (cs.map fun c => Value.int (lo8 c)) ∧ ∀ c ∈ cs, ¬ 255 < c) ∨ (cd = 1 ∧ N2 = Int32.ofNat (2 * cs.length) ∧ vs = wideBytes cs ∧ ∃ c ∈ cs, 255 < c)
theorem CodA.cod {cs : List Int32} {cd N2 : Int32} {vs : List Value} {V : Cell} (h : CodA cs cd N2 vs) (hn : 2 * cs.length < 2 ^ 31) (hs : V.slots.size = N2.toNatClampNeg) (hv : RoadKit.Has V vs (.int 0)) : Cod cd cs.length (fun j => cs.getD j 0) V := by
  rcases h with ⟨rfl, rfl, rfl, h⟩ | ⟨rfl, rfl, rfl, c, hc, hw⟩
  · rw [n32 (by omega)] at hs
    exact Or.inl ⟨rfl, hs, fun j hj => ⟨by rw [hv j (by omega), low_at _ _ _ hj], by
      have e : cs.getD j 0 = cs[j] := by simp [List.getD_eq_getElem?_getD, hj]
      show ¬ 255 < cs.getD j 0
      rw [e]; exact h _ (List.getElem_mem _)⟩⟩
  · rw [n32 (by omega)] at hs
    obtain ⟨j, hj, rfl⟩ := List.getElem_of_mem hc
    exact Or.inr ⟨rfl, hs, fun j hj => ⟨by rw [hv _ (by omega), wide_lo _ _ _ hj], by rw [hv _ (by omega), wide_hi _ _ _ hj]⟩, j, hj, by
      have e : cs.getD j 0 = cs[j] := by simp [List.getD_eq_getElem?_getD, hj]
      show 255 < cs.getD j 0
      rw [e]; exact hw⟩
/-- an object of exactly java/lang/String, its two fields found: as the laws ask it -/
theorem strObj {Z U : State} {a0 : Array Value} {kI : Nat} (wi : (Jvm.Cond.instantiable ST kI).before a0 Z = true) (al : Z.vm.Alike U.vm) {x : Addr} {v0 c0 : Value} (E : RoadKit.Exa Z U.heap x ST) (V : RoadKit.Fld Z U.heap x ST "value" "[B" v0) (C : RoadKit.Fld Z U.heap x ST "coder" "B" c0) :
    ∃ (D : Cell) (fV fC : Field), Blank ST x D U ∧ Found ST "value" "[B" fV U ∧ Found ST "coder" "B" fC U ∧ D.slots[fV.slot]? = some v0 ∧ D.slots[fC.slot]? = some c0 ∧ RoadKit.slotOf Z ST "value" "[B" = fV.slot ∧ RoadKit.slotOf Z ST "coder" "B" = fC.slot := by
  obtain ⟨D, cfV, kV, iV, fV, hD, gV, stV, knV, obV, asV, slV⟩ := V
  obtain ⟨D', cfC, kC, iC, fC, hD', gC, stC, -, -, asC, slC⟩ := C
  cases hD.symm.trans hD'
  obtain ⟨D2, kD, e1, e2, e3, e4, e5⟩ := E
  cases hD.symm.trans e1
  obtain ⟨c2, k2, i1, i2, i3, -⟩ := Cond.instantiable_spec wi
  cases e2.symm.trans i1
  cases e3.symm.trans i2
  obtain ⟨kU, u1, u2⟩ := al.2.2 _ _ e3
  exact ⟨D, fV, fC, ⟨hD, ⟨knV, fun q hq => by rw [hq] at obV; cases obV⟩, by rw [al.findClass]; exact e2, kU, u1, by rw [u2]; exact i3, by rw [u2]; exact e5 i3⟩, ⟨SBG.found_only al ⟨cfV, kV, iV, gV⟩, stV⟩, ⟨SBG.found_only al ⟨cfC, kC, iC, gC⟩, stC⟩, slV, slC, by simp [RoadKit.slotOf, gV], by simp [RoadKit.slotOf, gC]⟩
theorem sta_is {Z U : State} (al : Z.vm.Alike U.vm) {C n d : String} {v : Value} (S : RoadKit.Sta Z U.heap C n d v) : StaticIs U C n d v := by
  obtain ⟨cfS, iS, kS, fS, st, cS, t1, t2, t3, t4, t5, t6, t7⟩ := S
  exact StaticIs.there (s := { Z with heap := U.heap }) ⟨cfS, iS, kS, fS, st, cS, t1, t2, t3, t4, t5, (fun q => by rw [q] at t6; cases t6), t7⟩ al rfl
/-- **length() OF SUCH A STRING** -/
theorem lenW {p : Program} {l : Launch} {e : Env} {R : Room} {s : State} {args : Array Value} {below : List Frame} {len W : Nat} {Z : State} {a0 : Array Value} {h : Heap} (hZ : Z.Warmed39 s.vm) (hw : ∀ d ∈ wordsLen, d.before a0 Z = true) {kI : Nat} (wi : (Jvm.Cond.instantiable ST kI).before a0 Z = true)
    {x t : Addr} {kb : ClassId} {cs : List Int32} {cd N2 z : Int32} {vs : List Value} (E : RoadKit.Exa Z h x ST) (V : RoadKit.Fld Z h x ST "value" "[B" (.ref t)) (C : RoadKit.Fld Z h x ST "coder" "B" (.int cd)) (K : RoadKit.Arv Z h t kb .byte N2 vs (.int 0)) (hc : CodA cs cd N2 vs) (hb : ∀ c ∈ cs, ¬ c < 0 ∧ ¬ (65535 : Int32) < c)
    (S : RoadKit.Sta Z h ST "COMPACT_STRINGS" "Z" (.int z)) (hz : ¬ z = 0) (l2 : cs.length ≤ 4000) (hfr : 2 ≤ R.frames) (hlo : W + 25 ≤ R.locals) :
    Back l R p e below s args (⟨"java/lang/String", "length", "()I"⟩ : MethodName) len W (fun P a => a = #[.ref x] ∧ P.U.heap = h ∧ P.cells + 0 ≤ R.cells ∧ P.slots + 0 ≤ R.slots)
      (fun P _ v B => ∃ L, (v = some (.int (Int32.ofNat cs.length)) ∧ L = [] ∧ B.U.heap = h) ∧ B.locs = P.locs ++ L ∧ B.cells = P.cells + 0 ∧ B.slots = P.slots + 0) := by
  obtain ⟨A, K1, K2, K3, K4, K5, K6⟩ := K
  have hcod := hc.cod (by omega) K3 K5
  intro m meth c P g ig mk a X hg hsize hdg hW hn hp'
  obtain ⟨rfl, rfl, r1, r2⟩ := hp'
  have al : Z.vm.Alike P.U.vm := hZ.alike.trans X.warmed.alike
  obtain ⟨D, fV, fC, hB, F1, F2, g1, g2, -, -⟩ := strObj wi al E V C
  have hx : Txt x t A cd cs.length (fun j => cs.getD j 0) P.U := ⟨⟨_, hB.2.2.1, D, hB.1, rfl, by cases q : D.vm <;> first | rfl | exact absurd q (hB.2.1.2 _)⟩, Has.of hB F1 g1, Has.of hB F2 g2, ⟨K1.1, State.isArrayOf_alike al K1.2.1, K1.2.2, by rcases hcod with ⟨-, q, -⟩ | ⟨-, q, -⟩ <;> omega⟩, hcod, fun j hj => by
    have e : cs.getD j 0 = cs[j] := by simp [List.getD_eq_getElem?_getD, hj]
    show ¬ cs.getD j 0 < 0 ∧ ¬ 65535 < cs.getD j 0
    rw [e]; exact hb _ (List.getElem_mem _)⟩
  obtain ⟨v, B, X', ⟨⟨hv, hh⟩, hl, hk, hs⟩, st⟩ := Len.pays x t A cd cs.length (fun j => cs.getD j 0) z (tabLen_of (movedLen hZ hw)) hfr hlo m meth c P g ig mk _ X hg hsize hdg hW hn ⟨r1, r2, rfl, hx, sta_is al S, hz⟩
  exact ⟨v, B, X', ⟨[], ⟨hv, rfl, hh⟩, hl, hk, hs⟩, st⟩
end StrChars.Road
end Jvm.Pilot.@@N@@
namespace Jvm.Pilot.@@N@@
open Jvm Jvm.ClassFile Sem Op Lib Jvm.Free Jvm.Stand Jvm.LawKit Jvm.RoadKit Bundle Jvm.Pilot.@@N@@.Jvm.D
abbrev HW (a0 : Array Value) (Z : State) : Prop := ∀ d ∈ tables_1, d.before a0 Z = true
theorem oMem {d : Jvm.Cond} (i : Nat) (h : tables_1[i]? = some d) : d ∈ tables_1 := List.mem_of_getElem? h
section Words
variable {a0 : Array Value} {Z : State}
theorem Wd0 (hw : HW a0 Z) : (Jvm.Cond.constant "com/example/savepoint/savepoint/SqlDialectIsWordPinLaw" (7 : Nat) (2147483647 : Int32)).before a0 Z = true := hw _ (oMem 0 rfl)
theorem Wd1 (hw : HW a0 Z) : (Jvm.Cond.arrayClass Jvm.ClassFile.FieldType.char).before a0 Z = true := hw _ (oMem 1 rfl)
theorem Wd2 (hw : HW a0 Z) : (Jvm.Cond.constantLong "com/example/savepoint/savepoint/SqlDialectIsWordPinLaw" (8 : Nat) (511 : Int64)).before a0 Z = true := hw _ (oMem 2 rfl)
theorem Wd3 (hw : HW a0 Z) : (Jvm.Cond.classLink "com/example/savepoint/savepoint/SqlDialectIsWordPinLaw" (10 : Nat) "java/lang/String").before a0 Z = true := hw _ (oMem 3 rfl)
theorem Wd4 (hw : HW a0 Z) : (Jvm.Cond.instantiable "java/lang/String" (4 : Nat)).before a0 Z = true := hw _ (oMem 4 rfl)
theorem Wd5 (hw : HW a0 Z) : (Jvm.Cond.initialized "java/lang/String").before a0 Z = true := hw _ (oMem 5 rfl)
theorem Wd6 (hw : HW a0 Z) : (Jvm.Cond.methodLink "com/example/savepoint/savepoint/SqlDialectIsWordPinLaw" (12 : Nat) ({ cls := "java/lang/String", name := "<init>", desc := "([C)V" } : Jvm.MethodName)).before a0 Z = true := hw _ (oMem 6 rfl)
theorem Wd7 (hw : HW a0 Z) : (Jvm.Cond.instanceMethod ({ cls := "java/lang/String", name := "<init>", desc := "([C)V" } : Jvm.MethodName)).before a0 Z = true := hw _ (oMem 7 rfl)
theorem Wd8 (hw : HW a0 Z) : (Jvm.Cond.code ({ cls := "java/lang/String", name := "<init>", desc := "([C)V" } : Jvm.MethodName) jdk_42_method_3_code (2 : Nat) (Option.none : Option Jvm.ClassFile.FieldType)).before a0 Z = true := hw _ (oMem 8 rfl)
theorem Wd9 (hw : HW a0 Z) : (Jvm.Cond.methodLink "java/lang/String" (27 : Nat) ({ cls := "java/lang/String", name := "<init>", desc := "([CIILjava/lang/Void;)V" } : Jvm.MethodName)).before a0 Z = true := hw _ (oMem 9 rfl)
theorem Wd10 (hw : HW a0 Z) : (Jvm.Cond.instanceMethod ({ cls := "java/lang/String", name := "<init>", desc := "([CIILjava/lang/Void;)V" } : Jvm.MethodName)).before a0 Z = true := hw _ (oMem 10 rfl)
theorem Wd12 (hw : HW a0 Z) : (Jvm.Cond.code ({ cls := "java/lang/String", name := "<init>", desc := "([CIILjava/lang/Void;)V" } : Jvm.MethodName) jdk_42_method_149_code (6 : Nat) (Option.none : Option Jvm.ClassFile.FieldType)).before a0 Z = true := hw _ (oMem 12 rfl)
theorem Wd13 (hw : HW a0 Z) : (Jvm.Cond.methodLink "java/lang/String" (1 : Nat) ({ cls := "java/lang/Object", name := "<init>", desc := "()V" } : Jvm.MethodName)).before a0 Z = true := hw _ (oMem 13 rfl)
theorem Wd14 (hw : HW a0 Z) : (Jvm.Cond.instanceMethod ({ cls := "java/lang/Object", name := "<init>", desc := "()V" } : Jvm.MethodName)).before a0 Z = true := hw _ (oMem 14 rfl)
theorem Wd15 (hw : HW a0 Z) : (Jvm.Cond.code ({ cls := "java/lang/Object", name := "<init>", desc := "()V" } : Jvm.MethodName) object_method_1_code (1 : Nat) (Option.none : Option Jvm.ClassFile.FieldType)).before a0 Z = true := hw _ (oMem 15 rfl)
theorem Wd16 (hw : HW a0 Z) : (Jvm.Cond.fieldLink "java/lang/String" (38 : Nat) "java/lang/String" "COMPACT_STRINGS" "Z").before a0 Z = true := hw _ (oMem 16 rfl)
theorem Wd17 (hw : HW a0 Z) : (Jvm.Cond.methodLink "java/lang/String" (177 : Nat) ({ cls := "java/lang/StringUTF16", name := "compress", desc := "([CII)[B" } : Jvm.MethodName)).before a0 Z = true := hw _ (oMem 17 rfl)
theorem Wd18 (hw : HW a0 Z) : (Jvm.Cond.static ({ cls := "java/lang/StringUTF16", name := "compress", desc := "([CII)[B" } : Jvm.MethodName)).before a0 Z = true := hw _ (oMem 18 rfl)
theorem Wd19 (hw : HW a0 Z) : (Jvm.Cond.initialized "java/lang/StringUTF16").before a0 Z = true := hw _ (oMem 19 rfl)
theorem Wd20 (hw : HW a0 Z) : (Jvm.Cond.code ({ cls := "java/lang/StringUTF16", name := "compress", desc := "([CII)[B" } : Jvm.MethodName) jdk_52_method_16_code (6 : Nat) (Option.some (Jvm.ClassFile.FieldType.array Jvm.ClassFile.FieldType.byte))).before a0 Z = true := hw _ (oMem 20 rfl)
theorem Wd21 (hw : HW a0 Z) : (Jvm.Cond.arrayClass Jvm.ClassFile.FieldType.byte).before a0 Z = true := hw _ (oMem 21 rfl)
theorem Wd22 (hw : HW a0 Z) : (Jvm.Cond.methodLink "java/lang/StringUTF16" (115 : Nat) ({ cls := "java/lang/StringUTF16", name := "compress", desc := "([CI[BII)I" } : Jvm.MethodName)).before a0 Z = true := hw _ (oMem 22 rfl)
theorem Wd23 (hw : HW a0 Z) : (Jvm.Cond.static ({ cls := "java/lang/StringUTF16", name := "compress", desc := "([CI[BII)I" } : Jvm.MethodName)).before a0 Z = true := hw _ (oMem 23 rfl)
theorem Wd24 (hw : HW a0 Z) : (Jvm.Cond.code ({ cls := "java/lang/StringUTF16", name := "compress", desc := "([CI[BII)I" } : Jvm.MethodName) jdk_52_method_21_code (7 : Nat) (Option.some Jvm.ClassFile.FieldType.int)).before a0 Z = true := hw _ (oMem 24 rfl)
theorem Wd25 (hw : HW a0 Z) : (Jvm.Cond.methodLink "java/lang/String" (47 : Nat) ({ cls := "java/lang/StringUTF16", name := "coderFromArrayLen", desc := "([BI)B" } : Jvm.MethodName)).before a0 Z = true := hw _ (oMem 25 rfl)
theorem Wd26 (hw : HW a0 Z) : (Jvm.Cond.static ({ cls := "java/lang/StringUTF16", name := "coderFromArrayLen", desc := "([BI)B" } : Jvm.MethodName)).before a0 Z = true := hw _ (oMem 26 rfl)
theorem Wd27 (hw : HW a0 Z) : (Jvm.Cond.code ({ cls := "java/lang/StringUTF16", name := "coderFromArrayLen", desc := "([BI)B" } : Jvm.MethodName) jdk_52_method_15_code (2 : Nat) (Option.some Jvm.ClassFile.FieldType.byte)).before a0 Z = true := hw _ (oMem 27 rfl)
theorem Wd28 (hw : HW a0 Z) : (Jvm.Cond.fieldLink "java/lang/String" (15 : Nat) "java/lang/String" "coder" "B").before a0 Z = true := hw _ (oMem 28 rfl)
theorem Wd29 (hw : HW a0 Z) : (Jvm.Cond.laysFinal "java/lang/String" "java/lang/String" "coder" "B").before a0 Z = true := hw _ (oMem 29 rfl)
theorem Wd30 (hw : HW a0 Z) : (Jvm.Cond.fieldLink "java/lang/String" (9 : Nat) "java/lang/String" "value" "[B").before a0 Z = true := hw _ (oMem 30 rfl)
theorem Wd31 (hw : HW a0 Z) : (Jvm.Cond.laysFinal "java/lang/String" "java/lang/String" "value" "[B").before a0 Z = true := hw _ (oMem 31 rfl)
theorem Wd32 (hw : HW a0 Z) : (Jvm.Cond.methodLink "com/example/savepoint/savepoint/SqlDialectIsWordPinLaw" (15 : Nat) ({ cls := "com/example/savepoint/savepoint/SqlDialect", name := "isWord", desc := "(Ljava/lang/String;IILjava/lang/String;)Z" } : Jvm.MethodName)).before a0 Z = true := hw _ (oMem 32 rfl)
theorem Wd33 (hw : HW a0 Z) : (Jvm.Cond.static ({ cls := "com/example/savepoint/savepoint/SqlDialect", name := "isWord", desc := "(Ljava/lang/String;IILjava/lang/String;)Z" } : Jvm.MethodName)).before a0 Z = true := hw _ (oMem 33 rfl)
theorem Wd34 (hw : HW a0 Z) : (Jvm.Cond.initialized "com/example/savepoint/savepoint/SqlDialect").before a0 Z = true := hw _ (oMem 34 rfl)
theorem Wd35 (hw : HW a0 Z) : (Jvm.Cond.code ({ cls := "com/example/savepoint/savepoint/SqlDialect", name := "isWord", desc := "(Ljava/lang/String;IILjava/lang/String;)Z" } : Jvm.MethodName) prog_14_method_9_code (8 : Nat) (Option.some Jvm.ClassFile.FieldType.boolean)).before a0 Z = true := hw _ (oMem 35 rfl)
theorem Wd36 (hw : HW a0 Z) : (Jvm.Cond.methodLink "com/example/savepoint/savepoint/SqlDialect" (63 : Nat) ({ cls := "java/lang/String", name := "length", desc := "()I" } : Jvm.MethodName)).before a0 Z = true := hw _ (oMem 36 rfl)
theorem Wd37 (hw : HW a0 Z) : (Jvm.Cond.declares ({ cls := "java/lang/String", name := "length", desc := "()I" } : Jvm.MethodName)).before a0 Z = true := hw _ (oMem 37 rfl)
theorem Wd38 (hw : HW a0 Z) : (Jvm.Cond.instanceMethod ({ cls := "java/lang/String", name := "length", desc := "()I" } : Jvm.MethodName)).before a0 Z = true := hw _ (oMem 38 rfl)
theorem Wd39 (hw : HW a0 Z) : (Jvm.Cond.selects "java/lang/String" ({ cls := "java/lang/String", name := "length", desc := "()I" } : Jvm.MethodName) ({ cls := "java/lang/String", name := "length", desc := "()I" } : Jvm.MethodName)).before a0 Z = true := hw _ (oMem 39 rfl)
theorem Wd40 (hw : HW a0 Z) : (Jvm.Cond.code ({ cls := "java/lang/String", name := "length", desc := "()I" } : Jvm.MethodName) jdk_42_method_54_code (1 : Nat) (Option.some Jvm.ClassFile.FieldType.int)).before a0 Z = true := hw _ (oMem 40 rfl)
theorem Wd41 (hw : HW a0 Z) : (Jvm.Cond.methodLink "java/lang/String" (335 : Nat) ({ cls := "java/lang/String", name := "coder", desc := "()B" } : Jvm.MethodName)).before a0 Z = true := hw _ (oMem 41 rfl)
theorem Wd42 (hw : HW a0 Z) : (Jvm.Cond.declares ({ cls := "java/lang/String", name := "coder", desc := "()B" } : Jvm.MethodName)).before a0 Z = true := hw _ (oMem 42 rfl)
theorem Wd43 (hw : HW a0 Z) : (Jvm.Cond.instanceMethod ({ cls := "java/lang/String", name := "coder", desc := "()B" } : Jvm.MethodName)).before a0 Z = true := hw _ (oMem 43 rfl)
theorem Wd44 (hw : HW a0 Z) : (Jvm.Cond.selects "java/lang/String" ({ cls := "java/lang/String", name := "coder", desc := "()B" } : Jvm.MethodName) ({ cls := "java/lang/String", name := "coder", desc := "()B" } : Jvm.MethodName)).before a0 Z = true := hw _ (oMem 44 rfl)
theorem Wd45 (hw : HW a0 Z) : (Jvm.Cond.code ({ cls := "java/lang/String", name := "coder", desc := "()B" } : Jvm.MethodName) jdk_42_method_152_code (1 : Nat) (Option.some Jvm.ClassFile.FieldType.byte)).before a0 Z = true := hw _ (oMem 45 rfl)
theorem Wd46 (hw : HW a0 Z) : (Jvm.Cond.methodLink "com/example/savepoint/savepoint/SqlDialect" (69 : Nat) ({ cls := "java/lang/String", name := "charAt", desc := "(I)C" } : Jvm.MethodName)).before a0 Z = true := hw _ (oMem 46 rfl)
theorem Wd47 (hw : HW a0 Z) : (Jvm.Cond.declares ({ cls := "java/lang/String", name := "charAt", desc := "(I)C" } : Jvm.MethodName)).before a0 Z = true := hw _ (oMem 47 rfl)
theorem Wd48 (hw : HW a0 Z) : (Jvm.Cond.instanceMethod ({ cls := "java/lang/String", name := "charAt", desc := "(I)C" } : Jvm.MethodName)).before a0 Z = true := hw _ (oMem 48 rfl)
theorem Wd49 (hw : HW a0 Z) : (Jvm.Cond.selects "java/lang/String" ({ cls := "java/lang/String", name := "charAt", desc := "(I)C" } : Jvm.MethodName) ({ cls := "java/lang/String", name := "charAt", desc := "(I)C" } : Jvm.MethodName)).before a0 Z = true := hw _ (oMem 49 rfl)
theorem Wd50 (hw : HW a0 Z) : (Jvm.Cond.code ({ cls := "java/lang/String", name := "charAt", desc := "(I)C" } : Jvm.MethodName) jdk_42_method_56_code (2 : Nat) (Option.some Jvm.ClassFile.FieldType.char)).before a0 Z = true := hw _ (oMem 50 rfl)
theorem Wd51 (hw : HW a0 Z) : (Jvm.Cond.methodLink "java/lang/String" (492 : Nat) ({ cls := "java/lang/String", name := "isLatin1", desc := "()Z" } : Jvm.MethodName)).before a0 Z = true := hw _ (oMem 51 rfl)
theorem Wd52 (hw : HW a0 Z) : (Jvm.Cond.declares ({ cls := "java/lang/String", name := "isLatin1", desc := "()Z" } : Jvm.MethodName)).before a0 Z = true := hw _ (oMem 52 rfl)
theorem Wd53 (hw : HW a0 Z) : (Jvm.Cond.instanceMethod ({ cls := "java/lang/String", name := "isLatin1", desc := "()Z" } : Jvm.MethodName)).before a0 Z = true := hw _ (oMem 53 rfl)
theorem Wd54 (hw : HW a0 Z) : (Jvm.Cond.selects "java/lang/String" ({ cls := "java/lang/String", name := "isLatin1", desc := "()Z" } : Jvm.MethodName) ({ cls := "java/lang/String", name := "isLatin1", desc := "()Z" } : Jvm.MethodName)).before a0 Z = true := hw _ (oMem 54 rfl)
theorem Wd55 (hw : HW a0 Z) : (Jvm.Cond.code ({ cls := "java/lang/String", name := "isLatin1", desc := "()Z" } : Jvm.MethodName) jdk_42_method_154_code (1 : Nat) (Option.some Jvm.ClassFile.FieldType.boolean)).before a0 Z = true := hw _ (oMem 55 rfl)
theorem Wd56 (hw : HW a0 Z) : (Jvm.Cond.methodLink "java/lang/String" (495 : Nat) ({ cls := "java/lang/StringLatin1", name := "charAt", desc := "([BI)C" } : Jvm.MethodName)).before a0 Z = true := hw _ (oMem 56 rfl)
theorem Wd57 (hw : HW a0 Z) : (Jvm.Cond.static ({ cls := "java/lang/StringLatin1", name := "charAt", desc := "([BI)C" } : Jvm.MethodName)).before a0 Z = true := hw _ (oMem 57 rfl)
theorem Wd58 (hw : HW a0 Z) : (Jvm.Cond.initialized "java/lang/StringLatin1").before a0 Z = true := hw _ (oMem 58 rfl)
theorem Wd59 (hw : HW a0 Z) : (Jvm.Cond.code ({ cls := "java/lang/StringLatin1", name := "charAt", desc := "([BI)C" } : Jvm.MethodName) jdk_43_method_2_code (2 : Nat) (Option.some Jvm.ClassFile.FieldType.char)).before a0 Z = true := hw _ (oMem 59 rfl)
theorem Wd60 (hw : HW a0 Z) : (Jvm.Cond.methodLink "java/lang/StringLatin1" (9 : Nat) ({ cls := "java/lang/String", name := "checkIndex", desc := "(II)V" } : Jvm.MethodName)).before a0 Z = true := hw _ (oMem 60 rfl)
theorem Wd61 (hw : HW a0 Z) : (Jvm.Cond.static ({ cls := "java/lang/String", name := "checkIndex", desc := "(II)V" } : Jvm.MethodName)).before a0 Z = true := hw _ (oMem 61 rfl)
theorem Wd62 (hw : HW a0 Z) : (Jvm.Cond.code ({ cls := "java/lang/String", name := "checkIndex", desc := "(II)V" } : Jvm.MethodName) jdk_42_method_155_code (2 : Nat) (Option.none : Option Jvm.ClassFile.FieldType)).before a0 Z = true := hw _ (oMem 62 rfl)
theorem Wd63 (hw : HW a0 Z) : (Jvm.Cond.fieldLink "java/lang/String" (1053 : Nat) "jdk/internal/util/Preconditions" "SIOOBE_FORMATTER" "Ljava/util/function/BiFunction;").before a0 Z = true := hw _ (oMem 63 rfl)
theorem Wd64 (hw : HW a0 Z) : (Jvm.Cond.initialized "jdk/internal/util/Preconditions").before a0 Z = true := hw _ (oMem 64 rfl)
theorem Wd65 (hw : HW a0 Z) : (Jvm.Cond.methodLink "java/lang/String" (1059 : Nat) ({ cls := "jdk/internal/util/Preconditions", name := "checkIndex", desc := "(IILjava/util/function/BiFunction;)I" } : Jvm.MethodName)).before a0 Z = true := hw _ (oMem 65 rfl)
theorem Wd66 (hw : HW a0 Z) : (Jvm.Cond.static ({ cls := "jdk/internal/util/Preconditions", name := "checkIndex", desc := "(IILjava/util/function/BiFunction;)I" } : Jvm.MethodName)).before a0 Z = true := hw _ (oMem 66 rfl)
theorem Wd67 (hw : HW a0 Z) : (Jvm.Cond.code ({ cls := "jdk/internal/util/Preconditions", name := "checkIndex", desc := "(IILjava/util/function/BiFunction;)I" } : Jvm.MethodName) jdk_41_method_11_code (3 : Nat) (Option.some Jvm.ClassFile.FieldType.int)).before a0 Z = true := hw _ (oMem 67 rfl)
theorem Wd68 (hw : HW a0 Z) : (Jvm.Cond.methodLink "com/example/savepoint/savepoint/SqlDialectIsWordPinLaw" (21 : Nat) ({ cls := "com/example/savepoint/savepoint/SqlDialectIsWordPinLaw", name := "m", desc := "(CC)Z" } : Jvm.MethodName)).before a0 Z = true := hw _ (oMem 68 rfl)
theorem Wd69 (hw : HW a0 Z) : (Jvm.Cond.static ({ cls := "com/example/savepoint/savepoint/SqlDialectIsWordPinLaw", name := "m", desc := "(CC)Z" } : Jvm.MethodName)).before a0 Z = true := hw _ (oMem 69 rfl)
theorem Wd70 (hw : HW a0 Z) : (Jvm.Cond.initialized "com/example/savepoint/savepoint/SqlDialectIsWordPinLaw").before a0 Z = true := hw _ (oMem 70 rfl)
theorem Wd71 (hw : HW a0 Z) : (Jvm.Cond.code ({ cls := "com/example/savepoint/savepoint/SqlDialectIsWordPinLaw", name := "m", desc := "(CC)Z" } : Jvm.MethodName) method_2_code (2 : Nat) (Option.some Jvm.ClassFile.FieldType.boolean)).before a0 Z = true := hw _ (oMem 71 rfl)
theorem Wd72 (hw : HW a0 Z) : (Jvm.Cond.stringLink "java/lang/String" (7 : Nat) "").before a0 Z = true := hw _ (oMem 72 rfl)
theorem Wd75 (hw : HW a0 Z) : (Jvm.Cond.methodLink "java/lang/StringUTF16" (119 : Nat) ({ cls := "java/lang/StringUTF16", name := "toBytes", desc := "([CII)[B" } : Jvm.MethodName)).before a0 Z = true := hw _ (oMem 75 rfl)
theorem Wd76 (hw : HW a0 Z) : (Jvm.Cond.static ({ cls := "java/lang/StringUTF16", name := "toBytes", desc := "([CII)[B" } : Jvm.MethodName)).before a0 Z = true := hw _ (oMem 76 rfl)
theorem Wd77 (hw : HW a0 Z) : (Jvm.Cond.code ({ cls := "java/lang/StringUTF16", name := "toBytes", desc := "([CII)[B" } : Jvm.MethodName) jdk_52_method_14_code (5 : Nat) (Option.some (Jvm.ClassFile.FieldType.array Jvm.ClassFile.FieldType.byte))).before a0 Z = true := hw _ (oMem 77 rfl)
theorem Wd78 (hw : HW a0 Z) : (Jvm.Cond.methodLink "java/lang/StringUTF16" (107 : Nat) ({ cls := "java/lang/StringUTF16", name := "newBytesFor", desc := "(I)[B" } : Jvm.MethodName)).before a0 Z = true := hw _ (oMem 78 rfl)
theorem Wd79 (hw : HW a0 Z) : (Jvm.Cond.static ({ cls := "java/lang/StringUTF16", name := "newBytesFor", desc := "(I)[B" } : Jvm.MethodName)).before a0 Z = true := hw _ (oMem 79 rfl)
theorem Wd80 (hw : HW a0 Z) : (Jvm.Cond.code ({ cls := "java/lang/StringUTF16", name := "newBytesFor", desc := "(I)[B" } : Jvm.MethodName) jdk_52_method_2_code (1 : Nat) (Option.some (Jvm.ClassFile.FieldType.array Jvm.ClassFile.FieldType.byte))).before a0 Z = true := hw _ (oMem 80 rfl)
theorem Wd81 (hw : HW a0 Z) : (Jvm.Cond.methodLink "java/lang/StringUTF16" (11 : Nat) ({ cls := "java/lang/StringUTF16", name := "newBytesLength", desc := "(I)I" } : Jvm.MethodName)).before a0 Z = true := hw _ (oMem 81 rfl)
theorem Wd82 (hw : HW a0 Z) : (Jvm.Cond.static ({ cls := "java/lang/StringUTF16", name := "newBytesLength", desc := "(I)I" } : Jvm.MethodName)).before a0 Z = true := hw _ (oMem 82 rfl)
theorem Wd83 (hw : HW a0 Z) : (Jvm.Cond.code ({ cls := "java/lang/StringUTF16", name := "newBytesLength", desc := "(I)I" } : Jvm.MethodName) jdk_52_method_3_code (1 : Nat) (Option.some Jvm.ClassFile.FieldType.int)).before a0 Z = true := hw _ (oMem 83 rfl)
theorem Wd84 (hw : HW a0 Z) : (Jvm.Cond.constant "java/lang/StringUTF16" (20 : Nat) (1073741823 : Int32)).before a0 Z = true := hw _ (oMem 84 rfl)
theorem Wd85 (hw : HW a0 Z) : (Jvm.Cond.methodLink "java/lang/StringUTF16" (111 : Nat) ({ cls := "java/lang/StringUTF16", name := "putChar", desc := "([BII)V" } : Jvm.MethodName)).before a0 Z = true := hw _ (oMem 85 rfl)
theorem Wd86 (hw : HW a0 Z) : (Jvm.Cond.static ({ cls := "java/lang/StringUTF16", name := "putChar", desc := "([BII)V" } : Jvm.MethodName)).before a0 Z = true := hw _ (oMem 86 rfl)
theorem Wd87 (hw : HW a0 Z) : (Jvm.Cond.code ({ cls := "java/lang/StringUTF16", name := "putChar", desc := "([BII)V" } : Jvm.MethodName) jdk_52_method_4_code (3 : Nat) (Option.none : Option Jvm.ClassFile.FieldType)).before a0 Z = true := hw _ (oMem 87 rfl)
theorem Wd88 (hw : HW a0 Z) : (Jvm.Cond.fieldLink "java/lang/StringUTF16" (44 : Nat) "java/lang/StringUTF16" "$assertionsDisabled" "Z").before a0 Z = true := hw _ (oMem 88 rfl)
theorem Wd89 (hw : HW a0 Z) : (Jvm.Cond.fieldLink "java/lang/StringUTF16" (59 : Nat) "java/lang/StringUTF16" "HI_BYTE_SHIFT" "I").before a0 Z = true := hw _ (oMem 89 rfl)
theorem Wd90 (hw : HW a0 Z) : (Jvm.Cond.fieldLink "java/lang/StringUTF16" (63 : Nat) "java/lang/StringUTF16" "LO_BYTE_SHIFT" "I").before a0 Z = true := hw _ (oMem 90 rfl)
theorem Wd91 (hw : HW a0 Z) : (Jvm.Cond.methodLink "java/lang/StringUTF16" (71 : Nat) ({ cls := "java/lang/StringUTF16", name := "getChar", desc := "([BI)C" } : Jvm.MethodName)).before a0 Z = true := hw _ (oMem 91 rfl)
theorem Wd92 (hw : HW a0 Z) : (Jvm.Cond.static ({ cls := "java/lang/StringUTF16", name := "getChar", desc := "([BI)C" } : Jvm.MethodName)).before a0 Z = true := hw _ (oMem 92 rfl)
theorem Wd93 (hw : HW a0 Z) : (Jvm.Cond.code ({ cls := "java/lang/StringUTF16", name := "getChar", desc := "([BI)C" } : Jvm.MethodName) jdk_52_method_5_code (2 : Nat) (Option.some Jvm.ClassFile.FieldType.char)).before a0 Z = true := hw _ (oMem 93 rfl)
theorem Wd94 (hw : HW a0 Z) : (Jvm.Cond.methodLink "java/lang/String" (498 : Nat) ({ cls := "java/lang/StringUTF16", name := "charAt", desc := "([BI)C" } : Jvm.MethodName)).before a0 Z = true := hw _ (oMem 94 rfl)
theorem Wd95 (hw : HW a0 Z) : (Jvm.Cond.static ({ cls := "java/lang/StringUTF16", name := "charAt", desc := "([BI)C" } : Jvm.MethodName)).before a0 Z = true := hw _ (oMem 95 rfl)
theorem Wd96 (hw : HW a0 Z) : (Jvm.Cond.code ({ cls := "java/lang/StringUTF16", name := "charAt", desc := "([BI)C" } : Jvm.MethodName) jdk_52_method_83_code (2 : Nat) (Option.some Jvm.ClassFile.FieldType.char)).before a0 Z = true := hw _ (oMem 96 rfl)
theorem Wd97 (hw : HW a0 Z) : (Jvm.Cond.methodLink "java/lang/StringUTF16" (67 : Nat) ({ cls := "java/lang/StringUTF16", name := "checkIndex", desc := "(I[B)V" } : Jvm.MethodName)).before a0 Z = true := hw _ (oMem 97 rfl)
theorem Wd98 (hw : HW a0 Z) : (Jvm.Cond.static ({ cls := "java/lang/StringUTF16", name := "checkIndex", desc := "(I[B)V" } : Jvm.MethodName)).before a0 Z = true := hw _ (oMem 98 rfl)
theorem Wd99 (hw : HW a0 Z) : (Jvm.Cond.code ({ cls := "java/lang/StringUTF16", name := "checkIndex", desc := "(I[B)V" } : Jvm.MethodName) jdk_52_method_91_code (2 : Nat) (Option.none : Option Jvm.ClassFile.FieldType)).before a0 Z = true := hw _ (oMem 99 rfl)
theorem Wd100 (hw : HW a0 Z) : (Jvm.Cond.methodLink "java/lang/StringUTF16" (48 : Nat) ({ cls := "java/lang/StringUTF16", name := "length", desc := "([B)I" } : Jvm.MethodName)).before a0 Z = true := hw _ (oMem 100 rfl)
theorem Wd101 (hw : HW a0 Z) : (Jvm.Cond.static ({ cls := "java/lang/StringUTF16", name := "length", desc := "([B)I" } : Jvm.MethodName)).before a0 Z = true := hw _ (oMem 101 rfl)
theorem Wd102 (hw : HW a0 Z) : (Jvm.Cond.code ({ cls := "java/lang/StringUTF16", name := "length", desc := "([B)I" } : Jvm.MethodName) jdk_52_method_6_code (1 : Nat) (Option.some Jvm.ClassFile.FieldType.int)).before a0 Z = true := hw _ (oMem 102 rfl)
theorem Wd103 (hw : HW a0 Z) : (Jvm.Cond.methodLink "java/lang/StringUTF16" (414 : Nat) ({ cls := "java/lang/String", name := "checkIndex", desc := "(II)V" } : Jvm.MethodName)).before a0 Z = true := hw _ (oMem 103 rfl)
end Words
abbrev yM0 : MethodName := ⟨"java/lang/String", "<init>", "([CIILjava/lang/Void;)V"⟩
abbrev yM1 : MethodName := ⟨"java/lang/String", "<init>", "([C)V"⟩
abbrev yM2 : MethodName := ⟨"java/lang/StringUTF16", "putChar", "([BII)V"⟩
abbrev yM3 : MethodName := ⟨"java/lang/StringUTF16", "newBytesLength", "(I)I"⟩
abbrev yM4 : MethodName := ⟨"java/lang/StringUTF16", "coderFromArrayLen", "([BI)B"⟩
abbrev yM5 : MethodName := ⟨"java/lang/StringUTF16", "getChar", "([BI)C"⟩
abbrev yM6 : MethodName := ⟨"java/lang/StringUTF16", "newBytesFor", "(I)[B"⟩
abbrev yM7 : MethodName := ⟨"java/lang/StringUTF16", "toBytes", "([CII)[B"⟩
abbrev yM8 : MethodName := ⟨"java/lang/StringUTF16", "compress", "([CI[BII)I"⟩
abbrev yM9 : MethodName := ⟨"java/lang/StringUTF16", "compress", "([CII)[B"⟩
abbrev yM10 : MethodName := ⟨"java/lang/String", "coder", "()B"⟩
abbrev yM11 : MethodName := ⟨"java/lang/String", "isLatin1", "()Z"⟩
abbrev yM12 : MethodName := ⟨"java/lang/String", "length", "()I"⟩
abbrev yM13 : MethodName := ⟨"jdk/internal/util/Preconditions", "checkIndex", "(IILjava/util/function/BiFunction;)I"⟩
abbrev yM14 : MethodName := ⟨"java/lang/String", "checkIndex", "(II)V"⟩
abbrev yM15 : MethodName := ⟨"java/lang/StringUTF16", "length", "([B)I"⟩
abbrev yM16 : MethodName := ⟨"java/lang/StringLatin1", "charAt", "([BI)C"⟩
abbrev yM17 : MethodName := ⟨"java/lang/StringUTF16", "checkIndex", "(I[B)V"⟩
abbrev yM18 : MethodName := ⟨"java/lang/StringUTF16", "charAt", "([BI)C"⟩
abbrev yM19 : MethodName := ⟨"java/lang/String", "charAt", "(I)C"⟩
abbrev yM20 : MethodName := ⟨"com/example/savepoint/savepoint/SqlDialectIsWordPinLaw", "m", "(CC)Z"⟩
abbrev yM21 : MethodName := ⟨"com/example/savepoint/savepoint/SqlDialect", "isWord", "(Ljava/lang/String;IILjava/lang/String;)Z"⟩
/-- the run comes from A to a state with P -/
def ownG (tb : Tables) (e : Env) (below : List Frame) (P : State → Prop) (A : State) : Prop := ∃ t, Steps tb e below A t ∧ P t
theorem ownBy {tb : Tables} {e : Env} {below : List Frame} {P : State → Prop} {A B : State} (st : ∀ t, Steps tb e below A t → Steps tb e below B t) (k : ownG tb e below P A) : ownG tb e below P B := by
  obtain ⟨t, h, q⟩ := k
  exact ⟨t, st t h, q⟩
theorem ownSt {tb : Tables} {e : Env} {below : List Frame} {P : State → Prop} {A B : State} (st : Steps tb e below B A) (k : ownG tb e below P A) : ownG tb e below P B := by
  obtain ⟨t, h, q⟩ := k
  exact ⟨t, st.trans h, q⟩
def ownE (s : State) (below : List Frame) (Q : Option Value → Heap → List Loc → Prop) (k n : Nat) (t : State) : Prop := t.status = .running ∧ ∃ v L, Ended t below (.returned v) ∧ Q v t.heap L ∧ FrameEnd s (.returned v) t L k n
def ownEH (s : State) (below : List Frame) (Q : Option Value → Heap → List Loc → Prop) (Z : State) (EL : List (String × Nat)) (h0 : Heap) (k n : Nat) (t : State) : Prop := t.status = .running ∧ ∃ v L, Ended t below (.returned v) ∧ Q v t.heap L ∧ CHr Z EL s.vm h0 t.vm t.heap ∧ ReturnedEndW s (.returned v) t L k n
theorem ownOut {tb : Tables} {e : Env} {below : List Frame} {P : Option Value → Heap → List Loc → Prop} {s A : State} {k n : Nat} (g : ownG tb e below (ownE s below P k n) A) :
    ∃ s₂ o, Steps tb e below A s₂ ∧ s₂.status = .running ∧ Ended s₂ below o ∧ ∃ v L, o = .returned v ∧ P v s₂.heap L ∧ FrameEnd s o s₂ L k n := by
  obtain ⟨t, h, r, v, L, e1, q, f⟩ := g
  exact ⟨t, _, h, r, e1, v, L, rfl, q, f⟩
theorem ownOutH {tb : Tables} {e : Env} {below : List Frame} {P : Option Value → Heap → List Loc → Prop} {s A Z : State} {EL : List (String × Nat)} {h0 : Heap} {k n : Nat} (hh : s.heap = h0) (g : ownG tb e below (ownEH s below P Z EL h0 k n) A) :
    ∃ s₂ o, Steps tb e below A s₂ ∧ s₂.status = .running ∧ Ended s₂ below o ∧ ∃ v L, o = .returned v ∧ P v s₂.heap L ∧ CHr Z EL s.vm s.heap s₂.vm s₂.heap ∧ ReturnedEndW s o s₂ L k n := by
  subst hh
  obtain ⟨t, h, r, v, L, e1, q, c, f⟩ := g
  exact ⟨t, _, h, r, e1, v, L, rfl, q, c, f⟩
theorem ownRet {p : Program} {l : Launch} {e : Env} {R : Room} {s : State} {m : MethodId} {args : Array Value} {below : List Frame} {meth : Method} {c : Code} {T A : State} {locs : List Loc} {cells slots k n : Nat} {P : Option Value → Heap → List Loc → Prop}
    (X : Stand p l e R s m args below meth c T locs cells slots) (hlk : meth.locks = false) {v : Option Value} (hv : meth.sig.returnType = none → v = none) (hQ : P v T.heap locs) (hk : cells ≤ k) (hn : slots ≤ n)
    (st : ∀ fs, (∀ (f : JFrame) (acts : List Action), f.method = m → f.locked = none → f.entered = [] → (doReturn e (T.setTop f) acts v).1 = T.setFrames fs) → Steps p.tables e below A (T.setFrames fs)) :
    ownG p.tables e below (ownE s below P k n) A := by
  obtain ⟨fs, hr, hrun, hended, hW, hsame⟩ := X.leave hv hlk
  exact ⟨_, st fs hr, hrun, v, locs, hended, hQ, ⟨_, rfl⟩, hW, hsame.mono hk hn⟩
theorem ownRetH {p : Program} {l : Launch} {e : Env} {R : Room} {s : State} {m : MethodId} {args : Array Value} {below : List Frame} {meth : Method} {c : Code} {T A Z : State} {EL : List (String × Nat)} {h0 : Heap} {locs : List Loc} {cells slots k n k1 : Nat} {vm1 : Vm} {P : Option Value → Heap → List Loc → Prop}
    (X : Stand p l e R (s.setVm vm1) m args below meth c T locs cells slots) (hS : s.Since vm1 k1) (hk1 : k1 ≤ T.heap.size) (hlk : meth.locks = false) {v : Option Value} (hv : meth.sig.returnType = none → v = none) (hQ : P v T.heap locs) (hC : CHr Z EL s.vm h0 T.vm T.heap) (hk : cells ≤ k) (hn : slots ≤ n)
    (st : ∀ fs, (∀ (f : JFrame) (acts : List Action), f.method = m → f.locked = none → f.entered = [] → (doReturn e (T.setTop f) acts v).1 = T.setFrames fs) → Steps p.tables e below A (T.setFrames fs)) :
    ownG p.tables e below (ownEH s below P Z EL h0 k n) A := by
  obtain ⟨fs, hr, hrun, hended, hR⟩ := X.leaveW hS hk1 hv hlk
  exact ⟨_, st fs hr, hrun, v, locs, hended, hQ, hC, hR.1, hR.2.1, hR.2.2.1, hR.2.2.2.mono hk hn⟩
theorem own_since {s : State} {n : Nat} : s.Since s.vm n := (State.WarmedH.refl s).since n
theorem own_cat {v : Value} (h : v.isRef = true) : v.category = 1 := by cases v <;> simp_all [Value.isRef, Value.category]
theorem own_narrow {t : FieldType} {v : Value} (ht : t.isReference = true) (h : v.isRef = true) : narrow t v = v := by
  rcases ref_cases h with rfl | ⟨a, rfl⟩ <;> cases t <;> simp_all [narrow, FieldType.isReference]
theorem own_fits {t : FieldType} {v : Value} (ht : t.isReference = true) (h : v.isRef = true) : fits t v = true := by
  rcases ref_cases h with rfl | ⟨a, rfl⟩ <;> cases t <;> simp_all [fits, FieldType.isReference]
theorem own_and255 (x : Int32) : ¬ nar .char ((x &&& (255 : Int32)).toUInt32.toUInt16.toUInt32.toInt32) < 0 ∧ ¬ (255 : Int32) < nar .char ((x &&& (255 : Int32)).toUInt32.toUInt16.toUInt32.toInt32) := by
  have t : ∀ k : Fin 256, ¬ nar .char ((Int32.ofNat k.val).toUInt32.toUInt16.toUInt32.toInt32) < 0 ∧ ¬ (255 : Int32) < nar .char ((Int32.ofNat k.val).toUInt32.toUInt16.toUInt32.toInt32) := by decide +kernel
  have h : (x &&& 255).toBitVec.toNat < 256 := by
    simp only [Int32.toBitVec_and, BitVec.toNat_and]
    exact Nat.lt_succ_of_le Nat.and_le_right
  have e : (x &&& 255) = Int32.ofNat (x &&& 255).toBitVec.toNat := by
    apply Int32.toBitVec_inj.mp
    show _ = BitVec.ofNat 32 _
    rw [BitVec.ofNat_toNat]; simp
  rw [e]
  exact t ⟨_, h⟩
theorem own_up (cs : List Int32) (h : ∀ c ∈ cs, ¬ c < 0 ∧ ¬ (255 : Int32) < c) : ∀ c ∈ cs, ¬ c < 0 ∧ ¬ (65535 : Int32) < c := fun c hc => ⟨(h c hc).1, fun q => (h c hc).2 (by rw [Int32.lt_iff_toInt_lt] at q ⊢; have e1 : (65535 : Int32).toInt = 65535 := rfl; have e2 : (255 : Int32).toInt = 255 := rfl; omega)⟩
theorem own_nz {args : Array Value} {s : State} {t : Jvm.Term} {g : Int32} (e : t.eval args s none [] s = some (.int g)) (h : (Jvm.Cond.not (Jvm.Cond.eq t (Jvm.Term.int (0 : Int32)))).value args s none s [] = some true) : ¬ (g = (0 : Int32)) := by
  intro q
  subst q
  simp [Jvm.Cond.value, Jvm.Term.eval, e] at h
theorem own_lcmp_self (x : Int64) : lcmpW x x = 0 := by rw [lcW]; exact (lc_eq x x).mpr rfl
theorem own_nar_byte (x : Int32) : nar .byte (x.toInt8.toInt32) = x.toInt8.toInt32 := by simp [nar]
theorem own_nar_char (x : Int32) : nar .char (x.toUInt32.toUInt16.toUInt32.toInt32) = x.toUInt32.toUInt16.toUInt32.toInt32 := by
  have q := c_i2c x
  have q2 := c_i2c (x.toUInt32.toUInt16.toUInt32.toInt32)
  exact Int32.toInt_inj.mp (by show ((x.toUInt32.toUInt16.toUInt32.toInt32).toUInt32.toUInt16.toUInt32.toInt32).toInt = _; omega)
theorem own_and255c (x : Int32) : ¬ ((255 : Int32) < (x &&& (255 : Int32)).toUInt32.toUInt16.toUInt32.toInt32) := by
  have h := (own_and255 x).2
  rwa [own_nar_char] at h
def own_b (p : Prop) [Decidable p] : Int32 := if p then 1 else 0
theorem own_bt0 {p : Prop} [Decidable p] (h : p) : ¬ (own_b p = (0 : Int32)) := by simp [own_b, h]
theorem own_bf0 {p : Prop} [Decidable p] (h : ¬ p) : own_b p = (0 : Int32) := by simp [own_b, h]
theorem own_bt1 {p : Prop} [Decidable p] (h : p) : own_b p = (1 : Int32) := by simp [own_b, h]
theorem own_bf1 {p : Prop} [Decidable p] (h : ¬ p) : ¬ (own_b p = (1 : Int32)) := by simp [own_b, h]
theorem own_eqv {s : State} {args : Array Value} {t u : Jvm.Term} {w : Addr} (eu : u.eval args s none [] s = some (.ref w)) (h : (Jvm.Cond.eq t u).value args s none s [] = some true) : t.eval args s none [] s = some (.ref w) := by
  obtain ⟨x, y, ex, ey, kx, -⟩ := cmp_v (Or.inl h)
  cases eu.symm.trans ey
  have hr : x.isRef = true := by cases x <;> simp_all [Kin, Value.isRef]
  have q := gotT (eq_R ex ey hr rfl) h
  rw [ex, q]
theorem own_len {s : State} {args : Array Value} {t : Jvm.Term} {a : Addr} {c : Cell} {ty : FieldType} {n : Int32} (ev : t.eval args s none [] s = some (.ref a)) (A : Arr s s.heap a c ty) (h : (Jvm.Cond.eq (Jvm.Term.length t) (Jvm.Term.int n)).value args s none s [] = some true) : c.slots.size < 2 ^ 31 ∧ c.slots.size.toInt32 = n := by
  have q := eqv_i (y := n) rfl h
  have ha := A.fin (Vm.Alike.refl _)
  simp only [Jvm.Term.eval, ev, ha, Option.bind_eq_bind, Option.bind_some] at q
  split at q
  · rename_i hl
    exact ⟨hl, by simpa using q⟩
  · simp at q
theorem own_elem {s : State} {args : Array Value} {t : Jvm.Term} {a : Addr} {c : Cell} {ty : FieldType} {j : Int32} {v : Value} (ev : t.eval args s none [] s = some (.ref a)) (A : Arr s s.heap a c ty) (h : (Jvm.Term.elem t (Jvm.Term.int j)).eval args s none [] s = some v) : c.slots[j.toNatClampNeg]? = some v :=
  (elem_in h ev rfl A.1).2
theorem own_nar_rng {c : Int32} (h0 : ¬ c < 0) (h1 : ¬ (255 : Int32) < c) : nar .char c = c := by
  have e0 : (0 : Int32).toInt = 0 := rfl
  have e1 : (255 : Int32).toInt = 255 := rfl
  simp only [Int32.lt_iff_toInt_lt] at h0 h1
  have q := c_i2c c
  exact Int32.toInt_inj.mp (by show (c.toUInt32.toUInt16.toUInt32.toInt32).toInt = _; omega)
theorem own_idx {p : Int32} {n : Nat} (h0 : ¬ p < 0) (h : p < Int32.ofNat n) (hn : n ≤ 4000) : p.toNatClampNeg < n := by
  have e0 : (0 : Int32).toInt = 0 := rfl
  simp only [Int32.lt_iff_toInt_lt] at h0 h
  rw [Int32.toInt_ofNat_of_lt (by omega)] at h
  show p.toInt.toNat < n
  omega
theorem own_set_rng {cs : List Int32} {i : Nat} {x : Int32} (h : ∀ c ∈ cs, ¬ c < 0 ∧ ¬ (255 : Int32) < c) (hx : ¬ x < 0 ∧ ¬ (255 : Int32) < x) : ∀ c ∈ cs.set i x, ¬ c < 0 ∧ ¬ (255 : Int32) < c := fun c hc =>
  (List.mem_or_eq_of_mem_set hc).elim (h c) (fun e => e ▸ hx)
theorem own_rem_nn (x y : Int32) (hy : 0 < y.toInt) : ¬ ((x &&& (2147483647 : Int32)) % y < 0) := by
  have h0 : 0 ≤ (x &&& (2147483647 : Int32)).toInt := (c_and x 2147483647 (by decide)).1
  have q := (c_iremV (x &&& 2147483647) y).1 h0 hy
  have e0 : (0 : Int32).toInt = 0 := rfl
  simp only [Int32.lt_iff_toInt_lt]
  omega
theorem own_and255p (x : Int32) : ¬ (x &&& (255 : Int32)).toUInt32.toUInt16.toUInt32.toInt32 < 0 ∧ ¬ ((255 : Int32) < (x &&& (255 : Int32)).toUInt32.toUInt16.toUInt32.toInt32) := by
  have h := own_and255 x
  rwa [own_nar_char] at h
theorem own_ty_ne {Z : State} {h : Heap} {a b : Addr} {k1 k2 : ClassId} {t1 t2 : FieldType} {z1 z2 : Int32} {v1 v2 : List Value} {d1 d2 : Value} (A : Arv Z h a k1 t1 z1 v1 d1) (B : Arv Z h b k2 t2 z2 v2 d2) (q : t1 ≠ t2) : a ≠ b := fun e => by
  subst e
  obtain ⟨c1, A1, -⟩ := A
  obtain ⟨c2, B1, -⟩ := B
  cases A1.1.symm.trans B1.1
  obtain ⟨-, k, hk, comp, hkind⟩ := A1.2.1
  obtain ⟨-, k', hk', comp', hkind'⟩ := B1.2.1
  cases hk.symm.trans hk'
  rw [hkind] at hkind'
  injection hkind' with _ e2
  exact q e2
theorem own_hide {p : Program} {l : Launch} {e : Env} {R : Room} {s : State} {m : MethodId} {args : Array Value} {below : List Frame} {meth : Method} {c : Code} {T : State} {locs : List Loc} {cells slots cells' slots' n0 : Nat} (X : Stand p l e R s m args below meth c T locs cells slots) (N : Fr n0 locs) (hc : cells ≤ cells') (hs : slots ≤ slots') : ∃ L, Stand p l e R s m args below meth c T L cells' slots' ∧ Fr n0 L := ⟨_, X.more hc hs, N⟩
theorem own_getF {p : Program} {l : Launch} {e : Env} {R : Room} {s : State} {m : MethodId} {args : Array Value} {below : List Frame} {meth : Method} {c : Code} {T Z : State} {locs : List Loc} {cells slots : Nat} {a0 : Array Value} {h : Heap} {P : State → Prop} (X : Stand p l e R s m args below meth c T locs cells slots) (hx : p.tables.exec = Jvm.exec) (hZ : Z.Warmed39 s.vm) {own R0 O n d host : String} {index : Nat} (hown : s.vm.findClass own = some m.cls) (w : (Jvm.Cond.fieldLink own index R0 n d).before a0 Z = true ∨ (Jvm.Cond.fieldLinkNest own index R0 n d host).before a0 Z = true) (via : Via Z R0 O n d)
    (eT : T.heap = h) {a : Addr} {v : Value} (F : Fld Z h a O n d v) {pc : Nat} {Ls : Array Slot} {rest : List Value} (hd : decode c.code pc = .ok (.getfield index, 3)) (k : ∀ T', Stand p l e R s m args below meth c T' locs cells slots → T'.heap = h → ownG p.tables e below P (T'.setTop (mkF m (pc + 3) Ls (v :: rest)))) : ownG p.tables e below P (T.setTop (mkF m pc Ls (.ref a :: rest))) := by
  obtain ⟨T', X', e', st⟩ := getF X hx hZ hown w via eT F (g := mkF m pc Ls (.ref a :: rest)) rfl rfl hd
  exact ownBy st (k T' X' e')
theorem own_getS {p : Program} {l : Launch} {e : Env} {R : Room} {s : State} {m : MethodId} {args : Array Value} {below : List Frame} {meth : Method} {c : Code} {T Z : State} {locs : List Loc} {cells slots : Nat} {a0 : Array Value} {h : Heap} {P : State → Prop} (X : Stand p l e R s m args below meth c T locs cells slots) (hx : p.tables.exec = Jvm.exec) (hZ : Z.Warmed39 s.vm) {own R0 O n d host : String} {index : Nat} (hown : s.vm.findClass own = some m.cls) (w : (Jvm.Cond.fieldLink own index R0 n d).before a0 Z = true ∨ (Jvm.Cond.fieldLinkNest own index R0 n d host).before a0 Z = true) (via : Via Z R0 O n d)
    (eT : T.heap = h) {v : Value} (F : Sta Z h O n d v) {pc : Nat} {Ls : Array Slot} {rest : List Value} (hd : decode c.code pc = .ok (.getstatic index, 3)) (k : ∀ T', Stand p l e R s m args below meth c T' locs cells slots → T'.heap = h → ownG p.tables e below P (T'.setTop (mkF m (pc + 3) Ls (v :: rest)))) : ownG p.tables e below P (T.setTop (mkF m pc Ls rest)) := by
  obtain ⟨T', X', e', st⟩ := getS2 X hx hZ hown w via eT F (g := mkF m pc Ls rest) rfl hd
  exact ownBy st (k T' X' e')
theorem own_safe_blank {Z : State} {EL : List (String × Nat)} {vm : Vm} {h : Heap} {x : Addr} (hal : Z.vm.Alike vm) (E : Exa Z h x "java/lang/String") (F : Fld Z h x "java/lang/String" "value" "[B" .null) : Safe Z EL vm h x := fun B => by
  obtain ⟨p, -, u, a, -, q, -, G, rfl | rfl⟩ := B
  · obtain ⟨cS, ⟨⟨s1, s2, s3, ⟨cv, kv, iv, s4, s4'⟩, -, s6, -, s8, -⟩, -⟩, -⟩ := G
    obtain ⟨cell, cf, kk, i, f, h1, h2, h3, -, -, -, h7⟩ := F
    cases (show h[q.sa]? = some q.sC from s1).symm.trans h1
    obtain ⟨kv', z4⟩ := ff_back (U := Wst Z vm h) hal s4
    cases h2.symm.trans z4
    rw [s8] at h7
    cases h7
  · obtain ⟨cell, k, e1, e2, e3, -, -⟩ := E
    cases (show h[q.sd]? = some q.SA from G.hd).symm.trans e1
    obtain ⟨cS, -, -, f, -⟩ := G
    have f' : vm.findClass "[B" = some q.SA.cls := f
    rw [hal.findClass] at f'
    obtain ⟨k1, q1, q2⟩ := Vm.findClass_spec f'
    obtain ⟨k2, q3, q4⟩ := Vm.findClass_spec e2
    cases q1.symm.trans q3
    exact absurd (q2.symm.trans q4) (by decide)
theorem own_wS {Z : State} {a0 : Array Value} (hw : ∀ d ∈ tables_1, d.before a0 Z = true) : ∀ a ∈ Bundle.stringAtoms, a.before a0 Z = true := fun d hd => hw d ((by decide +kernel : ∀ d ∈ Bundle.stringAtoms, d ∈ tables_1) d hd)
theorem oTo {tb : Tables} {e : Env} {below : List Frame} {P : State → Prop} {B : State} (T : State) (F : JFrame) (h : ∀ t, Steps tb e below (T.setTop F) t → Steps tb e below B t) (g : ownG tb e below P (T.setTop F)) : ownG tb e below P B := ownBy h g
abbrev oA (p : Program) (e : Env) (below : List Frame) (P : State → Prop) (T : State) (F : JFrame) : Prop := ownG p.tables e below P (T.setTop F)
abbrev vI (x : Int32) : Slot := .val (.int x)
abbrev vR (x : Addr) : Slot := .val (.ref x)
abbrev iV (x : Int32) : Value := .int x
theorem oLe {a b : Nat} (h : Nat.ble a b = true) : a ≤ b := Nat.le_of_ble_eq_true h
theorem oHd {p : Program} {l : Launch} {e : Env} {R : Room} {s : State} {m : MethodId} {args : Array Value} {below : List Frame} {meth : Method} {c : Code} {T : State} {locs : List Loc} {cells slots n0 : Nat} (cells' slots' : Nat) (X : Stand p l e R s m args below meth c T locs cells slots) (N : Fr n0 locs) (hc : Nat.ble cells cells' = true) (hs : Nat.ble slots slots' = true) : ∃ L, Stand p l e R s m args below meth c T L cells' slots' ∧ Fr n0 L := own_hide X N (oLe hc) (oLe hs)
def ownEL : List (String × Nat) := [("java/lang/String", 7)]
theorem own_EW {Z : State} {a0 : Array Value} (hw : ∀ d ∈ tables_1, d.before a0 Z = true) : EW Z a0 ownEL := (EW.cons (Wd72 hw) (by decide) EW.nil)
theorem pn_1 : plainName "java/lang/String" = true := by first | (simp [plainName, overriddenIn]; done) | decide +kernel
theorem d2_0 : decode jdk_42_method_149_code 0 = .ok (.aload_n 0, 1) := by decide +kernel
theorem d2_1 : decode jdk_42_method_149_code 1 = .ok (.invokespecial 1, 3) := by decide +kernel
theorem d2_4 : decode jdk_42_method_149_code 4 = .ok (.iload_n 3, 1) := by decide +kernel
theorem d2_5 : decode jdk_42_method_149_code 5 = .ok (.ifCond .ne 22, 3) := by decide +kernel
theorem d2_8 : decode jdk_42_method_149_code 8 = .ok (.aload_n 0, 1) := by decide +kernel
theorem d2_9 : decode jdk_42_method_149_code 9 = .ok (.ldc 7, 2) := by decide +kernel
theorem d2_11 : decode jdk_42_method_149_code 11 = .ok (.getfield 9, 3) := by decide +kernel
theorem d2_14 : decode jdk_42_method_149_code 14 = .ok (.putfield 9, 3) := by decide +kernel
theorem d2_17 : decode jdk_42_method_149_code 17 = .ok (.aload_n 0, 1) := by decide +kernel
theorem d2_18 : decode jdk_42_method_149_code 18 = .ok (.ldc 7, 2) := by decide +kernel
theorem d2_20 : decode jdk_42_method_149_code 20 = .ok (.getfield 15, 3) := by decide +kernel
theorem d2_23 : decode jdk_42_method_149_code 23 = .ok (.putfield 15, 3) := by decide +kernel
theorem d2_26 : decode jdk_42_method_149_code 26 = .ok (.return_, 1) := by decide +kernel
theorem d1_0 : decode jdk_42_method_3_code 0 = .ok (.aload_n 0, 1) := by decide +kernel
theorem d1_1 : decode jdk_42_method_3_code 1 = .ok (.aload_n 1, 1) := by decide +kernel
theorem d1_2 : decode jdk_42_method_3_code 2 = .ok (.iconst 0, 1) := by decide +kernel
theorem d1_3 : decode jdk_42_method_3_code 3 = .ok (.aload_n 1, 1) := by decide +kernel
theorem d1_4 : decode jdk_42_method_3_code 4 = .ok (.arraylength, 1) := by decide +kernel
theorem d1_5 : decode jdk_42_method_3_code 5 = .ok (.aconst_null, 1) := by decide +kernel
theorem d1_6 : decode jdk_42_method_3_code 6 = .ok (.invokespecial 27, 3) := by decide +kernel
theorem pd_2 : parseMethodDescriptor "([CIILjava/lang/Void;)V" = some ⟨[(.array .char), .int, .int, (.object "java/lang/Void")], none⟩ := by decide +kernel
theorem d1_9 : decode jdk_42_method_3_code 9 = .ok (.return_, 1) := by decide +kernel
theorem own_irr (x : Int32) : ¬ x < x := by simp [Int32.lt_iff_toInt_lt]
abbrev oL (c : Int32) : Int32 := c.toInt8.toInt32
abbrev oW (c : Int32) : Int32 := (c >>> ((0 : Int32) &&& 31)).toInt8.toInt32
abbrev oH (c : Int32) : Int32 := (c >>> ((8 : Int32) &&& 31)).toInt8.toInt32
theorem own_n16 (x : Int32) : ¬ nar .char x < 0 ∧ ¬ (65535 : Int32) < nar .char x := by
  have q := c_i2c x
  have e0 : (0 : Int32).toInt = 0 := rfl
  have e1 : (65535 : Int32).toInt = 65535 := rfl
  have e : nar .char x = x.toUInt32.toUInt16.toUInt32.toInt32 := rfl
  rw [e]
  simp only [Int32.lt_iff_toInt_lt]
  omega
theorem own_c16 {c : Int32} (h : ¬ c < 0 ∧ ¬ (65535 : Int32) < c) : nar .char c = c := by
  have q := c_i2c c
  have e0 : (0 : Int32).toInt = 0 := rfl
  have e1 : (65535 : Int32).toInt = 65535 := rfl
  simp only [Int32.lt_iff_toInt_lt] at h
  exact Int32.toInt_inj.mp (by show (c.toUInt32.toUInt16.toUInt32.toInt32).toInt = _; omega)
theorem own_gc {c : Int32} (h : ¬ c < 0 ∧ ¬ (65535 : Int32) < c) : nar .char (((((oW c) &&& (255 : Int32)) <<< ((0 : Int32) &&& 31)) ||| (((oH c) &&& (255 : Int32)) <<< ((8 : Int32) &&& 31))).toUInt32.toUInt16.toUInt32.toInt32) = c := by
  have e : oW c = oL c := by unfold oW oL; rw [StrChars.shr0]
  rw [own_nar_char, e]
  exact StrChars.pair_says h.1 h.2
theorem own_lo_inj {c : Int32} (h : ¬ c < 0 ∧ ¬ (65535 : Int32) < c) (h2 : ¬ (255 : Int32) < c) : (c.toInt8.toInt32 &&& (255 : Int32)).toUInt32.toUInt16.toUInt32.toInt32 = c := StrChars.chr8_lo8 h.1 h2
theorem own_six31 (f : Int32) : (f &&& (2147483647 : Int32)) % (6 : Int32) = (0 : Int32) ∨ (f &&& (2147483647 : Int32)) % (6 : Int32) = (1 : Int32) ∨ (f &&& (2147483647 : Int32)) % (6 : Int32) = (2 : Int32) ∨ (f &&& (2147483647 : Int32)) % (6 : Int32) = (3 : Int32) ∨ (f &&& (2147483647 : Int32)) % (6 : Int32) = (4 : Int32) ∨ (f &&& (2147483647 : Int32)) % (6 : Int32) = (5 : Int32) := by
  have h0 := c_and f 2147483647 (by decide)
  have q := (c_iremV (f &&& 2147483647) 6).1 h0.1 (by decide)
  have e6 : (6 : Int32).toInt = 6 := rfl
  have e0 : (0 : Int32).toInt = 0 := rfl
  have e1 : (1 : Int32).toInt = 1 := rfl
  have e2 : (2 : Int32).toInt = 2 := rfl
  have e3 : (3 : Int32).toInt = 3 := rfl
  have e4 : (4 : Int32).toInt = 4 := rfl
  have e5 : (5 : Int32).toInt = 5 := rfl
  simp only [← Int32.toInt_inj, e0, e1, e2, e3, e4, e5]
  omega
theorem pn_3 : plainName "java/lang/StringUTF16" = true := by first | (simp [plainName, overriddenIn]; done) | decide +kernel
theorem d19_0 : decode jdk_52_method_4_code 0 = .ok (.getstatic 44, 3) := by decide +kernel
theorem d19_3 : decode jdk_52_method_4_code 3 = .ok (.ifCond .ne 25, 3) := by decide +kernel
theorem d19_28 : decode jdk_52_method_4_code 28 = .ok (.iload_n 1, 1) := by decide +kernel
theorem d19_29 : decode jdk_52_method_4_code 29 = .ok (.iconst 1, 1) := by decide +kernel
theorem d19_30 : decode jdk_52_method_4_code 30 = .ok (.ishl, 1) := by decide +kernel
theorem d19_31 : decode jdk_52_method_4_code 31 = .ok (.istore_n 1, 1) := by decide +kernel
theorem d19_32 : decode jdk_52_method_4_code 32 = .ok (.aload_n 0, 1) := by decide +kernel
theorem d19_33 : decode jdk_52_method_4_code 33 = .ok (.iload_n 1, 1) := by decide +kernel
theorem d19_34 : decode jdk_52_method_4_code 34 = .ok (.iinc 1 1, 3) := by decide +kernel
theorem d19_37 : decode jdk_52_method_4_code 37 = .ok (.iload_n 2, 1) := by decide +kernel
theorem d19_38 : decode jdk_52_method_4_code 38 = .ok (.getstatic 59, 3) := by decide +kernel
theorem d19_41 : decode jdk_52_method_4_code 41 = .ok (.ishr, 1) := by decide +kernel
theorem d19_42 : decode jdk_52_method_4_code 42 = .ok (.i2b, 1) := by decide +kernel
theorem d19_43 : decode jdk_52_method_4_code 43 = .ok (.bastore, 1) := by decide +kernel
theorem d19_44 : decode jdk_52_method_4_code 44 = .ok (.aload_n 0, 1) := by decide +kernel
theorem d19_45 : decode jdk_52_method_4_code 45 = .ok (.iload_n 1, 1) := by decide +kernel
theorem d19_46 : decode jdk_52_method_4_code 46 = .ok (.iload_n 2, 1) := by decide +kernel
theorem d19_47 : decode jdk_52_method_4_code 47 = .ok (.getstatic 63, 3) := by decide +kernel
theorem d19_50 : decode jdk_52_method_4_code 50 = .ok (.ishr, 1) := by decide +kernel
theorem d19_51 : decode jdk_52_method_4_code 51 = .ok (.i2b, 1) := by decide +kernel
theorem d19_52 : decode jdk_52_method_4_code 52 = .ok (.bastore, 1) := by decide +kernel
theorem d19_53 : decode jdk_52_method_4_code 53 = .ok (.return_, 1) := by decide +kernel
theorem d18_0 : decode jdk_52_method_3_code 0 = .ok (.iload_n 0, 1) := by decide +kernel
theorem d18_1 : decode jdk_52_method_3_code 1 = .ok (.ifCond .ge 11, 3) := by decide +kernel
theorem d18_12 : decode jdk_52_method_3_code 12 = .ok (.iload_n 0, 1) := by decide +kernel
theorem d18_13 : decode jdk_52_method_3_code 13 = .ok (.ldc 20, 2) := by decide +kernel
theorem d18_15 : decode jdk_52_method_3_code 15 = .ok (.if_icmp .lt 40, 3) := by decide +kernel
theorem d18_55 : decode jdk_52_method_3_code 55 = .ok (.iload_n 0, 1) := by decide +kernel
theorem d18_56 : decode jdk_52_method_3_code 56 = .ok (.iconst 1, 1) := by decide +kernel
theorem d18_57 : decode jdk_52_method_3_code 57 = .ok (.ishl, 1) := by decide +kernel
theorem d18_58 : decode jdk_52_method_3_code 58 = .ok (.ireturn, 1) := by decide +kernel
theorem d6_0 : decode jdk_52_method_15_code 0 = .ok (.iload_n 1, 1) := by decide +kernel
theorem d6_1 : decode jdk_52_method_15_code 1 = .ok (.aload_n 0, 1) := by decide +kernel
theorem d6_2 : decode jdk_52_method_15_code 2 = .ok (.arraylength, 1) := by decide +kernel
theorem d6_3 : decode jdk_52_method_15_code 3 = .ok (.isub, 1) := by decide +kernel
theorem d6_4 : decode jdk_52_method_15_code 4 = .ok (.bipush 31, 2) := by decide +kernel
theorem d6_6 : decode jdk_52_method_15_code 6 = .ok (.iushr, 1) := by decide +kernel
theorem d6_7 : decode jdk_52_method_15_code 7 = .ok (.i2b, 1) := by decide +kernel
theorem d6_8 : decode jdk_52_method_15_code 8 = .ok (.ireturn, 1) := by decide +kernel
theorem d20_0 : decode jdk_52_method_5_code 0 = .ok (.getstatic 44, 3) := by decide +kernel
theorem d20_3 : decode jdk_52_method_5_code 3 = .ok (.ifCond .ne 25, 3) := by decide +kernel
theorem d20_28 : decode jdk_52_method_5_code 28 = .ok (.iload_n 1, 1) := by decide +kernel
theorem d20_29 : decode jdk_52_method_5_code 29 = .ok (.iconst 1, 1) := by decide +kernel
theorem d20_30 : decode jdk_52_method_5_code 30 = .ok (.ishl, 1) := by decide +kernel
theorem d20_31 : decode jdk_52_method_5_code 31 = .ok (.istore_n 1, 1) := by decide +kernel
theorem d20_32 : decode jdk_52_method_5_code 32 = .ok (.aload_n 0, 1) := by decide +kernel
theorem d20_33 : decode jdk_52_method_5_code 33 = .ok (.iload_n 1, 1) := by decide +kernel
theorem d20_34 : decode jdk_52_method_5_code 34 = .ok (.iinc 1 1, 3) := by decide +kernel
theorem d20_37 : decode jdk_52_method_5_code 37 = .ok (.baload, 1) := by decide +kernel
theorem d20_38 : decode jdk_52_method_5_code 38 = .ok (.sipush 255, 3) := by decide +kernel
theorem d20_41 : decode jdk_52_method_5_code 41 = .ok (.iand, 1) := by decide +kernel
theorem d20_42 : decode jdk_52_method_5_code 42 = .ok (.getstatic 59, 3) := by decide +kernel
theorem d20_45 : decode jdk_52_method_5_code 45 = .ok (.ishl, 1) := by decide +kernel
theorem d20_46 : decode jdk_52_method_5_code 46 = .ok (.aload_n 0, 1) := by decide +kernel
theorem d20_47 : decode jdk_52_method_5_code 47 = .ok (.iload_n 1, 1) := by decide +kernel
theorem d20_48 : decode jdk_52_method_5_code 48 = .ok (.baload, 1) := by decide +kernel
theorem d20_49 : decode jdk_52_method_5_code 49 = .ok (.sipush 255, 3) := by decide +kernel
theorem d20_52 : decode jdk_52_method_5_code 52 = .ok (.iand, 1) := by decide +kernel
theorem d20_53 : decode jdk_52_method_5_code 53 = .ok (.getstatic 63, 3) := by decide +kernel
theorem d20_56 : decode jdk_52_method_5_code 56 = .ok (.ishl, 1) := by decide +kernel
theorem d20_57 : decode jdk_52_method_5_code 57 = .ok (.ior, 1) := by decide +kernel
theorem d20_58 : decode jdk_52_method_5_code 58 = .ok (.i2c, 1) := by decide +kernel
theorem d20_59 : decode jdk_52_method_5_code 59 = .ok (.ireturn, 1) := by decide +kernel
theorem d17_0 : decode jdk_52_method_2_code 0 = .ok (.iload_n 0, 1) := by decide +kernel
theorem d17_1 : decode jdk_52_method_2_code 1 = .ok (.invokestatic 11, 3) := by decide +kernel
theorem pd_4 : parseMethodDescriptor "(I)I" = some ⟨[.int], some .int⟩ := by decide +kernel
theorem d17_4 : decode jdk_52_method_2_code 4 = .ok (.newarray .byte, 2) := by decide +kernel
theorem d17_6 : decode jdk_52_method_2_code 6 = .ok (.areturn, 1) := by decide +kernel
theorem d16_0 : decode jdk_52_method_14_code 0 = .ok (.iload_n 2, 1) := by decide +kernel
theorem d16_1 : decode jdk_52_method_14_code 1 = .ok (.invokestatic 107, 3) := by decide +kernel
theorem pd_5 : parseMethodDescriptor "(I)[B" = some ⟨[.int], some (.array .byte)⟩ := by decide +kernel
theorem d16_4 : decode jdk_52_method_14_code 4 = .ok (.astore_n 3, 1) := by decide +kernel
theorem d16_5 : decode jdk_52_method_14_code 5 = .ok (.iconst 0, 1) := by decide +kernel
theorem d16_6 : decode jdk_52_method_14_code 6 = .ok (.istore 4, 2) := by decide +kernel
theorem d16_8 : decode jdk_52_method_14_code 8 = .ok (.iload 4, 2) := by decide +kernel
theorem d16_10 : decode jdk_52_method_14_code 10 = .ok (.iload_n 2, 1) := by decide +kernel
theorem d16_11 : decode jdk_52_method_14_code 11 = .ok (.if_icmp .ge 21, 3) := by decide +kernel
theorem d16_14 : decode jdk_52_method_14_code 14 = .ok (.aload_n 3, 1) := by decide +kernel
theorem d16_15 : decode jdk_52_method_14_code 15 = .ok (.iload 4, 2) := by decide +kernel
theorem d16_17 : decode jdk_52_method_14_code 17 = .ok (.aload_n 0, 1) := by decide +kernel
theorem d16_18 : decode jdk_52_method_14_code 18 = .ok (.iload_n 1, 1) := by decide +kernel
theorem d16_19 : decode jdk_52_method_14_code 19 = .ok (.caload, 1) := by decide +kernel
theorem d16_20 : decode jdk_52_method_14_code 20 = .ok (.invokestatic 111, 3) := by decide +kernel
theorem pd_6 : parseMethodDescriptor "([BII)V" = some ⟨[(.array .byte), .int, .int], none⟩ := by decide +kernel
theorem d16_23 : decode jdk_52_method_14_code 23 = .ok (.iinc 1 1, 3) := by decide +kernel
theorem d16_26 : decode jdk_52_method_14_code 26 = .ok (.iinc 4 1, 3) := by decide +kernel
theorem d16_29 : decode jdk_52_method_14_code 29 = .ok (.goto (-21), 3) := by decide +kernel
theorem d16_32 : decode jdk_52_method_14_code 32 = .ok (.aload_n 3, 1) := by decide +kernel
theorem d16_33 : decode jdk_52_method_14_code 33 = .ok (.areturn, 1) := by decide +kernel
theorem d5_0 : decode jdk_52_method_21_code 0 = .ok (.iconst 0, 1) := by decide +kernel
theorem d5_1 : decode jdk_52_method_21_code 1 = .ok (.istore 5, 2) := by decide +kernel
theorem d5_3 : decode jdk_52_method_21_code 3 = .ok (.iload 5, 2) := by decide +kernel
theorem d5_5 : decode jdk_52_method_21_code 5 = .ok (.iload 4, 2) := by decide +kernel
theorem d5_7 : decode jdk_52_method_21_code 7 = .ok (.if_icmp .ge 37, 3) := by decide +kernel
theorem d5_10 : decode jdk_52_method_21_code 10 = .ok (.aload_n 0, 1) := by decide +kernel
theorem d5_11 : decode jdk_52_method_21_code 11 = .ok (.iload_n 1, 1) := by decide +kernel
theorem d5_12 : decode jdk_52_method_21_code 12 = .ok (.caload, 1) := by decide +kernel
theorem d5_13 : decode jdk_52_method_21_code 13 = .ok (.istore 6, 2) := by decide +kernel
theorem d5_15 : decode jdk_52_method_21_code 15 = .ok (.iload 6, 2) := by decide +kernel
theorem d5_17 : decode jdk_52_method_21_code 17 = .ok (.sipush 255, 3) := by decide +kernel
theorem d5_20 : decode jdk_52_method_21_code 20 = .ok (.if_icmp .le 6, 3) := by decide +kernel
theorem d5_23 : decode jdk_52_method_21_code 23 = .ok (.iload 5, 2) := by decide +kernel
theorem d5_25 : decode jdk_52_method_21_code 25 = .ok (.ireturn, 1) := by decide +kernel
theorem d5_26 : decode jdk_52_method_21_code 26 = .ok (.aload_n 2, 1) := by decide +kernel
theorem d5_27 : decode jdk_52_method_21_code 27 = .ok (.iload_n 3, 1) := by decide +kernel
theorem d5_28 : decode jdk_52_method_21_code 28 = .ok (.iload 6, 2) := by decide +kernel
theorem d5_30 : decode jdk_52_method_21_code 30 = .ok (.i2b, 1) := by decide +kernel
theorem d5_31 : decode jdk_52_method_21_code 31 = .ok (.bastore, 1) := by decide +kernel
theorem d5_32 : decode jdk_52_method_21_code 32 = .ok (.iinc 1 1, 3) := by decide +kernel
theorem d5_35 : decode jdk_52_method_21_code 35 = .ok (.iinc 3 1, 3) := by decide +kernel
theorem d5_38 : decode jdk_52_method_21_code 38 = .ok (.iinc 5 1, 3) := by decide +kernel
theorem d5_41 : decode jdk_52_method_21_code 41 = .ok (.goto (-38), 3) := by decide +kernel
theorem d5_44 : decode jdk_52_method_21_code 44 = .ok (.iload 4, 2) := by decide +kernel
theorem d5_46 : decode jdk_52_method_21_code 46 = .ok (.ireturn, 1) := by decide +kernel
theorem d4_0 : decode jdk_52_method_16_code 0 = .ok (.iload_n 2, 1) := by decide +kernel
theorem d4_1 : decode jdk_52_method_16_code 1 = .ok (.newarray .byte, 2) := by decide +kernel
theorem d4_3 : decode jdk_52_method_16_code 3 = .ok (.astore_n 3, 1) := by decide +kernel
theorem d4_4 : decode jdk_52_method_16_code 4 = .ok (.aload_n 0, 1) := by decide +kernel
theorem d4_5 : decode jdk_52_method_16_code 5 = .ok (.iload_n 1, 1) := by decide +kernel
theorem d4_6 : decode jdk_52_method_16_code 6 = .ok (.aload_n 3, 1) := by decide +kernel
theorem d4_7 : decode jdk_52_method_16_code 7 = .ok (.iconst 0, 1) := by decide +kernel
theorem d4_8 : decode jdk_52_method_16_code 8 = .ok (.iload_n 2, 1) := by decide +kernel
theorem d4_9 : decode jdk_52_method_16_code 9 = .ok (.invokestatic 115, 3) := by decide +kernel
theorem pd_7 : parseMethodDescriptor "([CI[BII)I" = some ⟨[(.array .char), .int, (.array .byte), .int, .int], some .int⟩ := by decide +kernel
theorem d4_12 : decode jdk_52_method_16_code 12 = .ok (.istore 4, 2) := by decide +kernel
theorem d4_14 : decode jdk_52_method_16_code 14 = .ok (.iload 4, 2) := by decide +kernel
theorem d4_16 : decode jdk_52_method_16_code 16 = .ok (.iload_n 2, 1) := by decide +kernel
theorem d4_17 : decode jdk_52_method_16_code 17 = .ok (.if_icmp .eq 40, 3) := by decide +kernel
theorem d4_57 : decode jdk_52_method_16_code 57 = .ok (.aload_n 3, 1) := by decide +kernel
theorem d4_58 : decode jdk_52_method_16_code 58 = .ok (.areturn, 1) := by decide +kernel
theorem d4_20 : decode jdk_52_method_16_code 20 = .ok (.aload_n 0, 1) := by decide +kernel
theorem d4_21 : decode jdk_52_method_16_code 21 = .ok (.iload_n 1, 1) := by decide +kernel
theorem d4_22 : decode jdk_52_method_16_code 22 = .ok (.iload_n 2, 1) := by decide +kernel
theorem d4_23 : decode jdk_52_method_16_code 23 = .ok (.invokestatic 119, 3) := by decide +kernel
theorem pd_8 : parseMethodDescriptor "([CII)[B" = some ⟨[(.array .char), .int, .int], some (.array .byte)⟩ := by decide +kernel
theorem d4_26 : decode jdk_52_method_16_code 26 = .ok (.astore 5, 2) := by decide +kernel
theorem d4_28 : decode jdk_52_method_16_code 28 = .ok (.aload 5, 2) := by decide +kernel
theorem d4_30 : decode jdk_52_method_16_code 30 = .ok (.iload 4, 2) := by decide +kernel
theorem d4_32 : decode jdk_52_method_16_code 32 = .ok (.invokestatic 71, 3) := by decide +kernel
theorem pd_9 : parseMethodDescriptor "([BI)C" = some ⟨[(.array .byte), .int], some .char⟩ := by decide +kernel
theorem d4_35 : decode jdk_52_method_16_code 35 = .ok (.sipush 255, 3) := by decide +kernel
theorem d4_38 : decode jdk_52_method_16_code 38 = .ok (.if_icmp .gt 16, 3) := by decide +kernel
theorem d4_54 : decode jdk_52_method_16_code 54 = .ok (.aload 5, 2) := by decide +kernel
theorem d4_56 : decode jdk_52_method_16_code 56 = .ok (.areturn, 1) := by decide +kernel
theorem d2_27 : decode jdk_42_method_149_code 27 = .ok (.getstatic 38, 3) := by decide +kernel
theorem d2_30 : decode jdk_42_method_149_code 30 = .ok (.ifCond .eq 28, 3) := by decide +kernel
theorem d2_33 : decode jdk_42_method_149_code 33 = .ok (.aload_n 1, 1) := by decide +kernel
theorem d2_34 : decode jdk_42_method_149_code 34 = .ok (.iload_n 2, 1) := by decide +kernel
theorem d2_35 : decode jdk_42_method_149_code 35 = .ok (.iload_n 3, 1) := by decide +kernel
theorem d2_36 : decode jdk_42_method_149_code 36 = .ok (.invokestatic 177, 3) := by decide +kernel
theorem d2_39 : decode jdk_42_method_149_code 39 = .ok (.astore 5, 2) := by decide +kernel
theorem d2_41 : decode jdk_42_method_149_code 41 = .ok (.aload_n 0, 1) := by decide +kernel
theorem d2_42 : decode jdk_42_method_149_code 42 = .ok (.aload 5, 2) := by decide +kernel
theorem d2_44 : decode jdk_42_method_149_code 44 = .ok (.iload_n 3, 1) := by decide +kernel
theorem d2_45 : decode jdk_42_method_149_code 45 = .ok (.invokestatic 47, 3) := by decide +kernel
theorem pd_10 : parseMethodDescriptor "([BI)B" = some ⟨[(.array .byte), .int], some .byte⟩ := by decide +kernel
theorem d2_48 : decode jdk_42_method_149_code 48 = .ok (.putfield 15, 3) := by decide +kernel
theorem d2_51 : decode jdk_42_method_149_code 51 = .ok (.aload_n 0, 1) := by decide +kernel
theorem d2_52 : decode jdk_42_method_149_code 52 = .ok (.aload 5, 2) := by decide +kernel
theorem d2_54 : decode jdk_42_method_149_code 54 = .ok (.putfield 9, 3) := by decide +kernel
theorem d2_57 : decode jdk_42_method_149_code 57 = .ok (.return_, 1) := by decide +kernel
theorem d9_0 : decode jdk_42_method_152_code 0 = .ok (.getstatic 38, 3) := by decide +kernel
theorem d9_3 : decode jdk_42_method_152_code 3 = .ok (.ifCond .eq 10, 3) := by decide +kernel
theorem d9_6 : decode jdk_42_method_152_code 6 = .ok (.aload_n 0, 1) := by decide +kernel
theorem d9_7 : decode jdk_42_method_152_code 7 = .ok (.getfield 15, 3) := by decide +kernel
theorem d9_10 : decode jdk_42_method_152_code 10 = .ok (.goto 4, 3) := by decide +kernel
theorem d9_14 : decode jdk_42_method_152_code 14 = .ok (.ireturn, 1) := by decide +kernel
theorem d11_0 : decode jdk_42_method_154_code 0 = .ok (.getstatic 38, 3) := by decide +kernel
theorem d11_3 : decode jdk_42_method_154_code 3 = .ok (.ifCond .eq 14, 3) := by decide +kernel
theorem d11_6 : decode jdk_42_method_154_code 6 = .ok (.aload_n 0, 1) := by decide +kernel
theorem d11_7 : decode jdk_42_method_154_code 7 = .ok (.getfield 15, 3) := by decide +kernel
theorem d11_10 : decode jdk_42_method_154_code 10 = .ok (.ifCond .ne 7, 3) := by decide +kernel
theorem d11_13 : decode jdk_42_method_154_code 13 = .ok (.iconst 1, 1) := by decide +kernel
theorem d11_14 : decode jdk_42_method_154_code 14 = .ok (.goto 4, 3) := by decide +kernel
theorem d11_18 : decode jdk_42_method_154_code 18 = .ok (.ireturn, 1) := by decide +kernel
theorem d11_17 : decode jdk_42_method_154_code 17 = .ok (.iconst 0, 1) := by decide +kernel
theorem own_l1c {c : Int32} (h : ¬ c < 0 ∧ ¬ (65535 : Int32) < c) (h2 : ¬ (255 : Int32) < c) : nar .char (((oL c) &&& (255 : Int32)).toUInt32.toUInt16.toUInt32.toInt32) = c := by
  rw [own_nar_char]
  exact own_lo_inj h h2
theorem d8_0 : decode jdk_42_method_54_code 0 = .ok (.aload_n 0, 1) := by decide +kernel
theorem d8_1 : decode jdk_42_method_54_code 1 = .ok (.getfield 9, 3) := by decide +kernel
theorem d8_4 : decode jdk_42_method_54_code 4 = .ok (.arraylength, 1) := by decide +kernel
theorem d8_5 : decode jdk_42_method_54_code 5 = .ok (.aload_n 0, 1) := by decide +kernel
theorem d8_6 : decode jdk_42_method_54_code 6 = .ok (.invokevirtual 335, 3) := by decide +kernel
theorem pd_11 : parseMethodDescriptor "()B" = some ⟨[], some .byte⟩ := by decide +kernel
theorem d8_9 : decode jdk_42_method_54_code 9 = .ok (.ishr, 1) := by decide +kernel
theorem d8_10 : decode jdk_42_method_54_code 10 = .ok (.ireturn, 1) := by decide +kernel
theorem pn_12 : plainName "jdk/internal/util/Preconditions" = true := by first | (simp [plainName, overriddenIn]; done) | decide +kernel
theorem d14_0 : decode jdk_41_method_11_code 0 = .ok (.iload_n 0, 1) := by decide +kernel
theorem d14_1 : decode jdk_41_method_11_code 1 = .ok (.ifCond .lt 8, 3) := by decide +kernel
theorem d14_4 : decode jdk_41_method_11_code 4 = .ok (.iload_n 0, 1) := by decide +kernel
theorem d14_5 : decode jdk_41_method_11_code 5 = .ok (.iload_n 1, 1) := by decide +kernel
theorem d14_6 : decode jdk_41_method_11_code 6 = .ok (.if_icmp .lt 10, 3) := by decide +kernel
theorem d14_16 : decode jdk_41_method_11_code 16 = .ok (.iload_n 0, 1) := by decide +kernel
theorem d14_17 : decode jdk_41_method_11_code 17 = .ok (.ireturn, 1) := by decide +kernel
theorem d13_0 : decode jdk_42_method_155_code 0 = .ok (.iload_n 0, 1) := by decide +kernel
theorem d13_1 : decode jdk_42_method_155_code 1 = .ok (.iload_n 1, 1) := by decide +kernel
theorem d13_2 : decode jdk_42_method_155_code 2 = .ok (.getstatic 1053, 3) := by decide +kernel
theorem d13_5 : decode jdk_42_method_155_code 5 = .ok (.invokestatic 1059, 3) := by decide +kernel
theorem pd_13 : parseMethodDescriptor "(IILjava/util/function/BiFunction;)I" = some ⟨[.int, .int, (.object "java/util/function/BiFunction")], some .int⟩ := by decide +kernel
theorem d13_8 : decode jdk_42_method_155_code 8 = .ok (.pop, 1) := by decide +kernel
theorem d13_9 : decode jdk_42_method_155_code 9 = .ok (.return_, 1) := by decide +kernel
theorem d23_0 : decode jdk_52_method_6_code 0 = .ok (.aload_n 0, 1) := by decide +kernel
theorem d23_1 : decode jdk_52_method_6_code 1 = .ok (.arraylength, 1) := by decide +kernel
theorem d23_2 : decode jdk_52_method_6_code 2 = .ok (.iconst 1, 1) := by decide +kernel
theorem d23_3 : decode jdk_52_method_6_code 3 = .ok (.ishr, 1) := by decide +kernel
theorem d23_4 : decode jdk_52_method_6_code 4 = .ok (.ireturn, 1) := by decide +kernel
theorem pn_14 : plainName "java/lang/StringLatin1" = true := by first | (simp [plainName, overriddenIn]; done) | decide +kernel
theorem d12_0 : decode jdk_43_method_2_code 0 = .ok (.iload_n 1, 1) := by decide +kernel
theorem d12_1 : decode jdk_43_method_2_code 1 = .ok (.aload_n 0, 1) := by decide +kernel
theorem d12_2 : decode jdk_43_method_2_code 2 = .ok (.arraylength, 1) := by decide +kernel
theorem d12_3 : decode jdk_43_method_2_code 3 = .ok (.invokestatic 9, 3) := by decide +kernel
theorem pd_15 : parseMethodDescriptor "(II)V" = some ⟨[.int, .int], none⟩ := by decide +kernel
theorem d12_6 : decode jdk_43_method_2_code 6 = .ok (.aload_n 0, 1) := by decide +kernel
theorem d12_7 : decode jdk_43_method_2_code 7 = .ok (.iload_n 1, 1) := by decide +kernel
theorem d12_8 : decode jdk_43_method_2_code 8 = .ok (.baload, 1) := by decide +kernel
theorem d12_9 : decode jdk_43_method_2_code 9 = .ok (.sipush 255, 3) := by decide +kernel
theorem d12_12 : decode jdk_43_method_2_code 12 = .ok (.iand, 1) := by decide +kernel
theorem d12_13 : decode jdk_43_method_2_code 13 = .ok (.i2c, 1) := by decide +kernel
theorem d12_14 : decode jdk_43_method_2_code 14 = .ok (.ireturn, 1) := by decide +kernel
theorem d22_0 : decode jdk_52_method_91_code 0 = .ok (.iload_n 0, 1) := by decide +kernel
theorem d22_1 : decode jdk_52_method_91_code 1 = .ok (.aload_n 1, 1) := by decide +kernel
theorem d22_2 : decode jdk_52_method_91_code 2 = .ok (.invokestatic 48, 3) := by decide +kernel
theorem pd_16 : parseMethodDescriptor "([B)I" = some ⟨[(.array .byte)], some .int⟩ := by decide +kernel
theorem d22_5 : decode jdk_52_method_91_code 5 = .ok (.invokestatic 414, 3) := by decide +kernel
theorem d22_8 : decode jdk_52_method_91_code 8 = .ok (.return_, 1) := by decide +kernel
theorem d21_0 : decode jdk_52_method_83_code 0 = .ok (.iload_n 1, 1) := by decide +kernel
theorem d21_1 : decode jdk_52_method_83_code 1 = .ok (.aload_n 0, 1) := by decide +kernel
theorem d21_2 : decode jdk_52_method_83_code 2 = .ok (.invokestatic 67, 3) := by decide +kernel
theorem pd_17 : parseMethodDescriptor "(I[B)V" = some ⟨[.int, (.array .byte)], none⟩ := by decide +kernel
theorem d21_5 : decode jdk_52_method_83_code 5 = .ok (.aload_n 0, 1) := by decide +kernel
theorem d21_6 : decode jdk_52_method_83_code 6 = .ok (.iload_n 1, 1) := by decide +kernel
theorem d21_7 : decode jdk_52_method_83_code 7 = .ok (.invokestatic 71, 3) := by decide +kernel
theorem d21_10 : decode jdk_52_method_83_code 10 = .ok (.ireturn, 1) := by decide +kernel
theorem d10_0 : decode jdk_42_method_56_code 0 = .ok (.aload_n 0, 1) := by decide +kernel
theorem d10_1 : decode jdk_42_method_56_code 1 = .ok (.invokevirtual 492, 3) := by decide +kernel
theorem pd_18 : parseMethodDescriptor "()Z" = some ⟨[], some .boolean⟩ := by decide +kernel
theorem d10_4 : decode jdk_42_method_56_code 4 = .ok (.ifCond .eq 12, 3) := by decide +kernel
theorem d10_7 : decode jdk_42_method_56_code 7 = .ok (.aload_n 0, 1) := by decide +kernel
theorem d10_8 : decode jdk_42_method_56_code 8 = .ok (.getfield 9, 3) := by decide +kernel
theorem d10_11 : decode jdk_42_method_56_code 11 = .ok (.iload_n 1, 1) := by decide +kernel
theorem d10_12 : decode jdk_42_method_56_code 12 = .ok (.invokestatic 495, 3) := by decide +kernel
theorem d10_15 : decode jdk_42_method_56_code 15 = .ok (.ireturn, 1) := by decide +kernel
theorem d10_16 : decode jdk_42_method_56_code 16 = .ok (.aload_n 0, 1) := by decide +kernel
theorem d10_17 : decode jdk_42_method_56_code 17 = .ok (.getfield 9, 3) := by decide +kernel
theorem d10_20 : decode jdk_42_method_56_code 20 = .ok (.iload_n 1, 1) := by decide +kernel
theorem d10_21 : decode jdk_42_method_56_code 21 = .ok (.invokestatic 498, 3) := by decide +kernel
theorem d10_24 : decode jdk_42_method_56_code 24 = .ok (.ireturn, 1) := by decide +kernel
abbrev Mw (c k : Int32) : Prop := c = k ∨ (¬ k < (65 : Int32) ∧ ¬ (90 : Int32) < k ∧ c = (k ||| (32 : Int32)))
theorem own_mw {c k : Int32} : (c = k ∨ (¬ c < (97 : Int32) ∧ ¬ (122 : Int32) < c ∧ k = (c - (32 : Int32)))) ↔ Mw c k := by
  constructor
  · rintro (rfl | ⟨h1, h2, rfl⟩)
    · exact Or.inl rfl
    · refine Or.inr ?_
      have hq : c = (97 : Int32) ∨ c = (98 : Int32) ∨ c = (99 : Int32) ∨ c = (100 : Int32) ∨ c = (101 : Int32) ∨ c = (102 : Int32) ∨ c = (103 : Int32) ∨ c = (104 : Int32) ∨ c = (105 : Int32) ∨ c = (106 : Int32) ∨ c = (107 : Int32) ∨ c = (108 : Int32) ∨ c = (109 : Int32) ∨ c = (110 : Int32) ∨ c = (111 : Int32) ∨ c = (112 : Int32) ∨ c = (113 : Int32) ∨ c = (114 : Int32) ∨ c = (115 : Int32) ∨ c = (116 : Int32) ∨ c = (117 : Int32) ∨ c = (118 : Int32) ∨ c = (119 : Int32) ∨ c = (120 : Int32) ∨ c = (121 : Int32) ∨ c = (122 : Int32) := by
        have e97 : (97 : Int32).toInt = 97 := rfl
        have e98 : (98 : Int32).toInt = 98 := rfl
        have e99 : (99 : Int32).toInt = 99 := rfl
        have e100 : (100 : Int32).toInt = 100 := rfl
        have e101 : (101 : Int32).toInt = 101 := rfl
        have e102 : (102 : Int32).toInt = 102 := rfl
        have e103 : (103 : Int32).toInt = 103 := rfl
        have e104 : (104 : Int32).toInt = 104 := rfl
        have e105 : (105 : Int32).toInt = 105 := rfl
        have e106 : (106 : Int32).toInt = 106 := rfl
        have e107 : (107 : Int32).toInt = 107 := rfl
        have e108 : (108 : Int32).toInt = 108 := rfl
        have e109 : (109 : Int32).toInt = 109 := rfl
        have e110 : (110 : Int32).toInt = 110 := rfl
        have e111 : (111 : Int32).toInt = 111 := rfl
        have e112 : (112 : Int32).toInt = 112 := rfl
        have e113 : (113 : Int32).toInt = 113 := rfl
        have e114 : (114 : Int32).toInt = 114 := rfl
        have e115 : (115 : Int32).toInt = 115 := rfl
        have e116 : (116 : Int32).toInt = 116 := rfl
        have e117 : (117 : Int32).toInt = 117 := rfl
        have e118 : (118 : Int32).toInt = 118 := rfl
        have e119 : (119 : Int32).toInt = 119 := rfl
        have e120 : (120 : Int32).toInt = 120 := rfl
        have e121 : (121 : Int32).toInt = 121 := rfl
        have e122 : (122 : Int32).toInt = 122 := rfl
        simp only [Int32.lt_iff_toInt_lt, e97, e122] at h1 h2
        simp only [← Int32.toInt_inj, e97, e98, e99, e100, e101, e102, e103, e104, e105, e106, e107, e108, e109, e110, e111, e112, e113, e114, e115, e116, e117, e118, e119, e120, e121, e122]
        omega
      clear h1 h2
      rcases hq with rfl | rfl | rfl | rfl | rfl | rfl | rfl | rfl | rfl | rfl | rfl | rfl | rfl | rfl | rfl | rfl | rfl | rfl | rfl | rfl | rfl | rfl | rfl | rfl | rfl | rfl <;> decide
  · rintro (rfl | ⟨h1, h2, rfl⟩)
    · exact Or.inl rfl
    · refine Or.inr ?_
      have hq : k = (65 : Int32) ∨ k = (66 : Int32) ∨ k = (67 : Int32) ∨ k = (68 : Int32) ∨ k = (69 : Int32) ∨ k = (70 : Int32) ∨ k = (71 : Int32) ∨ k = (72 : Int32) ∨ k = (73 : Int32) ∨ k = (74 : Int32) ∨ k = (75 : Int32) ∨ k = (76 : Int32) ∨ k = (77 : Int32) ∨ k = (78 : Int32) ∨ k = (79 : Int32) ∨ k = (80 : Int32) ∨ k = (81 : Int32) ∨ k = (82 : Int32) ∨ k = (83 : Int32) ∨ k = (84 : Int32) ∨ k = (85 : Int32) ∨ k = (86 : Int32) ∨ k = (87 : Int32) ∨ k = (88 : Int32) ∨ k = (89 : Int32) ∨ k = (90 : Int32) := by
        have e65 : (65 : Int32).toInt = 65 := rfl
        have e66 : (66 : Int32).toInt = 66 := rfl
        have e67 : (67 : Int32).toInt = 67 := rfl
        have e68 : (68 : Int32).toInt = 68 := rfl
        have e69 : (69 : Int32).toInt = 69 := rfl
        have e70 : (70 : Int32).toInt = 70 := rfl
        have e71 : (71 : Int32).toInt = 71 := rfl
        have e72 : (72 : Int32).toInt = 72 := rfl
        have e73 : (73 : Int32).toInt = 73 := rfl
        have e74 : (74 : Int32).toInt = 74 := rfl
        have e75 : (75 : Int32).toInt = 75 := rfl
        have e76 : (76 : Int32).toInt = 76 := rfl
        have e77 : (77 : Int32).toInt = 77 := rfl
        have e78 : (78 : Int32).toInt = 78 := rfl
        have e79 : (79 : Int32).toInt = 79 := rfl
        have e80 : (80 : Int32).toInt = 80 := rfl
        have e81 : (81 : Int32).toInt = 81 := rfl
        have e82 : (82 : Int32).toInt = 82 := rfl
        have e83 : (83 : Int32).toInt = 83 := rfl
        have e84 : (84 : Int32).toInt = 84 := rfl
        have e85 : (85 : Int32).toInt = 85 := rfl
        have e86 : (86 : Int32).toInt = 86 := rfl
        have e87 : (87 : Int32).toInt = 87 := rfl
        have e88 : (88 : Int32).toInt = 88 := rfl
        have e89 : (89 : Int32).toInt = 89 := rfl
        have e90 : (90 : Int32).toInt = 90 := rfl
        simp only [Int32.lt_iff_toInt_lt, e65, e90] at h1 h2
        simp only [← Int32.toInt_inj, e65, e66, e67, e68, e69, e70, e71, e72, e73, e74, e75, e76, e77, e78, e79, e80, e81, e82, e83, e84, e85, e86, e87, e88, e89, e90]
        omega
      clear h1 h2
      rcases hq with rfl | rfl | rfl | rfl | rfl | rfl | rfl | rfl | rfl | rfl | rfl | rfl | rfl | rfl | rfl | rfl | rfl | rfl | rfl | rfl | rfl | rfl | rfl | rfl | rfl | rfl <;> decide
theorem own_three (f : Int32) : (f &&& (3 : Int32)) = (0 : Int32) ∨ (f &&& (3 : Int32)) = (1 : Int32) ∨ (f &&& (3 : Int32)) = (2 : Int32) ∨ (f &&& (3 : Int32)) = (3 : Int32) := by
  have h0 := c_and f 3 (by decide)
  have e3 : (3 : Int32).toInt = 3 := rfl
  have e0 : (0 : Int32).toInt = 0 := rfl
  have e1 : (1 : Int32).toInt = 1 := rfl
  have e2 : (2 : Int32).toInt = 2 := rfl
  simp only [← Int32.toInt_inj, e0, e1, e2, e3]
  omega
theorem own_mod3 (f : Int32) : ((f &&& (2147483647 : Int32)) % (3 : Int32)) = (0 : Int32) ∨ ((f &&& (2147483647 : Int32)) % (3 : Int32)) = (1 : Int32) ∨ ((f &&& (2147483647 : Int32)) % (3 : Int32)) = (2 : Int32) := by
  have h0 := c_and f 2147483647 (by decide)
  have q := (c_iremV (f &&& 2147483647) 3).1 h0.1 (by decide)
  have e0 : (0 : Int32).toInt = 0 := rfl
  have e1 : (1 : Int32).toInt = 1 := rfl
  have e2 : (2 : Int32).toInt = 2 := rfl
  have e3 : (3 : Int32).toInt = 3 := rfl
  simp only [← Int32.toInt_inj, e0, e1, e2]
  omega
theorem own_mod4 (f : Int32) : ((f &&& (2147483647 : Int32)) % (4 : Int32)) = (0 : Int32) ∨ ((f &&& (2147483647 : Int32)) % (4 : Int32)) = (1 : Int32) ∨ ((f &&& (2147483647 : Int32)) % (4 : Int32)) = (2 : Int32) ∨ ((f &&& (2147483647 : Int32)) % (4 : Int32)) = (3 : Int32) := by
  have h0 := c_and f 2147483647 (by decide)
  have q := (c_iremV (f &&& 2147483647) 4).1 h0.1 (by decide)
  have e0 : (0 : Int32).toInt = 0 := rfl
  have e1 : (1 : Int32).toInt = 1 := rfl
  have e2 : (2 : Int32).toInt = 2 := rfl
  have e3 : (3 : Int32).toInt = 3 := rfl
  have e4 : (4 : Int32).toInt = 4 := rfl
  simp only [← Int32.toInt_inj, e0, e1, e2, e3]
  omega
theorem own_mod5 (f : Int32) : ((f &&& (2147483647 : Int32)) % (5 : Int32)) = (0 : Int32) ∨ ((f &&& (2147483647 : Int32)) % (5 : Int32)) = (1 : Int32) ∨ ((f &&& (2147483647 : Int32)) % (5 : Int32)) = (2 : Int32) ∨ ((f &&& (2147483647 : Int32)) % (5 : Int32)) = (3 : Int32) ∨ ((f &&& (2147483647 : Int32)) % (5 : Int32)) = (4 : Int32) := by
  have h0 := c_and f 2147483647 (by decide)
  have q := (c_iremV (f &&& 2147483647) 5).1 h0.1 (by decide)
  have e0 : (0 : Int32).toInt = 0 := rfl
  have e1 : (1 : Int32).toInt = 1 := rfl
  have e2 : (2 : Int32).toInt = 2 := rfl
  have e3 : (3 : Int32).toInt = 3 := rfl
  have e4 : (4 : Int32).toInt = 4 := rfl
  have e5 : (5 : Int32).toInt = 5 := rfl
  simp only [← Int32.toInt_inj, e0, e1, e2, e3, e4]
  omega
theorem own_d6 {nn : Int32} (h : nn = (0 : Int32) ∨ nn = (1 : Int32) ∨ nn = (2 : Int32) ∨ nn = (3 : Int32)) : ¬ (((6 : Int32) - nn) = (0 : Int32)) := by rcases h with rfl | rfl | rfl | rfl <;> decide
theorem own_sp (f : Int32) {nn : Int32} (h : nn = (0 : Int32) ∨ nn = (1 : Int32) ∨ nn = (2 : Int32) ∨ nn = (3 : Int32)) : nn = (0 : Int32) ∨ (nn = (1 : Int32) ∧ (((f &&& (2147483647 : Int32)) % ((6 : Int32) - nn)) = (0 : Int32) ∨ ((f &&& (2147483647 : Int32)) % ((6 : Int32) - nn)) = (1 : Int32) ∨ ((f &&& (2147483647 : Int32)) % ((6 : Int32) - nn)) = (2 : Int32) ∨ ((f &&& (2147483647 : Int32)) % ((6 : Int32) - nn)) = (3 : Int32) ∨ ((f &&& (2147483647 : Int32)) % ((6 : Int32) - nn)) = (4 : Int32))) ∨ (nn = (2 : Int32) ∧ (((f &&& (2147483647 : Int32)) % ((6 : Int32) - nn)) = (0 : Int32) ∨ ((f &&& (2147483647 : Int32)) % ((6 : Int32) - nn)) = (1 : Int32) ∨ ((f &&& (2147483647 : Int32)) % ((6 : Int32) - nn)) = (2 : Int32) ∨ ((f &&& (2147483647 : Int32)) % ((6 : Int32) - nn)) = (3 : Int32))) ∨ (nn = (3 : Int32) ∧ (((f &&& (2147483647 : Int32)) % ((6 : Int32) - nn)) = (0 : Int32) ∨ ((f &&& (2147483647 : Int32)) % ((6 : Int32) - nn)) = (1 : Int32) ∨ ((f &&& (2147483647 : Int32)) % ((6 : Int32) - nn)) = (2 : Int32))) := by
  rcases h with rfl | rfl | rfl | rfl
  · exact Or.inl rfl
  · exact Or.inr (Or.inl ⟨rfl, own_mod5 f⟩)
  · exact Or.inr (Or.inr (Or.inl ⟨rfl, own_mod4 f⟩))
  · exact Or.inr (Or.inr (Or.inr (⟨rfl, own_mod3 f⟩)))
def Plc (cd z : Int32) (vs : List Value) (i cc : Int32) (k k2 : Nat) : Prop := (cd = (0 : Int32) ∧ (¬ i < (0 : Int32) ∧ i < z) ∧ i.toNatClampNeg = k ∧ vs.getD k (.int (0 : Int32)) = .int (oL cc) ∧ ¬ ((255 : Int32) < cc)) ∨ (cd = (1 : Int32) ∧ (¬ i < (0 : Int32) ∧ i < (5 : Int32)) ∧ (z >>> ((1 : Int32) &&& 31)) = (5 : Int32) ∧ (¬ (i <<< ((1 : Int32) &&& 31)) < 0 ∧ (i <<< ((1 : Int32) &&& 31)) < z) ∧ (¬ ((i <<< ((1 : Int32) &&& 31)) + (1 : Int32)) < 0 ∧ ((i <<< ((1 : Int32) &&& 31)) + (1 : Int32)) < z) ∧ (i <<< ((1 : Int32) &&& 31)).toNatClampNeg = k2 ∧ ((i <<< ((1 : Int32) &&& 31)) + (1 : Int32)).toNatClampNeg = k2 + 1 ∧ vs.getD k2 (.int (0 : Int32)) = .int (oW cc) ∧ vs.getD (k2 + 1) (.int (0 : Int32)) = .int (oH cc))
theorem own_at {cd z : Int32} {vs : List Value} {c0 c1 c2 c3 c4 : Int32} (hrel : ((cd = (0 : Int32) ∧ z = (5 : Int32) ∧ vs = [(.int (oL c0)), (.int (oL c1)), (.int (oL c2)), (.int (oL c3)), (.int (oL c4))] ∧ ¬ ((255 : Int32) < c0) ∧ ¬ ((255 : Int32) < c1) ∧ ¬ ((255 : Int32) < c2) ∧ ¬ ((255 : Int32) < c3) ∧ ¬ ((255 : Int32) < c4)) ∨ (cd = (1 : Int32) ∧ z = (10 : Int32) ∧ vs = [(.int (oW c0)), (.int (oH c0)), (.int (oW c1)), (.int (oH c1)), (.int (oW c2)), (.int (oH c2)), (.int (oW c3)), (.int (oH c3)), (.int (oW c4)), (.int (oH c4))] ∧ ((255 : Int32) < c0 ∨ (255 : Int32) < c1 ∨ (255 : Int32) < c2 ∨ (255 : Int32) < c3 ∨ (255 : Int32) < c4)))) (hc0 : ¬ c0 < 0 ∧ ¬ (65535 : Int32) < c0) (hc1 : ¬ c1 < 0 ∧ ¬ (65535 : Int32) < c1) (hc2 : ¬ c2 < 0 ∧ ¬ (65535 : Int32) < c2) (hc3 : ¬ c3 < 0 ∧ ¬ (65535 : Int32) < c3) (hc4 : ¬ c4 < 0 ∧ ¬ (65535 : Int32) < c4) {i : Int32} (hi : i = (0 : Int32) ∨ i = (1 : Int32) ∨ i = (2 : Int32) ∨ i = (3 : Int32) ∨ i = (4 : Int32)) : ∃ (cc : Int32) (k k2 : Nat), Plc cd z vs i cc k k2 ∧ (¬ cc < 0 ∧ ¬ (65535 : Int32) < cc) ∧ (¬ i < 0 ∧ i < (5 : Int32)) ∧ ([(.int c0), (.int c1), (.int c2), (.int c3), (.int c4)] : List Value).getD i.toNatClampNeg (.int (0 : Int32)) = .int cc := by
  rcases hi with rfl | rfl | rfl | rfl | rfl
  · refine ⟨c0, 0, 0, ?_, hc0, ⟨by decide, by decide⟩, rfl⟩
    rcases hrel with ⟨h1, h2, h3, g0, g1, g2, g3, g4⟩ | ⟨h1, h2, h3, -⟩
    · exact Or.inl ⟨h1, by rw [h2]; decide +kernel, rfl, by rw [h3]; rfl, g0⟩
    · exact Or.inr ⟨h1, by decide +kernel, by rw [h2]; decide +kernel, by rw [h2]; decide +kernel, by rw [h2]; decide +kernel, by decide +kernel, by decide +kernel, by rw [h3]; rfl, by rw [h3]; rfl⟩
  · refine ⟨c1, 1, 2, ?_, hc1, ⟨by decide, by decide⟩, rfl⟩
    rcases hrel with ⟨h1, h2, h3, g0, g1, g2, g3, g4⟩ | ⟨h1, h2, h3, -⟩
    · exact Or.inl ⟨h1, by rw [h2]; decide +kernel, rfl, by rw [h3]; rfl, g1⟩
    · exact Or.inr ⟨h1, by decide +kernel, by rw [h2]; decide +kernel, by rw [h2]; decide +kernel, by rw [h2]; decide +kernel, by decide +kernel, by decide +kernel, by rw [h3]; rfl, by rw [h3]; rfl⟩
  · refine ⟨c2, 2, 4, ?_, hc2, ⟨by decide, by decide⟩, rfl⟩
    rcases hrel with ⟨h1, h2, h3, g0, g1, g2, g3, g4⟩ | ⟨h1, h2, h3, -⟩
    · exact Or.inl ⟨h1, by rw [h2]; decide +kernel, rfl, by rw [h3]; rfl, g2⟩
    · exact Or.inr ⟨h1, by decide +kernel, by rw [h2]; decide +kernel, by rw [h2]; decide +kernel, by rw [h2]; decide +kernel, by decide +kernel, by decide +kernel, by rw [h3]; rfl, by rw [h3]; rfl⟩
  · refine ⟨c3, 3, 6, ?_, hc3, ⟨by decide, by decide⟩, rfl⟩
    rcases hrel with ⟨h1, h2, h3, g0, g1, g2, g3, g4⟩ | ⟨h1, h2, h3, -⟩
    · exact Or.inl ⟨h1, by rw [h2]; decide +kernel, rfl, by rw [h3]; rfl, g3⟩
    · exact Or.inr ⟨h1, by decide +kernel, by rw [h2]; decide +kernel, by rw [h2]; decide +kernel, by rw [h2]; decide +kernel, by decide +kernel, by decide +kernel, by rw [h3]; rfl, by rw [h3]; rfl⟩
  · refine ⟨c4, 4, 8, ?_, hc4, ⟨by decide, by decide⟩, rfl⟩
    rcases hrel with ⟨h1, h2, h3, g0, g1, g2, g3, g4⟩ | ⟨h1, h2, h3, -⟩
    · exact Or.inl ⟨h1, by rw [h2]; decide +kernel, rfl, by rw [h3]; rfl, g4⟩
    · exact Or.inr ⟨h1, by decide +kernel, by rw [h2]; decide +kernel, by rw [h2]; decide +kernel, by rw [h2]; decide +kernel, by decide +kernel, by decide +kernel, by rw [h3]; rfl, by rw [h3]; rfl⟩
theorem pn_19 : plainName "com/example/savepoint/savepoint/SqlDialectIsWordPinLaw" = true := by first | (simp [plainName, overriddenIn]; done) | decide +kernel
theorem d15_0 : decode method_2_code 0 = .ok (.iload_n 0, 1) := by decide +kernel
theorem d15_1 : decode method_2_code 1 = .ok (.iload_n 1, 1) := by decide +kernel
theorem d15_2 : decode method_2_code 2 = .ok (.if_icmp .eq 23, 3) := by decide +kernel
theorem d15_25 : decode method_2_code 25 = .ok (.iconst 1, 1) := by decide +kernel
theorem d15_26 : decode method_2_code 26 = .ok (.goto 4, 3) := by decide +kernel
theorem d15_30 : decode method_2_code 30 = .ok (.ireturn, 1) := by decide +kernel
theorem d15_5 : decode method_2_code 5 = .ok (.iload_n 0, 1) := by decide +kernel
theorem d15_6 : decode method_2_code 6 = .ok (.bipush 97, 2) := by decide +kernel
theorem d15_8 : decode method_2_code 8 = .ok (.if_icmp .lt 21, 3) := by decide +kernel
theorem d15_29 : decode method_2_code 29 = .ok (.iconst 0, 1) := by decide +kernel
theorem d15_11 : decode method_2_code 11 = .ok (.iload_n 0, 1) := by decide +kernel
theorem d15_12 : decode method_2_code 12 = .ok (.bipush 122, 2) := by decide +kernel
theorem d15_14 : decode method_2_code 14 = .ok (.if_icmp .gt 15, 3) := by decide +kernel
theorem d15_17 : decode method_2_code 17 = .ok (.iload_n 1, 1) := by decide +kernel
theorem d15_18 : decode method_2_code 18 = .ok (.iload_n 0, 1) := by decide +kernel
theorem d15_19 : decode method_2_code 19 = .ok (.bipush 32, 2) := by decide +kernel
theorem d15_21 : decode method_2_code 21 = .ok (.isub, 1) := by decide +kernel
theorem d15_22 : decode method_2_code 22 = .ok (.if_icmp .ne 7, 3) := by decide +kernel
theorem pn_20 : plainName "com/example/savepoint/savepoint/SqlDialect" = true := by first | (simp [plainName, overriddenIn]; done) | decide +kernel
theorem d7_0 : decode prog_14_method_9_code 0 = .ok (.iload_n 2, 1) := by decide +kernel
theorem d7_1 : decode prog_14_method_9_code 1 = .ok (.iload_n 1, 1) := by decide +kernel
theorem d7_2 : decode prog_14_method_9_code 2 = .ok (.isub, 1) := by decide +kernel
theorem d7_3 : decode prog_14_method_9_code 3 = .ok (.aload_n 3, 1) := by decide +kernel
theorem d7_4 : decode prog_14_method_9_code 4 = .ok (.invokevirtual 63, 3) := by decide +kernel
theorem pd_21 : parseMethodDescriptor "()I" = some ⟨[], some .int⟩ := by decide +kernel
theorem d7_7 : decode prog_14_method_9_code 7 = .ok (.if_icmp .ne 7, 3) := by decide +kernel
theorem d7_10 : decode prog_14_method_9_code 10 = .ok (.iconst 1, 1) := by decide +kernel
theorem d7_11 : decode prog_14_method_9_code 11 = .ok (.goto 4, 3) := by decide +kernel
theorem d7_15 : decode prog_14_method_9_code 15 = .ok (.istore 4, 2) := by decide +kernel
theorem d7_17 : decode prog_14_method_9_code 17 = .ok (.iconst 0, 1) := by decide +kernel
theorem d7_18 : decode prog_14_method_9_code 18 = .ok (.istore 5, 2) := by decide +kernel
theorem d7_20 : decode prog_14_method_9_code 20 = .ok (.iload 4, 2) := by decide +kernel
theorem d7_22 : decode prog_14_method_9_code 22 = .ok (.ifCond .eq 74, 3) := by decide +kernel
theorem d7_25 : decode prog_14_method_9_code 25 = .ok (.iload 5, 2) := by decide +kernel
theorem d7_27 : decode prog_14_method_9_code 27 = .ok (.aload_n 3, 1) := by decide +kernel
theorem d7_28 : decode prog_14_method_9_code 28 = .ok (.invokevirtual 63, 3) := by decide +kernel
theorem d7_31 : decode prog_14_method_9_code 31 = .ok (.if_icmp .ge 65, 3) := by decide +kernel
theorem d7_96 : decode prog_14_method_9_code 96 = .ok (.iload 4, 2) := by decide +kernel
theorem d7_98 : decode prog_14_method_9_code 98 = .ok (.ireturn, 1) := by decide +kernel
theorem d7_14 : decode prog_14_method_9_code 14 = .ok (.iconst 0, 1) := by decide +kernel
theorem d7_34 : decode prog_14_method_9_code 34 = .ok (.aload_n 0, 1) := by decide +kernel
theorem d7_35 : decode prog_14_method_9_code 35 = .ok (.iload_n 1, 1) := by decide +kernel
theorem d7_36 : decode prog_14_method_9_code 36 = .ok (.iload 5, 2) := by decide +kernel
theorem d7_38 : decode prog_14_method_9_code 38 = .ok (.iadd, 1) := by decide +kernel
theorem d7_39 : decode prog_14_method_9_code 39 = .ok (.invokevirtual 69, 3) := by decide +kernel
theorem pd_22 : parseMethodDescriptor "(I)C" = some ⟨[.int], some .char⟩ := by decide +kernel
theorem d7_42 : decode prog_14_method_9_code 42 = .ok (.istore 6, 2) := by decide +kernel
theorem d7_44 : decode prog_14_method_9_code 44 = .ok (.aload_n 3, 1) := by decide +kernel
theorem d7_45 : decode prog_14_method_9_code 45 = .ok (.iload 5, 2) := by decide +kernel
theorem d7_47 : decode prog_14_method_9_code 47 = .ok (.invokevirtual 69, 3) := by decide +kernel
theorem d7_50 : decode prog_14_method_9_code 50 = .ok (.istore 7, 2) := by decide +kernel
theorem d7_52 : decode prog_14_method_9_code 52 = .ok (.iload 6, 2) := by decide +kernel
theorem d7_54 : decode prog_14_method_9_code 54 = .ok (.iload 7, 2) := by decide +kernel
theorem d7_56 : decode prog_14_method_9_code 56 = .ok (.if_icmp .eq 27, 3) := by decide +kernel
theorem d7_83 : decode prog_14_method_9_code 83 = .ok (.iconst 1, 1) := by decide +kernel
theorem d7_84 : decode prog_14_method_9_code 84 = .ok (.goto 4, 3) := by decide +kernel
theorem d7_59 : decode prog_14_method_9_code 59 = .ok (.iload 7, 2) := by decide +kernel
theorem d7_61 : decode prog_14_method_9_code 61 = .ok (.bipush 65, 2) := by decide +kernel
theorem d7_63 : decode prog_14_method_9_code 63 = .ok (.if_icmp .lt 24, 3) := by decide +kernel
theorem d7_87 : decode prog_14_method_9_code 87 = .ok (.iconst 0, 1) := by decide +kernel
theorem d7_66 : decode prog_14_method_9_code 66 = .ok (.iload 7, 2) := by decide +kernel
theorem d7_68 : decode prog_14_method_9_code 68 = .ok (.bipush 90, 2) := by decide +kernel
theorem d7_70 : decode prog_14_method_9_code 70 = .ok (.if_icmp .gt 17, 3) := by decide +kernel
theorem d7_73 : decode prog_14_method_9_code 73 = .ok (.iload 6, 2) := by decide +kernel
theorem d7_75 : decode prog_14_method_9_code 75 = .ok (.iload 7, 2) := by decide +kernel
theorem d7_77 : decode prog_14_method_9_code 77 = .ok (.bipush 32, 2) := by decide +kernel
theorem d7_79 : decode prog_14_method_9_code 79 = .ok (.ior, 1) := by decide +kernel
theorem d7_80 : decode prog_14_method_9_code 80 = .ok (.if_icmp .ne 7, 3) := by decide +kernel
theorem d7_88 : decode prog_14_method_9_code 88 = .ok (.istore 4, 2) := by decide +kernel
theorem d7_90 : decode prog_14_method_9_code 90 = .ok (.iinc 5 1, 3) := by decide +kernel
theorem d7_93 : decode prog_14_method_9_code 93 = .ok (.goto (-73), 3) := by decide +kernel
theorem pd_23 : parseMethodDescriptor "([C)V" = some ⟨[(.array .char)], none⟩ := by decide +kernel
theorem pd_24 : parseMethodDescriptor "(Ljava/lang/String;IILjava/lang/String;)Z" = some ⟨[(.object "java/lang/String"), .int, .int, (.object "java/lang/String")], some .boolean⟩ := by decide +kernel
theorem pd_25 : parseMethodDescriptor "(CC)Z" = some ⟨[.char, .char], some .boolean⟩ := by decide +kernel
abbrev fr_ini4 (m : MethodId) (a1 : Addr) (a2 : Addr) (pc : Nat)  (st : List Value) : JFrame := mkF m pc #[vR a1, vR a2, vI 0, vI 0, .val .null, .unset] st
def Q_ini4 (Z : State) (a1 : Addr) (a2 : Addr) (c0 : Value) (h0 : Heap) (n0 : Nat) (v : Option Value) (h : Heap) (L : List Loc) : Prop := v = none ∧ Fr n0 L ∧ Keep h0 h [a1] ∧ Exa Z h a1 "java/lang/String" ∧ Fld Z h a1 "java/lang/String" "coder" "B" (iV 0) ∧ ∃ (t : Addr) (kb : ClassId), Fld Z h a1 "java/lang/String" "value" "[B" (.ref t) ∧ Arv Z h t kb .byte (0 : Int32) [] (iV 0)
theorem ef_ini4 (m : MethodId) (x0 : Addr) (x1 : Addr) (x2 : Int32) (x3 : Int32)  : entryFrame m #[(.ref x0), (.ref x1), (.int x2), (.int x3), .null] 6 = mkF m 0 #[vR x0, vR x1, vI x2, vI x3, .val .null, .unset] [] := by first | (simp [entryFrame, mkF, argsToLocals, Value.category]; done) | rfl
set_option maxRecDepth 65536 in
set_option maxHeartbeats 40000000 in
theorem c_ini4 (l : Launch) (Z : State) (a0 : Array Value) (hw : HW a0 Z) (ws : List Jvm.Cond) (a1 : Addr) (a2 : Addr) (c0 : Value) (h0 : Heap) (n0 : Nat) (Z0 : n0 ≤ h0.size) (E1 : Exa Z h0 a1 "java/lang/String") (F1 : Fld Z h0 a1 "java/lang/String" "value" "[B" .null) (F2 : Fld Z h0 a1 "java/lang/String" "coder" "B" c0) (g1 : n0 ≤ a1) :
  MetFree l yM0 (head1 (Jvm.Cond.code yM0 jdk_42_method_149_code 6 none :: ws) ({ frames := 1, cells := 4, slots := 8, locals := 12 } : Room)) (fun a U => a = #[(.ref a1), (.ref a2), (iV 0), (iV 0), .null] ∧ Z.Warmed39 U.vm ∧ U.heap = h0 ∧ CHv Z ownEL U.vm h0) (fun _ _ _ _ _ => True) (fun _ U o U' => ∃ v L, o = .returned v ∧ (Q_ini4 Z a1 a2 c0 h0 n0) v U'.heap L ∧ CHr Z ownEL U.vm U.heap U'.vm U'.heap ∧ ReturnedEndW U o U' L ({ frames := 1, cells := 4, slots := 8, locals := 12 } : Room).cells ({ frames := 1, cells := 4, slots := 8, locals := 12 } : Room).slots) := by
 refine MetFree.of_bodySF (plainFor_of_name pn_1) hisR ?_
 intro p e s m args below meth c s₁ Bd hml0 hP hK
 obtain ⟨rfl, hZ, hHp, hCH⟩ := hP
 have hx := Bd.exec
 have D := fun {pc : Nat} {r} (h : decode _ pc = r) => hb Bd.bytes h
 have hml : c.maxLocals = 6 := hml0
 have hown : s.vm.findClass "java/lang/String" = some m.cls := findClass_of_methodNamed Bd.named
 have hnm := (name_of_methodNamed Bd.named Bd.method).1
 have X0 : Stand p l e ({ frames := 1, cells := 4, slots := 8, locals := 12 } : Room) (s.setVm s.vm) m #[(.ref a1), (.ref a2), (iV 0), (iV 0), .null] below meth c s₁ [] 0 0 := Stand.of_body Bd
 have e0 : s₁.heap = h0 := by rw [← hHp, Bd.state]; rfl
 have N0 := Fr.nil n0
 refine ownOutH hHp (P := (Q_ini4 Z a1 a2 c0 h0 n0)) ?_
 refine ownBy (A := s₁.setTop (mkF m 0 #[vR a1, vR a2, vI 0, vI 0, .val .null, .unset] [])) (fun t k => castTop (ef_ini4 m a1 a2 (0 : Int32) (0 : Int32)) k) ?_
 have hS0 : s.Since s.vm h0.size := own_since
 have hEL := own_EW hw
 have R0 := CHr.refl hCH
 have wS := own_wS hw
 have sfa1 : Safe Z ownEL s.vm h0 a1 := own_safe_blank hZ.alike E1 F1
 refine oTo s₁ (fr_ini4 m a1 a2 1  [(.ref a1)]) (fun t kt => ?_) ?_
 ·refine XS.aloadN X0.here hx rfl (D d2_0) rfl rfl ?_
  exact kt
 obtain ⟨T21, X21, e21, st21⟩ := initO X0 hx hZ hown (Wd13 hw) (Wd14 hw) (Wd15 hw) e0 (g := (fr_ini4 m a1 a2 1  [(.ref a1)])) rfl (by rw [hml]; rfl) rfl (D d2_1) (by decide) (W := 0) (by show 2 * 0 + _ ≤ _; exact Nat.le_of_eq rfl) (by decide)
 refine ownBy st21 ?_
 clear st21
 show oA p e below _ T21 (fr_ini4 m a1 a2 4  [])
 refine oTo T21 (fr_ini4 m a1 a2 9  [(.ref a1)]) (fun t kt => ?_) ?_
 ·refine XS.iloadN X21.here hx rfl (D d2_4) rfl ?_
  refine XS.ifNo X21.here hx rfl (D d2_5) rfl ((if0 _ _).trans (teq ((by decide) : (0 : Int32) = (0 : Int32))).2) ?_
  refine XS.aloadN X21.here hx rfl (D d2_8) rfl rfl ?_
  exact kt
 obtain ⟨a22, T22, h22, k22, b22, kb22, X22, e22, E22, hS22, hk22, hZ22, hown22, A22, C22, V22, Ab22, -, -, hC22, Lt22, hne22, st22⟩ := ldcCH (text := "") X21 hx hZ hown (Wd72 hw) wS e21 hS0 (Nat.le_refl _) hEL (by simp [ownEL]) R0.1 (vs := []) (z := (0 : Int32)) ⟨by decide, by decide⟩ (by decide) rfl (g := (fr_ini4 m a1 a2 9  [(.ref a1)])) rfl (D d2_9) (n := 0) (by decide) (by decide) (by decide) (by decide)
 have R24 := R0.trans hC22
 have sf25 := CHr.safe hC22 E1.lt sfa1
 have ne26 := hne22 a1 sf25
 refine ownBy st22 ?_
 clear st22
 show oA p e below _ T22 (fr_ini4 m a1 a2 11  [(.ref a22), (.ref a1)])
 refine own_getF X22 hx hZ22 hown22 (host := "") (Or.inl (Wd30 hw)) Via.refl e22 V22 (D d2_11) (fun T27 X27 e27 => ?_)
 have f29 := (F1.ext E22)
 have f30 := (E1.ext E22)
 obtain ⟨T28, h28, X28, e28, W28, st28⟩ := putF X27 hx hZ22 hown22 (host := "") (Or.inl (Wd30 hw)) Via.refl e27 f29 f30 (Or.inr ⟨(Wd31 hw), rfl, hnm⟩) (Wd4 hw) (ty := (.array .byte)) (by decide) rfl rfl (g := (fr_ini4 m a1 a2 14  [(.ref b22), (.ref a1)])) rfl rfl (D d2_14)
 have F31 := f29.same W28
 have N32 := Fr.snoc X28 N0 g1
 have R33 := R24.trans (CHr.wr W28 sf25 R24.1)
 have sf34 := Safe.wr W28 sf25 R24.1 sf25
 obtain ⟨Lh35, Xh35, Nh35⟩ := oHd 2 4 X28 N32 rfl rfl
 refine ownBy st28 ?_
 clear st28
 show oA p e below _ T28 (fr_ini4 m a1 a2 17  [])
 refine oTo T28 (fr_ini4 m a1 a2 18  [(.ref a1)]) (fun t kt => ?_) ?_
 ·refine XS.aloadN Xh35.here hx rfl (D d2_17) rfl rfl ?_
  exact kt
 obtain ⟨a36, T36, h36, k36, b36, kb36, X36, e36, E36, hS36, hk36, hZ36, hown36, A36, C36, V36, Ab36, -, -, hC36, Lt36, hne36, st36⟩ := ldcCH (text := "") Xh35 hx hZ22 hown22 (Wd72 hw) wS e28 hS22 (Nat.le_trans hk22 (Keep.of_wr W28).1) hEL (by simp [ownEL]) R33.1 (vs := []) (z := (0 : Int32)) ⟨by decide, by decide⟩ (by decide) rfl (g := (fr_ini4 m a1 a2 18  [(.ref a1)])) rfl (D d2_18) (n := 0) (by decide) (by decide) (by decide) (by decide)
 have R38 := R33.trans hC36
 have f40 := (f30.wr W28)
 have sf39 := CHr.safe hC36 f40.lt sf34
 have ne41 := hne36 a1 sf39
 refine ownBy st36 ?_
 clear st36
 show oA p e below _ T36 (fr_ini4 m a1 a2 20  [(.ref a36), (.ref a1)])
 refine own_getF X36 hx hZ36 hown36 (host := "") (Or.inl (Wd28 hw)) Via.refl e36 C36 (D d2_20) (fun T42 X42 e42 => ?_)
 have f44 := (((F2.ext E22).other W28 (Or.inr (slot_ne (Or.inr (Wd29 hw)) (Or.inr (Wd31 hw)) (by decide) (t := .byte) (t' := (.array .byte)) (by decide) (by decide)))).ext E36)
 have f45 := (f40.ext E36)
 obtain ⟨T43, h43, X43, e43, W43, st43⟩ := putFN X42 hx hZ36 hown36 (Wd28 hw) Via.refl e42 f44 f45 (Or.inr ⟨(Wd29 hw), rfl, hnm⟩) (Wd4 hw) (ty := .byte) (v' := (iV 0)) (by decide) rfl (fits_nar_byte (0 : Int32)) (g := (fr_ini4 m a1 a2 23  [(iV 0), (.ref a1)])) rfl rfl (D d2_23)
 have F46 := f44.same W43
 have N47 := Fr.snoc X43 Nh35 g1
 have R48 := R38.trans (CHr.wr W43 sf39 R38.1)
 have sf49 := Safe.wr W43 sf39 R38.1 sf39
 obtain ⟨Lh50, Xh50, Nh50⟩ := oHd 4 8 X43 N47 rfl rfl
 refine ownBy st43 ?_
 clear st43
 show oA p e below _ T43 (fr_ini4 m a1 a2 26  [])
 have f51 := (((((Keep.refl h0 [a1]).ext E22).wr W28 (Or.inl (List.mem_of_getElem? (i := 0) rfl))).ext E36).wr W43 (Or.inl (List.mem_of_getElem? (i := 0) rfl)))
 have f52 := (f45.wr W43)
 have f53 := ((F31.ext E36).other W43 (Or.inr (slot_ne (Or.inr (Wd31 hw)) (Or.inr (Wd29 hw)) (by decide) (t := (.array .byte)) (t' := .byte) (by decide) (by decide))))
 have f54 := (((Ab22.other W28 (Ne.symm ne26.2)).ext E36).other W43 (Ne.symm ne26.2))
 refine ownRetH Xh50 hS36 (by rw [e43]; exact (Nat.le_trans hk36 (Keep.of_wr W43).1)) Bd.notSynchronized (v := none) (fun _ => rfl) ?_ (R48.trans ((by rw [e43]; exact CHv.at Xh50 hZ36 hEL R48.1))) (oLe rfl) (oLe rfl) (fun fs hr => Xh50.returnOut hx Bd.returns (D d2_26) hr)
 show (Q_ini4 Z a1 a2 c0 h0 n0) (none) T43.heap _
 rw [e43]
 exact ⟨rfl, Nh50, f51, f52, F46, b22, kb22, f53, f54⟩
abbrev fr_ini0 (m : MethodId) (a1 : Addr) (a2 : Addr) (pc : Nat)  (st : List Value) : JFrame := mkF m pc #[vR a1, vR a2] st
def Q_ini0 (Z : State) (a1 : Addr) (a2 : Addr) (c0 : Value) (kC : ClassId) (h0 : Heap) (n0 : Nat) (v : Option Value) (h : Heap) (L : List Loc) : Prop := v = none ∧ Fr n0 L ∧ Keep h0 h [a1] ∧ Exa Z h a1 "java/lang/String" ∧ Fld Z h a1 "java/lang/String" "coder" "B" (iV 0) ∧ ∃ (t : Addr) (kb : ClassId), Fld Z h a1 "java/lang/String" "value" "[B" (.ref t) ∧ Arv Z h t kb .byte (0 : Int32) [] (iV 0)
theorem ef_ini0 (m : MethodId) (x0 : Addr) (x1 : Addr)  : entryFrame m #[(.ref x0), (.ref x1)] 2 = mkF m 0 #[vR x0, vR x1] [] := by first | (simp [entryFrame, mkF, argsToLocals, Value.category]; done) | rfl
set_option maxRecDepth 65536 in
set_option maxHeartbeats 40000000 in
theorem c_ini0 (l : Launch) (Z : State) (a0 : Array Value) (hw : HW a0 Z) (ws : List Jvm.Cond) (a1 : Addr) (a2 : Addr) (c0 : Value) (kC : ClassId) (h0 : Heap) (n0 : Nat) (Z0 : n0 ≤ h0.size) (E1 : Exa Z h0 a1 "java/lang/String") (F1 : Fld Z h0 a1 "java/lang/String" "value" "[B" .null) (F2 : Fld Z h0 a1 "java/lang/String" "coder" "B" c0) (g1 : n0 ≤ a1) (V1 : Arv Z h0 a2 kC .char (0 : Int32) [] (iV 0)) (ne1 : a1 ≠ a2) :
  MetFree l yM1 (head1 (Jvm.Cond.code yM1 jdk_42_method_3_code 2 none :: ws) ({ frames := 2, cells := 4, slots := 8, locals := 29 } : Room)) (fun a U => a = #[(.ref a1), (.ref a2)] ∧ Z.Warmed39 U.vm ∧ U.heap = h0 ∧ CHv Z ownEL U.vm h0) (fun _ _ _ _ _ => True) (fun _ U o U' => ∃ v L, o = .returned v ∧ (Q_ini0 Z a1 a2 c0 kC h0 n0) v U'.heap L ∧ CHr Z ownEL U.vm U.heap U'.vm U'.heap ∧ ReturnedEndW U o U' L ({ frames := 2, cells := 4, slots := 8, locals := 29 } : Room).cells ({ frames := 2, cells := 4, slots := 8, locals := 29 } : Room).slots) := by
 refine MetFree.of_bodySF (plainFor_of_name pn_1) hisR ?_
 intro p e s m args below meth c s₁ Bd hml0 hP hK
 obtain ⟨rfl, hZ, hHp, hCH⟩ := hP
 have hx := Bd.exec
 have D := fun {pc : Nat} {r} (h : decode _ pc = r) => hb Bd.bytes h
 have hml : c.maxLocals = 2 := hml0
 have hown : s.vm.findClass "java/lang/String" = some m.cls := findClass_of_methodNamed Bd.named
 have hnm := (name_of_methodNamed Bd.named Bd.method).1
 have X0 : Stand p l e ({ frames := 2, cells := 4, slots := 8, locals := 29 } : Room) (s.setVm s.vm) m #[(.ref a1), (.ref a2)] below meth c s₁ [] 0 0 := Stand.of_body Bd
 have e0 : s₁.heap = h0 := by rw [← hHp, Bd.state]; rfl
 have N0 := Fr.nil n0
 refine ownOutH hHp (P := (Q_ini0 Z a1 a2 c0 kC h0 n0)) ?_
 refine ownBy (A := s₁.setTop (mkF m 0 #[vR a1, vR a2] [])) (fun t k => castTop (ef_ini0 m a1 a2) k) ?_
 have hS0 : s.Since s.vm h0.size := own_since
 have hEL := own_EW hw
 have R0 := CHr.refl hCH
 have wS := own_wS hw
 have sfa1 : Safe Z ownEL s.vm h0 a1 := own_safe_blank hZ.alike E1 F1
 refine oTo s₁ (fr_ini0 m a1 a2 4  [(.ref a2), (iV 0), (.ref a2), (.ref a1)]) (fun t kt => ?_) ?_
 ·refine XS.aloadN X0.here hx rfl (D d1_0) rfl rfl ?_
  refine XS.aloadN X0.here hx rfl (D d1_1) rfl rfl ?_
  refine XS.iconst X0.here hx rfl (D d1_2) ?_
  refine XS.aloadN X0.here hx rfl (D d1_3) rfl rfl ?_
  exact kt
 obtain ⟨cl21, Ar21, -, S21, N21, -, -⟩ := id V1
 have st21 := X0.arraylength hx (by rw [e0]; exact Ar21.1) (State.isArrayOf_alike hZ.alike Ar21.2.1) (g := (fr_ini0 m a1 a2 4  [(.ref a2), (iV 0), (.ref a2), (.ref a1)])) rfl rfl (D d1_4)
 rw [len_of S21 N21] at st21
 refine ownBy st21 ?_
 show oA p e below _ s₁ (fr_ini0 m a1 a2 5  [(iV 0), (iV 0), (.ref a2), (.ref a1)])
 refine oTo s₁ (fr_ini0 m a1 a2 6  [.null, (iV 0), (iV 0), (.ref a2), (.ref a1)]) (fun t kt => ?_) ?_
 ·refine XS.aconstNull X0.here hx rfl (D d1_5) ?_
  exact kt
 obtain ⟨vv22, _, ⟨T22, L22, k22, n22⟩, -, X22, hS22, hg22, ⟨Lc22, hQ22, l22, y22, z22, hC22⟩, st22⟩ := X0.specialBackS hx (y := yM0) rfl hown (mvT hZ (Wd9 hw)) (mvT hZ (Wd10 hw)) (mvT hZ (Wd12 hw)) (by decide) (backOfSH (W := 0) (s := s) (EL := ownEL) (c_ini4 l Z a0 hw [] a1 a2 _ h0 n0 Z0 E1 F1 F2 g1) hZ (Wd12 hw) (Wd5 hw) (by decide) (by decide) hEL R0.1) (g := (fr_ini0 m a1 a2 6  [.null, (iV 0), (iV 0), (.ref a2), (.ref a1)])) rfl (by rw [hml]; rfl) (Steps.refl _) (a := a1) (argsL := [(.ref a2), (iV 0), (iV 0), .null]) (rest := []) (lenOf pd_2 rfl) rfl (by show 2 * 0 + _ ≤ _; exact Nat.le_of_eq rfl) (D d1_6) (fun _ _ => ⟨rfl, e0, (by decide : 0 + 4 ≤ _), (by decide : 0 + 8 ≤ _)⟩)
 dsimp only [Pt.U, Pt.locs, Pt.cells, Pt.slots] at X22 l22 y22 z22 st22 hQ22 hS22 hg22 hC22
 subst l22 y22 z22
 obtain ⟨rfl, Nq22, Kq22, Eq22, Cq22, t22, kb22, Vq22, Aq22⟩ := hQ22
 have N23 := Fr.app N0 Nq22
 have R25 := R0.trans hC22
 have sf26 := CHr.safe hC22 E1.lt sfa1
 obtain ⟨XR27, hSR27, hZ27, hown27⟩ := rebS hS0 (by rw [e0]; exact (Nat.le_refl _)) X22 hS22 hg22 hZ hown
 obtain ⟨Lh28, Xh28, Nh28⟩ := oHd 4 8 XR27 N23 rfl rfl
 refine ownSt st22 ?_
 clear st22
 show oA p e below _ T22 (fr_ini0 m a1 a2 9  [])
 have f29 := ((Keep.refl h0 [a1]).trans Kq22 (allS (Or.inl (List.mem_of_getElem? (i := 0) rfl)) all0))
 have f30 := (E1.keep Kq22)
 refine ownRetH Xh28 hSR27 (Nat.le_refl _) Bd.notSynchronized (v := none) (fun _ => rfl) ?_ (R25.trans (CHv.at Xh28 hZ27 hEL R25.1)) (oLe rfl) (oLe rfl) (fun fs hr => Xh28.returnOut hx Bd.returns (D d1_9) hr)
 show (Q_ini0 Z a1 a2 c0 kC h0 n0) (none) T22.heap _
 exact ⟨rfl, Nh28, f29, f30, Cq22, t22, kb22, Vq22, Aq22⟩
abbrev fr_put (m : MethodId) (ta : Addr) (cc : Int32) (pc : Nat) (x1_ : Slot) (st : List Value) : JFrame := mkF m pc #[vR ta, x1_, vI cc] st
def Q_put (Z : State) (ta : Addr) (kb : ClassId) (z : Int32) (vs : List Value) (i : Int32) (cc : Int32) (k : Nat) (h0 : Heap) (n0 : Nat) (v : Option Value) (h : Heap) (L : List Loc) : Prop := v = none ∧ Fr n0 L ∧ Keep h0 h [ta] ∧ Arv Z h ta kb .byte z ((vs.set k (.int (oW cc))).set (k + 1) (.int (oH cc))) (iV 0)
theorem ef_put (m : MethodId) (x0 : Addr) (x1 : Int32) (x2 : Int32)  : entryFrame m #[(.ref x0), (.int x1), (.int x2)] 3 = mkF m 0 #[vR x0, vI x1, vI x2] [] := by first | (simp [entryFrame, mkF, argsToLocals, Value.category]; done) | rfl
set_option maxRecDepth 65536 in
set_option maxHeartbeats 40000000 in
theorem c_put (l : Launch) (Z : State) (a0 : Array Value) (hw : HW a0 Z) (ws : List Jvm.Cond) (ta : Addr) (kb : ClassId) (z : Int32) (vs : List Value) (i : Int32) (cc : Int32) (k : Nat) (h0 : Heap) (n0 : Nat) (Z0 : n0 ≤ h0.size) (At : Arv Z h0 ta kb .byte z vs (iV 0)) (gt : n0 ≤ ta) (q0 : ¬ (i <<< ((1 : Int32) &&& 31)) < 0 ∧ (i <<< ((1 : Int32) &&& 31)) < z) (q1 : ¬ ((i <<< ((1 : Int32) &&& 31)) + (1 : Int32)) < 0 ∧ ((i <<< ((1 : Int32) &&& 31)) + (1 : Int32)) < z) (k0 : (i <<< ((1 : Int32) &&& 31)).toNatClampNeg = k) (k1 : ((i <<< ((1 : Int32) &&& 31)) + (1 : Int32)).toNatClampNeg = k + 1) (hl : k + 1 < vs.length) (SA : Sta Z Z.heap "java/lang/StringUTF16" "$assertionsDisabled" "Z" (iV 1)) (SHI : Sta Z Z.heap "java/lang/StringUTF16" "HI_BYTE_SHIFT" "I" (iV 0)) (SLO : Sta Z Z.heap "java/lang/StringUTF16" "LO_BYTE_SHIFT" "I" (iV 8)) (X00 : Old Z n0 h0) :
  MetFree l yM2 (head1 (Jvm.Cond.code yM2 jdk_52_method_4_code 3 none :: ws) ({ frames := 0, cells := 0, slots := 0, locals := 0 } : Room)) (fun a U => a = #[(.ref ta), (.int i), (.int cc)] ∧ Z.Warmed39 U.vm ∧ U.heap = h0) (fun _ _ _ _ _ => True) (fun _ U o U' => ∃ v L, o = .returned v ∧ (Q_put Z ta kb z vs i cc k h0 n0) v U'.heap L ∧ FrameEnd U o U' L ({ frames := 0, cells := 0, slots := 0, locals := 0 } : Room).cells ({ frames := 0, cells := 0, slots := 0, locals := 0 } : Room).slots) := by
 refine MetFree.of_bodySF (plainFor_of_name pn_3) hisR ?_
 intro p e s m args below meth c s₁ Bd hml0 hP hK
 obtain ⟨rfl, hZ, hHp⟩ := hP
 have hx := Bd.exec
 have D := fun {pc : Nat} {r} (h : decode _ pc = r) => hb Bd.bytes h
 have hml : c.maxLocals = 3 := hml0
 have hown : s.vm.findClass "java/lang/StringUTF16" = some m.cls := findClass_of_methodNamed Bd.named
 have hnm := (name_of_methodNamed Bd.named Bd.method).1
 have X0 : Stand p l e ({ frames := 0, cells := 0, slots := 0, locals := 0 } : Room) s m #[(.ref ta), (.int i), (.int cc)] below meth c s₁ [] 0 0 := Stand.of_body Bd
 have e0 : s₁.heap = h0 := by rw [← hHp, Bd.state]; rfl
 have N0 := Fr.nil n0
 refine ownOut (P := (Q_put Z ta kb z vs i cc k h0 n0)) ?_
 refine ownBy (A := s₁.setTop (mkF m 0 #[vR ta, vI i, vI cc] [])) (fun t k => castTop (ef_put m ta i cc) k) ?_
 refine own_getS X0 hx hZ hown (host := "") (Or.inl (Wd88 hw)) Via.refl e0 (SA.ext X00.2) (D d19_0) (fun T21 X21 e21 => ?_)
 refine oTo T21 (fr_put m ta cc 38 (.val (.int ((i <<< ((1 : Int32) &&& 31)) + (1 : Int32)))) [(.int cc), (.int (i <<< ((1 : Int32) &&& 31))), (.ref ta)]) (fun t kt => ?_) ?_
 ·refine XS.ifYes X21.here hx rfl (pc0 := 3) (pc' := 28) rfl (D d19_3) rfl ((if0 _ _).trans (feq ((by decide) : ¬ ((1 : Int32) = (0 : Int32)))).2) (by decide) (by decide) ?_
  refine XS.iloadN X21.here hx rfl (D d19_28) rfl ?_
  refine XS.iconst X21.here hx rfl (D d19_29) ?_
  refine XS.ishl X21.here hx rfl (D d19_30) rfl ?_
  show Steps p.tables e below (T21.setTop (fr_put m ta cc 31 (vI i) [(.int (i <<< ((1 : Int32) &&& 31)))])) t
  refine XS.istoreN X21.here hx rfl (D d19_31) rfl (l' := #[vR ta, .val (.int (i <<< ((1 : Int32) &&& 31))), vI cc]) rfl ?_
  refine XS.aloadN X21.here hx rfl (D d19_32) rfl rfl ?_
  refine XS.iloadN X21.here hx rfl (D d19_33) rfl ?_
  refine XS.iinc X21.here hx rfl (D d19_34) rfl (l' := #[vR ta, .val (.int ((i <<< ((1 : Int32) &&& 31)) + (1 : Int32))), vI cc]) rfl ?_
  show Steps p.tables e below (T21.setTop (fr_put m ta cc 37 (.val (.int ((i <<< ((1 : Int32) &&& 31)) + (1 : Int32)))) [(.int (i <<< ((1 : Int32) &&& 31))), (.ref ta)])) t
  refine XS.iloadN X21.here hx rfl (D d19_37) rfl ?_
  exact kt
 refine own_getS X21 hx hZ hown (host := "") (Or.inl (Wd89 hw)) Via.refl e21 (SHI.ext X00.2) (D d19_38) (fun T22 X22 e22 => ?_)
 refine oTo T22 (fr_put m ta cc 43 (.val (.int ((i <<< ((1 : Int32) &&& 31)) + (1 : Int32)))) [(.int ((cc >>> ((0 : Int32) &&& 31)).toInt8.toInt32)), (.int (i <<< ((1 : Int32) &&& 31))), (.ref ta)]) (fun t kt => ?_) ?_
 ·refine XS.ishr X22.here hx rfl (D d19_41) rfl ?_
  refine XS.i2b X22.here hx rfl (D d19_42) rfl ?_
  exact kt
 obtain ⟨cl23, Ar23, q23, S23, N23, H23, G23⟩ := id At
 have hin23 : ¬ ((i <<< ((1 : Int32) &&& 31)) < 0 ∨ cl23.slots.size ≤ ((i <<< ((1 : Int32) &&& 31))).toNatClampNeg) := inb_of S23 q0
 obtain ⟨T23, h23, X23, e23, W23, st23⟩ := stB X22 hx hZ e22 Ar23 (j := (i <<< ((1 : Int32) &&& 31))) hin23 (g := (fr_put m ta cc 43 (.val (.int ((i <<< ((1 : Int32) &&& 31)) + (1 : Int32)))) [(.int ((cc >>> ((0 : Int32) &&& 31)).toInt8.toInt32)), (.int (i <<< ((1 : Int32) &&& 31))), (.ref ta)])) rfl rfl (D d19_43)
 have V24 : Arv Z h23 ta kb .byte z (vs.set (k) (.int (nar .byte ((cc >>> ((0 : Int32) &&& 31)).toInt8.toInt32)))) (iV 0) := Arv.set Ar23 q23 S23 N23 H23 G23 (fits_nar_byte _) W23 (k) k0 (Nat.lt_of_succ_lt hl)
 rw [own_nar_byte (cc >>> ((0 : Int32) &&& 31))] at V24
 have N25 := Fr.snoc X23 N0 gt
 obtain ⟨Lh26, Xh26, Nh26⟩ := oHd 0 0 X23 N25 rfl rfl
 refine ownBy st23 ?_
 clear st23
 show oA p e below _ T23 (fr_put m ta cc 44 (.val (.int ((i <<< ((1 : Int32) &&& 31)) + (1 : Int32)))) [])
 refine oTo T23 (fr_put m ta cc 47 (.val (.int ((i <<< ((1 : Int32) &&& 31)) + (1 : Int32)))) [(.int cc), (.int ((i <<< ((1 : Int32) &&& 31)) + (1 : Int32))), (.ref ta)]) (fun t kt => ?_) ?_
 ·refine XS.aloadN Xh26.here hx rfl (D d19_44) rfl rfl ?_
  refine XS.iloadN Xh26.here hx rfl (D d19_45) rfl ?_
  refine XS.iloadN Xh26.here hx rfl (D d19_46) rfl ?_
  exact kt
 have f28 := (X00.wr W23 gt)
 refine own_getS Xh26 hx hZ hown (host := "") (Or.inl (Wd90 hw)) Via.refl e23 (SLO.ext f28.2) (D d19_47) (fun T27 X27 e27 => ?_)
 refine oTo T27 (fr_put m ta cc 52 (.val (.int ((i <<< ((1 : Int32) &&& 31)) + (1 : Int32)))) [(.int ((cc >>> ((8 : Int32) &&& 31)).toInt8.toInt32)), (.int ((i <<< ((1 : Int32) &&& 31)) + (1 : Int32))), (.ref ta)]) (fun t kt => ?_) ?_
 ·refine XS.ishr X27.here hx rfl (D d19_50) rfl ?_
  refine XS.i2b X27.here hx rfl (D d19_51) rfl ?_
  exact kt
 obtain ⟨cl29, Ar29, q29, S29, N29, H29, G29⟩ := id V24
 have hin29 : ¬ (((i <<< ((1 : Int32) &&& 31)) + (1 : Int32)) < 0 ∨ cl29.slots.size ≤ (((i <<< ((1 : Int32) &&& 31)) + (1 : Int32))).toNatClampNeg) := inb_of S29 q1
 obtain ⟨T29, h29, X29, e29, W29, st29⟩ := stB X27 hx hZ e27 Ar29 (j := ((i <<< ((1 : Int32) &&& 31)) + (1 : Int32))) hin29 (g := (fr_put m ta cc 52 (.val (.int ((i <<< ((1 : Int32) &&& 31)) + (1 : Int32)))) [(.int ((cc >>> ((8 : Int32) &&& 31)).toInt8.toInt32)), (.int ((i <<< ((1 : Int32) &&& 31)) + (1 : Int32))), (.ref ta)])) rfl rfl (D d19_52)
 have V30 : Arv Z h29 ta kb .byte z ((vs.set (k) (.int ((cc >>> ((0 : Int32) &&& 31)).toInt8.toInt32))).set (k + 1) (.int (nar .byte ((cc >>> ((8 : Int32) &&& 31)).toInt8.toInt32)))) (iV 0) := Arv.set Ar29 q29 S29 N29 H29 G29 (fits_nar_byte _) W29 (k + 1) k1 (by rw [List.length_set]; exact hl)
 rw [own_nar_byte (cc >>> ((8 : Int32) &&& 31))] at V30
 have N31 := Fr.snoc X29 Nh26 gt
 obtain ⟨Lh32, Xh32, Nh32⟩ := oHd 0 0 X29 N31 rfl rfl
 refine ownBy st29 ?_
 clear st29
 show oA p e below _ T29 (fr_put m ta cc 53 (.val (.int ((i <<< ((1 : Int32) &&& 31)) + (1 : Int32)))) [])
 have f33 := (((Keep.refl h0 [ta]).wr W23 (Or.inl (List.mem_of_getElem? (i := 0) rfl))).wr W29 (Or.inl (List.mem_of_getElem? (i := 0) rfl)))
 refine ownRet Xh32 Bd.notSynchronized (v := none) (fun _ => rfl) ?_ (oLe rfl) (oLe rfl) (fun fs hr => Xh32.returnOut hx Bd.returns (D d19_53) hr)
 show (Q_put Z ta kb z vs i cc k h0 n0) (none) T29.heap _
 rw [e29]
 exact ⟨rfl, Nh32, f33, V30⟩
abbrev fr_nbl (m : MethodId) (i : Int32) (pc : Nat)  (st : List Value) : JFrame := mkF m pc #[vI i] st
def Q_nbl (Z : State) (i : Int32) (z : Int32) (h0 : Heap) (n0 : Nat) (v : Option Value) (h : Heap) (L : List Loc) : Prop := v = some (.int z) ∧ Fr n0 L ∧ h = h0
theorem ef_nbl (m : MethodId) (x0 : Int32)  : entryFrame m #[(.int x0)] 1 = mkF m 0 #[vI x0] [] := by first | (simp [entryFrame, mkF, argsToLocals, Value.category]; done) | rfl
set_option maxRecDepth 65536 in
set_option maxHeartbeats 40000000 in
theorem c_nbl (l : Launch) (Z : State) (a0 : Array Value) (hw : HW a0 Z) (ws : List Jvm.Cond) (i : Int32) (z : Int32) (h0 : Heap) (n0 : Nat) (Z0 : n0 ≤ h0.size) (i0 : ¬ i < (0 : Int32)) (i1 : i < (1073741823 : Int32)) (hz : (i <<< ((1 : Int32) &&& 31)) = z) :
  MetFree l yM3 (head1 (Jvm.Cond.code yM3 jdk_52_method_3_code 1 (some .int) :: ws) ({ frames := 0, cells := 0, slots := 0, locals := 0 } : Room)) (fun a U => a = #[(.int i)] ∧ Z.Warmed39 U.vm ∧ U.heap = h0) (fun _ _ _ _ _ => True) (fun _ U o U' => ∃ v L, o = .returned v ∧ (Q_nbl Z i z h0 n0) v U'.heap L ∧ FrameEnd U o U' L ({ frames := 0, cells := 0, slots := 0, locals := 0 } : Room).cells ({ frames := 0, cells := 0, slots := 0, locals := 0 } : Room).slots) := by
 refine MetFree.of_bodySF (plainFor_of_name pn_3) hisR ?_
 intro p e s m args below meth c s₁ Bd hml0 hP hK
 obtain ⟨rfl, hZ, hHp⟩ := hP
 have hx := Bd.exec
 have D := fun {pc : Nat} {r} (h : decode _ pc = r) => hb Bd.bytes h
 have hml : c.maxLocals = 1 := hml0
 have hown : s.vm.findClass "java/lang/StringUTF16" = some m.cls := findClass_of_methodNamed Bd.named
 have hnm := (name_of_methodNamed Bd.named Bd.method).1
 have X0 : Stand p l e ({ frames := 0, cells := 0, slots := 0, locals := 0 } : Room) s m #[(.int i)] below meth c s₁ [] 0 0 := Stand.of_body Bd
 have e0 : s₁.heap = h0 := by rw [← hHp, Bd.state]; rfl
 have N0 := Fr.nil n0
 refine ownOut (P := (Q_nbl Z i z h0 n0)) ?_
 refine ownBy (A := s₁.setTop (mkF m 0 #[vI i] [])) (fun t k => castTop (ef_nbl m i) k) ?_
 refine oTo s₁ (fr_nbl m i 13  [(.int i)]) (fun t kt => ?_) ?_
 ·refine XS.iloadN X0.here hx rfl (D d18_0) rfl ?_
  refine XS.ifYes X0.here hx rfl (pc0 := 1) (pc' := 12) rfl (D d18_1) rfl ((if0 _ _).trans (flt i0).2.1) (by decide) (by decide) ?_
  refine XS.iloadN X0.here hx rfl (D d18_12) rfl ?_
  exact kt
 refine ownBy (X0.ldcInt hx hown (mvT hZ (Wd84 hw)) (g := (fr_nbl m i 13  [(.int i)])) rfl (D d18_13)) ?_
 show oA p e below _ s₁ (fr_nbl m i 15  [(iV 1073741823), (.int i)])
 refine oTo s₁ (fr_nbl m i 58  [(.int (i <<< ((1 : Int32) &&& 31)))]) (fun t kt => ?_) ?_
 ·refine XS.icmpYes X0.here hx rfl (pc0 := 15) (pc' := 55) rfl (D d18_15) rfl (tlt i1).1 (by decide) (by decide) ?_
  refine XS.iloadN X0.here hx rfl (D d18_55) rfl ?_
  refine XS.iconst X0.here hx rfl (D d18_56) ?_
  refine XS.ishl X0.here hx rfl (D d18_57) rfl ?_
  exact kt
 refine ownRet X0 Bd.notSynchronized (v := some (.int (i <<< ((1 : Int32) &&& 31)))) (fun h => by rw [Bd.returns] at h; cases h) ?_ (oLe rfl) (oLe rfl) (fun fs hr => retI X0 hx Bd.returns (D d18_58) hr)
 show (Q_nbl Z i z h0 n0) (some (.int (i <<< ((1 : Int32) &&& 31)))) s₁.heap _
 rw [e0]
 refine ⟨?_, N0, rfl⟩
 rw [hz]
abbrev fr_cfa (m : MethodId) (ta : Addr) (i : Int32) (pc : Nat)  (st : List Value) : JFrame := mkF m pc #[vR ta, vI i] st
def Q_cfa (Z : State) (ta : Addr) (kb : ClassId) (z : Int32) (vs : List Value) (i : Int32) (kk : Int32) (h0 : Heap) (n0 : Nat) (v : Option Value) (h : Heap) (L : List Loc) : Prop := v = some (.int kk) ∧ Fr n0 L ∧ h = h0
theorem ef_cfa (m : MethodId) (x0 : Addr) (x1 : Int32)  : entryFrame m #[(.ref x0), (.int x1)] 2 = mkF m 0 #[vR x0, vI x1] [] := by first | (simp [entryFrame, mkF, argsToLocals, Value.category]; done) | rfl
set_option maxRecDepth 65536 in
set_option maxHeartbeats 40000000 in
theorem c_cfa (l : Launch) (Z : State) (a0 : Array Value) (hw : HW a0 Z) (ws : List Jvm.Cond) (ta : Addr) (kb : ClassId) (z : Int32) (vs : List Value) (i : Int32) (kk : Int32) (h0 : Heap) (n0 : Nat) (Z0 : n0 ≤ h0.size) (At : Arv Z h0 ta kb .byte z vs (iV 0)) (hk : nar .byte ((((i - z).toUInt32 >>> ((31 : Int32) &&& 31).toUInt32).toInt32).toInt8.toInt32) = kk) :
  MetFree l yM4 (head1 (Jvm.Cond.code yM4 jdk_52_method_15_code 2 (some .byte) :: ws) ({ frames := 0, cells := 0, slots := 0, locals := 0 } : Room)) (fun a U => a = #[(.ref ta), (.int i)] ∧ Z.Warmed39 U.vm ∧ U.heap = h0) (fun _ _ _ _ _ => True) (fun _ U o U' => ∃ v L, o = .returned v ∧ (Q_cfa Z ta kb z vs i kk h0 n0) v U'.heap L ∧ FrameEnd U o U' L ({ frames := 0, cells := 0, slots := 0, locals := 0 } : Room).cells ({ frames := 0, cells := 0, slots := 0, locals := 0 } : Room).slots) := by
 refine MetFree.of_bodySF (plainFor_of_name pn_3) hisR ?_
 intro p e s m args below meth c s₁ Bd hml0 hP hK
 obtain ⟨rfl, hZ, hHp⟩ := hP
 have hx := Bd.exec
 have D := fun {pc : Nat} {r} (h : decode _ pc = r) => hb Bd.bytes h
 have hml : c.maxLocals = 2 := hml0
 have hown : s.vm.findClass "java/lang/StringUTF16" = some m.cls := findClass_of_methodNamed Bd.named
 have hnm := (name_of_methodNamed Bd.named Bd.method).1
 have X0 : Stand p l e ({ frames := 0, cells := 0, slots := 0, locals := 0 } : Room) s m #[(.ref ta), (.int i)] below meth c s₁ [] 0 0 := Stand.of_body Bd
 have e0 : s₁.heap = h0 := by rw [← hHp, Bd.state]; rfl
 have N0 := Fr.nil n0
 refine ownOut (P := (Q_cfa Z ta kb z vs i kk h0 n0)) ?_
 refine ownBy (A := s₁.setTop (mkF m 0 #[vR ta, vI i] [])) (fun t k => castTop (ef_cfa m ta i) k) ?_
 refine oTo s₁ (fr_cfa m ta i 2  [(.ref ta), (.int i)]) (fun t kt => ?_) ?_
 ·refine XS.iloadN X0.here hx rfl (D d6_0) rfl ?_
  refine XS.aloadN X0.here hx rfl (D d6_1) rfl rfl ?_
  exact kt
 obtain ⟨cl21, Ar21, -, S21, N21, -, -⟩ := id At
 have st21 := X0.arraylength hx (by rw [e0]; exact Ar21.1) (State.isArrayOf_alike hZ.alike Ar21.2.1) (g := (fr_cfa m ta i 2  [(.ref ta), (.int i)])) rfl rfl (D d6_2)
 rw [len_of S21 N21] at st21
 refine ownBy st21 ?_
 show oA p e below _ s₁ (fr_cfa m ta i 3  [(.int z), (.int i)])
 refine oTo s₁ (fr_cfa m ta i 8  [(.int ((((i - z).toUInt32 >>> ((31 : Int32) &&& 31).toUInt32).toInt32).toInt8.toInt32))]) (fun t kt => ?_) ?_
 ·refine XS.isub X0.here hx rfl (D d6_3) rfl ?_
  refine XS.bipush X0.here hx rfl (D d6_4) ?_
  refine XS.iushr X0.here hx rfl (D d6_6) rfl ?_
  refine XS.i2b X0.here hx rfl (D d6_7) rfl ?_
  exact kt
 refine ownRet X0 Bd.notSynchronized (v := some (.int (nar .byte ((((i - z).toUInt32 >>> ((31 : Int32) &&& 31).toUInt32).toInt32).toInt8.toInt32)))) (fun h => by rw [Bd.returns] at h; cases h) ?_ (oLe rfl) (oLe rfl) (fun fs hr => retN X0 hx (t := .byte) Bd.returns (by simp) (D d6_8) hr)
 show (Q_cfa Z ta kb z vs i kk h0 n0) (some (.int (nar .byte ((((i - z).toUInt32 >>> ((31 : Int32) &&& 31).toUInt32).toInt32).toInt8.toInt32)))) s₁.heap _
 rw [e0]
 refine ⟨?_, N0, rfl⟩
 rw [hk]
abbrev fr_getc (m : MethodId) (ta : Addr) (pc : Nat) (x1_ : Slot) (st : List Value) : JFrame := mkF m pc #[vR ta, x1_] st
def Q_getc (Z : State) (ta : Addr) (kb : ClassId) (z : Int32) (vs : List Value) (i : Int32) (cc : Int32) (k : Nat) (h0 : Heap) (n0 : Nat) (v : Option Value) (h : Heap) (L : List Loc) : Prop := v = some (.int cc) ∧ Fr n0 L ∧ h = h0
theorem ef_getc (m : MethodId) (x0 : Addr) (x1 : Int32)  : entryFrame m #[(.ref x0), (.int x1)] 2 = mkF m 0 #[vR x0, vI x1] [] := by first | (simp [entryFrame, mkF, argsToLocals, Value.category]; done) | rfl
set_option maxRecDepth 65536 in
set_option maxHeartbeats 40000000 in
theorem c_getc (l : Launch) (Z : State) (a0 : Array Value) (hw : HW a0 Z) (ws : List Jvm.Cond) (ta : Addr) (kb : ClassId) (z : Int32) (vs : List Value) (i : Int32) (cc : Int32) (k : Nat) (h0 : Heap) (n0 : Nat) (Z0 : n0 ≤ h0.size) (At : Arv Z h0 ta kb .byte z vs (iV 0)) (q0 : ¬ (i <<< ((1 : Int32) &&& 31)) < 0 ∧ (i <<< ((1 : Int32) &&& 31)) < z) (q1 : ¬ ((i <<< ((1 : Int32) &&& 31)) + (1 : Int32)) < 0 ∧ ((i <<< ((1 : Int32) &&& 31)) + (1 : Int32)) < z) (k0 : (i <<< ((1 : Int32) &&& 31)).toNatClampNeg = k) (k1 : ((i <<< ((1 : Int32) &&& 31)) + (1 : Int32)).toNatClampNeg = k + 1) (u0 : vs.getD k (iV 0) = .int (oW cc)) (u1 : vs.getD (k + 1) (iV 0) = .int (oH cc)) (hc : ¬ cc < 0 ∧ ¬ (65535 : Int32) < cc) (SA : Sta Z Z.heap "java/lang/StringUTF16" "$assertionsDisabled" "Z" (iV 1)) (SHI : Sta Z Z.heap "java/lang/StringUTF16" "HI_BYTE_SHIFT" "I" (iV 0)) (SLO : Sta Z Z.heap "java/lang/StringUTF16" "LO_BYTE_SHIFT" "I" (iV 8)) (X00 : Old Z n0 h0) :
  MetFree l yM5 (head1 (Jvm.Cond.code yM5 jdk_52_method_5_code 2 (some .char) :: ws) ({ frames := 0, cells := 0, slots := 0, locals := 0 } : Room)) (fun a U => a = #[(.ref ta), (.int i)] ∧ Z.Warmed39 U.vm ∧ U.heap = h0) (fun _ _ _ _ _ => True) (fun _ U o U' => ∃ v L, o = .returned v ∧ (Q_getc Z ta kb z vs i cc k h0 n0) v U'.heap L ∧ FrameEnd U o U' L ({ frames := 0, cells := 0, slots := 0, locals := 0 } : Room).cells ({ frames := 0, cells := 0, slots := 0, locals := 0 } : Room).slots) := by
 refine MetFree.of_bodySF (plainFor_of_name pn_3) hisR ?_
 intro p e s m args below meth c s₁ Bd hml0 hP hK
 obtain ⟨rfl, hZ, hHp⟩ := hP
 have hx := Bd.exec
 have D := fun {pc : Nat} {r} (h : decode _ pc = r) => hb Bd.bytes h
 have hml : c.maxLocals = 2 := hml0
 have hown : s.vm.findClass "java/lang/StringUTF16" = some m.cls := findClass_of_methodNamed Bd.named
 have hnm := (name_of_methodNamed Bd.named Bd.method).1
 have X0 : Stand p l e ({ frames := 0, cells := 0, slots := 0, locals := 0 } : Room) s m #[(.ref ta), (.int i)] below meth c s₁ [] 0 0 := Stand.of_body Bd
 have e0 : s₁.heap = h0 := by rw [← hHp, Bd.state]; rfl
 have N0 := Fr.nil n0
 refine ownOut (P := (Q_getc Z ta kb z vs i cc k h0 n0)) ?_
 refine ownBy (A := s₁.setTop (mkF m 0 #[vR ta, vI i] [])) (fun t k => castTop (ef_getc m ta i) k) ?_
 refine own_getS X0 hx hZ hown (host := "") (Or.inl (Wd88 hw)) Via.refl e0 (SA.ext X00.2) (D d20_0) (fun T21 X21 e21 => ?_)
 refine oTo T21 (fr_getc m ta 37 (.val (.int ((i <<< ((1 : Int32) &&& 31)) + (1 : Int32)))) [(.int (i <<< ((1 : Int32) &&& 31))), (.ref ta)]) (fun t kt => ?_) ?_
 ·refine XS.ifYes X21.here hx rfl (pc0 := 3) (pc' := 28) rfl (D d20_3) rfl ((if0 _ _).trans (feq ((by decide) : ¬ ((1 : Int32) = (0 : Int32)))).2) (by decide) (by decide) ?_
  refine XS.iloadN X21.here hx rfl (D d20_28) rfl ?_
  refine XS.iconst X21.here hx rfl (D d20_29) ?_
  refine XS.ishl X21.here hx rfl (D d20_30) rfl ?_
  show Steps p.tables e below (T21.setTop (fr_getc m ta 31 (vI i) [(.int (i <<< ((1 : Int32) &&& 31)))])) t
  refine XS.istoreN X21.here hx rfl (D d20_31) rfl (l' := #[vR ta, .val (.int (i <<< ((1 : Int32) &&& 31)))]) rfl ?_
  refine XS.aloadN X21.here hx rfl (D d20_32) rfl rfl ?_
  refine XS.iloadN X21.here hx rfl (D d20_33) rfl ?_
  refine XS.iinc X21.here hx rfl (D d20_34) rfl (l' := #[vR ta, .val (.int ((i <<< ((1 : Int32) &&& 31)) + (1 : Int32)))]) rfl ?_
  exact kt
 obtain ⟨cl22, Ar22, q22, S22, N22, H22, G22⟩ := id At
 have hin22 : ¬ ((i <<< ((1 : Int32) &&& 31)) < 0 ∨ cl22.slots.size ≤ ((i <<< ((1 : Int32) &&& 31))).toNatClampNeg) := inb_of S22 q0
 have hat22 : cl22.slots[((i <<< ((1 : Int32) &&& 31))).toNatClampNeg]? = some (.int (oW cc)) := H22.at hin22 (by rw [k0]; exact u0)
 have st22 := X21.baloadBytes hx (j := (i <<< ((1 : Int32) &&& 31))) (v := (.int (oW cc))) (by rw [e21]; exact Ar22.1) (State.isArrayOf_alike hZ.alike Ar22.2.1) Ar22.2.2 hin22 hat22 (g := (fr_getc m ta 37 (.val (.int ((i <<< ((1 : Int32) &&& 31)) + (1 : Int32)))) [(.int (i <<< ((1 : Int32) &&& 31))), (.ref ta)])) rfl rfl (D d20_37)
 refine ownBy st22 ?_
 show oA p e below _ T21 (fr_getc m ta 38 (.val (.int ((i <<< ((1 : Int32) &&& 31)) + (1 : Int32)))) [(.int (oW cc))])
 refine oTo T21 (fr_getc m ta 42 (.val (.int ((i <<< ((1 : Int32) &&& 31)) + (1 : Int32)))) [(.int ((oW cc) &&& (255 : Int32)))]) (fun t kt => ?_) ?_
 ·refine XS.sipush X21.here hx rfl (D d20_38) ?_
  refine XS.iand X21.here hx rfl (D d20_41) rfl ?_
  exact kt
 refine own_getS X21 hx hZ hown (host := "") (Or.inl (Wd89 hw)) Via.refl e21 (SHI.ext X00.2) (D d20_42) (fun T23 X23 e23 => ?_)
 refine oTo T23 (fr_getc m ta 48 (.val (.int ((i <<< ((1 : Int32) &&& 31)) + (1 : Int32)))) [(.int ((i <<< ((1 : Int32) &&& 31)) + (1 : Int32))), (.ref ta), (.int (((oW cc) &&& (255 : Int32)) <<< ((0 : Int32) &&& 31)))]) (fun t kt => ?_) ?_
 ·refine XS.ishl X23.here hx rfl (D d20_45) rfl ?_
  refine XS.aloadN X23.here hx rfl (D d20_46) rfl rfl ?_
  refine XS.iloadN X23.here hx rfl (D d20_47) rfl ?_
  exact kt
 obtain ⟨cl24, Ar24, q24, S24, N24, H24, G24⟩ := id At
 have hin24 : ¬ (((i <<< ((1 : Int32) &&& 31)) + (1 : Int32)) < 0 ∨ cl24.slots.size ≤ (((i <<< ((1 : Int32) &&& 31)) + (1 : Int32))).toNatClampNeg) := inb_of S24 q1
 have hat24 : cl24.slots[(((i <<< ((1 : Int32) &&& 31)) + (1 : Int32))).toNatClampNeg]? = some (.int (oH cc)) := H24.at hin24 (by rw [k1]; exact u1)
 have st24 := X23.baloadBytes hx (j := ((i <<< ((1 : Int32) &&& 31)) + (1 : Int32))) (v := (.int (oH cc))) (by rw [e23]; exact Ar24.1) (State.isArrayOf_alike hZ.alike Ar24.2.1) Ar24.2.2 hin24 hat24 (g := (fr_getc m ta 48 (.val (.int ((i <<< ((1 : Int32) &&& 31)) + (1 : Int32)))) [(.int ((i <<< ((1 : Int32) &&& 31)) + (1 : Int32))), (.ref ta), (.int (((oW cc) &&& (255 : Int32)) <<< ((0 : Int32) &&& 31)))])) rfl rfl (D d20_48)
 refine ownBy st24 ?_
 show oA p e below _ T23 (fr_getc m ta 49 (.val (.int ((i <<< ((1 : Int32) &&& 31)) + (1 : Int32)))) [(.int (oH cc)), (.int (((oW cc) &&& (255 : Int32)) <<< ((0 : Int32) &&& 31)))])
 refine oTo T23 (fr_getc m ta 53 (.val (.int ((i <<< ((1 : Int32) &&& 31)) + (1 : Int32)))) [(.int ((oH cc) &&& (255 : Int32))), (.int (((oW cc) &&& (255 : Int32)) <<< ((0 : Int32) &&& 31)))]) (fun t kt => ?_) ?_
 ·refine XS.sipush X23.here hx rfl (D d20_49) ?_
  refine XS.iand X23.here hx rfl (D d20_52) rfl ?_
  exact kt
 refine own_getS X23 hx hZ hown (host := "") (Or.inl (Wd90 hw)) Via.refl e23 (SLO.ext X00.2) (D d20_53) (fun T25 X25 e25 => ?_)
 refine oTo T25 (fr_getc m ta 59 (.val (.int ((i <<< ((1 : Int32) &&& 31)) + (1 : Int32)))) [(.int (((((oW cc) &&& (255 : Int32)) <<< ((0 : Int32) &&& 31)) ||| (((oH cc) &&& (255 : Int32)) <<< ((8 : Int32) &&& 31))).toUInt32.toUInt16.toUInt32.toInt32))]) (fun t kt => ?_) ?_
 ·refine XS.ishl X25.here hx rfl (D d20_56) rfl ?_
  refine XS.ior X25.here hx rfl (D d20_57) rfl ?_
  refine XS.i2c X25.here hx rfl (D d20_58) rfl ?_
  exact kt
 refine ownRet X25 Bd.notSynchronized (v := some (.int (nar .char (((((oW cc) &&& (255 : Int32)) <<< ((0 : Int32) &&& 31)) ||| (((oH cc) &&& (255 : Int32)) <<< ((8 : Int32) &&& 31))).toUInt32.toUInt16.toUInt32.toInt32)))) (fun h => by rw [Bd.returns] at h; cases h) ?_ (oLe rfl) (oLe rfl) (fun fs hr => retN X25 hx (t := .char) Bd.returns (by simp) (D d20_59) hr)
 show (Q_getc Z ta kb z vs i cc k h0 n0) (some (.int (nar .char (((((oW cc) &&& (255 : Int32)) <<< ((0 : Int32) &&& 31)) ||| (((oH cc) &&& (255 : Int32)) <<< ((8 : Int32) &&& 31))).toUInt32.toUInt16.toUInt32.toInt32)))) T25.heap _
 rw [e25]
 refine ⟨?_, N0, rfl⟩
 rw [own_gc hc]
abbrev fr_nbf1 (m : MethodId)  (pc : Nat)  (st : List Value) : JFrame := mkF m pc #[vI 1] st
def Q_nbf1 (Z : State)  (h0 : Heap) (n0 : Nat) (v : Option Value) (h : Heap) (L : List Loc) : Prop := ∃ (ta : Addr) (kb : ClassId), v = some (.ref ta) ∧ Fr n0 L ∧ Keep h0 h [] ∧ h0.size ≤ ta ∧ Arv Z h ta kb .byte (2 : Int32) [(iV 0), (iV 0)] (iV 0)
theorem ef_nbf1 (m : MethodId) (x0 : Int32)  : entryFrame m #[(.int x0)] 1 = mkF m 0 #[vI x0] [] := by first | (simp [entryFrame, mkF, argsToLocals, Value.category]; done) | rfl
set_option maxRecDepth 65536 in
set_option maxHeartbeats 40000000 in
theorem c_nbf1 (l : Launch) (Z : State) (a0 : Array Value) (hw : HW a0 Z) (ws : List Jvm.Cond)  (h0 : Heap) (n0 : Nat) (Z0 : n0 ≤ h0.size) :
  MetFree l yM6 (head1 (Jvm.Cond.code yM6 jdk_52_method_2_code 1 (some (.array .byte)) :: ws) ({ frames := 1, cells := 1, slots := 2, locals := 12 } : Room)) (fun a U => a = #[(iV 1)] ∧ Z.Warmed39 U.vm ∧ U.heap = h0) (fun _ _ _ _ _ => True) (fun _ U o U' => ∃ v L, o = .returned v ∧ (Q_nbf1 Z  h0 n0) v U'.heap L ∧ FrameEnd U o U' L ({ frames := 1, cells := 1, slots := 2, locals := 12 } : Room).cells ({ frames := 1, cells := 1, slots := 2, locals := 12 } : Room).slots) := by
 refine MetFree.of_bodySF (plainFor_of_name pn_3) hisR ?_
 intro p e s m args below meth c s₁ Bd hml0 hP hK
 obtain ⟨rfl, hZ, hHp⟩ := hP
 have hx := Bd.exec
 have D := fun {pc : Nat} {r} (h : decode _ pc = r) => hb Bd.bytes h
 have hml : c.maxLocals = 1 := hml0
 have hown : s.vm.findClass "java/lang/StringUTF16" = some m.cls := findClass_of_methodNamed Bd.named
 have hnm := (name_of_methodNamed Bd.named Bd.method).1
 have X0 : Stand p l e ({ frames := 1, cells := 1, slots := 2, locals := 12 } : Room) s m #[(iV 1)] below meth c s₁ [] 0 0 := Stand.of_body Bd
 have e0 : s₁.heap = h0 := by rw [← hHp, Bd.state]; rfl
 have N0 := Fr.nil n0
 refine ownOut (P := (Q_nbf1 Z  h0 n0)) ?_
 refine ownBy (A := s₁.setTop (mkF m 0 #[vI 1] [])) (fun t k => castTop (ef_nbf1 m (1 : Int32)) k) ?_
 refine oTo s₁ (fr_nbf1 m  1  [(iV 1)]) (fun t kt => ?_) ?_
 ·refine XS.iloadN X0.here hx rfl (D d17_0) rfl ?_
  exact kt
 obtain ⟨vv21, _, ⟨T21, L21, k21, n21⟩, -, X21, ⟨Lc21, hQ21, l21, y21, z21⟩, st21⟩ := Jvm.LawKit.callS X0 hx (y := yM3) hown (mvT hZ (Wd81 hw)) (mvT hZ (Wd82 hw)) (mvT hZ (Wd19 hw)) (mvT hZ (Wd83 hw)) (by decide) (backOf (W := 0) (c_nbl l Z a0 hw [] (1 : Int32) (2 : Int32) h0 n0 Z0 (by decide) (by decide) (by decide +kernel)) hZ (Wd83 hw) (Wd19 hw) (by decide) (by decide)) (g := (fr_nbf1 m  1  [(iV 1)])) rfl (by rw [hml]; rfl) (argsL := [(iV 1)]) (rest := []) (lenOf pd_4 rfl) rfl (by show 2 * 0 + _ ≤ _; exact Nat.le_of_eq rfl) (D d17_1) (fun _ _ => ⟨rfl, e0, (by decide : 0 + 0 ≤ _), (by decide : 0 + 0 ≤ _)⟩)
 dsimp only [Pt.U, Pt.locs, Pt.cells, Pt.slots] at X21 l21 y21 z21 st21 hQ21
 subst l21 y21 z21
 obtain ⟨rfl, Nq21, Eq21⟩ := hQ21
 have N22 := Fr.app N0 Nq21
 obtain ⟨Lh23, Xh23, Nh23⟩ := oHd 0 0 X21 N22 rfl rfl
 refine ownBy st21 ?_
 clear st21
 show oA p e below _ T21 (fr_nbf1 m  4  [(iV 2)])
 obtain ⟨T24, h24, k24, X24, e24, E24, A24, st24⟩ := newP Xh23 hx hZ (aty := .byte) (Wd21 hw) Eq21 (g := (fr_nbf1 m  4  [(iV 2)])) rfl (D d17_4) rfl (by decide : ¬ ((2 : Int32) < (0 : Int32))) (cap := 2) (by decide) (by decide) (by decide) (by decide)
 obtain ⟨b24, g24⟩ : ∃ z, z = h0.size := ⟨_, rfl⟩
 rw [← g24] at A24 st24
 have g25 : n0 ≤ b24 := Nat.le_trans Z0 (Nat.le_of_eq g24.symm)
 have z26 : h0.size ≤ b24 := Nat.le_trans (Nat.le_refl h0.size) (Nat.le_of_eq g24.symm)
 have V27 : Arv Z h24 b24 k24 .byte (2 : Int32) [(iV 0), (iV 0)] (iV 0) := (Arv.new A24 (by decide)).pad (pad_rep [] (iV 0) 2)
 refine ownBy st24 ?_
 clear st24
 show oA p e below _ T24 (fr_nbf1 m  6  [(.ref b24)])
 have f28 := ((Keep.refl h0 []).ext E24)
 refine ownRet X24 Bd.notSynchronized (v := some (.ref b24)) (fun h => by rw [Bd.returns] at h; cases h) ?_ (oLe rfl) (oLe rfl) (fun fs hr => retOut X24 hx Bd.returns rfl (Or.inr (Or.inr (Or.inr (Or.inr ⟨rfl, rfl, rfl⟩)))) (D d17_6) hr)
 show (Q_nbf1 Z  h0 n0) (some (.ref b24)) T24.heap _
 rw [e24]
 exact ⟨b24, k24, rfl, Nh23, f28, z26, V27⟩
abbrev fr_tob1 (m : MethodId) (a2 : Addr) (pc : Nat) (x1_ x3_ x4_ : Slot) (st : List Value) : JFrame := mkF m pc #[vR a2, x1_, vI 1, x3_, x4_] st
def Q_tob1 (Z : State) (a2 : Addr) (kC : ClassId) (c0 : Int32) (h0 : Heap) (n0 : Nat) (v : Option Value) (h : Heap) (L : List Loc) : Prop := ∃ (ta : Addr) (kb : ClassId), v = some (.ref ta) ∧ Fr n0 L ∧ Keep h0 h [] ∧ h0.size ≤ ta ∧ Arv Z h ta kb .byte (2 : Int32) [(.int (oW c0)), (.int (oH c0))] (iV 0)
theorem ef_tob1 (m : MethodId) (x0 : Addr) (x1 : Int32) (x2 : Int32)  : entryFrame m #[(.ref x0), (.int x1), (.int x2)] 5 = mkF m 0 #[vR x0, vI x1, vI x2, .unset, .unset] [] := by first | (simp [entryFrame, mkF, argsToLocals, Value.category]; done) | rfl
set_option maxRecDepth 65536 in
set_option maxHeartbeats 40000000 in
theorem c_tob1 (l : Launch) (Z : State) (a0 : Array Value) (hw : HW a0 Z) (ws : List Jvm.Cond) (a2 : Addr) (kC : ClassId) (c0 : Int32) (h0 : Heap) (n0 : Nat) (Z0 : n0 ≤ h0.size) (A2 : Arv Z h0 a2 kC .char (1 : Int32) [(.int c0)] (iV 0)) (SA : Sta Z Z.heap "java/lang/StringUTF16" "$assertionsDisabled" "Z" (iV 1)) (SHI : Sta Z Z.heap "java/lang/StringUTF16" "HI_BYTE_SHIFT" "I" (iV 0)) (SLO : Sta Z Z.heap "java/lang/StringUTF16" "LO_BYTE_SHIFT" "I" (iV 8)) (X00 : Old Z n0 h0) :
  MetFree l yM7 (head1 (Jvm.Cond.code yM7 jdk_52_method_14_code 5 (some (.array .byte)) :: ws) ({ frames := 2, cells := 1, slots := 2, locals := 24 } : Room)) (fun a U => a = #[(.ref a2), (iV 0), (iV 1)] ∧ Z.Warmed39 U.vm ∧ U.heap = h0) (fun _ _ _ _ _ => True) (fun _ U o U' => ∃ v L, o = .returned v ∧ (Q_tob1 Z a2 kC c0 h0 n0) v U'.heap L ∧ FrameEnd U o U' L ({ frames := 2, cells := 1, slots := 2, locals := 24 } : Room).cells ({ frames := 2, cells := 1, slots := 2, locals := 24 } : Room).slots) := by
 refine MetFree.of_bodySF (plainFor_of_name pn_3) hisR ?_
 intro p e s m args below meth c s₁ Bd hml0 hP hK
 obtain ⟨rfl, hZ, hHp⟩ := hP
 have hx := Bd.exec
 have D := fun {pc : Nat} {r} (h : decode _ pc = r) => hb Bd.bytes h
 have hml : c.maxLocals = 5 := hml0
 have hown : s.vm.findClass "java/lang/StringUTF16" = some m.cls := findClass_of_methodNamed Bd.named
 have hnm := (name_of_methodNamed Bd.named Bd.method).1
 have X0 : Stand p l e ({ frames := 2, cells := 1, slots := 2, locals := 24 } : Room) s m #[(.ref a2), (iV 0), (iV 1)] below meth c s₁ [] 0 0 := Stand.of_body Bd
 have e0 : s₁.heap = h0 := by rw [← hHp, Bd.state]; rfl
 have N0 := Fr.nil n0
 refine ownOut (P := (Q_tob1 Z a2 kC c0 h0 n0)) ?_
 refine ownBy (A := s₁.setTop (mkF m 0 #[vR a2, vI 0, vI 1, .unset, .unset] [])) (fun t k => castTop (ef_tob1 m a2 (0 : Int32) (1 : Int32)) k) ?_
 refine oTo s₁ (fr_tob1 m a2 1 (vI 0) .unset .unset [(iV 1)]) (fun t kt => ?_) ?_
 ·refine XS.iloadN X0.here hx rfl (D d16_0) rfl ?_
  exact kt
 obtain ⟨vv21, _, ⟨T21, L21, k21, n21⟩, -, X21, ⟨Lc21, hQ21, l21, y21, z21⟩, st21⟩ := Jvm.LawKit.callS X0 hx (y := yM6) hown (mvT hZ (Wd78 hw)) (mvT hZ (Wd79 hw)) (mvT hZ (Wd19 hw)) (mvT hZ (Wd80 hw)) (by decide) (backOf (W := 0) (c_nbf1 l Z a0 hw []  h0 n0 Z0 ) hZ (Wd80 hw) (Wd19 hw) (by decide) (by decide)) (g := (fr_tob1 m a2 1 (vI 0) .unset .unset [(iV 1)])) rfl (by rw [hml]; rfl) (argsL := [(iV 1)]) (rest := []) (lenOf pd_5 rfl) rfl (by show 2 * 0 + _ ≤ _; exact Nat.le_of_eq rfl) (D d16_1) (fun _ _ => ⟨rfl, e0, (by decide : 0 + 1 ≤ _), (by decide : 0 + 2 ≤ _)⟩)
 dsimp only [Pt.U, Pt.locs, Pt.cells, Pt.slots] at X21 l21 y21 z21 st21 hQ21
 subst l21 y21 z21
 obtain ⟨t21, kb21, rfl, Nq21, Kq21, zq21, Aq21⟩ := hQ21
 have ne22 : a2 ≠ t21 := Nat.ne_of_lt (Nat.lt_of_lt_of_le A2.lt zq21)
 have g23 : n0 ≤ t21 := Nat.le_trans Z0 zq21
 have z24 : h0.size ≤ t21 := Nat.le_trans (Nat.le_refl h0.size) zq21
 have N25 := Fr.app N0 Nq21
 obtain ⟨Lh26, Xh26, Nh26⟩ := oHd 1 2 X21 N25 rfl rfl
 refine ownBy st21 ?_
 clear st21
 show oA p e below _ T21 (fr_tob1 m a2 4 (vI 0) .unset .unset [(.ref t21)])
 refine oTo T21 (fr_tob1 m a2 19 (vI 0) (vR t21) (vI 0) [(iV 0), (.ref a2), (iV 0), (.ref t21)]) (fun t kt => ?_) ?_
 ·refine XS.astoreN Xh26.here hx rfl (D d16_4) rfl rfl (l' := #[vR a2, vI 0, vI 1, vR t21, .unset]) rfl ?_
  refine XS.iconst Xh26.here hx rfl (D d16_5) ?_
  refine XS.istore Xh26.here hx rfl (D d16_6) rfl (l' := #[vR a2, vI 0, vI 1, vR t21, vI 0]) rfl ?_
  refine XS.iload Xh26.here hx rfl (D d16_8) rfl ?_
  show Steps p.tables e below (T21.setTop (fr_tob1 m a2 10 (vI 0) (vR t21) (vI 0) [(iV 0)])) t
  refine XS.iloadN Xh26.here hx rfl (D d16_10) rfl ?_
  refine XS.icmpNo Xh26.here hx rfl (D d16_11) rfl (tlt ((by decide) : (0 : Int32) < (1 : Int32))).2.1 ?_
  refine XS.aloadN Xh26.here hx rfl (D d16_14) rfl rfl ?_
  refine XS.iload Xh26.here hx rfl (D d16_15) rfl ?_
  show Steps p.tables e below (T21.setTop (fr_tob1 m a2 17 (vI 0) (vR t21) (vI 0) [(iV 0), (.ref t21)])) t
  refine XS.aloadN Xh26.here hx rfl (D d16_17) rfl rfl ?_
  refine XS.iloadN Xh26.here hx rfl (D d16_18) rfl ?_
  exact kt
 have f27 := (A2.keep Kq21 nin0)
 obtain ⟨cl28, Ar28, q28, S28, N28, H28, G28⟩ := id f27
 have hin28 : ¬ ((0 : Int32) < 0 ∨ cl28.slots.size ≤ ((0 : Int32)).toNatClampNeg) := inb_of S28 ⟨by decide, by decide⟩
 have hat28 : cl28.slots[((0 : Int32)).toNatClampNeg]? = some (.int c0) := H28.at hin28 rfl
 have st28 := Xh26.caload hx (j := (0 : Int32)) (v := (.int c0)) Ar28.1 (State.isArrayOf_alike hZ.alike Ar28.2.1) Ar28.2.2 hin28 hat28 (g := (fr_tob1 m a2 19 (vI 0) (vR t21) (vI 0) [(iV 0), (.ref a2), (iV 0), (.ref t21)])) rfl rfl (D d16_19)
 refine ownBy st28 ?_
 show oA p e below _ T21 (fr_tob1 m a2 20 (vI 0) (vR t21) (vI 0) [(.int c0), (iV 0), (.ref t21)])
 have f29 := (X00.keep Kq21 all0)
 have f30 := (Nat.le_trans Z0 Kq21.1)
 obtain ⟨vv31, _, ⟨T31, L31, k31, n31⟩, -, X31, ⟨Lc31, hQ31, l31, y31, z31⟩, st31⟩ := Jvm.LawKit.callS Xh26 hx (y := yM2) hown (mvT hZ (Wd85 hw)) (mvT hZ (Wd86 hw)) (mvT hZ (Wd19 hw)) (mvT hZ (Wd87 hw)) (by decide) (backOf (W := 0) (c_put l Z a0 hw [] t21 kb21 (2 : Int32) [(iV 0), (iV 0)] (0 : Int32) c0 0 T21.heap n0 f30 Aq21 g23 ⟨by decide +kernel, by decide +kernel⟩ ⟨by decide +kernel, by decide +kernel⟩ (by decide +kernel) (by decide +kernel) (oLe rfl) SA SHI SLO f29) hZ (Wd87 hw) (Wd19 hw) (by decide) (by decide)) (g := (fr_tob1 m a2 20 (vI 0) (vR t21) (vI 0) [(.int c0), (iV 0), (.ref t21)])) rfl (by rw [hml]; rfl) (argsL := [(.ref t21), (iV 0), (.int c0)]) (rest := []) (lenOf pd_6 rfl) rfl (by show 2 * 0 + _ ≤ _; exact Nat.le_of_eq rfl) (D d16_20) (fun _ _ => ⟨rfl, rfl, (by decide : 1 + 0 ≤ _), (by decide : 2 + 0 ≤ _)⟩)
 dsimp only [Pt.U, Pt.locs, Pt.cells, Pt.slots] at X31 l31 y31 z31 st31 hQ31
 subst l31 y31 z31
 obtain ⟨rfl, Nq31, Kq31, Ap31⟩ := hQ31
 have Aq31 : Arv Z T31.heap t21 kb21 .byte (2 : Int32) [(.int (oW c0)), (.int (oH c0))] (iV 0) := Ap31
 have N32 := Fr.app Nh26 Nq31
 obtain ⟨Lh33, Xh33, Nh33⟩ := oHd 1 2 X31 N32 rfl rfl
 refine ownBy st31 ?_
 clear st31
 show oA p e below _ T31 (fr_tob1 m a2 23 (vI 0) (vR t21) (vI 0) [])
 refine oTo T31 (fr_tob1 m a2 33 (vI 1) (vR t21) (vI 1) [(.ref t21)]) (fun t kt => ?_) ?_
 ·refine XS.iinc Xh33.here hx rfl (D d16_23) rfl (l' := #[vR a2, vI 1, vI 1, vR t21, vI 0]) rfl ?_
  refine XS.iinc Xh33.here hx rfl (D d16_26) rfl (l' := #[vR a2, vI 1, vI 1, vR t21, vI 1]) rfl ?_
  refine XS.goto Xh33.here hx rfl (pc0 := 29) (pc' := 8) rfl (D d16_29) (by decide) (by decide) ?_
  refine XS.iload Xh33.here hx rfl (D d16_8) rfl ?_
  show Steps p.tables e below (T31.setTop (fr_tob1 m a2 10 (vI 1) (vR t21) (vI 1) [(iV 1)])) t
  refine XS.iloadN Xh33.here hx rfl (D d16_10) rfl ?_
  refine XS.icmpYes Xh33.here hx rfl (pc0 := 11) (pc' := 32) rfl (D d16_11) rfl (flt ((by decide) : ¬ ((1 : Int32) < (1 : Int32)))).2.1 (by decide) (by decide) ?_
  refine XS.aloadN Xh33.here hx rfl (D d16_32) rfl rfl ?_
  exact kt
 have f34 := (((Keep.refl h0 []).trans Kq21 all0).trans Kq31 (allS (Or.inr z24) all0))
 refine ownRet Xh33 Bd.notSynchronized (v := some (.ref t21)) (fun h => by rw [Bd.returns] at h; cases h) ?_ (oLe rfl) (oLe rfl) (fun fs hr => retOut Xh33 hx Bd.returns rfl (Or.inr (Or.inr (Or.inr (Or.inr ⟨rfl, rfl, rfl⟩)))) (D d16_33) hr)
 show (Q_tob1 Z a2 kC c0 h0 n0) (some (.ref t21)) T31.heap _
 exact ⟨t21, kb21, rfl, Nh33, f34, z24, Aq31⟩
abbrev fr_cp5_1 (m : MethodId) (a2 : Addr) (ta : Addr) (pc : Nat) (x1_ x3_ x5_ x6_ : Slot) (st : List Value) : JFrame := mkF m pc #[vR a2, x1_, vR ta, x3_, vI 1, x5_, x6_] st
def Q_cp5_1 (Z : State) (a2 : Addr) (kC : ClassId) (ta : Addr) (kb : ClassId) (c0 : Int32) (h0 : Heap) (n0 : Nat) (v : Option Value) (h : Heap) (L : List Loc) : Prop := ∃ r : Int32, v = some (.int r) ∧ Fr n0 L ∧ Keep h0 h [ta] ∧ ((r = (1 : Int32) ∧ ¬ ((255 : Int32) < c0) ∧ Arv Z h ta kb .byte (1 : Int32) [(.int (oL c0))] (iV 0)) ∨ (r = (0 : Int32) ∧ (255 : Int32) < c0))
theorem ef_cp5_1 (m : MethodId) (x0 : Addr) (x1 : Int32) (x2 : Addr) (x3 : Int32) (x4 : Int32)  : entryFrame m #[(.ref x0), (.int x1), (.ref x2), (.int x3), (.int x4)] 7 = mkF m 0 #[vR x0, vI x1, vR x2, vI x3, vI x4, .unset, .unset] [] := by first | (simp [entryFrame, mkF, argsToLocals, Value.category]; done) | rfl
set_option maxRecDepth 65536 in
set_option maxHeartbeats 40000000 in
theorem c_cp5_1 (l : Launch) (Z : State) (a0 : Array Value) (hw : HW a0 Z) (ws : List Jvm.Cond) (a2 : Addr) (kC : ClassId) (ta : Addr) (kb : ClassId) (c0 : Int32) (h0 : Heap) (n0 : Nat) (Z0 : n0 ≤ h0.size) (A2 : Arv Z h0 a2 kC .char (1 : Int32) [(.int c0)] (iV 0)) (At : Arv Z h0 ta kb .byte (1 : Int32) [(iV 0)] (iV 0)) (gt : n0 ≤ ta) (ne1 : a2 ≠ ta) :
  MetFree l yM8 (head1 (Jvm.Cond.code yM8 jdk_52_method_21_code 7 (some .int) :: ws) ({ frames := 0, cells := 0, slots := 0, locals := 0 } : Room)) (fun a U => a = #[(.ref a2), (iV 0), (.ref ta), (iV 0), (iV 1)] ∧ Z.Warmed39 U.vm ∧ U.heap = h0) (fun _ _ _ _ _ => True) (fun _ U o U' => ∃ v L, o = .returned v ∧ (Q_cp5_1 Z a2 kC ta kb c0 h0 n0) v U'.heap L ∧ FrameEnd U o U' L ({ frames := 0, cells := 0, slots := 0, locals := 0 } : Room).cells ({ frames := 0, cells := 0, slots := 0, locals := 0 } : Room).slots) := by
 refine MetFree.of_bodySF (plainFor_of_name pn_3) hisR ?_
 intro p e s m args below meth c s₁ Bd hml0 hP hK
 obtain ⟨rfl, hZ, hHp⟩ := hP
 have hx := Bd.exec
 have D := fun {pc : Nat} {r} (h : decode _ pc = r) => hb Bd.bytes h
 have hml : c.maxLocals = 7 := hml0
 have hown : s.vm.findClass "java/lang/StringUTF16" = some m.cls := findClass_of_methodNamed Bd.named
 have hnm := (name_of_methodNamed Bd.named Bd.method).1
 have X0 : Stand p l e ({ frames := 0, cells := 0, slots := 0, locals := 0 } : Room) s m #[(.ref a2), (iV 0), (.ref ta), (iV 0), (iV 1)] below meth c s₁ [] 0 0 := Stand.of_body Bd
 have e0 : s₁.heap = h0 := by rw [← hHp, Bd.state]; rfl
 have N0 := Fr.nil n0
 refine ownOut (P := (Q_cp5_1 Z a2 kC ta kb c0 h0 n0)) ?_
 refine ownBy (A := s₁.setTop (mkF m 0 #[vR a2, vI 0, vR ta, vI 0, vI 1, .unset, .unset] [])) (fun t k => castTop (ef_cp5_1 m a2 (0 : Int32) ta (0 : Int32) (1 : Int32)) k) ?_
 refine oTo s₁ (fr_cp5_1 m a2 ta 12 (vI 0) (vI 0) (vI 0) .unset [(iV 0), (.ref a2)]) (fun t kt => ?_) ?_
 ·refine XS.iconst X0.here hx rfl (D d5_0) ?_
  refine XS.istore X0.here hx rfl (D d5_1) rfl (l' := #[vR a2, vI 0, vR ta, vI 0, vI 1, vI 0, .unset]) rfl ?_
  refine XS.iload X0.here hx rfl (D d5_3) rfl ?_
  refine XS.iload X0.here hx rfl (D d5_5) rfl ?_
  show Steps p.tables e below (s₁.setTop (fr_cp5_1 m a2 ta 7 (vI 0) (vI 0) (vI 0) .unset [(iV 1), (iV 0)])) t
  refine XS.icmpNo X0.here hx rfl (D d5_7) rfl (tlt ((by decide) : (0 : Int32) < (1 : Int32))).2.1 ?_
  refine XS.aloadN X0.here hx rfl (D d5_10) rfl rfl ?_
  refine XS.iloadN X0.here hx rfl (D d5_11) rfl ?_
  exact kt
 obtain ⟨cl21, Ar21, q21, S21, N21, H21, G21⟩ := id A2
 have hin21 : ¬ ((0 : Int32) < 0 ∨ cl21.slots.size ≤ ((0 : Int32)).toNatClampNeg) := inb_of S21 ⟨by decide, by decide⟩
 have hat21 : cl21.slots[((0 : Int32)).toNatClampNeg]? = some (.int c0) := H21.at hin21 rfl
 have st21 := X0.caload hx (j := (0 : Int32)) (v := (.int c0)) (by rw [e0]; exact Ar21.1) (State.isArrayOf_alike hZ.alike Ar21.2.1) Ar21.2.2 hin21 hat21 (g := (fr_cp5_1 m a2 ta 12 (vI 0) (vI 0) (vI 0) .unset [(iV 0), (.ref a2)])) rfl rfl (D d5_12)
 refine ownBy st21 ?_
 show oA p e below _ s₁ (fr_cp5_1 m a2 ta 13 (vI 0) (vI 0) (vI 0) .unset [(.int c0)])
 refine oTo s₁ (fr_cp5_1 m a2 ta 20 (vI 0) (vI 0) (vI 0) (vI c0) [(iV 255), (.int c0)]) (fun t kt => ?_) ?_
 ·refine XS.istore X0.here hx rfl (D d5_13) rfl (l' := #[vR a2, vI 0, vR ta, vI 0, vI 1, vI 0, vI c0]) rfl ?_
  refine XS.iload X0.here hx rfl (D d5_15) rfl ?_
  refine XS.sipush X0.here hx rfl (D d5_17) ?_
  exact kt
 by_cases hc22 : (255 : Int32) < c0
 ·skip
  refine oTo s₁ (fr_cp5_1 m a2 ta 25 (vI 0) (vI 0) (vI 0) (vI c0) [(iV 0)]) (fun t kt => ?_) ?_
  ·refine XS.icmpNo X0.here hx rfl (D d5_20) rfl (tlt hc22).2.2.2 ?_
   refine XS.iload X0.here hx rfl (D d5_23) rfl ?_
   exact kt
  refine ownRet X0 Bd.notSynchronized (v := some (iV 0)) (fun h => by rw [Bd.returns] at h; cases h) ?_ (oLe rfl) (oLe rfl) (fun fs hr => retI X0 hx Bd.returns (D d5_25) hr)
  show (Q_cp5_1 Z a2 kC ta kb c0 h0 n0) (some (iV 0)) s₁.heap _
  rw [e0]
  exact ⟨_, rfl, N0, (Keep.refl h0 [ta]), Or.inr (⟨rfl, hc22⟩)⟩
 ·skip
  refine oTo s₁ (fr_cp5_1 m a2 ta 31 (vI 0) (vI 0) (vI 0) (vI c0) [(.int (c0.toInt8.toInt32)), (iV 0), (.ref ta)]) (fun t kt => ?_) ?_
  ·refine XS.icmpYes X0.here hx rfl (pc0 := 20) (pc' := 26) rfl (D d5_20) rfl (flt hc22).2.2.2 (by decide) (by decide) ?_
   refine XS.aloadN X0.here hx rfl (D d5_26) rfl rfl ?_
   refine XS.iloadN X0.here hx rfl (D d5_27) rfl ?_
   refine XS.iload X0.here hx rfl (D d5_28) rfl ?_
   show Steps p.tables e below (s₁.setTop (fr_cp5_1 m a2 ta 30 (vI 0) (vI 0) (vI 0) (vI c0) [(.int c0), (iV 0), (.ref ta)])) t
   refine XS.i2b X0.here hx rfl (D d5_30) rfl ?_
   exact kt
  obtain ⟨cl23, Ar23, q23, S23, N23, H23, G23⟩ := id At
  have hin23 : ¬ ((0 : Int32) < 0 ∨ cl23.slots.size ≤ ((0 : Int32)).toNatClampNeg) := inb_of S23 ⟨by decide, by decide⟩
  obtain ⟨T23, h23, X23, e23, W23, st23⟩ := stB X0 hx hZ e0 Ar23 (j := (0 : Int32)) hin23 (g := (fr_cp5_1 m a2 ta 31 (vI 0) (vI 0) (vI 0) (vI c0) [(.int (c0.toInt8.toInt32)), (iV 0), (.ref ta)])) rfl rfl (D d5_31)
  have V24 : Arv Z h23 ta kb .byte (1 : Int32) [(.int (nar .byte (c0.toInt8.toInt32)))] (iV 0) := Arv.set Ar23 q23 S23 N23 H23 G23 (fits_nar_byte _) W23 0 rfl (oLe rfl)
  rw [own_nar_byte c0] at V24
  clear hin23 G23 H23 N23 S23 q23 Ar23 cl23
  have N25 := Fr.snoc X23 N0 gt
  obtain ⟨Lh26, Xh26, Nh26⟩ := oHd 0 0 X23 N25 rfl rfl
  refine ownBy st23 ?_
  clear st23
  show oA p e below _ T23 (fr_cp5_1 m a2 ta 32 (vI 0) (vI 0) (vI 0) (vI c0) [])
  refine oTo T23 (fr_cp5_1 m a2 ta 46 (vI 1) (vI 1) (vI 1) (vI c0) [(iV 1)]) (fun t kt => ?_) ?_
  ·refine XS.iinc Xh26.here hx rfl (D d5_32) rfl (l' := #[vR a2, vI 1, vR ta, vI 0, vI 1, vI 0, vI c0]) rfl ?_
   refine XS.iinc Xh26.here hx rfl (D d5_35) rfl (l' := #[vR a2, vI 1, vR ta, vI 1, vI 1, vI 0, vI c0]) rfl ?_
   refine XS.iinc Xh26.here hx rfl (D d5_38) rfl (l' := #[vR a2, vI 1, vR ta, vI 1, vI 1, vI 1, vI c0]) rfl ?_
   refine XS.goto Xh26.here hx rfl (pc0 := 41) (pc' := 3) rfl (D d5_41) (by decide) (by decide) ?_
   show Steps p.tables e below (T23.setTop (fr_cp5_1 m a2 ta 3 (vI 1) (vI 1) (vI 1) (vI c0) [])) t
   refine XS.iload Xh26.here hx rfl (D d5_3) rfl ?_
   refine XS.iload Xh26.here hx rfl (D d5_5) rfl ?_
   refine XS.icmpYes Xh26.here hx rfl (pc0 := 7) (pc' := 44) rfl (D d5_7) rfl (flt ((by decide) : ¬ ((1 : Int32) < (1 : Int32)))).2.1 (by decide) (by decide) ?_
   refine XS.iload Xh26.here hx rfl (D d5_44) rfl ?_
   exact kt
  have f27 := ((Keep.refl h0 [ta]).wr W23 (Or.inl (List.mem_of_getElem? (i := 0) rfl)))
  refine ownRet Xh26 Bd.notSynchronized (v := some (iV 1)) (fun h => by rw [Bd.returns] at h; cases h) ?_ (oLe rfl) (oLe rfl) (fun fs hr => retI Xh26 hx Bd.returns (D d5_46) hr)
  show (Q_cp5_1 Z a2 kC ta kb c0 h0 n0) (some (iV 1)) T23.heap _
  rw [e23]
  exact ⟨_, rfl, Nh26, f27, Or.inl ⟨rfl, hc22, V24⟩⟩
abbrev fr_cp3_1 (m : MethodId) (a2 : Addr) (pc : Nat) (x3_ x4_ x5_ : Slot) (st : List Value) : JFrame := mkF m pc #[vR a2, vI 0, vI 1, x3_, x4_, x5_] st
def Q_cp3_1 (Z : State) (a2 : Addr) (kC : ClassId) (c0 : Int32) (h0 : Heap) (n0 : Nat) (v : Option Value) (h : Heap) (L : List Loc) : Prop := ∃ (ta : Addr) (kb : ClassId), v = some (.ref ta) ∧ Fr n0 L ∧ Keep h0 h [] ∧ h0.size ≤ ta ∧ ((¬ ((255 : Int32) < c0) ∧ Arv Z h ta kb .byte (1 : Int32) [(.int (oL c0))] (iV 0)) ∨ (((255 : Int32) < c0) ∧ Arv Z h ta kb .byte (2 : Int32) [(.int (oW c0)), (.int (oH c0))] (iV 0)))
theorem ef_cp3_1 (m : MethodId) (x0 : Addr) (x1 : Int32) (x2 : Int32)  : entryFrame m #[(.ref x0), (.int x1), (.int x2)] 6 = mkF m 0 #[vR x0, vI x1, vI x2, .unset, .unset, .unset] [] := by first | (simp [entryFrame, mkF, argsToLocals, Value.category]; done) | rfl
set_option maxRecDepth 65536 in
set_option maxHeartbeats 40000000 in
theorem c_cp3_1 (l : Launch) (Z : State) (a0 : Array Value) (hw : HW a0 Z) (ws : List Jvm.Cond) (a2 : Addr) (kC : ClassId) (c0 : Int32) (h0 : Heap) (n0 : Nat) (Z0 : n0 ≤ h0.size) (A2 : Arv Z h0 a2 kC .char (1 : Int32) [(.int c0)] (iV 0)) (hc0 : ¬ c0 < 0 ∧ ¬ (65535 : Int32) < c0) (SA : Sta Z Z.heap "java/lang/StringUTF16" "$assertionsDisabled" "Z" (iV 1)) (SHI : Sta Z Z.heap "java/lang/StringUTF16" "HI_BYTE_SHIFT" "I" (iV 0)) (SLO : Sta Z Z.heap "java/lang/StringUTF16" "LO_BYTE_SHIFT" "I" (iV 8)) (X00 : Old Z n0 h0) :
  MetFree l yM9 (head1 (Jvm.Cond.code yM9 jdk_52_method_16_code 6 (some (.array .byte)) :: ws) ({ frames := 3, cells := 2, slots := 3, locals := 40 } : Room)) (fun a U => a = #[(.ref a2), (iV 0), (iV 1)] ∧ Z.Warmed39 U.vm ∧ U.heap = h0) (fun _ _ _ _ _ => True) (fun _ U o U' => ∃ v L, o = .returned v ∧ (Q_cp3_1 Z a2 kC c0 h0 n0) v U'.heap L ∧ FrameEnd U o U' L ({ frames := 3, cells := 2, slots := 3, locals := 40 } : Room).cells ({ frames := 3, cells := 2, slots := 3, locals := 40 } : Room).slots) := by
 refine MetFree.of_bodySF (plainFor_of_name pn_3) hisR ?_
 intro p e s m args below meth c s₁ Bd hml0 hP hK
 obtain ⟨rfl, hZ, hHp⟩ := hP
 have hx := Bd.exec
 have D := fun {pc : Nat} {r} (h : decode _ pc = r) => hb Bd.bytes h
 have hml : c.maxLocals = 6 := hml0
 have hown : s.vm.findClass "java/lang/StringUTF16" = some m.cls := findClass_of_methodNamed Bd.named
 have hnm := (name_of_methodNamed Bd.named Bd.method).1
 have X0 : Stand p l e ({ frames := 3, cells := 2, slots := 3, locals := 40 } : Room) s m #[(.ref a2), (iV 0), (iV 1)] below meth c s₁ [] 0 0 := Stand.of_body Bd
 have e0 : s₁.heap = h0 := by rw [← hHp, Bd.state]; rfl
 have N0 := Fr.nil n0
 refine ownOut (P := (Q_cp3_1 Z a2 kC c0 h0 n0)) ?_
 refine ownBy (A := s₁.setTop (mkF m 0 #[vR a2, vI 0, vI 1, .unset, .unset, .unset] [])) (fun t k => castTop (ef_cp3_1 m a2 (0 : Int32) (1 : Int32)) k) ?_
 refine oTo s₁ (fr_cp3_1 m a2 1 .unset .unset .unset [(iV 1)]) (fun t kt => ?_) ?_
 ·refine XS.iloadN X0.here hx rfl (D d4_0) rfl ?_
  exact kt
 obtain ⟨T21, h21, k21, X21, e21, E21, A21, st21⟩ := newP X0 hx hZ (aty := .byte) (Wd21 hw) e0 (g := (fr_cp3_1 m a2 1 .unset .unset .unset [(iV 1)])) rfl (D d4_1) rfl (by decide : ¬ ((1 : Int32) < (0 : Int32))) (cap := 1) (by decide) (by decide) (by decide) (by decide)
 obtain ⟨b21, g21⟩ : ∃ z, z = h0.size := ⟨_, rfl⟩
 rw [← g21] at A21 st21
 have ne22 : a2 ≠ b21 := Nat.ne_of_lt (Nat.lt_of_lt_of_le A2.lt (Nat.le_of_eq g21.symm))
 have g23 : n0 ≤ b21 := Nat.le_trans Z0 (Nat.le_of_eq g21.symm)
 have z24 : h0.size ≤ b21 := Nat.le_trans (Nat.le_refl h0.size) (Nat.le_of_eq g21.symm)
 have V25 : Arv Z h21 b21 k21 .byte (1 : Int32) [(iV 0)] (iV 0) := (Arv.new A21 (by decide)).pad (pad_rep [] (iV 0) 1)
 refine ownBy st21 ?_
 clear st21
 show oA p e below _ T21 (fr_cp3_1 m a2 3 .unset .unset .unset [(.ref b21)])
 refine oTo T21 (fr_cp3_1 m a2 9 (vR b21) .unset .unset [(iV 1), (iV 0), (.ref b21), (iV 0), (.ref a2)]) (fun t kt => ?_) ?_
 ·refine XS.astoreN X21.here hx rfl (D d4_3) rfl rfl (l' := #[vR a2, vI 0, vI 1, vR b21, .unset, .unset]) rfl ?_
  refine XS.aloadN X21.here hx rfl (D d4_4) rfl rfl ?_
  refine XS.iloadN X21.here hx rfl (D d4_5) rfl ?_
  refine XS.aloadN X21.here hx rfl (D d4_6) rfl rfl ?_
  show Steps p.tables e below (T21.setTop (fr_cp3_1 m a2 7 (vR b21) .unset .unset [(.ref b21), (iV 0), (.ref a2)])) t
  refine XS.iconst X21.here hx rfl (D d4_7) ?_
  refine XS.iloadN X21.here hx rfl (D d4_8) rfl ?_
  exact kt
 have f26 := (A2.ext E21)
 have f27 := (Nat.le_trans Z0 E21.1)
 obtain ⟨vv28, _, ⟨T28, L28, k28, n28⟩, -, X28, ⟨Lc28, hQ28, l28, y28, z28⟩, st28⟩ := Jvm.LawKit.callS X21 hx (y := yM8) hown (mvT hZ (Wd22 hw)) (mvT hZ (Wd23 hw)) (mvT hZ (Wd19 hw)) (mvT hZ (Wd24 hw)) (by decide) (backOf (W := 0) (c_cp5_1 l Z a0 hw [] a2 kC b21 k21 c0 h21 n0 f27 f26 V25 g23 ne22) hZ (Wd24 hw) (Wd19 hw) (by decide) (by decide)) (g := (fr_cp3_1 m a2 9 (vR b21) .unset .unset [(iV 1), (iV 0), (.ref b21), (iV 0), (.ref a2)])) rfl (by rw [hml]; rfl) (argsL := [(.ref a2), (iV 0), (.ref b21), (iV 0), (iV 1)]) (rest := []) (lenOf pd_7 rfl) rfl (by show 2 * 0 + _ ≤ _; exact Nat.le_of_eq rfl) (D d4_9) (fun _ _ => ⟨rfl, e21, (by decide : 1 + 0 ≤ _), (by decide : 1 + 0 ≤ _)⟩)
 dsimp only [Pt.U, Pt.locs, Pt.cells, Pt.slots] at X28 l28 y28 z28 st28 hQ28
 subst l28 y28 z28
 obtain ⟨r28, rfl, Nq28, Kq28, hB28⟩ := hQ28
 rcases hB28 with ⟨rfl, hn28_0, Aq28⟩ | hF
 ·skip
  have N29 := Fr.app N0 Nq28
  obtain ⟨Lh30, Xh30, Nh30⟩ := oHd 1 1 X28 N29 rfl rfl
  refine ownBy st28 ?_
  clear st28
  show oA p e below _ T28 (fr_cp3_1 m a2 12 (vR b21) .unset .unset [(iV 1)])
  refine oTo T28 (fr_cp3_1 m a2 58 (vR b21) (vI 1) .unset [(.ref b21)]) (fun t kt => ?_) ?_
  ·refine XS.istore Xh30.here hx rfl (D d4_12) rfl (l' := #[vR a2, vI 0, vI 1, vR b21, vI 1, .unset]) rfl ?_
   refine XS.iload Xh30.here hx rfl (D d4_14) rfl ?_
   refine XS.iloadN Xh30.here hx rfl (D d4_16) rfl ?_
   refine XS.icmpYes Xh30.here hx rfl (pc0 := 17) (pc' := 57) rfl (D d4_17) rfl (teq ((by decide) : (1 : Int32) = (1 : Int32))).1 (by decide) (by decide) ?_
   show Steps p.tables e below (T28.setTop (fr_cp3_1 m a2 57 (vR b21) (vI 1) .unset [])) t
   refine XS.aloadN Xh30.here hx rfl (D d4_57) rfl rfl ?_
   exact kt
  have f31 := (((Keep.refl h0 []).ext E21).trans Kq28 (allS (Or.inr z24) all0))
  refine ownRet Xh30 Bd.notSynchronized (v := some (.ref b21)) (fun h => by rw [Bd.returns] at h; cases h) ?_ (oLe rfl) (oLe rfl) (fun fs hr => retOut Xh30 hx Bd.returns rfl (Or.inr (Or.inr (Or.inr (Or.inr ⟨rfl, rfl, rfl⟩)))) (D d4_58) hr)
  show (Q_cp3_1 Z a2 kC c0 h0 n0) (some (.ref b21)) T28.heap _
  exact ⟨b21, k21, rfl, Nh30, f31, z24, Or.inl ⟨hn28_0, Aq28⟩⟩
 ·skip
  have N32 := Fr.app N0 Nq28
  obtain ⟨Lh33, Xh33, Nh33⟩ := oHd 1 1 X28 N32 rfl rfl
  refine ownBy st28 ?_
  clear st28
  show oA p e below _ T28 (fr_cp3_1 m a2 12 (vR b21) .unset .unset [(.int r28)])
  have hr : ¬ (r28 = (1 : Int32)) := by
   rcases hF with ⟨rfl, -⟩
   decide
  refine oTo T28 (fr_cp3_1 m a2 23 (vR b21) (vI r28) .unset [(iV 1), (iV 0), (.ref a2)]) (fun t kt => ?_) ?_
  ·refine XS.istore Xh33.here hx rfl (D d4_12) rfl (l' := #[vR a2, vI 0, vI 1, vR b21, vI r28, .unset]) rfl ?_
   refine XS.iload Xh33.here hx rfl (D d4_14) rfl ?_
   refine XS.iloadN Xh33.here hx rfl (D d4_16) rfl ?_
   refine XS.icmpNo Xh33.here hx rfl (D d4_17) rfl (feq hr).1 ?_
   show Steps p.tables e below (T28.setTop (fr_cp3_1 m a2 20 (vR b21) (vI r28) .unset [])) t
   refine XS.aloadN Xh33.here hx rfl (D d4_20) rfl rfl ?_
   refine XS.iloadN Xh33.here hx rfl (D d4_21) rfl ?_
   refine XS.iloadN Xh33.here hx rfl (D d4_22) rfl ?_
   exact kt
  have f34 := (f26.keep Kq28 (ninS ne22 nin0))
  have f35 := ((X00.ext E21).keep Kq28 (allS g23 all0))
  have f36 := (Nat.le_trans f27 Kq28.1)
  obtain ⟨vv37, _, ⟨T37, L37, k37, n37⟩, -, X37, ⟨Lc37, hQ37, l37, y37, z37⟩, st37⟩ := Jvm.LawKit.callS Xh33 hx (y := yM7) hown (mvT hZ (Wd75 hw)) (mvT hZ (Wd76 hw)) (mvT hZ (Wd19 hw)) (mvT hZ (Wd77 hw)) (by decide) (backOf (W := 0) (c_tob1 l Z a0 hw [] a2 kC c0 T28.heap n0 f36 f34 SA SHI SLO f35) hZ (Wd77 hw) (Wd19 hw) (by decide) (by decide)) (g := (fr_cp3_1 m a2 23 (vR b21) (vI r28) .unset [(iV 1), (iV 0), (.ref a2)])) rfl (by rw [hml]; rfl) (argsL := [(.ref a2), (iV 0), (iV 1)]) (rest := []) (lenOf pd_8 rfl) rfl (by show 2 * 0 + _ ≤ _; exact Nat.le_of_eq rfl) (D d4_23) (fun _ _ => ⟨rfl, rfl, (by decide : 1 + 1 ≤ _), (by decide : 1 + 2 ≤ _)⟩)
  dsimp only [Pt.U, Pt.locs, Pt.cells, Pt.slots] at X37 l37 y37 z37 st37 hQ37
  subst l37 y37 z37
  obtain ⟨t37, kb37, rfl, Nq37, Kq37, zq37, Aq37⟩ := hQ37
  have ne38 : a2 ≠ t37 := Nat.ne_of_lt (Nat.lt_of_lt_of_le f34.lt zq37)
  have g39 : n0 ≤ t37 := Nat.le_trans f36 zq37
  have f41 := (Nat.le_trans (Nat.le_trans (Nat.le_refl h0.size) E21.1) Kq28.1)
  have z40 : h0.size ≤ t37 := Nat.le_trans f41 zq37
  have N42 := Fr.app Nh33 Nq37
  obtain ⟨Lh43, Xh43, Nh43⟩ := oHd 2 3 X37 N42 rfl rfl
  refine ownBy st37 ?_
  clear st37
  show oA p e below _ T37 (fr_cp3_1 m a2 26 (vR b21) (vI r28) .unset [(.ref t37)])
  refine oTo T37 (fr_cp3_1 m a2 32 (vR b21) (vI r28) (vR t37) [(.int r28), (.ref t37)]) (fun t kt => ?_) ?_
  ·refine XS.astore Xh43.here hx rfl (D d4_26) rfl rfl (l' := #[vR a2, vI 0, vI 1, vR b21, vI r28, vR t37]) rfl ?_
   refine XS.aload Xh43.here hx rfl (D d4_28) rfl rfl ?_
   refine XS.iload Xh43.here hx rfl (D d4_30) rfl ?_
   exact kt
  obtain ⟨cM, kM, q0, q1, k0, k1, u0, u1, hcM, hgM⟩ : ∃ (cM : Int32) (kM : Nat), (¬ (r28 <<< ((1 : Int32) &&& 31)) < 0 ∧ (r28 <<< ((1 : Int32) &&& 31)) < (2 : Int32)) ∧ (¬ ((r28 <<< ((1 : Int32) &&& 31)) + (1 : Int32)) < 0 ∧ ((r28 <<< ((1 : Int32) &&& 31)) + (1 : Int32)) < (2 : Int32)) ∧ (r28 <<< ((1 : Int32) &&& 31)).toNatClampNeg = kM ∧ ((r28 <<< ((1 : Int32) &&& 31)) + (1 : Int32)).toNatClampNeg = kM + 1 ∧ ([(.int (oW c0)), (.int (oH c0))] : List Value).getD kM (iV 0) = .int (oW cM) ∧ ([(.int (oW c0)), (.int (oH c0))] : List Value).getD (kM + 1) (iV 0) = .int (oH cM) ∧ (¬ cM < 0 ∧ ¬ (65535 : Int32) < cM) ∧ (255 : Int32) < cM := by
   rcases hF with ⟨rfl, h⟩
   ·exact ⟨c0, 0, by decide +kernel, by decide +kernel, by decide +kernel, by decide +kernel, rfl, rfl, hc0, h⟩
  have f44 := (f35.keep Kq37 all0)
  have f45 := (Nat.le_trans f36 Kq37.1)
  obtain ⟨vv46, _, ⟨T46, L46, k46, n46⟩, -, X46, ⟨Lc46, hQ46, l46, y46, z46⟩, st46⟩ := Jvm.LawKit.callS Xh43 hx (y := yM5) hown (mvT hZ (Wd91 hw)) (mvT hZ (Wd92 hw)) (mvT hZ (Wd19 hw)) (mvT hZ (Wd93 hw)) (by decide) (backOf (W := 0) (c_getc l Z a0 hw [] t37 kb37 (2 : Int32) [(.int (oW c0)), (.int (oH c0))] r28 cM kM T37.heap n0 f45 Aq37 q0 q1 k0 k1 u0 u1 hcM SA SHI SLO f44) hZ (Wd93 hw) (Wd19 hw) (by decide) (by decide)) (g := (fr_cp3_1 m a2 32 (vR b21) (vI r28) (vR t37) [(.int r28), (.ref t37)])) rfl (by rw [hml]; rfl) (argsL := [(.ref t37), (.int r28)]) (rest := []) (lenOf pd_9 rfl) rfl (by show 2 * 0 + _ ≤ _; exact Nat.le_of_eq rfl) (D d4_32) (fun _ _ => ⟨rfl, rfl, (by decide : 2 + 0 ≤ _), (by decide : 3 + 0 ≤ _)⟩)
  dsimp only [Pt.U, Pt.locs, Pt.cells, Pt.slots] at X46 l46 y46 z46 st46 hQ46
  subst l46 y46 z46
  obtain ⟨rfl, Nq46, Eq46⟩ := hQ46
  have N47 := Fr.app Nh43 Nq46
  obtain ⟨Lh48, Xh48, Nh48⟩ := oHd 2 3 X46 N47 rfl rfl
  refine ownBy st46 ?_
  clear st46
  show oA p e below _ T46 (fr_cp3_1 m a2 35 (vR b21) (vI r28) (vR t37) [(.int cM)])
  refine oTo T46 (fr_cp3_1 m a2 56 (vR b21) (vI r28) (vR t37) [(.ref t37)]) (fun t kt => ?_) ?_
  ·refine XS.sipush Xh48.here hx rfl (D d4_35) ?_
   refine XS.icmpYes Xh48.here hx rfl (pc0 := 38) (pc' := 54) rfl (D d4_38) rfl (tlt hgM).2.2.1 (by decide) (by decide) ?_
   refine XS.aload Xh48.here hx rfl (D d4_54) rfl rfl ?_
   exact kt
  have hg3 : (255 : Int32) < c0 := by
   rcases hF with ⟨-, h⟩
   ·exact h
  have f49 := ((((Keep.refl h0 []).ext E21).trans Kq28 (allS (Or.inr z24) all0)).trans Kq37 all0)
  refine ownRet Xh48 Bd.notSynchronized (v := some (.ref t37)) (fun h => by rw [Bd.returns] at h; cases h) ?_ (oLe rfl) (oLe rfl) (fun fs hr => retOut Xh48 hx Bd.returns rfl (Or.inr (Or.inr (Or.inr (Or.inr ⟨rfl, rfl, rfl⟩)))) (D d4_56) hr)
  show (Q_cp3_1 Z a2 kC c0 h0 n0) (some (.ref t37)) T46.heap _
  rw [Eq46]
  exact ⟨t37, kb37, rfl, Nh48, f49, z40, Or.inr ⟨hg3, Aq37⟩⟩
abbrev fr_ini4_1 (m : MethodId) (a1 : Addr) (a2 : Addr) (pc : Nat) (x5_ : Slot) (st : List Value) : JFrame := mkF m pc #[vR a1, vR a2, vI 0, vI 1, .val .null, x5_] st
def Q_ini4_1 (Z : State) (a1 : Addr) (a2 : Addr) (kC : ClassId) (c0 : Int32) (c9 : Value) (G1 : Int32) (h0 : Heap) (n0 : Nat) (v : Option Value) (h : Heap) (L : List Loc) : Prop := v = none ∧ Fr n0 L ∧ Keep h0 h [a1] ∧ Exa Z h a1 "java/lang/String" ∧ ∃ (ta : Addr) (kb : ClassId) (cd z : Int32) (vs : List Value), h0.size ≤ ta ∧ Fld Z h a1 "java/lang/String" "value" "[B" (.ref ta) ∧ Fld Z h a1 "java/lang/String" "coder" "B" (.int cd) ∧ Arv Z h ta kb .byte z vs (iV 0) ∧ ((cd = (0 : Int32) ∧ z = (1 : Int32) ∧ vs = [(.int (oL c0))] ∧ ¬ ((255 : Int32) < c0)) ∨ (cd = (1 : Int32) ∧ z = (2 : Int32) ∧ vs = [(.int (oW c0)), (.int (oH c0))] ∧ ((255 : Int32) < c0)))
theorem ef_ini4_1 (m : MethodId) (x0 : Addr) (x1 : Addr) (x2 : Int32) (x3 : Int32)  : entryFrame m #[(.ref x0), (.ref x1), (.int x2), (.int x3), .null] 6 = mkF m 0 #[vR x0, vR x1, vI x2, vI x3, .val .null, .unset] [] := by first | (simp [entryFrame, mkF, argsToLocals, Value.category]; done) | rfl
set_option maxRecDepth 65536 in
set_option maxHeartbeats 40000000 in
theorem c_ini4_1 (l : Launch) (Z : State) (a0 : Array Value) (hw : HW a0 Z) (ws : List Jvm.Cond) (a1 : Addr) (a2 : Addr) (kC : ClassId) (c0 : Int32) (c9 : Value) (G1 : Int32) (h0 : Heap) (n0 : Nat) (Z0 : n0 ≤ h0.size) (E1 : Exa Z h0 a1 "java/lang/String") (F1 : Fld Z h0 a1 "java/lang/String" "value" "[B" .null) (F2 : Fld Z h0 a1 "java/lang/String" "coder" "B" c9) (g1 : n0 ≤ a1) (ne1 : a1 ≠ a2) (A2 : Arv Z h0 a2 kC .char (1 : Int32) [(.int c0)] (iV 0)) (hc0 : ¬ c0 < 0 ∧ ¬ (65535 : Int32) < c0) (O2 : Sta Z Z.heap "java/lang/String" "COMPACT_STRINGS" "Z" (.int G1)) (P5 : ¬ (G1 = (0 : Int32))) (SA : Sta Z Z.heap "java/lang/StringUTF16" "$assertionsDisabled" "Z" (iV 1)) (SHI : Sta Z Z.heap "java/lang/StringUTF16" "HI_BYTE_SHIFT" "I" (iV 0)) (SLO : Sta Z Z.heap "java/lang/StringUTF16" "LO_BYTE_SHIFT" "I" (iV 8)) (X00 : Old Z n0 h0) :
  MetFree l yM0 (head1 (Jvm.Cond.code yM0 jdk_42_method_149_code 6 none :: ws) ({ frames := 4, cells := 2, slots := 3, locals := 58 } : Room)) (fun a U => a = #[(.ref a1), (.ref a2), (iV 0), (iV 1), .null] ∧ Z.Warmed39 U.vm ∧ U.heap = h0) (fun _ _ _ _ _ => True) (fun _ U o U' => ∃ v L, o = .returned v ∧ (Q_ini4_1 Z a1 a2 kC c0 c9 G1 h0 n0) v U'.heap L ∧ FrameEnd U o U' L ({ frames := 4, cells := 2, slots := 3, locals := 58 } : Room).cells ({ frames := 4, cells := 2, slots := 3, locals := 58 } : Room).slots) := by
 refine MetFree.of_bodySF (plainFor_of_name pn_1) hisR ?_
 intro p e s m args below meth c s₁ Bd hml0 hP hK
 obtain ⟨rfl, hZ, hHp⟩ := hP
 have hx := Bd.exec
 have D := fun {pc : Nat} {r} (h : decode _ pc = r) => hb Bd.bytes h
 have hml : c.maxLocals = 6 := hml0
 have hown : s.vm.findClass "java/lang/String" = some m.cls := findClass_of_methodNamed Bd.named
 have hnm := (name_of_methodNamed Bd.named Bd.method).1
 have X0 : Stand p l e ({ frames := 4, cells := 2, slots := 3, locals := 58 } : Room) s m #[(.ref a1), (.ref a2), (iV 0), (iV 1), .null] below meth c s₁ [] 0 0 := Stand.of_body Bd
 have e0 : s₁.heap = h0 := by rw [← hHp, Bd.state]; rfl
 have N0 := Fr.nil n0
 refine ownOut (P := (Q_ini4_1 Z a1 a2 kC c0 c9 G1 h0 n0)) ?_
 refine ownBy (A := s₁.setTop (mkF m 0 #[vR a1, vR a2, vI 0, vI 1, .val .null, .unset] [])) (fun t k => castTop (ef_ini4_1 m a1 a2 (0 : Int32) (1 : Int32)) k) ?_
 refine oTo s₁ (fr_ini4_1 m a1 a2 1 .unset [(.ref a1)]) (fun t kt => ?_) ?_
 ·refine XS.aloadN X0.here hx rfl (D d2_0) rfl rfl ?_
  exact kt
 obtain ⟨T21, X21, e21, st21⟩ := initO X0 hx hZ hown (Wd13 hw) (Wd14 hw) (Wd15 hw) e0 (g := (fr_ini4_1 m a1 a2 1 .unset [(.ref a1)])) rfl (by rw [hml]; rfl) rfl (D d2_1) (by decide) (W := 0) (by show 2 * 0 + _ ≤ _; exact Nat.le_of_eq rfl) (by decide)
 refine ownBy st21 ?_
 clear st21
 show oA p e below _ T21 (fr_ini4_1 m a1 a2 4 .unset [])
 refine oTo T21 (fr_ini4_1 m a1 a2 27 .unset []) (fun t kt => ?_) ?_
 ·refine XS.iloadN X21.here hx rfl (D d2_4) rfl ?_
  refine XS.ifYes X21.here hx rfl (pc0 := 5) (pc' := 27) rfl (D d2_5) rfl ((if0 _ _).trans (feq ((by decide) : ¬ ((1 : Int32) = (0 : Int32)))).2) (by decide) (by decide) ?_
  exact kt
 refine own_getS X21 hx hZ hown (host := "") (Or.inl (Wd16 hw)) Via.refl e21 (O2.ext X00.2) (D d2_27) (fun T22 X22 e22 => ?_)
 refine oTo T22 (fr_ini4_1 m a1 a2 36 .unset [(iV 1), (iV 0), (.ref a2)]) (fun t kt => ?_) ?_
 ·refine XS.ifNo X22.here hx rfl (D d2_30) rfl ((if0 _ _).trans (feq P5).1) ?_
  refine XS.aloadN X22.here hx rfl (D d2_33) rfl rfl ?_
  refine XS.iloadN X22.here hx rfl (D d2_34) rfl ?_
  refine XS.iloadN X22.here hx rfl (D d2_35) rfl ?_
  exact kt
 obtain ⟨vv23, _, ⟨T23, L23, k23, n23⟩, -, X23, ⟨Lc23, hQ23, l23, y23, z23⟩, st23⟩ := Jvm.LawKit.callS X22 hx (y := yM9) hown (mvT hZ (Wd17 hw)) (mvT hZ (Wd18 hw)) (mvT hZ (Wd19 hw)) (mvT hZ (Wd20 hw)) (by decide) (backOf (W := 0) (c_cp3_1 l Z a0 hw [] a2 kC c0 h0 n0 Z0 A2 hc0 SA SHI SLO X00) hZ (Wd20 hw) (Wd19 hw) (by decide) (by decide)) (g := (fr_ini4_1 m a1 a2 36 .unset [(iV 1), (iV 0), (.ref a2)])) rfl (by rw [hml]; rfl) (argsL := [(.ref a2), (iV 0), (iV 1)]) (rest := []) (lenOf pd_8 rfl) rfl (by show 2 * 0 + _ ≤ _; exact Nat.le_of_eq rfl) (D d2_36) (fun _ _ => ⟨rfl, e22, (by decide : 0 + 2 ≤ _), (by decide : 0 + 3 ≤ _)⟩)
 dsimp only [Pt.U, Pt.locs, Pt.cells, Pt.slots] at X23 l23 y23 z23 st23 hQ23
 subst l23 y23 z23
 obtain ⟨t23, kb23, rfl, Nq23, Kq23, zq23, hB23⟩ := hQ23
 have ne24 : a1 ≠ t23 := Nat.ne_of_lt (Nat.lt_of_lt_of_le E1.lt zq23)
 have ne25 : a2 ≠ t23 := Nat.ne_of_lt (Nat.lt_of_lt_of_le A2.lt zq23)
 have g26 : n0 ≤ t23 := Nat.le_trans Z0 zq23
 have z27 : h0.size ≤ t23 := Nat.le_trans (Nat.le_refl h0.size) zq23
 rcases hB23 with ⟨hn23_0, Aq23⟩ | ⟨hg23, Aq23⟩
 ·skip
  have N28 := Fr.app N0 Nq23
  obtain ⟨Lh29, Xh29, Nh29⟩ := oHd 2 3 X23 N28 rfl rfl
  refine ownBy st23 ?_
  clear st23
  show oA p e below _ T23 (fr_ini4_1 m a1 a2 39 .unset [(.ref t23)])
  refine oTo T23 (fr_ini4_1 m a1 a2 45 (vR t23) [(iV 1), (.ref t23), (.ref a1)]) (fun t kt => ?_) ?_
  ·refine XS.astore Xh29.here hx rfl (D d2_39) rfl rfl (l' := #[vR a1, vR a2, vI 0, vI 1, .val .null, vR t23]) rfl ?_
   refine XS.aloadN Xh29.here hx rfl (D d2_41) rfl rfl ?_
   refine XS.aload Xh29.here hx rfl (D d2_42) rfl rfl ?_
   refine XS.iloadN Xh29.here hx rfl (D d2_44) rfl ?_
   exact kt
  have f30 := (Nat.le_trans Z0 Kq23.1)
  obtain ⟨vv31, _, ⟨T31, L31, k31, n31⟩, -, X31, ⟨Lc31, hQ31, l31, y31, z31⟩, st31⟩ := Jvm.LawKit.callS Xh29 hx (y := yM4) hown (mvT hZ (Wd25 hw)) (mvT hZ (Wd26 hw)) (mvT hZ (Wd19 hw)) (mvT hZ (Wd27 hw)) (by decide) (backOf (W := 1) (c_cfa l Z a0 hw [] t23 kb23 (1 : Int32) _ (1 : Int32) (0 : Int32) T23.heap n0 f30 Aq23 (by decide +kernel)) hZ (Wd27 hw) (Wd19 hw) (by decide) (by decide)) (g := (fr_ini4_1 m a1 a2 45 (vR t23) [(iV 1), (.ref t23), (.ref a1)])) rfl (by rw [hml]; rfl) (argsL := [(.ref t23), (iV 1)]) (rest := [(.ref a1)]) (lenOf pd_10 rfl) rfl (by show 2 * 0 + _ ≤ _; exact Nat.le_of_eq rfl) (D d2_45) (fun _ _ => ⟨rfl, rfl, (by decide : 2 + 0 ≤ _), (by decide : 3 + 0 ≤ _)⟩)
  dsimp only [Pt.U, Pt.locs, Pt.cells, Pt.slots] at X31 l31 y31 z31 st31 hQ31
  subst l31 y31 z31
  obtain ⟨rfl, Nq31, Eq31⟩ := hQ31
  have N32 := Fr.app Nh29 Nq31
  obtain ⟨Lh33, Xh33, Nh33⟩ := oHd 2 3 X31 N32 rfl rfl
  refine ownBy st31 ?_
  clear st31
  show oA p e below _ T31 (fr_ini4_1 m a1 a2 48 (vR t23) [(iV 0), (.ref a1)])
  have f35 := (F2.keep Kq23 nin0)
  have f36 := (E1.keep Kq23)
  obtain ⟨T34, h34, X34, e34, W34, st34⟩ := putFN Xh33 hx hZ hown (Wd28 hw) Via.refl Eq31 f35 f36 (Or.inr ⟨(Wd29 hw), rfl, hnm⟩) (Wd4 hw) (ty := .byte) (v' := (iV 0)) (by decide) rfl (fits_nar_byte (0 : Int32)) (g := (fr_ini4_1 m a1 a2 48 (vR t23) [(iV 0), (.ref a1)])) rfl rfl (D d2_48)
  have F37 := f35.same W34
  have N38 := Fr.snoc X34 Nh33 g1
  obtain ⟨Lh39, Xh39, Nh39⟩ := oHd 2 3 X34 N38 rfl rfl
  refine ownBy st34 ?_
  clear st34
  show oA p e below _ T34 (fr_ini4_1 m a1 a2 51 (vR t23) [])
  refine oTo T34 (fr_ini4_1 m a1 a2 54 (vR t23) [(.ref t23), (.ref a1)]) (fun t kt => ?_) ?_
  ·refine XS.aloadN Xh39.here hx rfl (D d2_51) rfl rfl ?_
   refine XS.aload Xh39.here hx rfl (D d2_52) rfl rfl ?_
   exact kt
  have f41 := ((F1.keep Kq23 nin0).other W34 (Or.inr (slot_ne (Or.inr (Wd31 hw)) (Or.inr (Wd29 hw)) (by decide) (t := (.array .byte)) (t' := .byte) (by decide) (by decide))))
  have f42 := (f36.wr W34)
  obtain ⟨T40, h40, X40, e40, W40, st40⟩ := putF Xh39 hx hZ hown (host := "") (Or.inl (Wd30 hw)) Via.refl e34 f41 f42 (Or.inr ⟨(Wd31 hw), rfl, hnm⟩) (Wd4 hw) (ty := (.array .byte)) (by decide) rfl rfl (g := (fr_ini4_1 m a1 a2 54 (vR t23) [(.ref t23), (.ref a1)])) rfl rfl (D d2_54)
  have F43 := f41.same W40
  have N44 := Fr.snoc X40 Nh39 g1
  obtain ⟨Lh45, Xh45, Nh45⟩ := oHd 2 3 X40 N44 rfl rfl
  refine ownBy st40 ?_
  clear st40
  show oA p e below _ T40 (fr_ini4_1 m a1 a2 57 (vR t23) [])
  have f46 := ((((Keep.refl h0 [a1]).trans Kq23 all0).wr W34 (Or.inl (List.mem_of_getElem? (i := 0) rfl))).wr W40 (Or.inl (List.mem_of_getElem? (i := 0) rfl)))
  have f47 := (f42.wr W40)
  have f48 := (F37.other W40 (Or.inr (slot_ne (Or.inr (Wd29 hw)) (Or.inr (Wd31 hw)) (by decide) (t := .byte) (t' := (.array .byte)) (by decide) (by decide))))
  have f49 := ((Aq23.other W34 (Ne.symm ne24)).other W40 (Ne.symm ne24))
  refine ownRet Xh45 Bd.notSynchronized (v := none) (fun _ => rfl) ?_ (oLe rfl) (oLe rfl) (fun fs hr => Xh45.returnOut hx Bd.returns (D d2_57) hr)
  show (Q_ini4_1 Z a1 a2 kC c0 c9 G1 h0 n0) (none) T40.heap _
  rw [e40]
  exact ⟨rfl, Nh45, f46, f47, t23, kb23, _, _, _, z27, F43, f48, f49, Or.inl ⟨rfl, rfl, rfl, hn23_0⟩⟩
 ·skip
  have N50 := Fr.app N0 Nq23
  obtain ⟨Lh51, Xh51, Nh51⟩ := oHd 2 3 X23 N50 rfl rfl
  refine ownBy st23 ?_
  clear st23
  show oA p e below _ T23 (fr_ini4_1 m a1 a2 39 .unset [(.ref t23)])
  refine oTo T23 (fr_ini4_1 m a1 a2 45 (vR t23) [(iV 1), (.ref t23), (.ref a1)]) (fun t kt => ?_) ?_
  ·refine XS.astore Xh51.here hx rfl (D d2_39) rfl rfl (l' := #[vR a1, vR a2, vI 0, vI 1, .val .null, vR t23]) rfl ?_
   refine XS.aloadN Xh51.here hx rfl (D d2_41) rfl rfl ?_
   refine XS.aload Xh51.here hx rfl (D d2_42) rfl rfl ?_
   refine XS.iloadN Xh51.here hx rfl (D d2_44) rfl ?_
   exact kt
  have f52 := (Nat.le_trans Z0 Kq23.1)
  obtain ⟨vv53, _, ⟨T53, L53, k53, n53⟩, -, X53, ⟨Lc53, hQ53, l53, y53, z53⟩, st53⟩ := Jvm.LawKit.callS Xh51 hx (y := yM4) hown (mvT hZ (Wd25 hw)) (mvT hZ (Wd26 hw)) (mvT hZ (Wd19 hw)) (mvT hZ (Wd27 hw)) (by decide) (backOf (W := 1) (c_cfa l Z a0 hw [] t23 kb23 (2 : Int32) _ (1 : Int32) (1 : Int32) T23.heap n0 f52 Aq23 (by decide +kernel)) hZ (Wd27 hw) (Wd19 hw) (by decide) (by decide)) (g := (fr_ini4_1 m a1 a2 45 (vR t23) [(iV 1), (.ref t23), (.ref a1)])) rfl (by rw [hml]; rfl) (argsL := [(.ref t23), (iV 1)]) (rest := [(.ref a1)]) (lenOf pd_10 rfl) rfl (by show 2 * 0 + _ ≤ _; exact Nat.le_of_eq rfl) (D d2_45) (fun _ _ => ⟨rfl, rfl, (by decide : 2 + 0 ≤ _), (by decide : 3 + 0 ≤ _)⟩)
  dsimp only [Pt.U, Pt.locs, Pt.cells, Pt.slots] at X53 l53 y53 z53 st53 hQ53
  subst l53 y53 z53
  obtain ⟨rfl, Nq53, Eq53⟩ := hQ53
  have N54 := Fr.app Nh51 Nq53
  obtain ⟨Lh55, Xh55, Nh55⟩ := oHd 2 3 X53 N54 rfl rfl
  refine ownBy st53 ?_
  clear st53
  show oA p e below _ T53 (fr_ini4_1 m a1 a2 48 (vR t23) [(iV 1), (.ref a1)])
  have f57 := (F2.keep Kq23 nin0)
  have f58 := (E1.keep Kq23)
  obtain ⟨T56, h56, X56, e56, W56, st56⟩ := putFN Xh55 hx hZ hown (Wd28 hw) Via.refl Eq53 f57 f58 (Or.inr ⟨(Wd29 hw), rfl, hnm⟩) (Wd4 hw) (ty := .byte) (v' := (iV 1)) (by decide) rfl (fits_nar_byte (1 : Int32)) (g := (fr_ini4_1 m a1 a2 48 (vR t23) [(iV 1), (.ref a1)])) rfl rfl (D d2_48)
  have F59 := f57.same W56
  have N60 := Fr.snoc X56 Nh55 g1
  obtain ⟨Lh61, Xh61, Nh61⟩ := oHd 2 3 X56 N60 rfl rfl
  refine ownBy st56 ?_
  clear st56
  show oA p e below _ T56 (fr_ini4_1 m a1 a2 51 (vR t23) [])
  refine oTo T56 (fr_ini4_1 m a1 a2 54 (vR t23) [(.ref t23), (.ref a1)]) (fun t kt => ?_) ?_
  ·refine XS.aloadN Xh61.here hx rfl (D d2_51) rfl rfl ?_
   refine XS.aload Xh61.here hx rfl (D d2_52) rfl rfl ?_
   exact kt
  have f63 := ((F1.keep Kq23 nin0).other W56 (Or.inr (slot_ne (Or.inr (Wd31 hw)) (Or.inr (Wd29 hw)) (by decide) (t := (.array .byte)) (t' := .byte) (by decide) (by decide))))
  have f64 := (f58.wr W56)
  obtain ⟨T62, h62, X62, e62, W62, st62⟩ := putF Xh61 hx hZ hown (host := "") (Or.inl (Wd30 hw)) Via.refl e56 f63 f64 (Or.inr ⟨(Wd31 hw), rfl, hnm⟩) (Wd4 hw) (ty := (.array .byte)) (by decide) rfl rfl (g := (fr_ini4_1 m a1 a2 54 (vR t23) [(.ref t23), (.ref a1)])) rfl rfl (D d2_54)
  have F65 := f63.same W62
  have N66 := Fr.snoc X62 Nh61 g1
  obtain ⟨Lh67, Xh67, Nh67⟩ := oHd 2 3 X62 N66 rfl rfl
  refine ownBy st62 ?_
  clear st62
  show oA p e below _ T62 (fr_ini4_1 m a1 a2 57 (vR t23) [])
  have f68 := ((((Keep.refl h0 [a1]).trans Kq23 all0).wr W56 (Or.inl (List.mem_of_getElem? (i := 0) rfl))).wr W62 (Or.inl (List.mem_of_getElem? (i := 0) rfl)))
  have f69 := (f64.wr W62)
  have f70 := (F59.other W62 (Or.inr (slot_ne (Or.inr (Wd29 hw)) (Or.inr (Wd31 hw)) (by decide) (t := .byte) (t' := (.array .byte)) (by decide) (by decide))))
  have f71 := ((Aq23.other W56 (Ne.symm ne24)).other W62 (Ne.symm ne24))
  refine ownRet Xh67 Bd.notSynchronized (v := none) (fun _ => rfl) ?_ (oLe rfl) (oLe rfl) (fun fs hr => Xh67.returnOut hx Bd.returns (D d2_57) hr)
  show (Q_ini4_1 Z a1 a2 kC c0 c9 G1 h0 n0) (none) T62.heap _
  rw [e62]
  exact ⟨rfl, Nh67, f68, f69, t23, kb23, _, _, _, z27, F65, f70, f71, Or.inr ⟨rfl, rfl, rfl, hg23⟩⟩
abbrev fr_inC_1 (m : MethodId) (a1 : Addr) (a2 : Addr) (pc : Nat)  (st : List Value) : JFrame := mkF m pc #[vR a1, vR a2] st
def Q_inC_1 (Z : State) (a1 : Addr) (a2 : Addr) (kC : ClassId) (c0 : Int32) (c9 : Value) (G1 : Int32) (h0 : Heap) (n0 : Nat) (v : Option Value) (h : Heap) (L : List Loc) : Prop := v = none ∧ Fr n0 L ∧ Keep h0 h [a1] ∧ Exa Z h a1 "java/lang/String" ∧ ∃ (ta : Addr) (kb : ClassId) (cd z : Int32) (vs : List Value), h0.size ≤ ta ∧ Fld Z h a1 "java/lang/String" "value" "[B" (.ref ta) ∧ Fld Z h a1 "java/lang/String" "coder" "B" (.int cd) ∧ Arv Z h ta kb .byte z vs (iV 0) ∧ ((cd = (0 : Int32) ∧ z = (1 : Int32) ∧ vs = [(.int (oL c0))] ∧ ¬ ((255 : Int32) < c0)) ∨ (cd = (1 : Int32) ∧ z = (2 : Int32) ∧ vs = [(.int (oW c0)), (.int (oH c0))] ∧ ((255 : Int32) < c0)))
theorem ef_inC_1 (m : MethodId) (x0 : Addr) (x1 : Addr)  : entryFrame m #[(.ref x0), (.ref x1)] 2 = mkF m 0 #[vR x0, vR x1] [] := by first | (simp [entryFrame, mkF, argsToLocals, Value.category]; done) | rfl
set_option maxRecDepth 65536 in
set_option maxHeartbeats 40000000 in
theorem c_inC_1 (l : Launch) (Z : State) (a0 : Array Value) (hw : HW a0 Z) (ws : List Jvm.Cond) (a1 : Addr) (a2 : Addr) (kC : ClassId) (c0 : Int32) (c9 : Value) (G1 : Int32) (h0 : Heap) (n0 : Nat) (Z0 : n0 ≤ h0.size) (E1 : Exa Z h0 a1 "java/lang/String") (F1 : Fld Z h0 a1 "java/lang/String" "value" "[B" .null) (F2 : Fld Z h0 a1 "java/lang/String" "coder" "B" c9) (g1 : n0 ≤ a1) (ne1 : a1 ≠ a2) (A2 : Arv Z h0 a2 kC .char (1 : Int32) [(.int c0)] (iV 0)) (hc0 : ¬ c0 < 0 ∧ ¬ (65535 : Int32) < c0) (O2 : Sta Z Z.heap "java/lang/String" "COMPACT_STRINGS" "Z" (.int G1)) (P5 : ¬ (G1 = (0 : Int32))) (SA : Sta Z Z.heap "java/lang/StringUTF16" "$assertionsDisabled" "Z" (iV 1)) (SHI : Sta Z Z.heap "java/lang/StringUTF16" "HI_BYTE_SHIFT" "I" (iV 0)) (SLO : Sta Z Z.heap "java/lang/StringUTF16" "LO_BYTE_SHIFT" "I" (iV 8)) (X00 : Old Z n0 h0) :
  MetFree l yM1 (head1 (Jvm.Cond.code yM1 jdk_42_method_3_code 2 none :: ws) ({ frames := 5, cells := 2, slots := 3, locals := 75 } : Room)) (fun a U => a = #[(.ref a1), (.ref a2)] ∧ Z.Warmed39 U.vm ∧ U.heap = h0) (fun _ _ _ _ _ => True) (fun _ U o U' => ∃ v L, o = .returned v ∧ (Q_inC_1 Z a1 a2 kC c0 c9 G1 h0 n0) v U'.heap L ∧ FrameEnd U o U' L ({ frames := 5, cells := 2, slots := 3, locals := 75 } : Room).cells ({ frames := 5, cells := 2, slots := 3, locals := 75 } : Room).slots) := by
 refine MetFree.of_bodySF (plainFor_of_name pn_1) hisR ?_
 intro p e s m args below meth c s₁ Bd hml0 hP hK
 obtain ⟨rfl, hZ, hHp⟩ := hP
 have hx := Bd.exec
 have D := fun {pc : Nat} {r} (h : decode _ pc = r) => hb Bd.bytes h
 have hml : c.maxLocals = 2 := hml0
 have hown : s.vm.findClass "java/lang/String" = some m.cls := findClass_of_methodNamed Bd.named
 have hnm := (name_of_methodNamed Bd.named Bd.method).1
 have X0 : Stand p l e ({ frames := 5, cells := 2, slots := 3, locals := 75 } : Room) s m #[(.ref a1), (.ref a2)] below meth c s₁ [] 0 0 := Stand.of_body Bd
 have e0 : s₁.heap = h0 := by rw [← hHp, Bd.state]; rfl
 have N0 := Fr.nil n0
 refine ownOut (P := (Q_inC_1 Z a1 a2 kC c0 c9 G1 h0 n0)) ?_
 refine ownBy (A := s₁.setTop (mkF m 0 #[vR a1, vR a2] [])) (fun t k => castTop (ef_inC_1 m a1 a2) k) ?_
 refine oTo s₁ (fr_inC_1 m a1 a2 4  [(.ref a2), (iV 0), (.ref a2), (.ref a1)]) (fun t kt => ?_) ?_
 ·refine XS.aloadN X0.here hx rfl (D d1_0) rfl rfl ?_
  refine XS.aloadN X0.here hx rfl (D d1_1) rfl rfl ?_
  refine XS.iconst X0.here hx rfl (D d1_2) ?_
  refine XS.aloadN X0.here hx rfl (D d1_3) rfl rfl ?_
  exact kt
 obtain ⟨cl21, Ar21, -, S21, N21, -, -⟩ := id A2
 have st21 := X0.arraylength hx (by rw [e0]; exact Ar21.1) (State.isArrayOf_alike hZ.alike Ar21.2.1) (g := (fr_inC_1 m a1 a2 4  [(.ref a2), (iV 0), (.ref a2), (.ref a1)])) rfl rfl (D d1_4)
 rw [len_of S21 N21] at st21
 refine ownBy st21 ?_
 show oA p e below _ s₁ (fr_inC_1 m a1 a2 5  [(iV 1), (iV 0), (.ref a2), (.ref a1)])
 refine oTo s₁ (fr_inC_1 m a1 a2 6  [.null, (iV 1), (iV 0), (.ref a2), (.ref a1)]) (fun t kt => ?_) ?_
 ·refine XS.aconstNull X0.here hx rfl (D d1_5) ?_
  exact kt
 obtain ⟨vv22, _, ⟨T22, L22, k22, n22⟩, -, X22, ⟨Lc22, hQ22, l22, y22, z22⟩, st22⟩ := X0.specialBack hx (y := yM0) rfl hown (mvT hZ (Wd9 hw)) (mvT hZ (Wd10 hw)) (mvT hZ (Wd12 hw)) (by decide) (backOf (W := 0) (c_ini4_1 l Z a0 hw [] a1 a2 kC c0 _ G1 h0 n0 Z0 E1 F1 F2 g1 ne1 A2 hc0 O2 P5 SA SHI SLO X00) hZ (Wd12 hw) (Wd5 hw) (by decide) (by decide)) (g := (fr_inC_1 m a1 a2 6  [.null, (iV 1), (iV 0), (.ref a2), (.ref a1)])) rfl (by rw [hml]; rfl) (Steps.refl _) (a := a1) (argsL := [(.ref a2), (iV 0), (iV 1), .null]) (rest := []) (lenOf pd_2 rfl) rfl (by show 2 * 0 + _ ≤ _; exact Nat.le_of_eq rfl) (D d1_6) (fun _ _ => ⟨rfl, e0, (by decide : 0 + 2 ≤ _), (by decide : 0 + 3 ≤ _)⟩)
 dsimp only [Pt.U, Pt.locs, Pt.cells, Pt.slots] at X22 l22 y22 z22 st22 hQ22
 subst l22 y22 z22
 obtain ⟨rfl, Nq22, Kq22, Eq22, t22, kb22, cd22, z22, vs22, zq22, Vq22, Cq22, Aq22, hrel22⟩ := hQ22
 have ne23 : a1 ≠ t22 := Nat.ne_of_lt (Nat.lt_of_lt_of_le E1.lt zq22)
 have ne24 : a2 ≠ t22 := Nat.ne_of_lt (Nat.lt_of_lt_of_le A2.lt zq22)
 have g25 : n0 ≤ t22 := Nat.le_trans Z0 zq22
 have z26 : h0.size ≤ t22 := Nat.le_trans (Nat.le_refl h0.size) zq22
 have N27 := Fr.app N0 Nq22
 obtain ⟨Lh28, Xh28, Nh28⟩ := oHd 2 3 X22 N27 rfl rfl
 refine ownSt st22 ?_
 clear st22
 show oA p e below _ T22 (fr_inC_1 m a1 a2 9  [])
 have f29 := ((Keep.refl h0 [a1]).trans Kq22 (allS (Or.inl (List.mem_of_getElem? (i := 0) rfl)) all0))
 have f30 := (E1.keep Kq22)
 refine ownRet Xh28 Bd.notSynchronized (v := none) (fun _ => rfl) ?_ (oLe rfl) (oLe rfl) (fun fs hr => Xh28.returnOut hx Bd.returns (D d1_9) hr)
 show (Q_inC_1 Z a1 a2 kC c0 c9 G1 h0 n0) (none) T22.heap _
 exact ⟨rfl, Nh28, f29, f30, t22, kb22, _, _, _, z26, Vq22, Cq22, Aq22, hrel22⟩
abbrev fr_nbf2 (m : MethodId)  (pc : Nat)  (st : List Value) : JFrame := mkF m pc #[vI 2] st
def Q_nbf2 (Z : State)  (h0 : Heap) (n0 : Nat) (v : Option Value) (h : Heap) (L : List Loc) : Prop := ∃ (ta : Addr) (kb : ClassId), v = some (.ref ta) ∧ Fr n0 L ∧ Keep h0 h [] ∧ h0.size ≤ ta ∧ Arv Z h ta kb .byte (4 : Int32) [(iV 0), (iV 0), (iV 0), (iV 0)] (iV 0)
theorem ef_nbf2 (m : MethodId) (x0 : Int32)  : entryFrame m #[(.int x0)] 1 = mkF m 0 #[vI x0] [] := by first | (simp [entryFrame, mkF, argsToLocals, Value.category]; done) | rfl
set_option maxRecDepth 65536 in
set_option maxHeartbeats 40000000 in
theorem c_nbf2 (l : Launch) (Z : State) (a0 : Array Value) (hw : HW a0 Z) (ws : List Jvm.Cond)  (h0 : Heap) (n0 : Nat) (Z0 : n0 ≤ h0.size) :
  MetFree l yM6 (head1 (Jvm.Cond.code yM6 jdk_52_method_2_code 1 (some (.array .byte)) :: ws) ({ frames := 1, cells := 1, slots := 4, locals := 12 } : Room)) (fun a U => a = #[(iV 2)] ∧ Z.Warmed39 U.vm ∧ U.heap = h0) (fun _ _ _ _ _ => True) (fun _ U o U' => ∃ v L, o = .returned v ∧ (Q_nbf2 Z  h0 n0) v U'.heap L ∧ FrameEnd U o U' L ({ frames := 1, cells := 1, slots := 4, locals := 12 } : Room).cells ({ frames := 1, cells := 1, slots := 4, locals := 12 } : Room).slots) := by
 refine MetFree.of_bodySF (plainFor_of_name pn_3) hisR ?_
 intro p e s m args below meth c s₁ Bd hml0 hP hK
 obtain ⟨rfl, hZ, hHp⟩ := hP
 have hx := Bd.exec
 have D := fun {pc : Nat} {r} (h : decode _ pc = r) => hb Bd.bytes h
 have hml : c.maxLocals = 1 := hml0
 have hown : s.vm.findClass "java/lang/StringUTF16" = some m.cls := findClass_of_methodNamed Bd.named
 have hnm := (name_of_methodNamed Bd.named Bd.method).1
 have X0 : Stand p l e ({ frames := 1, cells := 1, slots := 4, locals := 12 } : Room) s m #[(iV 2)] below meth c s₁ [] 0 0 := Stand.of_body Bd
 have e0 : s₁.heap = h0 := by rw [← hHp, Bd.state]; rfl
 have N0 := Fr.nil n0
 refine ownOut (P := (Q_nbf2 Z  h0 n0)) ?_
 refine ownBy (A := s₁.setTop (mkF m 0 #[vI 2] [])) (fun t k => castTop (ef_nbf2 m (2 : Int32)) k) ?_
 refine oTo s₁ (fr_nbf2 m  1  [(iV 2)]) (fun t kt => ?_) ?_
 ·refine XS.iloadN X0.here hx rfl (D d17_0) rfl ?_
  exact kt
 obtain ⟨vv21, _, ⟨T21, L21, k21, n21⟩, -, X21, ⟨Lc21, hQ21, l21, y21, z21⟩, st21⟩ := Jvm.LawKit.callS X0 hx (y := yM3) hown (mvT hZ (Wd81 hw)) (mvT hZ (Wd82 hw)) (mvT hZ (Wd19 hw)) (mvT hZ (Wd83 hw)) (by decide) (backOf (W := 0) (c_nbl l Z a0 hw [] (2 : Int32) (4 : Int32) h0 n0 Z0 (by decide) (by decide) (by decide +kernel)) hZ (Wd83 hw) (Wd19 hw) (by decide) (by decide)) (g := (fr_nbf2 m  1  [(iV 2)])) rfl (by rw [hml]; rfl) (argsL := [(iV 2)]) (rest := []) (lenOf pd_4 rfl) rfl (by show 2 * 0 + _ ≤ _; exact Nat.le_of_eq rfl) (D d17_1) (fun _ _ => ⟨rfl, e0, (by decide : 0 + 0 ≤ _), (by decide : 0 + 0 ≤ _)⟩)
 dsimp only [Pt.U, Pt.locs, Pt.cells, Pt.slots] at X21 l21 y21 z21 st21 hQ21
 subst l21 y21 z21
 obtain ⟨rfl, Nq21, Eq21⟩ := hQ21
 have N22 := Fr.app N0 Nq21
 obtain ⟨Lh23, Xh23, Nh23⟩ := oHd 0 0 X21 N22 rfl rfl
 refine ownBy st21 ?_
 clear st21
 show oA p e below _ T21 (fr_nbf2 m  4  [(iV 4)])
 obtain ⟨T24, h24, k24, X24, e24, E24, A24, st24⟩ := newP Xh23 hx hZ (aty := .byte) (Wd21 hw) Eq21 (g := (fr_nbf2 m  4  [(iV 4)])) rfl (D d17_4) rfl (by decide : ¬ ((4 : Int32) < (0 : Int32))) (cap := 4) (by decide) (by decide) (by decide) (by decide)
 obtain ⟨b24, g24⟩ : ∃ z, z = h0.size := ⟨_, rfl⟩
 rw [← g24] at A24 st24
 have g25 : n0 ≤ b24 := Nat.le_trans Z0 (Nat.le_of_eq g24.symm)
 have z26 : h0.size ≤ b24 := Nat.le_trans (Nat.le_refl h0.size) (Nat.le_of_eq g24.symm)
 have V27 : Arv Z h24 b24 k24 .byte (4 : Int32) [(iV 0), (iV 0), (iV 0), (iV 0)] (iV 0) := (Arv.new A24 (by decide)).pad (pad_rep [] (iV 0) 4)
 refine ownBy st24 ?_
 clear st24
 show oA p e below _ T24 (fr_nbf2 m  6  [(.ref b24)])
 have f28 := ((Keep.refl h0 []).ext E24)
 refine ownRet X24 Bd.notSynchronized (v := some (.ref b24)) (fun h => by rw [Bd.returns] at h; cases h) ?_ (oLe rfl) (oLe rfl) (fun fs hr => retOut X24 hx Bd.returns rfl (Or.inr (Or.inr (Or.inr (Or.inr ⟨rfl, rfl, rfl⟩)))) (D d17_6) hr)
 show (Q_nbf2 Z  h0 n0) (some (.ref b24)) T24.heap _
 rw [e24]
 exact ⟨b24, k24, rfl, Nh23, f28, z26, V27⟩
abbrev fr_tob2 (m : MethodId) (a2 : Addr) (pc : Nat) (x1_ x3_ x4_ : Slot) (st : List Value) : JFrame := mkF m pc #[vR a2, x1_, vI 2, x3_, x4_] st
def Q_tob2 (Z : State) (a2 : Addr) (kC : ClassId) (c0 : Int32) (c1 : Int32) (h0 : Heap) (n0 : Nat) (v : Option Value) (h : Heap) (L : List Loc) : Prop := ∃ (ta : Addr) (kb : ClassId), v = some (.ref ta) ∧ Fr n0 L ∧ Keep h0 h [] ∧ h0.size ≤ ta ∧ Arv Z h ta kb .byte (4 : Int32) [(.int (oW c0)), (.int (oH c0)), (.int (oW c1)), (.int (oH c1))] (iV 0)
theorem ef_tob2 (m : MethodId) (x0 : Addr) (x1 : Int32) (x2 : Int32)  : entryFrame m #[(.ref x0), (.int x1), (.int x2)] 5 = mkF m 0 #[vR x0, vI x1, vI x2, .unset, .unset] [] := by first | (simp [entryFrame, mkF, argsToLocals, Value.category]; done) | rfl
set_option maxRecDepth 65536 in
set_option maxHeartbeats 40000000 in
theorem c_tob2 (l : Launch) (Z : State) (a0 : Array Value) (hw : HW a0 Z) (ws : List Jvm.Cond) (a2 : Addr) (kC : ClassId) (c0 : Int32) (c1 : Int32) (h0 : Heap) (n0 : Nat) (Z0 : n0 ≤ h0.size) (A2 : Arv Z h0 a2 kC .char (2 : Int32) [(.int c0), (.int c1)] (iV 0)) (SA : Sta Z Z.heap "java/lang/StringUTF16" "$assertionsDisabled" "Z" (iV 1)) (SHI : Sta Z Z.heap "java/lang/StringUTF16" "HI_BYTE_SHIFT" "I" (iV 0)) (SLO : Sta Z Z.heap "java/lang/StringUTF16" "LO_BYTE_SHIFT" "I" (iV 8)) (X00 : Old Z n0 h0) :
  MetFree l yM7 (head1 (Jvm.Cond.code yM7 jdk_52_method_14_code 5 (some (.array .byte)) :: ws) ({ frames := 2, cells := 1, slots := 4, locals := 24 } : Room)) (fun a U => a = #[(.ref a2), (iV 0), (iV 2)] ∧ Z.Warmed39 U.vm ∧ U.heap = h0) (fun _ _ _ _ _ => True) (fun _ U o U' => ∃ v L, o = .returned v ∧ (Q_tob2 Z a2 kC c0 c1 h0 n0) v U'.heap L ∧ FrameEnd U o U' L ({ frames := 2, cells := 1, slots := 4, locals := 24 } : Room).cells ({ frames := 2, cells := 1, slots := 4, locals := 24 } : Room).slots) := by
 refine MetFree.of_bodySF (plainFor_of_name pn_3) hisR ?_
 intro p e s m args below meth c s₁ Bd hml0 hP hK
 obtain ⟨rfl, hZ, hHp⟩ := hP
 have hx := Bd.exec
 have D := fun {pc : Nat} {r} (h : decode _ pc = r) => hb Bd.bytes h
 have hml : c.maxLocals = 5 := hml0
 have hown : s.vm.findClass "java/lang/StringUTF16" = some m.cls := findClass_of_methodNamed Bd.named
 have hnm := (name_of_methodNamed Bd.named Bd.method).1
 have X0 : Stand p l e ({ frames := 2, cells := 1, slots := 4, locals := 24 } : Room) s m #[(.ref a2), (iV 0), (iV 2)] below meth c s₁ [] 0 0 := Stand.of_body Bd
 have e0 : s₁.heap = h0 := by rw [← hHp, Bd.state]; rfl
 have N0 := Fr.nil n0
 refine ownOut (P := (Q_tob2 Z a2 kC c0 c1 h0 n0)) ?_
 refine ownBy (A := s₁.setTop (mkF m 0 #[vR a2, vI 0, vI 2, .unset, .unset] [])) (fun t k => castTop (ef_tob2 m a2 (0 : Int32) (2 : Int32)) k) ?_
 refine oTo s₁ (fr_tob2 m a2 1 (vI 0) .unset .unset [(iV 2)]) (fun t kt => ?_) ?_
 ·refine XS.iloadN X0.here hx rfl (D d16_0) rfl ?_
  exact kt
 obtain ⟨vv21, _, ⟨T21, L21, k21, n21⟩, -, X21, ⟨Lc21, hQ21, l21, y21, z21⟩, st21⟩ := Jvm.LawKit.callS X0 hx (y := yM6) hown (mvT hZ (Wd78 hw)) (mvT hZ (Wd79 hw)) (mvT hZ (Wd19 hw)) (mvT hZ (Wd80 hw)) (by decide) (backOf (W := 0) (c_nbf2 l Z a0 hw []  h0 n0 Z0 ) hZ (Wd80 hw) (Wd19 hw) (by decide) (by decide)) (g := (fr_tob2 m a2 1 (vI 0) .unset .unset [(iV 2)])) rfl (by rw [hml]; rfl) (argsL := [(iV 2)]) (rest := []) (lenOf pd_5 rfl) rfl (by show 2 * 0 + _ ≤ _; exact Nat.le_of_eq rfl) (D d16_1) (fun _ _ => ⟨rfl, e0, (by decide : 0 + 1 ≤ _), (by decide : 0 + 4 ≤ _)⟩)
 dsimp only [Pt.U, Pt.locs, Pt.cells, Pt.slots] at X21 l21 y21 z21 st21 hQ21
 subst l21 y21 z21
 obtain ⟨t21, kb21, rfl, Nq21, Kq21, zq21, Aq21⟩ := hQ21
 have ne22 : a2 ≠ t21 := Nat.ne_of_lt (Nat.lt_of_lt_of_le A2.lt zq21)
 have g23 : n0 ≤ t21 := Nat.le_trans Z0 zq21
 have z24 : h0.size ≤ t21 := Nat.le_trans (Nat.le_refl h0.size) zq21
 have N25 := Fr.app N0 Nq21
 obtain ⟨Lh26, Xh26, Nh26⟩ := oHd 1 4 X21 N25 rfl rfl
 refine ownBy st21 ?_
 clear st21
 show oA p e below _ T21 (fr_tob2 m a2 4 (vI 0) .unset .unset [(.ref t21)])
 refine oTo T21 (fr_tob2 m a2 19 (vI 0) (vR t21) (vI 0) [(iV 0), (.ref a2), (iV 0), (.ref t21)]) (fun t kt => ?_) ?_
 ·refine XS.astoreN Xh26.here hx rfl (D d16_4) rfl rfl (l' := #[vR a2, vI 0, vI 2, vR t21, .unset]) rfl ?_
  refine XS.iconst Xh26.here hx rfl (D d16_5) ?_
  refine XS.istore Xh26.here hx rfl (D d16_6) rfl (l' := #[vR a2, vI 0, vI 2, vR t21, vI 0]) rfl ?_
  refine XS.iload Xh26.here hx rfl (D d16_8) rfl ?_
  show Steps p.tables e below (T21.setTop (fr_tob2 m a2 10 (vI 0) (vR t21) (vI 0) [(iV 0)])) t
  refine XS.iloadN Xh26.here hx rfl (D d16_10) rfl ?_
  refine XS.icmpNo Xh26.here hx rfl (D d16_11) rfl (tlt ((by decide) : (0 : Int32) < (2 : Int32))).2.1 ?_
  refine XS.aloadN Xh26.here hx rfl (D d16_14) rfl rfl ?_
  refine XS.iload Xh26.here hx rfl (D d16_15) rfl ?_
  show Steps p.tables e below (T21.setTop (fr_tob2 m a2 17 (vI 0) (vR t21) (vI 0) [(iV 0), (.ref t21)])) t
  refine XS.aloadN Xh26.here hx rfl (D d16_17) rfl rfl ?_
  refine XS.iloadN Xh26.here hx rfl (D d16_18) rfl ?_
  exact kt
 have f27 := (A2.keep Kq21 nin0)
 obtain ⟨cl28, Ar28, q28, S28, N28, H28, G28⟩ := id f27
 have hin28 : ¬ ((0 : Int32) < 0 ∨ cl28.slots.size ≤ ((0 : Int32)).toNatClampNeg) := inb_of S28 ⟨by decide, by decide⟩
 have hat28 : cl28.slots[((0 : Int32)).toNatClampNeg]? = some (.int c0) := H28.at hin28 rfl
 have st28 := Xh26.caload hx (j := (0 : Int32)) (v := (.int c0)) Ar28.1 (State.isArrayOf_alike hZ.alike Ar28.2.1) Ar28.2.2 hin28 hat28 (g := (fr_tob2 m a2 19 (vI 0) (vR t21) (vI 0) [(iV 0), (.ref a2), (iV 0), (.ref t21)])) rfl rfl (D d16_19)
 refine ownBy st28 ?_
 show oA p e below _ T21 (fr_tob2 m a2 20 (vI 0) (vR t21) (vI 0) [(.int c0), (iV 0), (.ref t21)])
 have f29 := (X00.keep Kq21 all0)
 have f30 := (Nat.le_trans Z0 Kq21.1)
 obtain ⟨vv31, _, ⟨T31, L31, k31, n31⟩, -, X31, ⟨Lc31, hQ31, l31, y31, z31⟩, st31⟩ := Jvm.LawKit.callS Xh26 hx (y := yM2) hown (mvT hZ (Wd85 hw)) (mvT hZ (Wd86 hw)) (mvT hZ (Wd19 hw)) (mvT hZ (Wd87 hw)) (by decide) (backOf (W := 0) (c_put l Z a0 hw [] t21 kb21 (4 : Int32) [(iV 0), (iV 0), (iV 0), (iV 0)] (0 : Int32) c0 0 T21.heap n0 f30 Aq21 g23 ⟨by decide +kernel, by decide +kernel⟩ ⟨by decide +kernel, by decide +kernel⟩ (by decide +kernel) (by decide +kernel) (oLe rfl) SA SHI SLO f29) hZ (Wd87 hw) (Wd19 hw) (by decide) (by decide)) (g := (fr_tob2 m a2 20 (vI 0) (vR t21) (vI 0) [(.int c0), (iV 0), (.ref t21)])) rfl (by rw [hml]; rfl) (argsL := [(.ref t21), (iV 0), (.int c0)]) (rest := []) (lenOf pd_6 rfl) rfl (by show 2 * 0 + _ ≤ _; exact Nat.le_of_eq rfl) (D d16_20) (fun _ _ => ⟨rfl, rfl, (by decide : 1 + 0 ≤ _), (by decide : 4 + 0 ≤ _)⟩)
 dsimp only [Pt.U, Pt.locs, Pt.cells, Pt.slots] at X31 l31 y31 z31 st31 hQ31
 subst l31 y31 z31
 obtain ⟨rfl, Nq31, Kq31, Ap31⟩ := hQ31
 have Aq31 : Arv Z T31.heap t21 kb21 .byte (4 : Int32) [(.int (oW c0)), (.int (oH c0)), (iV 0), (iV 0)] (iV 0) := Ap31
 have N32 := Fr.app Nh26 Nq31
 obtain ⟨Lh33, Xh33, Nh33⟩ := oHd 1 4 X31 N32 rfl rfl
 refine ownBy st31 ?_
 clear st31
 show oA p e below _ T31 (fr_tob2 m a2 23 (vI 0) (vR t21) (vI 0) [])
 refine oTo T31 (fr_tob2 m a2 19 (vI 1) (vR t21) (vI 1) [(iV 1), (.ref a2), (iV 1), (.ref t21)]) (fun t kt => ?_) ?_
 ·refine XS.iinc Xh33.here hx rfl (D d16_23) rfl (l' := #[vR a2, vI 1, vI 2, vR t21, vI 0]) rfl ?_
  refine XS.iinc Xh33.here hx rfl (D d16_26) rfl (l' := #[vR a2, vI 1, vI 2, vR t21, vI 1]) rfl ?_
  refine XS.goto Xh33.here hx rfl (pc0 := 29) (pc' := 8) rfl (D d16_29) (by decide) (by decide) ?_
  refine XS.iload Xh33.here hx rfl (D d16_8) rfl ?_
  show Steps p.tables e below (T31.setTop (fr_tob2 m a2 10 (vI 1) (vR t21) (vI 1) [(iV 1)])) t
  refine XS.iloadN Xh33.here hx rfl (D d16_10) rfl ?_
  refine XS.icmpNo Xh33.here hx rfl (D d16_11) rfl (tlt ((by decide) : (1 : Int32) < (2 : Int32))).2.1 ?_
  refine XS.aloadN Xh33.here hx rfl (D d16_14) rfl rfl ?_
  refine XS.iload Xh33.here hx rfl (D d16_15) rfl ?_
  show Steps p.tables e below (T31.setTop (fr_tob2 m a2 17 (vI 1) (vR t21) (vI 1) [(iV 1), (.ref t21)])) t
  refine XS.aloadN Xh33.here hx rfl (D d16_17) rfl rfl ?_
  refine XS.iloadN Xh33.here hx rfl (D d16_18) rfl ?_
  exact kt
 have f34 := (f27.keep Kq31 (ninS ne22 nin0))
 obtain ⟨cl35, Ar35, q35, S35, N35, H35, G35⟩ := id f34
 have hin35 : ¬ ((1 : Int32) < 0 ∨ cl35.slots.size ≤ ((1 : Int32)).toNatClampNeg) := inb_of S35 ⟨by decide, by decide⟩
 have hat35 : cl35.slots[((1 : Int32)).toNatClampNeg]? = some (.int c1) := H35.at hin35 rfl
 have st35 := Xh33.caload hx (j := (1 : Int32)) (v := (.int c1)) Ar35.1 (State.isArrayOf_alike hZ.alike Ar35.2.1) Ar35.2.2 hin35 hat35 (g := (fr_tob2 m a2 19 (vI 1) (vR t21) (vI 1) [(iV 1), (.ref a2), (iV 1), (.ref t21)])) rfl rfl (D d16_19)
 refine ownBy st35 ?_
 show oA p e below _ T31 (fr_tob2 m a2 20 (vI 1) (vR t21) (vI 1) [(.int c1), (iV 1), (.ref t21)])
 have f36 := (f29.keep Kq31 (allS g23 all0))
 have f37 := (Nat.le_trans f30 Kq31.1)
 obtain ⟨vv38, _, ⟨T38, L38, k38, n38⟩, -, X38, ⟨Lc38, hQ38, l38, y38, z38⟩, st38⟩ := Jvm.LawKit.callS Xh33 hx (y := yM2) hown (mvT hZ (Wd85 hw)) (mvT hZ (Wd86 hw)) (mvT hZ (Wd19 hw)) (mvT hZ (Wd87 hw)) (by decide) (backOf (W := 0) (c_put l Z a0 hw [] t21 kb21 (4 : Int32) [(.int (oW c0)), (.int (oH c0)), (iV 0), (iV 0)] (1 : Int32) c1 2 T31.heap n0 f37 Aq31 g23 ⟨by decide +kernel, by decide +kernel⟩ ⟨by decide +kernel, by decide +kernel⟩ (by decide +kernel) (by decide +kernel) (oLe rfl) SA SHI SLO f36) hZ (Wd87 hw) (Wd19 hw) (by decide) (by decide)) (g := (fr_tob2 m a2 20 (vI 1) (vR t21) (vI 1) [(.int c1), (iV 1), (.ref t21)])) rfl (by rw [hml]; rfl) (argsL := [(.ref t21), (iV 1), (.int c1)]) (rest := []) (lenOf pd_6 rfl) rfl (by show 2 * 0 + _ ≤ _; exact Nat.le_of_eq rfl) (D d16_20) (fun _ _ => ⟨rfl, rfl, (by decide : 1 + 0 ≤ _), (by decide : 4 + 0 ≤ _)⟩)
 dsimp only [Pt.U, Pt.locs, Pt.cells, Pt.slots] at X38 l38 y38 z38 st38 hQ38
 subst l38 y38 z38
 obtain ⟨rfl, Nq38, Kq38, Ap38⟩ := hQ38
 have Aq38 : Arv Z T38.heap t21 kb21 .byte (4 : Int32) [(.int (oW c0)), (.int (oH c0)), (.int (oW c1)), (.int (oH c1))] (iV 0) := Ap38
 have N39 := Fr.app Nh33 Nq38
 obtain ⟨Lh40, Xh40, Nh40⟩ := oHd 1 4 X38 N39 rfl rfl
 refine ownBy st38 ?_
 clear st38
 show oA p e below _ T38 (fr_tob2 m a2 23 (vI 1) (vR t21) (vI 1) [])
 refine oTo T38 (fr_tob2 m a2 33 (vI 2) (vR t21) (vI 2) [(.ref t21)]) (fun t kt => ?_) ?_
 ·refine XS.iinc Xh40.here hx rfl (D d16_23) rfl (l' := #[vR a2, vI 2, vI 2, vR t21, vI 1]) rfl ?_
  refine XS.iinc Xh40.here hx rfl (D d16_26) rfl (l' := #[vR a2, vI 2, vI 2, vR t21, vI 2]) rfl ?_
  refine XS.goto Xh40.here hx rfl (pc0 := 29) (pc' := 8) rfl (D d16_29) (by decide) (by decide) ?_
  refine XS.iload Xh40.here hx rfl (D d16_8) rfl ?_
  show Steps p.tables e below (T38.setTop (fr_tob2 m a2 10 (vI 2) (vR t21) (vI 2) [(iV 2)])) t
  refine XS.iloadN Xh40.here hx rfl (D d16_10) rfl ?_
  refine XS.icmpYes Xh40.here hx rfl (pc0 := 11) (pc' := 32) rfl (D d16_11) rfl (flt ((by decide) : ¬ ((2 : Int32) < (2 : Int32)))).2.1 (by decide) (by decide) ?_
  refine XS.aloadN Xh40.here hx rfl (D d16_32) rfl rfl ?_
  exact kt
 have f41 := ((((Keep.refl h0 []).trans Kq21 all0).trans Kq31 (allS (Or.inr z24) all0)).trans Kq38 (allS (Or.inr z24) all0))
 refine ownRet Xh40 Bd.notSynchronized (v := some (.ref t21)) (fun h => by rw [Bd.returns] at h; cases h) ?_ (oLe rfl) (oLe rfl) (fun fs hr => retOut Xh40 hx Bd.returns rfl (Or.inr (Or.inr (Or.inr (Or.inr ⟨rfl, rfl, rfl⟩)))) (D d16_33) hr)
 show (Q_tob2 Z a2 kC c0 c1 h0 n0) (some (.ref t21)) T38.heap _
 exact ⟨t21, kb21, rfl, Nh40, f41, z24, Aq38⟩
abbrev fr_cp5_2 (m : MethodId) (a2 : Addr) (ta : Addr) (pc : Nat) (x1_ x3_ x5_ x6_ : Slot) (st : List Value) : JFrame := mkF m pc #[vR a2, x1_, vR ta, x3_, vI 2, x5_, x6_] st
def Q_cp5_2 (Z : State) (a2 : Addr) (kC : ClassId) (ta : Addr) (kb : ClassId) (c0 : Int32) (c1 : Int32) (h0 : Heap) (n0 : Nat) (v : Option Value) (h : Heap) (L : List Loc) : Prop := ∃ r : Int32, v = some (.int r) ∧ Fr n0 L ∧ Keep h0 h [ta] ∧ ((r = (2 : Int32) ∧ ¬ ((255 : Int32) < c0) ∧ ¬ ((255 : Int32) < c1) ∧ Arv Z h ta kb .byte (2 : Int32) [(.int (oL c0)), (.int (oL c1))] (iV 0)) ∨ (r = (0 : Int32) ∧ (255 : Int32) < c0) ∨ (r = (1 : Int32) ∧ (255 : Int32) < c1))
theorem ef_cp5_2 (m : MethodId) (x0 : Addr) (x1 : Int32) (x2 : Addr) (x3 : Int32) (x4 : Int32)  : entryFrame m #[(.ref x0), (.int x1), (.ref x2), (.int x3), (.int x4)] 7 = mkF m 0 #[vR x0, vI x1, vR x2, vI x3, vI x4, .unset, .unset] [] := by first | (simp [entryFrame, mkF, argsToLocals, Value.category]; done) | rfl
set_option maxRecDepth 65536 in
set_option maxHeartbeats 40000000 in
theorem c_cp5_2 (l : Launch) (Z : State) (a0 : Array Value) (hw : HW a0 Z) (ws : List Jvm.Cond) (a2 : Addr) (kC : ClassId) (ta : Addr) (kb : ClassId) (c0 : Int32) (c1 : Int32) (h0 : Heap) (n0 : Nat) (Z0 : n0 ≤ h0.size) (A2 : Arv Z h0 a2 kC .char (2 : Int32) [(.int c0), (.int c1)] (iV 0)) (At : Arv Z h0 ta kb .byte (2 : Int32) [(iV 0), (iV 0)] (iV 0)) (gt : n0 ≤ ta) (ne1 : a2 ≠ ta) :
  MetFree l yM8 (head1 (Jvm.Cond.code yM8 jdk_52_method_21_code 7 (some .int) :: ws) ({ frames := 0, cells := 0, slots := 0, locals := 0 } : Room)) (fun a U => a = #[(.ref a2), (iV 0), (.ref ta), (iV 0), (iV 2)] ∧ Z.Warmed39 U.vm ∧ U.heap = h0) (fun _ _ _ _ _ => True) (fun _ U o U' => ∃ v L, o = .returned v ∧ (Q_cp5_2 Z a2 kC ta kb c0 c1 h0 n0) v U'.heap L ∧ FrameEnd U o U' L ({ frames := 0, cells := 0, slots := 0, locals := 0 } : Room).cells ({ frames := 0, cells := 0, slots := 0, locals := 0 } : Room).slots) := by
 refine MetFree.of_bodySF (plainFor_of_name pn_3) hisR ?_
 intro p e s m args below meth c s₁ Bd hml0 hP hK
 obtain ⟨rfl, hZ, hHp⟩ := hP
 have hx := Bd.exec
 have D := fun {pc : Nat} {r} (h : decode _ pc = r) => hb Bd.bytes h
 have hml : c.maxLocals = 7 := hml0
 have hown : s.vm.findClass "java/lang/StringUTF16" = some m.cls := findClass_of_methodNamed Bd.named
 have hnm := (name_of_methodNamed Bd.named Bd.method).1
 have X0 : Stand p l e ({ frames := 0, cells := 0, slots := 0, locals := 0 } : Room) s m #[(.ref a2), (iV 0), (.ref ta), (iV 0), (iV 2)] below meth c s₁ [] 0 0 := Stand.of_body Bd
 have e0 : s₁.heap = h0 := by rw [← hHp, Bd.state]; rfl
 have N0 := Fr.nil n0
 refine ownOut (P := (Q_cp5_2 Z a2 kC ta kb c0 c1 h0 n0)) ?_
 refine ownBy (A := s₁.setTop (mkF m 0 #[vR a2, vI 0, vR ta, vI 0, vI 2, .unset, .unset] [])) (fun t k => castTop (ef_cp5_2 m a2 (0 : Int32) ta (0 : Int32) (2 : Int32)) k) ?_
 refine oTo s₁ (fr_cp5_2 m a2 ta 12 (vI 0) (vI 0) (vI 0) .unset [(iV 0), (.ref a2)]) (fun t kt => ?_) ?_
 ·refine XS.iconst X0.here hx rfl (D d5_0) ?_
  refine XS.istore X0.here hx rfl (D d5_1) rfl (l' := #[vR a2, vI 0, vR ta, vI 0, vI 2, vI 0, .unset]) rfl ?_
  refine XS.iload X0.here hx rfl (D d5_3) rfl ?_
  refine XS.iload X0.here hx rfl (D d5_5) rfl ?_
  show Steps p.tables e below (s₁.setTop (fr_cp5_2 m a2 ta 7 (vI 0) (vI 0) (vI 0) .unset [(iV 2), (iV 0)])) t
  refine XS.icmpNo X0.here hx rfl (D d5_7) rfl (tlt ((by decide) : (0 : Int32) < (2 : Int32))).2.1 ?_
  refine XS.aloadN X0.here hx rfl (D d5_10) rfl rfl ?_
  refine XS.iloadN X0.here hx rfl (D d5_11) rfl ?_
  exact kt
 obtain ⟨cl21, Ar21, q21, S21, N21, H21, G21⟩ := id A2
 have hin21 : ¬ ((0 : Int32) < 0 ∨ cl21.slots.size ≤ ((0 : Int32)).toNatClampNeg) := inb_of S21 ⟨by decide, by decide⟩
 have hat21 : cl21.slots[((0 : Int32)).toNatClampNeg]? = some (.int c0) := H21.at hin21 rfl
 have st21 := X0.caload hx (j := (0 : Int32)) (v := (.int c0)) (by rw [e0]; exact Ar21.1) (State.isArrayOf_alike hZ.alike Ar21.2.1) Ar21.2.2 hin21 hat21 (g := (fr_cp5_2 m a2 ta 12 (vI 0) (vI 0) (vI 0) .unset [(iV 0), (.ref a2)])) rfl rfl (D d5_12)
 refine ownBy st21 ?_
 show oA p e below _ s₁ (fr_cp5_2 m a2 ta 13 (vI 0) (vI 0) (vI 0) .unset [(.int c0)])
 refine oTo s₁ (fr_cp5_2 m a2 ta 20 (vI 0) (vI 0) (vI 0) (vI c0) [(iV 255), (.int c0)]) (fun t kt => ?_) ?_
 ·refine XS.istore X0.here hx rfl (D d5_13) rfl (l' := #[vR a2, vI 0, vR ta, vI 0, vI 2, vI 0, vI c0]) rfl ?_
  refine XS.iload X0.here hx rfl (D d5_15) rfl ?_
  refine XS.sipush X0.here hx rfl (D d5_17) ?_
  exact kt
 by_cases hc22 : (255 : Int32) < c0
 ·skip
  refine oTo s₁ (fr_cp5_2 m a2 ta 25 (vI 0) (vI 0) (vI 0) (vI c0) [(iV 0)]) (fun t kt => ?_) ?_
  ·refine XS.icmpNo X0.here hx rfl (D d5_20) rfl (tlt hc22).2.2.2 ?_
   refine XS.iload X0.here hx rfl (D d5_23) rfl ?_
   exact kt
  refine ownRet X0 Bd.notSynchronized (v := some (iV 0)) (fun h => by rw [Bd.returns] at h; cases h) ?_ (oLe rfl) (oLe rfl) (fun fs hr => retI X0 hx Bd.returns (D d5_25) hr)
  show (Q_cp5_2 Z a2 kC ta kb c0 c1 h0 n0) (some (iV 0)) s₁.heap _
  rw [e0]
  exact ⟨_, rfl, N0, (Keep.refl h0 [ta]), Or.inr (Or.inl ⟨rfl, hc22⟩)⟩
 ·skip
  refine oTo s₁ (fr_cp5_2 m a2 ta 31 (vI 0) (vI 0) (vI 0) (vI c0) [(.int (c0.toInt8.toInt32)), (iV 0), (.ref ta)]) (fun t kt => ?_) ?_
  ·refine XS.icmpYes X0.here hx rfl (pc0 := 20) (pc' := 26) rfl (D d5_20) rfl (flt hc22).2.2.2 (by decide) (by decide) ?_
   refine XS.aloadN X0.here hx rfl (D d5_26) rfl rfl ?_
   refine XS.iloadN X0.here hx rfl (D d5_27) rfl ?_
   refine XS.iload X0.here hx rfl (D d5_28) rfl ?_
   show Steps p.tables e below (s₁.setTop (fr_cp5_2 m a2 ta 30 (vI 0) (vI 0) (vI 0) (vI c0) [(.int c0), (iV 0), (.ref ta)])) t
   refine XS.i2b X0.here hx rfl (D d5_30) rfl ?_
   exact kt
  obtain ⟨cl23, Ar23, q23, S23, N23, H23, G23⟩ := id At
  have hin23 : ¬ ((0 : Int32) < 0 ∨ cl23.slots.size ≤ ((0 : Int32)).toNatClampNeg) := inb_of S23 ⟨by decide, by decide⟩
  obtain ⟨T23, h23, X23, e23, W23, st23⟩ := stB X0 hx hZ e0 Ar23 (j := (0 : Int32)) hin23 (g := (fr_cp5_2 m a2 ta 31 (vI 0) (vI 0) (vI 0) (vI c0) [(.int (c0.toInt8.toInt32)), (iV 0), (.ref ta)])) rfl rfl (D d5_31)
  have V24 : Arv Z h23 ta kb .byte (2 : Int32) [(.int (nar .byte (c0.toInt8.toInt32))), (iV 0)] (iV 0) := Arv.set Ar23 q23 S23 N23 H23 G23 (fits_nar_byte _) W23 0 rfl (oLe rfl)
  rw [own_nar_byte c0] at V24
  clear hin23 G23 H23 N23 S23 q23 Ar23 cl23
  have N25 := Fr.snoc X23 N0 gt
  obtain ⟨Lh26, Xh26, Nh26⟩ := oHd 0 0 X23 N25 rfl rfl
  refine ownBy st23 ?_
  clear st23
  show oA p e below _ T23 (fr_cp5_2 m a2 ta 32 (vI 0) (vI 0) (vI 0) (vI c0) [])
  refine oTo T23 (fr_cp5_2 m a2 ta 12 (vI 1) (vI 1) (vI 1) (vI c0) [(iV 1), (.ref a2)]) (fun t kt => ?_) ?_
  ·refine XS.iinc Xh26.here hx rfl (D d5_32) rfl (l' := #[vR a2, vI 1, vR ta, vI 0, vI 2, vI 0, vI c0]) rfl ?_
   refine XS.iinc Xh26.here hx rfl (D d5_35) rfl (l' := #[vR a2, vI 1, vR ta, vI 1, vI 2, vI 0, vI c0]) rfl ?_
   refine XS.iinc Xh26.here hx rfl (D d5_38) rfl (l' := #[vR a2, vI 1, vR ta, vI 1, vI 2, vI 1, vI c0]) rfl ?_
   refine XS.goto Xh26.here hx rfl (pc0 := 41) (pc' := 3) rfl (D d5_41) (by decide) (by decide) ?_
   show Steps p.tables e below (T23.setTop (fr_cp5_2 m a2 ta 3 (vI 1) (vI 1) (vI 1) (vI c0) [])) t
   refine XS.iload Xh26.here hx rfl (D d5_3) rfl ?_
   refine XS.iload Xh26.here hx rfl (D d5_5) rfl ?_
   refine XS.icmpNo Xh26.here hx rfl (D d5_7) rfl (tlt ((by decide) : (1 : Int32) < (2 : Int32))).2.1 ?_
   refine XS.aloadN Xh26.here hx rfl (D d5_10) rfl rfl ?_
   show Steps p.tables e below (T23.setTop (fr_cp5_2 m a2 ta 11 (vI 1) (vI 1) (vI 1) (vI c0) [(.ref a2)])) t
   refine XS.iloadN Xh26.here hx rfl (D d5_11) rfl ?_
   exact kt
  have f27 := (A2.other W23 ne1)
  obtain ⟨cl28, Ar28, q28, S28, N28, H28, G28⟩ := id f27
  have hin28 : ¬ ((1 : Int32) < 0 ∨ cl28.slots.size ≤ ((1 : Int32)).toNatClampNeg) := inb_of S28 ⟨by decide, by decide⟩
  have hat28 : cl28.slots[((1 : Int32)).toNatClampNeg]? = some (.int c1) := H28.at hin28 rfl
  have st28 := Xh26.caload hx (j := (1 : Int32)) (v := (.int c1)) (by rw [e23]; exact Ar28.1) (State.isArrayOf_alike hZ.alike Ar28.2.1) Ar28.2.2 hin28 hat28 (g := (fr_cp5_2 m a2 ta 12 (vI 1) (vI 1) (vI 1) (vI c0) [(iV 1), (.ref a2)])) rfl rfl (D d5_12)
  refine ownBy st28 ?_
  show oA p e below _ T23 (fr_cp5_2 m a2 ta 13 (vI 1) (vI 1) (vI 1) (vI c0) [(.int c1)])
  refine oTo T23 (fr_cp5_2 m a2 ta 20 (vI 1) (vI 1) (vI 1) (vI c1) [(iV 255), (.int c1)]) (fun t kt => ?_) ?_
  ·refine XS.istore Xh26.here hx rfl (D d5_13) rfl (l' := #[vR a2, vI 1, vR ta, vI 1, vI 2, vI 1, vI c1]) rfl ?_
   refine XS.iload Xh26.here hx rfl (D d5_15) rfl ?_
   refine XS.sipush Xh26.here hx rfl (D d5_17) ?_
   exact kt
  by_cases hc29 : (255 : Int32) < c1
  ·skip
   refine oTo T23 (fr_cp5_2 m a2 ta 25 (vI 1) (vI 1) (vI 1) (vI c1) [(iV 1)]) (fun t kt => ?_) ?_
   ·refine XS.icmpNo Xh26.here hx rfl (D d5_20) rfl (tlt hc29).2.2.2 ?_
    refine XS.iload Xh26.here hx rfl (D d5_23) rfl ?_
    exact kt
   have f30 := ((Keep.refl h0 [ta]).wr W23 (Or.inl (List.mem_of_getElem? (i := 0) rfl)))
   refine ownRet Xh26 Bd.notSynchronized (v := some (iV 1)) (fun h => by rw [Bd.returns] at h; cases h) ?_ (oLe rfl) (oLe rfl) (fun fs hr => retI Xh26 hx Bd.returns (D d5_25) hr)
   show (Q_cp5_2 Z a2 kC ta kb c0 c1 h0 n0) (some (iV 1)) T23.heap _
   rw [e23]
   exact ⟨_, rfl, Nh26, f30, Or.inr (Or.inr (⟨rfl, hc29⟩))⟩
  ·skip
   refine oTo T23 (fr_cp5_2 m a2 ta 31 (vI 1) (vI 1) (vI 1) (vI c1) [(.int (c1.toInt8.toInt32)), (iV 1), (.ref ta)]) (fun t kt => ?_) ?_
   ·refine XS.icmpYes Xh26.here hx rfl (pc0 := 20) (pc' := 26) rfl (D d5_20) rfl (flt hc29).2.2.2 (by decide) (by decide) ?_
    refine XS.aloadN Xh26.here hx rfl (D d5_26) rfl rfl ?_
    refine XS.iloadN Xh26.here hx rfl (D d5_27) rfl ?_
    refine XS.iload Xh26.here hx rfl (D d5_28) rfl ?_
    show Steps p.tables e below (T23.setTop (fr_cp5_2 m a2 ta 30 (vI 1) (vI 1) (vI 1) (vI c1) [(.int c1), (iV 1), (.ref ta)])) t
    refine XS.i2b Xh26.here hx rfl (D d5_30) rfl ?_
    exact kt
   obtain ⟨cl31, Ar31, q31, S31, N31, H31, G31⟩ := id V24
   have hin31 : ¬ ((1 : Int32) < 0 ∨ cl31.slots.size ≤ ((1 : Int32)).toNatClampNeg) := inb_of S31 ⟨by decide, by decide⟩
   obtain ⟨T31, h31, X31, e31, W31, st31⟩ := stB Xh26 hx hZ e23 Ar31 (j := (1 : Int32)) hin31 (g := (fr_cp5_2 m a2 ta 31 (vI 1) (vI 1) (vI 1) (vI c1) [(.int (c1.toInt8.toInt32)), (iV 1), (.ref ta)])) rfl rfl (D d5_31)
   have V32 : Arv Z h31 ta kb .byte (2 : Int32) [(.int (oL c0)), (.int (nar .byte (c1.toInt8.toInt32)))] (iV 0) := Arv.set Ar31 q31 S31 N31 H31 G31 (fits_nar_byte _) W31 1 rfl (oLe rfl)
   rw [own_nar_byte c1] at V32
   clear hin31 G31 H31 N31 S31 q31 Ar31 cl31 V24
   have N33 := Fr.snoc X31 Nh26 gt
   obtain ⟨Lh34, Xh34, Nh34⟩ := oHd 0 0 X31 N33 rfl rfl
   refine ownBy st31 ?_
   clear st31
   show oA p e below _ T31 (fr_cp5_2 m a2 ta 32 (vI 1) (vI 1) (vI 1) (vI c1) [])
   refine oTo T31 (fr_cp5_2 m a2 ta 46 (vI 2) (vI 2) (vI 2) (vI c1) [(iV 2)]) (fun t kt => ?_) ?_
   ·refine XS.iinc Xh34.here hx rfl (D d5_32) rfl (l' := #[vR a2, vI 2, vR ta, vI 1, vI 2, vI 1, vI c1]) rfl ?_
    refine XS.iinc Xh34.here hx rfl (D d5_35) rfl (l' := #[vR a2, vI 2, vR ta, vI 2, vI 2, vI 1, vI c1]) rfl ?_
    refine XS.iinc Xh34.here hx rfl (D d5_38) rfl (l' := #[vR a2, vI 2, vR ta, vI 2, vI 2, vI 2, vI c1]) rfl ?_
    refine XS.goto Xh34.here hx rfl (pc0 := 41) (pc' := 3) rfl (D d5_41) (by decide) (by decide) ?_
    show Steps p.tables e below (T31.setTop (fr_cp5_2 m a2 ta 3 (vI 2) (vI 2) (vI 2) (vI c1) [])) t
    refine XS.iload Xh34.here hx rfl (D d5_3) rfl ?_
    refine XS.iload Xh34.here hx rfl (D d5_5) rfl ?_
    refine XS.icmpYes Xh34.here hx rfl (pc0 := 7) (pc' := 44) rfl (D d5_7) rfl (flt ((by decide) : ¬ ((2 : Int32) < (2 : Int32)))).2.1 (by decide) (by decide) ?_
    refine XS.iload Xh34.here hx rfl (D d5_44) rfl ?_
    exact kt
   have f35 := (((Keep.refl h0 [ta]).wr W23 (Or.inl (List.mem_of_getElem? (i := 0) rfl))).wr W31 (Or.inl (List.mem_of_getElem? (i := 0) rfl)))
   refine ownRet Xh34 Bd.notSynchronized (v := some (iV 2)) (fun h => by rw [Bd.returns] at h; cases h) ?_ (oLe rfl) (oLe rfl) (fun fs hr => retI Xh34 hx Bd.returns (D d5_46) hr)
   show (Q_cp5_2 Z a2 kC ta kb c0 c1 h0 n0) (some (iV 2)) T31.heap _
   rw [e31]
   exact ⟨_, rfl, Nh34, f35, Or.inl ⟨rfl, hc22, hc29, V32⟩⟩
abbrev fr_cp3_2 (m : MethodId) (a2 : Addr) (pc : Nat) (x3_ x4_ x5_ : Slot) (st : List Value) : JFrame := mkF m pc #[vR a2, vI 0, vI 2, x3_, x4_, x5_] st
def Q_cp3_2 (Z : State) (a2 : Addr) (kC : ClassId) (c0 : Int32) (c1 : Int32) (h0 : Heap) (n0 : Nat) (v : Option Value) (h : Heap) (L : List Loc) : Prop := ∃ (ta : Addr) (kb : ClassId), v = some (.ref ta) ∧ Fr n0 L ∧ Keep h0 h [] ∧ h0.size ≤ ta ∧ ((¬ ((255 : Int32) < c0) ∧ ¬ ((255 : Int32) < c1) ∧ Arv Z h ta kb .byte (2 : Int32) [(.int (oL c0)), (.int (oL c1))] (iV 0)) ∨ (((255 : Int32) < c0 ∨ (255 : Int32) < c1) ∧ Arv Z h ta kb .byte (4 : Int32) [(.int (oW c0)), (.int (oH c0)), (.int (oW c1)), (.int (oH c1))] (iV 0)))
theorem ef_cp3_2 (m : MethodId) (x0 : Addr) (x1 : Int32) (x2 : Int32)  : entryFrame m #[(.ref x0), (.int x1), (.int x2)] 6 = mkF m 0 #[vR x0, vI x1, vI x2, .unset, .unset, .unset] [] := by first | (simp [entryFrame, mkF, argsToLocals, Value.category]; done) | rfl
set_option maxRecDepth 65536 in
set_option maxHeartbeats 40000000 in
theorem c_cp3_2 (l : Launch) (Z : State) (a0 : Array Value) (hw : HW a0 Z) (ws : List Jvm.Cond) (a2 : Addr) (kC : ClassId) (c0 : Int32) (c1 : Int32) (h0 : Heap) (n0 : Nat) (Z0 : n0 ≤ h0.size) (A2 : Arv Z h0 a2 kC .char (2 : Int32) [(.int c0), (.int c1)] (iV 0)) (hc0 : ¬ c0 < 0 ∧ ¬ (65535 : Int32) < c0) (hc1 : ¬ c1 < 0 ∧ ¬ (65535 : Int32) < c1) (SA : Sta Z Z.heap "java/lang/StringUTF16" "$assertionsDisabled" "Z" (iV 1)) (SHI : Sta Z Z.heap "java/lang/StringUTF16" "HI_BYTE_SHIFT" "I" (iV 0)) (SLO : Sta Z Z.heap "java/lang/StringUTF16" "LO_BYTE_SHIFT" "I" (iV 8)) (X00 : Old Z n0 h0) :
  MetFree l yM9 (head1 (Jvm.Cond.code yM9 jdk_52_method_16_code 6 (some (.array .byte)) :: ws) ({ frames := 3, cells := 2, slots := 6, locals := 40 } : Room)) (fun a U => a = #[(.ref a2), (iV 0), (iV 2)] ∧ Z.Warmed39 U.vm ∧ U.heap = h0) (fun _ _ _ _ _ => True) (fun _ U o U' => ∃ v L, o = .returned v ∧ (Q_cp3_2 Z a2 kC c0 c1 h0 n0) v U'.heap L ∧ FrameEnd U o U' L ({ frames := 3, cells := 2, slots := 6, locals := 40 } : Room).cells ({ frames := 3, cells := 2, slots := 6, locals := 40 } : Room).slots) := by
 refine MetFree.of_bodySF (plainFor_of_name pn_3) hisR ?_
 intro p e s m args below meth c s₁ Bd hml0 hP hK
 obtain ⟨rfl, hZ, hHp⟩ := hP
 have hx := Bd.exec
 have D := fun {pc : Nat} {r} (h : decode _ pc = r) => hb Bd.bytes h
 have hml : c.maxLocals = 6 := hml0
 have hown : s.vm.findClass "java/lang/StringUTF16" = some m.cls := findClass_of_methodNamed Bd.named
 have hnm := (name_of_methodNamed Bd.named Bd.method).1
 have X0 : Stand p l e ({ frames := 3, cells := 2, slots := 6, locals := 40 } : Room) s m #[(.ref a2), (iV 0), (iV 2)] below meth c s₁ [] 0 0 := Stand.of_body Bd
 have e0 : s₁.heap = h0 := by rw [← hHp, Bd.state]; rfl
 have N0 := Fr.nil n0
 refine ownOut (P := (Q_cp3_2 Z a2 kC c0 c1 h0 n0)) ?_
 refine ownBy (A := s₁.setTop (mkF m 0 #[vR a2, vI 0, vI 2, .unset, .unset, .unset] [])) (fun t k => castTop (ef_cp3_2 m a2 (0 : Int32) (2 : Int32)) k) ?_
 refine oTo s₁ (fr_cp3_2 m a2 1 .unset .unset .unset [(iV 2)]) (fun t kt => ?_) ?_
 ·refine XS.iloadN X0.here hx rfl (D d4_0) rfl ?_
  exact kt
 obtain ⟨T21, h21, k21, X21, e21, E21, A21, st21⟩ := newP X0 hx hZ (aty := .byte) (Wd21 hw) e0 (g := (fr_cp3_2 m a2 1 .unset .unset .unset [(iV 2)])) rfl (D d4_1) rfl (by decide : ¬ ((2 : Int32) < (0 : Int32))) (cap := 2) (by decide) (by decide) (by decide) (by decide)
 obtain ⟨b21, g21⟩ : ∃ z, z = h0.size := ⟨_, rfl⟩
 rw [← g21] at A21 st21
 have ne22 : a2 ≠ b21 := Nat.ne_of_lt (Nat.lt_of_lt_of_le A2.lt (Nat.le_of_eq g21.symm))
 have g23 : n0 ≤ b21 := Nat.le_trans Z0 (Nat.le_of_eq g21.symm)
 have z24 : h0.size ≤ b21 := Nat.le_trans (Nat.le_refl h0.size) (Nat.le_of_eq g21.symm)
 have V25 : Arv Z h21 b21 k21 .byte (2 : Int32) [(iV 0), (iV 0)] (iV 0) := (Arv.new A21 (by decide)).pad (pad_rep [] (iV 0) 2)
 refine ownBy st21 ?_
 clear st21
 show oA p e below _ T21 (fr_cp3_2 m a2 3 .unset .unset .unset [(.ref b21)])
 refine oTo T21 (fr_cp3_2 m a2 9 (vR b21) .unset .unset [(iV 2), (iV 0), (.ref b21), (iV 0), (.ref a2)]) (fun t kt => ?_) ?_
 ·refine XS.astoreN X21.here hx rfl (D d4_3) rfl rfl (l' := #[vR a2, vI 0, vI 2, vR b21, .unset, .unset]) rfl ?_
  refine XS.aloadN X21.here hx rfl (D d4_4) rfl rfl ?_
  refine XS.iloadN X21.here hx rfl (D d4_5) rfl ?_
  refine XS.aloadN X21.here hx rfl (D d4_6) rfl rfl ?_
  show Steps p.tables e below (T21.setTop (fr_cp3_2 m a2 7 (vR b21) .unset .unset [(.ref b21), (iV 0), (.ref a2)])) t
  refine XS.iconst X21.here hx rfl (D d4_7) ?_
  refine XS.iloadN X21.here hx rfl (D d4_8) rfl ?_
  exact kt
 have f26 := (A2.ext E21)
 have f27 := (Nat.le_trans Z0 E21.1)
 obtain ⟨vv28, _, ⟨T28, L28, k28, n28⟩, -, X28, ⟨Lc28, hQ28, l28, y28, z28⟩, st28⟩ := Jvm.LawKit.callS X21 hx (y := yM8) hown (mvT hZ (Wd22 hw)) (mvT hZ (Wd23 hw)) (mvT hZ (Wd19 hw)) (mvT hZ (Wd24 hw)) (by decide) (backOf (W := 0) (c_cp5_2 l Z a0 hw [] a2 kC b21 k21 c0 c1 h21 n0 f27 f26 V25 g23 ne22) hZ (Wd24 hw) (Wd19 hw) (by decide) (by decide)) (g := (fr_cp3_2 m a2 9 (vR b21) .unset .unset [(iV 2), (iV 0), (.ref b21), (iV 0), (.ref a2)])) rfl (by rw [hml]; rfl) (argsL := [(.ref a2), (iV 0), (.ref b21), (iV 0), (iV 2)]) (rest := []) (lenOf pd_7 rfl) rfl (by show 2 * 0 + _ ≤ _; exact Nat.le_of_eq rfl) (D d4_9) (fun _ _ => ⟨rfl, e21, (by decide : 1 + 0 ≤ _), (by decide : 2 + 0 ≤ _)⟩)
 dsimp only [Pt.U, Pt.locs, Pt.cells, Pt.slots] at X28 l28 y28 z28 st28 hQ28
 subst l28 y28 z28
 obtain ⟨r28, rfl, Nq28, Kq28, hB28⟩ := hQ28
 rcases hB28 with ⟨rfl, hn28_0, hn28_1, Aq28⟩ | hF
 ·skip
  have N29 := Fr.app N0 Nq28
  obtain ⟨Lh30, Xh30, Nh30⟩ := oHd 1 2 X28 N29 rfl rfl
  refine ownBy st28 ?_
  clear st28
  show oA p e below _ T28 (fr_cp3_2 m a2 12 (vR b21) .unset .unset [(iV 2)])
  refine oTo T28 (fr_cp3_2 m a2 58 (vR b21) (vI 2) .unset [(.ref b21)]) (fun t kt => ?_) ?_
  ·refine XS.istore Xh30.here hx rfl (D d4_12) rfl (l' := #[vR a2, vI 0, vI 2, vR b21, vI 2, .unset]) rfl ?_
   refine XS.iload Xh30.here hx rfl (D d4_14) rfl ?_
   refine XS.iloadN Xh30.here hx rfl (D d4_16) rfl ?_
   refine XS.icmpYes Xh30.here hx rfl (pc0 := 17) (pc' := 57) rfl (D d4_17) rfl (teq ((by decide) : (2 : Int32) = (2 : Int32))).1 (by decide) (by decide) ?_
   show Steps p.tables e below (T28.setTop (fr_cp3_2 m a2 57 (vR b21) (vI 2) .unset [])) t
   refine XS.aloadN Xh30.here hx rfl (D d4_57) rfl rfl ?_
   exact kt
  have f31 := (((Keep.refl h0 []).ext E21).trans Kq28 (allS (Or.inr z24) all0))
  refine ownRet Xh30 Bd.notSynchronized (v := some (.ref b21)) (fun h => by rw [Bd.returns] at h; cases h) ?_ (oLe rfl) (oLe rfl) (fun fs hr => retOut Xh30 hx Bd.returns rfl (Or.inr (Or.inr (Or.inr (Or.inr ⟨rfl, rfl, rfl⟩)))) (D d4_58) hr)
  show (Q_cp3_2 Z a2 kC c0 c1 h0 n0) (some (.ref b21)) T28.heap _
  exact ⟨b21, k21, rfl, Nh30, f31, z24, Or.inl ⟨hn28_0, hn28_1, Aq28⟩⟩
 ·skip
  have N32 := Fr.app N0 Nq28
  obtain ⟨Lh33, Xh33, Nh33⟩ := oHd 1 2 X28 N32 rfl rfl
  refine ownBy st28 ?_
  clear st28
  show oA p e below _ T28 (fr_cp3_2 m a2 12 (vR b21) .unset .unset [(.int r28)])
  have hr : ¬ (r28 = (2 : Int32)) := by
   rcases hF with ⟨rfl, -⟩ | ⟨rfl, -⟩ <;> decide
  refine oTo T28 (fr_cp3_2 m a2 23 (vR b21) (vI r28) .unset [(iV 2), (iV 0), (.ref a2)]) (fun t kt => ?_) ?_
  ·refine XS.istore Xh33.here hx rfl (D d4_12) rfl (l' := #[vR a2, vI 0, vI 2, vR b21, vI r28, .unset]) rfl ?_
   refine XS.iload Xh33.here hx rfl (D d4_14) rfl ?_
   refine XS.iloadN Xh33.here hx rfl (D d4_16) rfl ?_
   refine XS.icmpNo Xh33.here hx rfl (D d4_17) rfl (feq hr).1 ?_
   show Steps p.tables e below (T28.setTop (fr_cp3_2 m a2 20 (vR b21) (vI r28) .unset [])) t
   refine XS.aloadN Xh33.here hx rfl (D d4_20) rfl rfl ?_
   refine XS.iloadN Xh33.here hx rfl (D d4_21) rfl ?_
   refine XS.iloadN Xh33.here hx rfl (D d4_22) rfl ?_
   exact kt
  have f34 := (f26.keep Kq28 (ninS ne22 nin0))
  have f35 := ((X00.ext E21).keep Kq28 (allS g23 all0))
  have f36 := (Nat.le_trans f27 Kq28.1)
  obtain ⟨vv37, _, ⟨T37, L37, k37, n37⟩, -, X37, ⟨Lc37, hQ37, l37, y37, z37⟩, st37⟩ := Jvm.LawKit.callS Xh33 hx (y := yM7) hown (mvT hZ (Wd75 hw)) (mvT hZ (Wd76 hw)) (mvT hZ (Wd19 hw)) (mvT hZ (Wd77 hw)) (by decide) (backOf (W := 0) (c_tob2 l Z a0 hw [] a2 kC c0 c1 T28.heap n0 f36 f34 SA SHI SLO f35) hZ (Wd77 hw) (Wd19 hw) (by decide) (by decide)) (g := (fr_cp3_2 m a2 23 (vR b21) (vI r28) .unset [(iV 2), (iV 0), (.ref a2)])) rfl (by rw [hml]; rfl) (argsL := [(.ref a2), (iV 0), (iV 2)]) (rest := []) (lenOf pd_8 rfl) rfl (by show 2 * 0 + _ ≤ _; exact Nat.le_of_eq rfl) (D d4_23) (fun _ _ => ⟨rfl, rfl, (by decide : 1 + 1 ≤ _), (by decide : 2 + 4 ≤ _)⟩)
  dsimp only [Pt.U, Pt.locs, Pt.cells, Pt.slots] at X37 l37 y37 z37 st37 hQ37
  subst l37 y37 z37
  obtain ⟨t37, kb37, rfl, Nq37, Kq37, zq37, Aq37⟩ := hQ37
  have ne38 : a2 ≠ t37 := Nat.ne_of_lt (Nat.lt_of_lt_of_le f34.lt zq37)
  have g39 : n0 ≤ t37 := Nat.le_trans f36 zq37
  have f41 := (Nat.le_trans (Nat.le_trans (Nat.le_refl h0.size) E21.1) Kq28.1)
  have z40 : h0.size ≤ t37 := Nat.le_trans f41 zq37
  have N42 := Fr.app Nh33 Nq37
  obtain ⟨Lh43, Xh43, Nh43⟩ := oHd 2 6 X37 N42 rfl rfl
  refine ownBy st37 ?_
  clear st37
  show oA p e below _ T37 (fr_cp3_2 m a2 26 (vR b21) (vI r28) .unset [(.ref t37)])
  refine oTo T37 (fr_cp3_2 m a2 32 (vR b21) (vI r28) (vR t37) [(.int r28), (.ref t37)]) (fun t kt => ?_) ?_
  ·refine XS.astore Xh43.here hx rfl (D d4_26) rfl rfl (l' := #[vR a2, vI 0, vI 2, vR b21, vI r28, vR t37]) rfl ?_
   refine XS.aload Xh43.here hx rfl (D d4_28) rfl rfl ?_
   refine XS.iload Xh43.here hx rfl (D d4_30) rfl ?_
   exact kt
  obtain ⟨cM, kM, q0, q1, k0, k1, u0, u1, hcM, hgM⟩ : ∃ (cM : Int32) (kM : Nat), (¬ (r28 <<< ((1 : Int32) &&& 31)) < 0 ∧ (r28 <<< ((1 : Int32) &&& 31)) < (4 : Int32)) ∧ (¬ ((r28 <<< ((1 : Int32) &&& 31)) + (1 : Int32)) < 0 ∧ ((r28 <<< ((1 : Int32) &&& 31)) + (1 : Int32)) < (4 : Int32)) ∧ (r28 <<< ((1 : Int32) &&& 31)).toNatClampNeg = kM ∧ ((r28 <<< ((1 : Int32) &&& 31)) + (1 : Int32)).toNatClampNeg = kM + 1 ∧ ([(.int (oW c0)), (.int (oH c0)), (.int (oW c1)), (.int (oH c1))] : List Value).getD kM (iV 0) = .int (oW cM) ∧ ([(.int (oW c0)), (.int (oH c0)), (.int (oW c1)), (.int (oH c1))] : List Value).getD (kM + 1) (iV 0) = .int (oH cM) ∧ (¬ cM < 0 ∧ ¬ (65535 : Int32) < cM) ∧ (255 : Int32) < cM := by
   rcases hF with ⟨rfl, h⟩ | ⟨rfl, h⟩
   ·exact ⟨c0, 0, by decide +kernel, by decide +kernel, by decide +kernel, by decide +kernel, rfl, rfl, hc0, h⟩
   ·exact ⟨c1, 2, by decide +kernel, by decide +kernel, by decide +kernel, by decide +kernel, rfl, rfl, hc1, h⟩
  have f44 := (f35.keep Kq37 all0)
  have f45 := (Nat.le_trans f36 Kq37.1)
  obtain ⟨vv46, _, ⟨T46, L46, k46, n46⟩, -, X46, ⟨Lc46, hQ46, l46, y46, z46⟩, st46⟩ := Jvm.LawKit.callS Xh43 hx (y := yM5) hown (mvT hZ (Wd91 hw)) (mvT hZ (Wd92 hw)) (mvT hZ (Wd19 hw)) (mvT hZ (Wd93 hw)) (by decide) (backOf (W := 0) (c_getc l Z a0 hw [] t37 kb37 (4 : Int32) [(.int (oW c0)), (.int (oH c0)), (.int (oW c1)), (.int (oH c1))] r28 cM kM T37.heap n0 f45 Aq37 q0 q1 k0 k1 u0 u1 hcM SA SHI SLO f44) hZ (Wd93 hw) (Wd19 hw) (by decide) (by decide)) (g := (fr_cp3_2 m a2 32 (vR b21) (vI r28) (vR t37) [(.int r28), (.ref t37)])) rfl (by rw [hml]; rfl) (argsL := [(.ref t37), (.int r28)]) (rest := []) (lenOf pd_9 rfl) rfl (by show 2 * 0 + _ ≤ _; exact Nat.le_of_eq rfl) (D d4_32) (fun _ _ => ⟨rfl, rfl, (by decide : 2 + 0 ≤ _), (by decide : 6 + 0 ≤ _)⟩)
  dsimp only [Pt.U, Pt.locs, Pt.cells, Pt.slots] at X46 l46 y46 z46 st46 hQ46
  subst l46 y46 z46
  obtain ⟨rfl, Nq46, Eq46⟩ := hQ46
  have N47 := Fr.app Nh43 Nq46
  obtain ⟨Lh48, Xh48, Nh48⟩ := oHd 2 6 X46 N47 rfl rfl
  refine ownBy st46 ?_
  clear st46
  show oA p e below _ T46 (fr_cp3_2 m a2 35 (vR b21) (vI r28) (vR t37) [(.int cM)])
  refine oTo T46 (fr_cp3_2 m a2 56 (vR b21) (vI r28) (vR t37) [(.ref t37)]) (fun t kt => ?_) ?_
  ·refine XS.sipush Xh48.here hx rfl (D d4_35) ?_
   refine XS.icmpYes Xh48.here hx rfl (pc0 := 38) (pc' := 54) rfl (D d4_38) rfl (tlt hgM).2.2.1 (by decide) (by decide) ?_
   refine XS.aload Xh48.here hx rfl (D d4_54) rfl rfl ?_
   exact kt
  have hg3 : (255 : Int32) < c0 ∨ (255 : Int32) < c1 := by
   rcases hF with ⟨-, h⟩ | ⟨-, h⟩
   ·exact Or.inl h
   ·exact Or.inr (h)
  have f49 := ((((Keep.refl h0 []).ext E21).trans Kq28 (allS (Or.inr z24) all0)).trans Kq37 all0)
  refine ownRet Xh48 Bd.notSynchronized (v := some (.ref t37)) (fun h => by rw [Bd.returns] at h; cases h) ?_ (oLe rfl) (oLe rfl) (fun fs hr => retOut Xh48 hx Bd.returns rfl (Or.inr (Or.inr (Or.inr (Or.inr ⟨rfl, rfl, rfl⟩)))) (D d4_56) hr)
  show (Q_cp3_2 Z a2 kC c0 c1 h0 n0) (some (.ref t37)) T46.heap _
  rw [Eq46]
  exact ⟨t37, kb37, rfl, Nh48, f49, z40, Or.inr ⟨hg3, Aq37⟩⟩
abbrev fr_ini4_2 (m : MethodId) (a1 : Addr) (a2 : Addr) (pc : Nat) (x5_ : Slot) (st : List Value) : JFrame := mkF m pc #[vR a1, vR a2, vI 0, vI 2, .val .null, x5_] st
def Q_ini4_2 (Z : State) (a1 : Addr) (a2 : Addr) (kC : ClassId) (c0 : Int32) (c1 : Int32) (c9 : Value) (G1 : Int32) (h0 : Heap) (n0 : Nat) (v : Option Value) (h : Heap) (L : List Loc) : Prop := v = none ∧ Fr n0 L ∧ Keep h0 h [a1] ∧ Exa Z h a1 "java/lang/String" ∧ ∃ (ta : Addr) (kb : ClassId) (cd z : Int32) (vs : List Value), h0.size ≤ ta ∧ Fld Z h a1 "java/lang/String" "value" "[B" (.ref ta) ∧ Fld Z h a1 "java/lang/String" "coder" "B" (.int cd) ∧ Arv Z h ta kb .byte z vs (iV 0) ∧ ((cd = (0 : Int32) ∧ z = (2 : Int32) ∧ vs = [(.int (oL c0)), (.int (oL c1))] ∧ ¬ ((255 : Int32) < c0) ∧ ¬ ((255 : Int32) < c1)) ∨ (cd = (1 : Int32) ∧ z = (4 : Int32) ∧ vs = [(.int (oW c0)), (.int (oH c0)), (.int (oW c1)), (.int (oH c1))] ∧ ((255 : Int32) < c0 ∨ (255 : Int32) < c1)))
theorem ef_ini4_2 (m : MethodId) (x0 : Addr) (x1 : Addr) (x2 : Int32) (x3 : Int32)  : entryFrame m #[(.ref x0), (.ref x1), (.int x2), (.int x3), .null] 6 = mkF m 0 #[vR x0, vR x1, vI x2, vI x3, .val .null, .unset] [] := by first | (simp [entryFrame, mkF, argsToLocals, Value.category]; done) | rfl
set_option maxRecDepth 65536 in
set_option maxHeartbeats 40000000 in
theorem c_ini4_2 (l : Launch) (Z : State) (a0 : Array Value) (hw : HW a0 Z) (ws : List Jvm.Cond) (a1 : Addr) (a2 : Addr) (kC : ClassId) (c0 : Int32) (c1 : Int32) (c9 : Value) (G1 : Int32) (h0 : Heap) (n0 : Nat) (Z0 : n0 ≤ h0.size) (E1 : Exa Z h0 a1 "java/lang/String") (F1 : Fld Z h0 a1 "java/lang/String" "value" "[B" .null) (F2 : Fld Z h0 a1 "java/lang/String" "coder" "B" c9) (g1 : n0 ≤ a1) (ne1 : a1 ≠ a2) (A2 : Arv Z h0 a2 kC .char (2 : Int32) [(.int c0), (.int c1)] (iV 0)) (hc0 : ¬ c0 < 0 ∧ ¬ (65535 : Int32) < c0) (hc1 : ¬ c1 < 0 ∧ ¬ (65535 : Int32) < c1) (O2 : Sta Z Z.heap "java/lang/String" "COMPACT_STRINGS" "Z" (.int G1)) (P5 : ¬ (G1 = (0 : Int32))) (SA : Sta Z Z.heap "java/lang/StringUTF16" "$assertionsDisabled" "Z" (iV 1)) (SHI : Sta Z Z.heap "java/lang/StringUTF16" "HI_BYTE_SHIFT" "I" (iV 0)) (SLO : Sta Z Z.heap "java/lang/StringUTF16" "LO_BYTE_SHIFT" "I" (iV 8)) (X00 : Old Z n0 h0) :
  MetFree l yM0 (head1 (Jvm.Cond.code yM0 jdk_42_method_149_code 6 none :: ws) ({ frames := 4, cells := 2, slots := 6, locals := 58 } : Room)) (fun a U => a = #[(.ref a1), (.ref a2), (iV 0), (iV 2), .null] ∧ Z.Warmed39 U.vm ∧ U.heap = h0) (fun _ _ _ _ _ => True) (fun _ U o U' => ∃ v L, o = .returned v ∧ (Q_ini4_2 Z a1 a2 kC c0 c1 c9 G1 h0 n0) v U'.heap L ∧ FrameEnd U o U' L ({ frames := 4, cells := 2, slots := 6, locals := 58 } : Room).cells ({ frames := 4, cells := 2, slots := 6, locals := 58 } : Room).slots) := by
 refine MetFree.of_bodySF (plainFor_of_name pn_1) hisR ?_
 intro p e s m args below meth c s₁ Bd hml0 hP hK
 obtain ⟨rfl, hZ, hHp⟩ := hP
 have hx := Bd.exec
 have D := fun {pc : Nat} {r} (h : decode _ pc = r) => hb Bd.bytes h
 have hml : c.maxLocals = 6 := hml0
 have hown : s.vm.findClass "java/lang/String" = some m.cls := findClass_of_methodNamed Bd.named
 have hnm := (name_of_methodNamed Bd.named Bd.method).1
 have X0 : Stand p l e ({ frames := 4, cells := 2, slots := 6, locals := 58 } : Room) s m #[(.ref a1), (.ref a2), (iV 0), (iV 2), .null] below meth c s₁ [] 0 0 := Stand.of_body Bd
 have e0 : s₁.heap = h0 := by rw [← hHp, Bd.state]; rfl
 have N0 := Fr.nil n0
 refine ownOut (P := (Q_ini4_2 Z a1 a2 kC c0 c1 c9 G1 h0 n0)) ?_
 refine ownBy (A := s₁.setTop (mkF m 0 #[vR a1, vR a2, vI 0, vI 2, .val .null, .unset] [])) (fun t k => castTop (ef_ini4_2 m a1 a2 (0 : Int32) (2 : Int32)) k) ?_
 refine oTo s₁ (fr_ini4_2 m a1 a2 1 .unset [(.ref a1)]) (fun t kt => ?_) ?_
 ·refine XS.aloadN X0.here hx rfl (D d2_0) rfl rfl ?_
  exact kt
 obtain ⟨T21, X21, e21, st21⟩ := initO X0 hx hZ hown (Wd13 hw) (Wd14 hw) (Wd15 hw) e0 (g := (fr_ini4_2 m a1 a2 1 .unset [(.ref a1)])) rfl (by rw [hml]; rfl) rfl (D d2_1) (by decide) (W := 0) (by show 2 * 0 + _ ≤ _; exact Nat.le_of_eq rfl) (by decide)
 refine ownBy st21 ?_
 clear st21
 show oA p e below _ T21 (fr_ini4_2 m a1 a2 4 .unset [])
 refine oTo T21 (fr_ini4_2 m a1 a2 27 .unset []) (fun t kt => ?_) ?_
 ·refine XS.iloadN X21.here hx rfl (D d2_4) rfl ?_
  refine XS.ifYes X21.here hx rfl (pc0 := 5) (pc' := 27) rfl (D d2_5) rfl ((if0 _ _).trans (feq ((by decide) : ¬ ((2 : Int32) = (0 : Int32)))).2) (by decide) (by decide) ?_
  exact kt
 refine own_getS X21 hx hZ hown (host := "") (Or.inl (Wd16 hw)) Via.refl e21 (O2.ext X00.2) (D d2_27) (fun T22 X22 e22 => ?_)
 refine oTo T22 (fr_ini4_2 m a1 a2 36 .unset [(iV 2), (iV 0), (.ref a2)]) (fun t kt => ?_) ?_
 ·refine XS.ifNo X22.here hx rfl (D d2_30) rfl ((if0 _ _).trans (feq P5).1) ?_
  refine XS.aloadN X22.here hx rfl (D d2_33) rfl rfl ?_
  refine XS.iloadN X22.here hx rfl (D d2_34) rfl ?_
  refine XS.iloadN X22.here hx rfl (D d2_35) rfl ?_
  exact kt
 obtain ⟨vv23, _, ⟨T23, L23, k23, n23⟩, -, X23, ⟨Lc23, hQ23, l23, y23, z23⟩, st23⟩ := Jvm.LawKit.callS X22 hx (y := yM9) hown (mvT hZ (Wd17 hw)) (mvT hZ (Wd18 hw)) (mvT hZ (Wd19 hw)) (mvT hZ (Wd20 hw)) (by decide) (backOf (W := 0) (c_cp3_2 l Z a0 hw [] a2 kC c0 c1 h0 n0 Z0 A2 hc0 hc1 SA SHI SLO X00) hZ (Wd20 hw) (Wd19 hw) (by decide) (by decide)) (g := (fr_ini4_2 m a1 a2 36 .unset [(iV 2), (iV 0), (.ref a2)])) rfl (by rw [hml]; rfl) (argsL := [(.ref a2), (iV 0), (iV 2)]) (rest := []) (lenOf pd_8 rfl) rfl (by show 2 * 0 + _ ≤ _; exact Nat.le_of_eq rfl) (D d2_36) (fun _ _ => ⟨rfl, e22, (by decide : 0 + 2 ≤ _), (by decide : 0 + 6 ≤ _)⟩)
 dsimp only [Pt.U, Pt.locs, Pt.cells, Pt.slots] at X23 l23 y23 z23 st23 hQ23
 subst l23 y23 z23
 obtain ⟨t23, kb23, rfl, Nq23, Kq23, zq23, hB23⟩ := hQ23
 have ne24 : a1 ≠ t23 := Nat.ne_of_lt (Nat.lt_of_lt_of_le E1.lt zq23)
 have ne25 : a2 ≠ t23 := Nat.ne_of_lt (Nat.lt_of_lt_of_le A2.lt zq23)
 have g26 : n0 ≤ t23 := Nat.le_trans Z0 zq23
 have z27 : h0.size ≤ t23 := Nat.le_trans (Nat.le_refl h0.size) zq23
 rcases hB23 with ⟨hn23_0, hn23_1, Aq23⟩ | ⟨hg23, Aq23⟩
 ·skip
  have N28 := Fr.app N0 Nq23
  obtain ⟨Lh29, Xh29, Nh29⟩ := oHd 2 6 X23 N28 rfl rfl
  refine ownBy st23 ?_
  clear st23
  show oA p e below _ T23 (fr_ini4_2 m a1 a2 39 .unset [(.ref t23)])
  refine oTo T23 (fr_ini4_2 m a1 a2 45 (vR t23) [(iV 2), (.ref t23), (.ref a1)]) (fun t kt => ?_) ?_
  ·refine XS.astore Xh29.here hx rfl (D d2_39) rfl rfl (l' := #[vR a1, vR a2, vI 0, vI 2, .val .null, vR t23]) rfl ?_
   refine XS.aloadN Xh29.here hx rfl (D d2_41) rfl rfl ?_
   refine XS.aload Xh29.here hx rfl (D d2_42) rfl rfl ?_
   refine XS.iloadN Xh29.here hx rfl (D d2_44) rfl ?_
   exact kt
  have f30 := (Nat.le_trans Z0 Kq23.1)
  obtain ⟨vv31, _, ⟨T31, L31, k31, n31⟩, -, X31, ⟨Lc31, hQ31, l31, y31, z31⟩, st31⟩ := Jvm.LawKit.callS Xh29 hx (y := yM4) hown (mvT hZ (Wd25 hw)) (mvT hZ (Wd26 hw)) (mvT hZ (Wd19 hw)) (mvT hZ (Wd27 hw)) (by decide) (backOf (W := 1) (c_cfa l Z a0 hw [] t23 kb23 (2 : Int32) _ (2 : Int32) (0 : Int32) T23.heap n0 f30 Aq23 (by decide +kernel)) hZ (Wd27 hw) (Wd19 hw) (by decide) (by decide)) (g := (fr_ini4_2 m a1 a2 45 (vR t23) [(iV 2), (.ref t23), (.ref a1)])) rfl (by rw [hml]; rfl) (argsL := [(.ref t23), (iV 2)]) (rest := [(.ref a1)]) (lenOf pd_10 rfl) rfl (by show 2 * 0 + _ ≤ _; exact Nat.le_of_eq rfl) (D d2_45) (fun _ _ => ⟨rfl, rfl, (by decide : 2 + 0 ≤ _), (by decide : 6 + 0 ≤ _)⟩)
  dsimp only [Pt.U, Pt.locs, Pt.cells, Pt.slots] at X31 l31 y31 z31 st31 hQ31
  subst l31 y31 z31
  obtain ⟨rfl, Nq31, Eq31⟩ := hQ31
  have N32 := Fr.app Nh29 Nq31
  obtain ⟨Lh33, Xh33, Nh33⟩ := oHd 2 6 X31 N32 rfl rfl
  refine ownBy st31 ?_
  clear st31
  show oA p e below _ T31 (fr_ini4_2 m a1 a2 48 (vR t23) [(iV 0), (.ref a1)])
  have f35 := (F2.keep Kq23 nin0)
  have f36 := (E1.keep Kq23)
  obtain ⟨T34, h34, X34, e34, W34, st34⟩ := putFN Xh33 hx hZ hown (Wd28 hw) Via.refl Eq31 f35 f36 (Or.inr ⟨(Wd29 hw), rfl, hnm⟩) (Wd4 hw) (ty := .byte) (v' := (iV 0)) (by decide) rfl (fits_nar_byte (0 : Int32)) (g := (fr_ini4_2 m a1 a2 48 (vR t23) [(iV 0), (.ref a1)])) rfl rfl (D d2_48)
  have F37 := f35.same W34
  have N38 := Fr.snoc X34 Nh33 g1
  obtain ⟨Lh39, Xh39, Nh39⟩ := oHd 2 6 X34 N38 rfl rfl
  refine ownBy st34 ?_
  clear st34
  show oA p e below _ T34 (fr_ini4_2 m a1 a2 51 (vR t23) [])
  refine oTo T34 (fr_ini4_2 m a1 a2 54 (vR t23) [(.ref t23), (.ref a1)]) (fun t kt => ?_) ?_
  ·refine XS.aloadN Xh39.here hx rfl (D d2_51) rfl rfl ?_
   refine XS.aload Xh39.here hx rfl (D d2_52) rfl rfl ?_
   exact kt
  have f41 := ((F1.keep Kq23 nin0).other W34 (Or.inr (slot_ne (Or.inr (Wd31 hw)) (Or.inr (Wd29 hw)) (by decide) (t := (.array .byte)) (t' := .byte) (by decide) (by decide))))
  have f42 := (f36.wr W34)
  obtain ⟨T40, h40, X40, e40, W40, st40⟩ := putF Xh39 hx hZ hown (host := "") (Or.inl (Wd30 hw)) Via.refl e34 f41 f42 (Or.inr ⟨(Wd31 hw), rfl, hnm⟩) (Wd4 hw) (ty := (.array .byte)) (by decide) rfl rfl (g := (fr_ini4_2 m a1 a2 54 (vR t23) [(.ref t23), (.ref a1)])) rfl rfl (D d2_54)
  have F43 := f41.same W40
  have N44 := Fr.snoc X40 Nh39 g1
  obtain ⟨Lh45, Xh45, Nh45⟩ := oHd 2 6 X40 N44 rfl rfl
  refine ownBy st40 ?_
  clear st40
  show oA p e below _ T40 (fr_ini4_2 m a1 a2 57 (vR t23) [])
  have f46 := ((((Keep.refl h0 [a1]).trans Kq23 all0).wr W34 (Or.inl (List.mem_of_getElem? (i := 0) rfl))).wr W40 (Or.inl (List.mem_of_getElem? (i := 0) rfl)))
  have f47 := (f42.wr W40)
  have f48 := (F37.other W40 (Or.inr (slot_ne (Or.inr (Wd29 hw)) (Or.inr (Wd31 hw)) (by decide) (t := .byte) (t' := (.array .byte)) (by decide) (by decide))))
  have f49 := ((Aq23.other W34 (Ne.symm ne24)).other W40 (Ne.symm ne24))
  refine ownRet Xh45 Bd.notSynchronized (v := none) (fun _ => rfl) ?_ (oLe rfl) (oLe rfl) (fun fs hr => Xh45.returnOut hx Bd.returns (D d2_57) hr)
  show (Q_ini4_2 Z a1 a2 kC c0 c1 c9 G1 h0 n0) (none) T40.heap _
  rw [e40]
  exact ⟨rfl, Nh45, f46, f47, t23, kb23, _, _, _, z27, F43, f48, f49, Or.inl ⟨rfl, rfl, rfl, hn23_0, hn23_1⟩⟩
 ·skip
  have N50 := Fr.app N0 Nq23
  obtain ⟨Lh51, Xh51, Nh51⟩ := oHd 2 6 X23 N50 rfl rfl
  refine ownBy st23 ?_
  clear st23
  show oA p e below _ T23 (fr_ini4_2 m a1 a2 39 .unset [(.ref t23)])
  refine oTo T23 (fr_ini4_2 m a1 a2 45 (vR t23) [(iV 2), (.ref t23), (.ref a1)]) (fun t kt => ?_) ?_
  ·refine XS.astore Xh51.here hx rfl (D d2_39) rfl rfl (l' := #[vR a1, vR a2, vI 0, vI 2, .val .null, vR t23]) rfl ?_
   refine XS.aloadN Xh51.here hx rfl (D d2_41) rfl rfl ?_
   refine XS.aload Xh51.here hx rfl (D d2_42) rfl rfl ?_
   refine XS.iloadN Xh51.here hx rfl (D d2_44) rfl ?_
   exact kt
  have f52 := (Nat.le_trans Z0 Kq23.1)
  obtain ⟨vv53, _, ⟨T53, L53, k53, n53⟩, -, X53, ⟨Lc53, hQ53, l53, y53, z53⟩, st53⟩ := Jvm.LawKit.callS Xh51 hx (y := yM4) hown (mvT hZ (Wd25 hw)) (mvT hZ (Wd26 hw)) (mvT hZ (Wd19 hw)) (mvT hZ (Wd27 hw)) (by decide) (backOf (W := 1) (c_cfa l Z a0 hw [] t23 kb23 (4 : Int32) _ (2 : Int32) (1 : Int32) T23.heap n0 f52 Aq23 (by decide +kernel)) hZ (Wd27 hw) (Wd19 hw) (by decide) (by decide)) (g := (fr_ini4_2 m a1 a2 45 (vR t23) [(iV 2), (.ref t23), (.ref a1)])) rfl (by rw [hml]; rfl) (argsL := [(.ref t23), (iV 2)]) (rest := [(.ref a1)]) (lenOf pd_10 rfl) rfl (by show 2 * 0 + _ ≤ _; exact Nat.le_of_eq rfl) (D d2_45) (fun _ _ => ⟨rfl, rfl, (by decide : 2 + 0 ≤ _), (by decide : 6 + 0 ≤ _)⟩)
  dsimp only [Pt.U, Pt.locs, Pt.cells, Pt.slots] at X53 l53 y53 z53 st53 hQ53
  subst l53 y53 z53
  obtain ⟨rfl, Nq53, Eq53⟩ := hQ53
  have N54 := Fr.app Nh51 Nq53
  obtain ⟨Lh55, Xh55, Nh55⟩ := oHd 2 6 X53 N54 rfl rfl
  refine ownBy st53 ?_
  clear st53
  show oA p e below _ T53 (fr_ini4_2 m a1 a2 48 (vR t23) [(iV 1), (.ref a1)])
  have f57 := (F2.keep Kq23 nin0)
  have f58 := (E1.keep Kq23)
  obtain ⟨T56, h56, X56, e56, W56, st56⟩ := putFN Xh55 hx hZ hown (Wd28 hw) Via.refl Eq53 f57 f58 (Or.inr ⟨(Wd29 hw), rfl, hnm⟩) (Wd4 hw) (ty := .byte) (v' := (iV 1)) (by decide) rfl (fits_nar_byte (1 : Int32)) (g := (fr_ini4_2 m a1 a2 48 (vR t23) [(iV 1), (.ref a1)])) rfl rfl (D d2_48)
  have F59 := f57.same W56
  have N60 := Fr.snoc X56 Nh55 g1
  obtain ⟨Lh61, Xh61, Nh61⟩ := oHd 2 6 X56 N60 rfl rfl
  refine ownBy st56 ?_
  clear st56
  show oA p e below _ T56 (fr_ini4_2 m a1 a2 51 (vR t23) [])
  refine oTo T56 (fr_ini4_2 m a1 a2 54 (vR t23) [(.ref t23), (.ref a1)]) (fun t kt => ?_) ?_
  ·refine XS.aloadN Xh61.here hx rfl (D d2_51) rfl rfl ?_
   refine XS.aload Xh61.here hx rfl (D d2_52) rfl rfl ?_
   exact kt
  have f63 := ((F1.keep Kq23 nin0).other W56 (Or.inr (slot_ne (Or.inr (Wd31 hw)) (Or.inr (Wd29 hw)) (by decide) (t := (.array .byte)) (t' := .byte) (by decide) (by decide))))
  have f64 := (f58.wr W56)
  obtain ⟨T62, h62, X62, e62, W62, st62⟩ := putF Xh61 hx hZ hown (host := "") (Or.inl (Wd30 hw)) Via.refl e56 f63 f64 (Or.inr ⟨(Wd31 hw), rfl, hnm⟩) (Wd4 hw) (ty := (.array .byte)) (by decide) rfl rfl (g := (fr_ini4_2 m a1 a2 54 (vR t23) [(.ref t23), (.ref a1)])) rfl rfl (D d2_54)
  have F65 := f63.same W62
  have N66 := Fr.snoc X62 Nh61 g1
  obtain ⟨Lh67, Xh67, Nh67⟩ := oHd 2 6 X62 N66 rfl rfl
  refine ownBy st62 ?_
  clear st62
  show oA p e below _ T62 (fr_ini4_2 m a1 a2 57 (vR t23) [])
  have f68 := ((((Keep.refl h0 [a1]).trans Kq23 all0).wr W56 (Or.inl (List.mem_of_getElem? (i := 0) rfl))).wr W62 (Or.inl (List.mem_of_getElem? (i := 0) rfl)))
  have f69 := (f64.wr W62)
  have f70 := (F59.other W62 (Or.inr (slot_ne (Or.inr (Wd29 hw)) (Or.inr (Wd31 hw)) (by decide) (t := .byte) (t' := (.array .byte)) (by decide) (by decide))))
  have f71 := ((Aq23.other W56 (Ne.symm ne24)).other W62 (Ne.symm ne24))
  refine ownRet Xh67 Bd.notSynchronized (v := none) (fun _ => rfl) ?_ (oLe rfl) (oLe rfl) (fun fs hr => Xh67.returnOut hx Bd.returns (D d2_57) hr)
  show (Q_ini4_2 Z a1 a2 kC c0 c1 c9 G1 h0 n0) (none) T62.heap _
  rw [e62]
  exact ⟨rfl, Nh67, f68, f69, t23, kb23, _, _, _, z27, F65, f70, f71, Or.inr ⟨rfl, rfl, rfl, hg23⟩⟩
abbrev fr_inC_2 (m : MethodId) (a1 : Addr) (a2 : Addr) (pc : Nat)  (st : List Value) : JFrame := mkF m pc #[vR a1, vR a2] st
def Q_inC_2 (Z : State) (a1 : Addr) (a2 : Addr) (kC : ClassId) (c0 : Int32) (c1 : Int32) (c9 : Value) (G1 : Int32) (h0 : Heap) (n0 : Nat) (v : Option Value) (h : Heap) (L : List Loc) : Prop := v = none ∧ Fr n0 L ∧ Keep h0 h [a1] ∧ Exa Z h a1 "java/lang/String" ∧ ∃ (ta : Addr) (kb : ClassId) (cd z : Int32) (vs : List Value), h0.size ≤ ta ∧ Fld Z h a1 "java/lang/String" "value" "[B" (.ref ta) ∧ Fld Z h a1 "java/lang/String" "coder" "B" (.int cd) ∧ Arv Z h ta kb .byte z vs (iV 0) ∧ ((cd = (0 : Int32) ∧ z = (2 : Int32) ∧ vs = [(.int (oL c0)), (.int (oL c1))] ∧ ¬ ((255 : Int32) < c0) ∧ ¬ ((255 : Int32) < c1)) ∨ (cd = (1 : Int32) ∧ z = (4 : Int32) ∧ vs = [(.int (oW c0)), (.int (oH c0)), (.int (oW c1)), (.int (oH c1))] ∧ ((255 : Int32) < c0 ∨ (255 : Int32) < c1)))
theorem ef_inC_2 (m : MethodId) (x0 : Addr) (x1 : Addr)  : entryFrame m #[(.ref x0), (.ref x1)] 2 = mkF m 0 #[vR x0, vR x1] [] := by first | (simp [entryFrame, mkF, argsToLocals, Value.category]; done) | rfl
set_option maxRecDepth 65536 in
set_option maxHeartbeats 40000000 in
theorem c_inC_2 (l : Launch) (Z : State) (a0 : Array Value) (hw : HW a0 Z) (ws : List Jvm.Cond) (a1 : Addr) (a2 : Addr) (kC : ClassId) (c0 : Int32) (c1 : Int32) (c9 : Value) (G1 : Int32) (h0 : Heap) (n0 : Nat) (Z0 : n0 ≤ h0.size) (E1 : Exa Z h0 a1 "java/lang/String") (F1 : Fld Z h0 a1 "java/lang/String" "value" "[B" .null) (F2 : Fld Z h0 a1 "java/lang/String" "coder" "B" c9) (g1 : n0 ≤ a1) (ne1 : a1 ≠ a2) (A2 : Arv Z h0 a2 kC .char (2 : Int32) [(.int c0), (.int c1)] (iV 0)) (hc0 : ¬ c0 < 0 ∧ ¬ (65535 : Int32) < c0) (hc1 : ¬ c1 < 0 ∧ ¬ (65535 : Int32) < c1) (O2 : Sta Z Z.heap "java/lang/String" "COMPACT_STRINGS" "Z" (.int G1)) (P5 : ¬ (G1 = (0 : Int32))) (SA : Sta Z Z.heap "java/lang/StringUTF16" "$assertionsDisabled" "Z" (iV 1)) (SHI : Sta Z Z.heap "java/lang/StringUTF16" "HI_BYTE_SHIFT" "I" (iV 0)) (SLO : Sta Z Z.heap "java/lang/StringUTF16" "LO_BYTE_SHIFT" "I" (iV 8)) (X00 : Old Z n0 h0) :
  MetFree l yM1 (head1 (Jvm.Cond.code yM1 jdk_42_method_3_code 2 none :: ws) ({ frames := 5, cells := 2, slots := 6, locals := 75 } : Room)) (fun a U => a = #[(.ref a1), (.ref a2)] ∧ Z.Warmed39 U.vm ∧ U.heap = h0) (fun _ _ _ _ _ => True) (fun _ U o U' => ∃ v L, o = .returned v ∧ (Q_inC_2 Z a1 a2 kC c0 c1 c9 G1 h0 n0) v U'.heap L ∧ FrameEnd U o U' L ({ frames := 5, cells := 2, slots := 6, locals := 75 } : Room).cells ({ frames := 5, cells := 2, slots := 6, locals := 75 } : Room).slots) := by
 refine MetFree.of_bodySF (plainFor_of_name pn_1) hisR ?_
 intro p e s m args below meth c s₁ Bd hml0 hP hK
 obtain ⟨rfl, hZ, hHp⟩ := hP
 have hx := Bd.exec
 have D := fun {pc : Nat} {r} (h : decode _ pc = r) => hb Bd.bytes h
 have hml : c.maxLocals = 2 := hml0
 have hown : s.vm.findClass "java/lang/String" = some m.cls := findClass_of_methodNamed Bd.named
 have hnm := (name_of_methodNamed Bd.named Bd.method).1
 have X0 : Stand p l e ({ frames := 5, cells := 2, slots := 6, locals := 75 } : Room) s m #[(.ref a1), (.ref a2)] below meth c s₁ [] 0 0 := Stand.of_body Bd
 have e0 : s₁.heap = h0 := by rw [← hHp, Bd.state]; rfl
 have N0 := Fr.nil n0
 refine ownOut (P := (Q_inC_2 Z a1 a2 kC c0 c1 c9 G1 h0 n0)) ?_
 refine ownBy (A := s₁.setTop (mkF m 0 #[vR a1, vR a2] [])) (fun t k => castTop (ef_inC_2 m a1 a2) k) ?_
 refine oTo s₁ (fr_inC_2 m a1 a2 4  [(.ref a2), (iV 0), (.ref a2), (.ref a1)]) (fun t kt => ?_) ?_
 ·refine XS.aloadN X0.here hx rfl (D d1_0) rfl rfl ?_
  refine XS.aloadN X0.here hx rfl (D d1_1) rfl rfl ?_
  refine XS.iconst X0.here hx rfl (D d1_2) ?_
  refine XS.aloadN X0.here hx rfl (D d1_3) rfl rfl ?_
  exact kt
 obtain ⟨cl21, Ar21, -, S21, N21, -, -⟩ := id A2
 have st21 := X0.arraylength hx (by rw [e0]; exact Ar21.1) (State.isArrayOf_alike hZ.alike Ar21.2.1) (g := (fr_inC_2 m a1 a2 4  [(.ref a2), (iV 0), (.ref a2), (.ref a1)])) rfl rfl (D d1_4)
 rw [len_of S21 N21] at st21
 refine ownBy st21 ?_
 show oA p e below _ s₁ (fr_inC_2 m a1 a2 5  [(iV 2), (iV 0), (.ref a2), (.ref a1)])
 refine oTo s₁ (fr_inC_2 m a1 a2 6  [.null, (iV 2), (iV 0), (.ref a2), (.ref a1)]) (fun t kt => ?_) ?_
 ·refine XS.aconstNull X0.here hx rfl (D d1_5) ?_
  exact kt
 obtain ⟨vv22, _, ⟨T22, L22, k22, n22⟩, -, X22, ⟨Lc22, hQ22, l22, y22, z22⟩, st22⟩ := X0.specialBack hx (y := yM0) rfl hown (mvT hZ (Wd9 hw)) (mvT hZ (Wd10 hw)) (mvT hZ (Wd12 hw)) (by decide) (backOf (W := 0) (c_ini4_2 l Z a0 hw [] a1 a2 kC c0 c1 _ G1 h0 n0 Z0 E1 F1 F2 g1 ne1 A2 hc0 hc1 O2 P5 SA SHI SLO X00) hZ (Wd12 hw) (Wd5 hw) (by decide) (by decide)) (g := (fr_inC_2 m a1 a2 6  [.null, (iV 2), (iV 0), (.ref a2), (.ref a1)])) rfl (by rw [hml]; rfl) (Steps.refl _) (a := a1) (argsL := [(.ref a2), (iV 0), (iV 2), .null]) (rest := []) (lenOf pd_2 rfl) rfl (by show 2 * 0 + _ ≤ _; exact Nat.le_of_eq rfl) (D d1_6) (fun _ _ => ⟨rfl, e0, (by decide : 0 + 2 ≤ _), (by decide : 0 + 6 ≤ _)⟩)
 dsimp only [Pt.U, Pt.locs, Pt.cells, Pt.slots] at X22 l22 y22 z22 st22 hQ22
 subst l22 y22 z22
 obtain ⟨rfl, Nq22, Kq22, Eq22, t22, kb22, cd22, z22, vs22, zq22, Vq22, Cq22, Aq22, hrel22⟩ := hQ22
 have ne23 : a1 ≠ t22 := Nat.ne_of_lt (Nat.lt_of_lt_of_le E1.lt zq22)
 have ne24 : a2 ≠ t22 := Nat.ne_of_lt (Nat.lt_of_lt_of_le A2.lt zq22)
 have g25 : n0 ≤ t22 := Nat.le_trans Z0 zq22
 have z26 : h0.size ≤ t22 := Nat.le_trans (Nat.le_refl h0.size) zq22
 have N27 := Fr.app N0 Nq22
 obtain ⟨Lh28, Xh28, Nh28⟩ := oHd 2 6 X22 N27 rfl rfl
 refine ownSt st22 ?_
 clear st22
 show oA p e below _ T22 (fr_inC_2 m a1 a2 9  [])
 have f29 := ((Keep.refl h0 [a1]).trans Kq22 (allS (Or.inl (List.mem_of_getElem? (i := 0) rfl)) all0))
 have f30 := (E1.keep Kq22)
 refine ownRet Xh28 Bd.notSynchronized (v := none) (fun _ => rfl) ?_ (oLe rfl) (oLe rfl) (fun fs hr => Xh28.returnOut hx Bd.returns (D d1_9) hr)
 show (Q_inC_2 Z a1 a2 kC c0 c1 c9 G1 h0 n0) (none) T22.heap _
 exact ⟨rfl, Nh28, f29, f30, t22, kb22, _, _, _, z26, Vq22, Cq22, Aq22, hrel22⟩
abbrev fr_nbf3 (m : MethodId)  (pc : Nat)  (st : List Value) : JFrame := mkF m pc #[vI 3] st
def Q_nbf3 (Z : State)  (h0 : Heap) (n0 : Nat) (v : Option Value) (h : Heap) (L : List Loc) : Prop := ∃ (ta : Addr) (kb : ClassId), v = some (.ref ta) ∧ Fr n0 L ∧ Keep h0 h [] ∧ h0.size ≤ ta ∧ Arv Z h ta kb .byte (6 : Int32) [(iV 0), (iV 0), (iV 0), (iV 0), (iV 0), (iV 0)] (iV 0)
theorem ef_nbf3 (m : MethodId) (x0 : Int32)  : entryFrame m #[(.int x0)] 1 = mkF m 0 #[vI x0] [] := by first | (simp [entryFrame, mkF, argsToLocals, Value.category]; done) | rfl
set_option maxRecDepth 65536 in
set_option maxHeartbeats 40000000 in
theorem c_nbf3 (l : Launch) (Z : State) (a0 : Array Value) (hw : HW a0 Z) (ws : List Jvm.Cond)  (h0 : Heap) (n0 : Nat) (Z0 : n0 ≤ h0.size) :
  MetFree l yM6 (head1 (Jvm.Cond.code yM6 jdk_52_method_2_code 1 (some (.array .byte)) :: ws) ({ frames := 1, cells := 1, slots := 6, locals := 12 } : Room)) (fun a U => a = #[(iV 3)] ∧ Z.Warmed39 U.vm ∧ U.heap = h0) (fun _ _ _ _ _ => True) (fun _ U o U' => ∃ v L, o = .returned v ∧ (Q_nbf3 Z  h0 n0) v U'.heap L ∧ FrameEnd U o U' L ({ frames := 1, cells := 1, slots := 6, locals := 12 } : Room).cells ({ frames := 1, cells := 1, slots := 6, locals := 12 } : Room).slots) := by
 refine MetFree.of_bodySF (plainFor_of_name pn_3) hisR ?_
 intro p e s m args below meth c s₁ Bd hml0 hP hK
 obtain ⟨rfl, hZ, hHp⟩ := hP
 have hx := Bd.exec
 have D := fun {pc : Nat} {r} (h : decode _ pc = r) => hb Bd.bytes h
 have hml : c.maxLocals = 1 := hml0
 have hown : s.vm.findClass "java/lang/StringUTF16" = some m.cls := findClass_of_methodNamed Bd.named
 have hnm := (name_of_methodNamed Bd.named Bd.method).1
 have X0 : Stand p l e ({ frames := 1, cells := 1, slots := 6, locals := 12 } : Room) s m #[(iV 3)] below meth c s₁ [] 0 0 := Stand.of_body Bd
 have e0 : s₁.heap = h0 := by rw [← hHp, Bd.state]; rfl
 have N0 := Fr.nil n0
 refine ownOut (P := (Q_nbf3 Z  h0 n0)) ?_
 refine ownBy (A := s₁.setTop (mkF m 0 #[vI 3] [])) (fun t k => castTop (ef_nbf3 m (3 : Int32)) k) ?_
 refine oTo s₁ (fr_nbf3 m  1  [(iV 3)]) (fun t kt => ?_) ?_
 ·refine XS.iloadN X0.here hx rfl (D d17_0) rfl ?_
  exact kt
 obtain ⟨vv21, _, ⟨T21, L21, k21, n21⟩, -, X21, ⟨Lc21, hQ21, l21, y21, z21⟩, st21⟩ := Jvm.LawKit.callS X0 hx (y := yM3) hown (mvT hZ (Wd81 hw)) (mvT hZ (Wd82 hw)) (mvT hZ (Wd19 hw)) (mvT hZ (Wd83 hw)) (by decide) (backOf (W := 0) (c_nbl l Z a0 hw [] (3 : Int32) (6 : Int32) h0 n0 Z0 (by decide) (by decide) (by decide +kernel)) hZ (Wd83 hw) (Wd19 hw) (by decide) (by decide)) (g := (fr_nbf3 m  1  [(iV 3)])) rfl (by rw [hml]; rfl) (argsL := [(iV 3)]) (rest := []) (lenOf pd_4 rfl) rfl (by show 2 * 0 + _ ≤ _; exact Nat.le_of_eq rfl) (D d17_1) (fun _ _ => ⟨rfl, e0, (by decide : 0 + 0 ≤ _), (by decide : 0 + 0 ≤ _)⟩)
 dsimp only [Pt.U, Pt.locs, Pt.cells, Pt.slots] at X21 l21 y21 z21 st21 hQ21
 subst l21 y21 z21
 obtain ⟨rfl, Nq21, Eq21⟩ := hQ21
 have N22 := Fr.app N0 Nq21
 obtain ⟨Lh23, Xh23, Nh23⟩ := oHd 0 0 X21 N22 rfl rfl
 refine ownBy st21 ?_
 clear st21
 show oA p e below _ T21 (fr_nbf3 m  4  [(iV 6)])
 obtain ⟨T24, h24, k24, X24, e24, E24, A24, st24⟩ := newP Xh23 hx hZ (aty := .byte) (Wd21 hw) Eq21 (g := (fr_nbf3 m  4  [(iV 6)])) rfl (D d17_4) rfl (by decide : ¬ ((6 : Int32) < (0 : Int32))) (cap := 6) (by decide) (by decide) (by decide) (by decide)
 obtain ⟨b24, g24⟩ : ∃ z, z = h0.size := ⟨_, rfl⟩
 rw [← g24] at A24 st24
 have g25 : n0 ≤ b24 := Nat.le_trans Z0 (Nat.le_of_eq g24.symm)
 have z26 : h0.size ≤ b24 := Nat.le_trans (Nat.le_refl h0.size) (Nat.le_of_eq g24.symm)
 have V27 : Arv Z h24 b24 k24 .byte (6 : Int32) [(iV 0), (iV 0), (iV 0), (iV 0), (iV 0), (iV 0)] (iV 0) := (Arv.new A24 (by decide)).pad (pad_rep [] (iV 0) 6)
 refine ownBy st24 ?_
 clear st24
 show oA p e below _ T24 (fr_nbf3 m  6  [(.ref b24)])
 have f28 := ((Keep.refl h0 []).ext E24)
 refine ownRet X24 Bd.notSynchronized (v := some (.ref b24)) (fun h => by rw [Bd.returns] at h; cases h) ?_ (oLe rfl) (oLe rfl) (fun fs hr => retOut X24 hx Bd.returns rfl (Or.inr (Or.inr (Or.inr (Or.inr ⟨rfl, rfl, rfl⟩)))) (D d17_6) hr)
 show (Q_nbf3 Z  h0 n0) (some (.ref b24)) T24.heap _
 rw [e24]
 exact ⟨b24, k24, rfl, Nh23, f28, z26, V27⟩
abbrev fr_tob3 (m : MethodId) (a2 : Addr) (pc : Nat) (x1_ x3_ x4_ : Slot) (st : List Value) : JFrame := mkF m pc #[vR a2, x1_, vI 3, x3_, x4_] st
def Q_tob3 (Z : State) (a2 : Addr) (kC : ClassId) (c0 : Int32) (c1 : Int32) (c2 : Int32) (h0 : Heap) (n0 : Nat) (v : Option Value) (h : Heap) (L : List Loc) : Prop := ∃ (ta : Addr) (kb : ClassId), v = some (.ref ta) ∧ Fr n0 L ∧ Keep h0 h [] ∧ h0.size ≤ ta ∧ Arv Z h ta kb .byte (6 : Int32) [(.int (oW c0)), (.int (oH c0)), (.int (oW c1)), (.int (oH c1)), (.int (oW c2)), (.int (oH c2))] (iV 0)
theorem ef_tob3 (m : MethodId) (x0 : Addr) (x1 : Int32) (x2 : Int32)  : entryFrame m #[(.ref x0), (.int x1), (.int x2)] 5 = mkF m 0 #[vR x0, vI x1, vI x2, .unset, .unset] [] := by first | (simp [entryFrame, mkF, argsToLocals, Value.category]; done) | rfl
set_option maxRecDepth 65536 in
set_option maxHeartbeats 40000000 in
theorem c_tob3 (l : Launch) (Z : State) (a0 : Array Value) (hw : HW a0 Z) (ws : List Jvm.Cond) (a2 : Addr) (kC : ClassId) (c0 : Int32) (c1 : Int32) (c2 : Int32) (h0 : Heap) (n0 : Nat) (Z0 : n0 ≤ h0.size) (A2 : Arv Z h0 a2 kC .char (3 : Int32) [(.int c0), (.int c1), (.int c2)] (iV 0)) (SA : Sta Z Z.heap "java/lang/StringUTF16" "$assertionsDisabled" "Z" (iV 1)) (SHI : Sta Z Z.heap "java/lang/StringUTF16" "HI_BYTE_SHIFT" "I" (iV 0)) (SLO : Sta Z Z.heap "java/lang/StringUTF16" "LO_BYTE_SHIFT" "I" (iV 8)) (X00 : Old Z n0 h0) :
  MetFree l yM7 (head1 (Jvm.Cond.code yM7 jdk_52_method_14_code 5 (some (.array .byte)) :: ws) ({ frames := 2, cells := 1, slots := 6, locals := 24 } : Room)) (fun a U => a = #[(.ref a2), (iV 0), (iV 3)] ∧ Z.Warmed39 U.vm ∧ U.heap = h0) (fun _ _ _ _ _ => True) (fun _ U o U' => ∃ v L, o = .returned v ∧ (Q_tob3 Z a2 kC c0 c1 c2 h0 n0) v U'.heap L ∧ FrameEnd U o U' L ({ frames := 2, cells := 1, slots := 6, locals := 24 } : Room).cells ({ frames := 2, cells := 1, slots := 6, locals := 24 } : Room).slots) := by
 refine MetFree.of_bodySF (plainFor_of_name pn_3) hisR ?_
 intro p e s m args below meth c s₁ Bd hml0 hP hK
 obtain ⟨rfl, hZ, hHp⟩ := hP
 have hx := Bd.exec
 have D := fun {pc : Nat} {r} (h : decode _ pc = r) => hb Bd.bytes h
 have hml : c.maxLocals = 5 := hml0
 have hown : s.vm.findClass "java/lang/StringUTF16" = some m.cls := findClass_of_methodNamed Bd.named
 have hnm := (name_of_methodNamed Bd.named Bd.method).1
 have X0 : Stand p l e ({ frames := 2, cells := 1, slots := 6, locals := 24 } : Room) s m #[(.ref a2), (iV 0), (iV 3)] below meth c s₁ [] 0 0 := Stand.of_body Bd
 have e0 : s₁.heap = h0 := by rw [← hHp, Bd.state]; rfl
 have N0 := Fr.nil n0
 refine ownOut (P := (Q_tob3 Z a2 kC c0 c1 c2 h0 n0)) ?_
 refine ownBy (A := s₁.setTop (mkF m 0 #[vR a2, vI 0, vI 3, .unset, .unset] [])) (fun t k => castTop (ef_tob3 m a2 (0 : Int32) (3 : Int32)) k) ?_
 refine oTo s₁ (fr_tob3 m a2 1 (vI 0) .unset .unset [(iV 3)]) (fun t kt => ?_) ?_
 ·refine XS.iloadN X0.here hx rfl (D d16_0) rfl ?_
  exact kt
 obtain ⟨vv21, _, ⟨T21, L21, k21, n21⟩, -, X21, ⟨Lc21, hQ21, l21, y21, z21⟩, st21⟩ := Jvm.LawKit.callS X0 hx (y := yM6) hown (mvT hZ (Wd78 hw)) (mvT hZ (Wd79 hw)) (mvT hZ (Wd19 hw)) (mvT hZ (Wd80 hw)) (by decide) (backOf (W := 0) (c_nbf3 l Z a0 hw []  h0 n0 Z0 ) hZ (Wd80 hw) (Wd19 hw) (by decide) (by decide)) (g := (fr_tob3 m a2 1 (vI 0) .unset .unset [(iV 3)])) rfl (by rw [hml]; rfl) (argsL := [(iV 3)]) (rest := []) (lenOf pd_5 rfl) rfl (by show 2 * 0 + _ ≤ _; exact Nat.le_of_eq rfl) (D d16_1) (fun _ _ => ⟨rfl, e0, (by decide : 0 + 1 ≤ _), (by decide : 0 + 6 ≤ _)⟩)
 dsimp only [Pt.U, Pt.locs, Pt.cells, Pt.slots] at X21 l21 y21 z21 st21 hQ21
 subst l21 y21 z21
 obtain ⟨t21, kb21, rfl, Nq21, Kq21, zq21, Aq21⟩ := hQ21
 have ne22 : a2 ≠ t21 := Nat.ne_of_lt (Nat.lt_of_lt_of_le A2.lt zq21)
 have g23 : n0 ≤ t21 := Nat.le_trans Z0 zq21
 have z24 : h0.size ≤ t21 := Nat.le_trans (Nat.le_refl h0.size) zq21
 have N25 := Fr.app N0 Nq21
 obtain ⟨Lh26, Xh26, Nh26⟩ := oHd 1 6 X21 N25 rfl rfl
 refine ownBy st21 ?_
 clear st21
 show oA p e below _ T21 (fr_tob3 m a2 4 (vI 0) .unset .unset [(.ref t21)])
 refine oTo T21 (fr_tob3 m a2 19 (vI 0) (vR t21) (vI 0) [(iV 0), (.ref a2), (iV 0), (.ref t21)]) (fun t kt => ?_) ?_
 ·refine XS.astoreN Xh26.here hx rfl (D d16_4) rfl rfl (l' := #[vR a2, vI 0, vI 3, vR t21, .unset]) rfl ?_
  refine XS.iconst Xh26.here hx rfl (D d16_5) ?_
  refine XS.istore Xh26.here hx rfl (D d16_6) rfl (l' := #[vR a2, vI 0, vI 3, vR t21, vI 0]) rfl ?_
  refine XS.iload Xh26.here hx rfl (D d16_8) rfl ?_
  show Steps p.tables e below (T21.setTop (fr_tob3 m a2 10 (vI 0) (vR t21) (vI 0) [(iV 0)])) t
  refine XS.iloadN Xh26.here hx rfl (D d16_10) rfl ?_
  refine XS.icmpNo Xh26.here hx rfl (D d16_11) rfl (tlt ((by decide) : (0 : Int32) < (3 : Int32))).2.1 ?_
  refine XS.aloadN Xh26.here hx rfl (D d16_14) rfl rfl ?_
  refine XS.iload Xh26.here hx rfl (D d16_15) rfl ?_
  show Steps p.tables e below (T21.setTop (fr_tob3 m a2 17 (vI 0) (vR t21) (vI 0) [(iV 0), (.ref t21)])) t
  refine XS.aloadN Xh26.here hx rfl (D d16_17) rfl rfl ?_
  refine XS.iloadN Xh26.here hx rfl (D d16_18) rfl ?_
  exact kt
 have f27 := (A2.keep Kq21 nin0)
 obtain ⟨cl28, Ar28, q28, S28, N28, H28, G28⟩ := id f27
 have hin28 : ¬ ((0 : Int32) < 0 ∨ cl28.slots.size ≤ ((0 : Int32)).toNatClampNeg) := inb_of S28 ⟨by decide, by decide⟩
 have hat28 : cl28.slots[((0 : Int32)).toNatClampNeg]? = some (.int c0) := H28.at hin28 rfl
 have st28 := Xh26.caload hx (j := (0 : Int32)) (v := (.int c0)) Ar28.1 (State.isArrayOf_alike hZ.alike Ar28.2.1) Ar28.2.2 hin28 hat28 (g := (fr_tob3 m a2 19 (vI 0) (vR t21) (vI 0) [(iV 0), (.ref a2), (iV 0), (.ref t21)])) rfl rfl (D d16_19)
 refine ownBy st28 ?_
 show oA p e below _ T21 (fr_tob3 m a2 20 (vI 0) (vR t21) (vI 0) [(.int c0), (iV 0), (.ref t21)])
 have f29 := (X00.keep Kq21 all0)
 have f30 := (Nat.le_trans Z0 Kq21.1)
 obtain ⟨vv31, _, ⟨T31, L31, k31, n31⟩, -, X31, ⟨Lc31, hQ31, l31, y31, z31⟩, st31⟩ := Jvm.LawKit.callS Xh26 hx (y := yM2) hown (mvT hZ (Wd85 hw)) (mvT hZ (Wd86 hw)) (mvT hZ (Wd19 hw)) (mvT hZ (Wd87 hw)) (by decide) (backOf (W := 0) (c_put l Z a0 hw [] t21 kb21 (6 : Int32) [(iV 0), (iV 0), (iV 0), (iV 0), (iV 0), (iV 0)] (0 : Int32) c0 0 T21.heap n0 f30 Aq21 g23 ⟨by decide +kernel, by decide +kernel⟩ ⟨by decide +kernel, by decide +kernel⟩ (by decide +kernel) (by decide +kernel) (oLe rfl) SA SHI SLO f29) hZ (Wd87 hw) (Wd19 hw) (by decide) (by decide)) (g := (fr_tob3 m a2 20 (vI 0) (vR t21) (vI 0) [(.int c0), (iV 0), (.ref t21)])) rfl (by rw [hml]; rfl) (argsL := [(.ref t21), (iV 0), (.int c0)]) (rest := []) (lenOf pd_6 rfl) rfl (by show 2 * 0 + _ ≤ _; exact Nat.le_of_eq rfl) (D d16_20) (fun _ _ => ⟨rfl, rfl, (by decide : 1 + 0 ≤ _), (by decide : 6 + 0 ≤ _)⟩)
 dsimp only [Pt.U, Pt.locs, Pt.cells, Pt.slots] at X31 l31 y31 z31 st31 hQ31
 subst l31 y31 z31
 obtain ⟨rfl, Nq31, Kq31, Ap31⟩ := hQ31
 have Aq31 : Arv Z T31.heap t21 kb21 .byte (6 : Int32) [(.int (oW c0)), (.int (oH c0)), (iV 0), (iV 0), (iV 0), (iV 0)] (iV 0) := Ap31
 have N32 := Fr.app Nh26 Nq31
 obtain ⟨Lh33, Xh33, Nh33⟩ := oHd 1 6 X31 N32 rfl rfl
 refine ownBy st31 ?_
 clear st31
 show oA p e below _ T31 (fr_tob3 m a2 23 (vI 0) (vR t21) (vI 0) [])
 refine oTo T31 (fr_tob3 m a2 19 (vI 1) (vR t21) (vI 1) [(iV 1), (.ref a2), (iV 1), (.ref t21)]) (fun t kt => ?_) ?_
 ·refine XS.iinc Xh33.here hx rfl (D d16_23) rfl (l' := #[vR a2, vI 1, vI 3, vR t21, vI 0]) rfl ?_
  refine XS.iinc Xh33.here hx rfl (D d16_26) rfl (l' := #[vR a2, vI 1, vI 3, vR t21, vI 1]) rfl ?_
  refine XS.goto Xh33.here hx rfl (pc0 := 29) (pc' := 8) rfl (D d16_29) (by decide) (by decide) ?_
  refine XS.iload Xh33.here hx rfl (D d16_8) rfl ?_
  show Steps p.tables e below (T31.setTop (fr_tob3 m a2 10 (vI 1) (vR t21) (vI 1) [(iV 1)])) t
  refine XS.iloadN Xh33.here hx rfl (D d16_10) rfl ?_
  refine XS.icmpNo Xh33.here hx rfl (D d16_11) rfl (tlt ((by decide) : (1 : Int32) < (3 : Int32))).2.1 ?_
  refine XS.aloadN Xh33.here hx rfl (D d16_14) rfl rfl ?_
  refine XS.iload Xh33.here hx rfl (D d16_15) rfl ?_
  show Steps p.tables e below (T31.setTop (fr_tob3 m a2 17 (vI 1) (vR t21) (vI 1) [(iV 1), (.ref t21)])) t
  refine XS.aloadN Xh33.here hx rfl (D d16_17) rfl rfl ?_
  refine XS.iloadN Xh33.here hx rfl (D d16_18) rfl ?_
  exact kt
 have f34 := (f27.keep Kq31 (ninS ne22 nin0))
 obtain ⟨cl35, Ar35, q35, S35, N35, H35, G35⟩ := id f34
 have hin35 : ¬ ((1 : Int32) < 0 ∨ cl35.slots.size ≤ ((1 : Int32)).toNatClampNeg) := inb_of S35 ⟨by decide, by decide⟩
 have hat35 : cl35.slots[((1 : Int32)).toNatClampNeg]? = some (.int c1) := H35.at hin35 rfl
 have st35 := Xh33.caload hx (j := (1 : Int32)) (v := (.int c1)) Ar35.1 (State.isArrayOf_alike hZ.alike Ar35.2.1) Ar35.2.2 hin35 hat35 (g := (fr_tob3 m a2 19 (vI 1) (vR t21) (vI 1) [(iV 1), (.ref a2), (iV 1), (.ref t21)])) rfl rfl (D d16_19)
 refine ownBy st35 ?_
 show oA p e below _ T31 (fr_tob3 m a2 20 (vI 1) (vR t21) (vI 1) [(.int c1), (iV 1), (.ref t21)])
 have f36 := (f29.keep Kq31 (allS g23 all0))
 have f37 := (Nat.le_trans f30 Kq31.1)
 obtain ⟨vv38, _, ⟨T38, L38, k38, n38⟩, -, X38, ⟨Lc38, hQ38, l38, y38, z38⟩, st38⟩ := Jvm.LawKit.callS Xh33 hx (y := yM2) hown (mvT hZ (Wd85 hw)) (mvT hZ (Wd86 hw)) (mvT hZ (Wd19 hw)) (mvT hZ (Wd87 hw)) (by decide) (backOf (W := 0) (c_put l Z a0 hw [] t21 kb21 (6 : Int32) [(.int (oW c0)), (.int (oH c0)), (iV 0), (iV 0), (iV 0), (iV 0)] (1 : Int32) c1 2 T31.heap n0 f37 Aq31 g23 ⟨by decide +kernel, by decide +kernel⟩ ⟨by decide +kernel, by decide +kernel⟩ (by decide +kernel) (by decide +kernel) (oLe rfl) SA SHI SLO f36) hZ (Wd87 hw) (Wd19 hw) (by decide) (by decide)) (g := (fr_tob3 m a2 20 (vI 1) (vR t21) (vI 1) [(.int c1), (iV 1), (.ref t21)])) rfl (by rw [hml]; rfl) (argsL := [(.ref t21), (iV 1), (.int c1)]) (rest := []) (lenOf pd_6 rfl) rfl (by show 2 * 0 + _ ≤ _; exact Nat.le_of_eq rfl) (D d16_20) (fun _ _ => ⟨rfl, rfl, (by decide : 1 + 0 ≤ _), (by decide : 6 + 0 ≤ _)⟩)
 dsimp only [Pt.U, Pt.locs, Pt.cells, Pt.slots] at X38 l38 y38 z38 st38 hQ38
 subst l38 y38 z38
 obtain ⟨rfl, Nq38, Kq38, Ap38⟩ := hQ38
 have Aq38 : Arv Z T38.heap t21 kb21 .byte (6 : Int32) [(.int (oW c0)), (.int (oH c0)), (.int (oW c1)), (.int (oH c1)), (iV 0), (iV 0)] (iV 0) := Ap38
 have N39 := Fr.app Nh33 Nq38
 obtain ⟨Lh40, Xh40, Nh40⟩ := oHd 1 6 X38 N39 rfl rfl
 refine ownBy st38 ?_
 clear st38
 show oA p e below _ T38 (fr_tob3 m a2 23 (vI 1) (vR t21) (vI 1) [])
 refine oTo T38 (fr_tob3 m a2 19 (vI 2) (vR t21) (vI 2) [(iV 2), (.ref a2), (iV 2), (.ref t21)]) (fun t kt => ?_) ?_
 ·refine XS.iinc Xh40.here hx rfl (D d16_23) rfl (l' := #[vR a2, vI 2, vI 3, vR t21, vI 1]) rfl ?_
  refine XS.iinc Xh40.here hx rfl (D d16_26) rfl (l' := #[vR a2, vI 2, vI 3, vR t21, vI 2]) rfl ?_
  refine XS.goto Xh40.here hx rfl (pc0 := 29) (pc' := 8) rfl (D d16_29) (by decide) (by decide) ?_
  refine XS.iload Xh40.here hx rfl (D d16_8) rfl ?_
  show Steps p.tables e below (T38.setTop (fr_tob3 m a2 10 (vI 2) (vR t21) (vI 2) [(iV 2)])) t
  refine XS.iloadN Xh40.here hx rfl (D d16_10) rfl ?_
  refine XS.icmpNo Xh40.here hx rfl (D d16_11) rfl (tlt ((by decide) : (2 : Int32) < (3 : Int32))).2.1 ?_
  refine XS.aloadN Xh40.here hx rfl (D d16_14) rfl rfl ?_
  refine XS.iload Xh40.here hx rfl (D d16_15) rfl ?_
  show Steps p.tables e below (T38.setTop (fr_tob3 m a2 17 (vI 2) (vR t21) (vI 2) [(iV 2), (.ref t21)])) t
  refine XS.aloadN Xh40.here hx rfl (D d16_17) rfl rfl ?_
  refine XS.iloadN Xh40.here hx rfl (D d16_18) rfl ?_
  exact kt
 have f41 := (f34.keep Kq38 (ninS ne22 nin0))
 obtain ⟨cl42, Ar42, q42, S42, N42, H42, G42⟩ := id f41
 have hin42 : ¬ ((2 : Int32) < 0 ∨ cl42.slots.size ≤ ((2 : Int32)).toNatClampNeg) := inb_of S42 ⟨by decide, by decide⟩
 have hat42 : cl42.slots[((2 : Int32)).toNatClampNeg]? = some (.int c2) := H42.at hin42 rfl
 have st42 := Xh40.caload hx (j := (2 : Int32)) (v := (.int c2)) Ar42.1 (State.isArrayOf_alike hZ.alike Ar42.2.1) Ar42.2.2 hin42 hat42 (g := (fr_tob3 m a2 19 (vI 2) (vR t21) (vI 2) [(iV 2), (.ref a2), (iV 2), (.ref t21)])) rfl rfl (D d16_19)
 refine ownBy st42 ?_
 show oA p e below _ T38 (fr_tob3 m a2 20 (vI 2) (vR t21) (vI 2) [(.int c2), (iV 2), (.ref t21)])
 have f43 := (f36.keep Kq38 (allS g23 all0))
 have f44 := (Nat.le_trans f37 Kq38.1)
 obtain ⟨vv45, _, ⟨T45, L45, k45, n45⟩, -, X45, ⟨Lc45, hQ45, l45, y45, z45⟩, st45⟩ := Jvm.LawKit.callS Xh40 hx (y := yM2) hown (mvT hZ (Wd85 hw)) (mvT hZ (Wd86 hw)) (mvT hZ (Wd19 hw)) (mvT hZ (Wd87 hw)) (by decide) (backOf (W := 0) (c_put l Z a0 hw [] t21 kb21 (6 : Int32) [(.int (oW c0)), (.int (oH c0)), (.int (oW c1)), (.int (oH c1)), (iV 0), (iV 0)] (2 : Int32) c2 4 T38.heap n0 f44 Aq38 g23 ⟨by decide +kernel, by decide +kernel⟩ ⟨by decide +kernel, by decide +kernel⟩ (by decide +kernel) (by decide +kernel) (oLe rfl) SA SHI SLO f43) hZ (Wd87 hw) (Wd19 hw) (by decide) (by decide)) (g := (fr_tob3 m a2 20 (vI 2) (vR t21) (vI 2) [(.int c2), (iV 2), (.ref t21)])) rfl (by rw [hml]; rfl) (argsL := [(.ref t21), (iV 2), (.int c2)]) (rest := []) (lenOf pd_6 rfl) rfl (by show 2 * 0 + _ ≤ _; exact Nat.le_of_eq rfl) (D d16_20) (fun _ _ => ⟨rfl, rfl, (by decide : 1 + 0 ≤ _), (by decide : 6 + 0 ≤ _)⟩)
 dsimp only [Pt.U, Pt.locs, Pt.cells, Pt.slots] at X45 l45 y45 z45 st45 hQ45
 subst l45 y45 z45
 obtain ⟨rfl, Nq45, Kq45, Ap45⟩ := hQ45
 have Aq45 : Arv Z T45.heap t21 kb21 .byte (6 : Int32) [(.int (oW c0)), (.int (oH c0)), (.int (oW c1)), (.int (oH c1)), (.int (oW c2)), (.int (oH c2))] (iV 0) := Ap45
 have N46 := Fr.app Nh40 Nq45
 obtain ⟨Lh47, Xh47, Nh47⟩ := oHd 1 6 X45 N46 rfl rfl
 refine ownBy st45 ?_
 clear st45
 show oA p e below _ T45 (fr_tob3 m a2 23 (vI 2) (vR t21) (vI 2) [])
 refine oTo T45 (fr_tob3 m a2 33 (vI 3) (vR t21) (vI 3) [(.ref t21)]) (fun t kt => ?_) ?_
 ·refine XS.iinc Xh47.here hx rfl (D d16_23) rfl (l' := #[vR a2, vI 3, vI 3, vR t21, vI 2]) rfl ?_
  refine XS.iinc Xh47.here hx rfl (D d16_26) rfl (l' := #[vR a2, vI 3, vI 3, vR t21, vI 3]) rfl ?_
  refine XS.goto Xh47.here hx rfl (pc0 := 29) (pc' := 8) rfl (D d16_29) (by decide) (by decide) ?_
  refine XS.iload Xh47.here hx rfl (D d16_8) rfl ?_
  show Steps p.tables e below (T45.setTop (fr_tob3 m a2 10 (vI 3) (vR t21) (vI 3) [(iV 3)])) t
  refine XS.iloadN Xh47.here hx rfl (D d16_10) rfl ?_
  refine XS.icmpYes Xh47.here hx rfl (pc0 := 11) (pc' := 32) rfl (D d16_11) rfl (flt ((by decide) : ¬ ((3 : Int32) < (3 : Int32)))).2.1 (by decide) (by decide) ?_
  refine XS.aloadN Xh47.here hx rfl (D d16_32) rfl rfl ?_
  exact kt
 have f48 := (((((Keep.refl h0 []).trans Kq21 all0).trans Kq31 (allS (Or.inr z24) all0)).trans Kq38 (allS (Or.inr z24) all0)).trans Kq45 (allS (Or.inr z24) all0))
 refine ownRet Xh47 Bd.notSynchronized (v := some (.ref t21)) (fun h => by rw [Bd.returns] at h; cases h) ?_ (oLe rfl) (oLe rfl) (fun fs hr => retOut Xh47 hx Bd.returns rfl (Or.inr (Or.inr (Or.inr (Or.inr ⟨rfl, rfl, rfl⟩)))) (D d16_33) hr)
 show (Q_tob3 Z a2 kC c0 c1 c2 h0 n0) (some (.ref t21)) T45.heap _
 exact ⟨t21, kb21, rfl, Nh47, f48, z24, Aq45⟩
abbrev fr_cp5_3 (m : MethodId) (a2 : Addr) (ta : Addr) (pc : Nat) (x1_ x3_ x5_ x6_ : Slot) (st : List Value) : JFrame := mkF m pc #[vR a2, x1_, vR ta, x3_, vI 3, x5_, x6_] st
def Q_cp5_3 (Z : State) (a2 : Addr) (kC : ClassId) (ta : Addr) (kb : ClassId) (c0 : Int32) (c1 : Int32) (c2 : Int32) (h0 : Heap) (n0 : Nat) (v : Option Value) (h : Heap) (L : List Loc) : Prop := ∃ r : Int32, v = some (.int r) ∧ Fr n0 L ∧ Keep h0 h [ta] ∧ ((r = (3 : Int32) ∧ ¬ ((255 : Int32) < c0) ∧ ¬ ((255 : Int32) < c1) ∧ ¬ ((255 : Int32) < c2) ∧ Arv Z h ta kb .byte (3 : Int32) [(.int (oL c0)), (.int (oL c1)), (.int (oL c2))] (iV 0)) ∨ (r = (0 : Int32) ∧ (255 : Int32) < c0) ∨ (r = (1 : Int32) ∧ (255 : Int32) < c1) ∨ (r = (2 : Int32) ∧ (255 : Int32) < c2))
theorem ef_cp5_3 (m : MethodId) (x0 : Addr) (x1 : Int32) (x2 : Addr) (x3 : Int32) (x4 : Int32)  : entryFrame m #[(.ref x0), (.int x1), (.ref x2), (.int x3), (.int x4)] 7 = mkF m 0 #[vR x0, vI x1, vR x2, vI x3, vI x4, .unset, .unset] [] := by first | (simp [entryFrame, mkF, argsToLocals, Value.category]; done) | rfl
set_option maxRecDepth 65536 in
set_option maxHeartbeats 40000000 in
theorem c_cp5_3 (l : Launch) (Z : State) (a0 : Array Value) (hw : HW a0 Z) (ws : List Jvm.Cond) (a2 : Addr) (kC : ClassId) (ta : Addr) (kb : ClassId) (c0 : Int32) (c1 : Int32) (c2 : Int32) (h0 : Heap) (n0 : Nat) (Z0 : n0 ≤ h0.size) (A2 : Arv Z h0 a2 kC .char (3 : Int32) [(.int c0), (.int c1), (.int c2)] (iV 0)) (At : Arv Z h0 ta kb .byte (3 : Int32) [(iV 0), (iV 0), (iV 0)] (iV 0)) (gt : n0 ≤ ta) (ne1 : a2 ≠ ta) :
  MetFree l yM8 (head1 (Jvm.Cond.code yM8 jdk_52_method_21_code 7 (some .int) :: ws) ({ frames := 0, cells := 0, slots := 0, locals := 0 } : Room)) (fun a U => a = #[(.ref a2), (iV 0), (.ref ta), (iV 0), (iV 3)] ∧ Z.Warmed39 U.vm ∧ U.heap = h0) (fun _ _ _ _ _ => True) (fun _ U o U' => ∃ v L, o = .returned v ∧ (Q_cp5_3 Z a2 kC ta kb c0 c1 c2 h0 n0) v U'.heap L ∧ FrameEnd U o U' L ({ frames := 0, cells := 0, slots := 0, locals := 0 } : Room).cells ({ frames := 0, cells := 0, slots := 0, locals := 0 } : Room).slots) := by
 refine MetFree.of_bodySF (plainFor_of_name pn_3) hisR ?_
 intro p e s m args below meth c s₁ Bd hml0 hP hK
 obtain ⟨rfl, hZ, hHp⟩ := hP
 have hx := Bd.exec
 have D := fun {pc : Nat} {r} (h : decode _ pc = r) => hb Bd.bytes h
 have hml : c.maxLocals = 7 := hml0
 have hown : s.vm.findClass "java/lang/StringUTF16" = some m.cls := findClass_of_methodNamed Bd.named
 have hnm := (name_of_methodNamed Bd.named Bd.method).1
 have X0 : Stand p l e ({ frames := 0, cells := 0, slots := 0, locals := 0 } : Room) s m #[(.ref a2), (iV 0), (.ref ta), (iV 0), (iV 3)] below meth c s₁ [] 0 0 := Stand.of_body Bd
 have e0 : s₁.heap = h0 := by rw [← hHp, Bd.state]; rfl
 have N0 := Fr.nil n0
 refine ownOut (P := (Q_cp5_3 Z a2 kC ta kb c0 c1 c2 h0 n0)) ?_
 refine ownBy (A := s₁.setTop (mkF m 0 #[vR a2, vI 0, vR ta, vI 0, vI 3, .unset, .unset] [])) (fun t k => castTop (ef_cp5_3 m a2 (0 : Int32) ta (0 : Int32) (3 : Int32)) k) ?_
 refine oTo s₁ (fr_cp5_3 m a2 ta 12 (vI 0) (vI 0) (vI 0) .unset [(iV 0), (.ref a2)]) (fun t kt => ?_) ?_
 ·refine XS.iconst X0.here hx rfl (D d5_0) ?_
  refine XS.istore X0.here hx rfl (D d5_1) rfl (l' := #[vR a2, vI 0, vR ta, vI 0, vI 3, vI 0, .unset]) rfl ?_
  refine XS.iload X0.here hx rfl (D d5_3) rfl ?_
  refine XS.iload X0.here hx rfl (D d5_5) rfl ?_
  show Steps p.tables e below (s₁.setTop (fr_cp5_3 m a2 ta 7 (vI 0) (vI 0) (vI 0) .unset [(iV 3), (iV 0)])) t
  refine XS.icmpNo X0.here hx rfl (D d5_7) rfl (tlt ((by decide) : (0 : Int32) < (3 : Int32))).2.1 ?_
  refine XS.aloadN X0.here hx rfl (D d5_10) rfl rfl ?_
  refine XS.iloadN X0.here hx rfl (D d5_11) rfl ?_
  exact kt
 obtain ⟨cl21, Ar21, q21, S21, N21, H21, G21⟩ := id A2
 have hin21 : ¬ ((0 : Int32) < 0 ∨ cl21.slots.size ≤ ((0 : Int32)).toNatClampNeg) := inb_of S21 ⟨by decide, by decide⟩
 have hat21 : cl21.slots[((0 : Int32)).toNatClampNeg]? = some (.int c0) := H21.at hin21 rfl
 have st21 := X0.caload hx (j := (0 : Int32)) (v := (.int c0)) (by rw [e0]; exact Ar21.1) (State.isArrayOf_alike hZ.alike Ar21.2.1) Ar21.2.2 hin21 hat21 (g := (fr_cp5_3 m a2 ta 12 (vI 0) (vI 0) (vI 0) .unset [(iV 0), (.ref a2)])) rfl rfl (D d5_12)
 refine ownBy st21 ?_
 show oA p e below _ s₁ (fr_cp5_3 m a2 ta 13 (vI 0) (vI 0) (vI 0) .unset [(.int c0)])
 refine oTo s₁ (fr_cp5_3 m a2 ta 20 (vI 0) (vI 0) (vI 0) (vI c0) [(iV 255), (.int c0)]) (fun t kt => ?_) ?_
 ·refine XS.istore X0.here hx rfl (D d5_13) rfl (l' := #[vR a2, vI 0, vR ta, vI 0, vI 3, vI 0, vI c0]) rfl ?_
  refine XS.iload X0.here hx rfl (D d5_15) rfl ?_
  refine XS.sipush X0.here hx rfl (D d5_17) ?_
  exact kt
 by_cases hc22 : (255 : Int32) < c0
 ·skip
  refine oTo s₁ (fr_cp5_3 m a2 ta 25 (vI 0) (vI 0) (vI 0) (vI c0) [(iV 0)]) (fun t kt => ?_) ?_
  ·refine XS.icmpNo X0.here hx rfl (D d5_20) rfl (tlt hc22).2.2.2 ?_
   refine XS.iload X0.here hx rfl (D d5_23) rfl ?_
   exact kt
  refine ownRet X0 Bd.notSynchronized (v := some (iV 0)) (fun h => by rw [Bd.returns] at h; cases h) ?_ (oLe rfl) (oLe rfl) (fun fs hr => retI X0 hx Bd.returns (D d5_25) hr)
  show (Q_cp5_3 Z a2 kC ta kb c0 c1 c2 h0 n0) (some (iV 0)) s₁.heap _
  rw [e0]
  exact ⟨_, rfl, N0, (Keep.refl h0 [ta]), Or.inr (Or.inl ⟨rfl, hc22⟩)⟩
 ·skip
  refine oTo s₁ (fr_cp5_3 m a2 ta 31 (vI 0) (vI 0) (vI 0) (vI c0) [(.int (c0.toInt8.toInt32)), (iV 0), (.ref ta)]) (fun t kt => ?_) ?_
  ·refine XS.icmpYes X0.here hx rfl (pc0 := 20) (pc' := 26) rfl (D d5_20) rfl (flt hc22).2.2.2 (by decide) (by decide) ?_
   refine XS.aloadN X0.here hx rfl (D d5_26) rfl rfl ?_
   refine XS.iloadN X0.here hx rfl (D d5_27) rfl ?_
   refine XS.iload X0.here hx rfl (D d5_28) rfl ?_
   show Steps p.tables e below (s₁.setTop (fr_cp5_3 m a2 ta 30 (vI 0) (vI 0) (vI 0) (vI c0) [(.int c0), (iV 0), (.ref ta)])) t
   refine XS.i2b X0.here hx rfl (D d5_30) rfl ?_
   exact kt
  obtain ⟨cl23, Ar23, q23, S23, N23, H23, G23⟩ := id At
  have hin23 : ¬ ((0 : Int32) < 0 ∨ cl23.slots.size ≤ ((0 : Int32)).toNatClampNeg) := inb_of S23 ⟨by decide, by decide⟩
  obtain ⟨T23, h23, X23, e23, W23, st23⟩ := stB X0 hx hZ e0 Ar23 (j := (0 : Int32)) hin23 (g := (fr_cp5_3 m a2 ta 31 (vI 0) (vI 0) (vI 0) (vI c0) [(.int (c0.toInt8.toInt32)), (iV 0), (.ref ta)])) rfl rfl (D d5_31)
  have V24 : Arv Z h23 ta kb .byte (3 : Int32) [(.int (nar .byte (c0.toInt8.toInt32))), (iV 0), (iV 0)] (iV 0) := Arv.set Ar23 q23 S23 N23 H23 G23 (fits_nar_byte _) W23 0 rfl (oLe rfl)
  rw [own_nar_byte c0] at V24
  clear hin23 G23 H23 N23 S23 q23 Ar23 cl23
  have N25 := Fr.snoc X23 N0 gt
  obtain ⟨Lh26, Xh26, Nh26⟩ := oHd 0 0 X23 N25 rfl rfl
  refine ownBy st23 ?_
  clear st23
  show oA p e below _ T23 (fr_cp5_3 m a2 ta 32 (vI 0) (vI 0) (vI 0) (vI c0) [])
  refine oTo T23 (fr_cp5_3 m a2 ta 12 (vI 1) (vI 1) (vI 1) (vI c0) [(iV 1), (.ref a2)]) (fun t kt => ?_) ?_
  ·refine XS.iinc Xh26.here hx rfl (D d5_32) rfl (l' := #[vR a2, vI 1, vR ta, vI 0, vI 3, vI 0, vI c0]) rfl ?_
   refine XS.iinc Xh26.here hx rfl (D d5_35) rfl (l' := #[vR a2, vI 1, vR ta, vI 1, vI 3, vI 0, vI c0]) rfl ?_
   refine XS.iinc Xh26.here hx rfl (D d5_38) rfl (l' := #[vR a2, vI 1, vR ta, vI 1, vI 3, vI 1, vI c0]) rfl ?_
   refine XS.goto Xh26.here hx rfl (pc0 := 41) (pc' := 3) rfl (D d5_41) (by decide) (by decide) ?_
   show Steps p.tables e below (T23.setTop (fr_cp5_3 m a2 ta 3 (vI 1) (vI 1) (vI 1) (vI c0) [])) t
   refine XS.iload Xh26.here hx rfl (D d5_3) rfl ?_
   refine XS.iload Xh26.here hx rfl (D d5_5) rfl ?_
   refine XS.icmpNo Xh26.here hx rfl (D d5_7) rfl (tlt ((by decide) : (1 : Int32) < (3 : Int32))).2.1 ?_
   refine XS.aloadN Xh26.here hx rfl (D d5_10) rfl rfl ?_
   show Steps p.tables e below (T23.setTop (fr_cp5_3 m a2 ta 11 (vI 1) (vI 1) (vI 1) (vI c0) [(.ref a2)])) t
   refine XS.iloadN Xh26.here hx rfl (D d5_11) rfl ?_
   exact kt
  have f27 := (A2.other W23 ne1)
  obtain ⟨cl28, Ar28, q28, S28, N28, H28, G28⟩ := id f27
  have hin28 : ¬ ((1 : Int32) < 0 ∨ cl28.slots.size ≤ ((1 : Int32)).toNatClampNeg) := inb_of S28 ⟨by decide, by decide⟩
  have hat28 : cl28.slots[((1 : Int32)).toNatClampNeg]? = some (.int c1) := H28.at hin28 rfl
  have st28 := Xh26.caload hx (j := (1 : Int32)) (v := (.int c1)) (by rw [e23]; exact Ar28.1) (State.isArrayOf_alike hZ.alike Ar28.2.1) Ar28.2.2 hin28 hat28 (g := (fr_cp5_3 m a2 ta 12 (vI 1) (vI 1) (vI 1) (vI c0) [(iV 1), (.ref a2)])) rfl rfl (D d5_12)
  refine ownBy st28 ?_
  show oA p e below _ T23 (fr_cp5_3 m a2 ta 13 (vI 1) (vI 1) (vI 1) (vI c0) [(.int c1)])
  refine oTo T23 (fr_cp5_3 m a2 ta 20 (vI 1) (vI 1) (vI 1) (vI c1) [(iV 255), (.int c1)]) (fun t kt => ?_) ?_
  ·refine XS.istore Xh26.here hx rfl (D d5_13) rfl (l' := #[vR a2, vI 1, vR ta, vI 1, vI 3, vI 1, vI c1]) rfl ?_
   refine XS.iload Xh26.here hx rfl (D d5_15) rfl ?_
   refine XS.sipush Xh26.here hx rfl (D d5_17) ?_
   exact kt
  by_cases hc29 : (255 : Int32) < c1
  ·skip
   refine oTo T23 (fr_cp5_3 m a2 ta 25 (vI 1) (vI 1) (vI 1) (vI c1) [(iV 1)]) (fun t kt => ?_) ?_
   ·refine XS.icmpNo Xh26.here hx rfl (D d5_20) rfl (tlt hc29).2.2.2 ?_
    refine XS.iload Xh26.here hx rfl (D d5_23) rfl ?_
    exact kt
   have f30 := ((Keep.refl h0 [ta]).wr W23 (Or.inl (List.mem_of_getElem? (i := 0) rfl)))
   refine ownRet Xh26 Bd.notSynchronized (v := some (iV 1)) (fun h => by rw [Bd.returns] at h; cases h) ?_ (oLe rfl) (oLe rfl) (fun fs hr => retI Xh26 hx Bd.returns (D d5_25) hr)
   show (Q_cp5_3 Z a2 kC ta kb c0 c1 c2 h0 n0) (some (iV 1)) T23.heap _
   rw [e23]
   exact ⟨_, rfl, Nh26, f30, Or.inr (Or.inr (Or.inl ⟨rfl, hc29⟩))⟩
  ·skip
   refine oTo T23 (fr_cp5_3 m a2 ta 31 (vI 1) (vI 1) (vI 1) (vI c1) [(.int (c1.toInt8.toInt32)), (iV 1), (.ref ta)]) (fun t kt => ?_) ?_
   ·refine XS.icmpYes Xh26.here hx rfl (pc0 := 20) (pc' := 26) rfl (D d5_20) rfl (flt hc29).2.2.2 (by decide) (by decide) ?_
    refine XS.aloadN Xh26.here hx rfl (D d5_26) rfl rfl ?_
    refine XS.iloadN Xh26.here hx rfl (D d5_27) rfl ?_
    refine XS.iload Xh26.here hx rfl (D d5_28) rfl ?_
    show Steps p.tables e below (T23.setTop (fr_cp5_3 m a2 ta 30 (vI 1) (vI 1) (vI 1) (vI c1) [(.int c1), (iV 1), (.ref ta)])) t
    refine XS.i2b Xh26.here hx rfl (D d5_30) rfl ?_
    exact kt
   obtain ⟨cl31, Ar31, q31, S31, N31, H31, G31⟩ := id V24
   have hin31 : ¬ ((1 : Int32) < 0 ∨ cl31.slots.size ≤ ((1 : Int32)).toNatClampNeg) := inb_of S31 ⟨by decide, by decide⟩
   obtain ⟨T31, h31, X31, e31, W31, st31⟩ := stB Xh26 hx hZ e23 Ar31 (j := (1 : Int32)) hin31 (g := (fr_cp5_3 m a2 ta 31 (vI 1) (vI 1) (vI 1) (vI c1) [(.int (c1.toInt8.toInt32)), (iV 1), (.ref ta)])) rfl rfl (D d5_31)
   have V32 : Arv Z h31 ta kb .byte (3 : Int32) [(.int (oL c0)), (.int (nar .byte (c1.toInt8.toInt32))), (iV 0)] (iV 0) := Arv.set Ar31 q31 S31 N31 H31 G31 (fits_nar_byte _) W31 1 rfl (oLe rfl)
   rw [own_nar_byte c1] at V32
   clear hin31 G31 H31 N31 S31 q31 Ar31 cl31 V24
   have N33 := Fr.snoc X31 Nh26 gt
   obtain ⟨Lh34, Xh34, Nh34⟩ := oHd 0 0 X31 N33 rfl rfl
   refine ownBy st31 ?_
   clear st31
   show oA p e below _ T31 (fr_cp5_3 m a2 ta 32 (vI 1) (vI 1) (vI 1) (vI c1) [])
   refine oTo T31 (fr_cp5_3 m a2 ta 12 (vI 2) (vI 2) (vI 2) (vI c1) [(iV 2), (.ref a2)]) (fun t kt => ?_) ?_
   ·refine XS.iinc Xh34.here hx rfl (D d5_32) rfl (l' := #[vR a2, vI 2, vR ta, vI 1, vI 3, vI 1, vI c1]) rfl ?_
    refine XS.iinc Xh34.here hx rfl (D d5_35) rfl (l' := #[vR a2, vI 2, vR ta, vI 2, vI 3, vI 1, vI c1]) rfl ?_
    refine XS.iinc Xh34.here hx rfl (D d5_38) rfl (l' := #[vR a2, vI 2, vR ta, vI 2, vI 3, vI 2, vI c1]) rfl ?_
    refine XS.goto Xh34.here hx rfl (pc0 := 41) (pc' := 3) rfl (D d5_41) (by decide) (by decide) ?_
    show Steps p.tables e below (T31.setTop (fr_cp5_3 m a2 ta 3 (vI 2) (vI 2) (vI 2) (vI c1) [])) t
    refine XS.iload Xh34.here hx rfl (D d5_3) rfl ?_
    refine XS.iload Xh34.here hx rfl (D d5_5) rfl ?_
    refine XS.icmpNo Xh34.here hx rfl (D d5_7) rfl (tlt ((by decide) : (2 : Int32) < (3 : Int32))).2.1 ?_
    refine XS.aloadN Xh34.here hx rfl (D d5_10) rfl rfl ?_
    show Steps p.tables e below (T31.setTop (fr_cp5_3 m a2 ta 11 (vI 2) (vI 2) (vI 2) (vI c1) [(.ref a2)])) t
    refine XS.iloadN Xh34.here hx rfl (D d5_11) rfl ?_
    exact kt
   have f35 := (f27.other W31 ne1)
   obtain ⟨cl36, Ar36, q36, S36, N36, H36, G36⟩ := id f35
   have hin36 : ¬ ((2 : Int32) < 0 ∨ cl36.slots.size ≤ ((2 : Int32)).toNatClampNeg) := inb_of S36 ⟨by decide, by decide⟩
   have hat36 : cl36.slots[((2 : Int32)).toNatClampNeg]? = some (.int c2) := H36.at hin36 rfl
   have st36 := Xh34.caload hx (j := (2 : Int32)) (v := (.int c2)) (by rw [e31]; exact Ar36.1) (State.isArrayOf_alike hZ.alike Ar36.2.1) Ar36.2.2 hin36 hat36 (g := (fr_cp5_3 m a2 ta 12 (vI 2) (vI 2) (vI 2) (vI c1) [(iV 2), (.ref a2)])) rfl rfl (D d5_12)
   refine ownBy st36 ?_
   show oA p e below _ T31 (fr_cp5_3 m a2 ta 13 (vI 2) (vI 2) (vI 2) (vI c1) [(.int c2)])
   refine oTo T31 (fr_cp5_3 m a2 ta 20 (vI 2) (vI 2) (vI 2) (vI c2) [(iV 255), (.int c2)]) (fun t kt => ?_) ?_
   ·refine XS.istore Xh34.here hx rfl (D d5_13) rfl (l' := #[vR a2, vI 2, vR ta, vI 2, vI 3, vI 2, vI c2]) rfl ?_
    refine XS.iload Xh34.here hx rfl (D d5_15) rfl ?_
    refine XS.sipush Xh34.here hx rfl (D d5_17) ?_
    exact kt
   by_cases hc37 : (255 : Int32) < c2
   ·skip
    refine oTo T31 (fr_cp5_3 m a2 ta 25 (vI 2) (vI 2) (vI 2) (vI c2) [(iV 2)]) (fun t kt => ?_) ?_
    ·refine XS.icmpNo Xh34.here hx rfl (D d5_20) rfl (tlt hc37).2.2.2 ?_
     refine XS.iload Xh34.here hx rfl (D d5_23) rfl ?_
     exact kt
    have f38 := (((Keep.refl h0 [ta]).wr W23 (Or.inl (List.mem_of_getElem? (i := 0) rfl))).wr W31 (Or.inl (List.mem_of_getElem? (i := 0) rfl)))
    refine ownRet Xh34 Bd.notSynchronized (v := some (iV 2)) (fun h => by rw [Bd.returns] at h; cases h) ?_ (oLe rfl) (oLe rfl) (fun fs hr => retI Xh34 hx Bd.returns (D d5_25) hr)
    show (Q_cp5_3 Z a2 kC ta kb c0 c1 c2 h0 n0) (some (iV 2)) T31.heap _
    rw [e31]
    exact ⟨_, rfl, Nh34, f38, Or.inr (Or.inr (Or.inr (⟨rfl, hc37⟩)))⟩
   ·skip
    refine oTo T31 (fr_cp5_3 m a2 ta 31 (vI 2) (vI 2) (vI 2) (vI c2) [(.int (c2.toInt8.toInt32)), (iV 2), (.ref ta)]) (fun t kt => ?_) ?_
    ·refine XS.icmpYes Xh34.here hx rfl (pc0 := 20) (pc' := 26) rfl (D d5_20) rfl (flt hc37).2.2.2 (by decide) (by decide) ?_
     refine XS.aloadN Xh34.here hx rfl (D d5_26) rfl rfl ?_
     refine XS.iloadN Xh34.here hx rfl (D d5_27) rfl ?_
     refine XS.iload Xh34.here hx rfl (D d5_28) rfl ?_
     show Steps p.tables e below (T31.setTop (fr_cp5_3 m a2 ta 30 (vI 2) (vI 2) (vI 2) (vI c2) [(.int c2), (iV 2), (.ref ta)])) t
     refine XS.i2b Xh34.here hx rfl (D d5_30) rfl ?_
     exact kt
    obtain ⟨cl39, Ar39, q39, S39, N39, H39, G39⟩ := id V32
    have hin39 : ¬ ((2 : Int32) < 0 ∨ cl39.slots.size ≤ ((2 : Int32)).toNatClampNeg) := inb_of S39 ⟨by decide, by decide⟩
    obtain ⟨T39, h39, X39, e39, W39, st39⟩ := stB Xh34 hx hZ e31 Ar39 (j := (2 : Int32)) hin39 (g := (fr_cp5_3 m a2 ta 31 (vI 2) (vI 2) (vI 2) (vI c2) [(.int (c2.toInt8.toInt32)), (iV 2), (.ref ta)])) rfl rfl (D d5_31)
    have V40 : Arv Z h39 ta kb .byte (3 : Int32) [(.int (oL c0)), (.int (oL c1)), (.int (nar .byte (c2.toInt8.toInt32)))] (iV 0) := Arv.set Ar39 q39 S39 N39 H39 G39 (fits_nar_byte _) W39 2 rfl (oLe rfl)
    rw [own_nar_byte c2] at V40
    clear hin39 G39 H39 N39 S39 q39 Ar39 cl39 V32
    have N41 := Fr.snoc X39 Nh34 gt
    obtain ⟨Lh42, Xh42, Nh42⟩ := oHd 0 0 X39 N41 rfl rfl
    refine ownBy st39 ?_
    clear st39
    show oA p e below _ T39 (fr_cp5_3 m a2 ta 32 (vI 2) (vI 2) (vI 2) (vI c2) [])
    refine oTo T39 (fr_cp5_3 m a2 ta 46 (vI 3) (vI 3) (vI 3) (vI c2) [(iV 3)]) (fun t kt => ?_) ?_
    ·refine XS.iinc Xh42.here hx rfl (D d5_32) rfl (l' := #[vR a2, vI 3, vR ta, vI 2, vI 3, vI 2, vI c2]) rfl ?_
     refine XS.iinc Xh42.here hx rfl (D d5_35) rfl (l' := #[vR a2, vI 3, vR ta, vI 3, vI 3, vI 2, vI c2]) rfl ?_
     refine XS.iinc Xh42.here hx rfl (D d5_38) rfl (l' := #[vR a2, vI 3, vR ta, vI 3, vI 3, vI 3, vI c2]) rfl ?_
     refine XS.goto Xh42.here hx rfl (pc0 := 41) (pc' := 3) rfl (D d5_41) (by decide) (by decide) ?_
     show Steps p.tables e below (T39.setTop (fr_cp5_3 m a2 ta 3 (vI 3) (vI 3) (vI 3) (vI c2) [])) t
     refine XS.iload Xh42.here hx rfl (D d5_3) rfl ?_
     refine XS.iload Xh42.here hx rfl (D d5_5) rfl ?_
     refine XS.icmpYes Xh42.here hx rfl (pc0 := 7) (pc' := 44) rfl (D d5_7) rfl (flt ((by decide) : ¬ ((3 : Int32) < (3 : Int32)))).2.1 (by decide) (by decide) ?_
     refine XS.iload Xh42.here hx rfl (D d5_44) rfl ?_
     exact kt
    have f43 := ((((Keep.refl h0 [ta]).wr W23 (Or.inl (List.mem_of_getElem? (i := 0) rfl))).wr W31 (Or.inl (List.mem_of_getElem? (i := 0) rfl))).wr W39 (Or.inl (List.mem_of_getElem? (i := 0) rfl)))
    refine ownRet Xh42 Bd.notSynchronized (v := some (iV 3)) (fun h => by rw [Bd.returns] at h; cases h) ?_ (oLe rfl) (oLe rfl) (fun fs hr => retI Xh42 hx Bd.returns (D d5_46) hr)
    show (Q_cp5_3 Z a2 kC ta kb c0 c1 c2 h0 n0) (some (iV 3)) T39.heap _
    rw [e39]
    exact ⟨_, rfl, Nh42, f43, Or.inl ⟨rfl, hc22, hc29, hc37, V40⟩⟩
abbrev fr_cp3_3 (m : MethodId) (a2 : Addr) (pc : Nat) (x3_ x4_ x5_ : Slot) (st : List Value) : JFrame := mkF m pc #[vR a2, vI 0, vI 3, x3_, x4_, x5_] st
def Q_cp3_3 (Z : State) (a2 : Addr) (kC : ClassId) (c0 : Int32) (c1 : Int32) (c2 : Int32) (h0 : Heap) (n0 : Nat) (v : Option Value) (h : Heap) (L : List Loc) : Prop := ∃ (ta : Addr) (kb : ClassId), v = some (.ref ta) ∧ Fr n0 L ∧ Keep h0 h [] ∧ h0.size ≤ ta ∧ ((¬ ((255 : Int32) < c0) ∧ ¬ ((255 : Int32) < c1) ∧ ¬ ((255 : Int32) < c2) ∧ Arv Z h ta kb .byte (3 : Int32) [(.int (oL c0)), (.int (oL c1)), (.int (oL c2))] (iV 0)) ∨ (((255 : Int32) < c0 ∨ (255 : Int32) < c1 ∨ (255 : Int32) < c2) ∧ Arv Z h ta kb .byte (6 : Int32) [(.int (oW c0)), (.int (oH c0)), (.int (oW c1)), (.int (oH c1)), (.int (oW c2)), (.int (oH c2))] (iV 0)))
theorem ef_cp3_3 (m : MethodId) (x0 : Addr) (x1 : Int32) (x2 : Int32)  : entryFrame m #[(.ref x0), (.int x1), (.int x2)] 6 = mkF m 0 #[vR x0, vI x1, vI x2, .unset, .unset, .unset] [] := by first | (simp [entryFrame, mkF, argsToLocals, Value.category]; done) | rfl
set_option maxRecDepth 65536 in
set_option maxHeartbeats 40000000 in
theorem c_cp3_3 (l : Launch) (Z : State) (a0 : Array Value) (hw : HW a0 Z) (ws : List Jvm.Cond) (a2 : Addr) (kC : ClassId) (c0 : Int32) (c1 : Int32) (c2 : Int32) (h0 : Heap) (n0 : Nat) (Z0 : n0 ≤ h0.size) (A2 : Arv Z h0 a2 kC .char (3 : Int32) [(.int c0), (.int c1), (.int c2)] (iV 0)) (hc0 : ¬ c0 < 0 ∧ ¬ (65535 : Int32) < c0) (hc1 : ¬ c1 < 0 ∧ ¬ (65535 : Int32) < c1) (hc2 : ¬ c2 < 0 ∧ ¬ (65535 : Int32) < c2) (SA : Sta Z Z.heap "java/lang/StringUTF16" "$assertionsDisabled" "Z" (iV 1)) (SHI : Sta Z Z.heap "java/lang/StringUTF16" "HI_BYTE_SHIFT" "I" (iV 0)) (SLO : Sta Z Z.heap "java/lang/StringUTF16" "LO_BYTE_SHIFT" "I" (iV 8)) (X00 : Old Z n0 h0) :
  MetFree l yM9 (head1 (Jvm.Cond.code yM9 jdk_52_method_16_code 6 (some (.array .byte)) :: ws) ({ frames := 3, cells := 2, slots := 9, locals := 40 } : Room)) (fun a U => a = #[(.ref a2), (iV 0), (iV 3)] ∧ Z.Warmed39 U.vm ∧ U.heap = h0) (fun _ _ _ _ _ => True) (fun _ U o U' => ∃ v L, o = .returned v ∧ (Q_cp3_3 Z a2 kC c0 c1 c2 h0 n0) v U'.heap L ∧ FrameEnd U o U' L ({ frames := 3, cells := 2, slots := 9, locals := 40 } : Room).cells ({ frames := 3, cells := 2, slots := 9, locals := 40 } : Room).slots) := by
 refine MetFree.of_bodySF (plainFor_of_name pn_3) hisR ?_
 intro p e s m args below meth c s₁ Bd hml0 hP hK
 obtain ⟨rfl, hZ, hHp⟩ := hP
 have hx := Bd.exec
 have D := fun {pc : Nat} {r} (h : decode _ pc = r) => hb Bd.bytes h
 have hml : c.maxLocals = 6 := hml0
 have hown : s.vm.findClass "java/lang/StringUTF16" = some m.cls := findClass_of_methodNamed Bd.named
 have hnm := (name_of_methodNamed Bd.named Bd.method).1
 have X0 : Stand p l e ({ frames := 3, cells := 2, slots := 9, locals := 40 } : Room) s m #[(.ref a2), (iV 0), (iV 3)] below meth c s₁ [] 0 0 := Stand.of_body Bd
 have e0 : s₁.heap = h0 := by rw [← hHp, Bd.state]; rfl
 have N0 := Fr.nil n0
 refine ownOut (P := (Q_cp3_3 Z a2 kC c0 c1 c2 h0 n0)) ?_
 refine ownBy (A := s₁.setTop (mkF m 0 #[vR a2, vI 0, vI 3, .unset, .unset, .unset] [])) (fun t k => castTop (ef_cp3_3 m a2 (0 : Int32) (3 : Int32)) k) ?_
 refine oTo s₁ (fr_cp3_3 m a2 1 .unset .unset .unset [(iV 3)]) (fun t kt => ?_) ?_
 ·refine XS.iloadN X0.here hx rfl (D d4_0) rfl ?_
  exact kt
 obtain ⟨T21, h21, k21, X21, e21, E21, A21, st21⟩ := newP X0 hx hZ (aty := .byte) (Wd21 hw) e0 (g := (fr_cp3_3 m a2 1 .unset .unset .unset [(iV 3)])) rfl (D d4_1) rfl (by decide : ¬ ((3 : Int32) < (0 : Int32))) (cap := 3) (by decide) (by decide) (by decide) (by decide)
 obtain ⟨b21, g21⟩ : ∃ z, z = h0.size := ⟨_, rfl⟩
 rw [← g21] at A21 st21
 have ne22 : a2 ≠ b21 := Nat.ne_of_lt (Nat.lt_of_lt_of_le A2.lt (Nat.le_of_eq g21.symm))
 have g23 : n0 ≤ b21 := Nat.le_trans Z0 (Nat.le_of_eq g21.symm)
 have z24 : h0.size ≤ b21 := Nat.le_trans (Nat.le_refl h0.size) (Nat.le_of_eq g21.symm)
 have V25 : Arv Z h21 b21 k21 .byte (3 : Int32) [(iV 0), (iV 0), (iV 0)] (iV 0) := (Arv.new A21 (by decide)).pad (pad_rep [] (iV 0) 3)
 refine ownBy st21 ?_
 clear st21
 show oA p e below _ T21 (fr_cp3_3 m a2 3 .unset .unset .unset [(.ref b21)])
 refine oTo T21 (fr_cp3_3 m a2 9 (vR b21) .unset .unset [(iV 3), (iV 0), (.ref b21), (iV 0), (.ref a2)]) (fun t kt => ?_) ?_
 ·refine XS.astoreN X21.here hx rfl (D d4_3) rfl rfl (l' := #[vR a2, vI 0, vI 3, vR b21, .unset, .unset]) rfl ?_
  refine XS.aloadN X21.here hx rfl (D d4_4) rfl rfl ?_
  refine XS.iloadN X21.here hx rfl (D d4_5) rfl ?_
  refine XS.aloadN X21.here hx rfl (D d4_6) rfl rfl ?_
  show Steps p.tables e below (T21.setTop (fr_cp3_3 m a2 7 (vR b21) .unset .unset [(.ref b21), (iV 0), (.ref a2)])) t
  refine XS.iconst X21.here hx rfl (D d4_7) ?_
  refine XS.iloadN X21.here hx rfl (D d4_8) rfl ?_
  exact kt
 have f26 := (A2.ext E21)
 have f27 := (Nat.le_trans Z0 E21.1)
 obtain ⟨vv28, _, ⟨T28, L28, k28, n28⟩, -, X28, ⟨Lc28, hQ28, l28, y28, z28⟩, st28⟩ := Jvm.LawKit.callS X21 hx (y := yM8) hown (mvT hZ (Wd22 hw)) (mvT hZ (Wd23 hw)) (mvT hZ (Wd19 hw)) (mvT hZ (Wd24 hw)) (by decide) (backOf (W := 0) (c_cp5_3 l Z a0 hw [] a2 kC b21 k21 c0 c1 c2 h21 n0 f27 f26 V25 g23 ne22) hZ (Wd24 hw) (Wd19 hw) (by decide) (by decide)) (g := (fr_cp3_3 m a2 9 (vR b21) .unset .unset [(iV 3), (iV 0), (.ref b21), (iV 0), (.ref a2)])) rfl (by rw [hml]; rfl) (argsL := [(.ref a2), (iV 0), (.ref b21), (iV 0), (iV 3)]) (rest := []) (lenOf pd_7 rfl) rfl (by show 2 * 0 + _ ≤ _; exact Nat.le_of_eq rfl) (D d4_9) (fun _ _ => ⟨rfl, e21, (by decide : 1 + 0 ≤ _), (by decide : 3 + 0 ≤ _)⟩)
 dsimp only [Pt.U, Pt.locs, Pt.cells, Pt.slots] at X28 l28 y28 z28 st28 hQ28
 subst l28 y28 z28
 obtain ⟨r28, rfl, Nq28, Kq28, hB28⟩ := hQ28
 rcases hB28 with ⟨rfl, hn28_0, hn28_1, hn28_2, Aq28⟩ | hF
 ·skip
  have N29 := Fr.app N0 Nq28
  obtain ⟨Lh30, Xh30, Nh30⟩ := oHd 1 3 X28 N29 rfl rfl
  refine ownBy st28 ?_
  clear st28
  show oA p e below _ T28 (fr_cp3_3 m a2 12 (vR b21) .unset .unset [(iV 3)])
  refine oTo T28 (fr_cp3_3 m a2 58 (vR b21) (vI 3) .unset [(.ref b21)]) (fun t kt => ?_) ?_
  ·refine XS.istore Xh30.here hx rfl (D d4_12) rfl (l' := #[vR a2, vI 0, vI 3, vR b21, vI 3, .unset]) rfl ?_
   refine XS.iload Xh30.here hx rfl (D d4_14) rfl ?_
   refine XS.iloadN Xh30.here hx rfl (D d4_16) rfl ?_
   refine XS.icmpYes Xh30.here hx rfl (pc0 := 17) (pc' := 57) rfl (D d4_17) rfl (teq ((by decide) : (3 : Int32) = (3 : Int32))).1 (by decide) (by decide) ?_
   show Steps p.tables e below (T28.setTop (fr_cp3_3 m a2 57 (vR b21) (vI 3) .unset [])) t
   refine XS.aloadN Xh30.here hx rfl (D d4_57) rfl rfl ?_
   exact kt
  have f31 := (((Keep.refl h0 []).ext E21).trans Kq28 (allS (Or.inr z24) all0))
  refine ownRet Xh30 Bd.notSynchronized (v := some (.ref b21)) (fun h => by rw [Bd.returns] at h; cases h) ?_ (oLe rfl) (oLe rfl) (fun fs hr => retOut Xh30 hx Bd.returns rfl (Or.inr (Or.inr (Or.inr (Or.inr ⟨rfl, rfl, rfl⟩)))) (D d4_58) hr)
  show (Q_cp3_3 Z a2 kC c0 c1 c2 h0 n0) (some (.ref b21)) T28.heap _
  exact ⟨b21, k21, rfl, Nh30, f31, z24, Or.inl ⟨hn28_0, hn28_1, hn28_2, Aq28⟩⟩
 ·skip
  have N32 := Fr.app N0 Nq28
  obtain ⟨Lh33, Xh33, Nh33⟩ := oHd 1 3 X28 N32 rfl rfl
  refine ownBy st28 ?_
  clear st28
  show oA p e below _ T28 (fr_cp3_3 m a2 12 (vR b21) .unset .unset [(.int r28)])
  have hr : ¬ (r28 = (3 : Int32)) := by
   rcases hF with ⟨rfl, -⟩ | ⟨rfl, -⟩ | ⟨rfl, -⟩ <;> decide
  refine oTo T28 (fr_cp3_3 m a2 23 (vR b21) (vI r28) .unset [(iV 3), (iV 0), (.ref a2)]) (fun t kt => ?_) ?_
  ·refine XS.istore Xh33.here hx rfl (D d4_12) rfl (l' := #[vR a2, vI 0, vI 3, vR b21, vI r28, .unset]) rfl ?_
   refine XS.iload Xh33.here hx rfl (D d4_14) rfl ?_
   refine XS.iloadN Xh33.here hx rfl (D d4_16) rfl ?_
   refine XS.icmpNo Xh33.here hx rfl (D d4_17) rfl (feq hr).1 ?_
   show Steps p.tables e below (T28.setTop (fr_cp3_3 m a2 20 (vR b21) (vI r28) .unset [])) t
   refine XS.aloadN Xh33.here hx rfl (D d4_20) rfl rfl ?_
   refine XS.iloadN Xh33.here hx rfl (D d4_21) rfl ?_
   refine XS.iloadN Xh33.here hx rfl (D d4_22) rfl ?_
   exact kt
  have f34 := (f26.keep Kq28 (ninS ne22 nin0))
  have f35 := ((X00.ext E21).keep Kq28 (allS g23 all0))
  have f36 := (Nat.le_trans f27 Kq28.1)
  obtain ⟨vv37, _, ⟨T37, L37, k37, n37⟩, -, X37, ⟨Lc37, hQ37, l37, y37, z37⟩, st37⟩ := Jvm.LawKit.callS Xh33 hx (y := yM7) hown (mvT hZ (Wd75 hw)) (mvT hZ (Wd76 hw)) (mvT hZ (Wd19 hw)) (mvT hZ (Wd77 hw)) (by decide) (backOf (W := 0) (c_tob3 l Z a0 hw [] a2 kC c0 c1 c2 T28.heap n0 f36 f34 SA SHI SLO f35) hZ (Wd77 hw) (Wd19 hw) (by decide) (by decide)) (g := (fr_cp3_3 m a2 23 (vR b21) (vI r28) .unset [(iV 3), (iV 0), (.ref a2)])) rfl (by rw [hml]; rfl) (argsL := [(.ref a2), (iV 0), (iV 3)]) (rest := []) (lenOf pd_8 rfl) rfl (by show 2 * 0 + _ ≤ _; exact Nat.le_of_eq rfl) (D d4_23) (fun _ _ => ⟨rfl, rfl, (by decide : 1 + 1 ≤ _), (by decide : 3 + 6 ≤ _)⟩)
  dsimp only [Pt.U, Pt.locs, Pt.cells, Pt.slots] at X37 l37 y37 z37 st37 hQ37
  subst l37 y37 z37
  obtain ⟨t37, kb37, rfl, Nq37, Kq37, zq37, Aq37⟩ := hQ37
  have ne38 : a2 ≠ t37 := Nat.ne_of_lt (Nat.lt_of_lt_of_le f34.lt zq37)
  have g39 : n0 ≤ t37 := Nat.le_trans f36 zq37
  have f41 := (Nat.le_trans (Nat.le_trans (Nat.le_refl h0.size) E21.1) Kq28.1)
  have z40 : h0.size ≤ t37 := Nat.le_trans f41 zq37
  have N42 := Fr.app Nh33 Nq37
  obtain ⟨Lh43, Xh43, Nh43⟩ := oHd 2 9 X37 N42 rfl rfl
  refine ownBy st37 ?_
  clear st37
  show oA p e below _ T37 (fr_cp3_3 m a2 26 (vR b21) (vI r28) .unset [(.ref t37)])
  refine oTo T37 (fr_cp3_3 m a2 32 (vR b21) (vI r28) (vR t37) [(.int r28), (.ref t37)]) (fun t kt => ?_) ?_
  ·refine XS.astore Xh43.here hx rfl (D d4_26) rfl rfl (l' := #[vR a2, vI 0, vI 3, vR b21, vI r28, vR t37]) rfl ?_
   refine XS.aload Xh43.here hx rfl (D d4_28) rfl rfl ?_
   refine XS.iload Xh43.here hx rfl (D d4_30) rfl ?_
   exact kt
  obtain ⟨cM, kM, q0, q1, k0, k1, u0, u1, hcM, hgM⟩ : ∃ (cM : Int32) (kM : Nat), (¬ (r28 <<< ((1 : Int32) &&& 31)) < 0 ∧ (r28 <<< ((1 : Int32) &&& 31)) < (6 : Int32)) ∧ (¬ ((r28 <<< ((1 : Int32) &&& 31)) + (1 : Int32)) < 0 ∧ ((r28 <<< ((1 : Int32) &&& 31)) + (1 : Int32)) < (6 : Int32)) ∧ (r28 <<< ((1 : Int32) &&& 31)).toNatClampNeg = kM ∧ ((r28 <<< ((1 : Int32) &&& 31)) + (1 : Int32)).toNatClampNeg = kM + 1 ∧ ([(.int (oW c0)), (.int (oH c0)), (.int (oW c1)), (.int (oH c1)), (.int (oW c2)), (.int (oH c2))] : List Value).getD kM (iV 0) = .int (oW cM) ∧ ([(.int (oW c0)), (.int (oH c0)), (.int (oW c1)), (.int (oH c1)), (.int (oW c2)), (.int (oH c2))] : List Value).getD (kM + 1) (iV 0) = .int (oH cM) ∧ (¬ cM < 0 ∧ ¬ (65535 : Int32) < cM) ∧ (255 : Int32) < cM := by
   rcases hF with ⟨rfl, h⟩ | ⟨rfl, h⟩ | ⟨rfl, h⟩
   ·exact ⟨c0, 0, by decide +kernel, by decide +kernel, by decide +kernel, by decide +kernel, rfl, rfl, hc0, h⟩
   ·exact ⟨c1, 2, by decide +kernel, by decide +kernel, by decide +kernel, by decide +kernel, rfl, rfl, hc1, h⟩
   ·exact ⟨c2, 4, by decide +kernel, by decide +kernel, by decide +kernel, by decide +kernel, rfl, rfl, hc2, h⟩
  have f44 := (f35.keep Kq37 all0)
  have f45 := (Nat.le_trans f36 Kq37.1)
  obtain ⟨vv46, _, ⟨T46, L46, k46, n46⟩, -, X46, ⟨Lc46, hQ46, l46, y46, z46⟩, st46⟩ := Jvm.LawKit.callS Xh43 hx (y := yM5) hown (mvT hZ (Wd91 hw)) (mvT hZ (Wd92 hw)) (mvT hZ (Wd19 hw)) (mvT hZ (Wd93 hw)) (by decide) (backOf (W := 0) (c_getc l Z a0 hw [] t37 kb37 (6 : Int32) [(.int (oW c0)), (.int (oH c0)), (.int (oW c1)), (.int (oH c1)), (.int (oW c2)), (.int (oH c2))] r28 cM kM T37.heap n0 f45 Aq37 q0 q1 k0 k1 u0 u1 hcM SA SHI SLO f44) hZ (Wd93 hw) (Wd19 hw) (by decide) (by decide)) (g := (fr_cp3_3 m a2 32 (vR b21) (vI r28) (vR t37) [(.int r28), (.ref t37)])) rfl (by rw [hml]; rfl) (argsL := [(.ref t37), (.int r28)]) (rest := []) (lenOf pd_9 rfl) rfl (by show 2 * 0 + _ ≤ _; exact Nat.le_of_eq rfl) (D d4_32) (fun _ _ => ⟨rfl, rfl, (by decide : 2 + 0 ≤ _), (by decide : 9 + 0 ≤ _)⟩)
  dsimp only [Pt.U, Pt.locs, Pt.cells, Pt.slots] at X46 l46 y46 z46 st46 hQ46
  subst l46 y46 z46
  obtain ⟨rfl, Nq46, Eq46⟩ := hQ46
  have N47 := Fr.app Nh43 Nq46
  obtain ⟨Lh48, Xh48, Nh48⟩ := oHd 2 9 X46 N47 rfl rfl
  refine ownBy st46 ?_
  clear st46
  show oA p e below _ T46 (fr_cp3_3 m a2 35 (vR b21) (vI r28) (vR t37) [(.int cM)])
  refine oTo T46 (fr_cp3_3 m a2 56 (vR b21) (vI r28) (vR t37) [(.ref t37)]) (fun t kt => ?_) ?_
  ·refine XS.sipush Xh48.here hx rfl (D d4_35) ?_
   refine XS.icmpYes Xh48.here hx rfl (pc0 := 38) (pc' := 54) rfl (D d4_38) rfl (tlt hgM).2.2.1 (by decide) (by decide) ?_
   refine XS.aload Xh48.here hx rfl (D d4_54) rfl rfl ?_
   exact kt
  have hg3 : (255 : Int32) < c0 ∨ (255 : Int32) < c1 ∨ (255 : Int32) < c2 := by
   rcases hF with ⟨-, h⟩ | ⟨-, h⟩ | ⟨-, h⟩
   ·exact Or.inl h
   ·exact Or.inr (Or.inl h)
   ·exact Or.inr (Or.inr (h))
  have f49 := ((((Keep.refl h0 []).ext E21).trans Kq28 (allS (Or.inr z24) all0)).trans Kq37 all0)
  refine ownRet Xh48 Bd.notSynchronized (v := some (.ref t37)) (fun h => by rw [Bd.returns] at h; cases h) ?_ (oLe rfl) (oLe rfl) (fun fs hr => retOut Xh48 hx Bd.returns rfl (Or.inr (Or.inr (Or.inr (Or.inr ⟨rfl, rfl, rfl⟩)))) (D d4_56) hr)
  show (Q_cp3_3 Z a2 kC c0 c1 c2 h0 n0) (some (.ref t37)) T46.heap _
  rw [Eq46]
  exact ⟨t37, kb37, rfl, Nh48, f49, z40, Or.inr ⟨hg3, Aq37⟩⟩
abbrev fr_ini4_3 (m : MethodId) (a1 : Addr) (a2 : Addr) (pc : Nat) (x5_ : Slot) (st : List Value) : JFrame := mkF m pc #[vR a1, vR a2, vI 0, vI 3, .val .null, x5_] st
def Q_ini4_3 (Z : State) (a1 : Addr) (a2 : Addr) (kC : ClassId) (c0 : Int32) (c1 : Int32) (c2 : Int32) (c9 : Value) (G1 : Int32) (h0 : Heap) (n0 : Nat) (v : Option Value) (h : Heap) (L : List Loc) : Prop := v = none ∧ Fr n0 L ∧ Keep h0 h [a1] ∧ Exa Z h a1 "java/lang/String" ∧ ∃ (ta : Addr) (kb : ClassId) (cd z : Int32) (vs : List Value), h0.size ≤ ta ∧ Fld Z h a1 "java/lang/String" "value" "[B" (.ref ta) ∧ Fld Z h a1 "java/lang/String" "coder" "B" (.int cd) ∧ Arv Z h ta kb .byte z vs (iV 0) ∧ ((cd = (0 : Int32) ∧ z = (3 : Int32) ∧ vs = [(.int (oL c0)), (.int (oL c1)), (.int (oL c2))] ∧ ¬ ((255 : Int32) < c0) ∧ ¬ ((255 : Int32) < c1) ∧ ¬ ((255 : Int32) < c2)) ∨ (cd = (1 : Int32) ∧ z = (6 : Int32) ∧ vs = [(.int (oW c0)), (.int (oH c0)), (.int (oW c1)), (.int (oH c1)), (.int (oW c2)), (.int (oH c2))] ∧ ((255 : Int32) < c0 ∨ (255 : Int32) < c1 ∨ (255 : Int32) < c2)))
theorem ef_ini4_3 (m : MethodId) (x0 : Addr) (x1 : Addr) (x2 : Int32) (x3 : Int32)  : entryFrame m #[(.ref x0), (.ref x1), (.int x2), (.int x3), .null] 6 = mkF m 0 #[vR x0, vR x1, vI x2, vI x3, .val .null, .unset] [] := by first | (simp [entryFrame, mkF, argsToLocals, Value.category]; done) | rfl
set_option maxRecDepth 65536 in
set_option maxHeartbeats 40000000 in
theorem c_ini4_3 (l : Launch) (Z : State) (a0 : Array Value) (hw : HW a0 Z) (ws : List Jvm.Cond) (a1 : Addr) (a2 : Addr) (kC : ClassId) (c0 : Int32) (c1 : Int32) (c2 : Int32) (c9 : Value) (G1 : Int32) (h0 : Heap) (n0 : Nat) (Z0 : n0 ≤ h0.size) (E1 : Exa Z h0 a1 "java/lang/String") (F1 : Fld Z h0 a1 "java/lang/String" "value" "[B" .null) (F2 : Fld Z h0 a1 "java/lang/String" "coder" "B" c9) (g1 : n0 ≤ a1) (ne1 : a1 ≠ a2) (A2 : Arv Z h0 a2 kC .char (3 : Int32) [(.int c0), (.int c1), (.int c2)] (iV 0)) (hc0 : ¬ c0 < 0 ∧ ¬ (65535 : Int32) < c0) (hc1 : ¬ c1 < 0 ∧ ¬ (65535 : Int32) < c1) (hc2 : ¬ c2 < 0 ∧ ¬ (65535 : Int32) < c2) (O2 : Sta Z Z.heap "java/lang/String" "COMPACT_STRINGS" "Z" (.int G1)) (P5 : ¬ (G1 = (0 : Int32))) (SA : Sta Z Z.heap "java/lang/StringUTF16" "$assertionsDisabled" "Z" (iV 1)) (SHI : Sta Z Z.heap "java/lang/StringUTF16" "HI_BYTE_SHIFT" "I" (iV 0)) (SLO : Sta Z Z.heap "java/lang/StringUTF16" "LO_BYTE_SHIFT" "I" (iV 8)) (X00 : Old Z n0 h0) :
  MetFree l yM0 (head1 (Jvm.Cond.code yM0 jdk_42_method_149_code 6 none :: ws) ({ frames := 4, cells := 2, slots := 9, locals := 58 } : Room)) (fun a U => a = #[(.ref a1), (.ref a2), (iV 0), (iV 3), .null] ∧ Z.Warmed39 U.vm ∧ U.heap = h0) (fun _ _ _ _ _ => True) (fun _ U o U' => ∃ v L, o = .returned v ∧ (Q_ini4_3 Z a1 a2 kC c0 c1 c2 c9 G1 h0 n0) v U'.heap L ∧ FrameEnd U o U' L ({ frames := 4, cells := 2, slots := 9, locals := 58 } : Room).cells ({ frames := 4, cells := 2, slots := 9, locals := 58 } : Room).slots) := by
 refine MetFree.of_bodySF (plainFor_of_name pn_1) hisR ?_
 intro p e s m args below meth c s₁ Bd hml0 hP hK
 obtain ⟨rfl, hZ, hHp⟩ := hP
 have hx := Bd.exec
 have D := fun {pc : Nat} {r} (h : decode _ pc = r) => hb Bd.bytes h
 have hml : c.maxLocals = 6 := hml0
 have hown : s.vm.findClass "java/lang/String" = some m.cls := findClass_of_methodNamed Bd.named
 have hnm := (name_of_methodNamed Bd.named Bd.method).1
 have X0 : Stand p l e ({ frames := 4, cells := 2, slots := 9, locals := 58 } : Room) s m #[(.ref a1), (.ref a2), (iV 0), (iV 3), .null] below meth c s₁ [] 0 0 := Stand.of_body Bd
 have e0 : s₁.heap = h0 := by rw [← hHp, Bd.state]; rfl
 have N0 := Fr.nil n0
 refine ownOut (P := (Q_ini4_3 Z a1 a2 kC c0 c1 c2 c9 G1 h0 n0)) ?_
 refine ownBy (A := s₁.setTop (mkF m 0 #[vR a1, vR a2, vI 0, vI 3, .val .null, .unset] [])) (fun t k => castTop (ef_ini4_3 m a1 a2 (0 : Int32) (3 : Int32)) k) ?_
 refine oTo s₁ (fr_ini4_3 m a1 a2 1 .unset [(.ref a1)]) (fun t kt => ?_) ?_
 ·refine XS.aloadN X0.here hx rfl (D d2_0) rfl rfl ?_
  exact kt
 obtain ⟨T21, X21, e21, st21⟩ := initO X0 hx hZ hown (Wd13 hw) (Wd14 hw) (Wd15 hw) e0 (g := (fr_ini4_3 m a1 a2 1 .unset [(.ref a1)])) rfl (by rw [hml]; rfl) rfl (D d2_1) (by decide) (W := 0) (by show 2 * 0 + _ ≤ _; exact Nat.le_of_eq rfl) (by decide)
 refine ownBy st21 ?_
 clear st21
 show oA p e below _ T21 (fr_ini4_3 m a1 a2 4 .unset [])
 refine oTo T21 (fr_ini4_3 m a1 a2 27 .unset []) (fun t kt => ?_) ?_
 ·refine XS.iloadN X21.here hx rfl (D d2_4) rfl ?_
  refine XS.ifYes X21.here hx rfl (pc0 := 5) (pc' := 27) rfl (D d2_5) rfl ((if0 _ _).trans (feq ((by decide) : ¬ ((3 : Int32) = (0 : Int32)))).2) (by decide) (by decide) ?_
  exact kt
 refine own_getS X21 hx hZ hown (host := "") (Or.inl (Wd16 hw)) Via.refl e21 (O2.ext X00.2) (D d2_27) (fun T22 X22 e22 => ?_)
 refine oTo T22 (fr_ini4_3 m a1 a2 36 .unset [(iV 3), (iV 0), (.ref a2)]) (fun t kt => ?_) ?_
 ·refine XS.ifNo X22.here hx rfl (D d2_30) rfl ((if0 _ _).trans (feq P5).1) ?_
  refine XS.aloadN X22.here hx rfl (D d2_33) rfl rfl ?_
  refine XS.iloadN X22.here hx rfl (D d2_34) rfl ?_
  refine XS.iloadN X22.here hx rfl (D d2_35) rfl ?_
  exact kt
 obtain ⟨vv23, _, ⟨T23, L23, k23, n23⟩, -, X23, ⟨Lc23, hQ23, l23, y23, z23⟩, st23⟩ := Jvm.LawKit.callS X22 hx (y := yM9) hown (mvT hZ (Wd17 hw)) (mvT hZ (Wd18 hw)) (mvT hZ (Wd19 hw)) (mvT hZ (Wd20 hw)) (by decide) (backOf (W := 0) (c_cp3_3 l Z a0 hw [] a2 kC c0 c1 c2 h0 n0 Z0 A2 hc0 hc1 hc2 SA SHI SLO X00) hZ (Wd20 hw) (Wd19 hw) (by decide) (by decide)) (g := (fr_ini4_3 m a1 a2 36 .unset [(iV 3), (iV 0), (.ref a2)])) rfl (by rw [hml]; rfl) (argsL := [(.ref a2), (iV 0), (iV 3)]) (rest := []) (lenOf pd_8 rfl) rfl (by show 2 * 0 + _ ≤ _; exact Nat.le_of_eq rfl) (D d2_36) (fun _ _ => ⟨rfl, e22, (by decide : 0 + 2 ≤ _), (by decide : 0 + 9 ≤ _)⟩)
 dsimp only [Pt.U, Pt.locs, Pt.cells, Pt.slots] at X23 l23 y23 z23 st23 hQ23
 subst l23 y23 z23
 obtain ⟨t23, kb23, rfl, Nq23, Kq23, zq23, hB23⟩ := hQ23
 have ne24 : a1 ≠ t23 := Nat.ne_of_lt (Nat.lt_of_lt_of_le E1.lt zq23)
 have ne25 : a2 ≠ t23 := Nat.ne_of_lt (Nat.lt_of_lt_of_le A2.lt zq23)
 have g26 : n0 ≤ t23 := Nat.le_trans Z0 zq23
 have z27 : h0.size ≤ t23 := Nat.le_trans (Nat.le_refl h0.size) zq23
 rcases hB23 with ⟨hn23_0, hn23_1, hn23_2, Aq23⟩ | ⟨hg23, Aq23⟩
 ·skip
  have N28 := Fr.app N0 Nq23
  obtain ⟨Lh29, Xh29, Nh29⟩ := oHd 2 9 X23 N28 rfl rfl
  refine ownBy st23 ?_
  clear st23
  show oA p e below _ T23 (fr_ini4_3 m a1 a2 39 .unset [(.ref t23)])
  refine oTo T23 (fr_ini4_3 m a1 a2 45 (vR t23) [(iV 3), (.ref t23), (.ref a1)]) (fun t kt => ?_) ?_
  ·refine XS.astore Xh29.here hx rfl (D d2_39) rfl rfl (l' := #[vR a1, vR a2, vI 0, vI 3, .val .null, vR t23]) rfl ?_
   refine XS.aloadN Xh29.here hx rfl (D d2_41) rfl rfl ?_
   refine XS.aload Xh29.here hx rfl (D d2_42) rfl rfl ?_
   refine XS.iloadN Xh29.here hx rfl (D d2_44) rfl ?_
   exact kt
  have f30 := (Nat.le_trans Z0 Kq23.1)
  obtain ⟨vv31, _, ⟨T31, L31, k31, n31⟩, -, X31, ⟨Lc31, hQ31, l31, y31, z31⟩, st31⟩ := Jvm.LawKit.callS Xh29 hx (y := yM4) hown (mvT hZ (Wd25 hw)) (mvT hZ (Wd26 hw)) (mvT hZ (Wd19 hw)) (mvT hZ (Wd27 hw)) (by decide) (backOf (W := 1) (c_cfa l Z a0 hw [] t23 kb23 (3 : Int32) _ (3 : Int32) (0 : Int32) T23.heap n0 f30 Aq23 (by decide +kernel)) hZ (Wd27 hw) (Wd19 hw) (by decide) (by decide)) (g := (fr_ini4_3 m a1 a2 45 (vR t23) [(iV 3), (.ref t23), (.ref a1)])) rfl (by rw [hml]; rfl) (argsL := [(.ref t23), (iV 3)]) (rest := [(.ref a1)]) (lenOf pd_10 rfl) rfl (by show 2 * 0 + _ ≤ _; exact Nat.le_of_eq rfl) (D d2_45) (fun _ _ => ⟨rfl, rfl, (by decide : 2 + 0 ≤ _), (by decide : 9 + 0 ≤ _)⟩)
  dsimp only [Pt.U, Pt.locs, Pt.cells, Pt.slots] at X31 l31 y31 z31 st31 hQ31
  subst l31 y31 z31
  obtain ⟨rfl, Nq31, Eq31⟩ := hQ31
  have N32 := Fr.app Nh29 Nq31
  obtain ⟨Lh33, Xh33, Nh33⟩ := oHd 2 9 X31 N32 rfl rfl
  refine ownBy st31 ?_
  clear st31
  show oA p e below _ T31 (fr_ini4_3 m a1 a2 48 (vR t23) [(iV 0), (.ref a1)])
  have f35 := (F2.keep Kq23 nin0)
  have f36 := (E1.keep Kq23)
  obtain ⟨T34, h34, X34, e34, W34, st34⟩ := putFN Xh33 hx hZ hown (Wd28 hw) Via.refl Eq31 f35 f36 (Or.inr ⟨(Wd29 hw), rfl, hnm⟩) (Wd4 hw) (ty := .byte) (v' := (iV 0)) (by decide) rfl (fits_nar_byte (0 : Int32)) (g := (fr_ini4_3 m a1 a2 48 (vR t23) [(iV 0), (.ref a1)])) rfl rfl (D d2_48)
  have F37 := f35.same W34
  have N38 := Fr.snoc X34 Nh33 g1
  obtain ⟨Lh39, Xh39, Nh39⟩ := oHd 2 9 X34 N38 rfl rfl
  refine ownBy st34 ?_
  clear st34
  show oA p e below _ T34 (fr_ini4_3 m a1 a2 51 (vR t23) [])
  refine oTo T34 (fr_ini4_3 m a1 a2 54 (vR t23) [(.ref t23), (.ref a1)]) (fun t kt => ?_) ?_
  ·refine XS.aloadN Xh39.here hx rfl (D d2_51) rfl rfl ?_
   refine XS.aload Xh39.here hx rfl (D d2_52) rfl rfl ?_
   exact kt
  have f41 := ((F1.keep Kq23 nin0).other W34 (Or.inr (slot_ne (Or.inr (Wd31 hw)) (Or.inr (Wd29 hw)) (by decide) (t := (.array .byte)) (t' := .byte) (by decide) (by decide))))
  have f42 := (f36.wr W34)
  obtain ⟨T40, h40, X40, e40, W40, st40⟩ := putF Xh39 hx hZ hown (host := "") (Or.inl (Wd30 hw)) Via.refl e34 f41 f42 (Or.inr ⟨(Wd31 hw), rfl, hnm⟩) (Wd4 hw) (ty := (.array .byte)) (by decide) rfl rfl (g := (fr_ini4_3 m a1 a2 54 (vR t23) [(.ref t23), (.ref a1)])) rfl rfl (D d2_54)
  have F43 := f41.same W40
  have N44 := Fr.snoc X40 Nh39 g1
  obtain ⟨Lh45, Xh45, Nh45⟩ := oHd 2 9 X40 N44 rfl rfl
  refine ownBy st40 ?_
  clear st40
  show oA p e below _ T40 (fr_ini4_3 m a1 a2 57 (vR t23) [])
  have f46 := ((((Keep.refl h0 [a1]).trans Kq23 all0).wr W34 (Or.inl (List.mem_of_getElem? (i := 0) rfl))).wr W40 (Or.inl (List.mem_of_getElem? (i := 0) rfl)))
  have f47 := (f42.wr W40)
  have f48 := (F37.other W40 (Or.inr (slot_ne (Or.inr (Wd29 hw)) (Or.inr (Wd31 hw)) (by decide) (t := .byte) (t' := (.array .byte)) (by decide) (by decide))))
  have f49 := ((Aq23.other W34 (Ne.symm ne24)).other W40 (Ne.symm ne24))
  refine ownRet Xh45 Bd.notSynchronized (v := none) (fun _ => rfl) ?_ (oLe rfl) (oLe rfl) (fun fs hr => Xh45.returnOut hx Bd.returns (D d2_57) hr)
  show (Q_ini4_3 Z a1 a2 kC c0 c1 c2 c9 G1 h0 n0) (none) T40.heap _
  rw [e40]
  exact ⟨rfl, Nh45, f46, f47, t23, kb23, _, _, _, z27, F43, f48, f49, Or.inl ⟨rfl, rfl, rfl, hn23_0, hn23_1, hn23_2⟩⟩
 ·skip
  have N50 := Fr.app N0 Nq23
  obtain ⟨Lh51, Xh51, Nh51⟩ := oHd 2 9 X23 N50 rfl rfl
  refine ownBy st23 ?_
  clear st23
  show oA p e below _ T23 (fr_ini4_3 m a1 a2 39 .unset [(.ref t23)])
  refine oTo T23 (fr_ini4_3 m a1 a2 45 (vR t23) [(iV 3), (.ref t23), (.ref a1)]) (fun t kt => ?_) ?_
  ·refine XS.astore Xh51.here hx rfl (D d2_39) rfl rfl (l' := #[vR a1, vR a2, vI 0, vI 3, .val .null, vR t23]) rfl ?_
   refine XS.aloadN Xh51.here hx rfl (D d2_41) rfl rfl ?_
   refine XS.aload Xh51.here hx rfl (D d2_42) rfl rfl ?_
   refine XS.iloadN Xh51.here hx rfl (D d2_44) rfl ?_
   exact kt
  have f52 := (Nat.le_trans Z0 Kq23.1)
  obtain ⟨vv53, _, ⟨T53, L53, k53, n53⟩, -, X53, ⟨Lc53, hQ53, l53, y53, z53⟩, st53⟩ := Jvm.LawKit.callS Xh51 hx (y := yM4) hown (mvT hZ (Wd25 hw)) (mvT hZ (Wd26 hw)) (mvT hZ (Wd19 hw)) (mvT hZ (Wd27 hw)) (by decide) (backOf (W := 1) (c_cfa l Z a0 hw [] t23 kb23 (6 : Int32) _ (3 : Int32) (1 : Int32) T23.heap n0 f52 Aq23 (by decide +kernel)) hZ (Wd27 hw) (Wd19 hw) (by decide) (by decide)) (g := (fr_ini4_3 m a1 a2 45 (vR t23) [(iV 3), (.ref t23), (.ref a1)])) rfl (by rw [hml]; rfl) (argsL := [(.ref t23), (iV 3)]) (rest := [(.ref a1)]) (lenOf pd_10 rfl) rfl (by show 2 * 0 + _ ≤ _; exact Nat.le_of_eq rfl) (D d2_45) (fun _ _ => ⟨rfl, rfl, (by decide : 2 + 0 ≤ _), (by decide : 9 + 0 ≤ _)⟩)
  dsimp only [Pt.U, Pt.locs, Pt.cells, Pt.slots] at X53 l53 y53 z53 st53 hQ53
  subst l53 y53 z53
  obtain ⟨rfl, Nq53, Eq53⟩ := hQ53
  have N54 := Fr.app Nh51 Nq53
  obtain ⟨Lh55, Xh55, Nh55⟩ := oHd 2 9 X53 N54 rfl rfl
  refine ownBy st53 ?_
  clear st53
  show oA p e below _ T53 (fr_ini4_3 m a1 a2 48 (vR t23) [(iV 1), (.ref a1)])
  have f57 := (F2.keep Kq23 nin0)
  have f58 := (E1.keep Kq23)
  obtain ⟨T56, h56, X56, e56, W56, st56⟩ := putFN Xh55 hx hZ hown (Wd28 hw) Via.refl Eq53 f57 f58 (Or.inr ⟨(Wd29 hw), rfl, hnm⟩) (Wd4 hw) (ty := .byte) (v' := (iV 1)) (by decide) rfl (fits_nar_byte (1 : Int32)) (g := (fr_ini4_3 m a1 a2 48 (vR t23) [(iV 1), (.ref a1)])) rfl rfl (D d2_48)
  have F59 := f57.same W56
  have N60 := Fr.snoc X56 Nh55 g1
  obtain ⟨Lh61, Xh61, Nh61⟩ := oHd 2 9 X56 N60 rfl rfl
  refine ownBy st56 ?_
  clear st56
  show oA p e below _ T56 (fr_ini4_3 m a1 a2 51 (vR t23) [])
  refine oTo T56 (fr_ini4_3 m a1 a2 54 (vR t23) [(.ref t23), (.ref a1)]) (fun t kt => ?_) ?_
  ·refine XS.aloadN Xh61.here hx rfl (D d2_51) rfl rfl ?_
   refine XS.aload Xh61.here hx rfl (D d2_52) rfl rfl ?_
   exact kt
  have f63 := ((F1.keep Kq23 nin0).other W56 (Or.inr (slot_ne (Or.inr (Wd31 hw)) (Or.inr (Wd29 hw)) (by decide) (t := (.array .byte)) (t' := .byte) (by decide) (by decide))))
  have f64 := (f58.wr W56)
  obtain ⟨T62, h62, X62, e62, W62, st62⟩ := putF Xh61 hx hZ hown (host := "") (Or.inl (Wd30 hw)) Via.refl e56 f63 f64 (Or.inr ⟨(Wd31 hw), rfl, hnm⟩) (Wd4 hw) (ty := (.array .byte)) (by decide) rfl rfl (g := (fr_ini4_3 m a1 a2 54 (vR t23) [(.ref t23), (.ref a1)])) rfl rfl (D d2_54)
  have F65 := f63.same W62
  have N66 := Fr.snoc X62 Nh61 g1
  obtain ⟨Lh67, Xh67, Nh67⟩ := oHd 2 9 X62 N66 rfl rfl
  refine ownBy st62 ?_
  clear st62
  show oA p e below _ T62 (fr_ini4_3 m a1 a2 57 (vR t23) [])
  have f68 := ((((Keep.refl h0 [a1]).trans Kq23 all0).wr W56 (Or.inl (List.mem_of_getElem? (i := 0) rfl))).wr W62 (Or.inl (List.mem_of_getElem? (i := 0) rfl)))
  have f69 := (f64.wr W62)
  have f70 := (F59.other W62 (Or.inr (slot_ne (Or.inr (Wd29 hw)) (Or.inr (Wd31 hw)) (by decide) (t := .byte) (t' := (.array .byte)) (by decide) (by decide))))
  have f71 := ((Aq23.other W56 (Ne.symm ne24)).other W62 (Ne.symm ne24))
  refine ownRet Xh67 Bd.notSynchronized (v := none) (fun _ => rfl) ?_ (oLe rfl) (oLe rfl) (fun fs hr => Xh67.returnOut hx Bd.returns (D d2_57) hr)
  show (Q_ini4_3 Z a1 a2 kC c0 c1 c2 c9 G1 h0 n0) (none) T62.heap _
  rw [e62]
  exact ⟨rfl, Nh67, f68, f69, t23, kb23, _, _, _, z27, F65, f70, f71, Or.inr ⟨rfl, rfl, rfl, hg23⟩⟩
abbrev fr_inC_3 (m : MethodId) (a1 : Addr) (a2 : Addr) (pc : Nat)  (st : List Value) : JFrame := mkF m pc #[vR a1, vR a2] st
def Q_inC_3 (Z : State) (a1 : Addr) (a2 : Addr) (kC : ClassId) (c0 : Int32) (c1 : Int32) (c2 : Int32) (c9 : Value) (G1 : Int32) (h0 : Heap) (n0 : Nat) (v : Option Value) (h : Heap) (L : List Loc) : Prop := v = none ∧ Fr n0 L ∧ Keep h0 h [a1] ∧ Exa Z h a1 "java/lang/String" ∧ ∃ (ta : Addr) (kb : ClassId) (cd z : Int32) (vs : List Value), h0.size ≤ ta ∧ Fld Z h a1 "java/lang/String" "value" "[B" (.ref ta) ∧ Fld Z h a1 "java/lang/String" "coder" "B" (.int cd) ∧ Arv Z h ta kb .byte z vs (iV 0) ∧ ((cd = (0 : Int32) ∧ z = (3 : Int32) ∧ vs = [(.int (oL c0)), (.int (oL c1)), (.int (oL c2))] ∧ ¬ ((255 : Int32) < c0) ∧ ¬ ((255 : Int32) < c1) ∧ ¬ ((255 : Int32) < c2)) ∨ (cd = (1 : Int32) ∧ z = (6 : Int32) ∧ vs = [(.int (oW c0)), (.int (oH c0)), (.int (oW c1)), (.int (oH c1)), (.int (oW c2)), (.int (oH c2))] ∧ ((255 : Int32) < c0 ∨ (255 : Int32) < c1 ∨ (255 : Int32) < c2)))
theorem ef_inC_3 (m : MethodId) (x0 : Addr) (x1 : Addr)  : entryFrame m #[(.ref x0), (.ref x1)] 2 = mkF m 0 #[vR x0, vR x1] [] := by first | (simp [entryFrame, mkF, argsToLocals, Value.category]; done) | rfl
set_option maxRecDepth 65536 in
set_option maxHeartbeats 40000000 in
theorem c_inC_3 (l : Launch) (Z : State) (a0 : Array Value) (hw : HW a0 Z) (ws : List Jvm.Cond) (a1 : Addr) (a2 : Addr) (kC : ClassId) (c0 : Int32) (c1 : Int32) (c2 : Int32) (c9 : Value) (G1 : Int32) (h0 : Heap) (n0 : Nat) (Z0 : n0 ≤ h0.size) (E1 : Exa Z h0 a1 "java/lang/String") (F1 : Fld Z h0 a1 "java/lang/String" "value" "[B" .null) (F2 : Fld Z h0 a1 "java/lang/String" "coder" "B" c9) (g1 : n0 ≤ a1) (ne1 : a1 ≠ a2) (A2 : Arv Z h0 a2 kC .char (3 : Int32) [(.int c0), (.int c1), (.int c2)] (iV 0)) (hc0 : ¬ c0 < 0 ∧ ¬ (65535 : Int32) < c0) (hc1 : ¬ c1 < 0 ∧ ¬ (65535 : Int32) < c1) (hc2 : ¬ c2 < 0 ∧ ¬ (65535 : Int32) < c2) (O2 : Sta Z Z.heap "java/lang/String" "COMPACT_STRINGS" "Z" (.int G1)) (P5 : ¬ (G1 = (0 : Int32))) (SA : Sta Z Z.heap "java/lang/StringUTF16" "$assertionsDisabled" "Z" (iV 1)) (SHI : Sta Z Z.heap "java/lang/StringUTF16" "HI_BYTE_SHIFT" "I" (iV 0)) (SLO : Sta Z Z.heap "java/lang/StringUTF16" "LO_BYTE_SHIFT" "I" (iV 8)) (X00 : Old Z n0 h0) :
  MetFree l yM1 (head1 (Jvm.Cond.code yM1 jdk_42_method_3_code 2 none :: ws) ({ frames := 5, cells := 2, slots := 9, locals := 75 } : Room)) (fun a U => a = #[(.ref a1), (.ref a2)] ∧ Z.Warmed39 U.vm ∧ U.heap = h0) (fun _ _ _ _ _ => True) (fun _ U o U' => ∃ v L, o = .returned v ∧ (Q_inC_3 Z a1 a2 kC c0 c1 c2 c9 G1 h0 n0) v U'.heap L ∧ FrameEnd U o U' L ({ frames := 5, cells := 2, slots := 9, locals := 75 } : Room).cells ({ frames := 5, cells := 2, slots := 9, locals := 75 } : Room).slots) := by
 refine MetFree.of_bodySF (plainFor_of_name pn_1) hisR ?_
 intro p e s m args below meth c s₁ Bd hml0 hP hK
 obtain ⟨rfl, hZ, hHp⟩ := hP
 have hx := Bd.exec
 have D := fun {pc : Nat} {r} (h : decode _ pc = r) => hb Bd.bytes h
 have hml : c.maxLocals = 2 := hml0
 have hown : s.vm.findClass "java/lang/String" = some m.cls := findClass_of_methodNamed Bd.named
 have hnm := (name_of_methodNamed Bd.named Bd.method).1
 have X0 : Stand p l e ({ frames := 5, cells := 2, slots := 9, locals := 75 } : Room) s m #[(.ref a1), (.ref a2)] below meth c s₁ [] 0 0 := Stand.of_body Bd
 have e0 : s₁.heap = h0 := by rw [← hHp, Bd.state]; rfl
 have N0 := Fr.nil n0
 refine ownOut (P := (Q_inC_3 Z a1 a2 kC c0 c1 c2 c9 G1 h0 n0)) ?_
 refine ownBy (A := s₁.setTop (mkF m 0 #[vR a1, vR a2] [])) (fun t k => castTop (ef_inC_3 m a1 a2) k) ?_
 refine oTo s₁ (fr_inC_3 m a1 a2 4  [(.ref a2), (iV 0), (.ref a2), (.ref a1)]) (fun t kt => ?_) ?_
 ·refine XS.aloadN X0.here hx rfl (D d1_0) rfl rfl ?_
  refine XS.aloadN X0.here hx rfl (D d1_1) rfl rfl ?_
  refine XS.iconst X0.here hx rfl (D d1_2) ?_
  refine XS.aloadN X0.here hx rfl (D d1_3) rfl rfl ?_
  exact kt
 obtain ⟨cl21, Ar21, -, S21, N21, -, -⟩ := id A2
 have st21 := X0.arraylength hx (by rw [e0]; exact Ar21.1) (State.isArrayOf_alike hZ.alike Ar21.2.1) (g := (fr_inC_3 m a1 a2 4  [(.ref a2), (iV 0), (.ref a2), (.ref a1)])) rfl rfl (D d1_4)
 rw [len_of S21 N21] at st21
 refine ownBy st21 ?_
 show oA p e below _ s₁ (fr_inC_3 m a1 a2 5  [(iV 3), (iV 0), (.ref a2), (.ref a1)])
 refine oTo s₁ (fr_inC_3 m a1 a2 6  [.null, (iV 3), (iV 0), (.ref a2), (.ref a1)]) (fun t kt => ?_) ?_
 ·refine XS.aconstNull X0.here hx rfl (D d1_5) ?_
  exact kt
 obtain ⟨vv22, _, ⟨T22, L22, k22, n22⟩, -, X22, ⟨Lc22, hQ22, l22, y22, z22⟩, st22⟩ := X0.specialBack hx (y := yM0) rfl hown (mvT hZ (Wd9 hw)) (mvT hZ (Wd10 hw)) (mvT hZ (Wd12 hw)) (by decide) (backOf (W := 0) (c_ini4_3 l Z a0 hw [] a1 a2 kC c0 c1 c2 _ G1 h0 n0 Z0 E1 F1 F2 g1 ne1 A2 hc0 hc1 hc2 O2 P5 SA SHI SLO X00) hZ (Wd12 hw) (Wd5 hw) (by decide) (by decide)) (g := (fr_inC_3 m a1 a2 6  [.null, (iV 3), (iV 0), (.ref a2), (.ref a1)])) rfl (by rw [hml]; rfl) (Steps.refl _) (a := a1) (argsL := [(.ref a2), (iV 0), (iV 3), .null]) (rest := []) (lenOf pd_2 rfl) rfl (by show 2 * 0 + _ ≤ _; exact Nat.le_of_eq rfl) (D d1_6) (fun _ _ => ⟨rfl, e0, (by decide : 0 + 2 ≤ _), (by decide : 0 + 9 ≤ _)⟩)
 dsimp only [Pt.U, Pt.locs, Pt.cells, Pt.slots] at X22 l22 y22 z22 st22 hQ22
 subst l22 y22 z22
 obtain ⟨rfl, Nq22, Kq22, Eq22, t22, kb22, cd22, z22, vs22, zq22, Vq22, Cq22, Aq22, hrel22⟩ := hQ22
 have ne23 : a1 ≠ t22 := Nat.ne_of_lt (Nat.lt_of_lt_of_le E1.lt zq22)
 have ne24 : a2 ≠ t22 := Nat.ne_of_lt (Nat.lt_of_lt_of_le A2.lt zq22)
 have g25 : n0 ≤ t22 := Nat.le_trans Z0 zq22
 have z26 : h0.size ≤ t22 := Nat.le_trans (Nat.le_refl h0.size) zq22
 have N27 := Fr.app N0 Nq22
 obtain ⟨Lh28, Xh28, Nh28⟩ := oHd 2 9 X22 N27 rfl rfl
 refine ownSt st22 ?_
 clear st22
 show oA p e below _ T22 (fr_inC_3 m a1 a2 9  [])
 have f29 := ((Keep.refl h0 [a1]).trans Kq22 (allS (Or.inl (List.mem_of_getElem? (i := 0) rfl)) all0))
 have f30 := (E1.keep Kq22)
 refine ownRet Xh28 Bd.notSynchronized (v := none) (fun _ => rfl) ?_ (oLe rfl) (oLe rfl) (fun fs hr => Xh28.returnOut hx Bd.returns (D d1_9) hr)
 show (Q_inC_3 Z a1 a2 kC c0 c1 c2 c9 G1 h0 n0) (none) T22.heap _
 exact ⟨rfl, Nh28, f29, f30, t22, kb22, _, _, _, z26, Vq22, Cq22, Aq22, hrel22⟩
abbrev fr_nbf5 (m : MethodId)  (pc : Nat)  (st : List Value) : JFrame := mkF m pc #[vI 5] st
def Q_nbf5 (Z : State)  (h0 : Heap) (n0 : Nat) (v : Option Value) (h : Heap) (L : List Loc) : Prop := ∃ (ta : Addr) (kb : ClassId), v = some (.ref ta) ∧ Fr n0 L ∧ Keep h0 h [] ∧ h0.size ≤ ta ∧ Arv Z h ta kb .byte (10 : Int32) [(iV 0), (iV 0), (iV 0), (iV 0), (iV 0), (iV 0), (iV 0), (iV 0), (iV 0), (iV 0)] (iV 0)
theorem ef_nbf5 (m : MethodId) (x0 : Int32)  : entryFrame m #[(.int x0)] 1 = mkF m 0 #[vI x0] [] := by first | (simp [entryFrame, mkF, argsToLocals, Value.category]; done) | rfl
set_option maxRecDepth 65536 in
set_option maxHeartbeats 40000000 in
theorem c_nbf5 (l : Launch) (Z : State) (a0 : Array Value) (hw : HW a0 Z) (ws : List Jvm.Cond)  (h0 : Heap) (n0 : Nat) (Z0 : n0 ≤ h0.size) :
  MetFree l yM6 (head1 (Jvm.Cond.code yM6 jdk_52_method_2_code 1 (some (.array .byte)) :: ws) ({ frames := 1, cells := 1, slots := 10, locals := 12 } : Room)) (fun a U => a = #[(iV 5)] ∧ Z.Warmed39 U.vm ∧ U.heap = h0) (fun _ _ _ _ _ => True) (fun _ U o U' => ∃ v L, o = .returned v ∧ (Q_nbf5 Z  h0 n0) v U'.heap L ∧ FrameEnd U o U' L ({ frames := 1, cells := 1, slots := 10, locals := 12 } : Room).cells ({ frames := 1, cells := 1, slots := 10, locals := 12 } : Room).slots) := by
 refine MetFree.of_bodySF (plainFor_of_name pn_3) hisR ?_
 intro p e s m args below meth c s₁ Bd hml0 hP hK
 obtain ⟨rfl, hZ, hHp⟩ := hP
 have hx := Bd.exec
 have D := fun {pc : Nat} {r} (h : decode _ pc = r) => hb Bd.bytes h
 have hml : c.maxLocals = 1 := hml0
 have hown : s.vm.findClass "java/lang/StringUTF16" = some m.cls := findClass_of_methodNamed Bd.named
 have hnm := (name_of_methodNamed Bd.named Bd.method).1
 have X0 : Stand p l e ({ frames := 1, cells := 1, slots := 10, locals := 12 } : Room) s m #[(iV 5)] below meth c s₁ [] 0 0 := Stand.of_body Bd
 have e0 : s₁.heap = h0 := by rw [← hHp, Bd.state]; rfl
 have N0 := Fr.nil n0
 refine ownOut (P := (Q_nbf5 Z  h0 n0)) ?_
 refine ownBy (A := s₁.setTop (mkF m 0 #[vI 5] [])) (fun t k => castTop (ef_nbf5 m (5 : Int32)) k) ?_
 refine oTo s₁ (fr_nbf5 m  1  [(iV 5)]) (fun t kt => ?_) ?_
 ·refine XS.iloadN X0.here hx rfl (D d17_0) rfl ?_
  exact kt
 obtain ⟨vv21, _, ⟨T21, L21, k21, n21⟩, -, X21, ⟨Lc21, hQ21, l21, y21, z21⟩, st21⟩ := Jvm.LawKit.callS X0 hx (y := yM3) hown (mvT hZ (Wd81 hw)) (mvT hZ (Wd82 hw)) (mvT hZ (Wd19 hw)) (mvT hZ (Wd83 hw)) (by decide) (backOf (W := 0) (c_nbl l Z a0 hw [] (5 : Int32) (10 : Int32) h0 n0 Z0 (by decide) (by decide) (by decide +kernel)) hZ (Wd83 hw) (Wd19 hw) (by decide) (by decide)) (g := (fr_nbf5 m  1  [(iV 5)])) rfl (by rw [hml]; rfl) (argsL := [(iV 5)]) (rest := []) (lenOf pd_4 rfl) rfl (by show 2 * 0 + _ ≤ _; exact Nat.le_of_eq rfl) (D d17_1) (fun _ _ => ⟨rfl, e0, (by decide : 0 + 0 ≤ _), (by decide : 0 + 0 ≤ _)⟩)
 dsimp only [Pt.U, Pt.locs, Pt.cells, Pt.slots] at X21 l21 y21 z21 st21 hQ21
 subst l21 y21 z21
 obtain ⟨rfl, Nq21, Eq21⟩ := hQ21
 have N22 := Fr.app N0 Nq21
 obtain ⟨Lh23, Xh23, Nh23⟩ := oHd 0 0 X21 N22 rfl rfl
 refine ownBy st21 ?_
 clear st21
 show oA p e below _ T21 (fr_nbf5 m  4  [(iV 10)])
 obtain ⟨T24, h24, k24, X24, e24, E24, A24, st24⟩ := newP Xh23 hx hZ (aty := .byte) (Wd21 hw) Eq21 (g := (fr_nbf5 m  4  [(iV 10)])) rfl (D d17_4) rfl (by decide : ¬ ((10 : Int32) < (0 : Int32))) (cap := 10) (by decide) (by decide) (by decide) (by decide)
 obtain ⟨b24, g24⟩ : ∃ z, z = h0.size := ⟨_, rfl⟩
 rw [← g24] at A24 st24
 have g25 : n0 ≤ b24 := Nat.le_trans Z0 (Nat.le_of_eq g24.symm)
 have z26 : h0.size ≤ b24 := Nat.le_trans (Nat.le_refl h0.size) (Nat.le_of_eq g24.symm)
 have V27 : Arv Z h24 b24 k24 .byte (10 : Int32) [(iV 0), (iV 0), (iV 0), (iV 0), (iV 0), (iV 0), (iV 0), (iV 0), (iV 0), (iV 0)] (iV 0) := (Arv.new A24 (by decide)).pad (pad_rep [] (iV 0) 10)
 refine ownBy st24 ?_
 clear st24
 show oA p e below _ T24 (fr_nbf5 m  6  [(.ref b24)])
 have f28 := ((Keep.refl h0 []).ext E24)
 refine ownRet X24 Bd.notSynchronized (v := some (.ref b24)) (fun h => by rw [Bd.returns] at h; cases h) ?_ (oLe rfl) (oLe rfl) (fun fs hr => retOut X24 hx Bd.returns rfl (Or.inr (Or.inr (Or.inr (Or.inr ⟨rfl, rfl, rfl⟩)))) (D d17_6) hr)
 show (Q_nbf5 Z  h0 n0) (some (.ref b24)) T24.heap _
 rw [e24]
 exact ⟨b24, k24, rfl, Nh23, f28, z26, V27⟩
abbrev fr_tob5 (m : MethodId) (a2 : Addr) (pc : Nat) (x1_ x3_ x4_ : Slot) (st : List Value) : JFrame := mkF m pc #[vR a2, x1_, vI 5, x3_, x4_] st
def Q_tob5 (Z : State) (a2 : Addr) (kC : ClassId) (c0 : Int32) (c1 : Int32) (c2 : Int32) (c3 : Int32) (c4 : Int32) (h0 : Heap) (n0 : Nat) (v : Option Value) (h : Heap) (L : List Loc) : Prop := ∃ (ta : Addr) (kb : ClassId), v = some (.ref ta) ∧ Fr n0 L ∧ Keep h0 h [] ∧ h0.size ≤ ta ∧ Arv Z h ta kb .byte (10 : Int32) [(.int (oW c0)), (.int (oH c0)), (.int (oW c1)), (.int (oH c1)), (.int (oW c2)), (.int (oH c2)), (.int (oW c3)), (.int (oH c3)), (.int (oW c4)), (.int (oH c4))] (iV 0)
theorem ef_tob5 (m : MethodId) (x0 : Addr) (x1 : Int32) (x2 : Int32)  : entryFrame m #[(.ref x0), (.int x1), (.int x2)] 5 = mkF m 0 #[vR x0, vI x1, vI x2, .unset, .unset] [] := by first | (simp [entryFrame, mkF, argsToLocals, Value.category]; done) | rfl
set_option maxRecDepth 65536 in
set_option maxHeartbeats 40000000 in
theorem c_tob5 (l : Launch) (Z : State) (a0 : Array Value) (hw : HW a0 Z) (ws : List Jvm.Cond) (a2 : Addr) (kC : ClassId) (c0 : Int32) (c1 : Int32) (c2 : Int32) (c3 : Int32) (c4 : Int32) (h0 : Heap) (n0 : Nat) (Z0 : n0 ≤ h0.size) (A2 : Arv Z h0 a2 kC .char (5 : Int32) [(.int c0), (.int c1), (.int c2), (.int c3), (.int c4)] (iV 0)) (SA : Sta Z Z.heap "java/lang/StringUTF16" "$assertionsDisabled" "Z" (iV 1)) (SHI : Sta Z Z.heap "java/lang/StringUTF16" "HI_BYTE_SHIFT" "I" (iV 0)) (SLO : Sta Z Z.heap "java/lang/StringUTF16" "LO_BYTE_SHIFT" "I" (iV 8)) (X00 : Old Z n0 h0) :
  MetFree l yM7 (head1 (Jvm.Cond.code yM7 jdk_52_method_14_code 5 (some (.array .byte)) :: ws) ({ frames := 2, cells := 1, slots := 10, locals := 24 } : Room)) (fun a U => a = #[(.ref a2), (iV 0), (iV 5)] ∧ Z.Warmed39 U.vm ∧ U.heap = h0) (fun _ _ _ _ _ => True) (fun _ U o U' => ∃ v L, o = .returned v ∧ (Q_tob5 Z a2 kC c0 c1 c2 c3 c4 h0 n0) v U'.heap L ∧ FrameEnd U o U' L ({ frames := 2, cells := 1, slots := 10, locals := 24 } : Room).cells ({ frames := 2, cells := 1, slots := 10, locals := 24 } : Room).slots) := by
 refine MetFree.of_bodySF (plainFor_of_name pn_3) hisR ?_
 intro p e s m args below meth c s₁ Bd hml0 hP hK
 obtain ⟨rfl, hZ, hHp⟩ := hP
 have hx := Bd.exec
 have D := fun {pc : Nat} {r} (h : decode _ pc = r) => hb Bd.bytes h
 have hml : c.maxLocals = 5 := hml0
 have hown : s.vm.findClass "java/lang/StringUTF16" = some m.cls := findClass_of_methodNamed Bd.named
 have hnm := (name_of_methodNamed Bd.named Bd.method).1
 have X0 : Stand p l e ({ frames := 2, cells := 1, slots := 10, locals := 24 } : Room) s m #[(.ref a2), (iV 0), (iV 5)] below meth c s₁ [] 0 0 := Stand.of_body Bd
 have e0 : s₁.heap = h0 := by rw [← hHp, Bd.state]; rfl
 have N0 := Fr.nil n0
 refine ownOut (P := (Q_tob5 Z a2 kC c0 c1 c2 c3 c4 h0 n0)) ?_
 refine ownBy (A := s₁.setTop (mkF m 0 #[vR a2, vI 0, vI 5, .unset, .unset] [])) (fun t k => castTop (ef_tob5 m a2 (0 : Int32) (5 : Int32)) k) ?_
 refine oTo s₁ (fr_tob5 m a2 1 (vI 0) .unset .unset [(iV 5)]) (fun t kt => ?_) ?_
 ·refine XS.iloadN X0.here hx rfl (D d16_0) rfl ?_
  exact kt
 obtain ⟨vv21, _, ⟨T21, L21, k21, n21⟩, -, X21, ⟨Lc21, hQ21, l21, y21, z21⟩, st21⟩ := Jvm.LawKit.callS X0 hx (y := yM6) hown (mvT hZ (Wd78 hw)) (mvT hZ (Wd79 hw)) (mvT hZ (Wd19 hw)) (mvT hZ (Wd80 hw)) (by decide) (backOf (W := 0) (c_nbf5 l Z a0 hw []  h0 n0 Z0 ) hZ (Wd80 hw) (Wd19 hw) (by decide) (by decide)) (g := (fr_tob5 m a2 1 (vI 0) .unset .unset [(iV 5)])) rfl (by rw [hml]; rfl) (argsL := [(iV 5)]) (rest := []) (lenOf pd_5 rfl) rfl (by show 2 * 0 + _ ≤ _; exact Nat.le_of_eq rfl) (D d16_1) (fun _ _ => ⟨rfl, e0, (by decide : 0 + 1 ≤ _), (by decide : 0 + 10 ≤ _)⟩)
 dsimp only [Pt.U, Pt.locs, Pt.cells, Pt.slots] at X21 l21 y21 z21 st21 hQ21
 subst l21 y21 z21
 obtain ⟨t21, kb21, rfl, Nq21, Kq21, zq21, Aq21⟩ := hQ21
 have ne22 : a2 ≠ t21 := Nat.ne_of_lt (Nat.lt_of_lt_of_le A2.lt zq21)
 have g23 : n0 ≤ t21 := Nat.le_trans Z0 zq21
 have z24 : h0.size ≤ t21 := Nat.le_trans (Nat.le_refl h0.size) zq21
 have N25 := Fr.app N0 Nq21
 obtain ⟨Lh26, Xh26, Nh26⟩ := oHd 1 10 X21 N25 rfl rfl
 refine ownBy st21 ?_
 clear st21
 show oA p e below _ T21 (fr_tob5 m a2 4 (vI 0) .unset .unset [(.ref t21)])
 refine oTo T21 (fr_tob5 m a2 19 (vI 0) (vR t21) (vI 0) [(iV 0), (.ref a2), (iV 0), (.ref t21)]) (fun t kt => ?_) ?_
 ·refine XS.astoreN Xh26.here hx rfl (D d16_4) rfl rfl (l' := #[vR a2, vI 0, vI 5, vR t21, .unset]) rfl ?_
  refine XS.iconst Xh26.here hx rfl (D d16_5) ?_
  refine XS.istore Xh26.here hx rfl (D d16_6) rfl (l' := #[vR a2, vI 0, vI 5, vR t21, vI 0]) rfl ?_
  refine XS.iload Xh26.here hx rfl (D d16_8) rfl ?_
  show Steps p.tables e below (T21.setTop (fr_tob5 m a2 10 (vI 0) (vR t21) (vI 0) [(iV 0)])) t
  refine XS.iloadN Xh26.here hx rfl (D d16_10) rfl ?_
  refine XS.icmpNo Xh26.here hx rfl (D d16_11) rfl (tlt ((by decide) : (0 : Int32) < (5 : Int32))).2.1 ?_
  refine XS.aloadN Xh26.here hx rfl (D d16_14) rfl rfl ?_
  refine XS.iload Xh26.here hx rfl (D d16_15) rfl ?_
  show Steps p.tables e below (T21.setTop (fr_tob5 m a2 17 (vI 0) (vR t21) (vI 0) [(iV 0), (.ref t21)])) t
  refine XS.aloadN Xh26.here hx rfl (D d16_17) rfl rfl ?_
  refine XS.iloadN Xh26.here hx rfl (D d16_18) rfl ?_
  exact kt
 have f27 := (A2.keep Kq21 nin0)
 obtain ⟨cl28, Ar28, q28, S28, N28, H28, G28⟩ := id f27
 have hin28 : ¬ ((0 : Int32) < 0 ∨ cl28.slots.size ≤ ((0 : Int32)).toNatClampNeg) := inb_of S28 ⟨by decide, by decide⟩
 have hat28 : cl28.slots[((0 : Int32)).toNatClampNeg]? = some (.int c0) := H28.at hin28 rfl
 have st28 := Xh26.caload hx (j := (0 : Int32)) (v := (.int c0)) Ar28.1 (State.isArrayOf_alike hZ.alike Ar28.2.1) Ar28.2.2 hin28 hat28 (g := (fr_tob5 m a2 19 (vI 0) (vR t21) (vI 0) [(iV 0), (.ref a2), (iV 0), (.ref t21)])) rfl rfl (D d16_19)
 refine ownBy st28 ?_
 show oA p e below _ T21 (fr_tob5 m a2 20 (vI 0) (vR t21) (vI 0) [(.int c0), (iV 0), (.ref t21)])
 have f29 := (X00.keep Kq21 all0)
 have f30 := (Nat.le_trans Z0 Kq21.1)
 obtain ⟨vv31, _, ⟨T31, L31, k31, n31⟩, -, X31, ⟨Lc31, hQ31, l31, y31, z31⟩, st31⟩ := Jvm.LawKit.callS Xh26 hx (y := yM2) hown (mvT hZ (Wd85 hw)) (mvT hZ (Wd86 hw)) (mvT hZ (Wd19 hw)) (mvT hZ (Wd87 hw)) (by decide) (backOf (W := 0) (c_put l Z a0 hw [] t21 kb21 (10 : Int32) [(iV 0), (iV 0), (iV 0), (iV 0), (iV 0), (iV 0), (iV 0), (iV 0), (iV 0), (iV 0)] (0 : Int32) c0 0 T21.heap n0 f30 Aq21 g23 ⟨by decide +kernel, by decide +kernel⟩ ⟨by decide +kernel, by decide +kernel⟩ (by decide +kernel) (by decide +kernel) (oLe rfl) SA SHI SLO f29) hZ (Wd87 hw) (Wd19 hw) (by decide) (by decide)) (g := (fr_tob5 m a2 20 (vI 0) (vR t21) (vI 0) [(.int c0), (iV 0), (.ref t21)])) rfl (by rw [hml]; rfl) (argsL := [(.ref t21), (iV 0), (.int c0)]) (rest := []) (lenOf pd_6 rfl) rfl (by show 2 * 0 + _ ≤ _; exact Nat.le_of_eq rfl) (D d16_20) (fun _ _ => ⟨rfl, rfl, (by decide : 1 + 0 ≤ _), (by decide : 10 + 0 ≤ _)⟩)
 dsimp only [Pt.U, Pt.locs, Pt.cells, Pt.slots] at X31 l31 y31 z31 st31 hQ31
 subst l31 y31 z31
 obtain ⟨rfl, Nq31, Kq31, Ap31⟩ := hQ31
 have Aq31 : Arv Z T31.heap t21 kb21 .byte (10 : Int32) [(.int (oW c0)), (.int (oH c0)), (iV 0), (iV 0), (iV 0), (iV 0), (iV 0), (iV 0), (iV 0), (iV 0)] (iV 0) := Ap31
 have N32 := Fr.app Nh26 Nq31
 obtain ⟨Lh33, Xh33, Nh33⟩ := oHd 1 10 X31 N32 rfl rfl
 refine ownBy st31 ?_
 clear st31
 show oA p e below _ T31 (fr_tob5 m a2 23 (vI 0) (vR t21) (vI 0) [])
 refine oTo T31 (fr_tob5 m a2 19 (vI 1) (vR t21) (vI 1) [(iV 1), (.ref a2), (iV 1), (.ref t21)]) (fun t kt => ?_) ?_
 ·refine XS.iinc Xh33.here hx rfl (D d16_23) rfl (l' := #[vR a2, vI 1, vI 5, vR t21, vI 0]) rfl ?_
  refine XS.iinc Xh33.here hx rfl (D d16_26) rfl (l' := #[vR a2, vI 1, vI 5, vR t21, vI 1]) rfl ?_
  refine XS.goto Xh33.here hx rfl (pc0 := 29) (pc' := 8) rfl (D d16_29) (by decide) (by decide) ?_
  refine XS.iload Xh33.here hx rfl (D d16_8) rfl ?_
  show Steps p.tables e below (T31.setTop (fr_tob5 m a2 10 (vI 1) (vR t21) (vI 1) [(iV 1)])) t
  refine XS.iloadN Xh33.here hx rfl (D d16_10) rfl ?_
  refine XS.icmpNo Xh33.here hx rfl (D d16_11) rfl (tlt ((by decide) : (1 : Int32) < (5 : Int32))).2.1 ?_
  refine XS.aloadN Xh33.here hx rfl (D d16_14) rfl rfl ?_
  refine XS.iload Xh33.here hx rfl (D d16_15) rfl ?_
  show Steps p.tables e below (T31.setTop (fr_tob5 m a2 17 (vI 1) (vR t21) (vI 1) [(iV 1), (.ref t21)])) t
  refine XS.aloadN Xh33.here hx rfl (D d16_17) rfl rfl ?_
  refine XS.iloadN Xh33.here hx rfl (D d16_18) rfl ?_
  exact kt
 have f34 := (f27.keep Kq31 (ninS ne22 nin0))
 obtain ⟨cl35, Ar35, q35, S35, N35, H35, G35⟩ := id f34
 have hin35 : ¬ ((1 : Int32) < 0 ∨ cl35.slots.size ≤ ((1 : Int32)).toNatClampNeg) := inb_of S35 ⟨by decide, by decide⟩
 have hat35 : cl35.slots[((1 : Int32)).toNatClampNeg]? = some (.int c1) := H35.at hin35 rfl
 have st35 := Xh33.caload hx (j := (1 : Int32)) (v := (.int c1)) Ar35.1 (State.isArrayOf_alike hZ.alike Ar35.2.1) Ar35.2.2 hin35 hat35 (g := (fr_tob5 m a2 19 (vI 1) (vR t21) (vI 1) [(iV 1), (.ref a2), (iV 1), (.ref t21)])) rfl rfl (D d16_19)
 refine ownBy st35 ?_
 show oA p e below _ T31 (fr_tob5 m a2 20 (vI 1) (vR t21) (vI 1) [(.int c1), (iV 1), (.ref t21)])
 have f36 := (f29.keep Kq31 (allS g23 all0))
 have f37 := (Nat.le_trans f30 Kq31.1)
 obtain ⟨vv38, _, ⟨T38, L38, k38, n38⟩, -, X38, ⟨Lc38, hQ38, l38, y38, z38⟩, st38⟩ := Jvm.LawKit.callS Xh33 hx (y := yM2) hown (mvT hZ (Wd85 hw)) (mvT hZ (Wd86 hw)) (mvT hZ (Wd19 hw)) (mvT hZ (Wd87 hw)) (by decide) (backOf (W := 0) (c_put l Z a0 hw [] t21 kb21 (10 : Int32) [(.int (oW c0)), (.int (oH c0)), (iV 0), (iV 0), (iV 0), (iV 0), (iV 0), (iV 0), (iV 0), (iV 0)] (1 : Int32) c1 2 T31.heap n0 f37 Aq31 g23 ⟨by decide +kernel, by decide +kernel⟩ ⟨by decide +kernel, by decide +kernel⟩ (by decide +kernel) (by decide +kernel) (oLe rfl) SA SHI SLO f36) hZ (Wd87 hw) (Wd19 hw) (by decide) (by decide)) (g := (fr_tob5 m a2 20 (vI 1) (vR t21) (vI 1) [(.int c1), (iV 1), (.ref t21)])) rfl (by rw [hml]; rfl) (argsL := [(.ref t21), (iV 1), (.int c1)]) (rest := []) (lenOf pd_6 rfl) rfl (by show 2 * 0 + _ ≤ _; exact Nat.le_of_eq rfl) (D d16_20) (fun _ _ => ⟨rfl, rfl, (by decide : 1 + 0 ≤ _), (by decide : 10 + 0 ≤ _)⟩)
 dsimp only [Pt.U, Pt.locs, Pt.cells, Pt.slots] at X38 l38 y38 z38 st38 hQ38
 subst l38 y38 z38
 obtain ⟨rfl, Nq38, Kq38, Ap38⟩ := hQ38
 have Aq38 : Arv Z T38.heap t21 kb21 .byte (10 : Int32) [(.int (oW c0)), (.int (oH c0)), (.int (oW c1)), (.int (oH c1)), (iV 0), (iV 0), (iV 0), (iV 0), (iV 0), (iV 0)] (iV 0) := Ap38
 have N39 := Fr.app Nh33 Nq38
 obtain ⟨Lh40, Xh40, Nh40⟩ := oHd 1 10 X38 N39 rfl rfl
 refine ownBy st38 ?_
 clear st38
 show oA p e below _ T38 (fr_tob5 m a2 23 (vI 1) (vR t21) (vI 1) [])
 refine oTo T38 (fr_tob5 m a2 19 (vI 2) (vR t21) (vI 2) [(iV 2), (.ref a2), (iV 2), (.ref t21)]) (fun t kt => ?_) ?_
 ·refine XS.iinc Xh40.here hx rfl (D d16_23) rfl (l' := #[vR a2, vI 2, vI 5, vR t21, vI 1]) rfl ?_
  refine XS.iinc Xh40.here hx rfl (D d16_26) rfl (l' := #[vR a2, vI 2, vI 5, vR t21, vI 2]) rfl ?_
  refine XS.goto Xh40.here hx rfl (pc0 := 29) (pc' := 8) rfl (D d16_29) (by decide) (by decide) ?_
  refine XS.iload Xh40.here hx rfl (D d16_8) rfl ?_
  show Steps p.tables e below (T38.setTop (fr_tob5 m a2 10 (vI 2) (vR t21) (vI 2) [(iV 2)])) t
  refine XS.iloadN Xh40.here hx rfl (D d16_10) rfl ?_
  refine XS.icmpNo Xh40.here hx rfl (D d16_11) rfl (tlt ((by decide) : (2 : Int32) < (5 : Int32))).2.1 ?_
  refine XS.aloadN Xh40.here hx rfl (D d16_14) rfl rfl ?_
  refine XS.iload Xh40.here hx rfl (D d16_15) rfl ?_
  show Steps p.tables e below (T38.setTop (fr_tob5 m a2 17 (vI 2) (vR t21) (vI 2) [(iV 2), (.ref t21)])) t
  refine XS.aloadN Xh40.here hx rfl (D d16_17) rfl rfl ?_
  refine XS.iloadN Xh40.here hx rfl (D d16_18) rfl ?_
  exact kt
 have f41 := (f34.keep Kq38 (ninS ne22 nin0))
 obtain ⟨cl42, Ar42, q42, S42, N42, H42, G42⟩ := id f41
 have hin42 : ¬ ((2 : Int32) < 0 ∨ cl42.slots.size ≤ ((2 : Int32)).toNatClampNeg) := inb_of S42 ⟨by decide, by decide⟩
 have hat42 : cl42.slots[((2 : Int32)).toNatClampNeg]? = some (.int c2) := H42.at hin42 rfl
 have st42 := Xh40.caload hx (j := (2 : Int32)) (v := (.int c2)) Ar42.1 (State.isArrayOf_alike hZ.alike Ar42.2.1) Ar42.2.2 hin42 hat42 (g := (fr_tob5 m a2 19 (vI 2) (vR t21) (vI 2) [(iV 2), (.ref a2), (iV 2), (.ref t21)])) rfl rfl (D d16_19)
 refine ownBy st42 ?_
 show oA p e below _ T38 (fr_tob5 m a2 20 (vI 2) (vR t21) (vI 2) [(.int c2), (iV 2), (.ref t21)])
 have f43 := (f36.keep Kq38 (allS g23 all0))
 have f44 := (Nat.le_trans f37 Kq38.1)
 obtain ⟨vv45, _, ⟨T45, L45, k45, n45⟩, -, X45, ⟨Lc45, hQ45, l45, y45, z45⟩, st45⟩ := Jvm.LawKit.callS Xh40 hx (y := yM2) hown (mvT hZ (Wd85 hw)) (mvT hZ (Wd86 hw)) (mvT hZ (Wd19 hw)) (mvT hZ (Wd87 hw)) (by decide) (backOf (W := 0) (c_put l Z a0 hw [] t21 kb21 (10 : Int32) [(.int (oW c0)), (.int (oH c0)), (.int (oW c1)), (.int (oH c1)), (iV 0), (iV 0), (iV 0), (iV 0), (iV 0), (iV 0)] (2 : Int32) c2 4 T38.heap n0 f44 Aq38 g23 ⟨by decide +kernel, by decide +kernel⟩ ⟨by decide +kernel, by decide +kernel⟩ (by decide +kernel) (by decide +kernel) (oLe rfl) SA SHI SLO f43) hZ (Wd87 hw) (Wd19 hw) (by decide) (by decide)) (g := (fr_tob5 m a2 20 (vI 2) (vR t21) (vI 2) [(.int c2), (iV 2), (.ref t21)])) rfl (by rw [hml]; rfl) (argsL := [(.ref t21), (iV 2), (.int c2)]) (rest := []) (lenOf pd_6 rfl) rfl (by show 2 * 0 + _ ≤ _; exact Nat.le_of_eq rfl) (D d16_20) (fun _ _ => ⟨rfl, rfl, (by decide : 1 + 0 ≤ _), (by decide : 10 + 0 ≤ _)⟩)
 dsimp only [Pt.U, Pt.locs, Pt.cells, Pt.slots] at X45 l45 y45 z45 st45 hQ45
 subst l45 y45 z45
 obtain ⟨rfl, Nq45, Kq45, Ap45⟩ := hQ45
 have Aq45 : Arv Z T45.heap t21 kb21 .byte (10 : Int32) [(.int (oW c0)), (.int (oH c0)), (.int (oW c1)), (.int (oH c1)), (.int (oW c2)), (.int (oH c2)), (iV 0), (iV 0), (iV 0), (iV 0)] (iV 0) := Ap45
 have N46 := Fr.app Nh40 Nq45
 obtain ⟨Lh47, Xh47, Nh47⟩ := oHd 1 10 X45 N46 rfl rfl
 refine ownBy st45 ?_
 clear st45
 show oA p e below _ T45 (fr_tob5 m a2 23 (vI 2) (vR t21) (vI 2) [])
 refine oTo T45 (fr_tob5 m a2 19 (vI 3) (vR t21) (vI 3) [(iV 3), (.ref a2), (iV 3), (.ref t21)]) (fun t kt => ?_) ?_
 ·refine XS.iinc Xh47.here hx rfl (D d16_23) rfl (l' := #[vR a2, vI 3, vI 5, vR t21, vI 2]) rfl ?_
  refine XS.iinc Xh47.here hx rfl (D d16_26) rfl (l' := #[vR a2, vI 3, vI 5, vR t21, vI 3]) rfl ?_
  refine XS.goto Xh47.here hx rfl (pc0 := 29) (pc' := 8) rfl (D d16_29) (by decide) (by decide) ?_
  refine XS.iload Xh47.here hx rfl (D d16_8) rfl ?_
  show Steps p.tables e below (T45.setTop (fr_tob5 m a2 10 (vI 3) (vR t21) (vI 3) [(iV 3)])) t
  refine XS.iloadN Xh47.here hx rfl (D d16_10) rfl ?_
  refine XS.icmpNo Xh47.here hx rfl (D d16_11) rfl (tlt ((by decide) : (3 : Int32) < (5 : Int32))).2.1 ?_
  refine XS.aloadN Xh47.here hx rfl (D d16_14) rfl rfl ?_
  refine XS.iload Xh47.here hx rfl (D d16_15) rfl ?_
  show Steps p.tables e below (T45.setTop (fr_tob5 m a2 17 (vI 3) (vR t21) (vI 3) [(iV 3), (.ref t21)])) t
  refine XS.aloadN Xh47.here hx rfl (D d16_17) rfl rfl ?_
  refine XS.iloadN Xh47.here hx rfl (D d16_18) rfl ?_
  exact kt
 have f48 := (f41.keep Kq45 (ninS ne22 nin0))
 obtain ⟨cl49, Ar49, q49, S49, N49, H49, G49⟩ := id f48
 have hin49 : ¬ ((3 : Int32) < 0 ∨ cl49.slots.size ≤ ((3 : Int32)).toNatClampNeg) := inb_of S49 ⟨by decide, by decide⟩
 have hat49 : cl49.slots[((3 : Int32)).toNatClampNeg]? = some (.int c3) := H49.at hin49 rfl
 have st49 := Xh47.caload hx (j := (3 : Int32)) (v := (.int c3)) Ar49.1 (State.isArrayOf_alike hZ.alike Ar49.2.1) Ar49.2.2 hin49 hat49 (g := (fr_tob5 m a2 19 (vI 3) (vR t21) (vI 3) [(iV 3), (.ref a2), (iV 3), (.ref t21)])) rfl rfl (D d16_19)
 refine ownBy st49 ?_
 show oA p e below _ T45 (fr_tob5 m a2 20 (vI 3) (vR t21) (vI 3) [(.int c3), (iV 3), (.ref t21)])
 have f50 := (f43.keep Kq45 (allS g23 all0))
 have f51 := (Nat.le_trans f44 Kq45.1)
 obtain ⟨vv52, _, ⟨T52, L52, k52, n52⟩, -, X52, ⟨Lc52, hQ52, l52, y52, z52⟩, st52⟩ := Jvm.LawKit.callS Xh47 hx (y := yM2) hown (mvT hZ (Wd85 hw)) (mvT hZ (Wd86 hw)) (mvT hZ (Wd19 hw)) (mvT hZ (Wd87 hw)) (by decide) (backOf (W := 0) (c_put l Z a0 hw [] t21 kb21 (10 : Int32) [(.int (oW c0)), (.int (oH c0)), (.int (oW c1)), (.int (oH c1)), (.int (oW c2)), (.int (oH c2)), (iV 0), (iV 0), (iV 0), (iV 0)] (3 : Int32) c3 6 T45.heap n0 f51 Aq45 g23 ⟨by decide +kernel, by decide +kernel⟩ ⟨by decide +kernel, by decide +kernel⟩ (by decide +kernel) (by decide +kernel) (oLe rfl) SA SHI SLO f50) hZ (Wd87 hw) (Wd19 hw) (by decide) (by decide)) (g := (fr_tob5 m a2 20 (vI 3) (vR t21) (vI 3) [(.int c3), (iV 3), (.ref t21)])) rfl (by rw [hml]; rfl) (argsL := [(.ref t21), (iV 3), (.int c3)]) (rest := []) (lenOf pd_6 rfl) rfl (by show 2 * 0 + _ ≤ _; exact Nat.le_of_eq rfl) (D d16_20) (fun _ _ => ⟨rfl, rfl, (by decide : 1 + 0 ≤ _), (by decide : 10 + 0 ≤ _)⟩)
 dsimp only [Pt.U, Pt.locs, Pt.cells, Pt.slots] at X52 l52 y52 z52 st52 hQ52
 subst l52 y52 z52
 obtain ⟨rfl, Nq52, Kq52, Ap52⟩ := hQ52
 have Aq52 : Arv Z T52.heap t21 kb21 .byte (10 : Int32) [(.int (oW c0)), (.int (oH c0)), (.int (oW c1)), (.int (oH c1)), (.int (oW c2)), (.int (oH c2)), (.int (oW c3)), (.int (oH c3)), (iV 0), (iV 0)] (iV 0) := Ap52
 have N53 := Fr.app Nh47 Nq52
 obtain ⟨Lh54, Xh54, Nh54⟩ := oHd 1 10 X52 N53 rfl rfl
 refine ownBy st52 ?_
 clear st52
 show oA p e below _ T52 (fr_tob5 m a2 23 (vI 3) (vR t21) (vI 3) [])
 refine oTo T52 (fr_tob5 m a2 19 (vI 4) (vR t21) (vI 4) [(iV 4), (.ref a2), (iV 4), (.ref t21)]) (fun t kt => ?_) ?_
 ·refine XS.iinc Xh54.here hx rfl (D d16_23) rfl (l' := #[vR a2, vI 4, vI 5, vR t21, vI 3]) rfl ?_
  refine XS.iinc Xh54.here hx rfl (D d16_26) rfl (l' := #[vR a2, vI 4, vI 5, vR t21, vI 4]) rfl ?_
  refine XS.goto Xh54.here hx rfl (pc0 := 29) (pc' := 8) rfl (D d16_29) (by decide) (by decide) ?_
  refine XS.iload Xh54.here hx rfl (D d16_8) rfl ?_
  show Steps p.tables e below (T52.setTop (fr_tob5 m a2 10 (vI 4) (vR t21) (vI 4) [(iV 4)])) t
  refine XS.iloadN Xh54.here hx rfl (D d16_10) rfl ?_
  refine XS.icmpNo Xh54.here hx rfl (D d16_11) rfl (tlt ((by decide) : (4 : Int32) < (5 : Int32))).2.1 ?_
  refine XS.aloadN Xh54.here hx rfl (D d16_14) rfl rfl ?_
  refine XS.iload Xh54.here hx rfl (D d16_15) rfl ?_
  show Steps p.tables e below (T52.setTop (fr_tob5 m a2 17 (vI 4) (vR t21) (vI 4) [(iV 4), (.ref t21)])) t
  refine XS.aloadN Xh54.here hx rfl (D d16_17) rfl rfl ?_
  refine XS.iloadN Xh54.here hx rfl (D d16_18) rfl ?_
  exact kt
 have f55 := (f48.keep Kq52 (ninS ne22 nin0))
 obtain ⟨cl56, Ar56, q56, S56, N56, H56, G56⟩ := id f55
 have hin56 : ¬ ((4 : Int32) < 0 ∨ cl56.slots.size ≤ ((4 : Int32)).toNatClampNeg) := inb_of S56 ⟨by decide, by decide⟩
 have hat56 : cl56.slots[((4 : Int32)).toNatClampNeg]? = some (.int c4) := H56.at hin56 rfl
 have st56 := Xh54.caload hx (j := (4 : Int32)) (v := (.int c4)) Ar56.1 (State.isArrayOf_alike hZ.alike Ar56.2.1) Ar56.2.2 hin56 hat56 (g := (fr_tob5 m a2 19 (vI 4) (vR t21) (vI 4) [(iV 4), (.ref a2), (iV 4), (.ref t21)])) rfl rfl (D d16_19)
 refine ownBy st56 ?_
 show oA p e below _ T52 (fr_tob5 m a2 20 (vI 4) (vR t21) (vI 4) [(.int c4), (iV 4), (.ref t21)])
 have f57 := (f50.keep Kq52 (allS g23 all0))
 have f58 := (Nat.le_trans f51 Kq52.1)
 obtain ⟨vv59, _, ⟨T59, L59, k59, n59⟩, -, X59, ⟨Lc59, hQ59, l59, y59, z59⟩, st59⟩ := Jvm.LawKit.callS Xh54 hx (y := yM2) hown (mvT hZ (Wd85 hw)) (mvT hZ (Wd86 hw)) (mvT hZ (Wd19 hw)) (mvT hZ (Wd87 hw)) (by decide) (backOf (W := 0) (c_put l Z a0 hw [] t21 kb21 (10 : Int32) [(.int (oW c0)), (.int (oH c0)), (.int (oW c1)), (.int (oH c1)), (.int (oW c2)), (.int (oH c2)), (.int (oW c3)), (.int (oH c3)), (iV 0), (iV 0)] (4 : Int32) c4 8 T52.heap n0 f58 Aq52 g23 ⟨by decide +kernel, by decide +kernel⟩ ⟨by decide +kernel, by decide +kernel⟩ (by decide +kernel) (by decide +kernel) (oLe rfl) SA SHI SLO f57) hZ (Wd87 hw) (Wd19 hw) (by decide) (by decide)) (g := (fr_tob5 m a2 20 (vI 4) (vR t21) (vI 4) [(.int c4), (iV 4), (.ref t21)])) rfl (by rw [hml]; rfl) (argsL := [(.ref t21), (iV 4), (.int c4)]) (rest := []) (lenOf pd_6 rfl) rfl (by show 2 * 0 + _ ≤ _; exact Nat.le_of_eq rfl) (D d16_20) (fun _ _ => ⟨rfl, rfl, (by decide : 1 + 0 ≤ _), (by decide : 10 + 0 ≤ _)⟩)
 dsimp only [Pt.U, Pt.locs, Pt.cells, Pt.slots] at X59 l59 y59 z59 st59 hQ59
 subst l59 y59 z59
 obtain ⟨rfl, Nq59, Kq59, Ap59⟩ := hQ59
 have Aq59 : Arv Z T59.heap t21 kb21 .byte (10 : Int32) [(.int (oW c0)), (.int (oH c0)), (.int (oW c1)), (.int (oH c1)), (.int (oW c2)), (.int (oH c2)), (.int (oW c3)), (.int (oH c3)), (.int (oW c4)), (.int (oH c4))] (iV 0) := Ap59
 have N60 := Fr.app Nh54 Nq59
 obtain ⟨Lh61, Xh61, Nh61⟩ := oHd 1 10 X59 N60 rfl rfl
 refine ownBy st59 ?_
 clear st59
 show oA p e below _ T59 (fr_tob5 m a2 23 (vI 4) (vR t21) (vI 4) [])
 refine oTo T59 (fr_tob5 m a2 33 (vI 5) (vR t21) (vI 5) [(.ref t21)]) (fun t kt => ?_) ?_
 ·refine XS.iinc Xh61.here hx rfl (D d16_23) rfl (l' := #[vR a2, vI 5, vI 5, vR t21, vI 4]) rfl ?_
  refine XS.iinc Xh61.here hx rfl (D d16_26) rfl (l' := #[vR a2, vI 5, vI 5, vR t21, vI 5]) rfl ?_
  refine XS.goto Xh61.here hx rfl (pc0 := 29) (pc' := 8) rfl (D d16_29) (by decide) (by decide) ?_
  refine XS.iload Xh61.here hx rfl (D d16_8) rfl ?_
  show Steps p.tables e below (T59.setTop (fr_tob5 m a2 10 (vI 5) (vR t21) (vI 5) [(iV 5)])) t
  refine XS.iloadN Xh61.here hx rfl (D d16_10) rfl ?_
  refine XS.icmpYes Xh61.here hx rfl (pc0 := 11) (pc' := 32) rfl (D d16_11) rfl (flt ((by decide) : ¬ ((5 : Int32) < (5 : Int32)))).2.1 (by decide) (by decide) ?_
  refine XS.aloadN Xh61.here hx rfl (D d16_32) rfl rfl ?_
  exact kt
 have f62 := (((((((Keep.refl h0 []).trans Kq21 all0).trans Kq31 (allS (Or.inr z24) all0)).trans Kq38 (allS (Or.inr z24) all0)).trans Kq45 (allS (Or.inr z24) all0)).trans Kq52 (allS (Or.inr z24) all0)).trans Kq59 (allS (Or.inr z24) all0))
 refine ownRet Xh61 Bd.notSynchronized (v := some (.ref t21)) (fun h => by rw [Bd.returns] at h; cases h) ?_ (oLe rfl) (oLe rfl) (fun fs hr => retOut Xh61 hx Bd.returns rfl (Or.inr (Or.inr (Or.inr (Or.inr ⟨rfl, rfl, rfl⟩)))) (D d16_33) hr)
 show (Q_tob5 Z a2 kC c0 c1 c2 c3 c4 h0 n0) (some (.ref t21)) T59.heap _
 exact ⟨t21, kb21, rfl, Nh61, f62, z24, Aq59⟩
abbrev fr_cp5_5 (m : MethodId) (a2 : Addr) (ta : Addr) (pc : Nat) (x1_ x3_ x5_ x6_ : Slot) (st : List Value) : JFrame := mkF m pc #[vR a2, x1_, vR ta, x3_, vI 5, x5_, x6_] st
def Q_cp5_5 (Z : State) (a2 : Addr) (kC : ClassId) (ta : Addr) (kb : ClassId) (c0 : Int32) (c1 : Int32) (c2 : Int32) (c3 : Int32) (c4 : Int32) (h0 : Heap) (n0 : Nat) (v : Option Value) (h : Heap) (L : List Loc) : Prop := ∃ r : Int32, v = some (.int r) ∧ Fr n0 L ∧ Keep h0 h [ta] ∧ ((r = (5 : Int32) ∧ ¬ ((255 : Int32) < c0) ∧ ¬ ((255 : Int32) < c1) ∧ ¬ ((255 : Int32) < c2) ∧ ¬ ((255 : Int32) < c3) ∧ ¬ ((255 : Int32) < c4) ∧ Arv Z h ta kb .byte (5 : Int32) [(.int (oL c0)), (.int (oL c1)), (.int (oL c2)), (.int (oL c3)), (.int (oL c4))] (iV 0)) ∨ (r = (0 : Int32) ∧ (255 : Int32) < c0) ∨ (r = (1 : Int32) ∧ (255 : Int32) < c1) ∨ (r = (2 : Int32) ∧ (255 : Int32) < c2) ∨ (r = (3 : Int32) ∧ (255 : Int32) < c3) ∨ (r = (4 : Int32) ∧ (255 : Int32) < c4))
theorem ef_cp5_5 (m : MethodId) (x0 : Addr) (x1 : Int32) (x2 : Addr) (x3 : Int32) (x4 : Int32)  : entryFrame m #[(.ref x0), (.int x1), (.ref x2), (.int x3), (.int x4)] 7 = mkF m 0 #[vR x0, vI x1, vR x2, vI x3, vI x4, .unset, .unset] [] := by first | (simp [entryFrame, mkF, argsToLocals, Value.category]; done) | rfl
set_option maxRecDepth 65536 in
set_option maxHeartbeats 40000000 in
theorem c_cp5_5 (l : Launch) (Z : State) (a0 : Array Value) (hw : HW a0 Z) (ws : List Jvm.Cond) (a2 : Addr) (kC : ClassId) (ta : Addr) (kb : ClassId) (c0 : Int32) (c1 : Int32) (c2 : Int32) (c3 : Int32) (c4 : Int32) (h0 : Heap) (n0 : Nat) (Z0 : n0 ≤ h0.size) (A2 : Arv Z h0 a2 kC .char (5 : Int32) [(.int c0), (.int c1), (.int c2), (.int c3), (.int c4)] (iV 0)) (At : Arv Z h0 ta kb .byte (5 : Int32) [(iV 0), (iV 0), (iV 0), (iV 0), (iV 0)] (iV 0)) (gt : n0 ≤ ta) (ne1 : a2 ≠ ta) :
  MetFree l yM8 (head1 (Jvm.Cond.code yM8 jdk_52_method_21_code 7 (some .int) :: ws) ({ frames := 0, cells := 0, slots := 0, locals := 0 } : Room)) (fun a U => a = #[(.ref a2), (iV 0), (.ref ta), (iV 0), (iV 5)] ∧ Z.Warmed39 U.vm ∧ U.heap = h0) (fun _ _ _ _ _ => True) (fun _ U o U' => ∃ v L, o = .returned v ∧ (Q_cp5_5 Z a2 kC ta kb c0 c1 c2 c3 c4 h0 n0) v U'.heap L ∧ FrameEnd U o U' L ({ frames := 0, cells := 0, slots := 0, locals := 0 } : Room).cells ({ frames := 0, cells := 0, slots := 0, locals := 0 } : Room).slots) := by
 refine MetFree.of_bodySF (plainFor_of_name pn_3) hisR ?_
 intro p e s m args below meth c s₁ Bd hml0 hP hK
 obtain ⟨rfl, hZ, hHp⟩ := hP
 have hx := Bd.exec
 have D := fun {pc : Nat} {r} (h : decode _ pc = r) => hb Bd.bytes h
 have hml : c.maxLocals = 7 := hml0
 have hown : s.vm.findClass "java/lang/StringUTF16" = some m.cls := findClass_of_methodNamed Bd.named
 have hnm := (name_of_methodNamed Bd.named Bd.method).1
 have X0 : Stand p l e ({ frames := 0, cells := 0, slots := 0, locals := 0 } : Room) s m #[(.ref a2), (iV 0), (.ref ta), (iV 0), (iV 5)] below meth c s₁ [] 0 0 := Stand.of_body Bd
 have e0 : s₁.heap = h0 := by rw [← hHp, Bd.state]; rfl
 have N0 := Fr.nil n0
 refine ownOut (P := (Q_cp5_5 Z a2 kC ta kb c0 c1 c2 c3 c4 h0 n0)) ?_
 refine ownBy (A := s₁.setTop (mkF m 0 #[vR a2, vI 0, vR ta, vI 0, vI 5, .unset, .unset] [])) (fun t k => castTop (ef_cp5_5 m a2 (0 : Int32) ta (0 : Int32) (5 : Int32)) k) ?_
 refine oTo s₁ (fr_cp5_5 m a2 ta 12 (vI 0) (vI 0) (vI 0) .unset [(iV 0), (.ref a2)]) (fun t kt => ?_) ?_
 ·refine XS.iconst X0.here hx rfl (D d5_0) ?_
  refine XS.istore X0.here hx rfl (D d5_1) rfl (l' := #[vR a2, vI 0, vR ta, vI 0, vI 5, vI 0, .unset]) rfl ?_
  refine XS.iload X0.here hx rfl (D d5_3) rfl ?_
  refine XS.iload X0.here hx rfl (D d5_5) rfl ?_
  show Steps p.tables e below (s₁.setTop (fr_cp5_5 m a2 ta 7 (vI 0) (vI 0) (vI 0) .unset [(iV 5), (iV 0)])) t
  refine XS.icmpNo X0.here hx rfl (D d5_7) rfl (tlt ((by decide) : (0 : Int32) < (5 : Int32))).2.1 ?_
  refine XS.aloadN X0.here hx rfl (D d5_10) rfl rfl ?_
  refine XS.iloadN X0.here hx rfl (D d5_11) rfl ?_
  exact kt
 obtain ⟨cl21, Ar21, q21, S21, N21, H21, G21⟩ := id A2
 have hin21 : ¬ ((0 : Int32) < 0 ∨ cl21.slots.size ≤ ((0 : Int32)).toNatClampNeg) := inb_of S21 ⟨by decide, by decide⟩
 have hat21 : cl21.slots[((0 : Int32)).toNatClampNeg]? = some (.int c0) := H21.at hin21 rfl
 have st21 := X0.caload hx (j := (0 : Int32)) (v := (.int c0)) (by rw [e0]; exact Ar21.1) (State.isArrayOf_alike hZ.alike Ar21.2.1) Ar21.2.2 hin21 hat21 (g := (fr_cp5_5 m a2 ta 12 (vI 0) (vI 0) (vI 0) .unset [(iV 0), (.ref a2)])) rfl rfl (D d5_12)
 refine ownBy st21 ?_
 show oA p e below _ s₁ (fr_cp5_5 m a2 ta 13 (vI 0) (vI 0) (vI 0) .unset [(.int c0)])
 refine oTo s₁ (fr_cp5_5 m a2 ta 20 (vI 0) (vI 0) (vI 0) (vI c0) [(iV 255), (.int c0)]) (fun t kt => ?_) ?_
 ·refine XS.istore X0.here hx rfl (D d5_13) rfl (l' := #[vR a2, vI 0, vR ta, vI 0, vI 5, vI 0, vI c0]) rfl ?_
  refine XS.iload X0.here hx rfl (D d5_15) rfl ?_
  refine XS.sipush X0.here hx rfl (D d5_17) ?_
  exact kt
 by_cases hc22 : (255 : Int32) < c0
 ·skip
  refine oTo s₁ (fr_cp5_5 m a2 ta 25 (vI 0) (vI 0) (vI 0) (vI c0) [(iV 0)]) (fun t kt => ?_) ?_
  ·refine XS.icmpNo X0.here hx rfl (D d5_20) rfl (tlt hc22).2.2.2 ?_
   refine XS.iload X0.here hx rfl (D d5_23) rfl ?_
   exact kt
  refine ownRet X0 Bd.notSynchronized (v := some (iV 0)) (fun h => by rw [Bd.returns] at h; cases h) ?_ (oLe rfl) (oLe rfl) (fun fs hr => retI X0 hx Bd.returns (D d5_25) hr)
  show (Q_cp5_5 Z a2 kC ta kb c0 c1 c2 c3 c4 h0 n0) (some (iV 0)) s₁.heap _
  rw [e0]
  exact ⟨_, rfl, N0, (Keep.refl h0 [ta]), Or.inr (Or.inl ⟨rfl, hc22⟩)⟩
 ·skip
  refine oTo s₁ (fr_cp5_5 m a2 ta 31 (vI 0) (vI 0) (vI 0) (vI c0) [(.int (c0.toInt8.toInt32)), (iV 0), (.ref ta)]) (fun t kt => ?_) ?_
  ·refine XS.icmpYes X0.here hx rfl (pc0 := 20) (pc' := 26) rfl (D d5_20) rfl (flt hc22).2.2.2 (by decide) (by decide) ?_
   refine XS.aloadN X0.here hx rfl (D d5_26) rfl rfl ?_
   refine XS.iloadN X0.here hx rfl (D d5_27) rfl ?_
   refine XS.iload X0.here hx rfl (D d5_28) rfl ?_
   show Steps p.tables e below (s₁.setTop (fr_cp5_5 m a2 ta 30 (vI 0) (vI 0) (vI 0) (vI c0) [(.int c0), (iV 0), (.ref ta)])) t
   refine XS.i2b X0.here hx rfl (D d5_30) rfl ?_
   exact kt
  obtain ⟨cl23, Ar23, q23, S23, N23, H23, G23⟩ := id At
  have hin23 : ¬ ((0 : Int32) < 0 ∨ cl23.slots.size ≤ ((0 : Int32)).toNatClampNeg) := inb_of S23 ⟨by decide, by decide⟩
  obtain ⟨T23, h23, X23, e23, W23, st23⟩ := stB X0 hx hZ e0 Ar23 (j := (0 : Int32)) hin23 (g := (fr_cp5_5 m a2 ta 31 (vI 0) (vI 0) (vI 0) (vI c0) [(.int (c0.toInt8.toInt32)), (iV 0), (.ref ta)])) rfl rfl (D d5_31)
  have V24 : Arv Z h23 ta kb .byte (5 : Int32) [(.int (nar .byte (c0.toInt8.toInt32))), (iV 0), (iV 0), (iV 0), (iV 0)] (iV 0) := Arv.set Ar23 q23 S23 N23 H23 G23 (fits_nar_byte _) W23 0 rfl (oLe rfl)
  rw [own_nar_byte c0] at V24
  clear hin23 G23 H23 N23 S23 q23 Ar23 cl23
  have N25 := Fr.snoc X23 N0 gt
  obtain ⟨Lh26, Xh26, Nh26⟩ := oHd 0 0 X23 N25 rfl rfl
  refine ownBy st23 ?_
  clear st23
  show oA p e below _ T23 (fr_cp5_5 m a2 ta 32 (vI 0) (vI 0) (vI 0) (vI c0) [])
  refine oTo T23 (fr_cp5_5 m a2 ta 12 (vI 1) (vI 1) (vI 1) (vI c0) [(iV 1), (.ref a2)]) (fun t kt => ?_) ?_
  ·refine XS.iinc Xh26.here hx rfl (D d5_32) rfl (l' := #[vR a2, vI 1, vR ta, vI 0, vI 5, vI 0, vI c0]) rfl ?_
   refine XS.iinc Xh26.here hx rfl (D d5_35) rfl (l' := #[vR a2, vI 1, vR ta, vI 1, vI 5, vI 0, vI c0]) rfl ?_
   refine XS.iinc Xh26.here hx rfl (D d5_38) rfl (l' := #[vR a2, vI 1, vR ta, vI 1, vI 5, vI 1, vI c0]) rfl ?_
   refine XS.goto Xh26.here hx rfl (pc0 := 41) (pc' := 3) rfl (D d5_41) (by decide) (by decide) ?_
   show Steps p.tables e below (T23.setTop (fr_cp5_5 m a2 ta 3 (vI 1) (vI 1) (vI 1) (vI c0) [])) t
   refine XS.iload Xh26.here hx rfl (D d5_3) rfl ?_
   refine XS.iload Xh26.here hx rfl (D d5_5) rfl ?_
   refine XS.icmpNo Xh26.here hx rfl (D d5_7) rfl (tlt ((by decide) : (1 : Int32) < (5 : Int32))).2.1 ?_
   refine XS.aloadN Xh26.here hx rfl (D d5_10) rfl rfl ?_
   show Steps p.tables e below (T23.setTop (fr_cp5_5 m a2 ta 11 (vI 1) (vI 1) (vI 1) (vI c0) [(.ref a2)])) t
   refine XS.iloadN Xh26.here hx rfl (D d5_11) rfl ?_
   exact kt
  have f27 := (A2.other W23 ne1)
  obtain ⟨cl28, Ar28, q28, S28, N28, H28, G28⟩ := id f27
  have hin28 : ¬ ((1 : Int32) < 0 ∨ cl28.slots.size ≤ ((1 : Int32)).toNatClampNeg) := inb_of S28 ⟨by decide, by decide⟩
  have hat28 : cl28.slots[((1 : Int32)).toNatClampNeg]? = some (.int c1) := H28.at hin28 rfl
  have st28 := Xh26.caload hx (j := (1 : Int32)) (v := (.int c1)) (by rw [e23]; exact Ar28.1) (State.isArrayOf_alike hZ.alike Ar28.2.1) Ar28.2.2 hin28 hat28 (g := (fr_cp5_5 m a2 ta 12 (vI 1) (vI 1) (vI 1) (vI c0) [(iV 1), (.ref a2)])) rfl rfl (D d5_12)
  refine ownBy st28 ?_
  show oA p e below _ T23 (fr_cp5_5 m a2 ta 13 (vI 1) (vI 1) (vI 1) (vI c0) [(.int c1)])
  refine oTo T23 (fr_cp5_5 m a2 ta 20 (vI 1) (vI 1) (vI 1) (vI c1) [(iV 255), (.int c1)]) (fun t kt => ?_) ?_
  ·refine XS.istore Xh26.here hx rfl (D d5_13) rfl (l' := #[vR a2, vI 1, vR ta, vI 1, vI 5, vI 1, vI c1]) rfl ?_
   refine XS.iload Xh26.here hx rfl (D d5_15) rfl ?_
   refine XS.sipush Xh26.here hx rfl (D d5_17) ?_
   exact kt
  by_cases hc29 : (255 : Int32) < c1
  ·skip
   refine oTo T23 (fr_cp5_5 m a2 ta 25 (vI 1) (vI 1) (vI 1) (vI c1) [(iV 1)]) (fun t kt => ?_) ?_
   ·refine XS.icmpNo Xh26.here hx rfl (D d5_20) rfl (tlt hc29).2.2.2 ?_
    refine XS.iload Xh26.here hx rfl (D d5_23) rfl ?_
    exact kt
   have f30 := ((Keep.refl h0 [ta]).wr W23 (Or.inl (List.mem_of_getElem? (i := 0) rfl)))
   refine ownRet Xh26 Bd.notSynchronized (v := some (iV 1)) (fun h => by rw [Bd.returns] at h; cases h) ?_ (oLe rfl) (oLe rfl) (fun fs hr => retI Xh26 hx Bd.returns (D d5_25) hr)
   show (Q_cp5_5 Z a2 kC ta kb c0 c1 c2 c3 c4 h0 n0) (some (iV 1)) T23.heap _
   rw [e23]
   exact ⟨_, rfl, Nh26, f30, Or.inr (Or.inr (Or.inl ⟨rfl, hc29⟩))⟩
  ·skip
   refine oTo T23 (fr_cp5_5 m a2 ta 31 (vI 1) (vI 1) (vI 1) (vI c1) [(.int (c1.toInt8.toInt32)), (iV 1), (.ref ta)]) (fun t kt => ?_) ?_
   ·refine XS.icmpYes Xh26.here hx rfl (pc0 := 20) (pc' := 26) rfl (D d5_20) rfl (flt hc29).2.2.2 (by decide) (by decide) ?_
    refine XS.aloadN Xh26.here hx rfl (D d5_26) rfl rfl ?_
    refine XS.iloadN Xh26.here hx rfl (D d5_27) rfl ?_
    refine XS.iload Xh26.here hx rfl (D d5_28) rfl ?_
    show Steps p.tables e below (T23.setTop (fr_cp5_5 m a2 ta 30 (vI 1) (vI 1) (vI 1) (vI c1) [(.int c1), (iV 1), (.ref ta)])) t
    refine XS.i2b Xh26.here hx rfl (D d5_30) rfl ?_
    exact kt
   obtain ⟨cl31, Ar31, q31, S31, N31, H31, G31⟩ := id V24
   have hin31 : ¬ ((1 : Int32) < 0 ∨ cl31.slots.size ≤ ((1 : Int32)).toNatClampNeg) := inb_of S31 ⟨by decide, by decide⟩
   obtain ⟨T31, h31, X31, e31, W31, st31⟩ := stB Xh26 hx hZ e23 Ar31 (j := (1 : Int32)) hin31 (g := (fr_cp5_5 m a2 ta 31 (vI 1) (vI 1) (vI 1) (vI c1) [(.int (c1.toInt8.toInt32)), (iV 1), (.ref ta)])) rfl rfl (D d5_31)
   have V32 : Arv Z h31 ta kb .byte (5 : Int32) [(.int (oL c0)), (.int (nar .byte (c1.toInt8.toInt32))), (iV 0), (iV 0), (iV 0)] (iV 0) := Arv.set Ar31 q31 S31 N31 H31 G31 (fits_nar_byte _) W31 1 rfl (oLe rfl)
   rw [own_nar_byte c1] at V32
   clear hin31 G31 H31 N31 S31 q31 Ar31 cl31 V24
   have N33 := Fr.snoc X31 Nh26 gt
   obtain ⟨Lh34, Xh34, Nh34⟩ := oHd 0 0 X31 N33 rfl rfl
   refine ownBy st31 ?_
   clear st31
   show oA p e below _ T31 (fr_cp5_5 m a2 ta 32 (vI 1) (vI 1) (vI 1) (vI c1) [])
   refine oTo T31 (fr_cp5_5 m a2 ta 12 (vI 2) (vI 2) (vI 2) (vI c1) [(iV 2), (.ref a2)]) (fun t kt => ?_) ?_
   ·refine XS.iinc Xh34.here hx rfl (D d5_32) rfl (l' := #[vR a2, vI 2, vR ta, vI 1, vI 5, vI 1, vI c1]) rfl ?_
    refine XS.iinc Xh34.here hx rfl (D d5_35) rfl (l' := #[vR a2, vI 2, vR ta, vI 2, vI 5, vI 1, vI c1]) rfl ?_
    refine XS.iinc Xh34.here hx rfl (D d5_38) rfl (l' := #[vR a2, vI 2, vR ta, vI 2, vI 5, vI 2, vI c1]) rfl ?_
    refine XS.goto Xh34.here hx rfl (pc0 := 41) (pc' := 3) rfl (D d5_41) (by decide) (by decide) ?_
    show Steps p.tables e below (T31.setTop (fr_cp5_5 m a2 ta 3 (vI 2) (vI 2) (vI 2) (vI c1) [])) t
    refine XS.iload Xh34.here hx rfl (D d5_3) rfl ?_
    refine XS.iload Xh34.here hx rfl (D d5_5) rfl ?_
    refine XS.icmpNo Xh34.here hx rfl (D d5_7) rfl (tlt ((by decide) : (2 : Int32) < (5 : Int32))).2.1 ?_
    refine XS.aloadN Xh34.here hx rfl (D d5_10) rfl rfl ?_
    show Steps p.tables e below (T31.setTop (fr_cp5_5 m a2 ta 11 (vI 2) (vI 2) (vI 2) (vI c1) [(.ref a2)])) t
    refine XS.iloadN Xh34.here hx rfl (D d5_11) rfl ?_
    exact kt
   have f35 := (f27.other W31 ne1)
   obtain ⟨cl36, Ar36, q36, S36, N36, H36, G36⟩ := id f35
   have hin36 : ¬ ((2 : Int32) < 0 ∨ cl36.slots.size ≤ ((2 : Int32)).toNatClampNeg) := inb_of S36 ⟨by decide, by decide⟩
   have hat36 : cl36.slots[((2 : Int32)).toNatClampNeg]? = some (.int c2) := H36.at hin36 rfl
   have st36 := Xh34.caload hx (j := (2 : Int32)) (v := (.int c2)) (by rw [e31]; exact Ar36.1) (State.isArrayOf_alike hZ.alike Ar36.2.1) Ar36.2.2 hin36 hat36 (g := (fr_cp5_5 m a2 ta 12 (vI 2) (vI 2) (vI 2) (vI c1) [(iV 2), (.ref a2)])) rfl rfl (D d5_12)
   refine ownBy st36 ?_
   show oA p e below _ T31 (fr_cp5_5 m a2 ta 13 (vI 2) (vI 2) (vI 2) (vI c1) [(.int c2)])
   refine oTo T31 (fr_cp5_5 m a2 ta 20 (vI 2) (vI 2) (vI 2) (vI c2) [(iV 255), (.int c2)]) (fun t kt => ?_) ?_
   ·refine XS.istore Xh34.here hx rfl (D d5_13) rfl (l' := #[vR a2, vI 2, vR ta, vI 2, vI 5, vI 2, vI c2]) rfl ?_
    refine XS.iload Xh34.here hx rfl (D d5_15) rfl ?_
    refine XS.sipush Xh34.here hx rfl (D d5_17) ?_
    exact kt
   by_cases hc37 : (255 : Int32) < c2
   ·skip
    refine oTo T31 (fr_cp5_5 m a2 ta 25 (vI 2) (vI 2) (vI 2) (vI c2) [(iV 2)]) (fun t kt => ?_) ?_
    ·refine XS.icmpNo Xh34.here hx rfl (D d5_20) rfl (tlt hc37).2.2.2 ?_
     refine XS.iload Xh34.here hx rfl (D d5_23) rfl ?_
     exact kt
    have f38 := (((Keep.refl h0 [ta]).wr W23 (Or.inl (List.mem_of_getElem? (i := 0) rfl))).wr W31 (Or.inl (List.mem_of_getElem? (i := 0) rfl)))
    refine ownRet Xh34 Bd.notSynchronized (v := some (iV 2)) (fun h => by rw [Bd.returns] at h; cases h) ?_ (oLe rfl) (oLe rfl) (fun fs hr => retI Xh34 hx Bd.returns (D d5_25) hr)
    show (Q_cp5_5 Z a2 kC ta kb c0 c1 c2 c3 c4 h0 n0) (some (iV 2)) T31.heap _
    rw [e31]
    exact ⟨_, rfl, Nh34, f38, Or.inr (Or.inr (Or.inr (Or.inl ⟨rfl, hc37⟩)))⟩
   ·skip
    refine oTo T31 (fr_cp5_5 m a2 ta 31 (vI 2) (vI 2) (vI 2) (vI c2) [(.int (c2.toInt8.toInt32)), (iV 2), (.ref ta)]) (fun t kt => ?_) ?_
    ·refine XS.icmpYes Xh34.here hx rfl (pc0 := 20) (pc' := 26) rfl (D d5_20) rfl (flt hc37).2.2.2 (by decide) (by decide) ?_
     refine XS.aloadN Xh34.here hx rfl (D d5_26) rfl rfl ?_
     refine XS.iloadN Xh34.here hx rfl (D d5_27) rfl ?_
     refine XS.iload Xh34.here hx rfl (D d5_28) rfl ?_
     show Steps p.tables e below (T31.setTop (fr_cp5_5 m a2 ta 30 (vI 2) (vI 2) (vI 2) (vI c2) [(.int c2), (iV 2), (.ref ta)])) t
     refine XS.i2b Xh34.here hx rfl (D d5_30) rfl ?_
     exact kt
    obtain ⟨cl39, Ar39, q39, S39, N39, H39, G39⟩ := id V32
    have hin39 : ¬ ((2 : Int32) < 0 ∨ cl39.slots.size ≤ ((2 : Int32)).toNatClampNeg) := inb_of S39 ⟨by decide, by decide⟩
    obtain ⟨T39, h39, X39, e39, W39, st39⟩ := stB Xh34 hx hZ e31 Ar39 (j := (2 : Int32)) hin39 (g := (fr_cp5_5 m a2 ta 31 (vI 2) (vI 2) (vI 2) (vI c2) [(.int (c2.toInt8.toInt32)), (iV 2), (.ref ta)])) rfl rfl (D d5_31)
    have V40 : Arv Z h39 ta kb .byte (5 : Int32) [(.int (oL c0)), (.int (oL c1)), (.int (nar .byte (c2.toInt8.toInt32))), (iV 0), (iV 0)] (iV 0) := Arv.set Ar39 q39 S39 N39 H39 G39 (fits_nar_byte _) W39 2 rfl (oLe rfl)
    rw [own_nar_byte c2] at V40
    clear hin39 G39 H39 N39 S39 q39 Ar39 cl39 V32
    have N41 := Fr.snoc X39 Nh34 gt
    obtain ⟨Lh42, Xh42, Nh42⟩ := oHd 0 0 X39 N41 rfl rfl
    refine ownBy st39 ?_
    clear st39
    show oA p e below _ T39 (fr_cp5_5 m a2 ta 32 (vI 2) (vI 2) (vI 2) (vI c2) [])
    refine oTo T39 (fr_cp5_5 m a2 ta 12 (vI 3) (vI 3) (vI 3) (vI c2) [(iV 3), (.ref a2)]) (fun t kt => ?_) ?_
    ·refine XS.iinc Xh42.here hx rfl (D d5_32) rfl (l' := #[vR a2, vI 3, vR ta, vI 2, vI 5, vI 2, vI c2]) rfl ?_
     refine XS.iinc Xh42.here hx rfl (D d5_35) rfl (l' := #[vR a2, vI 3, vR ta, vI 3, vI 5, vI 2, vI c2]) rfl ?_
     refine XS.iinc Xh42.here hx rfl (D d5_38) rfl (l' := #[vR a2, vI 3, vR ta, vI 3, vI 5, vI 3, vI c2]) rfl ?_
     refine XS.goto Xh42.here hx rfl (pc0 := 41) (pc' := 3) rfl (D d5_41) (by decide) (by decide) ?_
     show Steps p.tables e below (T39.setTop (fr_cp5_5 m a2 ta 3 (vI 3) (vI 3) (vI 3) (vI c2) [])) t
     refine XS.iload Xh42.here hx rfl (D d5_3) rfl ?_
     refine XS.iload Xh42.here hx rfl (D d5_5) rfl ?_
     refine XS.icmpNo Xh42.here hx rfl (D d5_7) rfl (tlt ((by decide) : (3 : Int32) < (5 : Int32))).2.1 ?_
     refine XS.aloadN Xh42.here hx rfl (D d5_10) rfl rfl ?_
     show Steps p.tables e below (T39.setTop (fr_cp5_5 m a2 ta 11 (vI 3) (vI 3) (vI 3) (vI c2) [(.ref a2)])) t
     refine XS.iloadN Xh42.here hx rfl (D d5_11) rfl ?_
     exact kt
    have f43 := (f35.other W39 ne1)
    obtain ⟨cl44, Ar44, q44, S44, N44, H44, G44⟩ := id f43
    have hin44 : ¬ ((3 : Int32) < 0 ∨ cl44.slots.size ≤ ((3 : Int32)).toNatClampNeg) := inb_of S44 ⟨by decide, by decide⟩
    have hat44 : cl44.slots[((3 : Int32)).toNatClampNeg]? = some (.int c3) := H44.at hin44 rfl
    have st44 := Xh42.caload hx (j := (3 : Int32)) (v := (.int c3)) (by rw [e39]; exact Ar44.1) (State.isArrayOf_alike hZ.alike Ar44.2.1) Ar44.2.2 hin44 hat44 (g := (fr_cp5_5 m a2 ta 12 (vI 3) (vI 3) (vI 3) (vI c2) [(iV 3), (.ref a2)])) rfl rfl (D d5_12)
    refine ownBy st44 ?_
    show oA p e below _ T39 (fr_cp5_5 m a2 ta 13 (vI 3) (vI 3) (vI 3) (vI c2) [(.int c3)])
    refine oTo T39 (fr_cp5_5 m a2 ta 20 (vI 3) (vI 3) (vI 3) (vI c3) [(iV 255), (.int c3)]) (fun t kt => ?_) ?_
    ·refine XS.istore Xh42.here hx rfl (D d5_13) rfl (l' := #[vR a2, vI 3, vR ta, vI 3, vI 5, vI 3, vI c3]) rfl ?_
     refine XS.iload Xh42.here hx rfl (D d5_15) rfl ?_
     refine XS.sipush Xh42.here hx rfl (D d5_17) ?_
     exact kt
    by_cases hc45 : (255 : Int32) < c3
    ·skip
     refine oTo T39 (fr_cp5_5 m a2 ta 25 (vI 3) (vI 3) (vI 3) (vI c3) [(iV 3)]) (fun t kt => ?_) ?_
     ·refine XS.icmpNo Xh42.here hx rfl (D d5_20) rfl (tlt hc45).2.2.2 ?_
      refine XS.iload Xh42.here hx rfl (D d5_23) rfl ?_
      exact kt
     have f46 := ((((Keep.refl h0 [ta]).wr W23 (Or.inl (List.mem_of_getElem? (i := 0) rfl))).wr W31 (Or.inl (List.mem_of_getElem? (i := 0) rfl))).wr W39 (Or.inl (List.mem_of_getElem? (i := 0) rfl)))
     refine ownRet Xh42 Bd.notSynchronized (v := some (iV 3)) (fun h => by rw [Bd.returns] at h; cases h) ?_ (oLe rfl) (oLe rfl) (fun fs hr => retI Xh42 hx Bd.returns (D d5_25) hr)
     show (Q_cp5_5 Z a2 kC ta kb c0 c1 c2 c3 c4 h0 n0) (some (iV 3)) T39.heap _
     rw [e39]
     exact ⟨_, rfl, Nh42, f46, Or.inr (Or.inr (Or.inr (Or.inr (Or.inl ⟨rfl, hc45⟩))))⟩
    ·skip
     refine oTo T39 (fr_cp5_5 m a2 ta 31 (vI 3) (vI 3) (vI 3) (vI c3) [(.int (c3.toInt8.toInt32)), (iV 3), (.ref ta)]) (fun t kt => ?_) ?_
     ·refine XS.icmpYes Xh42.here hx rfl (pc0 := 20) (pc' := 26) rfl (D d5_20) rfl (flt hc45).2.2.2 (by decide) (by decide) ?_
      refine XS.aloadN Xh42.here hx rfl (D d5_26) rfl rfl ?_
      refine XS.iloadN Xh42.here hx rfl (D d5_27) rfl ?_
      refine XS.iload Xh42.here hx rfl (D d5_28) rfl ?_
      show Steps p.tables e below (T39.setTop (fr_cp5_5 m a2 ta 30 (vI 3) (vI 3) (vI 3) (vI c3) [(.int c3), (iV 3), (.ref ta)])) t
      refine XS.i2b Xh42.here hx rfl (D d5_30) rfl ?_
      exact kt
     obtain ⟨cl47, Ar47, q47, S47, N47, H47, G47⟩ := id V40
     have hin47 : ¬ ((3 : Int32) < 0 ∨ cl47.slots.size ≤ ((3 : Int32)).toNatClampNeg) := inb_of S47 ⟨by decide, by decide⟩
     obtain ⟨T47, h47, X47, e47, W47, st47⟩ := stB Xh42 hx hZ e39 Ar47 (j := (3 : Int32)) hin47 (g := (fr_cp5_5 m a2 ta 31 (vI 3) (vI 3) (vI 3) (vI c3) [(.int (c3.toInt8.toInt32)), (iV 3), (.ref ta)])) rfl rfl (D d5_31)
     have V48 : Arv Z h47 ta kb .byte (5 : Int32) [(.int (oL c0)), (.int (oL c1)), (.int (oL c2)), (.int (nar .byte (c3.toInt8.toInt32))), (iV 0)] (iV 0) := Arv.set Ar47 q47 S47 N47 H47 G47 (fits_nar_byte _) W47 3 rfl (oLe rfl)
     rw [own_nar_byte c3] at V48
     clear hin47 G47 H47 N47 S47 q47 Ar47 cl47 V40
     have N49 := Fr.snoc X47 Nh42 gt
     obtain ⟨Lh50, Xh50, Nh50⟩ := oHd 0 0 X47 N49 rfl rfl
     refine ownBy st47 ?_
     clear st47
     show oA p e below _ T47 (fr_cp5_5 m a2 ta 32 (vI 3) (vI 3) (vI 3) (vI c3) [])
     refine oTo T47 (fr_cp5_5 m a2 ta 12 (vI 4) (vI 4) (vI 4) (vI c3) [(iV 4), (.ref a2)]) (fun t kt => ?_) ?_
     ·refine XS.iinc Xh50.here hx rfl (D d5_32) rfl (l' := #[vR a2, vI 4, vR ta, vI 3, vI 5, vI 3, vI c3]) rfl ?_
      refine XS.iinc Xh50.here hx rfl (D d5_35) rfl (l' := #[vR a2, vI 4, vR ta, vI 4, vI 5, vI 3, vI c3]) rfl ?_
      refine XS.iinc Xh50.here hx rfl (D d5_38) rfl (l' := #[vR a2, vI 4, vR ta, vI 4, vI 5, vI 4, vI c3]) rfl ?_
      refine XS.goto Xh50.here hx rfl (pc0 := 41) (pc' := 3) rfl (D d5_41) (by decide) (by decide) ?_
      show Steps p.tables e below (T47.setTop (fr_cp5_5 m a2 ta 3 (vI 4) (vI 4) (vI 4) (vI c3) [])) t
      refine XS.iload Xh50.here hx rfl (D d5_3) rfl ?_
      refine XS.iload Xh50.here hx rfl (D d5_5) rfl ?_
      refine XS.icmpNo Xh50.here hx rfl (D d5_7) rfl (tlt ((by decide) : (4 : Int32) < (5 : Int32))).2.1 ?_
      refine XS.aloadN Xh50.here hx rfl (D d5_10) rfl rfl ?_
      show Steps p.tables e below (T47.setTop (fr_cp5_5 m a2 ta 11 (vI 4) (vI 4) (vI 4) (vI c3) [(.ref a2)])) t
      refine XS.iloadN Xh50.here hx rfl (D d5_11) rfl ?_
      exact kt
     have f51 := (f43.other W47 ne1)
     obtain ⟨cl52, Ar52, q52, S52, N52, H52, G52⟩ := id f51
     have hin52 : ¬ ((4 : Int32) < 0 ∨ cl52.slots.size ≤ ((4 : Int32)).toNatClampNeg) := inb_of S52 ⟨by decide, by decide⟩
     have hat52 : cl52.slots[((4 : Int32)).toNatClampNeg]? = some (.int c4) := H52.at hin52 rfl
     have st52 := Xh50.caload hx (j := (4 : Int32)) (v := (.int c4)) (by rw [e47]; exact Ar52.1) (State.isArrayOf_alike hZ.alike Ar52.2.1) Ar52.2.2 hin52 hat52 (g := (fr_cp5_5 m a2 ta 12 (vI 4) (vI 4) (vI 4) (vI c3) [(iV 4), (.ref a2)])) rfl rfl (D d5_12)
     refine ownBy st52 ?_
     show oA p e below _ T47 (fr_cp5_5 m a2 ta 13 (vI 4) (vI 4) (vI 4) (vI c3) [(.int c4)])
     refine oTo T47 (fr_cp5_5 m a2 ta 20 (vI 4) (vI 4) (vI 4) (vI c4) [(iV 255), (.int c4)]) (fun t kt => ?_) ?_
     ·refine XS.istore Xh50.here hx rfl (D d5_13) rfl (l' := #[vR a2, vI 4, vR ta, vI 4, vI 5, vI 4, vI c4]) rfl ?_
      refine XS.iload Xh50.here hx rfl (D d5_15) rfl ?_
      refine XS.sipush Xh50.here hx rfl (D d5_17) ?_
      exact kt
     by_cases hc53 : (255 : Int32) < c4
     ·skip
      refine oTo T47 (fr_cp5_5 m a2 ta 25 (vI 4) (vI 4) (vI 4) (vI c4) [(iV 4)]) (fun t kt => ?_) ?_
      ·refine XS.icmpNo Xh50.here hx rfl (D d5_20) rfl (tlt hc53).2.2.2 ?_
       refine XS.iload Xh50.here hx rfl (D d5_23) rfl ?_
       exact kt
      have f54 := (((((Keep.refl h0 [ta]).wr W23 (Or.inl (List.mem_of_getElem? (i := 0) rfl))).wr W31 (Or.inl (List.mem_of_getElem? (i := 0) rfl))).wr W39 (Or.inl (List.mem_of_getElem? (i := 0) rfl))).wr W47 (Or.inl (List.mem_of_getElem? (i := 0) rfl)))
      refine ownRet Xh50 Bd.notSynchronized (v := some (iV 4)) (fun h => by rw [Bd.returns] at h; cases h) ?_ (oLe rfl) (oLe rfl) (fun fs hr => retI Xh50 hx Bd.returns (D d5_25) hr)
      show (Q_cp5_5 Z a2 kC ta kb c0 c1 c2 c3 c4 h0 n0) (some (iV 4)) T47.heap _
      rw [e47]
      exact ⟨_, rfl, Nh50, f54, Or.inr (Or.inr (Or.inr (Or.inr (Or.inr (⟨rfl, hc53⟩)))))⟩
     ·skip
      refine oTo T47 (fr_cp5_5 m a2 ta 31 (vI 4) (vI 4) (vI 4) (vI c4) [(.int (c4.toInt8.toInt32)), (iV 4), (.ref ta)]) (fun t kt => ?_) ?_
      ·refine XS.icmpYes Xh50.here hx rfl (pc0 := 20) (pc' := 26) rfl (D d5_20) rfl (flt hc53).2.2.2 (by decide) (by decide) ?_
       refine XS.aloadN Xh50.here hx rfl (D d5_26) rfl rfl ?_
       refine XS.iloadN Xh50.here hx rfl (D d5_27) rfl ?_
       refine XS.iload Xh50.here hx rfl (D d5_28) rfl ?_
       show Steps p.tables e below (T47.setTop (fr_cp5_5 m a2 ta 30 (vI 4) (vI 4) (vI 4) (vI c4) [(.int c4), (iV 4), (.ref ta)])) t
       refine XS.i2b Xh50.here hx rfl (D d5_30) rfl ?_
       exact kt
      obtain ⟨cl55, Ar55, q55, S55, N55, H55, G55⟩ := id V48
      have hin55 : ¬ ((4 : Int32) < 0 ∨ cl55.slots.size ≤ ((4 : Int32)).toNatClampNeg) := inb_of S55 ⟨by decide, by decide⟩
      obtain ⟨T55, h55, X55, e55, W55, st55⟩ := stB Xh50 hx hZ e47 Ar55 (j := (4 : Int32)) hin55 (g := (fr_cp5_5 m a2 ta 31 (vI 4) (vI 4) (vI 4) (vI c4) [(.int (c4.toInt8.toInt32)), (iV 4), (.ref ta)])) rfl rfl (D d5_31)
      have V56 : Arv Z h55 ta kb .byte (5 : Int32) [(.int (oL c0)), (.int (oL c1)), (.int (oL c2)), (.int (oL c3)), (.int (nar .byte (c4.toInt8.toInt32)))] (iV 0) := Arv.set Ar55 q55 S55 N55 H55 G55 (fits_nar_byte _) W55 4 rfl (oLe rfl)
      rw [own_nar_byte c4] at V56
      clear hin55 G55 H55 N55 S55 q55 Ar55 cl55 V48
      have N57 := Fr.snoc X55 Nh50 gt
      obtain ⟨Lh58, Xh58, Nh58⟩ := oHd 0 0 X55 N57 rfl rfl
      refine ownBy st55 ?_
      clear st55
      show oA p e below _ T55 (fr_cp5_5 m a2 ta 32 (vI 4) (vI 4) (vI 4) (vI c4) [])
      refine oTo T55 (fr_cp5_5 m a2 ta 46 (vI 5) (vI 5) (vI 5) (vI c4) [(iV 5)]) (fun t kt => ?_) ?_
      ·refine XS.iinc Xh58.here hx rfl (D d5_32) rfl (l' := #[vR a2, vI 5, vR ta, vI 4, vI 5, vI 4, vI c4]) rfl ?_
       refine XS.iinc Xh58.here hx rfl (D d5_35) rfl (l' := #[vR a2, vI 5, vR ta, vI 5, vI 5, vI 4, vI c4]) rfl ?_
       refine XS.iinc Xh58.here hx rfl (D d5_38) rfl (l' := #[vR a2, vI 5, vR ta, vI 5, vI 5, vI 5, vI c4]) rfl ?_
       refine XS.goto Xh58.here hx rfl (pc0 := 41) (pc' := 3) rfl (D d5_41) (by decide) (by decide) ?_
       show Steps p.tables e below (T55.setTop (fr_cp5_5 m a2 ta 3 (vI 5) (vI 5) (vI 5) (vI c4) [])) t
       refine XS.iload Xh58.here hx rfl (D d5_3) rfl ?_
       refine XS.iload Xh58.here hx rfl (D d5_5) rfl ?_
       refine XS.icmpYes Xh58.here hx rfl (pc0 := 7) (pc' := 44) rfl (D d5_7) rfl (flt ((by decide) : ¬ ((5 : Int32) < (5 : Int32)))).2.1 (by decide) (by decide) ?_
       refine XS.iload Xh58.here hx rfl (D d5_44) rfl ?_
       exact kt
      have f59 := ((((((Keep.refl h0 [ta]).wr W23 (Or.inl (List.mem_of_getElem? (i := 0) rfl))).wr W31 (Or.inl (List.mem_of_getElem? (i := 0) rfl))).wr W39 (Or.inl (List.mem_of_getElem? (i := 0) rfl))).wr W47 (Or.inl (List.mem_of_getElem? (i := 0) rfl))).wr W55 (Or.inl (List.mem_of_getElem? (i := 0) rfl)))
      refine ownRet Xh58 Bd.notSynchronized (v := some (iV 5)) (fun h => by rw [Bd.returns] at h; cases h) ?_ (oLe rfl) (oLe rfl) (fun fs hr => retI Xh58 hx Bd.returns (D d5_46) hr)
      show (Q_cp5_5 Z a2 kC ta kb c0 c1 c2 c3 c4 h0 n0) (some (iV 5)) T55.heap _
      rw [e55]
      exact ⟨_, rfl, Nh58, f59, Or.inl ⟨rfl, hc22, hc29, hc37, hc45, hc53, V56⟩⟩
abbrev fr_cp3_5 (m : MethodId) (a2 : Addr) (pc : Nat) (x3_ x4_ x5_ : Slot) (st : List Value) : JFrame := mkF m pc #[vR a2, vI 0, vI 5, x3_, x4_, x5_] st
def Q_cp3_5 (Z : State) (a2 : Addr) (kC : ClassId) (c0 : Int32) (c1 : Int32) (c2 : Int32) (c3 : Int32) (c4 : Int32) (h0 : Heap) (n0 : Nat) (v : Option Value) (h : Heap) (L : List Loc) : Prop := ∃ (ta : Addr) (kb : ClassId), v = some (.ref ta) ∧ Fr n0 L ∧ Keep h0 h [] ∧ h0.size ≤ ta ∧ ((¬ ((255 : Int32) < c0) ∧ ¬ ((255 : Int32) < c1) ∧ ¬ ((255 : Int32) < c2) ∧ ¬ ((255 : Int32) < c3) ∧ ¬ ((255 : Int32) < c4) ∧ Arv Z h ta kb .byte (5 : Int32) [(.int (oL c0)), (.int (oL c1)), (.int (oL c2)), (.int (oL c3)), (.int (oL c4))] (iV 0)) ∨ (((255 : Int32) < c0 ∨ (255 : Int32) < c1 ∨ (255 : Int32) < c2 ∨ (255 : Int32) < c3 ∨ (255 : Int32) < c4) ∧ Arv Z h ta kb .byte (10 : Int32) [(.int (oW c0)), (.int (oH c0)), (.int (oW c1)), (.int (oH c1)), (.int (oW c2)), (.int (oH c2)), (.int (oW c3)), (.int (oH c3)), (.int (oW c4)), (.int (oH c4))] (iV 0)))
theorem ef_cp3_5 (m : MethodId) (x0 : Addr) (x1 : Int32) (x2 : Int32)  : entryFrame m #[(.ref x0), (.int x1), (.int x2)] 6 = mkF m 0 #[vR x0, vI x1, vI x2, .unset, .unset, .unset] [] := by first | (simp [entryFrame, mkF, argsToLocals, Value.category]; done) | rfl
set_option maxRecDepth 65536 in
set_option maxHeartbeats 40000000 in
theorem c_cp3_5 (l : Launch) (Z : State) (a0 : Array Value) (hw : HW a0 Z) (ws : List Jvm.Cond) (a2 : Addr) (kC : ClassId) (c0 : Int32) (c1 : Int32) (c2 : Int32) (c3 : Int32) (c4 : Int32) (h0 : Heap) (n0 : Nat) (Z0 : n0 ≤ h0.size) (A2 : Arv Z h0 a2 kC .char (5 : Int32) [(.int c0), (.int c1), (.int c2), (.int c3), (.int c4)] (iV 0)) (hc0 : ¬ c0 < 0 ∧ ¬ (65535 : Int32) < c0) (hc1 : ¬ c1 < 0 ∧ ¬ (65535 : Int32) < c1) (hc2 : ¬ c2 < 0 ∧ ¬ (65535 : Int32) < c2) (hc3 : ¬ c3 < 0 ∧ ¬ (65535 : Int32) < c3) (hc4 : ¬ c4 < 0 ∧ ¬ (65535 : Int32) < c4) (SA : Sta Z Z.heap "java/lang/StringUTF16" "$assertionsDisabled" "Z" (iV 1)) (SHI : Sta Z Z.heap "java/lang/StringUTF16" "HI_BYTE_SHIFT" "I" (iV 0)) (SLO : Sta Z Z.heap "java/lang/StringUTF16" "LO_BYTE_SHIFT" "I" (iV 8)) (X00 : Old Z n0 h0) :
  MetFree l yM9 (head1 (Jvm.Cond.code yM9 jdk_52_method_16_code 6 (some (.array .byte)) :: ws) ({ frames := 3, cells := 2, slots := 15, locals := 40 } : Room)) (fun a U => a = #[(.ref a2), (iV 0), (iV 5)] ∧ Z.Warmed39 U.vm ∧ U.heap = h0) (fun _ _ _ _ _ => True) (fun _ U o U' => ∃ v L, o = .returned v ∧ (Q_cp3_5 Z a2 kC c0 c1 c2 c3 c4 h0 n0) v U'.heap L ∧ FrameEnd U o U' L ({ frames := 3, cells := 2, slots := 15, locals := 40 } : Room).cells ({ frames := 3, cells := 2, slots := 15, locals := 40 } : Room).slots) := by
 refine MetFree.of_bodySF (plainFor_of_name pn_3) hisR ?_
 intro p e s m args below meth c s₁ Bd hml0 hP hK
 obtain ⟨rfl, hZ, hHp⟩ := hP
 have hx := Bd.exec
 have D := fun {pc : Nat} {r} (h : decode _ pc = r) => hb Bd.bytes h
 have hml : c.maxLocals = 6 := hml0
 have hown : s.vm.findClass "java/lang/StringUTF16" = some m.cls := findClass_of_methodNamed Bd.named
 have hnm := (name_of_methodNamed Bd.named Bd.method).1
 have X0 : Stand p l e ({ frames := 3, cells := 2, slots := 15, locals := 40 } : Room) s m #[(.ref a2), (iV 0), (iV 5)] below meth c s₁ [] 0 0 := Stand.of_body Bd
 have e0 : s₁.heap = h0 := by rw [← hHp, Bd.state]; rfl
 have N0 := Fr.nil n0
 refine ownOut (P := (Q_cp3_5 Z a2 kC c0 c1 c2 c3 c4 h0 n0)) ?_
 refine ownBy (A := s₁.setTop (mkF m 0 #[vR a2, vI 0, vI 5, .unset, .unset, .unset] [])) (fun t k => castTop (ef_cp3_5 m a2 (0 : Int32) (5 : Int32)) k) ?_
 refine oTo s₁ (fr_cp3_5 m a2 1 .unset .unset .unset [(iV 5)]) (fun t kt => ?_) ?_
 ·refine XS.iloadN X0.here hx rfl (D d4_0) rfl ?_
  exact kt
 obtain ⟨T21, h21, k21, X21, e21, E21, A21, st21⟩ := newP X0 hx hZ (aty := .byte) (Wd21 hw) e0 (g := (fr_cp3_5 m a2 1 .unset .unset .unset [(iV 5)])) rfl (D d4_1) rfl (by decide : ¬ ((5 : Int32) < (0 : Int32))) (cap := 5) (by decide) (by decide) (by decide) (by decide)
 obtain ⟨b21, g21⟩ : ∃ z, z = h0.size := ⟨_, rfl⟩
 rw [← g21] at A21 st21
 have ne22 : a2 ≠ b21 := Nat.ne_of_lt (Nat.lt_of_lt_of_le A2.lt (Nat.le_of_eq g21.symm))
 have g23 : n0 ≤ b21 := Nat.le_trans Z0 (Nat.le_of_eq g21.symm)
 have z24 : h0.size ≤ b21 := Nat.le_trans (Nat.le_refl h0.size) (Nat.le_of_eq g21.symm)
 have V25 : Arv Z h21 b21 k21 .byte (5 : Int32) [(iV 0), (iV 0), (iV 0), (iV 0), (iV 0)] (iV 0) := (Arv.new A21 (by decide)).pad (pad_rep [] (iV 0) 5)
 refine ownBy st21 ?_
 clear st21
 show oA p e below _ T21 (fr_cp3_5 m a2 3 .unset .unset .unset [(.ref b21)])
 refine oTo T21 (fr_cp3_5 m a2 9 (vR b21) .unset .unset [(iV 5), (iV 0), (.ref b21), (iV 0), (.ref a2)]) (fun t kt => ?_) ?_
 ·refine XS.astoreN X21.here hx rfl (D d4_3) rfl rfl (l' := #[vR a2, vI 0, vI 5, vR b21, .unset, .unset]) rfl ?_
  refine XS.aloadN X21.here hx rfl (D d4_4) rfl rfl ?_
  refine XS.iloadN X21.here hx rfl (D d4_5) rfl ?_
  refine XS.aloadN X21.here hx rfl (D d4_6) rfl rfl ?_
  show Steps p.tables e below (T21.setTop (fr_cp3_5 m a2 7 (vR b21) .unset .unset [(.ref b21), (iV 0), (.ref a2)])) t
  refine XS.iconst X21.here hx rfl (D d4_7) ?_
  refine XS.iloadN X21.here hx rfl (D d4_8) rfl ?_
  exact kt
 have f26 := (A2.ext E21)
 have f27 := (Nat.le_trans Z0 E21.1)
 obtain ⟨vv28, _, ⟨T28, L28, k28, n28⟩, -, X28, ⟨Lc28, hQ28, l28, y28, z28⟩, st28⟩ := Jvm.LawKit.callS X21 hx (y := yM8) hown (mvT hZ (Wd22 hw)) (mvT hZ (Wd23 hw)) (mvT hZ (Wd19 hw)) (mvT hZ (Wd24 hw)) (by decide) (backOf (W := 0) (c_cp5_5 l Z a0 hw [] a2 kC b21 k21 c0 c1 c2 c3 c4 h21 n0 f27 f26 V25 g23 ne22) hZ (Wd24 hw) (Wd19 hw) (by decide) (by decide)) (g := (fr_cp3_5 m a2 9 (vR b21) .unset .unset [(iV 5), (iV 0), (.ref b21), (iV 0), (.ref a2)])) rfl (by rw [hml]; rfl) (argsL := [(.ref a2), (iV 0), (.ref b21), (iV 0), (iV 5)]) (rest := []) (lenOf pd_7 rfl) rfl (by show 2 * 0 + _ ≤ _; exact Nat.le_of_eq rfl) (D d4_9) (fun _ _ => ⟨rfl, e21, (by decide : 1 + 0 ≤ _), (by decide : 5 + 0 ≤ _)⟩)
 dsimp only [Pt.U, Pt.locs, Pt.cells, Pt.slots] at X28 l28 y28 z28 st28 hQ28
 subst l28 y28 z28
 obtain ⟨r28, rfl, Nq28, Kq28, hB28⟩ := hQ28
 rcases hB28 with ⟨rfl, hn28_0, hn28_1, hn28_2, hn28_3, hn28_4, Aq28⟩ | hF
 ·skip
  have N29 := Fr.app N0 Nq28
  obtain ⟨Lh30, Xh30, Nh30⟩ := oHd 1 5 X28 N29 rfl rfl
  refine ownBy st28 ?_
  clear st28
  show oA p e below _ T28 (fr_cp3_5 m a2 12 (vR b21) .unset .unset [(iV 5)])
  refine oTo T28 (fr_cp3_5 m a2 58 (vR b21) (vI 5) .unset [(.ref b21)]) (fun t kt => ?_) ?_
  ·refine XS.istore Xh30.here hx rfl (D d4_12) rfl (l' := #[vR a2, vI 0, vI 5, vR b21, vI 5, .unset]) rfl ?_
   refine XS.iload Xh30.here hx rfl (D d4_14) rfl ?_
   refine XS.iloadN Xh30.here hx rfl (D d4_16) rfl ?_
   refine XS.icmpYes Xh30.here hx rfl (pc0 := 17) (pc' := 57) rfl (D d4_17) rfl (teq ((by decide) : (5 : Int32) = (5 : Int32))).1 (by decide) (by decide) ?_
   show Steps p.tables e below (T28.setTop (fr_cp3_5 m a2 57 (vR b21) (vI 5) .unset [])) t
   refine XS.aloadN Xh30.here hx rfl (D d4_57) rfl rfl ?_
   exact kt
  have f31 := (((Keep.refl h0 []).ext E21).trans Kq28 (allS (Or.inr z24) all0))
  refine ownRet Xh30 Bd.notSynchronized (v := some (.ref b21)) (fun h => by rw [Bd.returns] at h; cases h) ?_ (oLe rfl) (oLe rfl) (fun fs hr => retOut Xh30 hx Bd.returns rfl (Or.inr (Or.inr (Or.inr (Or.inr ⟨rfl, rfl, rfl⟩)))) (D d4_58) hr)
  show (Q_cp3_5 Z a2 kC c0 c1 c2 c3 c4 h0 n0) (some (.ref b21)) T28.heap _
  exact ⟨b21, k21, rfl, Nh30, f31, z24, Or.inl ⟨hn28_0, hn28_1, hn28_2, hn28_3, hn28_4, Aq28⟩⟩
 ·skip
  have N32 := Fr.app N0 Nq28
  obtain ⟨Lh33, Xh33, Nh33⟩ := oHd 1 5 X28 N32 rfl rfl
  refine ownBy st28 ?_
  clear st28
  show oA p e below _ T28 (fr_cp3_5 m a2 12 (vR b21) .unset .unset [(.int r28)])
  have hr : ¬ (r28 = (5 : Int32)) := by
   rcases hF with ⟨rfl, -⟩ | ⟨rfl, -⟩ | ⟨rfl, -⟩ | ⟨rfl, -⟩ | ⟨rfl, -⟩ <;> decide
  refine oTo T28 (fr_cp3_5 m a2 23 (vR b21) (vI r28) .unset [(iV 5), (iV 0), (.ref a2)]) (fun t kt => ?_) ?_
  ·refine XS.istore Xh33.here hx rfl (D d4_12) rfl (l' := #[vR a2, vI 0, vI 5, vR b21, vI r28, .unset]) rfl ?_
   refine XS.iload Xh33.here hx rfl (D d4_14) rfl ?_
   refine XS.iloadN Xh33.here hx rfl (D d4_16) rfl ?_
   refine XS.icmpNo Xh33.here hx rfl (D d4_17) rfl (feq hr).1 ?_
   show Steps p.tables e below (T28.setTop (fr_cp3_5 m a2 20 (vR b21) (vI r28) .unset [])) t
   refine XS.aloadN Xh33.here hx rfl (D d4_20) rfl rfl ?_
   refine XS.iloadN Xh33.here hx rfl (D d4_21) rfl ?_
   refine XS.iloadN Xh33.here hx rfl (D d4_22) rfl ?_
   exact kt
  have f34 := (f26.keep Kq28 (ninS ne22 nin0))
  have f35 := ((X00.ext E21).keep Kq28 (allS g23 all0))
  have f36 := (Nat.le_trans f27 Kq28.1)
  obtain ⟨vv37, _, ⟨T37, L37, k37, n37⟩, -, X37, ⟨Lc37, hQ37, l37, y37, z37⟩, st37⟩ := Jvm.LawKit.callS Xh33 hx (y := yM7) hown (mvT hZ (Wd75 hw)) (mvT hZ (Wd76 hw)) (mvT hZ (Wd19 hw)) (mvT hZ (Wd77 hw)) (by decide) (backOf (W := 0) (c_tob5 l Z a0 hw [] a2 kC c0 c1 c2 c3 c4 T28.heap n0 f36 f34 SA SHI SLO f35) hZ (Wd77 hw) (Wd19 hw) (by decide) (by decide)) (g := (fr_cp3_5 m a2 23 (vR b21) (vI r28) .unset [(iV 5), (iV 0), (.ref a2)])) rfl (by rw [hml]; rfl) (argsL := [(.ref a2), (iV 0), (iV 5)]) (rest := []) (lenOf pd_8 rfl) rfl (by show 2 * 0 + _ ≤ _; exact Nat.le_of_eq rfl) (D d4_23) (fun _ _ => ⟨rfl, rfl, (by decide : 1 + 1 ≤ _), (by decide : 5 + 10 ≤ _)⟩)
  dsimp only [Pt.U, Pt.locs, Pt.cells, Pt.slots] at X37 l37 y37 z37 st37 hQ37
  subst l37 y37 z37
  obtain ⟨t37, kb37, rfl, Nq37, Kq37, zq37, Aq37⟩ := hQ37
  have ne38 : a2 ≠ t37 := Nat.ne_of_lt (Nat.lt_of_lt_of_le f34.lt zq37)
  have g39 : n0 ≤ t37 := Nat.le_trans f36 zq37
  have f41 := (Nat.le_trans (Nat.le_trans (Nat.le_refl h0.size) E21.1) Kq28.1)
  have z40 : h0.size ≤ t37 := Nat.le_trans f41 zq37
  have N42 := Fr.app Nh33 Nq37
  obtain ⟨Lh43, Xh43, Nh43⟩ := oHd 2 15 X37 N42 rfl rfl
  refine ownBy st37 ?_
  clear st37
  show oA p e below _ T37 (fr_cp3_5 m a2 26 (vR b21) (vI r28) .unset [(.ref t37)])
  refine oTo T37 (fr_cp3_5 m a2 32 (vR b21) (vI r28) (vR t37) [(.int r28), (.ref t37)]) (fun t kt => ?_) ?_
  ·refine XS.astore Xh43.here hx rfl (D d4_26) rfl rfl (l' := #[vR a2, vI 0, vI 5, vR b21, vI r28, vR t37]) rfl ?_
   refine XS.aload Xh43.here hx rfl (D d4_28) rfl rfl ?_
   refine XS.iload Xh43.here hx rfl (D d4_30) rfl ?_
   exact kt
  obtain ⟨cM, kM, q0, q1, k0, k1, u0, u1, hcM, hgM⟩ : ∃ (cM : Int32) (kM : Nat), (¬ (r28 <<< ((1 : Int32) &&& 31)) < 0 ∧ (r28 <<< ((1 : Int32) &&& 31)) < (10 : Int32)) ∧ (¬ ((r28 <<< ((1 : Int32) &&& 31)) + (1 : Int32)) < 0 ∧ ((r28 <<< ((1 : Int32) &&& 31)) + (1 : Int32)) < (10 : Int32)) ∧ (r28 <<< ((1 : Int32) &&& 31)).toNatClampNeg = kM ∧ ((r28 <<< ((1 : Int32) &&& 31)) + (1 : Int32)).toNatClampNeg = kM + 1 ∧ ([(.int (oW c0)), (.int (oH c0)), (.int (oW c1)), (.int (oH c1)), (.int (oW c2)), (.int (oH c2)), (.int (oW c3)), (.int (oH c3)), (.int (oW c4)), (.int (oH c4))] : List Value).getD kM (iV 0) = .int (oW cM) ∧ ([(.int (oW c0)), (.int (oH c0)), (.int (oW c1)), (.int (oH c1)), (.int (oW c2)), (.int (oH c2)), (.int (oW c3)), (.int (oH c3)), (.int (oW c4)), (.int (oH c4))] : List Value).getD (kM + 1) (iV 0) = .int (oH cM) ∧ (¬ cM < 0 ∧ ¬ (65535 : Int32) < cM) ∧ (255 : Int32) < cM := by
   rcases hF with ⟨rfl, h⟩ | ⟨rfl, h⟩ | ⟨rfl, h⟩ | ⟨rfl, h⟩ | ⟨rfl, h⟩
   ·exact ⟨c0, 0, by decide +kernel, by decide +kernel, by decide +kernel, by decide +kernel, rfl, rfl, hc0, h⟩
   ·exact ⟨c1, 2, by decide +kernel, by decide +kernel, by decide +kernel, by decide +kernel, rfl, rfl, hc1, h⟩
   ·exact ⟨c2, 4, by decide +kernel, by decide +kernel, by decide +kernel, by decide +kernel, rfl, rfl, hc2, h⟩
   ·exact ⟨c3, 6, by decide +kernel, by decide +kernel, by decide +kernel, by decide +kernel, rfl, rfl, hc3, h⟩
   ·exact ⟨c4, 8, by decide +kernel, by decide +kernel, by decide +kernel, by decide +kernel, rfl, rfl, hc4, h⟩
  have f44 := (f35.keep Kq37 all0)
  have f45 := (Nat.le_trans f36 Kq37.1)
  obtain ⟨vv46, _, ⟨T46, L46, k46, n46⟩, -, X46, ⟨Lc46, hQ46, l46, y46, z46⟩, st46⟩ := Jvm.LawKit.callS Xh43 hx (y := yM5) hown (mvT hZ (Wd91 hw)) (mvT hZ (Wd92 hw)) (mvT hZ (Wd19 hw)) (mvT hZ (Wd93 hw)) (by decide) (backOf (W := 0) (c_getc l Z a0 hw [] t37 kb37 (10 : Int32) [(.int (oW c0)), (.int (oH c0)), (.int (oW c1)), (.int (oH c1)), (.int (oW c2)), (.int (oH c2)), (.int (oW c3)), (.int (oH c3)), (.int (oW c4)), (.int (oH c4))] r28 cM kM T37.heap n0 f45 Aq37 q0 q1 k0 k1 u0 u1 hcM SA SHI SLO f44) hZ (Wd93 hw) (Wd19 hw) (by decide) (by decide)) (g := (fr_cp3_5 m a2 32 (vR b21) (vI r28) (vR t37) [(.int r28), (.ref t37)])) rfl (by rw [hml]; rfl) (argsL := [(.ref t37), (.int r28)]) (rest := []) (lenOf pd_9 rfl) rfl (by show 2 * 0 + _ ≤ _; exact Nat.le_of_eq rfl) (D d4_32) (fun _ _ => ⟨rfl, rfl, (by decide : 2 + 0 ≤ _), (by decide : 15 + 0 ≤ _)⟩)
  dsimp only [Pt.U, Pt.locs, Pt.cells, Pt.slots] at X46 l46 y46 z46 st46 hQ46
  subst l46 y46 z46
  obtain ⟨rfl, Nq46, Eq46⟩ := hQ46
  have N47 := Fr.app Nh43 Nq46
  obtain ⟨Lh48, Xh48, Nh48⟩ := oHd 2 15 X46 N47 rfl rfl
  refine ownBy st46 ?_
  clear st46
  show oA p e below _ T46 (fr_cp3_5 m a2 35 (vR b21) (vI r28) (vR t37) [(.int cM)])
  refine oTo T46 (fr_cp3_5 m a2 56 (vR b21) (vI r28) (vR t37) [(.ref t37)]) (fun t kt => ?_) ?_
  ·refine XS.sipush Xh48.here hx rfl (D d4_35) ?_
   refine XS.icmpYes Xh48.here hx rfl (pc0 := 38) (pc' := 54) rfl (D d4_38) rfl (tlt hgM).2.2.1 (by decide) (by decide) ?_
   refine XS.aload Xh48.here hx rfl (D d4_54) rfl rfl ?_
   exact kt
  have hg3 : (255 : Int32) < c0 ∨ (255 : Int32) < c1 ∨ (255 : Int32) < c2 ∨ (255 : Int32) < c3 ∨ (255 : Int32) < c4 := by
   rcases hF with ⟨-, h⟩ | ⟨-, h⟩ | ⟨-, h⟩ | ⟨-, h⟩ | ⟨-, h⟩
   ·exact Or.inl h
   ·exact Or.inr (Or.inl h)
   ·exact Or.inr (Or.inr (Or.inl h))
   ·exact Or.inr (Or.inr (Or.inr (Or.inl h)))
   ·exact Or.inr (Or.inr (Or.inr (Or.inr (h))))
  have f49 := ((((Keep.refl h0 []).ext E21).trans Kq28 (allS (Or.inr z24) all0)).trans Kq37 all0)
  refine ownRet Xh48 Bd.notSynchronized (v := some (.ref t37)) (fun h => by rw [Bd.returns] at h; cases h) ?_ (oLe rfl) (oLe rfl) (fun fs hr => retOut Xh48 hx Bd.returns rfl (Or.inr (Or.inr (Or.inr (Or.inr ⟨rfl, rfl, rfl⟩)))) (D d4_56) hr)
  show (Q_cp3_5 Z a2 kC c0 c1 c2 c3 c4 h0 n0) (some (.ref t37)) T46.heap _
  rw [Eq46]
  exact ⟨t37, kb37, rfl, Nh48, f49, z40, Or.inr ⟨hg3, Aq37⟩⟩
abbrev fr_ini4_5 (m : MethodId) (a1 : Addr) (a2 : Addr) (pc : Nat) (x5_ : Slot) (st : List Value) : JFrame := mkF m pc #[vR a1, vR a2, vI 0, vI 5, .val .null, x5_] st
def Q_ini4_5 (Z : State) (a1 : Addr) (a2 : Addr) (kC : ClassId) (c0 : Int32) (c1 : Int32) (c2 : Int32) (c3 : Int32) (c4 : Int32) (c9 : Value) (G1 : Int32) (h0 : Heap) (n0 : Nat) (v : Option Value) (h : Heap) (L : List Loc) : Prop := v = none ∧ Fr n0 L ∧ Keep h0 h [a1] ∧ Exa Z h a1 "java/lang/String" ∧ ∃ (ta : Addr) (kb : ClassId) (cd z : Int32) (vs : List Value), h0.size ≤ ta ∧ Fld Z h a1 "java/lang/String" "value" "[B" (.ref ta) ∧ Fld Z h a1 "java/lang/String" "coder" "B" (.int cd) ∧ Arv Z h ta kb .byte z vs (iV 0) ∧ ((cd = (0 : Int32) ∧ z = (5 : Int32) ∧ vs = [(.int (oL c0)), (.int (oL c1)), (.int (oL c2)), (.int (oL c3)), (.int (oL c4))] ∧ ¬ ((255 : Int32) < c0) ∧ ¬ ((255 : Int32) < c1) ∧ ¬ ((255 : Int32) < c2) ∧ ¬ ((255 : Int32) < c3) ∧ ¬ ((255 : Int32) < c4)) ∨ (cd = (1 : Int32) ∧ z = (10 : Int32) ∧ vs = [(.int (oW c0)), (.int (oH c0)), (.int (oW c1)), (.int (oH c1)), (.int (oW c2)), (.int (oH c2)), (.int (oW c3)), (.int (oH c3)), (.int (oW c4)), (.int (oH c4))] ∧ ((255 : Int32) < c0 ∨ (255 : Int32) < c1 ∨ (255 : Int32) < c2 ∨ (255 : Int32) < c3 ∨ (255 : Int32) < c4)))
theorem ef_ini4_5 (m : MethodId) (x0 : Addr) (x1 : Addr) (x2 : Int32) (x3 : Int32)  : entryFrame m #[(.ref x0), (.ref x1), (.int x2), (.int x3), .null] 6 = mkF m 0 #[vR x0, vR x1, vI x2, vI x3, .val .null, .unset] [] := by first | (simp [entryFrame, mkF, argsToLocals, Value.category]; done) | rfl
set_option maxRecDepth 65536 in
set_option maxHeartbeats 40000000 in
theorem c_ini4_5 (l : Launch) (Z : State) (a0 : Array Value) (hw : HW a0 Z) (ws : List Jvm.Cond) (a1 : Addr) (a2 : Addr) (kC : ClassId) (c0 : Int32) (c1 : Int32) (c2 : Int32) (c3 : Int32) (c4 : Int32) (c9 : Value) (G1 : Int32) (h0 : Heap) (n0 : Nat) (Z0 : n0 ≤ h0.size) (E1 : Exa Z h0 a1 "java/lang/String") (F1 : Fld Z h0 a1 "java/lang/String" "value" "[B" .null) (F2 : Fld Z h0 a1 "java/lang/String" "coder" "B" c9) (g1 : n0 ≤ a1) (ne1 : a1 ≠ a2) (A2 : Arv Z h0 a2 kC .char (5 : Int32) [(.int c0), (.int c1), (.int c2), (.int c3), (.int c4)] (iV 0)) (hc0 : ¬ c0 < 0 ∧ ¬ (65535 : Int32) < c0) (hc1 : ¬ c1 < 0 ∧ ¬ (65535 : Int32) < c1) (hc2 : ¬ c2 < 0 ∧ ¬ (65535 : Int32) < c2) (hc3 : ¬ c3 < 0 ∧ ¬ (65535 : Int32) < c3) (hc4 : ¬ c4 < 0 ∧ ¬ (65535 : Int32) < c4) (O2 : Sta Z Z.heap "java/lang/String" "COMPACT_STRINGS" "Z" (.int G1)) (P5 : ¬ (G1 = (0 : Int32))) (SA : Sta Z Z.heap "java/lang/StringUTF16" "$assertionsDisabled" "Z" (iV 1)) (SHI : Sta Z Z.heap "java/lang/StringUTF16" "HI_BYTE_SHIFT" "I" (iV 0)) (SLO : Sta Z Z.heap "java/lang/StringUTF16" "LO_BYTE_SHIFT" "I" (iV 8)) (X00 : Old Z n0 h0) :
  MetFree l yM0 (head1 (Jvm.Cond.code yM0 jdk_42_method_149_code 6 none :: ws) ({ frames := 4, cells := 2, slots := 15, locals := 58 } : Room)) (fun a U => a = #[(.ref a1), (.ref a2), (iV 0), (iV 5), .null] ∧ Z.Warmed39 U.vm ∧ U.heap = h0) (fun _ _ _ _ _ => True) (fun _ U o U' => ∃ v L, o = .returned v ∧ (Q_ini4_5 Z a1 a2 kC c0 c1 c2 c3 c4 c9 G1 h0 n0) v U'.heap L ∧ FrameEnd U o U' L ({ frames := 4, cells := 2, slots := 15, locals := 58 } : Room).cells ({ frames := 4, cells := 2, slots := 15, locals := 58 } : Room).slots) := by
 refine MetFree.of_bodySF (plainFor_of_name pn_1) hisR ?_
 intro p e s m args below meth c s₁ Bd hml0 hP hK
 obtain ⟨rfl, hZ, hHp⟩ := hP
 have hx := Bd.exec
 have D := fun {pc : Nat} {r} (h : decode _ pc = r) => hb Bd.bytes h
 have hml : c.maxLocals = 6 := hml0
 have hown : s.vm.findClass "java/lang/String" = some m.cls := findClass_of_methodNamed Bd.named
 have hnm := (name_of_methodNamed Bd.named Bd.method).1
 have X0 : Stand p l e ({ frames := 4, cells := 2, slots := 15, locals := 58 } : Room) s m #[(.ref a1), (.ref a2), (iV 0), (iV 5), .null] below meth c s₁ [] 0 0 := Stand.of_body Bd
 have e0 : s₁.heap = h0 := by rw [← hHp, Bd.state]; rfl
 have N0 := Fr.nil n0
 refine ownOut (P := (Q_ini4_5 Z a1 a2 kC c0 c1 c2 c3 c4 c9 G1 h0 n0)) ?_
 refine ownBy (A := s₁.setTop (mkF m 0 #[vR a1, vR a2, vI 0, vI 5, .val .null, .unset] [])) (fun t k => castTop (ef_ini4_5 m a1 a2 (0 : Int32) (5 : Int32)) k) ?_
 refine oTo s₁ (fr_ini4_5 m a1 a2 1 .unset [(.ref a1)]) (fun t kt => ?_) ?_
 ·refine XS.aloadN X0.here hx rfl (D d2_0) rfl rfl ?_
  exact kt
 obtain ⟨T21, X21, e21, st21⟩ := initO X0 hx hZ hown (Wd13 hw) (Wd14 hw) (Wd15 hw) e0 (g := (fr_ini4_5 m a1 a2 1 .unset [(.ref a1)])) rfl (by rw [hml]; rfl) rfl (D d2_1) (by decide) (W := 0) (by show 2 * 0 + _ ≤ _; exact Nat.le_of_eq rfl) (by decide)
 refine ownBy st21 ?_
 clear st21
 show oA p e below _ T21 (fr_ini4_5 m a1 a2 4 .unset [])
 refine oTo T21 (fr_ini4_5 m a1 a2 27 .unset []) (fun t kt => ?_) ?_
 ·refine XS.iloadN X21.here hx rfl (D d2_4) rfl ?_
  refine XS.ifYes X21.here hx rfl (pc0 := 5) (pc' := 27) rfl (D d2_5) rfl ((if0 _ _).trans (feq ((by decide) : ¬ ((5 : Int32) = (0 : Int32)))).2) (by decide) (by decide) ?_
  exact kt
 refine own_getS X21 hx hZ hown (host := "") (Or.inl (Wd16 hw)) Via.refl e21 (O2.ext X00.2) (D d2_27) (fun T22 X22 e22 => ?_)
 refine oTo T22 (fr_ini4_5 m a1 a2 36 .unset [(iV 5), (iV 0), (.ref a2)]) (fun t kt => ?_) ?_
 ·refine XS.ifNo X22.here hx rfl (D d2_30) rfl ((if0 _ _).trans (feq P5).1) ?_
  refine XS.aloadN X22.here hx rfl (D d2_33) rfl rfl ?_
  refine XS.iloadN X22.here hx rfl (D d2_34) rfl ?_
  refine XS.iloadN X22.here hx rfl (D d2_35) rfl ?_
  exact kt
 obtain ⟨vv23, _, ⟨T23, L23, k23, n23⟩, -, X23, ⟨Lc23, hQ23, l23, y23, z23⟩, st23⟩ := Jvm.LawKit.callS X22 hx (y := yM9) hown (mvT hZ (Wd17 hw)) (mvT hZ (Wd18 hw)) (mvT hZ (Wd19 hw)) (mvT hZ (Wd20 hw)) (by decide) (backOf (W := 0) (c_cp3_5 l Z a0 hw [] a2 kC c0 c1 c2 c3 c4 h0 n0 Z0 A2 hc0 hc1 hc2 hc3 hc4 SA SHI SLO X00) hZ (Wd20 hw) (Wd19 hw) (by decide) (by decide)) (g := (fr_ini4_5 m a1 a2 36 .unset [(iV 5), (iV 0), (.ref a2)])) rfl (by rw [hml]; rfl) (argsL := [(.ref a2), (iV 0), (iV 5)]) (rest := []) (lenOf pd_8 rfl) rfl (by show 2 * 0 + _ ≤ _; exact Nat.le_of_eq rfl) (D d2_36) (fun _ _ => ⟨rfl, e22, (by decide : 0 + 2 ≤ _), (by decide : 0 + 15 ≤ _)⟩)
 dsimp only [Pt.U, Pt.locs, Pt.cells, Pt.slots] at X23 l23 y23 z23 st23 hQ23
 subst l23 y23 z23
 obtain ⟨t23, kb23, rfl, Nq23, Kq23, zq23, hB23⟩ := hQ23
 have ne24 : a1 ≠ t23 := Nat.ne_of_lt (Nat.lt_of_lt_of_le E1.lt zq23)
 have ne25 : a2 ≠ t23 := Nat.ne_of_lt (Nat.lt_of_lt_of_le A2.lt zq23)
 have g26 : n0 ≤ t23 := Nat.le_trans Z0 zq23
 have z27 : h0.size ≤ t23 := Nat.le_trans (Nat.le_refl h0.size) zq23
 rcases hB23 with ⟨hn23_0, hn23_1, hn23_2, hn23_3, hn23_4, Aq23⟩ | ⟨hg23, Aq23⟩
 ·skip
  have N28 := Fr.app N0 Nq23
  obtain ⟨Lh29, Xh29, Nh29⟩ := oHd 2 15 X23 N28 rfl rfl
  refine ownBy st23 ?_
  clear st23
  show oA p e below _ T23 (fr_ini4_5 m a1 a2 39 .unset [(.ref t23)])
  refine oTo T23 (fr_ini4_5 m a1 a2 45 (vR t23) [(iV 5), (.ref t23), (.ref a1)]) (fun t kt => ?_) ?_
  ·refine XS.astore Xh29.here hx rfl (D d2_39) rfl rfl (l' := #[vR a1, vR a2, vI 0, vI 5, .val .null, vR t23]) rfl ?_
   refine XS.aloadN Xh29.here hx rfl (D d2_41) rfl rfl ?_
   refine XS.aload Xh29.here hx rfl (D d2_42) rfl rfl ?_
   refine XS.iloadN Xh29.here hx rfl (D d2_44) rfl ?_
   exact kt
  have f30 := (Nat.le_trans Z0 Kq23.1)
  obtain ⟨vv31, _, ⟨T31, L31, k31, n31⟩, -, X31, ⟨Lc31, hQ31, l31, y31, z31⟩, st31⟩ := Jvm.LawKit.callS Xh29 hx (y := yM4) hown (mvT hZ (Wd25 hw)) (mvT hZ (Wd26 hw)) (mvT hZ (Wd19 hw)) (mvT hZ (Wd27 hw)) (by decide) (backOf (W := 1) (c_cfa l Z a0 hw [] t23 kb23 (5 : Int32) _ (5 : Int32) (0 : Int32) T23.heap n0 f30 Aq23 (by decide +kernel)) hZ (Wd27 hw) (Wd19 hw) (by decide) (by decide)) (g := (fr_ini4_5 m a1 a2 45 (vR t23) [(iV 5), (.ref t23), (.ref a1)])) rfl (by rw [hml]; rfl) (argsL := [(.ref t23), (iV 5)]) (rest := [(.ref a1)]) (lenOf pd_10 rfl) rfl (by show 2 * 0 + _ ≤ _; exact Nat.le_of_eq rfl) (D d2_45) (fun _ _ => ⟨rfl, rfl, (by decide : 2 + 0 ≤ _), (by decide : 15 + 0 ≤ _)⟩)
  dsimp only [Pt.U, Pt.locs, Pt.cells, Pt.slots] at X31 l31 y31 z31 st31 hQ31
  subst l31 y31 z31
  obtain ⟨rfl, Nq31, Eq31⟩ := hQ31
  have N32 := Fr.app Nh29 Nq31
  obtain ⟨Lh33, Xh33, Nh33⟩ := oHd 2 15 X31 N32 rfl rfl
  refine ownBy st31 ?_
  clear st31
  show oA p e below _ T31 (fr_ini4_5 m a1 a2 48 (vR t23) [(iV 0), (.ref a1)])
  have f35 := (F2.keep Kq23 nin0)
  have f36 := (E1.keep Kq23)
  obtain ⟨T34, h34, X34, e34, W34, st34⟩ := putFN Xh33 hx hZ hown (Wd28 hw) Via.refl Eq31 f35 f36 (Or.inr ⟨(Wd29 hw), rfl, hnm⟩) (Wd4 hw) (ty := .byte) (v' := (iV 0)) (by decide) rfl (fits_nar_byte (0 : Int32)) (g := (fr_ini4_5 m a1 a2 48 (vR t23) [(iV 0), (.ref a1)])) rfl rfl (D d2_48)
  have F37 := f35.same W34
  have N38 := Fr.snoc X34 Nh33 g1
  obtain ⟨Lh39, Xh39, Nh39⟩ := oHd 2 15 X34 N38 rfl rfl
  refine ownBy st34 ?_
  clear st34
  show oA p e below _ T34 (fr_ini4_5 m a1 a2 51 (vR t23) [])
  refine oTo T34 (fr_ini4_5 m a1 a2 54 (vR t23) [(.ref t23), (.ref a1)]) (fun t kt => ?_) ?_
  ·refine XS.aloadN Xh39.here hx rfl (D d2_51) rfl rfl ?_
   refine XS.aload Xh39.here hx rfl (D d2_52) rfl rfl ?_
   exact kt
  have f41 := ((F1.keep Kq23 nin0).other W34 (Or.inr (slot_ne (Or.inr (Wd31 hw)) (Or.inr (Wd29 hw)) (by decide) (t := (.array .byte)) (t' := .byte) (by decide) (by decide))))
  have f42 := (f36.wr W34)
  obtain ⟨T40, h40, X40, e40, W40, st40⟩ := putF Xh39 hx hZ hown (host := "") (Or.inl (Wd30 hw)) Via.refl e34 f41 f42 (Or.inr ⟨(Wd31 hw), rfl, hnm⟩) (Wd4 hw) (ty := (.array .byte)) (by decide) rfl rfl (g := (fr_ini4_5 m a1 a2 54 (vR t23) [(.ref t23), (.ref a1)])) rfl rfl (D d2_54)
  have F43 := f41.same W40
  have N44 := Fr.snoc X40 Nh39 g1
  obtain ⟨Lh45, Xh45, Nh45⟩ := oHd 2 15 X40 N44 rfl rfl
  refine ownBy st40 ?_
  clear st40
  show oA p e below _ T40 (fr_ini4_5 m a1 a2 57 (vR t23) [])
  have f46 := ((((Keep.refl h0 [a1]).trans Kq23 all0).wr W34 (Or.inl (List.mem_of_getElem? (i := 0) rfl))).wr W40 (Or.inl (List.mem_of_getElem? (i := 0) rfl)))
  have f47 := (f42.wr W40)
  have f48 := (F37.other W40 (Or.inr (slot_ne (Or.inr (Wd29 hw)) (Or.inr (Wd31 hw)) (by decide) (t := .byte) (t' := (.array .byte)) (by decide) (by decide))))
  have f49 := ((Aq23.other W34 (Ne.symm ne24)).other W40 (Ne.symm ne24))
  refine ownRet Xh45 Bd.notSynchronized (v := none) (fun _ => rfl) ?_ (oLe rfl) (oLe rfl) (fun fs hr => Xh45.returnOut hx Bd.returns (D d2_57) hr)
  show (Q_ini4_5 Z a1 a2 kC c0 c1 c2 c3 c4 c9 G1 h0 n0) (none) T40.heap _
  rw [e40]
  exact ⟨rfl, Nh45, f46, f47, t23, kb23, _, _, _, z27, F43, f48, f49, Or.inl ⟨rfl, rfl, rfl, hn23_0, hn23_1, hn23_2, hn23_3, hn23_4⟩⟩
 ·skip
  have N50 := Fr.app N0 Nq23
  obtain ⟨Lh51, Xh51, Nh51⟩ := oHd 2 15 X23 N50 rfl rfl
  refine ownBy st23 ?_
  clear st23
  show oA p e below _ T23 (fr_ini4_5 m a1 a2 39 .unset [(.ref t23)])
  refine oTo T23 (fr_ini4_5 m a1 a2 45 (vR t23) [(iV 5), (.ref t23), (.ref a1)]) (fun t kt => ?_) ?_
  ·refine XS.astore Xh51.here hx rfl (D d2_39) rfl rfl (l' := #[vR a1, vR a2, vI 0, vI 5, .val .null, vR t23]) rfl ?_
   refine XS.aloadN Xh51.here hx rfl (D d2_41) rfl rfl ?_
   refine XS.aload Xh51.here hx rfl (D d2_42) rfl rfl ?_
   refine XS.iloadN Xh51.here hx rfl (D d2_44) rfl ?_
   exact kt
  have f52 := (Nat.le_trans Z0 Kq23.1)
  obtain ⟨vv53, _, ⟨T53, L53, k53, n53⟩, -, X53, ⟨Lc53, hQ53, l53, y53, z53⟩, st53⟩ := Jvm.LawKit.callS Xh51 hx (y := yM4) hown (mvT hZ (Wd25 hw)) (mvT hZ (Wd26 hw)) (mvT hZ (Wd19 hw)) (mvT hZ (Wd27 hw)) (by decide) (backOf (W := 1) (c_cfa l Z a0 hw [] t23 kb23 (10 : Int32) _ (5 : Int32) (1 : Int32) T23.heap n0 f52 Aq23 (by decide +kernel)) hZ (Wd27 hw) (Wd19 hw) (by decide) (by decide)) (g := (fr_ini4_5 m a1 a2 45 (vR t23) [(iV 5), (.ref t23), (.ref a1)])) rfl (by rw [hml]; rfl) (argsL := [(.ref t23), (iV 5)]) (rest := [(.ref a1)]) (lenOf pd_10 rfl) rfl (by show 2 * 0 + _ ≤ _; exact Nat.le_of_eq rfl) (D d2_45) (fun _ _ => ⟨rfl, rfl, (by decide : 2 + 0 ≤ _), (by decide : 15 + 0 ≤ _)⟩)
  dsimp only [Pt.U, Pt.locs, Pt.cells, Pt.slots] at X53 l53 y53 z53 st53 hQ53
  subst l53 y53 z53
  obtain ⟨rfl, Nq53, Eq53⟩ := hQ53
  have N54 := Fr.app Nh51 Nq53
  obtain ⟨Lh55, Xh55, Nh55⟩ := oHd 2 15 X53 N54 rfl rfl
  refine ownBy st53 ?_
  clear st53
  show oA p e below _ T53 (fr_ini4_5 m a1 a2 48 (vR t23) [(iV 1), (.ref a1)])
  have f57 := (F2.keep Kq23 nin0)
  have f58 := (E1.keep Kq23)
  obtain ⟨T56, h56, X56, e56, W56, st56⟩ := putFN Xh55 hx hZ hown (Wd28 hw) Via.refl Eq53 f57 f58 (Or.inr ⟨(Wd29 hw), rfl, hnm⟩) (Wd4 hw) (ty := .byte) (v' := (iV 1)) (by decide) rfl (fits_nar_byte (1 : Int32)) (g := (fr_ini4_5 m a1 a2 48 (vR t23) [(iV 1), (.ref a1)])) rfl rfl (D d2_48)
  have F59 := f57.same W56
  have N60 := Fr.snoc X56 Nh55 g1
  obtain ⟨Lh61, Xh61, Nh61⟩ := oHd 2 15 X56 N60 rfl rfl
  refine ownBy st56 ?_
  clear st56
  show oA p e below _ T56 (fr_ini4_5 m a1 a2 51 (vR t23) [])
  refine oTo T56 (fr_ini4_5 m a1 a2 54 (vR t23) [(.ref t23), (.ref a1)]) (fun t kt => ?_) ?_
  ·refine XS.aloadN Xh61.here hx rfl (D d2_51) rfl rfl ?_
   refine XS.aload Xh61.here hx rfl (D d2_52) rfl rfl ?_
   exact kt
  have f63 := ((F1.keep Kq23 nin0).other W56 (Or.inr (slot_ne (Or.inr (Wd31 hw)) (Or.inr (Wd29 hw)) (by decide) (t := (.array .byte)) (t' := .byte) (by decide) (by decide))))
  have f64 := (f58.wr W56)
  obtain ⟨T62, h62, X62, e62, W62, st62⟩ := putF Xh61 hx hZ hown (host := "") (Or.inl (Wd30 hw)) Via.refl e56 f63 f64 (Or.inr ⟨(Wd31 hw), rfl, hnm⟩) (Wd4 hw) (ty := (.array .byte)) (by decide) rfl rfl (g := (fr_ini4_5 m a1 a2 54 (vR t23) [(.ref t23), (.ref a1)])) rfl rfl (D d2_54)
  have F65 := f63.same W62
  have N66 := Fr.snoc X62 Nh61 g1
  obtain ⟨Lh67, Xh67, Nh67⟩ := oHd 2 15 X62 N66 rfl rfl
  refine ownBy st62 ?_
  clear st62
  show oA p e below _ T62 (fr_ini4_5 m a1 a2 57 (vR t23) [])
  have f68 := ((((Keep.refl h0 [a1]).trans Kq23 all0).wr W56 (Or.inl (List.mem_of_getElem? (i := 0) rfl))).wr W62 (Or.inl (List.mem_of_getElem? (i := 0) rfl)))
  have f69 := (f64.wr W62)
  have f70 := (F59.other W62 (Or.inr (slot_ne (Or.inr (Wd29 hw)) (Or.inr (Wd31 hw)) (by decide) (t := .byte) (t' := (.array .byte)) (by decide) (by decide))))
  have f71 := ((Aq23.other W56 (Ne.symm ne24)).other W62 (Ne.symm ne24))
  refine ownRet Xh67 Bd.notSynchronized (v := none) (fun _ => rfl) ?_ (oLe rfl) (oLe rfl) (fun fs hr => Xh67.returnOut hx Bd.returns (D d2_57) hr)
  show (Q_ini4_5 Z a1 a2 kC c0 c1 c2 c3 c4 c9 G1 h0 n0) (none) T62.heap _
  rw [e62]
  exact ⟨rfl, Nh67, f68, f69, t23, kb23, _, _, _, z27, F65, f70, f71, Or.inr ⟨rfl, rfl, rfl, hg23⟩⟩
abbrev fr_inC_5 (m : MethodId) (a1 : Addr) (a2 : Addr) (pc : Nat)  (st : List Value) : JFrame := mkF m pc #[vR a1, vR a2] st
def Q_inC_5 (Z : State) (a1 : Addr) (a2 : Addr) (kC : ClassId) (c0 : Int32) (c1 : Int32) (c2 : Int32) (c3 : Int32) (c4 : Int32) (c9 : Value) (G1 : Int32) (h0 : Heap) (n0 : Nat) (v : Option Value) (h : Heap) (L : List Loc) : Prop := v = none ∧ Fr n0 L ∧ Keep h0 h [a1] ∧ Exa Z h a1 "java/lang/String" ∧ ∃ (ta : Addr) (kb : ClassId) (cd z : Int32) (vs : List Value), h0.size ≤ ta ∧ Fld Z h a1 "java/lang/String" "value" "[B" (.ref ta) ∧ Fld Z h a1 "java/lang/String" "coder" "B" (.int cd) ∧ Arv Z h ta kb .byte z vs (iV 0) ∧ ((cd = (0 : Int32) ∧ z = (5 : Int32) ∧ vs = [(.int (oL c0)), (.int (oL c1)), (.int (oL c2)), (.int (oL c3)), (.int (oL c4))] ∧ ¬ ((255 : Int32) < c0) ∧ ¬ ((255 : Int32) < c1) ∧ ¬ ((255 : Int32) < c2) ∧ ¬ ((255 : Int32) < c3) ∧ ¬ ((255 : Int32) < c4)) ∨ (cd = (1 : Int32) ∧ z = (10 : Int32) ∧ vs = [(.int (oW c0)), (.int (oH c0)), (.int (oW c1)), (.int (oH c1)), (.int (oW c2)), (.int (oH c2)), (.int (oW c3)), (.int (oH c3)), (.int (oW c4)), (.int (oH c4))] ∧ ((255 : Int32) < c0 ∨ (255 : Int32) < c1 ∨ (255 : Int32) < c2 ∨ (255 : Int32) < c3 ∨ (255 : Int32) < c4)))
theorem ef_inC_5 (m : MethodId) (x0 : Addr) (x1 : Addr)  : entryFrame m #[(.ref x0), (.ref x1)] 2 = mkF m 0 #[vR x0, vR x1] [] := by first | (simp [entryFrame, mkF, argsToLocals, Value.category]; done) | rfl
set_option maxRecDepth 65536 in
set_option maxHeartbeats 40000000 in
theorem c_inC_5 (l : Launch) (Z : State) (a0 : Array Value) (hw : HW a0 Z) (ws : List Jvm.Cond) (a1 : Addr) (a2 : Addr) (kC : ClassId) (c0 : Int32) (c1 : Int32) (c2 : Int32) (c3 : Int32) (c4 : Int32) (c9 : Value) (G1 : Int32) (h0 : Heap) (n0 : Nat) (Z0 : n0 ≤ h0.size) (E1 : Exa Z h0 a1 "java/lang/String") (F1 : Fld Z h0 a1 "java/lang/String" "value" "[B" .null) (F2 : Fld Z h0 a1 "java/lang/String" "coder" "B" c9) (g1 : n0 ≤ a1) (ne1 : a1 ≠ a2) (A2 : Arv Z h0 a2 kC .char (5 : Int32) [(.int c0), (.int c1), (.int c2), (.int c3), (.int c4)] (iV 0)) (hc0 : ¬ c0 < 0 ∧ ¬ (65535 : Int32) < c0) (hc1 : ¬ c1 < 0 ∧ ¬ (65535 : Int32) < c1) (hc2 : ¬ c2 < 0 ∧ ¬ (65535 : Int32) < c2) (hc3 : ¬ c3 < 0 ∧ ¬ (65535 : Int32) < c3) (hc4 : ¬ c4 < 0 ∧ ¬ (65535 : Int32) < c4) (O2 : Sta Z Z.heap "java/lang/String" "COMPACT_STRINGS" "Z" (.int G1)) (P5 : ¬ (G1 = (0 : Int32))) (SA : Sta Z Z.heap "java/lang/StringUTF16" "$assertionsDisabled" "Z" (iV 1)) (SHI : Sta Z Z.heap "java/lang/StringUTF16" "HI_BYTE_SHIFT" "I" (iV 0)) (SLO : Sta Z Z.heap "java/lang/StringUTF16" "LO_BYTE_SHIFT" "I" (iV 8)) (X00 : Old Z n0 h0) :
  MetFree l yM1 (head1 (Jvm.Cond.code yM1 jdk_42_method_3_code 2 none :: ws) ({ frames := 5, cells := 2, slots := 15, locals := 75 } : Room)) (fun a U => a = #[(.ref a1), (.ref a2)] ∧ Z.Warmed39 U.vm ∧ U.heap = h0) (fun _ _ _ _ _ => True) (fun _ U o U' => ∃ v L, o = .returned v ∧ (Q_inC_5 Z a1 a2 kC c0 c1 c2 c3 c4 c9 G1 h0 n0) v U'.heap L ∧ FrameEnd U o U' L ({ frames := 5, cells := 2, slots := 15, locals := 75 } : Room).cells ({ frames := 5, cells := 2, slots := 15, locals := 75 } : Room).slots) := by
 refine MetFree.of_bodySF (plainFor_of_name pn_1) hisR ?_
 intro p e s m args below meth c s₁ Bd hml0 hP hK
 obtain ⟨rfl, hZ, hHp⟩ := hP
 have hx := Bd.exec
 have D := fun {pc : Nat} {r} (h : decode _ pc = r) => hb Bd.bytes h
 have hml : c.maxLocals = 2 := hml0
 have hown : s.vm.findClass "java/lang/String" = some m.cls := findClass_of_methodNamed Bd.named
 have hnm := (name_of_methodNamed Bd.named Bd.method).1
 have X0 : Stand p l e ({ frames := 5, cells := 2, slots := 15, locals := 75 } : Room) s m #[(.ref a1), (.ref a2)] below meth c s₁ [] 0 0 := Stand.of_body Bd
 have e0 : s₁.heap = h0 := by rw [← hHp, Bd.state]; rfl
 have N0 := Fr.nil n0
 refine ownOut (P := (Q_inC_5 Z a1 a2 kC c0 c1 c2 c3 c4 c9 G1 h0 n0)) ?_
 refine ownBy (A := s₁.setTop (mkF m 0 #[vR a1, vR a2] [])) (fun t k => castTop (ef_inC_5 m a1 a2) k) ?_
 refine oTo s₁ (fr_inC_5 m a1 a2 4  [(.ref a2), (iV 0), (.ref a2), (.ref a1)]) (fun t kt => ?_) ?_
 ·refine XS.aloadN X0.here hx rfl (D d1_0) rfl rfl ?_
  refine XS.aloadN X0.here hx rfl (D d1_1) rfl rfl ?_
  refine XS.iconst X0.here hx rfl (D d1_2) ?_
  refine XS.aloadN X0.here hx rfl (D d1_3) rfl rfl ?_
  exact kt
 obtain ⟨cl21, Ar21, -, S21, N21, -, -⟩ := id A2
 have st21 := X0.arraylength hx (by rw [e0]; exact Ar21.1) (State.isArrayOf_alike hZ.alike Ar21.2.1) (g := (fr_inC_5 m a1 a2 4  [(.ref a2), (iV 0), (.ref a2), (.ref a1)])) rfl rfl (D d1_4)
 rw [len_of S21 N21] at st21
 refine ownBy st21 ?_
 show oA p e below _ s₁ (fr_inC_5 m a1 a2 5  [(iV 5), (iV 0), (.ref a2), (.ref a1)])
 refine oTo s₁ (fr_inC_5 m a1 a2 6  [.null, (iV 5), (iV 0), (.ref a2), (.ref a1)]) (fun t kt => ?_) ?_
 ·refine XS.aconstNull X0.here hx rfl (D d1_5) ?_
  exact kt
 obtain ⟨vv22, _, ⟨T22, L22, k22, n22⟩, -, X22, ⟨Lc22, hQ22, l22, y22, z22⟩, st22⟩ := X0.specialBack hx (y := yM0) rfl hown (mvT hZ (Wd9 hw)) (mvT hZ (Wd10 hw)) (mvT hZ (Wd12 hw)) (by decide) (backOf (W := 0) (c_ini4_5 l Z a0 hw [] a1 a2 kC c0 c1 c2 c3 c4 _ G1 h0 n0 Z0 E1 F1 F2 g1 ne1 A2 hc0 hc1 hc2 hc3 hc4 O2 P5 SA SHI SLO X00) hZ (Wd12 hw) (Wd5 hw) (by decide) (by decide)) (g := (fr_inC_5 m a1 a2 6  [.null, (iV 5), (iV 0), (.ref a2), (.ref a1)])) rfl (by rw [hml]; rfl) (Steps.refl _) (a := a1) (argsL := [(.ref a2), (iV 0), (iV 5), .null]) (rest := []) (lenOf pd_2 rfl) rfl (by show 2 * 0 + _ ≤ _; exact Nat.le_of_eq rfl) (D d1_6) (fun _ _ => ⟨rfl, e0, (by decide : 0 + 2 ≤ _), (by decide : 0 + 15 ≤ _)⟩)
 dsimp only [Pt.U, Pt.locs, Pt.cells, Pt.slots] at X22 l22 y22 z22 st22 hQ22
 subst l22 y22 z22
 obtain ⟨rfl, Nq22, Kq22, Eq22, t22, kb22, cd22, z22, vs22, zq22, Vq22, Cq22, Aq22, hrel22⟩ := hQ22
 have ne23 : a1 ≠ t22 := Nat.ne_of_lt (Nat.lt_of_lt_of_le E1.lt zq22)
 have ne24 : a2 ≠ t22 := Nat.ne_of_lt (Nat.lt_of_lt_of_le A2.lt zq22)
 have g25 : n0 ≤ t22 := Nat.le_trans Z0 zq22
 have z26 : h0.size ≤ t22 := Nat.le_trans (Nat.le_refl h0.size) zq22
 have N27 := Fr.app N0 Nq22
 obtain ⟨Lh28, Xh28, Nh28⟩ := oHd 2 15 X22 N27 rfl rfl
 refine ownSt st22 ?_
 clear st22
 show oA p e below _ T22 (fr_inC_5 m a1 a2 9  [])
 have f29 := ((Keep.refl h0 [a1]).trans Kq22 (allS (Or.inl (List.mem_of_getElem? (i := 0) rfl)) all0))
 have f30 := (E1.keep Kq22)
 refine ownRet Xh28 Bd.notSynchronized (v := none) (fun _ => rfl) ?_ (oLe rfl) (oLe rfl) (fun fs hr => Xh28.returnOut hx Bd.returns (D d1_9) hr)
 show (Q_inC_5 Z a1 a2 kC c0 c1 c2 c3 c4 c9 G1 h0 n0) (none) T22.heap _
 exact ⟨rfl, Nh28, f29, f30, t22, kb22, _, _, _, z26, Vq22, Cq22, Aq22, hrel22⟩
def Q_cod0 (Z : State) (x : Addr) (G1 : Int32) (h0 : Heap) (n0 : Nat) (v : Option Value) (h : Heap) (L : List Loc) : Prop := v = some (iV 0) ∧ Fr n0 L ∧ h = h0
theorem ef_cod0 (m : MethodId) (x0 : Addr)  : entryFrame m #[(.ref x0)] 1 = mkF m 0 #[vR x0] [] := by first | (simp [entryFrame, mkF, argsToLocals, Value.category]; done) | rfl
set_option maxRecDepth 65536 in
set_option maxHeartbeats 40000000 in
theorem c_cod0 (l : Launch) (Z : State) (a0 : Array Value) (hw : HW a0 Z) (ws : List Jvm.Cond) (x : Addr) (G1 : Int32) (h0 : Heap) (n0 : Nat) (Z0 : n0 ≤ h0.size) (Es : Exa Z h0 x "java/lang/String") (Cs : Fld Z h0 x "java/lang/String" "coder" "B" (iV 0)) (O2 : Sta Z Z.heap "java/lang/String" "COMPACT_STRINGS" "Z" (.int G1)) (P5 : ¬ (G1 = (0 : Int32))) (X00 : Old Z n0 h0) :
  MetFree l yM10 (head1 (Jvm.Cond.code yM10 jdk_42_method_152_code 1 (some .byte) :: ws) ({ frames := 0, cells := 0, slots := 0, locals := 0 } : Room)) (fun a U => a = #[(.ref x)] ∧ Z.Warmed39 U.vm ∧ U.heap = h0) (fun _ _ _ _ _ => True) (fun _ U o U' => ∃ v L, o = .returned v ∧ (Q_cod0 Z x G1 h0 n0) v U'.heap L ∧ FrameEnd U o U' L ({ frames := 0, cells := 0, slots := 0, locals := 0 } : Room).cells ({ frames := 0, cells := 0, slots := 0, locals := 0 } : Room).slots) := by
 refine MetFree.of_bodySF (plainFor_of_name pn_1) hisR ?_
 intro p e s m args below meth c s₁ Bd hml0 hP hK
 obtain ⟨rfl, hZ, hHp⟩ := hP
 have hx := Bd.exec
 have D := fun {pc : Nat} {r} (h : decode _ pc = r) => hb Bd.bytes h
 have hml : c.maxLocals = 1 := hml0
 have hown : s.vm.findClass "java/lang/String" = some m.cls := findClass_of_methodNamed Bd.named
 have hnm := (name_of_methodNamed Bd.named Bd.method).1
 have X0 : Stand p l e ({ frames := 0, cells := 0, slots := 0, locals := 0 } : Room) s m #[(.ref x)] below meth c s₁ [] 0 0 := Stand.of_body Bd
 have e0 : s₁.heap = h0 := by rw [← hHp, Bd.state]; rfl
 have N0 := Fr.nil n0
 refine ownOut (P := (Q_cod0 Z x G1 h0 n0)) ?_
 refine ownBy (A := s₁.setTop (mkF m 0 #[vR x] [])) (fun t k => castTop (ef_cod0 m x) k) ?_
 refine own_getS X0 hx hZ hown (host := "") (Or.inl (Wd16 hw)) Via.refl e0 (O2.ext X00.2) (D d9_0) (fun T21 X21 e21 => ?_)
 refine oTo T21 (mkF m 7 #[vR x] [(.ref x)]) (fun t kt => ?_) ?_
 ·refine XS.ifNo X21.here hx rfl (D d9_3) rfl ((if0 _ _).trans (feq P5).1) ?_
  refine XS.aloadN X21.here hx rfl (D d9_6) rfl rfl ?_
  exact kt
 refine own_getF X21 hx hZ hown (host := "") (Or.inl (Wd28 hw)) Via.refl e21 Cs (D d9_7) (fun T22 X22 e22 => ?_)
 refine oTo T22 (mkF m 14 #[vR x] [(iV 0)]) (fun t kt => ?_) ?_
 ·refine XS.goto X22.here hx rfl (pc0 := 10) (pc' := 14) rfl (D d9_10) (by decide) (by decide) ?_
  exact kt
 refine ownRet X22 Bd.notSynchronized (v := some (.int (nar .byte (0 : Int32)))) (fun h => by rw [Bd.returns] at h; cases h) ?_ (oLe rfl) (oLe rfl) (fun fs hr => retN X22 hx (t := .byte) Bd.returns (by simp) (D d9_14) hr)
 show (Q_cod0 Z x G1 h0 n0) (some (.int (nar .byte (0 : Int32)))) T22.heap _
 rw [e22]
 exact ⟨rfl, N0, rfl⟩
def Q_isl0 (Z : State) (x : Addr) (G1 : Int32) (h0 : Heap) (n0 : Nat) (v : Option Value) (h : Heap) (L : List Loc) : Prop := v = some (iV 1) ∧ Fr n0 L ∧ h = h0
theorem ef_isl0 (m : MethodId) (x0 : Addr)  : entryFrame m #[(.ref x0)] 1 = mkF m 0 #[vR x0] [] := by first | (simp [entryFrame, mkF, argsToLocals, Value.category]; done) | rfl
set_option maxRecDepth 65536 in
set_option maxHeartbeats 40000000 in
theorem c_isl0 (l : Launch) (Z : State) (a0 : Array Value) (hw : HW a0 Z) (ws : List Jvm.Cond) (x : Addr) (G1 : Int32) (h0 : Heap) (n0 : Nat) (Z0 : n0 ≤ h0.size) (Es : Exa Z h0 x "java/lang/String") (Cs : Fld Z h0 x "java/lang/String" "coder" "B" (iV 0)) (O2 : Sta Z Z.heap "java/lang/String" "COMPACT_STRINGS" "Z" (.int G1)) (P5 : ¬ (G1 = (0 : Int32))) (X00 : Old Z n0 h0) :
  MetFree l yM11 (head1 (Jvm.Cond.code yM11 jdk_42_method_154_code 1 (some .boolean) :: ws) ({ frames := 0, cells := 0, slots := 0, locals := 0 } : Room)) (fun a U => a = #[(.ref x)] ∧ Z.Warmed39 U.vm ∧ U.heap = h0) (fun _ _ _ _ _ => True) (fun _ U o U' => ∃ v L, o = .returned v ∧ (Q_isl0 Z x G1 h0 n0) v U'.heap L ∧ FrameEnd U o U' L ({ frames := 0, cells := 0, slots := 0, locals := 0 } : Room).cells ({ frames := 0, cells := 0, slots := 0, locals := 0 } : Room).slots) := by
 refine MetFree.of_bodySF (plainFor_of_name pn_1) hisR ?_
 intro p e s m args below meth c s₁ Bd hml0 hP hK
 obtain ⟨rfl, hZ, hHp⟩ := hP
 have hx := Bd.exec
 have D := fun {pc : Nat} {r} (h : decode _ pc = r) => hb Bd.bytes h
 have hml : c.maxLocals = 1 := hml0
 have hown : s.vm.findClass "java/lang/String" = some m.cls := findClass_of_methodNamed Bd.named
 have hnm := (name_of_methodNamed Bd.named Bd.method).1
 have X0 : Stand p l e ({ frames := 0, cells := 0, slots := 0, locals := 0 } : Room) s m #[(.ref x)] below meth c s₁ [] 0 0 := Stand.of_body Bd
 have e0 : s₁.heap = h0 := by rw [← hHp, Bd.state]; rfl
 have N0 := Fr.nil n0
 refine ownOut (P := (Q_isl0 Z x G1 h0 n0)) ?_
 refine ownBy (A := s₁.setTop (mkF m 0 #[vR x] [])) (fun t k => castTop (ef_isl0 m x) k) ?_
 refine own_getS X0 hx hZ hown (host := "") (Or.inl (Wd16 hw)) Via.refl e0 (O2.ext X00.2) (D d11_0) (fun T21 X21 e21 => ?_)
 refine oTo T21 (mkF m 7 #[vR x] [(.ref x)]) (fun t kt => ?_) ?_
 ·refine XS.ifNo X21.here hx rfl (D d11_3) rfl ((if0 _ _).trans (feq P5).1) ?_
  refine XS.aloadN X21.here hx rfl (D d11_6) rfl rfl ?_
  exact kt
 refine own_getF X21 hx hZ hown (host := "") (Or.inl (Wd28 hw)) Via.refl e21 Cs (D d11_7) (fun T22 X22 e22 => ?_)
 refine oTo T22 (mkF m 18 #[vR x] [(iV 1)]) (fun t kt => ?_) ?_
 ·refine XS.ifNo X22.here hx rfl (D d11_10) rfl ((if0 _ _).trans (teq ((by decide) : (0 : Int32) = (0 : Int32))).2) ?_
  refine XS.iconst X22.here hx rfl (D d11_13) ?_
  refine XS.goto X22.here hx rfl (pc0 := 14) (pc' := 18) rfl (D d11_14) (by decide) (by decide) ?_
  exact kt
 refine ownRet X22 Bd.notSynchronized (v := some (.int (nar .boolean (1 : Int32)))) (fun h => by rw [Bd.returns] at h; cases h) ?_ (oLe rfl) (oLe rfl) (fun fs hr => retN X22 hx (t := .boolean) Bd.returns (by simp) (D d11_18) hr)
 show (Q_isl0 Z x G1 h0 n0) (some (.int (nar .boolean (1 : Int32)))) T22.heap _
 rw [e22]
 exact ⟨rfl, N0, rfl⟩
def Q_cod1 (Z : State) (x : Addr) (G1 : Int32) (h0 : Heap) (n0 : Nat) (v : Option Value) (h : Heap) (L : List Loc) : Prop := v = some (iV 1) ∧ Fr n0 L ∧ h = h0
theorem ef_cod1 (m : MethodId) (x0 : Addr)  : entryFrame m #[(.ref x0)] 1 = mkF m 0 #[vR x0] [] := by first | (simp [entryFrame, mkF, argsToLocals, Value.category]; done) | rfl
set_option maxRecDepth 65536 in
set_option maxHeartbeats 40000000 in
theorem c_cod1 (l : Launch) (Z : State) (a0 : Array Value) (hw : HW a0 Z) (ws : List Jvm.Cond) (x : Addr) (G1 : Int32) (h0 : Heap) (n0 : Nat) (Z0 : n0 ≤ h0.size) (Es : Exa Z h0 x "java/lang/String") (Cs : Fld Z h0 x "java/lang/String" "coder" "B" (iV 1)) (O2 : Sta Z Z.heap "java/lang/String" "COMPACT_STRINGS" "Z" (.int G1)) (P5 : ¬ (G1 = (0 : Int32))) (X00 : Old Z n0 h0) :
  MetFree l yM10 (head1 (Jvm.Cond.code yM10 jdk_42_method_152_code 1 (some .byte) :: ws) ({ frames := 0, cells := 0, slots := 0, locals := 0 } : Room)) (fun a U => a = #[(.ref x)] ∧ Z.Warmed39 U.vm ∧ U.heap = h0) (fun _ _ _ _ _ => True) (fun _ U o U' => ∃ v L, o = .returned v ∧ (Q_cod1 Z x G1 h0 n0) v U'.heap L ∧ FrameEnd U o U' L ({ frames := 0, cells := 0, slots := 0, locals := 0 } : Room).cells ({ frames := 0, cells := 0, slots := 0, locals := 0 } : Room).slots) := by
 refine MetFree.of_bodySF (plainFor_of_name pn_1) hisR ?_
 intro p e s m args below meth c s₁ Bd hml0 hP hK
 obtain ⟨rfl, hZ, hHp⟩ := hP
 have hx := Bd.exec
 have D := fun {pc : Nat} {r} (h : decode _ pc = r) => hb Bd.bytes h
 have hml : c.maxLocals = 1 := hml0
 have hown : s.vm.findClass "java/lang/String" = some m.cls := findClass_of_methodNamed Bd.named
 have hnm := (name_of_methodNamed Bd.named Bd.method).1
 have X0 : Stand p l e ({ frames := 0, cells := 0, slots := 0, locals := 0 } : Room) s m #[(.ref x)] below meth c s₁ [] 0 0 := Stand.of_body Bd
 have e0 : s₁.heap = h0 := by rw [← hHp, Bd.state]; rfl
 have N0 := Fr.nil n0
 refine ownOut (P := (Q_cod1 Z x G1 h0 n0)) ?_
 refine ownBy (A := s₁.setTop (mkF m 0 #[vR x] [])) (fun t k => castTop (ef_cod1 m x) k) ?_
 refine own_getS X0 hx hZ hown (host := "") (Or.inl (Wd16 hw)) Via.refl e0 (O2.ext X00.2) (D d9_0) (fun T21 X21 e21 => ?_)
 refine oTo T21 (mkF m 7 #[vR x] [(.ref x)]) (fun t kt => ?_) ?_
 ·refine XS.ifNo X21.here hx rfl (D d9_3) rfl ((if0 _ _).trans (feq P5).1) ?_
  refine XS.aloadN X21.here hx rfl (D d9_6) rfl rfl ?_
  exact kt
 refine own_getF X21 hx hZ hown (host := "") (Or.inl (Wd28 hw)) Via.refl e21 Cs (D d9_7) (fun T22 X22 e22 => ?_)
 refine oTo T22 (mkF m 14 #[vR x] [(iV 1)]) (fun t kt => ?_) ?_
 ·refine XS.goto X22.here hx rfl (pc0 := 10) (pc' := 14) rfl (D d9_10) (by decide) (by decide) ?_
  exact kt
 refine ownRet X22 Bd.notSynchronized (v := some (.int (nar .byte (1 : Int32)))) (fun h => by rw [Bd.returns] at h; cases h) ?_ (oLe rfl) (oLe rfl) (fun fs hr => retN X22 hx (t := .byte) Bd.returns (by simp) (D d9_14) hr)
 show (Q_cod1 Z x G1 h0 n0) (some (.int (nar .byte (1 : Int32)))) T22.heap _
 rw [e22]
 exact ⟨rfl, N0, rfl⟩
def Q_isl1 (Z : State) (x : Addr) (G1 : Int32) (h0 : Heap) (n0 : Nat) (v : Option Value) (h : Heap) (L : List Loc) : Prop := v = some (iV 0) ∧ Fr n0 L ∧ h = h0
theorem ef_isl1 (m : MethodId) (x0 : Addr)  : entryFrame m #[(.ref x0)] 1 = mkF m 0 #[vR x0] [] := by first | (simp [entryFrame, mkF, argsToLocals, Value.category]; done) | rfl
set_option maxRecDepth 65536 in
set_option maxHeartbeats 40000000 in
theorem c_isl1 (l : Launch) (Z : State) (a0 : Array Value) (hw : HW a0 Z) (ws : List Jvm.Cond) (x : Addr) (G1 : Int32) (h0 : Heap) (n0 : Nat) (Z0 : n0 ≤ h0.size) (Es : Exa Z h0 x "java/lang/String") (Cs : Fld Z h0 x "java/lang/String" "coder" "B" (iV 1)) (O2 : Sta Z Z.heap "java/lang/String" "COMPACT_STRINGS" "Z" (.int G1)) (P5 : ¬ (G1 = (0 : Int32))) (X00 : Old Z n0 h0) :
  MetFree l yM11 (head1 (Jvm.Cond.code yM11 jdk_42_method_154_code 1 (some .boolean) :: ws) ({ frames := 0, cells := 0, slots := 0, locals := 0 } : Room)) (fun a U => a = #[(.ref x)] ∧ Z.Warmed39 U.vm ∧ U.heap = h0) (fun _ _ _ _ _ => True) (fun _ U o U' => ∃ v L, o = .returned v ∧ (Q_isl1 Z x G1 h0 n0) v U'.heap L ∧ FrameEnd U o U' L ({ frames := 0, cells := 0, slots := 0, locals := 0 } : Room).cells ({ frames := 0, cells := 0, slots := 0, locals := 0 } : Room).slots) := by
 refine MetFree.of_bodySF (plainFor_of_name pn_1) hisR ?_
 intro p e s m args below meth c s₁ Bd hml0 hP hK
 obtain ⟨rfl, hZ, hHp⟩ := hP
 have hx := Bd.exec
 have D := fun {pc : Nat} {r} (h : decode _ pc = r) => hb Bd.bytes h
 have hml : c.maxLocals = 1 := hml0
 have hown : s.vm.findClass "java/lang/String" = some m.cls := findClass_of_methodNamed Bd.named
 have hnm := (name_of_methodNamed Bd.named Bd.method).1
 have X0 : Stand p l e ({ frames := 0, cells := 0, slots := 0, locals := 0 } : Room) s m #[(.ref x)] below meth c s₁ [] 0 0 := Stand.of_body Bd
 have e0 : s₁.heap = h0 := by rw [← hHp, Bd.state]; rfl
 have N0 := Fr.nil n0
 refine ownOut (P := (Q_isl1 Z x G1 h0 n0)) ?_
 refine ownBy (A := s₁.setTop (mkF m 0 #[vR x] [])) (fun t k => castTop (ef_isl1 m x) k) ?_
 refine own_getS X0 hx hZ hown (host := "") (Or.inl (Wd16 hw)) Via.refl e0 (O2.ext X00.2) (D d11_0) (fun T21 X21 e21 => ?_)
 refine oTo T21 (mkF m 7 #[vR x] [(.ref x)]) (fun t kt => ?_) ?_
 ·refine XS.ifNo X21.here hx rfl (D d11_3) rfl ((if0 _ _).trans (feq P5).1) ?_
  refine XS.aloadN X21.here hx rfl (D d11_6) rfl rfl ?_
  exact kt
 refine own_getF X21 hx hZ hown (host := "") (Or.inl (Wd28 hw)) Via.refl e21 Cs (D d11_7) (fun T22 X22 e22 => ?_)
 refine oTo T22 (mkF m 18 #[vR x] [(iV 0)]) (fun t kt => ?_) ?_
 ·refine XS.ifYes X22.here hx rfl (pc0 := 10) (pc' := 17) rfl (D d11_10) rfl ((if0 _ _).trans (feq ((by decide) : ¬ ((1 : Int32) = (0 : Int32)))).2) (by decide) (by decide) ?_
  refine XS.iconst X22.here hx rfl (D d11_17) ?_
  exact kt
 refine ownRet X22 Bd.notSynchronized (v := some (.int (nar .boolean (0 : Int32)))) (fun h => by rw [Bd.returns] at h; cases h) ?_ (oLe rfl) (oLe rfl) (fun fs hr => retN X22 hx (t := .boolean) Bd.returns (by simp) (D d11_18) hr)
 show (Q_isl1 Z x G1 h0 n0) (some (.int (nar .boolean (0 : Int32)))) T22.heap _
 rw [e22]
 exact ⟨rfl, N0, rfl⟩
abbrev fr_leng (m : MethodId) (x : Addr) (pc : Nat)  (st : List Value) : JFrame := mkF m pc #[vR x] st
def Q_leng (Z : State) (x : Addr) (ta : Addr) (kb : ClassId) (cd : Int32) (z : Int32) (vs : List Value) (m1 : Int32) (G1 : Int32) (h0 : Heap) (n0 : Nat) (v : Option Value) (h : Heap) (L : List Loc) : Prop := v = some (.int m1) ∧ Fr n0 L ∧ h = h0
theorem ef_leng (m : MethodId) (x0 : Addr)  : entryFrame m #[(.ref x0)] 1 = mkF m 0 #[vR x0] [] := by first | (simp [entryFrame, mkF, argsToLocals, Value.category]; done) | rfl
set_option maxRecDepth 65536 in
set_option maxHeartbeats 40000000 in
theorem c_leng (l : Launch) (Z : State) (a0 : Array Value) (hw : HW a0 Z) (ws : List Jvm.Cond) (x : Addr) (ta : Addr) (kb : ClassId) (cd : Int32) (z : Int32) (vs : List Value) (m1 : Int32) (G1 : Int32) (h0 : Heap) (n0 : Nat) (Z0 : n0 ≤ h0.size) (Es : Exa Z h0 x "java/lang/String") (Vs : Fld Z h0 x "java/lang/String" "value" "[B" (.ref ta)) (Cs : Fld Z h0 x "java/lang/String" "coder" "B" (.int cd)) (Ks : Arv Z h0 ta kb .byte z vs (iV 0)) (hL : (cd = (0 : Int32) ∧ (z >>> ((0 : Int32) &&& 31)) = m1) ∨ (cd = (1 : Int32) ∧ (z >>> ((1 : Int32) &&& 31)) = m1)) (O2 : Sta Z Z.heap "java/lang/String" "COMPACT_STRINGS" "Z" (.int G1)) (P5 : ¬ (G1 = (0 : Int32))) (X00 : Old Z n0 h0) :
  MetFree l yM12 (head1 (Jvm.Cond.code yM12 jdk_42_method_54_code 1 (some .int) :: ws) ({ frames := 1, cells := 0, slots := 0, locals := 13 } : Room)) (fun a U => a = #[(.ref x)] ∧ Z.Warmed39 U.vm ∧ U.heap = h0) (fun _ _ _ _ _ => True) (fun _ U o U' => ∃ v L, o = .returned v ∧ (Q_leng Z x ta kb cd z vs m1 G1 h0 n0) v U'.heap L ∧ FrameEnd U o U' L ({ frames := 1, cells := 0, slots := 0, locals := 13 } : Room).cells ({ frames := 1, cells := 0, slots := 0, locals := 13 } : Room).slots) := by
 refine MetFree.of_bodySF (plainFor_of_name pn_1) hisR ?_
 intro p e s m args below meth c s₁ Bd hml0 hP hK
 obtain ⟨rfl, hZ, hHp⟩ := hP
 have hx := Bd.exec
 have D := fun {pc : Nat} {r} (h : decode _ pc = r) => hb Bd.bytes h
 have hml : c.maxLocals = 1 := hml0
 have hown : s.vm.findClass "java/lang/String" = some m.cls := findClass_of_methodNamed Bd.named
 have hnm := (name_of_methodNamed Bd.named Bd.method).1
 have X0 : Stand p l e ({ frames := 1, cells := 0, slots := 0, locals := 13 } : Room) s m #[(.ref x)] below meth c s₁ [] 0 0 := Stand.of_body Bd
 have e0 : s₁.heap = h0 := by rw [← hHp, Bd.state]; rfl
 have N0 := Fr.nil n0
 refine ownOut (P := (Q_leng Z x ta kb cd z vs m1 G1 h0 n0)) ?_
 refine ownBy (A := s₁.setTop (mkF m 0 #[vR x] [])) (fun t k => castTop (ef_leng m x) k) ?_
 rcases hL with ⟨ecd, hz⟩ | ⟨ecd, hz⟩
 ·rw [ecd] at Cs
  refine oTo s₁ (fr_leng m x 1  [(.ref x)]) (fun t kt => ?_) ?_
  ·refine XS.aloadN X0.here hx rfl (D d8_0) rfl rfl ?_
   exact kt
  refine own_getF X0 hx hZ hown (host := "") (Or.inl (Wd30 hw)) Via.refl e0 Vs (D d8_1) (fun T21 X21 e21 => ?_)
  obtain ⟨cl22, Ar22, -, S22, N22, -, -⟩ := id Ks
  have st22 := X21.arraylength hx (by rw [e21]; exact Ar22.1) (State.isArrayOf_alike hZ.alike Ar22.2.1) (g := (fr_leng m x 4  [(.ref ta)])) rfl rfl (D d8_4)
  rw [len_of S22 N22] at st22
  refine ownBy st22 ?_
  show oA p e below _ T21 (fr_leng m x 5  [(.int z)])
  refine oTo T21 (fr_leng m x 6  [(.ref x), (.int z)]) (fun t kt => ?_) ?_
  ·refine XS.aloadN X21.here hx rfl (D d8_5) rfl rfl ?_
   exact kt
  obtain ⟨cq23, kq23, q23a, q23b, q23c⟩ := isOf hZ e21 Es
  obtain ⟨vv23, _, ⟨T23, L23, k23, n23⟩, -, X23, ⟨Lc23, hQ23, l23, y23, z23⟩, st23⟩ := X21.virtualBack hx (y := yM10) (z := yM10) hown (mvT hZ (Wd41 hw)) (mvT hZ (Wd42 hw)) (notFace_of_selects (args := #[]) (mvT hZ (Wd44 hw))) (mvT hZ (Wd44 hw)) (mvT hZ (Wd43 hw)) (by decide) (backOf (W := 1) (c_cod0 l Z a0 hw [] x G1 h0 n0 Z0 Es Cs O2 P5 X00) hZ (Wd45 hw) (Wd5 hw) (by decide) (by decide)) q23a q23c (g := (fr_leng m x 6  [(.ref x), (.int z)])) rfl (by rw [hml]; rfl) (Steps.refl _) (argsL := []) (rest := [(.int z)]) (lenOf pd_11 rfl) rfl (by show 2 * 0 + _ ≤ _; exact Nat.le_of_eq rfl) (D d8_6) (fun _ _ => ⟨rfl, e21, (by decide : 0 + 0 ≤ _), (by decide : 0 + 0 ≤ _)⟩)
  dsimp only [Pt.U, Pt.locs, Pt.cells, Pt.slots] at X23 l23 y23 z23 st23 hQ23
  subst l23 y23 z23
  obtain ⟨rfl, Nq23, Eq23⟩ := hQ23
  have N24 := Fr.app N0 Nq23
  obtain ⟨Lh25, Xh25, Nh25⟩ := oHd 0 0 X23 N24 rfl rfl
  refine ownSt st23 ?_
  clear st23
  show oA p e below _ T23 (fr_leng m x 9  [(iV 0), (.int z)])
  refine oTo T23 (fr_leng m x 10  [(.int (z >>> ((0 : Int32) &&& 31)))]) (fun t kt => ?_) ?_
  ·refine XS.ishr Xh25.here hx rfl (D d8_9) rfl ?_
   exact kt
  refine ownRet Xh25 Bd.notSynchronized (v := some (.int (z >>> ((0 : Int32) &&& 31)))) (fun h => by rw [Bd.returns] at h; cases h) ?_ (oLe rfl) (oLe rfl) (fun fs hr => retI Xh25 hx Bd.returns (D d8_10) hr)
  show (Q_leng Z x ta kb cd z vs m1 G1 h0 n0) (some (.int (z >>> ((0 : Int32) &&& 31)))) T23.heap _
  rw [Eq23]
  refine ⟨?_, Nh25, rfl⟩
  rw [hz]
 ·rw [ecd] at Cs
  refine oTo s₁ (fr_leng m x 1  [(.ref x)]) (fun t kt => ?_) ?_
  ·refine XS.aloadN X0.here hx rfl (D d8_0) rfl rfl ?_
   exact kt
  refine own_getF X0 hx hZ hown (host := "") (Or.inl (Wd30 hw)) Via.refl e0 Vs (D d8_1) (fun T26 X26 e26 => ?_)
  obtain ⟨cl27, Ar27, -, S27, N27, -, -⟩ := id Ks
  have st27 := X26.arraylength hx (by rw [e26]; exact Ar27.1) (State.isArrayOf_alike hZ.alike Ar27.2.1) (g := (fr_leng m x 4  [(.ref ta)])) rfl rfl (D d8_4)
  rw [len_of S27 N27] at st27
  refine ownBy st27 ?_
  show oA p e below _ T26 (fr_leng m x 5  [(.int z)])
  refine oTo T26 (fr_leng m x 6  [(.ref x), (.int z)]) (fun t kt => ?_) ?_
  ·refine XS.aloadN X26.here hx rfl (D d8_5) rfl rfl ?_
   exact kt
  obtain ⟨cq28, kq28, q28a, q28b, q28c⟩ := isOf hZ e26 Es
  obtain ⟨vv28, _, ⟨T28, L28, k28, n28⟩, -, X28, ⟨Lc28, hQ28, l28, y28, z28⟩, st28⟩ := X26.virtualBack hx (y := yM10) (z := yM10) hown (mvT hZ (Wd41 hw)) (mvT hZ (Wd42 hw)) (notFace_of_selects (args := #[]) (mvT hZ (Wd44 hw))) (mvT hZ (Wd44 hw)) (mvT hZ (Wd43 hw)) (by decide) (backOf (W := 1) (c_cod1 l Z a0 hw [] x G1 h0 n0 Z0 Es Cs O2 P5 X00) hZ (Wd45 hw) (Wd5 hw) (by decide) (by decide)) q28a q28c (g := (fr_leng m x 6  [(.ref x), (.int z)])) rfl (by rw [hml]; rfl) (Steps.refl _) (argsL := []) (rest := [(.int z)]) (lenOf pd_11 rfl) rfl (by show 2 * 0 + _ ≤ _; exact Nat.le_of_eq rfl) (D d8_6) (fun _ _ => ⟨rfl, e26, (by decide : 0 + 0 ≤ _), (by decide : 0 + 0 ≤ _)⟩)
  dsimp only [Pt.U, Pt.locs, Pt.cells, Pt.slots] at X28 l28 y28 z28 st28 hQ28
  subst l28 y28 z28
  obtain ⟨rfl, Nq28, Eq28⟩ := hQ28
  have N29 := Fr.app N0 Nq28
  obtain ⟨Lh30, Xh30, Nh30⟩ := oHd 0 0 X28 N29 rfl rfl
  refine ownSt st28 ?_
  clear st28
  show oA p e below _ T28 (fr_leng m x 9  [(iV 1), (.int z)])
  refine oTo T28 (fr_leng m x 10  [(.int (z >>> ((1 : Int32) &&& 31)))]) (fun t kt => ?_) ?_
  ·refine XS.ishr Xh30.here hx rfl (D d8_9) rfl ?_
   exact kt
  refine ownRet Xh30 Bd.notSynchronized (v := some (.int (z >>> ((1 : Int32) &&& 31)))) (fun h => by rw [Bd.returns] at h; cases h) ?_ (oLe rfl) (oLe rfl) (fun fs hr => retI Xh30 hx Bd.returns (D d8_10) hr)
  show (Q_leng Z x ta kb cd z vs m1 G1 h0 n0) (some (.int (z >>> ((1 : Int32) &&& 31)))) T28.heap _
  rw [Eq28]
  refine ⟨?_, Nh30, rfl⟩
  rw [hz]
def Q_chi (Z : State) (i : Int32) (m1 : Int32) (G3 : Value) (h0 : Heap) (n0 : Nat) (v : Option Value) (h : Heap) (L : List Loc) : Prop := v = some (.int i) ∧ Fr n0 L ∧ h = h0
theorem ef_chi (m : MethodId) (x0 : Int32) (x1 : Int32) (x2 : Value) (r2 : x2.isRef = true) : entryFrame m #[(.int x0), (.int x1), x2] 3 = mkF m 0 #[vI x0, vI x1, .val x2] [] := by
 rcases ref_cases r2 with rfl | ⟨y2, rfl⟩ <;> first | (simp [entryFrame, mkF, argsToLocals, Value.category]; done) | rfl
set_option maxRecDepth 65536 in
set_option maxHeartbeats 40000000 in
theorem c_chi (l : Launch) (Z : State) (a0 : Array Value) (hw : HW a0 Z) (ws : List Jvm.Cond) (i : Int32) (m1 : Int32) (G3 : Value) (h0 : Heap) (n0 : Nat) (Z0 : n0 ≤ h0.size) (rG3 : G3.isRef = true) (qi : ¬ i < (0 : Int32) ∧ i < m1) :
  MetFree l yM13 (head1 (Jvm.Cond.code yM13 jdk_41_method_11_code 3 (some .int) :: ws) ({ frames := 0, cells := 0, slots := 0, locals := 0 } : Room)) (fun a U => a = #[(.int i), (.int m1), G3] ∧ Z.Warmed39 U.vm ∧ U.heap = h0) (fun _ _ _ _ _ => True) (fun _ U o U' => ∃ v L, o = .returned v ∧ (Q_chi Z i m1 G3 h0 n0) v U'.heap L ∧ FrameEnd U o U' L ({ frames := 0, cells := 0, slots := 0, locals := 0 } : Room).cells ({ frames := 0, cells := 0, slots := 0, locals := 0 } : Room).slots) := by
 refine MetFree.of_bodySF (plainFor_of_name pn_12) hisR ?_
 intro p e s m args below meth c s₁ Bd hml0 hP hK
 obtain ⟨rfl, hZ, hHp⟩ := hP
 have hx := Bd.exec
 have D := fun {pc : Nat} {r} (h : decode _ pc = r) => hb Bd.bytes h
 have hml : c.maxLocals = 3 := hml0
 have hown : s.vm.findClass "jdk/internal/util/Preconditions" = some m.cls := findClass_of_methodNamed Bd.named
 have hnm := (name_of_methodNamed Bd.named Bd.method).1
 have X0 : Stand p l e ({ frames := 0, cells := 0, slots := 0, locals := 0 } : Room) s m #[(.int i), (.int m1), G3] below meth c s₁ [] 0 0 := Stand.of_body Bd
 have e0 : s₁.heap = h0 := by rw [← hHp, Bd.state]; rfl
 have N0 := Fr.nil n0
 refine ownOut (P := (Q_chi Z i m1 G3 h0 n0)) ?_
 refine ownBy (A := s₁.setTop (mkF m 0 #[vI i, vI m1, .val G3] [])) (fun t k => castTop (ef_chi m i m1 G3 rG3) k) ?_
 refine oTo s₁ (mkF m 17 #[vI i, vI m1, .val G3] [(.int i)]) (fun t kt => ?_) ?_
 ·refine XS.iloadN X0.here hx rfl (D d14_0) rfl ?_
  refine XS.ifNo X0.here hx rfl (D d14_1) rfl ((if0 _ _).trans (flt qi.1).1) ?_
  refine XS.iloadN X0.here hx rfl (D d14_4) rfl ?_
  refine XS.iloadN X0.here hx rfl (D d14_5) rfl ?_
  show Steps p.tables e below (s₁.setTop (mkF m 6 #[vI i, vI m1, .val G3] [(.int m1), (.int i)])) t
  refine XS.icmpYes X0.here hx rfl (pc0 := 6) (pc' := 16) rfl (D d14_6) rfl (tlt qi.2).1 (by decide) (by decide) ?_
  refine XS.iloadN X0.here hx rfl (D d14_16) rfl ?_
  exact kt
 refine ownRet X0 Bd.notSynchronized (v := some (.int i)) (fun h => by rw [Bd.returns] at h; cases h) ?_ (oLe rfl) (oLe rfl) (fun fs hr => retI X0 hx Bd.returns (D d14_17) hr)
 show (Q_chi Z i m1 G3 h0 n0) (some (.int i)) s₁.heap _
 rw [e0]
 exact ⟨rfl, N0, rfl⟩
abbrev fr_sci (m : MethodId) (i : Int32) (m1 : Int32) (pc : Nat)  (st : List Value) : JFrame := mkF m pc #[vI i, vI m1] st
def Q_sci (Z : State) (i : Int32) (m1 : Int32) (G3 : Value) (h0 : Heap) (n0 : Nat) (v : Option Value) (h : Heap) (L : List Loc) : Prop := v = none ∧ Fr n0 L ∧ h = h0
theorem ef_sci (m : MethodId) (x0 : Int32) (x1 : Int32)  : entryFrame m #[(.int x0), (.int x1)] 2 = mkF m 0 #[vI x0, vI x1] [] := by first | (simp [entryFrame, mkF, argsToLocals, Value.category]; done) | rfl
set_option maxRecDepth 65536 in
set_option maxHeartbeats 40000000 in
theorem c_sci (l : Launch) (Z : State) (a0 : Array Value) (hw : HW a0 Z) (ws : List Jvm.Cond) (i : Int32) (m1 : Int32) (G3 : Value) (h0 : Heap) (n0 : Nat) (Z0 : n0 ≤ h0.size) (O4 : Sta Z Z.heap "jdk/internal/util/Preconditions" "SIOOBE_FORMATTER" "Ljava/util/function/BiFunction;" G3) (rG3 : G3.isRef = true) (qi : ¬ i < (0 : Int32) ∧ i < m1) (X00 : Old Z n0 h0) :
  MetFree l yM14 (head1 (Jvm.Cond.code yM14 jdk_42_method_155_code 2 none :: ws) ({ frames := 1, cells := 0, slots := 0, locals := 14 } : Room)) (fun a U => a = #[(.int i), (.int m1)] ∧ Z.Warmed39 U.vm ∧ U.heap = h0) (fun _ _ _ _ _ => True) (fun _ U o U' => ∃ v L, o = .returned v ∧ (Q_sci Z i m1 G3 h0 n0) v U'.heap L ∧ FrameEnd U o U' L ({ frames := 1, cells := 0, slots := 0, locals := 14 } : Room).cells ({ frames := 1, cells := 0, slots := 0, locals := 14 } : Room).slots) := by
 refine MetFree.of_bodySF (plainFor_of_name pn_1) hisR ?_
 intro p e s m args below meth c s₁ Bd hml0 hP hK
 obtain ⟨rfl, hZ, hHp⟩ := hP
 have hx := Bd.exec
 have D := fun {pc : Nat} {r} (h : decode _ pc = r) => hb Bd.bytes h
 have hml : c.maxLocals = 2 := hml0
 have hown : s.vm.findClass "java/lang/String" = some m.cls := findClass_of_methodNamed Bd.named
 have hnm := (name_of_methodNamed Bd.named Bd.method).1
 have X0 : Stand p l e ({ frames := 1, cells := 0, slots := 0, locals := 14 } : Room) s m #[(.int i), (.int m1)] below meth c s₁ [] 0 0 := Stand.of_body Bd
 have e0 : s₁.heap = h0 := by rw [← hHp, Bd.state]; rfl
 have N0 := Fr.nil n0
 refine ownOut (P := (Q_sci Z i m1 G3 h0 n0)) ?_
 refine ownBy (A := s₁.setTop (mkF m 0 #[vI i, vI m1] [])) (fun t k => castTop (ef_sci m i m1) k) ?_
 refine oTo s₁ (fr_sci m i m1 2  [(.int m1), (.int i)]) (fun t kt => ?_) ?_
 ·refine XS.iloadN X0.here hx rfl (D d13_0) rfl ?_
  refine XS.iloadN X0.here hx rfl (D d13_1) rfl ?_
  exact kt
 refine own_getS X0 hx hZ hown (host := "") (Or.inl (Wd63 hw)) Via.refl e0 (O4.ext X00.2) (D d13_2) (fun T21 X21 e21 => ?_)
 obtain ⟨vv22, _, ⟨T22, L22, k22, n22⟩, -, X22, ⟨Lc22, hQ22, l22, y22, z22⟩, st22⟩ := Jvm.LawKit.callS X21 hx (y := yM13) hown (mvT hZ (Wd65 hw)) (mvT hZ (Wd66 hw)) (mvT hZ (Wd64 hw)) (mvT hZ (Wd67 hw)) (by decide) (backOf (W := 0) (c_chi l Z a0 hw [] i m1 G3 h0 n0 Z0 rG3 qi) hZ (Wd67 hw) (Wd64 hw) (by decide) (by decide)) (g := (fr_sci m i m1 5  [G3, (.int m1), (.int i)])) rfl (by rw [hml]; rfl) (argsL := [(.int i), (.int m1), G3]) (rest := []) (lenOf pd_13 rfl) rfl (by show 2 * 0 + _ ≤ _; exact Nat.le_of_eq rfl) (D d13_5) (fun _ _ => ⟨rfl, e21, (by decide : 0 + 0 ≤ _), (by decide : 0 + 0 ≤ _)⟩)
 dsimp only [Pt.U, Pt.locs, Pt.cells, Pt.slots] at X22 l22 y22 z22 st22 hQ22
 subst l22 y22 z22
 obtain ⟨rfl, Nq22, Eq22⟩ := hQ22
 have N23 := Fr.app N0 Nq22
 obtain ⟨Lh24, Xh24, Nh24⟩ := oHd 0 0 X22 N23 rfl rfl
 refine ownBy st22 ?_
 clear st22
 show oA p e below _ T22 (fr_sci m i m1 8  [(.int i)])
 refine oTo T22 (fr_sci m i m1 9  []) (fun t kt => ?_) ?_
 ·refine XS.pop Xh24.here hx rfl (D d13_8) rfl rfl ?_
  exact kt
 refine ownRet Xh24 Bd.notSynchronized (v := none) (fun _ => rfl) ?_ (oLe rfl) (oLe rfl) (fun fs hr => Xh24.returnOut hx Bd.returns (D d13_9) hr)
 show (Q_sci Z i m1 G3 h0 n0) (none) T22.heap _
 rw [Eq22]
 exact ⟨rfl, Nh24, rfl⟩
abbrev fr_ul (m : MethodId) (ta : Addr) (pc : Nat)  (st : List Value) : JFrame := mkF m pc #[vR ta] st
def Q_ul (Z : State) (ta : Addr) (kb : ClassId) (z : Int32) (vs : List Value) (m1 : Int32) (h0 : Heap) (n0 : Nat) (v : Option Value) (h : Heap) (L : List Loc) : Prop := v = some (.int m1) ∧ Fr n0 L ∧ h = h0
theorem ef_ul (m : MethodId) (x0 : Addr)  : entryFrame m #[(.ref x0)] 1 = mkF m 0 #[vR x0] [] := by first | (simp [entryFrame, mkF, argsToLocals, Value.category]; done) | rfl
set_option maxRecDepth 65536 in
set_option maxHeartbeats 40000000 in
theorem c_ul (l : Launch) (Z : State) (a0 : Array Value) (hw : HW a0 Z) (ws : List Jvm.Cond) (ta : Addr) (kb : ClassId) (z : Int32) (vs : List Value) (m1 : Int32) (h0 : Heap) (n0 : Nat) (Z0 : n0 ≤ h0.size) (Ks : Arv Z h0 ta kb .byte z vs (iV 0)) (hz : (z >>> ((1 : Int32) &&& 31)) = m1) :
  MetFree l yM15 (head1 (Jvm.Cond.code yM15 jdk_52_method_6_code 1 (some .int) :: ws) ({ frames := 0, cells := 0, slots := 0, locals := 0 } : Room)) (fun a U => a = #[(.ref ta)] ∧ Z.Warmed39 U.vm ∧ U.heap = h0) (fun _ _ _ _ _ => True) (fun _ U o U' => ∃ v L, o = .returned v ∧ (Q_ul Z ta kb z vs m1 h0 n0) v U'.heap L ∧ FrameEnd U o U' L ({ frames := 0, cells := 0, slots := 0, locals := 0 } : Room).cells ({ frames := 0, cells := 0, slots := 0, locals := 0 } : Room).slots) := by
 refine MetFree.of_bodySF (plainFor_of_name pn_3) hisR ?_
 intro p e s m args below meth c s₁ Bd hml0 hP hK
 obtain ⟨rfl, hZ, hHp⟩ := hP
 have hx := Bd.exec
 have D := fun {pc : Nat} {r} (h : decode _ pc = r) => hb Bd.bytes h
 have hml : c.maxLocals = 1 := hml0
 have hown : s.vm.findClass "java/lang/StringUTF16" = some m.cls := findClass_of_methodNamed Bd.named
 have hnm := (name_of_methodNamed Bd.named Bd.method).1
 have X0 : Stand p l e ({ frames := 0, cells := 0, slots := 0, locals := 0 } : Room) s m #[(.ref ta)] below meth c s₁ [] 0 0 := Stand.of_body Bd
 have e0 : s₁.heap = h0 := by rw [← hHp, Bd.state]; rfl
 have N0 := Fr.nil n0
 refine ownOut (P := (Q_ul Z ta kb z vs m1 h0 n0)) ?_
 refine ownBy (A := s₁.setTop (mkF m 0 #[vR ta] [])) (fun t k => castTop (ef_ul m ta) k) ?_
 refine oTo s₁ (fr_ul m ta 1  [(.ref ta)]) (fun t kt => ?_) ?_
 ·refine XS.aloadN X0.here hx rfl (D d23_0) rfl rfl ?_
  exact kt
 obtain ⟨cl21, Ar21, -, S21, N21, -, -⟩ := id Ks
 have st21 := X0.arraylength hx (by rw [e0]; exact Ar21.1) (State.isArrayOf_alike hZ.alike Ar21.2.1) (g := (fr_ul m ta 1  [(.ref ta)])) rfl rfl (D d23_1)
 rw [len_of S21 N21] at st21
 refine ownBy st21 ?_
 show oA p e below _ s₁ (fr_ul m ta 2  [(.int z)])
 refine oTo s₁ (fr_ul m ta 4  [(.int (z >>> ((1 : Int32) &&& 31)))]) (fun t kt => ?_) ?_
 ·refine XS.iconst X0.here hx rfl (D d23_2) ?_
  refine XS.ishr X0.here hx rfl (D d23_3) rfl ?_
  exact kt
 refine ownRet X0 Bd.notSynchronized (v := some (.int (z >>> ((1 : Int32) &&& 31)))) (fun h => by rw [Bd.returns] at h; cases h) ?_ (oLe rfl) (oLe rfl) (fun fs hr => retI X0 hx Bd.returns (D d23_4) hr)
 show (Q_ul Z ta kb z vs m1 h0 n0) (some (.int (z >>> ((1 : Int32) &&& 31)))) s₁.heap _
 rw [e0]
 refine ⟨?_, N0, rfl⟩
 rw [hz]
abbrev fr_l1c (m : MethodId) (ta : Addr) (i : Int32) (pc : Nat)  (st : List Value) : JFrame := mkF m pc #[vR ta, vI i] st
def Q_l1c (Z : State) (ta : Addr) (kb : ClassId) (z : Int32) (vs : List Value) (i : Int32) (cc : Int32) (k : Nat) (G3 : Value) (h0 : Heap) (n0 : Nat) (v : Option Value) (h : Heap) (L : List Loc) : Prop := v = some (.int cc) ∧ Fr n0 L ∧ h = h0
theorem ef_l1c (m : MethodId) (x0 : Addr) (x1 : Int32)  : entryFrame m #[(.ref x0), (.int x1)] 2 = mkF m 0 #[vR x0, vI x1] [] := by first | (simp [entryFrame, mkF, argsToLocals, Value.category]; done) | rfl
set_option maxRecDepth 65536 in
set_option maxHeartbeats 40000000 in
theorem c_l1c (l : Launch) (Z : State) (a0 : Array Value) (hw : HW a0 Z) (ws : List Jvm.Cond) (ta : Addr) (kb : ClassId) (z : Int32) (vs : List Value) (i : Int32) (cc : Int32) (k : Nat) (G3 : Value) (h0 : Heap) (n0 : Nat) (Z0 : n0 ≤ h0.size) (Ks : Arv Z h0 ta kb .byte z vs (iV 0)) (qi : ¬ i < (0 : Int32) ∧ i < z) (k0 : i.toNatClampNeg = k) (u0 : vs.getD k (iV 0) = .int (oL cc)) (hnl : ¬ ((255 : Int32) < cc)) (hc : ¬ cc < 0 ∧ ¬ (65535 : Int32) < cc) (O4 : Sta Z Z.heap "jdk/internal/util/Preconditions" "SIOOBE_FORMATTER" "Ljava/util/function/BiFunction;" G3) (rG3 : G3.isRef = true) (X00 : Old Z n0 h0) :
  MetFree l yM16 (head1 (Jvm.Cond.code yM16 jdk_43_method_2_code 2 (some .char) :: ws) ({ frames := 2, cells := 0, slots := 0, locals := 27 } : Room)) (fun a U => a = #[(.ref ta), (.int i)] ∧ Z.Warmed39 U.vm ∧ U.heap = h0) (fun _ _ _ _ _ => True) (fun _ U o U' => ∃ v L, o = .returned v ∧ (Q_l1c Z ta kb z vs i cc k G3 h0 n0) v U'.heap L ∧ FrameEnd U o U' L ({ frames := 2, cells := 0, slots := 0, locals := 27 } : Room).cells ({ frames := 2, cells := 0, slots := 0, locals := 27 } : Room).slots) := by
 refine MetFree.of_bodySF (plainFor_of_name pn_14) hisR ?_
 intro p e s m args below meth c s₁ Bd hml0 hP hK
 obtain ⟨rfl, hZ, hHp⟩ := hP
 have hx := Bd.exec
 have D := fun {pc : Nat} {r} (h : decode _ pc = r) => hb Bd.bytes h
 have hml : c.maxLocals = 2 := hml0
 have hown : s.vm.findClass "java/lang/StringLatin1" = some m.cls := findClass_of_methodNamed Bd.named
 have hnm := (name_of_methodNamed Bd.named Bd.method).1
 have X0 : Stand p l e ({ frames := 2, cells := 0, slots := 0, locals := 27 } : Room) s m #[(.ref ta), (.int i)] below meth c s₁ [] 0 0 := Stand.of_body Bd
 have e0 : s₁.heap = h0 := by rw [← hHp, Bd.state]; rfl
 have N0 := Fr.nil n0
 refine ownOut (P := (Q_l1c Z ta kb z vs i cc k G3 h0 n0)) ?_
 refine ownBy (A := s₁.setTop (mkF m 0 #[vR ta, vI i] [])) (fun t k => castTop (ef_l1c m ta i) k) ?_
 refine oTo s₁ (fr_l1c m ta i 2  [(.ref ta), (.int i)]) (fun t kt => ?_) ?_
 ·refine XS.iloadN X0.here hx rfl (D d12_0) rfl ?_
  refine XS.aloadN X0.here hx rfl (D d12_1) rfl rfl ?_
  exact kt
 obtain ⟨cl21, Ar21, -, S21, N21, -, -⟩ := id Ks
 have st21 := X0.arraylength hx (by rw [e0]; exact Ar21.1) (State.isArrayOf_alike hZ.alike Ar21.2.1) (g := (fr_l1c m ta i 2  [(.ref ta), (.int i)])) rfl rfl (D d12_2)
 rw [len_of S21 N21] at st21
 refine ownBy st21 ?_
 show oA p e below _ s₁ (fr_l1c m ta i 3  [(.int z), (.int i)])
 obtain ⟨vv22, _, ⟨T22, L22, k22, n22⟩, -, X22, ⟨Lc22, hQ22, l22, y22, z22⟩, st22⟩ := Jvm.LawKit.callS X0 hx (y := yM14) hown (mvT hZ (Wd60 hw)) (mvT hZ (Wd61 hw)) (mvT hZ (Wd5 hw)) (mvT hZ (Wd62 hw)) (by decide) (backOf (W := 0) (c_sci l Z a0 hw [] i z G3 h0 n0 Z0 O4 rG3 qi X00) hZ (Wd62 hw) (Wd5 hw) (by decide) (by decide)) (g := (fr_l1c m ta i 3  [(.int z), (.int i)])) rfl (by rw [hml]; rfl) (argsL := [(.int i), (.int z)]) (rest := []) (lenOf pd_15 rfl) rfl (by show 2 * 0 + _ ≤ _; exact Nat.le_of_eq rfl) (D d12_3) (fun _ _ => ⟨rfl, e0, (by decide : 0 + 0 ≤ _), (by decide : 0 + 0 ≤ _)⟩)
 dsimp only [Pt.U, Pt.locs, Pt.cells, Pt.slots] at X22 l22 y22 z22 st22 hQ22
 subst l22 y22 z22
 obtain ⟨rfl, Nq22, Eq22⟩ := hQ22
 have N23 := Fr.app N0 Nq22
 obtain ⟨Lh24, Xh24, Nh24⟩ := oHd 0 0 X22 N23 rfl rfl
 refine ownBy st22 ?_
 clear st22
 show oA p e below _ T22 (fr_l1c m ta i 6  [])
 refine oTo T22 (fr_l1c m ta i 8  [(.int i), (.ref ta)]) (fun t kt => ?_) ?_
 ·refine XS.aloadN Xh24.here hx rfl (D d12_6) rfl rfl ?_
  refine XS.iloadN Xh24.here hx rfl (D d12_7) rfl ?_
  exact kt
 obtain ⟨cl25, Ar25, q25, S25, N25, H25, G25⟩ := id Ks
 have hin25 : ¬ (i < 0 ∨ cl25.slots.size ≤ (i).toNatClampNeg) := inb_of S25 qi
 have hat25 : cl25.slots[(i).toNatClampNeg]? = some (.int (oL cc)) := H25.at hin25 (by rw [k0]; exact u0)
 have st25 := Xh24.baloadBytes hx (j := i) (v := (.int (oL cc))) (by rw [Eq22]; exact Ar25.1) (State.isArrayOf_alike hZ.alike Ar25.2.1) Ar25.2.2 hin25 hat25 (g := (fr_l1c m ta i 8  [(.int i), (.ref ta)])) rfl rfl (D d12_8)
 refine ownBy st25 ?_
 show oA p e below _ T22 (fr_l1c m ta i 9  [(.int (oL cc))])
 refine oTo T22 (fr_l1c m ta i 14  [(.int (((oL cc) &&& (255 : Int32)).toUInt32.toUInt16.toUInt32.toInt32))]) (fun t kt => ?_) ?_
 ·refine XS.sipush Xh24.here hx rfl (D d12_9) ?_
  refine XS.iand Xh24.here hx rfl (D d12_12) rfl ?_
  refine XS.i2c Xh24.here hx rfl (D d12_13) rfl ?_
  exact kt
 refine ownRet Xh24 Bd.notSynchronized (v := some (.int (nar .char (((oL cc) &&& (255 : Int32)).toUInt32.toUInt16.toUInt32.toInt32)))) (fun h => by rw [Bd.returns] at h; cases h) ?_ (oLe rfl) (oLe rfl) (fun fs hr => retN Xh24 hx (t := .char) Bd.returns (by simp) (D d12_14) hr)
 show (Q_l1c Z ta kb z vs i cc k G3 h0 n0) (some (.int (nar .char (((oL cc) &&& (255 : Int32)).toUInt32.toUInt16.toUInt32.toInt32)))) T22.heap _
 rw [Eq22]
 refine ⟨?_, Nh24, rfl⟩
 rw [own_l1c hc hnl]
abbrev fr_uci (m : MethodId) (i : Int32) (ta : Addr) (pc : Nat)  (st : List Value) : JFrame := mkF m pc #[vI i, vR ta] st
def Q_uci (Z : State) (ta : Addr) (kb : ClassId) (z : Int32) (vs : List Value) (i : Int32) (m1 : Int32) (G3 : Value) (h0 : Heap) (n0 : Nat) (v : Option Value) (h : Heap) (L : List Loc) : Prop := v = none ∧ Fr n0 L ∧ h = h0
theorem ef_uci (m : MethodId) (x0 : Int32) (x1 : Addr)  : entryFrame m #[(.int x0), (.ref x1)] 2 = mkF m 0 #[vI x0, vR x1] [] := by first | (simp [entryFrame, mkF, argsToLocals, Value.category]; done) | rfl
set_option maxRecDepth 65536 in
set_option maxHeartbeats 40000000 in
theorem c_uci (l : Launch) (Z : State) (a0 : Array Value) (hw : HW a0 Z) (ws : List Jvm.Cond) (ta : Addr) (kb : ClassId) (z : Int32) (vs : List Value) (i : Int32) (m1 : Int32) (G3 : Value) (h0 : Heap) (n0 : Nat) (Z0 : n0 ≤ h0.size) (Ks : Arv Z h0 ta kb .byte z vs (iV 0)) (hz : (z >>> ((1 : Int32) &&& 31)) = m1) (qi : ¬ i < (0 : Int32) ∧ i < m1) (O4 : Sta Z Z.heap "jdk/internal/util/Preconditions" "SIOOBE_FORMATTER" "Ljava/util/function/BiFunction;" G3) (rG3 : G3.isRef = true) (X00 : Old Z n0 h0) :
  MetFree l yM17 (head1 (Jvm.Cond.code yM17 jdk_52_method_91_code 2 none :: ws) ({ frames := 2, cells := 0, slots := 0, locals := 27 } : Room)) (fun a U => a = #[(.int i), (.ref ta)] ∧ Z.Warmed39 U.vm ∧ U.heap = h0) (fun _ _ _ _ _ => True) (fun _ U o U' => ∃ v L, o = .returned v ∧ (Q_uci Z ta kb z vs i m1 G3 h0 n0) v U'.heap L ∧ FrameEnd U o U' L ({ frames := 2, cells := 0, slots := 0, locals := 27 } : Room).cells ({ frames := 2, cells := 0, slots := 0, locals := 27 } : Room).slots) := by
 refine MetFree.of_bodySF (plainFor_of_name pn_3) hisR ?_
 intro p e s m args below meth c s₁ Bd hml0 hP hK
 obtain ⟨rfl, hZ, hHp⟩ := hP
 have hx := Bd.exec
 have D := fun {pc : Nat} {r} (h : decode _ pc = r) => hb Bd.bytes h
 have hml : c.maxLocals = 2 := hml0
 have hown : s.vm.findClass "java/lang/StringUTF16" = some m.cls := findClass_of_methodNamed Bd.named
 have hnm := (name_of_methodNamed Bd.named Bd.method).1
 have X0 : Stand p l e ({ frames := 2, cells := 0, slots := 0, locals := 27 } : Room) s m #[(.int i), (.ref ta)] below meth c s₁ [] 0 0 := Stand.of_body Bd
 have e0 : s₁.heap = h0 := by rw [← hHp, Bd.state]; rfl
 have N0 := Fr.nil n0
 refine ownOut (P := (Q_uci Z ta kb z vs i m1 G3 h0 n0)) ?_
 refine ownBy (A := s₁.setTop (mkF m 0 #[vI i, vR ta] [])) (fun t k => castTop (ef_uci m i ta) k) ?_
 refine oTo s₁ (fr_uci m i ta 2  [(.ref ta), (.int i)]) (fun t kt => ?_) ?_
 ·refine XS.iloadN X0.here hx rfl (D d22_0) rfl ?_
  refine XS.aloadN X0.here hx rfl (D d22_1) rfl rfl ?_
  exact kt
 obtain ⟨vv21, _, ⟨T21, L21, k21, n21⟩, -, X21, ⟨Lc21, hQ21, l21, y21, z21⟩, st21⟩ := Jvm.LawKit.callS X0 hx (y := yM15) hown (mvT hZ (Wd100 hw)) (mvT hZ (Wd101 hw)) (mvT hZ (Wd19 hw)) (mvT hZ (Wd102 hw)) (by decide) (backOf (W := 1) (c_ul l Z a0 hw [] ta kb z vs m1 h0 n0 Z0 Ks hz) hZ (Wd102 hw) (Wd19 hw) (by decide) (by decide)) (g := (fr_uci m i ta 2  [(.ref ta), (.int i)])) rfl (by rw [hml]; rfl) (argsL := [(.ref ta)]) (rest := [(.int i)]) (lenOf pd_16 rfl) rfl (by show 2 * 0 + _ ≤ _; exact Nat.le_of_eq rfl) (D d22_2) (fun _ _ => ⟨rfl, e0, (by decide : 0 + 0 ≤ _), (by decide : 0 + 0 ≤ _)⟩)
 dsimp only [Pt.U, Pt.locs, Pt.cells, Pt.slots] at X21 l21 y21 z21 st21 hQ21
 subst l21 y21 z21
 obtain ⟨rfl, Nq21, Eq21⟩ := hQ21
 have N22 := Fr.app N0 Nq21
 obtain ⟨Lh23, Xh23, Nh23⟩ := oHd 0 0 X21 N22 rfl rfl
 refine ownBy st21 ?_
 clear st21
 show oA p e below _ T21 (fr_uci m i ta 5  [(.int m1), (.int i)])
 obtain ⟨vv24, _, ⟨T24, L24, k24, n24⟩, -, X24, ⟨Lc24, hQ24, l24, y24, z24⟩, st24⟩ := Jvm.LawKit.callS Xh23 hx (y := yM14) hown (mvT hZ (Wd103 hw)) (mvT hZ (Wd61 hw)) (mvT hZ (Wd5 hw)) (mvT hZ (Wd62 hw)) (by decide) (backOf (W := 0) (c_sci l Z a0 hw [] i m1 G3 h0 n0 Z0 O4 rG3 qi X00) hZ (Wd62 hw) (Wd5 hw) (by decide) (by decide)) (g := (fr_uci m i ta 5  [(.int m1), (.int i)])) rfl (by rw [hml]; rfl) (argsL := [(.int i), (.int m1)]) (rest := []) (lenOf pd_15 rfl) rfl (by show 2 * 0 + _ ≤ _; exact Nat.le_of_eq rfl) (D d22_5) (fun _ _ => ⟨rfl, Eq21, (by decide : 0 + 0 ≤ _), (by decide : 0 + 0 ≤ _)⟩)
 dsimp only [Pt.U, Pt.locs, Pt.cells, Pt.slots] at X24 l24 y24 z24 st24 hQ24
 subst l24 y24 z24
 obtain ⟨rfl, Nq24, Eq24⟩ := hQ24
 have N25 := Fr.app Nh23 Nq24
 obtain ⟨Lh26, Xh26, Nh26⟩ := oHd 0 0 X24 N25 rfl rfl
 refine ownBy st24 ?_
 clear st24
 show oA p e below _ T24 (fr_uci m i ta 8  [])
 refine ownRet Xh26 Bd.notSynchronized (v := none) (fun _ => rfl) ?_ (oLe rfl) (oLe rfl) (fun fs hr => Xh26.returnOut hx Bd.returns (D d22_8) hr)
 show (Q_uci Z ta kb z vs i m1 G3 h0 n0) (none) T24.heap _
 rw [Eq24]
 exact ⟨rfl, Nh26, rfl⟩
abbrev fr_u1c (m : MethodId) (ta : Addr) (i : Int32) (pc : Nat)  (st : List Value) : JFrame := mkF m pc #[vR ta, vI i] st
def Q_u1c (Z : State) (ta : Addr) (kb : ClassId) (z : Int32) (vs : List Value) (i : Int32) (cc : Int32) (k : Nat) (m1 : Int32) (G3 : Value) (h0 : Heap) (n0 : Nat) (v : Option Value) (h : Heap) (L : List Loc) : Prop := v = some (.int cc) ∧ Fr n0 L ∧ h = h0
theorem ef_u1c (m : MethodId) (x0 : Addr) (x1 : Int32)  : entryFrame m #[(.ref x0), (.int x1)] 2 = mkF m 0 #[vR x0, vI x1] [] := by first | (simp [entryFrame, mkF, argsToLocals, Value.category]; done) | rfl
set_option maxRecDepth 65536 in
set_option maxHeartbeats 40000000 in
theorem c_u1c (l : Launch) (Z : State) (a0 : Array Value) (hw : HW a0 Z) (ws : List Jvm.Cond) (ta : Addr) (kb : ClassId) (z : Int32) (vs : List Value) (i : Int32) (cc : Int32) (k : Nat) (m1 : Int32) (G3 : Value) (h0 : Heap) (n0 : Nat) (Z0 : n0 ≤ h0.size) (Ks : Arv Z h0 ta kb .byte z vs (iV 0)) (hz : (z >>> ((1 : Int32) &&& 31)) = m1) (qi : ¬ i < (0 : Int32) ∧ i < m1) (q0 : ¬ (i <<< ((1 : Int32) &&& 31)) < 0 ∧ (i <<< ((1 : Int32) &&& 31)) < z) (q1 : ¬ ((i <<< ((1 : Int32) &&& 31)) + (1 : Int32)) < 0 ∧ ((i <<< ((1 : Int32) &&& 31)) + (1 : Int32)) < z) (k0 : (i <<< ((1 : Int32) &&& 31)).toNatClampNeg = k) (k1 : ((i <<< ((1 : Int32) &&& 31)) + (1 : Int32)).toNatClampNeg = k + 1) (u0 : vs.getD k (iV 0) = .int (oW cc)) (u1 : vs.getD (k + 1) (iV 0) = .int (oH cc)) (hc : ¬ cc < 0 ∧ ¬ (65535 : Int32) < cc) (SA : Sta Z Z.heap "java/lang/StringUTF16" "$assertionsDisabled" "Z" (iV 1)) (SHI : Sta Z Z.heap "java/lang/StringUTF16" "HI_BYTE_SHIFT" "I" (iV 0)) (SLO : Sta Z Z.heap "java/lang/StringUTF16" "LO_BYTE_SHIFT" "I" (iV 8)) (O4 : Sta Z Z.heap "jdk/internal/util/Preconditions" "SIOOBE_FORMATTER" "Ljava/util/function/BiFunction;" G3) (rG3 : G3.isRef = true) (X00 : Old Z n0 h0) :
  MetFree l yM18 (head1 (Jvm.Cond.code yM18 jdk_52_method_83_code 2 (some .char) :: ws) ({ frames := 3, cells := 0, slots := 0, locals := 40 } : Room)) (fun a U => a = #[(.ref ta), (.int i)] ∧ Z.Warmed39 U.vm ∧ U.heap = h0) (fun _ _ _ _ _ => True) (fun _ U o U' => ∃ v L, o = .returned v ∧ (Q_u1c Z ta kb z vs i cc k m1 G3 h0 n0) v U'.heap L ∧ FrameEnd U o U' L ({ frames := 3, cells := 0, slots := 0, locals := 40 } : Room).cells ({ frames := 3, cells := 0, slots := 0, locals := 40 } : Room).slots) := by
 refine MetFree.of_bodySF (plainFor_of_name pn_3) hisR ?_
 intro p e s m args below meth c s₁ Bd hml0 hP hK
 obtain ⟨rfl, hZ, hHp⟩ := hP
 have hx := Bd.exec
 have D := fun {pc : Nat} {r} (h : decode _ pc = r) => hb Bd.bytes h
 have hml : c.maxLocals = 2 := hml0
 have hown : s.vm.findClass "java/lang/StringUTF16" = some m.cls := findClass_of_methodNamed Bd.named
 have hnm := (name_of_methodNamed Bd.named Bd.method).1
 have X0 : Stand p l e ({ frames := 3, cells := 0, slots := 0, locals := 40 } : Room) s m #[(.ref ta), (.int i)] below meth c s₁ [] 0 0 := Stand.of_body Bd
 have e0 : s₁.heap = h0 := by rw [← hHp, Bd.state]; rfl
 have N0 := Fr.nil n0
 refine ownOut (P := (Q_u1c Z ta kb z vs i cc k m1 G3 h0 n0)) ?_
 refine ownBy (A := s₁.setTop (mkF m 0 #[vR ta, vI i] [])) (fun t k => castTop (ef_u1c m ta i) k) ?_
 refine oTo s₁ (fr_u1c m ta i 2  [(.ref ta), (.int i)]) (fun t kt => ?_) ?_
 ·refine XS.iloadN X0.here hx rfl (D d21_0) rfl ?_
  refine XS.aloadN X0.here hx rfl (D d21_1) rfl rfl ?_
  exact kt
 obtain ⟨vv21, _, ⟨T21, L21, k21, n21⟩, -, X21, ⟨Lc21, hQ21, l21, y21, z21⟩, st21⟩ := Jvm.LawKit.callS X0 hx (y := yM17) hown (mvT hZ (Wd97 hw)) (mvT hZ (Wd98 hw)) (mvT hZ (Wd19 hw)) (mvT hZ (Wd99 hw)) (by decide) (backOf (W := 0) (c_uci l Z a0 hw [] ta kb z vs i m1 G3 h0 n0 Z0 Ks hz qi O4 rG3 X00) hZ (Wd99 hw) (Wd19 hw) (by decide) (by decide)) (g := (fr_u1c m ta i 2  [(.ref ta), (.int i)])) rfl (by rw [hml]; rfl) (argsL := [(.int i), (.ref ta)]) (rest := []) (lenOf pd_17 rfl) rfl (by show 2 * 0 + _ ≤ _; exact Nat.le_of_eq rfl) (D d21_2) (fun _ _ => ⟨rfl, e0, (by decide : 0 + 0 ≤ _), (by decide : 0 + 0 ≤ _)⟩)
 dsimp only [Pt.U, Pt.locs, Pt.cells, Pt.slots] at X21 l21 y21 z21 st21 hQ21
 subst l21 y21 z21
 obtain ⟨rfl, Nq21, Eq21⟩ := hQ21
 have N22 := Fr.app N0 Nq21
 obtain ⟨Lh23, Xh23, Nh23⟩ := oHd 0 0 X21 N22 rfl rfl
 refine ownBy st21 ?_
 clear st21
 show oA p e below _ T21 (fr_u1c m ta i 5  [])
 refine oTo T21 (fr_u1c m ta i 7  [(.int i), (.ref ta)]) (fun t kt => ?_) ?_
 ·refine XS.aloadN Xh23.here hx rfl (D d21_5) rfl rfl ?_
  refine XS.iloadN Xh23.here hx rfl (D d21_6) rfl ?_
  exact kt
 obtain ⟨vv24, _, ⟨T24, L24, k24, n24⟩, -, X24, ⟨Lc24, hQ24, l24, y24, z24⟩, st24⟩ := Jvm.LawKit.callS Xh23 hx (y := yM5) hown (mvT hZ (Wd91 hw)) (mvT hZ (Wd92 hw)) (mvT hZ (Wd19 hw)) (mvT hZ (Wd93 hw)) (by decide) (backOf (W := 0) (c_getc l Z a0 hw [] ta kb z vs i cc k h0 n0 Z0 Ks q0 q1 k0 k1 u0 u1 hc SA SHI SLO X00) hZ (Wd93 hw) (Wd19 hw) (by decide) (by decide)) (g := (fr_u1c m ta i 7  [(.int i), (.ref ta)])) rfl (by rw [hml]; rfl) (argsL := [(.ref ta), (.int i)]) (rest := []) (lenOf pd_9 rfl) rfl (by show 2 * 0 + _ ≤ _; exact Nat.le_of_eq rfl) (D d21_7) (fun _ _ => ⟨rfl, Eq21, (by decide : 0 + 0 ≤ _), (by decide : 0 + 0 ≤ _)⟩)
 dsimp only [Pt.U, Pt.locs, Pt.cells, Pt.slots] at X24 l24 y24 z24 st24 hQ24
 subst l24 y24 z24
 obtain ⟨rfl, Nq24, Eq24⟩ := hQ24
 have N25 := Fr.app Nh23 Nq24
 obtain ⟨Lh26, Xh26, Nh26⟩ := oHd 0 0 X24 N25 rfl rfl
 refine ownBy st24 ?_
 clear st24
 show oA p e below _ T24 (fr_u1c m ta i 10  [(.int cc)])
 refine ownRet Xh26 Bd.notSynchronized (v := some (.int (nar .char cc))) (fun h => by rw [Bd.returns] at h; cases h) ?_ (oLe rfl) (oLe rfl) (fun fs hr => retN Xh26 hx (t := .char) Bd.returns (by simp) (D d21_10) hr)
 show (Q_u1c Z ta kb z vs i cc k m1 G3 h0 n0) (some (.int (nar .char cc))) T24.heap _
 rw [Eq24]
 refine ⟨?_, Nh26, rfl⟩
 rw [own_c16 hc]
abbrev fr_chat (m : MethodId) (x : Addr) (i : Int32) (pc : Nat)  (st : List Value) : JFrame := mkF m pc #[vR x, vI i] st
def Q_chat (Z : State) (x : Addr) (ta : Addr) (kb : ClassId) (cd : Int32) (z : Int32) (vs : List Value) (i : Int32) (cc : Int32) (k : Nat) (k2 : Nat) (m1 : Int32) (G1 : Int32) (G3 : Value) (h0 : Heap) (n0 : Nat) (v : Option Value) (h : Heap) (L : List Loc) : Prop := v = some (.int cc) ∧ Fr n0 L ∧ h = h0
theorem ef_chat (m : MethodId) (x0 : Addr) (x1 : Int32)  : entryFrame m #[(.ref x0), (.int x1)] 2 = mkF m 0 #[vR x0, vI x1] [] := by first | (simp [entryFrame, mkF, argsToLocals, Value.category]; done) | rfl
set_option maxRecDepth 65536 in
set_option maxHeartbeats 40000000 in
theorem c_chat (l : Launch) (Z : State) (a0 : Array Value) (hw : HW a0 Z) (ws : List Jvm.Cond) (x : Addr) (ta : Addr) (kb : ClassId) (cd : Int32) (z : Int32) (vs : List Value) (i : Int32) (cc : Int32) (k : Nat) (k2 : Nat) (m1 : Int32) (G1 : Int32) (G3 : Value) (h0 : Heap) (n0 : Nat) (Z0 : n0 ≤ h0.size) (Es : Exa Z h0 x "java/lang/String") (Vs : Fld Z h0 x "java/lang/String" "value" "[B" (.ref ta)) (Cs : Fld Z h0 x "java/lang/String" "coder" "B" (.int cd)) (Ks : Arv Z h0 ta kb .byte z vs (iV 0)) (hc : ¬ cc < 0 ∧ ¬ (65535 : Int32) < cc) (hR : (cd = (0 : Int32) ∧ (¬ i < (0 : Int32) ∧ i < z) ∧ i.toNatClampNeg = k ∧ vs.getD k (iV 0) = .int (oL cc) ∧ ¬ ((255 : Int32) < cc)) ∨ (cd = (1 : Int32) ∧ (¬ i < (0 : Int32) ∧ i < m1) ∧ (z >>> ((1 : Int32) &&& 31)) = m1 ∧ (¬ (i <<< ((1 : Int32) &&& 31)) < 0 ∧ (i <<< ((1 : Int32) &&& 31)) < z) ∧ (¬ ((i <<< ((1 : Int32) &&& 31)) + (1 : Int32)) < 0 ∧ ((i <<< ((1 : Int32) &&& 31)) + (1 : Int32)) < z) ∧ (i <<< ((1 : Int32) &&& 31)).toNatClampNeg = k2 ∧ ((i <<< ((1 : Int32) &&& 31)) + (1 : Int32)).toNatClampNeg = k2 + 1 ∧ vs.getD k2 (iV 0) = .int (oW cc) ∧ vs.getD (k2 + 1) (iV 0) = .int (oH cc))) (O2 : Sta Z Z.heap "java/lang/String" "COMPACT_STRINGS" "Z" (.int G1)) (P5 : ¬ (G1 = (0 : Int32))) (SA : Sta Z Z.heap "java/lang/StringUTF16" "$assertionsDisabled" "Z" (iV 1)) (SHI : Sta Z Z.heap "java/lang/StringUTF16" "HI_BYTE_SHIFT" "I" (iV 0)) (SLO : Sta Z Z.heap "java/lang/StringUTF16" "LO_BYTE_SHIFT" "I" (iV 8)) (O4 : Sta Z Z.heap "jdk/internal/util/Preconditions" "SIOOBE_FORMATTER" "Ljava/util/function/BiFunction;" G3) (rG3 : G3.isRef = true) (X00 : Old Z n0 h0) :
  MetFree l yM19 (head1 (Jvm.Cond.code yM19 jdk_42_method_56_code 2 (some .char) :: ws) ({ frames := 4, cells := 0, slots := 0, locals := 53 } : Room)) (fun a U => a = #[(.ref x), (.int i)] ∧ Z.Warmed39 U.vm ∧ U.heap = h0) (fun _ _ _ _ _ => True) (fun _ U o U' => ∃ v L, o = .returned v ∧ (Q_chat Z x ta kb cd z vs i cc k k2 m1 G1 G3 h0 n0) v U'.heap L ∧ FrameEnd U o U' L ({ frames := 4, cells := 0, slots := 0, locals := 53 } : Room).cells ({ frames := 4, cells := 0, slots := 0, locals := 53 } : Room).slots) := by
 refine MetFree.of_bodySF (plainFor_of_name pn_1) hisR ?_
 intro p e s m args below meth c s₁ Bd hml0 hP hK
 obtain ⟨rfl, hZ, hHp⟩ := hP
 have hx := Bd.exec
 have D := fun {pc : Nat} {r} (h : decode _ pc = r) => hb Bd.bytes h
 have hml : c.maxLocals = 2 := hml0
 have hown : s.vm.findClass "java/lang/String" = some m.cls := findClass_of_methodNamed Bd.named
 have hnm := (name_of_methodNamed Bd.named Bd.method).1
 have X0 : Stand p l e ({ frames := 4, cells := 0, slots := 0, locals := 53 } : Room) s m #[(.ref x), (.int i)] below meth c s₁ [] 0 0 := Stand.of_body Bd
 have e0 : s₁.heap = h0 := by rw [← hHp, Bd.state]; rfl
 have N0 := Fr.nil n0
 refine ownOut (P := (Q_chat Z x ta kb cd z vs i cc k k2 m1 G1 G3 h0 n0)) ?_
 refine ownBy (A := s₁.setTop (mkF m 0 #[vR x, vI i] [])) (fun t k => castTop (ef_chat m x i) k) ?_
 rcases hR with ⟨ecd, qi, k0, u0, hnl⟩ | ⟨ecd, qi, hz, q0, q1, k0, k1, u0, u1⟩
 ·rw [ecd] at Cs
  refine oTo s₁ (fr_chat m x i 1  [(.ref x)]) (fun t kt => ?_) ?_
  ·refine XS.aloadN X0.here hx rfl (D d10_0) rfl rfl ?_
   exact kt
  obtain ⟨cq21, kq21, q21a, q21b, q21c⟩ := isOf hZ e0 Es
  obtain ⟨vv21, _, ⟨T21, L21, k21, n21⟩, -, X21, ⟨Lc21, hQ21, l21, y21, z21⟩, st21⟩ := X0.virtualBack hx (y := yM11) (z := yM11) hown (mvT hZ (Wd51 hw)) (mvT hZ (Wd52 hw)) (notFace_of_selects (args := #[]) (mvT hZ (Wd54 hw))) (mvT hZ (Wd54 hw)) (mvT hZ (Wd53 hw)) (by decide) (backOf (W := 0) (c_isl0 l Z a0 hw [] x G1 h0 n0 Z0 Es Cs O2 P5 X00) hZ (Wd55 hw) (Wd5 hw) (by decide) (by decide)) q21a q21c (g := (fr_chat m x i 1  [(.ref x)])) rfl (by rw [hml]; rfl) (Steps.refl _) (argsL := []) (rest := []) (lenOf pd_18 rfl) rfl (by show 2 * 0 + _ ≤ _; exact Nat.le_of_eq rfl) (D d10_1) (fun _ _ => ⟨rfl, e0, (by decide : 0 + 0 ≤ _), (by decide : 0 + 0 ≤ _)⟩)
  dsimp only [Pt.U, Pt.locs, Pt.cells, Pt.slots] at X21 l21 y21 z21 st21 hQ21
  subst l21 y21 z21
  obtain ⟨rfl, Nq21, Eq21⟩ := hQ21
  have N22 := Fr.app N0 Nq21
  obtain ⟨Lh23, Xh23, Nh23⟩ := oHd 0 0 X21 N22 rfl rfl
  refine ownSt st21 ?_
  clear st21
  show oA p e below _ T21 (fr_chat m x i 4  [(iV 1)])
  refine oTo T21 (fr_chat m x i 8  [(.ref x)]) (fun t kt => ?_) ?_
  ·refine XS.ifNo Xh23.here hx rfl (D d10_4) rfl ((if0 _ _).trans (feq ((by decide) : ¬ ((1 : Int32) = (0 : Int32)))).1) ?_
   refine XS.aloadN Xh23.here hx rfl (D d10_7) rfl rfl ?_
   exact kt
  refine own_getF Xh23 hx hZ hown (host := "") (Or.inl (Wd30 hw)) Via.refl Eq21 Vs (D d10_8) (fun T24 X24 e24 => ?_)
  refine oTo T24 (fr_chat m x i 12  [(.int i), (.ref ta)]) (fun t kt => ?_) ?_
  ·refine XS.iloadN X24.here hx rfl (D d10_11) rfl ?_
   exact kt
  obtain ⟨vv25, _, ⟨T25, L25, k25, n25⟩, -, X25, ⟨Lc25, hQ25, l25, y25, z25⟩, st25⟩ := Jvm.LawKit.callS X24 hx (y := yM16) hown (mvT hZ (Wd56 hw)) (mvT hZ (Wd57 hw)) (mvT hZ (Wd58 hw)) (mvT hZ (Wd59 hw)) (by decide) (backOf (W := 0) (c_l1c l Z a0 hw [] ta kb z vs i cc k G3 h0 n0 Z0 Ks qi k0 u0 hnl hc O4 rG3 X00) hZ (Wd59 hw) (Wd58 hw) (by decide) (by decide)) (g := (fr_chat m x i 12  [(.int i), (.ref ta)])) rfl (by rw [hml]; rfl) (argsL := [(.ref ta), (.int i)]) (rest := []) (lenOf pd_9 rfl) rfl (by show 2 * 0 + _ ≤ _; exact Nat.le_of_eq rfl) (D d10_12) (fun _ _ => ⟨rfl, e24, (by decide : 0 + 0 ≤ _), (by decide : 0 + 0 ≤ _)⟩)
  dsimp only [Pt.U, Pt.locs, Pt.cells, Pt.slots] at X25 l25 y25 z25 st25 hQ25
  subst l25 y25 z25
  obtain ⟨rfl, Nq25, Eq25⟩ := hQ25
  have N26 := Fr.app Nh23 Nq25
  obtain ⟨Lh27, Xh27, Nh27⟩ := oHd 0 0 X25 N26 rfl rfl
  refine ownBy st25 ?_
  clear st25
  show oA p e below _ T25 (fr_chat m x i 15  [(.int cc)])
  refine ownRet Xh27 Bd.notSynchronized (v := some (.int (nar .char cc))) (fun h => by rw [Bd.returns] at h; cases h) ?_ (oLe rfl) (oLe rfl) (fun fs hr => retN Xh27 hx (t := .char) Bd.returns (by simp) (D d10_15) hr)
  show (Q_chat Z x ta kb cd z vs i cc k k2 m1 G1 G3 h0 n0) (some (.int (nar .char cc))) T25.heap _
  rw [Eq25]
  refine ⟨?_, Nh27, rfl⟩
  rw [own_c16 hc]
 ·rw [ecd] at Cs
  refine oTo s₁ (fr_chat m x i 1  [(.ref x)]) (fun t kt => ?_) ?_
  ·refine XS.aloadN X0.here hx rfl (D d10_0) rfl rfl ?_
   exact kt
  obtain ⟨cq28, kq28, q28a, q28b, q28c⟩ := isOf hZ e0 Es
  obtain ⟨vv28, _, ⟨T28, L28, k28, n28⟩, -, X28, ⟨Lc28, hQ28, l28, y28, z28⟩, st28⟩ := X0.virtualBack hx (y := yM11) (z := yM11) hown (mvT hZ (Wd51 hw)) (mvT hZ (Wd52 hw)) (notFace_of_selects (args := #[]) (mvT hZ (Wd54 hw))) (mvT hZ (Wd54 hw)) (mvT hZ (Wd53 hw)) (by decide) (backOf (W := 0) (c_isl1 l Z a0 hw [] x G1 h0 n0 Z0 Es Cs O2 P5 X00) hZ (Wd55 hw) (Wd5 hw) (by decide) (by decide)) q28a q28c (g := (fr_chat m x i 1  [(.ref x)])) rfl (by rw [hml]; rfl) (Steps.refl _) (argsL := []) (rest := []) (lenOf pd_18 rfl) rfl (by show 2 * 0 + _ ≤ _; exact Nat.le_of_eq rfl) (D d10_1) (fun _ _ => ⟨rfl, e0, (by decide : 0 + 0 ≤ _), (by decide : 0 + 0 ≤ _)⟩)
  dsimp only [Pt.U, Pt.locs, Pt.cells, Pt.slots] at X28 l28 y28 z28 st28 hQ28
  subst l28 y28 z28
  obtain ⟨rfl, Nq28, Eq28⟩ := hQ28
  have N29 := Fr.app N0 Nq28
  obtain ⟨Lh30, Xh30, Nh30⟩ := oHd 0 0 X28 N29 rfl rfl
  refine ownSt st28 ?_
  clear st28
  show oA p e below _ T28 (fr_chat m x i 4  [(iV 0)])
  refine oTo T28 (fr_chat m x i 17  [(.ref x)]) (fun t kt => ?_) ?_
  ·refine XS.ifYes Xh30.here hx rfl (pc0 := 4) (pc' := 16) rfl (D d10_4) rfl ((if0 _ _).trans (teq ((by decide) : (0 : Int32) = (0 : Int32))).1) (by decide) (by decide) ?_
   refine XS.aloadN Xh30.here hx rfl (D d10_16) rfl rfl ?_
   exact kt
  refine own_getF Xh30 hx hZ hown (host := "") (Or.inl (Wd30 hw)) Via.refl Eq28 Vs (D d10_17) (fun T31 X31 e31 => ?_)
  refine oTo T31 (fr_chat m x i 21  [(.int i), (.ref ta)]) (fun t kt => ?_) ?_
  ·refine XS.iloadN X31.here hx rfl (D d10_20) rfl ?_
   exact kt
  obtain ⟨vv32, _, ⟨T32, L32, k32, n32⟩, -, X32, ⟨Lc32, hQ32, l32, y32, z32⟩, st32⟩ := Jvm.LawKit.callS X31 hx (y := yM18) hown (mvT hZ (Wd94 hw)) (mvT hZ (Wd95 hw)) (mvT hZ (Wd19 hw)) (mvT hZ (Wd96 hw)) (by decide) (backOf (W := 0) (c_u1c l Z a0 hw [] ta kb z vs i cc k2 m1 G3 h0 n0 Z0 Ks hz qi q0 q1 k0 k1 u0 u1 hc SA SHI SLO O4 rG3 X00) hZ (Wd96 hw) (Wd19 hw) (by decide) (by decide)) (g := (fr_chat m x i 21  [(.int i), (.ref ta)])) rfl (by rw [hml]; rfl) (argsL := [(.ref ta), (.int i)]) (rest := []) (lenOf pd_9 rfl) rfl (by show 2 * 0 + _ ≤ _; exact Nat.le_of_eq rfl) (D d10_21) (fun _ _ => ⟨rfl, e31, (by decide : 0 + 0 ≤ _), (by decide : 0 + 0 ≤ _)⟩)
  dsimp only [Pt.U, Pt.locs, Pt.cells, Pt.slots] at X32 l32 y32 z32 st32 hQ32
  subst l32 y32 z32
  obtain ⟨rfl, Nq32, Eq32⟩ := hQ32
  have N33 := Fr.app Nh30 Nq32
  obtain ⟨Lh34, Xh34, Nh34⟩ := oHd 0 0 X32 N33 rfl rfl
  refine ownBy st32 ?_
  clear st32
  show oA p e below _ T32 (fr_chat m x i 24  [(.int cc)])
  refine ownRet Xh34 Bd.notSynchronized (v := some (.int (nar .char cc))) (fun h => by rw [Bd.returns] at h; cases h) ?_ (oLe rfl) (oLe rfl) (fun fs hr => retN Xh34 hx (t := .char) Bd.returns (by simp) (D d10_24) hr)
  show (Q_chat Z x ta kb cd z vs i cc k k2 m1 G1 G3 h0 n0) (some (.int (nar .char cc))) T32.heap _
  rw [Eq32]
  refine ⟨?_, Nh34, rfl⟩
  rw [own_c16 hc]
abbrev fr_mm (m : MethodId) (p1 : Int32) (p2 : Int32) (pc : Nat)  (st : List Value) : JFrame := mkF m pc #[vI p1, vI p2] st
def Q_mm (Z : State) (p1 : Int32) (p2 : Int32) (h0 : Heap) (n0 : Nat) (v : Option Value) (h : Heap) (L : List Loc) : Prop := v = some (.int (own_b (Mw p1 p2))) ∧ Fr n0 L ∧ h = h0
theorem ef_mm (m : MethodId) (x0 : Int32) (x1 : Int32)  : entryFrame m #[(.int x0), (.int x1)] 2 = mkF m 0 #[vI x0, vI x1] [] := by first | (simp [entryFrame, mkF, argsToLocals, Value.category]; done) | rfl
set_option maxRecDepth 65536 in
set_option maxHeartbeats 40000000 in
theorem c_mm (l : Launch) (Z : State) (a0 : Array Value) (hw : HW a0 Z) (ws : List Jvm.Cond) (p1 : Int32) (p2 : Int32) (h0 : Heap) (n0 : Nat) (Z0 : n0 ≤ h0.size) :
  MetFree l yM20 (head1 (Jvm.Cond.code yM20 method_2_code 2 (some .boolean) :: ws) ({ frames := 0, cells := 0, slots := 0, locals := 0 } : Room)) (fun a U => a = #[(.int p1), (.int p2)] ∧ Z.Warmed39 U.vm ∧ U.heap = h0) (fun _ _ _ _ _ => True) (fun _ U o U' => ∃ v L, o = .returned v ∧ (Q_mm Z p1 p2 h0 n0) v U'.heap L ∧ FrameEnd U o U' L ({ frames := 0, cells := 0, slots := 0, locals := 0 } : Room).cells ({ frames := 0, cells := 0, slots := 0, locals := 0 } : Room).slots) := by
 refine MetFree.of_bodySF (plainFor_of_name pn_19) hisR ?_
 intro p e s m args below meth c s₁ Bd hml0 hP hK
 obtain ⟨rfl, hZ, hHp⟩ := hP
 have hx := Bd.exec
 have D := fun {pc : Nat} {r} (h : decode _ pc = r) => hb Bd.bytes h
 have hml : c.maxLocals = 2 := hml0
 have hown : s.vm.findClass "com/example/savepoint/savepoint/SqlDialectIsWordPinLaw" = some m.cls := findClass_of_methodNamed Bd.named
 have hnm := (name_of_methodNamed Bd.named Bd.method).1
 have X0 : Stand p l e ({ frames := 0, cells := 0, slots := 0, locals := 0 } : Room) s m #[(.int p1), (.int p2)] below meth c s₁ [] 0 0 := Stand.of_body Bd
 have e0 : s₁.heap = h0 := by rw [← hHp, Bd.state]; rfl
 have N0 := Fr.nil n0
 refine ownOut (P := (Q_mm Z p1 p2 h0 n0)) ?_
 refine ownBy (A := s₁.setTop (mkF m 0 #[vI p1, vI p2] [])) (fun t k => castTop (ef_mm m p1 p2) k) ?_
 refine oTo s₁ (fr_mm m p1 p2 2  [(.int p2), (.int p1)]) (fun t kt => ?_) ?_
 ·refine XS.iloadN X0.here hx rfl (D d15_0) rfl ?_
  refine XS.iloadN X0.here hx rfl (D d15_1) rfl ?_
  exact kt
 by_cases hc21 : p1 = p2
 ·skip
  refine oTo s₁ (fr_mm m p1 p2 30  [(iV 1)]) (fun t kt => ?_) ?_
  ·refine XS.icmpYes X0.here hx rfl (pc0 := 2) (pc' := 25) rfl (D d15_2) rfl (teq hc21).1 (by decide) (by decide) ?_
   refine XS.iconst X0.here hx rfl (D d15_25) ?_
   refine XS.goto X0.here hx rfl (pc0 := 26) (pc' := 30) rfl (D d15_26) (by decide) (by decide) ?_
   exact kt
  refine ownRet X0 Bd.notSynchronized (v := some (.int (nar .boolean (1 : Int32)))) (fun h => by rw [Bd.returns] at h; cases h) ?_ (oLe rfl) (oLe rfl) (fun fs hr => retN X0 hx (t := .boolean) Bd.returns (by simp) (D d15_30) hr)
  show (Q_mm Z p1 p2 h0 n0) (some (.int (nar .boolean (1 : Int32)))) s₁.heap _
  rw [e0]
  refine ⟨?_, N0, rfl⟩
  rw [own_bt1 (own_mw.mp (Or.inl hc21))]
  rfl
 ·skip
  refine oTo s₁ (fr_mm m p1 p2 8  [(iV 97), (.int p1)]) (fun t kt => ?_) ?_
  ·refine XS.icmpNo X0.here hx rfl (D d15_2) rfl (feq hc21).1 ?_
   refine XS.iloadN X0.here hx rfl (D d15_5) rfl ?_
   refine XS.bipush X0.here hx rfl (D d15_6) ?_
   exact kt
  by_cases hc22 : p1 < (97 : Int32)
  ·skip
   refine oTo s₁ (fr_mm m p1 p2 30  [(iV 0)]) (fun t kt => ?_) ?_
   ·refine XS.icmpYes X0.here hx rfl (pc0 := 8) (pc' := 29) rfl (D d15_8) rfl (tlt hc22).1 (by decide) (by decide) ?_
    refine XS.iconst X0.here hx rfl (D d15_29) ?_
    exact kt
   refine ownRet X0 Bd.notSynchronized (v := some (.int (nar .boolean (0 : Int32)))) (fun h => by rw [Bd.returns] at h; cases h) ?_ (oLe rfl) (oLe rfl) (fun fs hr => retN X0 hx (t := .boolean) Bd.returns (by simp) (D d15_30) hr)
   show (Q_mm Z p1 p2 h0 n0) (some (.int (nar .boolean (0 : Int32)))) s₁.heap _
   rw [e0]
   refine ⟨?_, N0, rfl⟩
   rw [own_bf0 (fun q => (own_mw.mpr q).elim hc21 (fun q => q.1 hc22))]
   rfl
  ·skip
   refine oTo s₁ (fr_mm m p1 p2 14  [(iV 122), (.int p1)]) (fun t kt => ?_) ?_
   ·refine XS.icmpNo X0.here hx rfl (D d15_8) rfl (flt hc22).1 ?_
    refine XS.iloadN X0.here hx rfl (D d15_11) rfl ?_
    refine XS.bipush X0.here hx rfl (D d15_12) ?_
    exact kt
   by_cases hc23 : (122 : Int32) < p1
   ·skip
    refine oTo s₁ (fr_mm m p1 p2 30  [(iV 0)]) (fun t kt => ?_) ?_
    ·refine XS.icmpYes X0.here hx rfl (pc0 := 14) (pc' := 29) rfl (D d15_14) rfl (tlt hc23).2.2.1 (by decide) (by decide) ?_
     refine XS.iconst X0.here hx rfl (D d15_29) ?_
     exact kt
    refine ownRet X0 Bd.notSynchronized (v := some (.int (nar .boolean (0 : Int32)))) (fun h => by rw [Bd.returns] at h; cases h) ?_ (oLe rfl) (oLe rfl) (fun fs hr => retN X0 hx (t := .boolean) Bd.returns (by simp) (D d15_30) hr)
    show (Q_mm Z p1 p2 h0 n0) (some (.int (nar .boolean (0 : Int32)))) s₁.heap _
    rw [e0]
    refine ⟨?_, N0, rfl⟩
    rw [own_bf0 (fun q => (own_mw.mpr q).elim hc21 (fun q => q.2.1 hc23))]
    rfl
   ·skip
    refine oTo s₁ (fr_mm m p1 p2 22  [(.int (p1 - (32 : Int32))), (.int p2)]) (fun t kt => ?_) ?_
    ·refine XS.icmpNo X0.here hx rfl (D d15_14) rfl (flt hc23).2.2.1 ?_
     refine XS.iloadN X0.here hx rfl (D d15_17) rfl ?_
     refine XS.iloadN X0.here hx rfl (D d15_18) rfl ?_
     refine XS.bipush X0.here hx rfl (D d15_19) ?_
     show Steps p.tables e below (s₁.setTop (fr_mm m p1 p2 21  [(iV 32), (.int p1), (.int p2)])) t
     refine XS.isub X0.here hx rfl (D d15_21) rfl ?_
     exact kt
    by_cases hc24 : p2 = (p1 - (32 : Int32))
    ·skip
     refine oTo s₁ (fr_mm m p1 p2 30  [(iV 1)]) (fun t kt => ?_) ?_
     ·refine XS.icmpNo X0.here hx rfl (D d15_22) rfl (teq hc24).2 ?_
      refine XS.iconst X0.here hx rfl (D d15_25) ?_
      refine XS.goto X0.here hx rfl (pc0 := 26) (pc' := 30) rfl (D d15_26) (by decide) (by decide) ?_
      exact kt
     refine ownRet X0 Bd.notSynchronized (v := some (.int (nar .boolean (1 : Int32)))) (fun h => by rw [Bd.returns] at h; cases h) ?_ (oLe rfl) (oLe rfl) (fun fs hr => retN X0 hx (t := .boolean) Bd.returns (by simp) (D d15_30) hr)
     show (Q_mm Z p1 p2 h0 n0) (some (.int (nar .boolean (1 : Int32)))) s₁.heap _
     rw [e0]
     refine ⟨?_, N0, rfl⟩
     rw [own_bt1 (own_mw.mp (Or.inr ⟨hc22, hc23, hc24⟩))]
     rfl
    ·skip
     refine oTo s₁ (fr_mm m p1 p2 30  [(iV 0)]) (fun t kt => ?_) ?_
     ·refine XS.icmpYes X0.here hx rfl (pc0 := 22) (pc' := 29) rfl (D d15_22) rfl (feq hc24).2 (by decide) (by decide) ?_
      refine XS.iconst X0.here hx rfl (D d15_29) ?_
      exact kt
     refine ownRet X0 Bd.notSynchronized (v := some (.int (nar .boolean (0 : Int32)))) (fun h => by rw [Bd.returns] at h; cases h) ?_ (oLe rfl) (oLe rfl) (fun fs hr => retN X0 hx (t := .boolean) Bd.returns (by simp) (D d15_30) hr)
     show (Q_mm Z p1 p2 h0 n0) (some (.int (nar .boolean (0 : Int32)))) s₁.heap _
     rw [e0]
     refine ⟨?_, N0, rfl⟩
     rw [own_bf0 (fun q => (own_mw.mpr q).elim hc21 (fun q => hc24 q.2.2))]
     rfl
abbrev fr_iw0 (m : MethodId) (x : Addr) (sp : Int32) (en : Int32) (ky : Addr) (pc : Nat) (x4_ x5_ : Slot) (st : List Value) : JFrame := mkF m pc #[vR x, vI sp, vI en, vR ky, x4_, x5_, .unset, .unset] st
def Q_iw0 (Z : State) (x : Addr) (ta : Addr) (kb : ClassId) (cd : Int32) (z : Int32) (vs : List Value) (ky : Addr) (tb : Addr) (kc : ClassId) (sp : Int32) (en : Int32) (G1 : Int32) (G3 : Value) (h0 : Heap) (n0 : Nat) (v : Option Value) (h : Heap) (L : List Loc) : Prop := v = some (.int (own_b ((en - sp) = (0 : Int32)))) ∧ Fr n0 L ∧ h = h0
theorem ef_iw0 (m : MethodId) (x0 : Addr) (x1 : Int32) (x2 : Int32) (x3 : Addr)  : entryFrame m #[(.ref x0), (.int x1), (.int x2), (.ref x3)] 8 = mkF m 0 #[vR x0, vI x1, vI x2, vR x3, .unset, .unset, .unset, .unset] [] := by first | (simp [entryFrame, mkF, argsToLocals, Value.category]; done) | rfl
set_option maxRecDepth 65536 in
set_option maxHeartbeats 40000000 in
theorem c_iw0 (l : Launch) (Z : State) (a0 : Array Value) (hw : HW a0 Z) (ws : List Jvm.Cond) (x : Addr) (ta : Addr) (kb : ClassId) (cd : Int32) (z : Int32) (vs : List Value) (ky : Addr) (tb : Addr) (kc : ClassId) (sp : Int32) (en : Int32) (G1 : Int32) (G3 : Value) (h0 : Heap) (n0 : Nat) (Z0 : n0 ≤ h0.size) (Es : Exa Z h0 x "java/lang/String") (Vs : Fld Z h0 x "java/lang/String" "value" "[B" (.ref ta)) (Cs : Fld Z h0 x "java/lang/String" "coder" "B" (.int cd)) (Ks : Arv Z h0 ta kb .byte z vs (iV 0)) (Ey : Exa Z h0 ky "java/lang/String") (Vy : Fld Z h0 ky "java/lang/String" "value" "[B" (.ref tb)) (Cy : Fld Z h0 ky "java/lang/String" "coder" "B" (iV 0)) (Ky : Arv Z h0 tb kc .byte (0 : Int32) [] (iV 0)) (O2 : Sta Z Z.heap "java/lang/String" "COMPACT_STRINGS" "Z" (.int G1)) (P5 : ¬ (G1 = (0 : Int32))) (SA : Sta Z Z.heap "java/lang/StringUTF16" "$assertionsDisabled" "Z" (iV 1)) (SHI : Sta Z Z.heap "java/lang/StringUTF16" "HI_BYTE_SHIFT" "I" (iV 0)) (SLO : Sta Z Z.heap "java/lang/StringUTF16" "LO_BYTE_SHIFT" "I" (iV 8)) (O4 : Sta Z Z.heap "jdk/internal/util/Preconditions" "SIOOBE_FORMATTER" "Ljava/util/function/BiFunction;" G3) (rG3 : G3.isRef = true) (X00 : Old Z n0 h0) :
  MetFree l yM21 (head1 (Jvm.Cond.code yM21 prog_14_method_9_code 8 (some .boolean) :: ws) ({ frames := 5, cells := 0, slots := 0, locals := 66 } : Room)) (fun a U => a = #[(.ref x), (.int sp), (.int en), (.ref ky)] ∧ Z.Warmed39 U.vm ∧ U.heap = h0) (fun _ _ _ _ _ => True) (fun _ U o U' => ∃ v L, o = .returned v ∧ (Q_iw0 Z x ta kb cd z vs ky tb kc sp en G1 G3 h0 n0) v U'.heap L ∧ FrameEnd U o U' L ({ frames := 5, cells := 0, slots := 0, locals := 66 } : Room).cells ({ frames := 5, cells := 0, slots := 0, locals := 66 } : Room).slots) := by
 refine MetFree.of_bodySF (plainFor_of_name pn_20) hisR ?_
 intro p e s m args below meth c s₁ Bd hml0 hP hK
 obtain ⟨rfl, hZ, hHp⟩ := hP
 have hx := Bd.exec
 have D := fun {pc : Nat} {r} (h : decode _ pc = r) => hb Bd.bytes h
 have hml : c.maxLocals = 8 := hml0
 have hown : s.vm.findClass "com/example/savepoint/savepoint/SqlDialect" = some m.cls := findClass_of_methodNamed Bd.named
 have hnm := (name_of_methodNamed Bd.named Bd.method).1
 have X0 : Stand p l e ({ frames := 5, cells := 0, slots := 0, locals := 66 } : Room) s m #[(.ref x), (.int sp), (.int en), (.ref ky)] below meth c s₁ [] 0 0 := Stand.of_body Bd
 have e0 : s₁.heap = h0 := by rw [← hHp, Bd.state]; rfl
 have N0 := Fr.nil n0
 refine ownOut (P := (Q_iw0 Z x ta kb cd z vs ky tb kc sp en G1 G3 h0 n0)) ?_
 refine ownBy (A := s₁.setTop (mkF m 0 #[vR x, vI sp, vI en, vR ky, .unset, .unset, .unset, .unset] [])) (fun t k => castTop (ef_iw0 m x sp en ky) k) ?_
 refine oTo s₁ (fr_iw0 m x sp en ky 4 .unset .unset [(.ref ky), (.int (en - sp))]) (fun t kt => ?_) ?_
 ·refine XS.iloadN X0.here hx rfl (D d7_0) rfl ?_
  refine XS.iloadN X0.here hx rfl (D d7_1) rfl ?_
  refine XS.isub X0.here hx rfl (D d7_2) rfl ?_
  refine XS.aloadN X0.here hx rfl (D d7_3) rfl rfl ?_
  exact kt
 obtain ⟨cq21, kq21, q21a, q21b, q21c⟩ := isOf hZ e0 Ey
 obtain ⟨vv21, _, ⟨T21, L21, k21, n21⟩, -, X21, ⟨Lc21, hQ21, l21, y21, z21⟩, st21⟩ := X0.virtualBack hx (y := yM12) (z := yM12) hown (mvT hZ (Wd36 hw)) (mvT hZ (Wd37 hw)) (notFace_of_selects (args := #[]) (mvT hZ (Wd39 hw))) (mvT hZ (Wd39 hw)) (mvT hZ (Wd38 hw)) (by decide) (backOf (W := 1) (c_leng l Z a0 hw [] ky tb kc (0 : Int32) (0 : Int32) [] (0 : Int32) G1 h0 n0 Z0 Ey Vy Cy Ky (Or.inl ⟨rfl, by decide +kernel⟩) O2 P5 X00) hZ (Wd40 hw) (Wd5 hw) (by decide) (by decide)) q21a q21c (g := (fr_iw0 m x sp en ky 4 .unset .unset [(.ref ky), (.int (en - sp))])) rfl (by rw [hml]; rfl) (Steps.refl _) (argsL := []) (rest := [(.int (en - sp))]) (lenOf pd_21 rfl) rfl (by show 2 * 0 + _ ≤ _; exact Nat.le_of_eq rfl) (D d7_4) (fun _ _ => ⟨rfl, e0, (by decide : 0 + 0 ≤ _), (by decide : 0 + 0 ≤ _)⟩)
 dsimp only [Pt.U, Pt.locs, Pt.cells, Pt.slots] at X21 l21 y21 z21 st21 hQ21
 subst l21 y21 z21
 obtain ⟨rfl, Nq21, Eq21⟩ := hQ21
 have N22 := Fr.app N0 Nq21
 obtain ⟨Lh23, Xh23, Nh23⟩ := oHd 0 0 X21 N22 rfl rfl
 refine ownSt st21 ?_
 clear st21
 show oA p e below _ T21 (fr_iw0 m x sp en ky 7 .unset .unset [(iV 0), (.int (en - sp))])
 by_cases hc24 : (en - sp) = (0 : Int32)
 ·skip
  refine oTo T21 (fr_iw0 m x sp en ky 28 (vI 1) (vI 0) [(.ref ky), (iV 0)]) (fun t kt => ?_) ?_
  ·refine XS.icmpNo Xh23.here hx rfl (D d7_7) rfl (teq hc24).2 ?_
   refine XS.iconst Xh23.here hx rfl (D d7_10) ?_
   refine XS.goto Xh23.here hx rfl (pc0 := 11) (pc' := 15) rfl (D d7_11) (by decide) (by decide) ?_
   refine XS.istore Xh23.here hx rfl (D d7_15) rfl (l' := #[vR x, vI sp, vI en, vR ky, vI 1, .unset, .unset, .unset]) rfl ?_
   show Steps p.tables e below (T21.setTop (fr_iw0 m x sp en ky 17 (vI 1) .unset [])) t
   refine XS.iconst Xh23.here hx rfl (D d7_17) ?_
   refine XS.istore Xh23.here hx rfl (D d7_18) rfl (l' := #[vR x, vI sp, vI en, vR ky, vI 1, vI 0, .unset, .unset]) rfl ?_
   refine XS.iload Xh23.here hx rfl (D d7_20) rfl ?_
   refine XS.ifNo Xh23.here hx rfl (D d7_22) rfl ((if0 _ _).trans (feq ((by decide) : ¬ ((1 : Int32) = (0 : Int32)))).1) ?_
   show Steps p.tables e below (T21.setTop (fr_iw0 m x sp en ky 25 (vI 1) (vI 0) [])) t
   refine XS.iload Xh23.here hx rfl (D d7_25) rfl ?_
   refine XS.aloadN Xh23.here hx rfl (D d7_27) rfl rfl ?_
   exact kt
  obtain ⟨cq25, kq25, q25a, q25b, q25c⟩ := isOf hZ Eq21 Ey
  obtain ⟨vv25, _, ⟨T25, L25, k25, n25⟩, -, X25, ⟨Lc25, hQ25, l25, y25, z25⟩, st25⟩ := Xh23.virtualBack hx (y := yM12) (z := yM12) hown (mvT hZ (Wd36 hw)) (mvT hZ (Wd37 hw)) (notFace_of_selects (args := #[]) (mvT hZ (Wd39 hw))) (mvT hZ (Wd39 hw)) (mvT hZ (Wd38 hw)) (by decide) (backOf (W := 1) (c_leng l Z a0 hw [] ky tb kc (0 : Int32) (0 : Int32) [] (0 : Int32) G1 h0 n0 Z0 Ey Vy Cy Ky (Or.inl ⟨rfl, by decide +kernel⟩) O2 P5 X00) hZ (Wd40 hw) (Wd5 hw) (by decide) (by decide)) q25a q25c (g := (fr_iw0 m x sp en ky 28 (vI 1) (vI 0) [(.ref ky), (iV 0)])) rfl (by rw [hml]; rfl) (Steps.refl _) (argsL := []) (rest := [(iV 0)]) (lenOf pd_21 rfl) rfl (by show 2 * 0 + _ ≤ _; exact Nat.le_of_eq rfl) (D d7_28) (fun _ _ => ⟨rfl, Eq21, (by decide : 0 + 0 ≤ _), (by decide : 0 + 0 ≤ _)⟩)
  dsimp only [Pt.U, Pt.locs, Pt.cells, Pt.slots] at X25 l25 y25 z25 st25 hQ25
  subst l25 y25 z25
  obtain ⟨rfl, Nq25, Eq25⟩ := hQ25
  have N26 := Fr.app Nh23 Nq25
  obtain ⟨Lh27, Xh27, Nh27⟩ := oHd 0 0 X25 N26 rfl rfl
  refine ownSt st25 ?_
  clear st25
  show oA p e below _ T25 (fr_iw0 m x sp en ky 31 (vI 1) (vI 0) [(iV 0), (iV 0)])
  refine oTo T25 (fr_iw0 m x sp en ky 98 (vI 1) (vI 0) [(iV 1)]) (fun t kt => ?_) ?_
  ·refine XS.icmpYes Xh27.here hx rfl (pc0 := 31) (pc' := 96) rfl (D d7_31) rfl (flt ((by decide) : ¬ ((0 : Int32) < (0 : Int32)))).2.1 (by decide) (by decide) ?_
   refine XS.iload Xh27.here hx rfl (D d7_96) rfl ?_
   exact kt
  refine ownRet Xh27 Bd.notSynchronized (v := some (.int (nar .boolean (1 : Int32)))) (fun h => by rw [Bd.returns] at h; cases h) ?_ (oLe rfl) (oLe rfl) (fun fs hr => retN Xh27 hx (t := .boolean) Bd.returns (by simp) (D d7_98) hr)
  show (Q_iw0 Z x ta kb cd z vs ky tb kc sp en G1 G3 h0 n0) (some (.int (nar .boolean (1 : Int32)))) T25.heap _
  rw [Eq25]
  refine ⟨?_, Nh27, rfl⟩
  rw [own_bt1 (p := (en - sp) = (0 : Int32)) hc24]
  rfl
 ·skip
  refine oTo T21 (fr_iw0 m x sp en ky 98 (vI 0) (vI 0) [(iV 0)]) (fun t kt => ?_) ?_
  ·refine XS.icmpYes Xh23.here hx rfl (pc0 := 7) (pc' := 14) rfl (D d7_7) rfl (feq hc24).2 (by decide) (by decide) ?_
   refine XS.iconst Xh23.here hx rfl (D d7_14) ?_
   refine XS.istore Xh23.here hx rfl (D d7_15) rfl (l' := #[vR x, vI sp, vI en, vR ky, vI 0, .unset, .unset, .unset]) rfl ?_
   refine XS.iconst Xh23.here hx rfl (D d7_17) ?_
   show Steps p.tables e below (T21.setTop (fr_iw0 m x sp en ky 18 (vI 0) .unset [(iV 0)])) t
   refine XS.istore Xh23.here hx rfl (D d7_18) rfl (l' := #[vR x, vI sp, vI en, vR ky, vI 0, vI 0, .unset, .unset]) rfl ?_
   refine XS.iload Xh23.here hx rfl (D d7_20) rfl ?_
   refine XS.ifYes Xh23.here hx rfl (pc0 := 22) (pc' := 96) rfl (D d7_22) rfl ((if0 _ _).trans (teq ((by decide) : (0 : Int32) = (0 : Int32))).1) (by decide) (by decide) ?_
   refine XS.iload Xh23.here hx rfl (D d7_96) rfl ?_
   exact kt
  refine ownRet Xh23 Bd.notSynchronized (v := some (.int (nar .boolean (0 : Int32)))) (fun h => by rw [Bd.returns] at h; cases h) ?_ (oLe rfl) (oLe rfl) (fun fs hr => retN Xh23 hx (t := .boolean) Bd.returns (by simp) (D d7_98) hr)
  show (Q_iw0 Z x ta kb cd z vs ky tb kc sp en G1 G3 h0 n0) (some (.int (nar .boolean (0 : Int32)))) T21.heap _
  rw [Eq21]
  refine ⟨?_, Nh23, rfl⟩
  rw [own_bf0 (p := (en - sp) = (0 : Int32)) (fun q => hc24 q)]
  rfl
abbrev fr_iw1 (m : MethodId) (x : Addr) (sp : Int32) (en : Int32) (ky : Addr) (pc : Nat) (x4_ x5_ x6_ x7_ : Slot) (st : List Value) : JFrame := mkF m pc #[vR x, vI sp, vI en, vR ky, x4_, x5_, x6_, x7_] st
def Q_iw1 (Z : State) (x : Addr) (ta : Addr) (kb : ClassId) (cd : Int32) (z : Int32) (vs : List Value) (ky : Addr) (tb : Addr) (kc : ClassId) (ce : Int32) (zz : Int32) (wl : List Value) (d0 : Int32) (r0 : Int32) (kk0 : Nat) (kq0 : Nat) (sp : Int32) (en : Int32) (G1 : Int32) (G3 : Value) (h0 : Heap) (n0 : Nat) (v : Option Value) (h : Heap) (L : List Loc) : Prop := v = some (.int (own_b ((en - sp) = (1 : Int32) ∧ Mw r0 d0))) ∧ Fr n0 L ∧ h = h0
theorem ef_iw1 (m : MethodId) (x0 : Addr) (x1 : Int32) (x2 : Int32) (x3 : Addr)  : entryFrame m #[(.ref x0), (.int x1), (.int x2), (.ref x3)] 8 = mkF m 0 #[vR x0, vI x1, vI x2, vR x3, .unset, .unset, .unset, .unset] [] := by first | (simp [entryFrame, mkF, argsToLocals, Value.category]; done) | rfl
set_option maxRecDepth 65536 in
set_option maxHeartbeats 40000000 in
theorem c_iw1 (l : Launch) (Z : State) (a0 : Array Value) (hw : HW a0 Z) (ws : List Jvm.Cond) (x : Addr) (ta : Addr) (kb : ClassId) (cd : Int32) (z : Int32) (vs : List Value) (ky : Addr) (tb : Addr) (kc : ClassId) (ce : Int32) (zz : Int32) (wl : List Value) (d0 : Int32) (r0 : Int32) (kk0 : Nat) (kq0 : Nat) (sp : Int32) (en : Int32) (G1 : Int32) (G3 : Value) (h0 : Heap) (n0 : Nat) (Z0 : n0 ≤ h0.size) (Es : Exa Z h0 x "java/lang/String") (Vs : Fld Z h0 x "java/lang/String" "value" "[B" (.ref ta)) (Cs : Fld Z h0 x "java/lang/String" "coder" "B" (.int cd)) (Ks : Arv Z h0 ta kb .byte z vs (iV 0)) (Ey : Exa Z h0 ky "java/lang/String") (Vy : Fld Z h0 ky "java/lang/String" "value" "[B" (.ref tb)) (Cy : Fld Z h0 ky "java/lang/String" "coder" "B" (.int ce)) (Ky : Arv Z h0 tb kc .byte zz wl (iV 0)) (hrly : ((ce = (0 : Int32) ∧ zz = (1 : Int32) ∧ wl = [(.int (oL d0))] ∧ ¬ ((255 : Int32) < d0)) ∨ (ce = (1 : Int32) ∧ zz = (2 : Int32) ∧ wl = [(.int (oW d0)), (.int (oH d0))] ∧ ((255 : Int32) < d0)))) (hd0 : ¬ d0 < 0 ∧ ¬ (65535 : Int32) < d0) (hr0 : ¬ r0 < 0 ∧ ¬ (65535 : Int32) < r0) (hP0 : Plc cd z vs (sp + (0 : Int32)) r0 kk0 kq0) (O2 : Sta Z Z.heap "java/lang/String" "COMPACT_STRINGS" "Z" (.int G1)) (P5 : ¬ (G1 = (0 : Int32))) (SA : Sta Z Z.heap "java/lang/StringUTF16" "$assertionsDisabled" "Z" (iV 1)) (SHI : Sta Z Z.heap "java/lang/StringUTF16" "HI_BYTE_SHIFT" "I" (iV 0)) (SLO : Sta Z Z.heap "java/lang/StringUTF16" "LO_BYTE_SHIFT" "I" (iV 8)) (O4 : Sta Z Z.heap "jdk/internal/util/Preconditions" "SIOOBE_FORMATTER" "Ljava/util/function/BiFunction;" G3) (rG3 : G3.isRef = true) (X00 : Old Z n0 h0) :
  MetFree l yM21 (head1 (Jvm.Cond.code yM21 prog_14_method_9_code 8 (some .boolean) :: ws) ({ frames := 5, cells := 0, slots := 0, locals := 66 } : Room)) (fun a U => a = #[(.ref x), (.int sp), (.int en), (.ref ky)] ∧ Z.Warmed39 U.vm ∧ U.heap = h0) (fun _ _ _ _ _ => True) (fun _ U o U' => ∃ v L, o = .returned v ∧ (Q_iw1 Z x ta kb cd z vs ky tb kc ce zz wl d0 r0 kk0 kq0 sp en G1 G3 h0 n0) v U'.heap L ∧ FrameEnd U o U' L ({ frames := 5, cells := 0, slots := 0, locals := 66 } : Room).cells ({ frames := 5, cells := 0, slots := 0, locals := 66 } : Room).slots) := by
 refine MetFree.of_bodySF (plainFor_of_name pn_20) hisR ?_
 intro p e s m args below meth c s₁ Bd hml0 hP hK
 obtain ⟨rfl, hZ, hHp⟩ := hP
 have hx := Bd.exec
 have D := fun {pc : Nat} {r} (h : decode _ pc = r) => hb Bd.bytes h
 have hml : c.maxLocals = 8 := hml0
 have hown : s.vm.findClass "com/example/savepoint/savepoint/SqlDialect" = some m.cls := findClass_of_methodNamed Bd.named
 have hnm := (name_of_methodNamed Bd.named Bd.method).1
 have X0 : Stand p l e ({ frames := 5, cells := 0, slots := 0, locals := 66 } : Room) s m #[(.ref x), (.int sp), (.int en), (.ref ky)] below meth c s₁ [] 0 0 := Stand.of_body Bd
 have e0 : s₁.heap = h0 := by rw [← hHp, Bd.state]; rfl
 have N0 := Fr.nil n0
 refine ownOut (P := (Q_iw1 Z x ta kb cd z vs ky tb kc ce zz wl d0 r0 kk0 kq0 sp en G1 G3 h0 n0)) ?_
 refine ownBy (A := s₁.setTop (mkF m 0 #[vR x, vI sp, vI en, vR ky, .unset, .unset, .unset, .unset] [])) (fun t k => castTop (ef_iw1 m x sp en ky) k) ?_
 refine oTo s₁ (fr_iw1 m x sp en ky 4 .unset .unset .unset .unset [(.ref ky), (.int (en - sp))]) (fun t kt => ?_) ?_
 ·refine XS.iloadN X0.here hx rfl (D d7_0) rfl ?_
  refine XS.iloadN X0.here hx rfl (D d7_1) rfl ?_
  refine XS.isub X0.here hx rfl (D d7_2) rfl ?_
  refine XS.aloadN X0.here hx rfl (D d7_3) rfl rfl ?_
  exact kt
 have hL21 : (ce = (0 : Int32) ∧ (zz >>> ((0 : Int32) &&& 31)) = (1 : Int32)) ∨ (ce = (1 : Int32) ∧ (zz >>> ((1 : Int32) &&& 31)) = (1 : Int32)) := by
  rcases hrly with ⟨h1, h2, -⟩ | ⟨h1, h2, -⟩
  ·exact Or.inl ⟨h1, by rw [h2]; decide +kernel⟩
  ·exact Or.inr ⟨h1, by rw [h2]; decide +kernel⟩
 obtain ⟨cq22, kq22, q22a, q22b, q22c⟩ := isOf hZ e0 Ey
 obtain ⟨vv22, _, ⟨T22, L22, k22, n22⟩, -, X22, ⟨Lc22, hQ22, l22, y22, z22⟩, st22⟩ := X0.virtualBack hx (y := yM12) (z := yM12) hown (mvT hZ (Wd36 hw)) (mvT hZ (Wd37 hw)) (notFace_of_selects (args := #[]) (mvT hZ (Wd39 hw))) (mvT hZ (Wd39 hw)) (mvT hZ (Wd38 hw)) (by decide) (backOf (W := 1) (c_leng l Z a0 hw [] ky tb kc ce zz wl (1 : Int32) G1 h0 n0 Z0 Ey Vy Cy Ky hL21 O2 P5 X00) hZ (Wd40 hw) (Wd5 hw) (by decide) (by decide)) q22a q22c (g := (fr_iw1 m x sp en ky 4 .unset .unset .unset .unset [(.ref ky), (.int (en - sp))])) rfl (by rw [hml]; rfl) (Steps.refl _) (argsL := []) (rest := [(.int (en - sp))]) (lenOf pd_21 rfl) rfl (by show 2 * 0 + _ ≤ _; exact Nat.le_of_eq rfl) (D d7_4) (fun _ _ => ⟨rfl, e0, (by decide : 0 + 0 ≤ _), (by decide : 0 + 0 ≤ _)⟩)
 dsimp only [Pt.U, Pt.locs, Pt.cells, Pt.slots] at X22 l22 y22 z22 st22 hQ22
 subst l22 y22 z22
 obtain ⟨rfl, Nq22, Eq22⟩ := hQ22
 have N23 := Fr.app N0 Nq22
 obtain ⟨Lh24, Xh24, Nh24⟩ := oHd 0 0 X22 N23 rfl rfl
 refine ownSt st22 ?_
 clear st22
 show oA p e below _ T22 (fr_iw1 m x sp en ky 7 .unset .unset .unset .unset [(iV 1), (.int (en - sp))])
 by_cases hc25 : (en - sp) = (1 : Int32)
 ·skip
  refine oTo T22 (fr_iw1 m x sp en ky 28 (vI 1) (vI 0) .unset .unset [(.ref ky), (iV 0)]) (fun t kt => ?_) ?_
  ·refine XS.icmpNo Xh24.here hx rfl (D d7_7) rfl (teq hc25).2 ?_
   refine XS.iconst Xh24.here hx rfl (D d7_10) ?_
   refine XS.goto Xh24.here hx rfl (pc0 := 11) (pc' := 15) rfl (D d7_11) (by decide) (by decide) ?_
   refine XS.istore Xh24.here hx rfl (D d7_15) rfl (l' := #[vR x, vI sp, vI en, vR ky, vI 1, .unset, .unset, .unset]) rfl ?_
   show Steps p.tables e below (T22.setTop (fr_iw1 m x sp en ky 17 (vI 1) .unset .unset .unset [])) t
   refine XS.iconst Xh24.here hx rfl (D d7_17) ?_
   refine XS.istore Xh24.here hx rfl (D d7_18) rfl (l' := #[vR x, vI sp, vI en, vR ky, vI 1, vI 0, .unset, .unset]) rfl ?_
   refine XS.iload Xh24.here hx rfl (D d7_20) rfl ?_
   refine XS.ifNo Xh24.here hx rfl (D d7_22) rfl ((if0 _ _).trans (feq ((by decide) : ¬ ((1 : Int32) = (0 : Int32)))).1) ?_
   show Steps p.tables e below (T22.setTop (fr_iw1 m x sp en ky 25 (vI 1) (vI 0) .unset .unset [])) t
   refine XS.iload Xh24.here hx rfl (D d7_25) rfl ?_
   refine XS.aloadN Xh24.here hx rfl (D d7_27) rfl rfl ?_
   exact kt
  have hL26 : (ce = (0 : Int32) ∧ (zz >>> ((0 : Int32) &&& 31)) = (1 : Int32)) ∨ (ce = (1 : Int32) ∧ (zz >>> ((1 : Int32) &&& 31)) = (1 : Int32)) := by
   rcases hrly with ⟨h1, h2, -⟩ | ⟨h1, h2, -⟩
   ·exact Or.inl ⟨h1, by rw [h2]; decide +kernel⟩
   ·exact Or.inr ⟨h1, by rw [h2]; decide +kernel⟩
  obtain ⟨cq27, kq27, q27a, q27b, q27c⟩ := isOf hZ Eq22 Ey
  obtain ⟨vv27, _, ⟨T27, L27, k27, n27⟩, -, X27, ⟨Lc27, hQ27, l27, y27, z27⟩, st27⟩ := Xh24.virtualBack hx (y := yM12) (z := yM12) hown (mvT hZ (Wd36 hw)) (mvT hZ (Wd37 hw)) (notFace_of_selects (args := #[]) (mvT hZ (Wd39 hw))) (mvT hZ (Wd39 hw)) (mvT hZ (Wd38 hw)) (by decide) (backOf (W := 1) (c_leng l Z a0 hw [] ky tb kc ce zz wl (1 : Int32) G1 h0 n0 Z0 Ey Vy Cy Ky hL26 O2 P5 X00) hZ (Wd40 hw) (Wd5 hw) (by decide) (by decide)) q27a q27c (g := (fr_iw1 m x sp en ky 28 (vI 1) (vI 0) .unset .unset [(.ref ky), (iV 0)])) rfl (by rw [hml]; rfl) (Steps.refl _) (argsL := []) (rest := [(iV 0)]) (lenOf pd_21 rfl) rfl (by show 2 * 0 + _ ≤ _; exact Nat.le_of_eq rfl) (D d7_28) (fun _ _ => ⟨rfl, Eq22, (by decide : 0 + 0 ≤ _), (by decide : 0 + 0 ≤ _)⟩)
  dsimp only [Pt.U, Pt.locs, Pt.cells, Pt.slots] at X27 l27 y27 z27 st27 hQ27
  subst l27 y27 z27
  obtain ⟨rfl, Nq27, Eq27⟩ := hQ27
  have N28 := Fr.app Nh24 Nq27
  obtain ⟨Lh29, Xh29, Nh29⟩ := oHd 0 0 X27 N28 rfl rfl
  refine ownSt st27 ?_
  clear st27
  show oA p e below _ T27 (fr_iw1 m x sp en ky 31 (vI 1) (vI 0) .unset .unset [(iV 1), (iV 0)])
  refine oTo T27 (fr_iw1 m x sp en ky 39 (vI 1) (vI 0) .unset .unset [(.int (sp + (0 : Int32))), (.ref x)]) (fun t kt => ?_) ?_
  ·refine XS.icmpNo Xh29.here hx rfl (D d7_31) rfl (tlt ((by decide) : (0 : Int32) < (1 : Int32))).2.1 ?_
   refine XS.aloadN Xh29.here hx rfl (D d7_34) rfl rfl ?_
   refine XS.iloadN Xh29.here hx rfl (D d7_35) rfl ?_
   refine XS.iload Xh29.here hx rfl (D d7_36) rfl ?_
   show Steps p.tables e below (T27.setTop (fr_iw1 m x sp en ky 38 (vI 1) (vI 0) .unset .unset [(iV 0), (.int sp), (.ref x)])) t
   refine XS.iadd Xh29.here hx rfl (D d7_38) rfl ?_
   exact kt
  obtain ⟨cq30, kq30, q30a, q30b, q30c⟩ := isOf hZ Eq27 Es
  obtain ⟨vv30, _, ⟨T30, L30, k30, n30⟩, -, X30, ⟨Lc30, hQ30, l30, y30, z30⟩, st30⟩ := Xh29.virtualBack hx (y := yM19) (z := yM19) hown (mvT hZ (Wd46 hw)) (mvT hZ (Wd47 hw)) (notFace_of_selects (args := #[]) (mvT hZ (Wd49 hw))) (mvT hZ (Wd49 hw)) (mvT hZ (Wd48 hw)) (by decide) (backOf (W := 0) (c_chat l Z a0 hw [] x ta kb cd z vs (sp + (0 : Int32)) r0 kk0 kq0 (5 : Int32) G1 G3 h0 n0 Z0 Es Vs Cs Ks hr0 hP0 O2 P5 SA SHI SLO O4 rG3 X00) hZ (Wd50 hw) (Wd5 hw) (by decide) (by decide)) q30a q30c (g := (fr_iw1 m x sp en ky 39 (vI 1) (vI 0) .unset .unset [(.int (sp + (0 : Int32))), (.ref x)])) rfl (by rw [hml]; rfl) (Steps.refl _) (argsL := [(.int (sp + (0 : Int32)))]) (rest := []) (lenOf pd_22 rfl) rfl (by show 2 * 0 + _ ≤ _; exact Nat.le_of_eq rfl) (D d7_39) (fun _ _ => ⟨rfl, Eq27, (by decide : 0 + 0 ≤ _), (by decide : 0 + 0 ≤ _)⟩)
  dsimp only [Pt.U, Pt.locs, Pt.cells, Pt.slots] at X30 l30 y30 z30 st30 hQ30
  subst l30 y30 z30
  obtain ⟨rfl, Nq30, Eq30⟩ := hQ30
  have N31 := Fr.app Nh29 Nq30
  obtain ⟨Lh32, Xh32, Nh32⟩ := oHd 0 0 X30 N31 rfl rfl
  refine ownSt st30 ?_
  clear st30
  show oA p e below _ T30 (fr_iw1 m x sp en ky 42 (vI 1) (vI 0) .unset .unset [(.int r0)])
  refine oTo T30 (fr_iw1 m x sp en ky 47 (vI 1) (vI 0) (vI r0) .unset [(iV 0), (.ref ky)]) (fun t kt => ?_) ?_
  ·refine XS.istore Xh32.here hx rfl (D d7_42) rfl (l' := #[vR x, vI sp, vI en, vR ky, vI 1, vI 0, vI r0, .unset]) rfl ?_
   refine XS.aloadN Xh32.here hx rfl (D d7_44) rfl rfl ?_
   refine XS.iload Xh32.here hx rfl (D d7_45) rfl ?_
   exact kt
  have hR33 : (ce = (0 : Int32) ∧ (¬ (0 : Int32) < (0 : Int32) ∧ (0 : Int32) < zz) ∧ (0 : Int32).toNatClampNeg = 0 ∧ wl.getD 0 (iV 0) = .int (oL d0) ∧ ¬ ((255 : Int32) < d0)) ∨ (ce = (1 : Int32) ∧ (¬ (0 : Int32) < (0 : Int32) ∧ (0 : Int32) < (1 : Int32)) ∧ (zz >>> ((1 : Int32) &&& 31)) = (1 : Int32) ∧ (¬ ((0 : Int32) <<< ((1 : Int32) &&& 31)) < 0 ∧ ((0 : Int32) <<< ((1 : Int32) &&& 31)) < zz) ∧ (¬ (((0 : Int32) <<< ((1 : Int32) &&& 31)) + (1 : Int32)) < 0 ∧ (((0 : Int32) <<< ((1 : Int32) &&& 31)) + (1 : Int32)) < zz) ∧ ((0 : Int32) <<< ((1 : Int32) &&& 31)).toNatClampNeg = 0 ∧ (((0 : Int32) <<< ((1 : Int32) &&& 31)) + (1 : Int32)).toNatClampNeg = 0 + 1 ∧ wl.getD 0 (iV 0) = .int (oW d0) ∧ wl.getD (0 + 1) (iV 0) = .int (oH d0)) := by
   rcases hrly with ⟨h1, h2, h3, g0⟩ | ⟨h1, h2, h3, -⟩
   ·exact Or.inl ⟨h1, by rw [h2]; decide +kernel, rfl, by rw [h3]; rfl, g0⟩
   ·exact Or.inr ⟨h1, by decide +kernel, by rw [h2]; decide +kernel, by rw [h2]; decide +kernel, by rw [h2]; decide +kernel, by decide +kernel, by decide +kernel, by rw [h3]; rfl, by rw [h3]; rfl⟩
  obtain ⟨cq34, kq34, q34a, q34b, q34c⟩ := isOf hZ Eq30 Ey
  obtain ⟨vv34, _, ⟨T34, L34, k34, n34⟩, -, X34, ⟨Lc34, hQ34, l34, y34, z34⟩, st34⟩ := Xh32.virtualBack hx (y := yM19) (z := yM19) hown (mvT hZ (Wd46 hw)) (mvT hZ (Wd47 hw)) (notFace_of_selects (args := #[]) (mvT hZ (Wd49 hw))) (mvT hZ (Wd49 hw)) (mvT hZ (Wd48 hw)) (by decide) (backOf (W := 0) (c_chat l Z a0 hw [] ky tb kc ce zz wl (0 : Int32) d0 0 0 (1 : Int32) G1 G3 h0 n0 Z0 Ey Vy Cy Ky hd0 hR33 O2 P5 SA SHI SLO O4 rG3 X00) hZ (Wd50 hw) (Wd5 hw) (by decide) (by decide)) q34a q34c (g := (fr_iw1 m x sp en ky 47 (vI 1) (vI 0) (vI r0) .unset [(iV 0), (.ref ky)])) rfl (by rw [hml]; rfl) (Steps.refl _) (argsL := [(iV 0)]) (rest := []) (lenOf pd_22 rfl) rfl (by show 2 * 0 + _ ≤ _; exact Nat.le_of_eq rfl) (D d7_47) (fun _ _ => ⟨rfl, Eq30, (by decide : 0 + 0 ≤ _), (by decide : 0 + 0 ≤ _)⟩)
  dsimp only [Pt.U, Pt.locs, Pt.cells, Pt.slots] at X34 l34 y34 z34 st34 hQ34
  subst l34 y34 z34
  obtain ⟨rfl, Nq34, Eq34⟩ := hQ34
  have N35 := Fr.app Nh32 Nq34
  obtain ⟨Lh36, Xh36, Nh36⟩ := oHd 0 0 X34 N35 rfl rfl
  refine ownSt st34 ?_
  clear st34
  show oA p e below _ T34 (fr_iw1 m x sp en ky 50 (vI 1) (vI 0) (vI r0) .unset [(.int d0)])
  refine oTo T34 (fr_iw1 m x sp en ky 52 (vI 1) (vI 0) (vI r0) (vI d0) []) (fun t kt => ?_) ?_
  ·refine XS.istore Xh36.here hx rfl (D d7_50) rfl (l' := #[vR x, vI sp, vI en, vR ky, vI 1, vI 0, vI r0, vI d0]) rfl ?_
   exact kt
  have seg37 : ∀ t, Steps p.tables e below (T34.setTop (fr_iw1 m x sp en ky 88 (vI 1) (vI 0) (vI r0) (vI d0) [(.int (own_b (Mw r0 d0)))])) t → Steps p.tables e below (T34.setTop (fr_iw1 m x sp en ky 52 (vI 1) (vI 0) (vI r0) (vI d0) [])) t := by
   intro t kt
   show Steps p.tables e below (T34.setTop (fr_iw1 m x sp en ky 52 (vI 1) (vI 0) (vI r0) (vI d0) [])) t
   refine XS.iload Xh36.here hx rfl (D d7_52) rfl ?_
   refine XS.iload Xh36.here hx rfl (D d7_54) rfl ?_
   show Steps p.tables e below (T34.setTop (fr_iw1 m x sp en ky 56 (vI 1) (vI 0) (vI r0) (vI d0) [(.int d0), (.int r0)])) t
   by_cases hc38 : r0 = d0
   ·skip
    show Steps p.tables e below (T34.setTop (fr_iw1 m x sp en ky 56 (vI 1) (vI 0) (vI r0) (vI d0) [(.int d0), (.int r0)])) t
    refine XS.icmpYes Xh36.here hx rfl (pc0 := 56) (pc' := 83) rfl (D d7_56) rfl (teq hc38).1 (by decide) (by decide) ?_
    refine XS.iconst Xh36.here hx rfl (D d7_83) ?_
    refine XS.goto Xh36.here hx rfl (pc0 := 84) (pc' := 88) rfl (D d7_84) (by decide) (by decide) ?_
    show Steps p.tables e below (T34.setTop (fr_iw1 m x sp en ky 88 (vI 1) (vI 0) (vI r0) (vI d0) [(iV 1)])) t
    rw [show (own_b (Mw r0 d0)) = (1 : Int32) from by simp [own_b, Mw, hc38]] at kt
    exact kt
   ·skip
    show Steps p.tables e below (T34.setTop (fr_iw1 m x sp en ky 56 (vI 1) (vI 0) (vI r0) (vI d0) [(.int d0), (.int r0)])) t
    refine XS.icmpNo Xh36.here hx rfl (D d7_56) rfl (feq hc38).1 ?_
    refine XS.iload Xh36.here hx rfl (D d7_59) rfl ?_
    refine XS.bipush Xh36.here hx rfl (D d7_61) ?_
    show Steps p.tables e below (T34.setTop (fr_iw1 m x sp en ky 63 (vI 1) (vI 0) (vI r0) (vI d0) [(iV 65), (.int d0)])) t
    by_cases hc39 : d0 < (65 : Int32)
    ·skip
     show Steps p.tables e below (T34.setTop (fr_iw1 m x sp en ky 63 (vI 1) (vI 0) (vI r0) (vI d0) [(iV 65), (.int d0)])) t
     refine XS.icmpYes Xh36.here hx rfl (pc0 := 63) (pc' := 87) rfl (D d7_63) rfl (tlt hc39).1 (by decide) (by decide) ?_
     refine XS.iconst Xh36.here hx rfl (D d7_87) ?_
     show Steps p.tables e below (T34.setTop (fr_iw1 m x sp en ky 88 (vI 1) (vI 0) (vI r0) (vI d0) [(iV 0)])) t
     rw [show (own_b (Mw r0 d0)) = (0 : Int32) from by simp [own_b, Mw, hc38, hc39]] at kt
     exact kt
    ·skip
     show Steps p.tables e below (T34.setTop (fr_iw1 m x sp en ky 63 (vI 1) (vI 0) (vI r0) (vI d0) [(iV 65), (.int d0)])) t
     refine XS.icmpNo Xh36.here hx rfl (D d7_63) rfl (flt hc39).1 ?_
     refine XS.iload Xh36.here hx rfl (D d7_66) rfl ?_
     refine XS.bipush Xh36.here hx rfl (D d7_68) ?_
     show Steps p.tables e below (T34.setTop (fr_iw1 m x sp en ky 70 (vI 1) (vI 0) (vI r0) (vI d0) [(iV 90), (.int d0)])) t
     by_cases hc40 : (90 : Int32) < d0
     ·skip
      show Steps p.tables e below (T34.setTop (fr_iw1 m x sp en ky 70 (vI 1) (vI 0) (vI r0) (vI d0) [(iV 90), (.int d0)])) t
      refine XS.icmpYes Xh36.here hx rfl (pc0 := 70) (pc' := 87) rfl (D d7_70) rfl (tlt hc40).2.2.1 (by decide) (by decide) ?_
      refine XS.iconst Xh36.here hx rfl (D d7_87) ?_
      show Steps p.tables e below (T34.setTop (fr_iw1 m x sp en ky 88 (vI 1) (vI 0) (vI r0) (vI d0) [(iV 0)])) t
      rw [show (own_b (Mw r0 d0)) = (0 : Int32) from by simp [own_b, Mw, hc38, hc39, hc40]] at kt
      exact kt
     ·skip
      show Steps p.tables e below (T34.setTop (fr_iw1 m x sp en ky 70 (vI 1) (vI 0) (vI r0) (vI d0) [(iV 90), (.int d0)])) t
      refine XS.icmpNo Xh36.here hx rfl (D d7_70) rfl (flt hc40).2.2.1 ?_
      refine XS.iload Xh36.here hx rfl (D d7_73) rfl ?_
      refine XS.iload Xh36.here hx rfl (D d7_75) rfl ?_
      refine XS.bipush Xh36.here hx rfl (D d7_77) ?_
      show Steps p.tables e below (T34.setTop (fr_iw1 m x sp en ky 79 (vI 1) (vI 0) (vI r0) (vI d0) [(iV 32), (.int d0), (.int r0)])) t
      refine XS.ior Xh36.here hx rfl (D d7_79) rfl ?_
      show Steps p.tables e below (T34.setTop (fr_iw1 m x sp en ky 80 (vI 1) (vI 0) (vI r0) (vI d0) [(.int (d0 ||| (32 : Int32))), (.int r0)])) t
      by_cases hc41 : r0 = (d0 ||| (32 : Int32))
      ·skip
       show Steps p.tables e below (T34.setTop (fr_iw1 m x sp en ky 80 (vI 1) (vI 0) (vI r0) (vI d0) [(.int (d0 ||| (32 : Int32))), (.int r0)])) t
       refine XS.icmpNo Xh36.here hx rfl (D d7_80) rfl (teq hc41).2 ?_
       refine XS.iconst Xh36.here hx rfl (D d7_83) ?_
       refine XS.goto Xh36.here hx rfl (pc0 := 84) (pc' := 88) rfl (D d7_84) (by decide) (by decide) ?_
       show Steps p.tables e below (T34.setTop (fr_iw1 m x sp en ky 88 (vI 1) (vI 0) (vI r0) (vI d0) [(iV 1)])) t
       rw [show (own_b (Mw r0 d0)) = (1 : Int32) from by simp [own_b, Mw, hc38, hc39, hc40, hc41]] at kt
       exact kt
      ·skip
       show Steps p.tables e below (T34.setTop (fr_iw1 m x sp en ky 80 (vI 1) (vI 0) (vI r0) (vI d0) [(.int (d0 ||| (32 : Int32))), (.int r0)])) t
       refine XS.icmpYes Xh36.here hx rfl (pc0 := 80) (pc' := 87) rfl (D d7_80) rfl (feq hc41).2 (by decide) (by decide) ?_
       refine XS.iconst Xh36.here hx rfl (D d7_87) ?_
       show Steps p.tables e below (T34.setTop (fr_iw1 m x sp en ky 88 (vI 1) (vI 0) (vI r0) (vI d0) [(iV 0)])) t
       rw [show (own_b (Mw r0 d0)) = (0 : Int32) from by simp [own_b, Mw, hc38, hc39, hc40, hc41]] at kt
       exact kt
  refine ownBy seg37 ?_
  show oA p e below _ T34 (fr_iw1 m x sp en ky 88 (vI 1) (vI 0) (vI r0) (vI d0) [(.int (own_b (Mw r0 d0)))])
  refine oTo T34 (fr_iw1 m x sp en ky 22 (.val (.int (own_b (Mw r0 d0)))) (vI 1) (vI r0) (vI d0) [(.int (own_b (Mw r0 d0)))]) (fun t kt => ?_) ?_
  ·refine XS.istore Xh36.here hx rfl (D d7_88) rfl (l' := #[vR x, vI sp, vI en, vR ky, .val (.int (own_b (Mw r0 d0))), vI 0, vI r0, vI d0]) rfl ?_
   refine XS.iinc Xh36.here hx rfl (D d7_90) rfl (l' := #[vR x, vI sp, vI en, vR ky, .val (.int (own_b (Mw r0 d0))), vI 1, vI r0, vI d0]) rfl ?_
   refine XS.goto Xh36.here hx rfl (pc0 := 93) (pc' := 20) rfl (D d7_93) (by decide) (by decide) ?_
   refine XS.iload Xh36.here hx rfl (D d7_20) rfl ?_
   exact kt
  by_cases hc42 : Mw r0 d0
  ·skip
   refine oTo T34 (fr_iw1 m x sp en ky 28 (.val (.int (own_b (Mw r0 d0)))) (vI 1) (vI r0) (vI d0) [(.ref ky), (iV 1)]) (fun t kt => ?_) ?_
   ·refine XS.ifNo Xh36.here hx rfl (D d7_22) rfl ((if0 _ _).trans (feq (own_bt0 hc42)).1) ?_
    refine XS.iload Xh36.here hx rfl (D d7_25) rfl ?_
    refine XS.aloadN Xh36.here hx rfl (D d7_27) rfl rfl ?_
    exact kt
   have hL43 : (ce = (0 : Int32) ∧ (zz >>> ((0 : Int32) &&& 31)) = (1 : Int32)) ∨ (ce = (1 : Int32) ∧ (zz >>> ((1 : Int32) &&& 31)) = (1 : Int32)) := by
    rcases hrly with ⟨h1, h2, -⟩ | ⟨h1, h2, -⟩
    ·exact Or.inl ⟨h1, by rw [h2]; decide +kernel⟩
    ·exact Or.inr ⟨h1, by rw [h2]; decide +kernel⟩
   obtain ⟨cq44, kq44, q44a, q44b, q44c⟩ := isOf hZ Eq34 Ey
   obtain ⟨vv44, _, ⟨T44, L44, k44, n44⟩, -, X44, ⟨Lc44, hQ44, l44, y44, z44⟩, st44⟩ := Xh36.virtualBack hx (y := yM12) (z := yM12) hown (mvT hZ (Wd36 hw)) (mvT hZ (Wd37 hw)) (notFace_of_selects (args := #[]) (mvT hZ (Wd39 hw))) (mvT hZ (Wd39 hw)) (mvT hZ (Wd38 hw)) (by decide) (backOf (W := 1) (c_leng l Z a0 hw [] ky tb kc ce zz wl (1 : Int32) G1 h0 n0 Z0 Ey Vy Cy Ky hL43 O2 P5 X00) hZ (Wd40 hw) (Wd5 hw) (by decide) (by decide)) q44a q44c (g := (fr_iw1 m x sp en ky 28 (.val (.int (own_b (Mw r0 d0)))) (vI 1) (vI r0) (vI d0) [(.ref ky), (iV 1)])) rfl (by rw [hml]; rfl) (Steps.refl _) (argsL := []) (rest := [(iV 1)]) (lenOf pd_21 rfl) rfl (by show 2 * 0 + _ ≤ _; exact Nat.le_of_eq rfl) (D d7_28) (fun _ _ => ⟨rfl, Eq34, (by decide : 0 + 0 ≤ _), (by decide : 0 + 0 ≤ _)⟩)
   dsimp only [Pt.U, Pt.locs, Pt.cells, Pt.slots] at X44 l44 y44 z44 st44 hQ44
   subst l44 y44 z44
   obtain ⟨rfl, Nq44, Eq44⟩ := hQ44
   have N45 := Fr.app Nh36 Nq44
   obtain ⟨Lh46, Xh46, Nh46⟩ := oHd 0 0 X44 N45 rfl rfl
   refine ownSt st44 ?_
   clear st44
   show oA p e below _ T44 (fr_iw1 m x sp en ky 31 (.val (.int (own_b (Mw r0 d0)))) (vI 1) (vI r0) (vI d0) [(iV 1), (iV 1)])
   refine oTo T44 (fr_iw1 m x sp en ky 98 (.val (.int (own_b (Mw r0 d0)))) (vI 1) (vI r0) (vI d0) [(.int (own_b (Mw r0 d0)))]) (fun t kt => ?_) ?_
   ·refine XS.icmpYes Xh46.here hx rfl (pc0 := 31) (pc' := 96) rfl (D d7_31) rfl (flt ((by decide) : ¬ ((1 : Int32) < (1 : Int32)))).2.1 (by decide) (by decide) ?_
    refine XS.iload Xh46.here hx rfl (D d7_96) rfl ?_
    exact kt
   refine ownRet Xh46 Bd.notSynchronized (v := some (.int (nar .boolean (own_b (Mw r0 d0))))) (fun h => by rw [Bd.returns] at h; cases h) ?_ (oLe rfl) (oLe rfl) (fun fs hr => retN Xh46 hx (t := .boolean) Bd.returns (by simp) (D d7_98) hr)
   show (Q_iw1 Z x ta kb cd z vs ky tb kc ce zz wl d0 r0 kk0 kq0 sp en G1 G3 h0 n0) (some (.int (nar .boolean (own_b (Mw r0 d0))))) T44.heap _
   rw [Eq44]
   refine ⟨?_, Nh46, rfl⟩
   rw [own_bt1 hc42]
   rw [own_bt1 (p := (en - sp) = (1 : Int32) ∧ Mw r0 d0) ⟨hc25, hc42⟩]
   rfl
  ·skip
   refine oTo T34 (fr_iw1 m x sp en ky 98 (.val (.int (own_b (Mw r0 d0)))) (vI 1) (vI r0) (vI d0) [(.int (own_b (Mw r0 d0)))]) (fun t kt => ?_) ?_
   ·refine XS.ifYes Xh36.here hx rfl (pc0 := 22) (pc' := 96) rfl (D d7_22) rfl ((if0 _ _).trans (teq (own_bf0 hc42)).1) (by decide) (by decide) ?_
    refine XS.iload Xh36.here hx rfl (D d7_96) rfl ?_
    exact kt
   refine ownRet Xh36 Bd.notSynchronized (v := some (.int (nar .boolean (own_b (Mw r0 d0))))) (fun h => by rw [Bd.returns] at h; cases h) ?_ (oLe rfl) (oLe rfl) (fun fs hr => retN Xh36 hx (t := .boolean) Bd.returns (by simp) (D d7_98) hr)
   show (Q_iw1 Z x ta kb cd z vs ky tb kc ce zz wl d0 r0 kk0 kq0 sp en G1 G3 h0 n0) (some (.int (nar .boolean (own_b (Mw r0 d0))))) T34.heap _
   rw [Eq34]
   refine ⟨?_, Nh36, rfl⟩
   rw [own_bf0 hc42]
   rw [own_bf0 (p := (en - sp) = (1 : Int32) ∧ Mw r0 d0) (fun q => hc42 q.2)]
   rfl
 ·skip
  refine oTo T22 (fr_iw1 m x sp en ky 98 (vI 0) (vI 0) .unset .unset [(iV 0)]) (fun t kt => ?_) ?_
  ·refine XS.icmpYes Xh24.here hx rfl (pc0 := 7) (pc' := 14) rfl (D d7_7) rfl (feq hc25).2 (by decide) (by decide) ?_
   refine XS.iconst Xh24.here hx rfl (D d7_14) ?_
   refine XS.istore Xh24.here hx rfl (D d7_15) rfl (l' := #[vR x, vI sp, vI en, vR ky, vI 0, .unset, .unset, .unset]) rfl ?_
   refine XS.iconst Xh24.here hx rfl (D d7_17) ?_
   show Steps p.tables e below (T22.setTop (fr_iw1 m x sp en ky 18 (vI 0) .unset .unset .unset [(iV 0)])) t
   refine XS.istore Xh24.here hx rfl (D d7_18) rfl (l' := #[vR x, vI sp, vI en, vR ky, vI 0, vI 0, .unset, .unset]) rfl ?_
   refine XS.iload Xh24.here hx rfl (D d7_20) rfl ?_
   refine XS.ifYes Xh24.here hx rfl (pc0 := 22) (pc' := 96) rfl (D d7_22) rfl ((if0 _ _).trans (teq ((by decide) : (0 : Int32) = (0 : Int32))).1) (by decide) (by decide) ?_
   refine XS.iload Xh24.here hx rfl (D d7_96) rfl ?_
   exact kt
  refine ownRet Xh24 Bd.notSynchronized (v := some (.int (nar .boolean (0 : Int32)))) (fun h => by rw [Bd.returns] at h; cases h) ?_ (oLe rfl) (oLe rfl) (fun fs hr => retN Xh24 hx (t := .boolean) Bd.returns (by simp) (D d7_98) hr)
  show (Q_iw1 Z x ta kb cd z vs ky tb kc ce zz wl d0 r0 kk0 kq0 sp en G1 G3 h0 n0) (some (.int (nar .boolean (0 : Int32)))) T22.heap _
  rw [Eq22]
  refine ⟨?_, Nh24, rfl⟩
  rw [own_bf0 (p := (en - sp) = (1 : Int32) ∧ Mw r0 d0) (fun q => hc25 q.1)]
  rfl
abbrev fr_iw2 (m : MethodId) (x : Addr) (sp : Int32) (en : Int32) (ky : Addr) (pc : Nat) (x4_ x5_ x6_ x7_ : Slot) (st : List Value) : JFrame := mkF m pc #[vR x, vI sp, vI en, vR ky, x4_, x5_, x6_, x7_] st
def Q_iw2 (Z : State) (x : Addr) (ta : Addr) (kb : ClassId) (cd : Int32) (z : Int32) (vs : List Value) (ky : Addr) (tb : Addr) (kc : ClassId) (ce : Int32) (zz : Int32) (wl : List Value) (d0 : Int32) (d1 : Int32) (r0 : Int32) (r1 : Int32) (kk0 : Nat) (kk1 : Nat) (kq0 : Nat) (kq1 : Nat) (sp : Int32) (en : Int32) (G1 : Int32) (G3 : Value) (h0 : Heap) (n0 : Nat) (v : Option Value) (h : Heap) (L : List Loc) : Prop := v = some (.int (own_b ((en - sp) = (2 : Int32) ∧ Mw r0 d0 ∧ Mw r1 d1))) ∧ Fr n0 L ∧ h = h0
theorem ef_iw2 (m : MethodId) (x0 : Addr) (x1 : Int32) (x2 : Int32) (x3 : Addr)  : entryFrame m #[(.ref x0), (.int x1), (.int x2), (.ref x3)] 8 = mkF m 0 #[vR x0, vI x1, vI x2, vR x3, .unset, .unset, .unset, .unset] [] := by first | (simp [entryFrame, mkF, argsToLocals, Value.category]; done) | rfl
set_option maxRecDepth 65536 in
set_option maxHeartbeats 40000000 in
theorem c_iw2 (l : Launch) (Z : State) (a0 : Array Value) (hw : HW a0 Z) (ws : List Jvm.Cond) (x : Addr) (ta : Addr) (kb : ClassId) (cd : Int32) (z : Int32) (vs : List Value) (ky : Addr) (tb : Addr) (kc : ClassId) (ce : Int32) (zz : Int32) (wl : List Value) (d0 : Int32) (d1 : Int32) (r0 : Int32) (r1 : Int32) (kk0 : Nat) (kk1 : Nat) (kq0 : Nat) (kq1 : Nat) (sp : Int32) (en : Int32) (G1 : Int32) (G3 : Value) (h0 : Heap) (n0 : Nat) (Z0 : n0 ≤ h0.size) (Es : Exa Z h0 x "java/lang/String") (Vs : Fld Z h0 x "java/lang/String" "value" "[B" (.ref ta)) (Cs : Fld Z h0 x "java/lang/String" "coder" "B" (.int cd)) (Ks : Arv Z h0 ta kb .byte z vs (iV 0)) (Ey : Exa Z h0 ky "java/lang/String") (Vy : Fld Z h0 ky "java/lang/String" "value" "[B" (.ref tb)) (Cy : Fld Z h0 ky "java/lang/String" "coder" "B" (.int ce)) (Ky : Arv Z h0 tb kc .byte zz wl (iV 0)) (hrly : ((ce = (0 : Int32) ∧ zz = (2 : Int32) ∧ wl = [(.int (oL d0)), (.int (oL d1))] ∧ ¬ ((255 : Int32) < d0) ∧ ¬ ((255 : Int32) < d1)) ∨ (ce = (1 : Int32) ∧ zz = (4 : Int32) ∧ wl = [(.int (oW d0)), (.int (oH d0)), (.int (oW d1)), (.int (oH d1))] ∧ ((255 : Int32) < d0 ∨ (255 : Int32) < d1)))) (hd0 : ¬ d0 < 0 ∧ ¬ (65535 : Int32) < d0) (hd1 : ¬ d1 < 0 ∧ ¬ (65535 : Int32) < d1) (hr0 : ¬ r0 < 0 ∧ ¬ (65535 : Int32) < r0) (hr1 : ¬ r1 < 0 ∧ ¬ (65535 : Int32) < r1) (hP0 : Plc cd z vs (sp + (0 : Int32)) r0 kk0 kq0) (hP1 : Plc cd z vs (sp + (1 : Int32)) r1 kk1 kq1) (O2 : Sta Z Z.heap "java/lang/String" "COMPACT_STRINGS" "Z" (.int G1)) (P5 : ¬ (G1 = (0 : Int32))) (SA : Sta Z Z.heap "java/lang/StringUTF16" "$assertionsDisabled" "Z" (iV 1)) (SHI : Sta Z Z.heap "java/lang/StringUTF16" "HI_BYTE_SHIFT" "I" (iV 0)) (SLO : Sta Z Z.heap "java/lang/StringUTF16" "LO_BYTE_SHIFT" "I" (iV 8)) (O4 : Sta Z Z.heap "jdk/internal/util/Preconditions" "SIOOBE_FORMATTER" "Ljava/util/function/BiFunction;" G3) (rG3 : G3.isRef = true) (X00 : Old Z n0 h0) :
  MetFree l yM21 (head1 (Jvm.Cond.code yM21 prog_14_method_9_code 8 (some .boolean) :: ws) ({ frames := 5, cells := 0, slots := 0, locals := 66 } : Room)) (fun a U => a = #[(.ref x), (.int sp), (.int en), (.ref ky)] ∧ Z.Warmed39 U.vm ∧ U.heap = h0) (fun _ _ _ _ _ => True) (fun _ U o U' => ∃ v L, o = .returned v ∧ (Q_iw2 Z x ta kb cd z vs ky tb kc ce zz wl d0 d1 r0 r1 kk0 kk1 kq0 kq1 sp en G1 G3 h0 n0) v U'.heap L ∧ FrameEnd U o U' L ({ frames := 5, cells := 0, slots := 0, locals := 66 } : Room).cells ({ frames := 5, cells := 0, slots := 0, locals := 66 } : Room).slots) := by
 refine MetFree.of_bodySF (plainFor_of_name pn_20) hisR ?_
 intro p e s m args below meth c s₁ Bd hml0 hP hK
 obtain ⟨rfl, hZ, hHp⟩ := hP
 have hx := Bd.exec
 have D := fun {pc : Nat} {r} (h : decode _ pc = r) => hb Bd.bytes h
 have hml : c.maxLocals = 8 := hml0
 have hown : s.vm.findClass "com/example/savepoint/savepoint/SqlDialect" = some m.cls := findClass_of_methodNamed Bd.named
 have hnm := (name_of_methodNamed Bd.named Bd.method).1
 have X0 : Stand p l e ({ frames := 5, cells := 0, slots := 0, locals := 66 } : Room) s m #[(.ref x), (.int sp), (.int en), (.ref ky)] below meth c s₁ [] 0 0 := Stand.of_body Bd
 have e0 : s₁.heap = h0 := by rw [← hHp, Bd.state]; rfl
 have N0 := Fr.nil n0
 refine ownOut (P := (Q_iw2 Z x ta kb cd z vs ky tb kc ce zz wl d0 d1 r0 r1 kk0 kk1 kq0 kq1 sp en G1 G3 h0 n0)) ?_
 refine ownBy (A := s₁.setTop (mkF m 0 #[vR x, vI sp, vI en, vR ky, .unset, .unset, .unset, .unset] [])) (fun t k => castTop (ef_iw2 m x sp en ky) k) ?_
 refine oTo s₁ (fr_iw2 m x sp en ky 4 .unset .unset .unset .unset [(.ref ky), (.int (en - sp))]) (fun t kt => ?_) ?_
 ·refine XS.iloadN X0.here hx rfl (D d7_0) rfl ?_
  refine XS.iloadN X0.here hx rfl (D d7_1) rfl ?_
  refine XS.isub X0.here hx rfl (D d7_2) rfl ?_
  refine XS.aloadN X0.here hx rfl (D d7_3) rfl rfl ?_
  exact kt
 have hL21 : (ce = (0 : Int32) ∧ (zz >>> ((0 : Int32) &&& 31)) = (2 : Int32)) ∨ (ce = (1 : Int32) ∧ (zz >>> ((1 : Int32) &&& 31)) = (2 : Int32)) := by
  rcases hrly with ⟨h1, h2, -⟩ | ⟨h1, h2, -⟩
  ·exact Or.inl ⟨h1, by rw [h2]; decide +kernel⟩
  ·exact Or.inr ⟨h1, by rw [h2]; decide +kernel⟩
 obtain ⟨cq22, kq22, q22a, q22b, q22c⟩ := isOf hZ e0 Ey
 obtain ⟨vv22, _, ⟨T22, L22, k22, n22⟩, -, X22, ⟨Lc22, hQ22, l22, y22, z22⟩, st22⟩ := X0.virtualBack hx (y := yM12) (z := yM12) hown (mvT hZ (Wd36 hw)) (mvT hZ (Wd37 hw)) (notFace_of_selects (args := #[]) (mvT hZ (Wd39 hw))) (mvT hZ (Wd39 hw)) (mvT hZ (Wd38 hw)) (by decide) (backOf (W := 1) (c_leng l Z a0 hw [] ky tb kc ce zz wl (2 : Int32) G1 h0 n0 Z0 Ey Vy Cy Ky hL21 O2 P5 X00) hZ (Wd40 hw) (Wd5 hw) (by decide) (by decide)) q22a q22c (g := (fr_iw2 m x sp en ky 4 .unset .unset .unset .unset [(.ref ky), (.int (en - sp))])) rfl (by rw [hml]; rfl) (Steps.refl _) (argsL := []) (rest := [(.int (en - sp))]) (lenOf pd_21 rfl) rfl (by show 2 * 0 + _ ≤ _; exact Nat.le_of_eq rfl) (D d7_4) (fun _ _ => ⟨rfl, e0, (by decide : 0 + 0 ≤ _), (by decide : 0 + 0 ≤ _)⟩)
 dsimp only [Pt.U, Pt.locs, Pt.cells, Pt.slots] at X22 l22 y22 z22 st22 hQ22
 subst l22 y22 z22
 obtain ⟨rfl, Nq22, Eq22⟩ := hQ22
 have N23 := Fr.app N0 Nq22
 obtain ⟨Lh24, Xh24, Nh24⟩ := oHd 0 0 X22 N23 rfl rfl
 refine ownSt st22 ?_
 clear st22
 show oA p e below _ T22 (fr_iw2 m x sp en ky 7 .unset .unset .unset .unset [(iV 2), (.int (en - sp))])
 by_cases hc25 : (en - sp) = (2 : Int32)
 ·skip
  refine oTo T22 (fr_iw2 m x sp en ky 28 (vI 1) (vI 0) .unset .unset [(.ref ky), (iV 0)]) (fun t kt => ?_) ?_
  ·refine XS.icmpNo Xh24.here hx rfl (D d7_7) rfl (teq hc25).2 ?_
   refine XS.iconst Xh24.here hx rfl (D d7_10) ?_
   refine XS.goto Xh24.here hx rfl (pc0 := 11) (pc' := 15) rfl (D d7_11) (by decide) (by decide) ?_
   refine XS.istore Xh24.here hx rfl (D d7_15) rfl (l' := #[vR x, vI sp, vI en, vR ky, vI 1, .unset, .unset, .unset]) rfl ?_
   show Steps p.tables e below (T22.setTop (fr_iw2 m x sp en ky 17 (vI 1) .unset .unset .unset [])) t
   refine XS.iconst Xh24.here hx rfl (D d7_17) ?_
   refine XS.istore Xh24.here hx rfl (D d7_18) rfl (l' := #[vR x, vI sp, vI en, vR ky, vI 1, vI 0, .unset, .unset]) rfl ?_
   refine XS.iload Xh24.here hx rfl (D d7_20) rfl ?_
   refine XS.ifNo Xh24.here hx rfl (D d7_22) rfl ((if0 _ _).trans (feq ((by decide) : ¬ ((1 : Int32) = (0 : Int32)))).1) ?_
   show Steps p.tables e below (T22.setTop (fr_iw2 m x sp en ky 25 (vI 1) (vI 0) .unset .unset [])) t
   refine XS.iload Xh24.here hx rfl (D d7_25) rfl ?_
   refine XS.aloadN Xh24.here hx rfl (D d7_27) rfl rfl ?_
   exact kt
  have hL26 : (ce = (0 : Int32) ∧ (zz >>> ((0 : Int32) &&& 31)) = (2 : Int32)) ∨ (ce = (1 : Int32) ∧ (zz >>> ((1 : Int32) &&& 31)) = (2 : Int32)) := by
   rcases hrly with ⟨h1, h2, -⟩ | ⟨h1, h2, -⟩
   ·exact Or.inl ⟨h1, by rw [h2]; decide +kernel⟩
   ·exact Or.inr ⟨h1, by rw [h2]; decide +kernel⟩
  obtain ⟨cq27, kq27, q27a, q27b, q27c⟩ := isOf hZ Eq22 Ey
  obtain ⟨vv27, _, ⟨T27, L27, k27, n27⟩, -, X27, ⟨Lc27, hQ27, l27, y27, z27⟩, st27⟩ := Xh24.virtualBack hx (y := yM12) (z := yM12) hown (mvT hZ (Wd36 hw)) (mvT hZ (Wd37 hw)) (notFace_of_selects (args := #[]) (mvT hZ (Wd39 hw))) (mvT hZ (Wd39 hw)) (mvT hZ (Wd38 hw)) (by decide) (backOf (W := 1) (c_leng l Z a0 hw [] ky tb kc ce zz wl (2 : Int32) G1 h0 n0 Z0 Ey Vy Cy Ky hL26 O2 P5 X00) hZ (Wd40 hw) (Wd5 hw) (by decide) (by decide)) q27a q27c (g := (fr_iw2 m x sp en ky 28 (vI 1) (vI 0) .unset .unset [(.ref ky), (iV 0)])) rfl (by rw [hml]; rfl) (Steps.refl _) (argsL := []) (rest := [(iV 0)]) (lenOf pd_21 rfl) rfl (by show 2 * 0 + _ ≤ _; exact Nat.le_of_eq rfl) (D d7_28) (fun _ _ => ⟨rfl, Eq22, (by decide : 0 + 0 ≤ _), (by decide : 0 + 0 ≤ _)⟩)
  dsimp only [Pt.U, Pt.locs, Pt.cells, Pt.slots] at X27 l27 y27 z27 st27 hQ27
  subst l27 y27 z27
  obtain ⟨rfl, Nq27, Eq27⟩ := hQ27
  have N28 := Fr.app Nh24 Nq27
  obtain ⟨Lh29, Xh29, Nh29⟩ := oHd 0 0 X27 N28 rfl rfl
  refine ownSt st27 ?_
  clear st27
  show oA p e below _ T27 (fr_iw2 m x sp en ky 31 (vI 1) (vI 0) .unset .unset [(iV 2), (iV 0)])
  refine oTo T27 (fr_iw2 m x sp en ky 39 (vI 1) (vI 0) .unset .unset [(.int (sp + (0 : Int32))), (.ref x)]) (fun t kt => ?_) ?_
  ·refine XS.icmpNo Xh29.here hx rfl (D d7_31) rfl (tlt ((by decide) : (0 : Int32) < (2 : Int32))).2.1 ?_
   refine XS.aloadN Xh29.here hx rfl (D d7_34) rfl rfl ?_
   refine XS.iloadN Xh29.here hx rfl (D d7_35) rfl ?_
   refine XS.iload Xh29.here hx rfl (D d7_36) rfl ?_
   show Steps p.tables e below (T27.setTop (fr_iw2 m x sp en ky 38 (vI 1) (vI 0) .unset .unset [(iV 0), (.int sp), (.ref x)])) t
   refine XS.iadd Xh29.here hx rfl (D d7_38) rfl ?_
   exact kt
  obtain ⟨cq30, kq30, q30a, q30b, q30c⟩ := isOf hZ Eq27 Es
  obtain ⟨vv30, _, ⟨T30, L30, k30, n30⟩, -, X30, ⟨Lc30, hQ30, l30, y30, z30⟩, st30⟩ := Xh29.virtualBack hx (y := yM19) (z := yM19) hown (mvT hZ (Wd46 hw)) (mvT hZ (Wd47 hw)) (notFace_of_selects (args := #[]) (mvT hZ (Wd49 hw))) (mvT hZ (Wd49 hw)) (mvT hZ (Wd48 hw)) (by decide) (backOf (W := 0) (c_chat l Z a0 hw [] x ta kb cd z vs (sp + (0 : Int32)) r0 kk0 kq0 (5 : Int32) G1 G3 h0 n0 Z0 Es Vs Cs Ks hr0 hP0 O2 P5 SA SHI SLO O4 rG3 X00) hZ (Wd50 hw) (Wd5 hw) (by decide) (by decide)) q30a q30c (g := (fr_iw2 m x sp en ky 39 (vI 1) (vI 0) .unset .unset [(.int (sp + (0 : Int32))), (.ref x)])) rfl (by rw [hml]; rfl) (Steps.refl _) (argsL := [(.int (sp + (0 : Int32)))]) (rest := []) (lenOf pd_22 rfl) rfl (by show 2 * 0 + _ ≤ _; exact Nat.le_of_eq rfl) (D d7_39) (fun _ _ => ⟨rfl, Eq27, (by decide : 0 + 0 ≤ _), (by decide : 0 + 0 ≤ _)⟩)
  dsimp only [Pt.U, Pt.locs, Pt.cells, Pt.slots] at X30 l30 y30 z30 st30 hQ30
  subst l30 y30 z30
  obtain ⟨rfl, Nq30, Eq30⟩ := hQ30
  have N31 := Fr.app Nh29 Nq30
  obtain ⟨Lh32, Xh32, Nh32⟩ := oHd 0 0 X30 N31 rfl rfl
  refine ownSt st30 ?_
  clear st30
  show oA p e below _ T30 (fr_iw2 m x sp en ky 42 (vI 1) (vI 0) .unset .unset [(.int r0)])
  refine oTo T30 (fr_iw2 m x sp en ky 47 (vI 1) (vI 0) (vI r0) .unset [(iV 0), (.ref ky)]) (fun t kt => ?_) ?_
  ·refine XS.istore Xh32.here hx rfl (D d7_42) rfl (l' := #[vR x, vI sp, vI en, vR ky, vI 1, vI 0, vI r0, .unset]) rfl ?_
   refine XS.aloadN Xh32.here hx rfl (D d7_44) rfl rfl ?_
   refine XS.iload Xh32.here hx rfl (D d7_45) rfl ?_
   exact kt
  have hR33 : (ce = (0 : Int32) ∧ (¬ (0 : Int32) < (0 : Int32) ∧ (0 : Int32) < zz) ∧ (0 : Int32).toNatClampNeg = 0 ∧ wl.getD 0 (iV 0) = .int (oL d0) ∧ ¬ ((255 : Int32) < d0)) ∨ (ce = (1 : Int32) ∧ (¬ (0 : Int32) < (0 : Int32) ∧ (0 : Int32) < (2 : Int32)) ∧ (zz >>> ((1 : Int32) &&& 31)) = (2 : Int32) ∧ (¬ ((0 : Int32) <<< ((1 : Int32) &&& 31)) < 0 ∧ ((0 : Int32) <<< ((1 : Int32) &&& 31)) < zz) ∧ (¬ (((0 : Int32) <<< ((1 : Int32) &&& 31)) + (1 : Int32)) < 0 ∧ (((0 : Int32) <<< ((1 : Int32) &&& 31)) + (1 : Int32)) < zz) ∧ ((0 : Int32) <<< ((1 : Int32) &&& 31)).toNatClampNeg = 0 ∧ (((0 : Int32) <<< ((1 : Int32) &&& 31)) + (1 : Int32)).toNatClampNeg = 0 + 1 ∧ wl.getD 0 (iV 0) = .int (oW d0) ∧ wl.getD (0 + 1) (iV 0) = .int (oH d0)) := by
   rcases hrly with ⟨h1, h2, h3, g0, g1⟩ | ⟨h1, h2, h3, -⟩
   ·exact Or.inl ⟨h1, by rw [h2]; decide +kernel, rfl, by rw [h3]; rfl, g0⟩
   ·exact Or.inr ⟨h1, by decide +kernel, by rw [h2]; decide +kernel, by rw [h2]; decide +kernel, by rw [h2]; decide +kernel, by decide +kernel, by decide +kernel, by rw [h3]; rfl, by rw [h3]; rfl⟩
  obtain ⟨cq34, kq34, q34a, q34b, q34c⟩ := isOf hZ Eq30 Ey
  obtain ⟨vv34, _, ⟨T34, L34, k34, n34⟩, -, X34, ⟨Lc34, hQ34, l34, y34, z34⟩, st34⟩ := Xh32.virtualBack hx (y := yM19) (z := yM19) hown (mvT hZ (Wd46 hw)) (mvT hZ (Wd47 hw)) (notFace_of_selects (args := #[]) (mvT hZ (Wd49 hw))) (mvT hZ (Wd49 hw)) (mvT hZ (Wd48 hw)) (by decide) (backOf (W := 0) (c_chat l Z a0 hw [] ky tb kc ce zz wl (0 : Int32) d0 0 0 (2 : Int32) G1 G3 h0 n0 Z0 Ey Vy Cy Ky hd0 hR33 O2 P5 SA SHI SLO O4 rG3 X00) hZ (Wd50 hw) (Wd5 hw) (by decide) (by decide)) q34a q34c (g := (fr_iw2 m x sp en ky 47 (vI 1) (vI 0) (vI r0) .unset [(iV 0), (.ref ky)])) rfl (by rw [hml]; rfl) (Steps.refl _) (argsL := [(iV 0)]) (rest := []) (lenOf pd_22 rfl) rfl (by show 2 * 0 + _ ≤ _; exact Nat.le_of_eq rfl) (D d7_47) (fun _ _ => ⟨rfl, Eq30, (by decide : 0 + 0 ≤ _), (by decide : 0 + 0 ≤ _)⟩)
  dsimp only [Pt.U, Pt.locs, Pt.cells, Pt.slots] at X34 l34 y34 z34 st34 hQ34
  subst l34 y34 z34
  obtain ⟨rfl, Nq34, Eq34⟩ := hQ34
  have N35 := Fr.app Nh32 Nq34
  obtain ⟨Lh36, Xh36, Nh36⟩ := oHd 0 0 X34 N35 rfl rfl
  refine ownSt st34 ?_
  clear st34
  show oA p e below _ T34 (fr_iw2 m x sp en ky 50 (vI 1) (vI 0) (vI r0) .unset [(.int d0)])
  refine oTo T34 (fr_iw2 m x sp en ky 52 (vI 1) (vI 0) (vI r0) (vI d0) []) (fun t kt => ?_) ?_
  ·refine XS.istore Xh36.here hx rfl (D d7_50) rfl (l' := #[vR x, vI sp, vI en, vR ky, vI 1, vI 0, vI r0, vI d0]) rfl ?_
   exact kt
  have seg37 : ∀ t, Steps p.tables e below (T34.setTop (fr_iw2 m x sp en ky 88 (vI 1) (vI 0) (vI r0) (vI d0) [(.int (own_b (Mw r0 d0)))])) t → Steps p.tables e below (T34.setTop (fr_iw2 m x sp en ky 52 (vI 1) (vI 0) (vI r0) (vI d0) [])) t := by
   intro t kt
   show Steps p.tables e below (T34.setTop (fr_iw2 m x sp en ky 52 (vI 1) (vI 0) (vI r0) (vI d0) [])) t
   refine XS.iload Xh36.here hx rfl (D d7_52) rfl ?_
   refine XS.iload Xh36.here hx rfl (D d7_54) rfl ?_
   show Steps p.tables e below (T34.setTop (fr_iw2 m x sp en ky 56 (vI 1) (vI 0) (vI r0) (vI d0) [(.int d0), (.int r0)])) t
   by_cases hc38 : r0 = d0
   ·skip
    show Steps p.tables e below (T34.setTop (fr_iw2 m x sp en ky 56 (vI 1) (vI 0) (vI r0) (vI d0) [(.int d0), (.int r0)])) t
    refine XS.icmpYes Xh36.here hx rfl (pc0 := 56) (pc' := 83) rfl (D d7_56) rfl (teq hc38).1 (by decide) (by decide) ?_
    refine XS.iconst Xh36.here hx rfl (D d7_83) ?_
    refine XS.goto Xh36.here hx rfl (pc0 := 84) (pc' := 88) rfl (D d7_84) (by decide) (by decide) ?_
    show Steps p.tables e below (T34.setTop (fr_iw2 m x sp en ky 88 (vI 1) (vI 0) (vI r0) (vI d0) [(iV 1)])) t
    rw [show (own_b (Mw r0 d0)) = (1 : Int32) from by simp [own_b, Mw, hc38]] at kt
    exact kt
   ·skip
    show Steps p.tables e below (T34.setTop (fr_iw2 m x sp en ky 56 (vI 1) (vI 0) (vI r0) (vI d0) [(.int d0), (.int r0)])) t
    refine XS.icmpNo Xh36.here hx rfl (D d7_56) rfl (feq hc38).1 ?_
    refine XS.iload Xh36.here hx rfl (D d7_59) rfl ?_
    refine XS.bipush Xh36.here hx rfl (D d7_61) ?_
    show Steps p.tables e below (T34.setTop (fr_iw2 m x sp en ky 63 (vI 1) (vI 0) (vI r0) (vI d0) [(iV 65), (.int d0)])) t
    by_cases hc39 : d0 < (65 : Int32)
    ·skip
     show Steps p.tables e below (T34.setTop (fr_iw2 m x sp en ky 63 (vI 1) (vI 0) (vI r0) (vI d0) [(iV 65), (.int d0)])) t
     refine XS.icmpYes Xh36.here hx rfl (pc0 := 63) (pc' := 87) rfl (D d7_63) rfl (tlt hc39).1 (by decide) (by decide) ?_
     refine XS.iconst Xh36.here hx rfl (D d7_87) ?_
     show Steps p.tables e below (T34.setTop (fr_iw2 m x sp en ky 88 (vI 1) (vI 0) (vI r0) (vI d0) [(iV 0)])) t
     rw [show (own_b (Mw r0 d0)) = (0 : Int32) from by simp [own_b, Mw, hc38, hc39]] at kt
     exact kt
    ·skip
     show Steps p.tables e below (T34.setTop (fr_iw2 m x sp en ky 63 (vI 1) (vI 0) (vI r0) (vI d0) [(iV 65), (.int d0)])) t
     refine XS.icmpNo Xh36.here hx rfl (D d7_63) rfl (flt hc39).1 ?_
     refine XS.iload Xh36.here hx rfl (D d7_66) rfl ?_
     refine XS.bipush Xh36.here hx rfl (D d7_68) ?_
     show Steps p.tables e below (T34.setTop (fr_iw2 m x sp en ky 70 (vI 1) (vI 0) (vI r0) (vI d0) [(iV 90), (.int d0)])) t
     by_cases hc40 : (90 : Int32) < d0
     ·skip
      show Steps p.tables e below (T34.setTop (fr_iw2 m x sp en ky 70 (vI 1) (vI 0) (vI r0) (vI d0) [(iV 90), (.int d0)])) t
      refine XS.icmpYes Xh36.here hx rfl (pc0 := 70) (pc' := 87) rfl (D d7_70) rfl (tlt hc40).2.2.1 (by decide) (by decide) ?_
      refine XS.iconst Xh36.here hx rfl (D d7_87) ?_
      show Steps p.tables e below (T34.setTop (fr_iw2 m x sp en ky 88 (vI 1) (vI 0) (vI r0) (vI d0) [(iV 0)])) t
      rw [show (own_b (Mw r0 d0)) = (0 : Int32) from by simp [own_b, Mw, hc38, hc39, hc40]] at kt
      exact kt
     ·skip
      show Steps p.tables e below (T34.setTop (fr_iw2 m x sp en ky 70 (vI 1) (vI 0) (vI r0) (vI d0) [(iV 90), (.int d0)])) t
      refine XS.icmpNo Xh36.here hx rfl (D d7_70) rfl (flt hc40).2.2.1 ?_
      refine XS.iload Xh36.here hx rfl (D d7_73) rfl ?_
      refine XS.iload Xh36.here hx rfl (D d7_75) rfl ?_
      refine XS.bipush Xh36.here hx rfl (D d7_77) ?_
      show Steps p.tables e below (T34.setTop (fr_iw2 m x sp en ky 79 (vI 1) (vI 0) (vI r0) (vI d0) [(iV 32), (.int d0), (.int r0)])) t
      refine XS.ior Xh36.here hx rfl (D d7_79) rfl ?_
      show Steps p.tables e below (T34.setTop (fr_iw2 m x sp en ky 80 (vI 1) (vI 0) (vI r0) (vI d0) [(.int (d0 ||| (32 : Int32))), (.int r0)])) t
      by_cases hc41 : r0 = (d0 ||| (32 : Int32))
      ·skip
       show Steps p.tables e below (T34.setTop (fr_iw2 m x sp en ky 80 (vI 1) (vI 0) (vI r0) (vI d0) [(.int (d0 ||| (32 : Int32))), (.int r0)])) t
       refine XS.icmpNo Xh36.here hx rfl (D d7_80) rfl (teq hc41).2 ?_
       refine XS.iconst Xh36.here hx rfl (D d7_83) ?_
       refine XS.goto Xh36.here hx rfl (pc0 := 84) (pc' := 88) rfl (D d7_84) (by decide) (by decide) ?_
       show Steps p.tables e below (T34.setTop (fr_iw2 m x sp en ky 88 (vI 1) (vI 0) (vI r0) (vI d0) [(iV 1)])) t
       rw [show (own_b (Mw r0 d0)) = (1 : Int32) from by simp [own_b, Mw, hc38, hc39, hc40, hc41]] at kt
       exact kt
      ·skip
       show Steps p.tables e below (T34.setTop (fr_iw2 m x sp en ky 80 (vI 1) (vI 0) (vI r0) (vI d0) [(.int (d0 ||| (32 : Int32))), (.int r0)])) t
       refine XS.icmpYes Xh36.here hx rfl (pc0 := 80) (pc' := 87) rfl (D d7_80) rfl (feq hc41).2 (by decide) (by decide) ?_
       refine XS.iconst Xh36.here hx rfl (D d7_87) ?_
       show Steps p.tables e below (T34.setTop (fr_iw2 m x sp en ky 88 (vI 1) (vI 0) (vI r0) (vI d0) [(iV 0)])) t
       rw [show (own_b (Mw r0 d0)) = (0 : Int32) from by simp [own_b, Mw, hc38, hc39, hc40, hc41]] at kt
       exact kt
  refine ownBy seg37 ?_
  show oA p e below _ T34 (fr_iw2 m x sp en ky 88 (vI 1) (vI 0) (vI r0) (vI d0) [(.int (own_b (Mw r0 d0)))])
  refine oTo T34 (fr_iw2 m x sp en ky 22 (.val (.int (own_b (Mw r0 d0)))) (vI 1) (vI r0) (vI d0) [(.int (own_b (Mw r0 d0)))]) (fun t kt => ?_) ?_
  ·refine XS.istore Xh36.here hx rfl (D d7_88) rfl (l' := #[vR x, vI sp, vI en, vR ky, .val (.int (own_b (Mw r0 d0))), vI 0, vI r0, vI d0]) rfl ?_
   refine XS.iinc Xh36.here hx rfl (D d7_90) rfl (l' := #[vR x, vI sp, vI en, vR ky, .val (.int (own_b (Mw r0 d0))), vI 1, vI r0, vI d0]) rfl ?_
   refine XS.goto Xh36.here hx rfl (pc0 := 93) (pc' := 20) rfl (D d7_93) (by decide) (by decide) ?_
   refine XS.iload Xh36.here hx rfl (D d7_20) rfl ?_
   exact kt
  by_cases hc42 : Mw r0 d0
  ·skip
   refine oTo T34 (fr_iw2 m x sp en ky 28 (.val (.int (own_b (Mw r0 d0)))) (vI 1) (vI r0) (vI d0) [(.ref ky), (iV 1)]) (fun t kt => ?_) ?_
   ·refine XS.ifNo Xh36.here hx rfl (D d7_22) rfl ((if0 _ _).trans (feq (own_bt0 hc42)).1) ?_
    refine XS.iload Xh36.here hx rfl (D d7_25) rfl ?_
    refine XS.aloadN Xh36.here hx rfl (D d7_27) rfl rfl ?_
    exact kt
   have hL43 : (ce = (0 : Int32) ∧ (zz >>> ((0 : Int32) &&& 31)) = (2 : Int32)) ∨ (ce = (1 : Int32) ∧ (zz >>> ((1 : Int32) &&& 31)) = (2 : Int32)) := by
    rcases hrly with ⟨h1, h2, -⟩ | ⟨h1, h2, -⟩
    ·exact Or.inl ⟨h1, by rw [h2]; decide +kernel⟩
    ·exact Or.inr ⟨h1, by rw [h2]; decide +kernel⟩
   obtain ⟨cq44, kq44, q44a, q44b, q44c⟩ := isOf hZ Eq34 Ey
   obtain ⟨vv44, _, ⟨T44, L44, k44, n44⟩, -, X44, ⟨Lc44, hQ44, l44, y44, z44⟩, st44⟩ := Xh36.virtualBack hx (y := yM12) (z := yM12) hown (mvT hZ (Wd36 hw)) (mvT hZ (Wd37 hw)) (notFace_of_selects (args := #[]) (mvT hZ (Wd39 hw))) (mvT hZ (Wd39 hw)) (mvT hZ (Wd38 hw)) (by decide) (backOf (W := 1) (c_leng l Z a0 hw [] ky tb kc ce zz wl (2 : Int32) G1 h0 n0 Z0 Ey Vy Cy Ky hL43 O2 P5 X00) hZ (Wd40 hw) (Wd5 hw) (by decide) (by decide)) q44a q44c (g := (fr_iw2 m x sp en ky 28 (.val (.int (own_b (Mw r0 d0)))) (vI 1) (vI r0) (vI d0) [(.ref ky), (iV 1)])) rfl (by rw [hml]; rfl) (Steps.refl _) (argsL := []) (rest := [(iV 1)]) (lenOf pd_21 rfl) rfl (by show 2 * 0 + _ ≤ _; exact Nat.le_of_eq rfl) (D d7_28) (fun _ _ => ⟨rfl, Eq34, (by decide : 0 + 0 ≤ _), (by decide : 0 + 0 ≤ _)⟩)
   dsimp only [Pt.U, Pt.locs, Pt.cells, Pt.slots] at X44 l44 y44 z44 st44 hQ44
   subst l44 y44 z44
   obtain ⟨rfl, Nq44, Eq44⟩ := hQ44
   have N45 := Fr.app Nh36 Nq44
   obtain ⟨Lh46, Xh46, Nh46⟩ := oHd 0 0 X44 N45 rfl rfl
   refine ownSt st44 ?_
   clear st44
   show oA p e below _ T44 (fr_iw2 m x sp en ky 31 (.val (.int (own_b (Mw r0 d0)))) (vI 1) (vI r0) (vI d0) [(iV 2), (iV 1)])
   refine oTo T44 (fr_iw2 m x sp en ky 39 (.val (.int (own_b (Mw r0 d0)))) (vI 1) (vI r0) (vI d0) [(.int (sp + (1 : Int32))), (.ref x)]) (fun t kt => ?_) ?_
   ·refine XS.icmpNo Xh46.here hx rfl (D d7_31) rfl (tlt ((by decide) : (1 : Int32) < (2 : Int32))).2.1 ?_
    refine XS.aloadN Xh46.here hx rfl (D d7_34) rfl rfl ?_
    refine XS.iloadN Xh46.here hx rfl (D d7_35) rfl ?_
    refine XS.iload Xh46.here hx rfl (D d7_36) rfl ?_
    show Steps p.tables e below (T44.setTop (fr_iw2 m x sp en ky 38 (.val (.int (own_b (Mw r0 d0)))) (vI 1) (vI r0) (vI d0) [(iV 1), (.int sp), (.ref x)])) t
    refine XS.iadd Xh46.here hx rfl (D d7_38) rfl ?_
    exact kt
   obtain ⟨cq47, kq47, q47a, q47b, q47c⟩ := isOf hZ Eq44 Es
   obtain ⟨vv47, _, ⟨T47, L47, k47, n47⟩, -, X47, ⟨Lc47, hQ47, l47, y47, z47⟩, st47⟩ := Xh46.virtualBack hx (y := yM19) (z := yM19) hown (mvT hZ (Wd46 hw)) (mvT hZ (Wd47 hw)) (notFace_of_selects (args := #[]) (mvT hZ (Wd49 hw))) (mvT hZ (Wd49 hw)) (mvT hZ (Wd48 hw)) (by decide) (backOf (W := 0) (c_chat l Z a0 hw [] x ta kb cd z vs (sp + (1 : Int32)) r1 kk1 kq1 (5 : Int32) G1 G3 h0 n0 Z0 Es Vs Cs Ks hr1 hP1 O2 P5 SA SHI SLO O4 rG3 X00) hZ (Wd50 hw) (Wd5 hw) (by decide) (by decide)) q47a q47c (g := (fr_iw2 m x sp en ky 39 (.val (.int (own_b (Mw r0 d0)))) (vI 1) (vI r0) (vI d0) [(.int (sp + (1 : Int32))), (.ref x)])) rfl (by rw [hml]; rfl) (Steps.refl _) (argsL := [(.int (sp + (1 : Int32)))]) (rest := []) (lenOf pd_22 rfl) rfl (by show 2 * 0 + _ ≤ _; exact Nat.le_of_eq rfl) (D d7_39) (fun _ _ => ⟨rfl, Eq44, (by decide : 0 + 0 ≤ _), (by decide : 0 + 0 ≤ _)⟩)
   dsimp only [Pt.U, Pt.locs, Pt.cells, Pt.slots] at X47 l47 y47 z47 st47 hQ47
   subst l47 y47 z47
   obtain ⟨rfl, Nq47, Eq47⟩ := hQ47
   have N48 := Fr.app Nh46 Nq47
   obtain ⟨Lh49, Xh49, Nh49⟩ := oHd 0 0 X47 N48 rfl rfl
   refine ownSt st47 ?_
   clear st47
   show oA p e below _ T47 (fr_iw2 m x sp en ky 42 (.val (.int (own_b (Mw r0 d0)))) (vI 1) (vI r0) (vI d0) [(.int r1)])
   refine oTo T47 (fr_iw2 m x sp en ky 47 (.val (.int (own_b (Mw r0 d0)))) (vI 1) (vI r1) (vI d0) [(iV 1), (.ref ky)]) (fun t kt => ?_) ?_
   ·refine XS.istore Xh49.here hx rfl (D d7_42) rfl (l' := #[vR x, vI sp, vI en, vR ky, .val (.int (own_b (Mw r0 d0))), vI 1, vI r1, vI d0]) rfl ?_
    refine XS.aloadN Xh49.here hx rfl (D d7_44) rfl rfl ?_
    refine XS.iload Xh49.here hx rfl (D d7_45) rfl ?_
    exact kt
   have hR50 : (ce = (0 : Int32) ∧ (¬ (1 : Int32) < (0 : Int32) ∧ (1 : Int32) < zz) ∧ (1 : Int32).toNatClampNeg = 1 ∧ wl.getD 1 (iV 0) = .int (oL d1) ∧ ¬ ((255 : Int32) < d1)) ∨ (ce = (1 : Int32) ∧ (¬ (1 : Int32) < (0 : Int32) ∧ (1 : Int32) < (2 : Int32)) ∧ (zz >>> ((1 : Int32) &&& 31)) = (2 : Int32) ∧ (¬ ((1 : Int32) <<< ((1 : Int32) &&& 31)) < 0 ∧ ((1 : Int32) <<< ((1 : Int32) &&& 31)) < zz) ∧ (¬ (((1 : Int32) <<< ((1 : Int32) &&& 31)) + (1 : Int32)) < 0 ∧ (((1 : Int32) <<< ((1 : Int32) &&& 31)) + (1 : Int32)) < zz) ∧ ((1 : Int32) <<< ((1 : Int32) &&& 31)).toNatClampNeg = 2 ∧ (((1 : Int32) <<< ((1 : Int32) &&& 31)) + (1 : Int32)).toNatClampNeg = 2 + 1 ∧ wl.getD 2 (iV 0) = .int (oW d1) ∧ wl.getD (2 + 1) (iV 0) = .int (oH d1)) := by
    rcases hrly with ⟨h1, h2, h3, g0, g1⟩ | ⟨h1, h2, h3, -⟩
    ·exact Or.inl ⟨h1, by rw [h2]; decide +kernel, rfl, by rw [h3]; rfl, g1⟩
    ·exact Or.inr ⟨h1, by decide +kernel, by rw [h2]; decide +kernel, by rw [h2]; decide +kernel, by rw [h2]; decide +kernel, by decide +kernel, by decide +kernel, by rw [h3]; rfl, by rw [h3]; rfl⟩
   obtain ⟨cq51, kq51, q51a, q51b, q51c⟩ := isOf hZ Eq47 Ey
   obtain ⟨vv51, _, ⟨T51, L51, k51, n51⟩, -, X51, ⟨Lc51, hQ51, l51, y51, z51⟩, st51⟩ := Xh49.virtualBack hx (y := yM19) (z := yM19) hown (mvT hZ (Wd46 hw)) (mvT hZ (Wd47 hw)) (notFace_of_selects (args := #[]) (mvT hZ (Wd49 hw))) (mvT hZ (Wd49 hw)) (mvT hZ (Wd48 hw)) (by decide) (backOf (W := 0) (c_chat l Z a0 hw [] ky tb kc ce zz wl (1 : Int32) d1 1 2 (2 : Int32) G1 G3 h0 n0 Z0 Ey Vy Cy Ky hd1 hR50 O2 P5 SA SHI SLO O4 rG3 X00) hZ (Wd50 hw) (Wd5 hw) (by decide) (by decide)) q51a q51c (g := (fr_iw2 m x sp en ky 47 (.val (.int (own_b (Mw r0 d0)))) (vI 1) (vI r1) (vI d0) [(iV 1), (.ref ky)])) rfl (by rw [hml]; rfl) (Steps.refl _) (argsL := [(iV 1)]) (rest := []) (lenOf pd_22 rfl) rfl (by show 2 * 0 + _ ≤ _; exact Nat.le_of_eq rfl) (D d7_47) (fun _ _ => ⟨rfl, Eq47, (by decide : 0 + 0 ≤ _), (by decide : 0 + 0 ≤ _)⟩)
   dsimp only [Pt.U, Pt.locs, Pt.cells, Pt.slots] at X51 l51 y51 z51 st51 hQ51
   subst l51 y51 z51
   obtain ⟨rfl, Nq51, Eq51⟩ := hQ51
   have N52 := Fr.app Nh49 Nq51
   obtain ⟨Lh53, Xh53, Nh53⟩ := oHd 0 0 X51 N52 rfl rfl
   refine ownSt st51 ?_
   clear st51
   show oA p e below _ T51 (fr_iw2 m x sp en ky 50 (.val (.int (own_b (Mw r0 d0)))) (vI 1) (vI r1) (vI d0) [(.int d1)])
   refine oTo T51 (fr_iw2 m x sp en ky 52 (.val (.int (own_b (Mw r0 d0)))) (vI 1) (vI r1) (vI d1) []) (fun t kt => ?_) ?_
   ·refine XS.istore Xh53.here hx rfl (D d7_50) rfl (l' := #[vR x, vI sp, vI en, vR ky, .val (.int (own_b (Mw r0 d0))), vI 1, vI r1, vI d1]) rfl ?_
    exact kt
   have seg54 : ∀ t, Steps p.tables e below (T51.setTop (fr_iw2 m x sp en ky 88 (.val (.int (own_b (Mw r0 d0)))) (vI 1) (vI r1) (vI d1) [(.int (own_b (Mw r1 d1)))])) t → Steps p.tables e below (T51.setTop (fr_iw2 m x sp en ky 52 (.val (.int (own_b (Mw r0 d0)))) (vI 1) (vI r1) (vI d1) [])) t := by
    intro t kt
    show Steps p.tables e below (T51.setTop (fr_iw2 m x sp en ky 52 (.val (.int (own_b (Mw r0 d0)))) (vI 1) (vI r1) (vI d1) [])) t
    refine XS.iload Xh53.here hx rfl (D d7_52) rfl ?_
    refine XS.iload Xh53.here hx rfl (D d7_54) rfl ?_
    show Steps p.tables e below (T51.setTop (fr_iw2 m x sp en ky 56 (.val (.int (own_b (Mw r0 d0)))) (vI 1) (vI r1) (vI d1) [(.int d1), (.int r1)])) t
    by_cases hc55 : r1 = d1
    ·skip
     show Steps p.tables e below (T51.setTop (fr_iw2 m x sp en ky 56 (.val (.int (own_b (Mw r0 d0)))) (vI 1) (vI r1) (vI d1) [(.int d1), (.int r1)])) t
     refine XS.icmpYes Xh53.here hx rfl (pc0 := 56) (pc' := 83) rfl (D d7_56) rfl (teq hc55).1 (by decide) (by decide) ?_
     refine XS.iconst Xh53.here hx rfl (D d7_83) ?_
     refine XS.goto Xh53.here hx rfl (pc0 := 84) (pc' := 88) rfl (D d7_84) (by decide) (by decide) ?_
     show Steps p.tables e below (T51.setTop (fr_iw2 m x sp en ky 88 (.val (.int (own_b (Mw r0 d0)))) (vI 1) (vI r1) (vI d1) [(iV 1)])) t
     rw [show (own_b (Mw r1 d1)) = (1 : Int32) from by simp [own_b, Mw, hc55]] at kt
     exact kt
    ·skip
     show Steps p.tables e below (T51.setTop (fr_iw2 m x sp en ky 56 (.val (.int (own_b (Mw r0 d0)))) (vI 1) (vI r1) (vI d1) [(.int d1), (.int r1)])) t
     refine XS.icmpNo Xh53.here hx rfl (D d7_56) rfl (feq hc55).1 ?_
     refine XS.iload Xh53.here hx rfl (D d7_59) rfl ?_
     refine XS.bipush Xh53.here hx rfl (D d7_61) ?_
     show Steps p.tables e below (T51.setTop (fr_iw2 m x sp en ky 63 (.val (.int (own_b (Mw r0 d0)))) (vI 1) (vI r1) (vI d1) [(iV 65), (.int d1)])) t
     by_cases hc56 : d1 < (65 : Int32)
     ·skip
      show Steps p.tables e below (T51.setTop (fr_iw2 m x sp en ky 63 (.val (.int (own_b (Mw r0 d0)))) (vI 1) (vI r1) (vI d1) [(iV 65), (.int d1)])) t
      refine XS.icmpYes Xh53.here hx rfl (pc0 := 63) (pc' := 87) rfl (D d7_63) rfl (tlt hc56).1 (by decide) (by decide) ?_
      refine XS.iconst Xh53.here hx rfl (D d7_87) ?_
      show Steps p.tables e below (T51.setTop (fr_iw2 m x sp en ky 88 (.val (.int (own_b (Mw r0 d0)))) (vI 1) (vI r1) (vI d1) [(iV 0)])) t
      rw [show (own_b (Mw r1 d1)) = (0 : Int32) from by simp [own_b, Mw, hc55, hc56]] at kt
      exact kt
     ·skip
      show Steps p.tables e below (T51.setTop (fr_iw2 m x sp en ky 63 (.val (.int (own_b (Mw r0 d0)))) (vI 1) (vI r1) (vI d1) [(iV 65), (.int d1)])) t
      refine XS.icmpNo Xh53.here hx rfl (D d7_63) rfl (flt hc56).1 ?_
      refine XS.iload Xh53.here hx rfl (D d7_66) rfl ?_
      refine XS.bipush Xh53.here hx rfl (D d7_68) ?_
      show Steps p.tables e below (T51.setTop (fr_iw2 m x sp en ky 70 (.val (.int (own_b (Mw r0 d0)))) (vI 1) (vI r1) (vI d1) [(iV 90), (.int d1)])) t
      by_cases hc57 : (90 : Int32) < d1
      ·skip
       show Steps p.tables e below (T51.setTop (fr_iw2 m x sp en ky 70 (.val (.int (own_b (Mw r0 d0)))) (vI 1) (vI r1) (vI d1) [(iV 90), (.int d1)])) t
       refine XS.icmpYes Xh53.here hx rfl (pc0 := 70) (pc' := 87) rfl (D d7_70) rfl (tlt hc57).2.2.1 (by decide) (by decide) ?_
       refine XS.iconst Xh53.here hx rfl (D d7_87) ?_
       show Steps p.tables e below (T51.setTop (fr_iw2 m x sp en ky 88 (.val (.int (own_b (Mw r0 d0)))) (vI 1) (vI r1) (vI d1) [(iV 0)])) t
       rw [show (own_b (Mw r1 d1)) = (0 : Int32) from by simp [own_b, Mw, hc55, hc56, hc57]] at kt
       exact kt
      ·skip
       show Steps p.tables e below (T51.setTop (fr_iw2 m x sp en ky 70 (.val (.int (own_b (Mw r0 d0)))) (vI 1) (vI r1) (vI d1) [(iV 90), (.int d1)])) t
       refine XS.icmpNo Xh53.here hx rfl (D d7_70) rfl (flt hc57).2.2.1 ?_
       refine XS.iload Xh53.here hx rfl (D d7_73) rfl ?_
       refine XS.iload Xh53.here hx rfl (D d7_75) rfl ?_
       refine XS.bipush Xh53.here hx rfl (D d7_77) ?_
       show Steps p.tables e below (T51.setTop (fr_iw2 m x sp en ky 79 (.val (.int (own_b (Mw r0 d0)))) (vI 1) (vI r1) (vI d1) [(iV 32), (.int d1), (.int r1)])) t
       refine XS.ior Xh53.here hx rfl (D d7_79) rfl ?_
       show Steps p.tables e below (T51.setTop (fr_iw2 m x sp en ky 80 (.val (.int (own_b (Mw r0 d0)))) (vI 1) (vI r1) (vI d1) [(.int (d1 ||| (32 : Int32))), (.int r1)])) t
       by_cases hc58 : r1 = (d1 ||| (32 : Int32))
       ·skip
        show Steps p.tables e below (T51.setTop (fr_iw2 m x sp en ky 80 (.val (.int (own_b (Mw r0 d0)))) (vI 1) (vI r1) (vI d1) [(.int (d1 ||| (32 : Int32))), (.int r1)])) t
        refine XS.icmpNo Xh53.here hx rfl (D d7_80) rfl (teq hc58).2 ?_
        refine XS.iconst Xh53.here hx rfl (D d7_83) ?_
        refine XS.goto Xh53.here hx rfl (pc0 := 84) (pc' := 88) rfl (D d7_84) (by decide) (by decide) ?_
        show Steps p.tables e below (T51.setTop (fr_iw2 m x sp en ky 88 (.val (.int (own_b (Mw r0 d0)))) (vI 1) (vI r1) (vI d1) [(iV 1)])) t
        rw [show (own_b (Mw r1 d1)) = (1 : Int32) from by simp [own_b, Mw, hc55, hc56, hc57, hc58]] at kt
        exact kt
       ·skip
        show Steps p.tables e below (T51.setTop (fr_iw2 m x sp en ky 80 (.val (.int (own_b (Mw r0 d0)))) (vI 1) (vI r1) (vI d1) [(.int (d1 ||| (32 : Int32))), (.int r1)])) t
        refine XS.icmpYes Xh53.here hx rfl (pc0 := 80) (pc' := 87) rfl (D d7_80) rfl (feq hc58).2 (by decide) (by decide) ?_
        refine XS.iconst Xh53.here hx rfl (D d7_87) ?_
        show Steps p.tables e below (T51.setTop (fr_iw2 m x sp en ky 88 (.val (.int (own_b (Mw r0 d0)))) (vI 1) (vI r1) (vI d1) [(iV 0)])) t
        rw [show (own_b (Mw r1 d1)) = (0 : Int32) from by simp [own_b, Mw, hc55, hc56, hc57, hc58]] at kt
        exact kt
   refine ownBy seg54 ?_
   show oA p e below _ T51 (fr_iw2 m x sp en ky 88 (.val (.int (own_b (Mw r0 d0)))) (vI 1) (vI r1) (vI d1) [(.int (own_b (Mw r1 d1)))])
   refine oTo T51 (fr_iw2 m x sp en ky 22 (.val (.int (own_b (Mw r1 d1)))) (vI 2) (vI r1) (vI d1) [(.int (own_b (Mw r1 d1)))]) (fun t kt => ?_) ?_
   ·refine XS.istore Xh53.here hx rfl (D d7_88) rfl (l' := #[vR x, vI sp, vI en, vR ky, .val (.int (own_b (Mw r1 d1))), vI 1, vI r1, vI d1]) rfl ?_
    refine XS.iinc Xh53.here hx rfl (D d7_90) rfl (l' := #[vR x, vI sp, vI en, vR ky, .val (.int (own_b (Mw r1 d1))), vI 2, vI r1, vI d1]) rfl ?_
    refine XS.goto Xh53.here hx rfl (pc0 := 93) (pc' := 20) rfl (D d7_93) (by decide) (by decide) ?_
    refine XS.iload Xh53.here hx rfl (D d7_20) rfl ?_
    exact kt
   by_cases hc59 : Mw r1 d1
   ·skip
    refine oTo T51 (fr_iw2 m x sp en ky 28 (.val (.int (own_b (Mw r1 d1)))) (vI 2) (vI r1) (vI d1) [(.ref ky), (iV 2)]) (fun t kt => ?_) ?_
    ·refine XS.ifNo Xh53.here hx rfl (D d7_22) rfl ((if0 _ _).trans (feq (own_bt0 hc59)).1) ?_
     refine XS.iload Xh53.here hx rfl (D d7_25) rfl ?_
     refine XS.aloadN Xh53.here hx rfl (D d7_27) rfl rfl ?_
     exact kt
    have hL60 : (ce = (0 : Int32) ∧ (zz >>> ((0 : Int32) &&& 31)) = (2 : Int32)) ∨ (ce = (1 : Int32) ∧ (zz >>> ((1 : Int32) &&& 31)) = (2 : Int32)) := by
     rcases hrly with ⟨h1, h2, -⟩ | ⟨h1, h2, -⟩
     ·exact Or.inl ⟨h1, by rw [h2]; decide +kernel⟩
     ·exact Or.inr ⟨h1, by rw [h2]; decide +kernel⟩
    obtain ⟨cq61, kq61, q61a, q61b, q61c⟩ := isOf hZ Eq51 Ey
    obtain ⟨vv61, _, ⟨T61, L61, k61, n61⟩, -, X61, ⟨Lc61, hQ61, l61, y61, z61⟩, st61⟩ := Xh53.virtualBack hx (y := yM12) (z := yM12) hown (mvT hZ (Wd36 hw)) (mvT hZ (Wd37 hw)) (notFace_of_selects (args := #[]) (mvT hZ (Wd39 hw))) (mvT hZ (Wd39 hw)) (mvT hZ (Wd38 hw)) (by decide) (backOf (W := 1) (c_leng l Z a0 hw [] ky tb kc ce zz wl (2 : Int32) G1 h0 n0 Z0 Ey Vy Cy Ky hL60 O2 P5 X00) hZ (Wd40 hw) (Wd5 hw) (by decide) (by decide)) q61a q61c (g := (fr_iw2 m x sp en ky 28 (.val (.int (own_b (Mw r1 d1)))) (vI 2) (vI r1) (vI d1) [(.ref ky), (iV 2)])) rfl (by rw [hml]; rfl) (Steps.refl _) (argsL := []) (rest := [(iV 2)]) (lenOf pd_21 rfl) rfl (by show 2 * 0 + _ ≤ _; exact Nat.le_of_eq rfl) (D d7_28) (fun _ _ => ⟨rfl, Eq51, (by decide : 0 + 0 ≤ _), (by decide : 0 + 0 ≤ _)⟩)
    dsimp only [Pt.U, Pt.locs, Pt.cells, Pt.slots] at X61 l61 y61 z61 st61 hQ61
    subst l61 y61 z61
    obtain ⟨rfl, Nq61, Eq61⟩ := hQ61
    have N62 := Fr.app Nh53 Nq61
    obtain ⟨Lh63, Xh63, Nh63⟩ := oHd 0 0 X61 N62 rfl rfl
    refine ownSt st61 ?_
    clear st61
    show oA p e below _ T61 (fr_iw2 m x sp en ky 31 (.val (.int (own_b (Mw r1 d1)))) (vI 2) (vI r1) (vI d1) [(iV 2), (iV 2)])
    refine oTo T61 (fr_iw2 m x sp en ky 98 (.val (.int (own_b (Mw r1 d1)))) (vI 2) (vI r1) (vI d1) [(.int (own_b (Mw r1 d1)))]) (fun t kt => ?_) ?_
    ·refine XS.icmpYes Xh63.here hx rfl (pc0 := 31) (pc' := 96) rfl (D d7_31) rfl (flt ((by decide) : ¬ ((2 : Int32) < (2 : Int32)))).2.1 (by decide) (by decide) ?_
     refine XS.iload Xh63.here hx rfl (D d7_96) rfl ?_
     exact kt
    refine ownRet Xh63 Bd.notSynchronized (v := some (.int (nar .boolean (own_b (Mw r1 d1))))) (fun h => by rw [Bd.returns] at h; cases h) ?_ (oLe rfl) (oLe rfl) (fun fs hr => retN Xh63 hx (t := .boolean) Bd.returns (by simp) (D d7_98) hr)
    show (Q_iw2 Z x ta kb cd z vs ky tb kc ce zz wl d0 d1 r0 r1 kk0 kk1 kq0 kq1 sp en G1 G3 h0 n0) (some (.int (nar .boolean (own_b (Mw r1 d1))))) T61.heap _
    rw [Eq61]
    refine ⟨?_, Nh63, rfl⟩
    rw [own_bt1 hc59]
    rw [own_bt1 (p := (en - sp) = (2 : Int32) ∧ Mw r0 d0 ∧ Mw r1 d1) ⟨hc25, hc42, hc59⟩]
    rfl
   ·skip
    refine oTo T51 (fr_iw2 m x sp en ky 98 (.val (.int (own_b (Mw r1 d1)))) (vI 2) (vI r1) (vI d1) [(.int (own_b (Mw r1 d1)))]) (fun t kt => ?_) ?_
    ·refine XS.ifYes Xh53.here hx rfl (pc0 := 22) (pc' := 96) rfl (D d7_22) rfl ((if0 _ _).trans (teq (own_bf0 hc59)).1) (by decide) (by decide) ?_
     refine XS.iload Xh53.here hx rfl (D d7_96) rfl ?_
     exact kt
    refine ownRet Xh53 Bd.notSynchronized (v := some (.int (nar .boolean (own_b (Mw r1 d1))))) (fun h => by rw [Bd.returns] at h; cases h) ?_ (oLe rfl) (oLe rfl) (fun fs hr => retN Xh53 hx (t := .boolean) Bd.returns (by simp) (D d7_98) hr)
    show (Q_iw2 Z x ta kb cd z vs ky tb kc ce zz wl d0 d1 r0 r1 kk0 kk1 kq0 kq1 sp en G1 G3 h0 n0) (some (.int (nar .boolean (own_b (Mw r1 d1))))) T51.heap _
    rw [Eq51]
    refine ⟨?_, Nh53, rfl⟩
    rw [own_bf0 hc59]
    rw [own_bf0 (p := (en - sp) = (2 : Int32) ∧ Mw r0 d0 ∧ Mw r1 d1) (fun q => hc59 q.2.2)]
    rfl
  ·skip
   refine oTo T34 (fr_iw2 m x sp en ky 98 (.val (.int (own_b (Mw r0 d0)))) (vI 1) (vI r0) (vI d0) [(.int (own_b (Mw r0 d0)))]) (fun t kt => ?_) ?_
   ·refine XS.ifYes Xh36.here hx rfl (pc0 := 22) (pc' := 96) rfl (D d7_22) rfl ((if0 _ _).trans (teq (own_bf0 hc42)).1) (by decide) (by decide) ?_
    refine XS.iload Xh36.here hx rfl (D d7_96) rfl ?_
    exact kt
   refine ownRet Xh36 Bd.notSynchronized (v := some (.int (nar .boolean (own_b (Mw r0 d0))))) (fun h => by rw [Bd.returns] at h; cases h) ?_ (oLe rfl) (oLe rfl) (fun fs hr => retN Xh36 hx (t := .boolean) Bd.returns (by simp) (D d7_98) hr)
   show (Q_iw2 Z x ta kb cd z vs ky tb kc ce zz wl d0 d1 r0 r1 kk0 kk1 kq0 kq1 sp en G1 G3 h0 n0) (some (.int (nar .boolean (own_b (Mw r0 d0))))) T34.heap _
   rw [Eq34]
   refine ⟨?_, Nh36, rfl⟩
   rw [own_bf0 hc42]
   rw [own_bf0 (p := (en - sp) = (2 : Int32) ∧ Mw r0 d0 ∧ Mw r1 d1) (fun q => hc42 q.2.1)]
   rfl
 ·skip
  refine oTo T22 (fr_iw2 m x sp en ky 98 (vI 0) (vI 0) .unset .unset [(iV 0)]) (fun t kt => ?_) ?_
  ·refine XS.icmpYes Xh24.here hx rfl (pc0 := 7) (pc' := 14) rfl (D d7_7) rfl (feq hc25).2 (by decide) (by decide) ?_
   refine XS.iconst Xh24.here hx rfl (D d7_14) ?_
   refine XS.istore Xh24.here hx rfl (D d7_15) rfl (l' := #[vR x, vI sp, vI en, vR ky, vI 0, .unset, .unset, .unset]) rfl ?_
   refine XS.iconst Xh24.here hx rfl (D d7_17) ?_
   show Steps p.tables e below (T22.setTop (fr_iw2 m x sp en ky 18 (vI 0) .unset .unset .unset [(iV 0)])) t
   refine XS.istore Xh24.here hx rfl (D d7_18) rfl (l' := #[vR x, vI sp, vI en, vR ky, vI 0, vI 0, .unset, .unset]) rfl ?_
   refine XS.iload Xh24.here hx rfl (D d7_20) rfl ?_
   refine XS.ifYes Xh24.here hx rfl (pc0 := 22) (pc' := 96) rfl (D d7_22) rfl ((if0 _ _).trans (teq ((by decide) : (0 : Int32) = (0 : Int32))).1) (by decide) (by decide) ?_
   refine XS.iload Xh24.here hx rfl (D d7_96) rfl ?_
   exact kt
  refine ownRet Xh24 Bd.notSynchronized (v := some (.int (nar .boolean (0 : Int32)))) (fun h => by rw [Bd.returns] at h; cases h) ?_ (oLe rfl) (oLe rfl) (fun fs hr => retN Xh24 hx (t := .boolean) Bd.returns (by simp) (D d7_98) hr)
  show (Q_iw2 Z x ta kb cd z vs ky tb kc ce zz wl d0 d1 r0 r1 kk0 kk1 kq0 kq1 sp en G1 G3 h0 n0) (some (.int (nar .boolean (0 : Int32)))) T22.heap _
  rw [Eq22]
  refine ⟨?_, Nh24, rfl⟩
  rw [own_bf0 (p := (en - sp) = (2 : Int32) ∧ Mw r0 d0 ∧ Mw r1 d1) (fun q => hc25 q.1)]
  rfl
abbrev fr_iw3 (m : MethodId) (x : Addr) (sp : Int32) (en : Int32) (ky : Addr) (pc : Nat) (x4_ x5_ x6_ x7_ : Slot) (st : List Value) : JFrame := mkF m pc #[vR x, vI sp, vI en, vR ky, x4_, x5_, x6_, x7_] st
def Q_iw3 (Z : State) (x : Addr) (ta : Addr) (kb : ClassId) (cd : Int32) (z : Int32) (vs : List Value) (ky : Addr) (tb : Addr) (kc : ClassId) (ce : Int32) (zz : Int32) (wl : List Value) (d0 : Int32) (d1 : Int32) (d2 : Int32) (r0 : Int32) (r1 : Int32) (r2 : Int32) (kk0 : Nat) (kk1 : Nat) (kk2 : Nat) (kq0 : Nat) (kq1 : Nat) (kq2 : Nat) (sp : Int32) (en : Int32) (G1 : Int32) (G3 : Value) (h0 : Heap) (n0 : Nat) (v : Option Value) (h : Heap) (L : List Loc) : Prop := v = some (.int (own_b ((en - sp) = (3 : Int32) ∧ Mw r0 d0 ∧ Mw r1 d1 ∧ Mw r2 d2))) ∧ Fr n0 L ∧ h = h0
theorem ef_iw3 (m : MethodId) (x0 : Addr) (x1 : Int32) (x2 : Int32) (x3 : Addr)  : entryFrame m #[(.ref x0), (.int x1), (.int x2), (.ref x3)] 8 = mkF m 0 #[vR x0, vI x1, vI x2, vR x3, .unset, .unset, .unset, .unset] [] := by first | (simp [entryFrame, mkF, argsToLocals, Value.category]; done) | rfl
set_option maxRecDepth 65536 in
set_option maxHeartbeats 40000000 in
theorem c_iw3 (l : Launch) (Z : State) (a0 : Array Value) (hw : HW a0 Z) (ws : List Jvm.Cond) (x : Addr) (ta : Addr) (kb : ClassId) (cd : Int32) (z : Int32) (vs : List Value) (ky : Addr) (tb : Addr) (kc : ClassId) (ce : Int32) (zz : Int32) (wl : List Value) (d0 : Int32) (d1 : Int32) (d2 : Int32) (r0 : Int32) (r1 : Int32) (r2 : Int32) (kk0 : Nat) (kk1 : Nat) (kk2 : Nat) (kq0 : Nat) (kq1 : Nat) (kq2 : Nat) (sp : Int32) (en : Int32) (G1 : Int32) (G3 : Value) (h0 : Heap) (n0 : Nat) (Z0 : n0 ≤ h0.size) (Es : Exa Z h0 x "java/lang/String") (Vs : Fld Z h0 x "java/lang/String" "value" "[B" (.ref ta)) (Cs : Fld Z h0 x "java/lang/String" "coder" "B" (.int cd)) (Ks : Arv Z h0 ta kb .byte z vs (iV 0)) (Ey : Exa Z h0 ky "java/lang/String") (Vy : Fld Z h0 ky "java/lang/String" "value" "[B" (.ref tb)) (Cy : Fld Z h0 ky "java/lang/String" "coder" "B" (.int ce)) (Ky : Arv Z h0 tb kc .byte zz wl (iV 0)) (hrly : ((ce = (0 : Int32) ∧ zz = (3 : Int32) ∧ wl = [(.int (oL d0)), (.int (oL d1)), (.int (oL d2))] ∧ ¬ ((255 : Int32) < d0) ∧ ¬ ((255 : Int32) < d1) ∧ ¬ ((255 : Int32) < d2)) ∨ (ce = (1 : Int32) ∧ zz = (6 : Int32) ∧ wl = [(.int (oW d0)), (.int (oH d0)), (.int (oW d1)), (.int (oH d1)), (.int (oW d2)), (.int (oH d2))] ∧ ((255 : Int32) < d0 ∨ (255 : Int32) < d1 ∨ (255 : Int32) < d2)))) (hd0 : ¬ d0 < 0 ∧ ¬ (65535 : Int32) < d0) (hd1 : ¬ d1 < 0 ∧ ¬ (65535 : Int32) < d1) (hd2 : ¬ d2 < 0 ∧ ¬ (65535 : Int32) < d2) (hr0 : ¬ r0 < 0 ∧ ¬ (65535 : Int32) < r0) (hr1 : ¬ r1 < 0 ∧ ¬ (65535 : Int32) < r1) (hr2 : ¬ r2 < 0 ∧ ¬ (65535 : Int32) < r2) (hP0 : Plc cd z vs (sp + (0 : Int32)) r0 kk0 kq0) (hP1 : Plc cd z vs (sp + (1 : Int32)) r1 kk1 kq1) (hP2 : Plc cd z vs (sp + (2 : Int32)) r2 kk2 kq2) (O2 : Sta Z Z.heap "java/lang/String" "COMPACT_STRINGS" "Z" (.int G1)) (P5 : ¬ (G1 = (0 : Int32))) (SA : Sta Z Z.heap "java/lang/StringUTF16" "$assertionsDisabled" "Z" (iV 1)) (SHI : Sta Z Z.heap "java/lang/StringUTF16" "HI_BYTE_SHIFT" "I" (iV 0)) (SLO : Sta Z Z.heap "java/lang/StringUTF16" "LO_BYTE_SHIFT" "I" (iV 8)) (O4 : Sta Z Z.heap "jdk/internal/util/Preconditions" "SIOOBE_FORMATTER" "Ljava/util/function/BiFunction;" G3) (rG3 : G3.isRef = true) (X00 : Old Z n0 h0) :
  MetFree l yM21 (head1 (Jvm.Cond.code yM21 prog_14_method_9_code 8 (some .boolean) :: ws) ({ frames := 5, cells := 0, slots := 0, locals := 66 } : Room)) (fun a U => a = #[(.ref x), (.int sp), (.int en), (.ref ky)] ∧ Z.Warmed39 U.vm ∧ U.heap = h0) (fun _ _ _ _ _ => True) (fun _ U o U' => ∃ v L, o = .returned v ∧ (Q_iw3 Z x ta kb cd z vs ky tb kc ce zz wl d0 d1 d2 r0 r1 r2 kk0 kk1 kk2 kq0 kq1 kq2 sp en G1 G3 h0 n0) v U'.heap L ∧ FrameEnd U o U' L ({ frames := 5, cells := 0, slots := 0, locals := 66 } : Room).cells ({ frames := 5, cells := 0, slots := 0, locals := 66 } : Room).slots) := by
 refine MetFree.of_bodySF (plainFor_of_name pn_20) hisR ?_
 intro p e s m args below meth c s₁ Bd hml0 hP hK
 obtain ⟨rfl, hZ, hHp⟩ := hP
 have hx := Bd.exec
 have D := fun {pc : Nat} {r} (h : decode _ pc = r) => hb Bd.bytes h
 have hml : c.maxLocals = 8 := hml0
 have hown : s.vm.findClass "com/example/savepoint/savepoint/SqlDialect" = some m.cls := findClass_of_methodNamed Bd.named
 have hnm := (name_of_methodNamed Bd.named Bd.method).1
 have X0 : Stand p l e ({ frames := 5, cells := 0, slots := 0, locals := 66 } : Room) s m #[(.ref x), (.int sp), (.int en), (.ref ky)] below meth c s₁ [] 0 0 := Stand.of_body Bd
 have e0 : s₁.heap = h0 := by rw [← hHp, Bd.state]; rfl
 have N0 := Fr.nil n0
 refine ownOut (P := (Q_iw3 Z x ta kb cd z vs ky tb kc ce zz wl d0 d1 d2 r0 r1 r2 kk0 kk1 kk2 kq0 kq1 kq2 sp en G1 G3 h0 n0)) ?_
 refine ownBy (A := s₁.setTop (mkF m 0 #[vR x, vI sp, vI en, vR ky, .unset, .unset, .unset, .unset] [])) (fun t k => castTop (ef_iw3 m x sp en ky) k) ?_
 refine oTo s₁ (fr_iw3 m x sp en ky 4 .unset .unset .unset .unset [(.ref ky), (.int (en - sp))]) (fun t kt => ?_) ?_
 ·refine XS.iloadN X0.here hx rfl (D d7_0) rfl ?_
  refine XS.iloadN X0.here hx rfl (D d7_1) rfl ?_
  refine XS.isub X0.here hx rfl (D d7_2) rfl ?_
  refine XS.aloadN X0.here hx rfl (D d7_3) rfl rfl ?_
  exact kt
 have hL21 : (ce = (0 : Int32) ∧ (zz >>> ((0 : Int32) &&& 31)) = (3 : Int32)) ∨ (ce = (1 : Int32) ∧ (zz >>> ((1 : Int32) &&& 31)) = (3 : Int32)) := by
  rcases hrly with ⟨h1, h2, -⟩ | ⟨h1, h2, -⟩
  ·exact Or.inl ⟨h1, by rw [h2]; decide +kernel⟩
  ·exact Or.inr ⟨h1, by rw [h2]; decide +kernel⟩
 obtain ⟨cq22, kq22, q22a, q22b, q22c⟩ := isOf hZ e0 Ey
 obtain ⟨vv22, _, ⟨T22, L22, k22, n22⟩, -, X22, ⟨Lc22, hQ22, l22, y22, z22⟩, st22⟩ := X0.virtualBack hx (y := yM12) (z := yM12) hown (mvT hZ (Wd36 hw)) (mvT hZ (Wd37 hw)) (notFace_of_selects (args := #[]) (mvT hZ (Wd39 hw))) (mvT hZ (Wd39 hw)) (mvT hZ (Wd38 hw)) (by decide) (backOf (W := 1) (c_leng l Z a0 hw [] ky tb kc ce zz wl (3 : Int32) G1 h0 n0 Z0 Ey Vy Cy Ky hL21 O2 P5 X00) hZ (Wd40 hw) (Wd5 hw) (by decide) (by decide)) q22a q22c (g := (fr_iw3 m x sp en ky 4 .unset .unset .unset .unset [(.ref ky), (.int (en - sp))])) rfl (by rw [hml]; rfl) (Steps.refl _) (argsL := []) (rest := [(.int (en - sp))]) (lenOf pd_21 rfl) rfl (by show 2 * 0 + _ ≤ _; exact Nat.le_of_eq rfl) (D d7_4) (fun _ _ => ⟨rfl, e0, (by decide : 0 + 0 ≤ _), (by decide : 0 + 0 ≤ _)⟩)
 dsimp only [Pt.U, Pt.locs, Pt.cells, Pt.slots] at X22 l22 y22 z22 st22 hQ22
 subst l22 y22 z22
 obtain ⟨rfl, Nq22, Eq22⟩ := hQ22
 have N23 := Fr.app N0 Nq22
 obtain ⟨Lh24, Xh24, Nh24⟩ := oHd 0 0 X22 N23 rfl rfl
 refine ownSt st22 ?_
 clear st22
 show oA p e below _ T22 (fr_iw3 m x sp en ky 7 .unset .unset .unset .unset [(iV 3), (.int (en - sp))])
 by_cases hc25 : (en - sp) = (3 : Int32)
 ·skip
  refine oTo T22 (fr_iw3 m x sp en ky 28 (vI 1) (vI 0) .unset .unset [(.ref ky), (iV 0)]) (fun t kt => ?_) ?_
  ·refine XS.icmpNo Xh24.here hx rfl (D d7_7) rfl (teq hc25).2 ?_
   refine XS.iconst Xh24.here hx rfl (D d7_10) ?_
   refine XS.goto Xh24.here hx rfl (pc0 := 11) (pc' := 15) rfl (D d7_11) (by decide) (by decide) ?_
   refine XS.istore Xh24.here hx rfl (D d7_15) rfl (l' := #[vR x, vI sp, vI en, vR ky, vI 1, .unset, .unset, .unset]) rfl ?_
   show Steps p.tables e below (T22.setTop (fr_iw3 m x sp en ky 17 (vI 1) .unset .unset .unset [])) t
   refine XS.iconst Xh24.here hx rfl (D d7_17) ?_
   refine XS.istore Xh24.here hx rfl (D d7_18) rfl (l' := #[vR x, vI sp, vI en, vR ky, vI 1, vI 0, .unset, .unset]) rfl ?_
   refine XS.iload Xh24.here hx rfl (D d7_20) rfl ?_
   refine XS.ifNo Xh24.here hx rfl (D d7_22) rfl ((if0 _ _).trans (feq ((by decide) : ¬ ((1 : Int32) = (0 : Int32)))).1) ?_
   show Steps p.tables e below (T22.setTop (fr_iw3 m x sp en ky 25 (vI 1) (vI 0) .unset .unset [])) t
   refine XS.iload Xh24.here hx rfl (D d7_25) rfl ?_
   refine XS.aloadN Xh24.here hx rfl (D d7_27) rfl rfl ?_
   exact kt
  have hL26 : (ce = (0 : Int32) ∧ (zz >>> ((0 : Int32) &&& 31)) = (3 : Int32)) ∨ (ce = (1 : Int32) ∧ (zz >>> ((1 : Int32) &&& 31)) = (3 : Int32)) := by
   rcases hrly with ⟨h1, h2, -⟩ | ⟨h1, h2, -⟩
   ·exact Or.inl ⟨h1, by rw [h2]; decide +kernel⟩
   ·exact Or.inr ⟨h1, by rw [h2]; decide +kernel⟩
  obtain ⟨cq27, kq27, q27a, q27b, q27c⟩ := isOf hZ Eq22 Ey
  obtain ⟨vv27, _, ⟨T27, L27, k27, n27⟩, -, X27, ⟨Lc27, hQ27, l27, y27, z27⟩, st27⟩ := Xh24.virtualBack hx (y := yM12) (z := yM12) hown (mvT hZ (Wd36 hw)) (mvT hZ (Wd37 hw)) (notFace_of_selects (args := #[]) (mvT hZ (Wd39 hw))) (mvT hZ (Wd39 hw)) (mvT hZ (Wd38 hw)) (by decide) (backOf (W := 1) (c_leng l Z a0 hw [] ky tb kc ce zz wl (3 : Int32) G1 h0 n0 Z0 Ey Vy Cy Ky hL26 O2 P5 X00) hZ (Wd40 hw) (Wd5 hw) (by decide) (by decide)) q27a q27c (g := (fr_iw3 m x sp en ky 28 (vI 1) (vI 0) .unset .unset [(.ref ky), (iV 0)])) rfl (by rw [hml]; rfl) (Steps.refl _) (argsL := []) (rest := [(iV 0)]) (lenOf pd_21 rfl) rfl (by show 2 * 0 + _ ≤ _; exact Nat.le_of_eq rfl) (D d7_28) (fun _ _ => ⟨rfl, Eq22, (by decide : 0 + 0 ≤ _), (by decide : 0 + 0 ≤ _)⟩)
  dsimp only [Pt.U, Pt.locs, Pt.cells, Pt.slots] at X27 l27 y27 z27 st27 hQ27
  subst l27 y27 z27
  obtain ⟨rfl, Nq27, Eq27⟩ := hQ27
  have N28 := Fr.app Nh24 Nq27
  obtain ⟨Lh29, Xh29, Nh29⟩ := oHd 0 0 X27 N28 rfl rfl
  refine ownSt st27 ?_
  clear st27
  show oA p e below _ T27 (fr_iw3 m x sp en ky 31 (vI 1) (vI 0) .unset .unset [(iV 3), (iV 0)])
  refine oTo T27 (fr_iw3 m x sp en ky 39 (vI 1) (vI 0) .unset .unset [(.int (sp + (0 : Int32))), (.ref x)]) (fun t kt => ?_) ?_
  ·refine XS.icmpNo Xh29.here hx rfl (D d7_31) rfl (tlt ((by decide) : (0 : Int32) < (3 : Int32))).2.1 ?_
   refine XS.aloadN Xh29.here hx rfl (D d7_34) rfl rfl ?_
   refine XS.iloadN Xh29.here hx rfl (D d7_35) rfl ?_
   refine XS.iload Xh29.here hx rfl (D d7_36) rfl ?_
   show Steps p.tables e below (T27.setTop (fr_iw3 m x sp en ky 38 (vI 1) (vI 0) .unset .unset [(iV 0), (.int sp), (.ref x)])) t
   refine XS.iadd Xh29.here hx rfl (D d7_38) rfl ?_
   exact kt
  obtain ⟨cq30, kq30, q30a, q30b, q30c⟩ := isOf hZ Eq27 Es
  obtain ⟨vv30, _, ⟨T30, L30, k30, n30⟩, -, X30, ⟨Lc30, hQ30, l30, y30, z30⟩, st30⟩ := Xh29.virtualBack hx (y := yM19) (z := yM19) hown (mvT hZ (Wd46 hw)) (mvT hZ (Wd47 hw)) (notFace_of_selects (args := #[]) (mvT hZ (Wd49 hw))) (mvT hZ (Wd49 hw)) (mvT hZ (Wd48 hw)) (by decide) (backOf (W := 0) (c_chat l Z a0 hw [] x ta kb cd z vs (sp + (0 : Int32)) r0 kk0 kq0 (5 : Int32) G1 G3 h0 n0 Z0 Es Vs Cs Ks hr0 hP0 O2 P5 SA SHI SLO O4 rG3 X00) hZ (Wd50 hw) (Wd5 hw) (by decide) (by decide)) q30a q30c (g := (fr_iw3 m x sp en ky 39 (vI 1) (vI 0) .unset .unset [(.int (sp + (0 : Int32))), (.ref x)])) rfl (by rw [hml]; rfl) (Steps.refl _) (argsL := [(.int (sp + (0 : Int32)))]) (rest := []) (lenOf pd_22 rfl) rfl (by show 2 * 0 + _ ≤ _; exact Nat.le_of_eq rfl) (D d7_39) (fun _ _ => ⟨rfl, Eq27, (by decide : 0 + 0 ≤ _), (by decide : 0 + 0 ≤ _)⟩)
  dsimp only [Pt.U, Pt.locs, Pt.cells, Pt.slots] at X30 l30 y30 z30 st30 hQ30
  subst l30 y30 z30
  obtain ⟨rfl, Nq30, Eq30⟩ := hQ30
  have N31 := Fr.app Nh29 Nq30
  obtain ⟨Lh32, Xh32, Nh32⟩ := oHd 0 0 X30 N31 rfl rfl
  refine ownSt st30 ?_
  clear st30
  show oA p e below _ T30 (fr_iw3 m x sp en ky 42 (vI 1) (vI 0) .unset .unset [(.int r0)])
  refine oTo T30 (fr_iw3 m x sp en ky 47 (vI 1) (vI 0) (vI r0) .unset [(iV 0), (.ref ky)]) (fun t kt => ?_) ?_
  ·refine XS.istore Xh32.here hx rfl (D d7_42) rfl (l' := #[vR x, vI sp, vI en, vR ky, vI 1, vI 0, vI r0, .unset]) rfl ?_
   refine XS.aloadN Xh32.here hx rfl (D d7_44) rfl rfl ?_
   refine XS.iload Xh32.here hx rfl (D d7_45) rfl ?_
   exact kt
  have hR33 : (ce = (0 : Int32) ∧ (¬ (0 : Int32) < (0 : Int32) ∧ (0 : Int32) < zz) ∧ (0 : Int32).toNatClampNeg = 0 ∧ wl.getD 0 (iV 0) = .int (oL d0) ∧ ¬ ((255 : Int32) < d0)) ∨ (ce = (1 : Int32) ∧ (¬ (0 : Int32) < (0 : Int32) ∧ (0 : Int32) < (3 : Int32)) ∧ (zz >>> ((1 : Int32) &&& 31)) = (3 : Int32) ∧ (¬ ((0 : Int32) <<< ((1 : Int32) &&& 31)) < 0 ∧ ((0 : Int32) <<< ((1 : Int32) &&& 31)) < zz) ∧ (¬ (((0 : Int32) <<< ((1 : Int32) &&& 31)) + (1 : Int32)) < 0 ∧ (((0 : Int32) <<< ((1 : Int32) &&& 31)) + (1 : Int32)) < zz) ∧ ((0 : Int32) <<< ((1 : Int32) &&& 31)).toNatClampNeg = 0 ∧ (((0 : Int32) <<< ((1 : Int32) &&& 31)) + (1 : Int32)).toNatClampNeg = 0 + 1 ∧ wl.getD 0 (iV 0) = .int (oW d0) ∧ wl.getD (0 + 1) (iV 0) = .int (oH d0)) := by
   rcases hrly with ⟨h1, h2, h3, g0, g1, g2⟩ | ⟨h1, h2, h3, -⟩
   ·exact Or.inl ⟨h1, by rw [h2]; decide +kernel, rfl, by rw [h3]; rfl, g0⟩
   ·exact Or.inr ⟨h1, by decide +kernel, by rw [h2]; decide +kernel, by rw [h2]; decide +kernel, by rw [h2]; decide +kernel, by decide +kernel, by decide +kernel, by rw [h3]; rfl, by rw [h3]; rfl⟩
  obtain ⟨cq34, kq34, q34a, q34b, q34c⟩ := isOf hZ Eq30 Ey
  obtain ⟨vv34, _, ⟨T34, L34, k34, n34⟩, -, X34, ⟨Lc34, hQ34, l34, y34, z34⟩, st34⟩ := Xh32.virtualBack hx (y := yM19) (z := yM19) hown (mvT hZ (Wd46 hw)) (mvT hZ (Wd47 hw)) (notFace_of_selects (args := #[]) (mvT hZ (Wd49 hw))) (mvT hZ (Wd49 hw)) (mvT hZ (Wd48 hw)) (by decide) (backOf (W := 0) (c_chat l Z a0 hw [] ky tb kc ce zz wl (0 : Int32) d0 0 0 (3 : Int32) G1 G3 h0 n0 Z0 Ey Vy Cy Ky hd0 hR33 O2 P5 SA SHI SLO O4 rG3 X00) hZ (Wd50 hw) (Wd5 hw) (by decide) (by decide)) q34a q34c (g := (fr_iw3 m x sp en ky 47 (vI 1) (vI 0) (vI r0) .unset [(iV 0), (.ref ky)])) rfl (by rw [hml]; rfl) (Steps.refl _) (argsL := [(iV 0)]) (rest := []) (lenOf pd_22 rfl) rfl (by show 2 * 0 + _ ≤ _; exact Nat.le_of_eq rfl) (D d7_47) (fun _ _ => ⟨rfl, Eq30, (by decide : 0 + 0 ≤ _), (by decide : 0 + 0 ≤ _)⟩)
  dsimp only [Pt.U, Pt.locs, Pt.cells, Pt.slots] at X34 l34 y34 z34 st34 hQ34
  subst l34 y34 z34
  obtain ⟨rfl, Nq34, Eq34⟩ := hQ34
  have N35 := Fr.app Nh32 Nq34
  obtain ⟨Lh36, Xh36, Nh36⟩ := oHd 0 0 X34 N35 rfl rfl
  refine ownSt st34 ?_
  clear st34
  show oA p e below _ T34 (fr_iw3 m x sp en ky 50 (vI 1) (vI 0) (vI r0) .unset [(.int d0)])
  refine oTo T34 (fr_iw3 m x sp en ky 52 (vI 1) (vI 0) (vI r0) (vI d0) []) (fun t kt => ?_) ?_
  ·refine XS.istore Xh36.here hx rfl (D d7_50) rfl (l' := #[vR x, vI sp, vI en, vR ky, vI 1, vI 0, vI r0, vI d0]) rfl ?_
   exact kt
  have seg37 : ∀ t, Steps p.tables e below (T34.setTop (fr_iw3 m x sp en ky 88 (vI 1) (vI 0) (vI r0) (vI d0) [(.int (own_b (Mw r0 d0)))])) t → Steps p.tables e below (T34.setTop (fr_iw3 m x sp en ky 52 (vI 1) (vI 0) (vI r0) (vI d0) [])) t := by
   intro t kt
   show Steps p.tables e below (T34.setTop (fr_iw3 m x sp en ky 52 (vI 1) (vI 0) (vI r0) (vI d0) [])) t
   refine XS.iload Xh36.here hx rfl (D d7_52) rfl ?_
   refine XS.iload Xh36.here hx rfl (D d7_54) rfl ?_
   show Steps p.tables e below (T34.setTop (fr_iw3 m x sp en ky 56 (vI 1) (vI 0) (vI r0) (vI d0) [(.int d0), (.int r0)])) t
   by_cases hc38 : r0 = d0
   ·skip
    show Steps p.tables e below (T34.setTop (fr_iw3 m x sp en ky 56 (vI 1) (vI 0) (vI r0) (vI d0) [(.int d0), (.int r0)])) t
    refine XS.icmpYes Xh36.here hx rfl (pc0 := 56) (pc' := 83) rfl (D d7_56) rfl (teq hc38).1 (by decide) (by decide) ?_
    refine XS.iconst Xh36.here hx rfl (D d7_83) ?_
    refine XS.goto Xh36.here hx rfl (pc0 := 84) (pc' := 88) rfl (D d7_84) (by decide) (by decide) ?_
    show Steps p.tables e below (T34.setTop (fr_iw3 m x sp en ky 88 (vI 1) (vI 0) (vI r0) (vI d0) [(iV 1)])) t
    rw [show (own_b (Mw r0 d0)) = (1 : Int32) from by simp [own_b, Mw, hc38]] at kt
    exact kt
   ·skip
    show Steps p.tables e below (T34.setTop (fr_iw3 m x sp en ky 56 (vI 1) (vI 0) (vI r0) (vI d0) [(.int d0), (.int r0)])) t
    refine XS.icmpNo Xh36.here hx rfl (D d7_56) rfl (feq hc38).1 ?_
    refine XS.iload Xh36.here hx rfl (D d7_59) rfl ?_
    refine XS.bipush Xh36.here hx rfl (D d7_61) ?_
    show Steps p.tables e below (T34.setTop (fr_iw3 m x sp en ky 63 (vI 1) (vI 0) (vI r0) (vI d0) [(iV 65), (.int d0)])) t
    by_cases hc39 : d0 < (65 : Int32)
    ·skip
     show Steps p.tables e below (T34.setTop (fr_iw3 m x sp en ky 63 (vI 1) (vI 0) (vI r0) (vI d0) [(iV 65), (.int d0)])) t
     refine XS.icmpYes Xh36.here hx rfl (pc0 := 63) (pc' := 87) rfl (D d7_63) rfl (tlt hc39).1 (by decide) (by decide) ?_
     refine XS.iconst Xh36.here hx rfl (D d7_87) ?_
     show Steps p.tables e below (T34.setTop (fr_iw3 m x sp en ky 88 (vI 1) (vI 0) (vI r0) (vI d0) [(iV 0)])) t
     rw [show (own_b (Mw r0 d0)) = (0 : Int32) from by simp [own_b, Mw, hc38, hc39]] at kt
     exact kt
    ·skip
     show Steps p.tables e below (T34.setTop (fr_iw3 m x sp en ky 63 (vI 1) (vI 0) (vI r0) (vI d0) [(iV 65), (.int d0)])) t
     refine XS.icmpNo Xh36.here hx rfl (D d7_63) rfl (flt hc39).1 ?_
     refine XS.iload Xh36.here hx rfl (D d7_66) rfl ?_
     refine XS.bipush Xh36.here hx rfl (D d7_68) ?_
     show Steps p.tables e below (T34.setTop (fr_iw3 m x sp en ky 70 (vI 1) (vI 0) (vI r0) (vI d0) [(iV 90), (.int d0)])) t
     by_cases hc40 : (90 : Int32) < d0
     ·skip
      show Steps p.tables e below (T34.setTop (fr_iw3 m x sp en ky 70 (vI 1) (vI 0) (vI r0) (vI d0) [(iV 90), (.int d0)])) t
      refine XS.icmpYes Xh36.here hx rfl (pc0 := 70) (pc' := 87) rfl (D d7_70) rfl (tlt hc40).2.2.1 (by decide) (by decide) ?_
      refine XS.iconst Xh36.here hx rfl (D d7_87) ?_
      show Steps p.tables e below (T34.setTop (fr_iw3 m x sp en ky 88 (vI 1) (vI 0) (vI r0) (vI d0) [(iV 0)])) t
      rw [show (own_b (Mw r0 d0)) = (0 : Int32) from by simp [own_b, Mw, hc38, hc39, hc40]] at kt
      exact kt
     ·skip
      show Steps p.tables e below (T34.setTop (fr_iw3 m x sp en ky 70 (vI 1) (vI 0) (vI r0) (vI d0) [(iV 90), (.int d0)])) t
      refine XS.icmpNo Xh36.here hx rfl (D d7_70) rfl (flt hc40).2.2.1 ?_
      refine XS.iload Xh36.here hx rfl (D d7_73) rfl ?_
      refine XS.iload Xh36.here hx rfl (D d7_75) rfl ?_
      refine XS.bipush Xh36.here hx rfl (D d7_77) ?_
      show Steps p.tables e below (T34.setTop (fr_iw3 m x sp en ky 79 (vI 1) (vI 0) (vI r0) (vI d0) [(iV 32), (.int d0), (.int r0)])) t
      refine XS.ior Xh36.here hx rfl (D d7_79) rfl ?_
      show Steps p.tables e below (T34.setTop (fr_iw3 m x sp en ky 80 (vI 1) (vI 0) (vI r0) (vI d0) [(.int (d0 ||| (32 : Int32))), (.int r0)])) t
      by_cases hc41 : r0 = (d0 ||| (32 : Int32))
      ·skip
       show Steps p.tables e below (T34.setTop (fr_iw3 m x sp en ky 80 (vI 1) (vI 0) (vI r0) (vI d0) [(.int (d0 ||| (32 : Int32))), (.int r0)])) t
       refine XS.icmpNo Xh36.here hx rfl (D d7_80) rfl (teq hc41).2 ?_
       refine XS.iconst Xh36.here hx rfl (D d7_83) ?_
       refine XS.goto Xh36.here hx rfl (pc0 := 84) (pc' := 88) rfl (D d7_84) (by decide) (by decide) ?_
       show Steps p.tables e below (T34.setTop (fr_iw3 m x sp en ky 88 (vI 1) (vI 0) (vI r0) (vI d0) [(iV 1)])) t
       rw [show (own_b (Mw r0 d0)) = (1 : Int32) from by simp [own_b, Mw, hc38, hc39, hc40, hc41]] at kt
       exact kt
      ·skip
       show Steps p.tables e below (T34.setTop (fr_iw3 m x sp en ky 80 (vI 1) (vI 0) (vI r0) (vI d0) [(.int (d0 ||| (32 : Int32))), (.int r0)])) t
       refine XS.icmpYes Xh36.here hx rfl (pc0 := 80) (pc' := 87) rfl (D d7_80) rfl (feq hc41).2 (by decide) (by decide) ?_
       refine XS.iconst Xh36.here hx rfl (D d7_87) ?_
       show Steps p.tables e below (T34.setTop (fr_iw3 m x sp en ky 88 (vI 1) (vI 0) (vI r0) (vI d0) [(iV 0)])) t
       rw [show (own_b (Mw r0 d0)) = (0 : Int32) from by simp [own_b, Mw, hc38, hc39, hc40, hc41]] at kt
       exact kt
  refine ownBy seg37 ?_
  show oA p e below _ T34 (fr_iw3 m x sp en ky 88 (vI 1) (vI 0) (vI r0) (vI d0) [(.int (own_b (Mw r0 d0)))])
  refine oTo T34 (fr_iw3 m x sp en ky 22 (.val (.int (own_b (Mw r0 d0)))) (vI 1) (vI r0) (vI d0) [(.int (own_b (Mw r0 d0)))]) (fun t kt => ?_) ?_
  ·refine XS.istore Xh36.here hx rfl (D d7_88) rfl (l' := #[vR x, vI sp, vI en, vR ky, .val (.int (own_b (Mw r0 d0))), vI 0, vI r0, vI d0]) rfl ?_
   refine XS.iinc Xh36.here hx rfl (D d7_90) rfl (l' := #[vR x, vI sp, vI en, vR ky, .val (.int (own_b (Mw r0 d0))), vI 1, vI r0, vI d0]) rfl ?_
   refine XS.goto Xh36.here hx rfl (pc0 := 93) (pc' := 20) rfl (D d7_93) (by decide) (by decide) ?_
   refine XS.iload Xh36.here hx rfl (D d7_20) rfl ?_
   exact kt
  by_cases hc42 : Mw r0 d0
  ·skip
   refine oTo T34 (fr_iw3 m x sp en ky 28 (.val (.int (own_b (Mw r0 d0)))) (vI 1) (vI r0) (vI d0) [(.ref ky), (iV 1)]) (fun t kt => ?_) ?_
   ·refine XS.ifNo Xh36.here hx rfl (D d7_22) rfl ((if0 _ _).trans (feq (own_bt0 hc42)).1) ?_
    refine XS.iload Xh36.here hx rfl (D d7_25) rfl ?_
    refine XS.aloadN Xh36.here hx rfl (D d7_27) rfl rfl ?_
    exact kt
   have hL43 : (ce = (0 : Int32) ∧ (zz >>> ((0 : Int32) &&& 31)) = (3 : Int32)) ∨ (ce = (1 : Int32) ∧ (zz >>> ((1 : Int32) &&& 31)) = (3 : Int32)) := by
    rcases hrly with ⟨h1, h2, -⟩ | ⟨h1, h2, -⟩
    ·exact Or.inl ⟨h1, by rw [h2]; decide +kernel⟩
    ·exact Or.inr ⟨h1, by rw [h2]; decide +kernel⟩
   obtain ⟨cq44, kq44, q44a, q44b, q44c⟩ := isOf hZ Eq34 Ey
   obtain ⟨vv44, _, ⟨T44, L44, k44, n44⟩, -, X44, ⟨Lc44, hQ44, l44, y44, z44⟩, st44⟩ := Xh36.virtualBack hx (y := yM12) (z := yM12) hown (mvT hZ (Wd36 hw)) (mvT hZ (Wd37 hw)) (notFace_of_selects (args := #[]) (mvT hZ (Wd39 hw))) (mvT hZ (Wd39 hw)) (mvT hZ (Wd38 hw)) (by decide) (backOf (W := 1) (c_leng l Z a0 hw [] ky tb kc ce zz wl (3 : Int32) G1 h0 n0 Z0 Ey Vy Cy Ky hL43 O2 P5 X00) hZ (Wd40 hw) (Wd5 hw) (by decide) (by decide)) q44a q44c (g := (fr_iw3 m x sp en ky 28 (.val (.int (own_b (Mw r0 d0)))) (vI 1) (vI r0) (vI d0) [(.ref ky), (iV 1)])) rfl (by rw [hml]; rfl) (Steps.refl _) (argsL := []) (rest := [(iV 1)]) (lenOf pd_21 rfl) rfl (by show 2 * 0 + _ ≤ _; exact Nat.le_of_eq rfl) (D d7_28) (fun _ _ => ⟨rfl, Eq34, (by decide : 0 + 0 ≤ _), (by decide : 0 + 0 ≤ _)⟩)
   dsimp only [Pt.U, Pt.locs, Pt.cells, Pt.slots] at X44 l44 y44 z44 st44 hQ44
   subst l44 y44 z44
   obtain ⟨rfl, Nq44, Eq44⟩ := hQ44
   have N45 := Fr.app Nh36 Nq44
   obtain ⟨Lh46, Xh46, Nh46⟩ := oHd 0 0 X44 N45 rfl rfl
   refine ownSt st44 ?_
   clear st44
   show oA p e below _ T44 (fr_iw3 m x sp en ky 31 (.val (.int (own_b (Mw r0 d0)))) (vI 1) (vI r0) (vI d0) [(iV 3), (iV 1)])
   refine oTo T44 (fr_iw3 m x sp en ky 39 (.val (.int (own_b (Mw r0 d0)))) (vI 1) (vI r0) (vI d0) [(.int (sp + (1 : Int32))), (.ref x)]) (fun t kt => ?_) ?_
   ·refine XS.icmpNo Xh46.here hx rfl (D d7_31) rfl (tlt ((by decide) : (1 : Int32) < (3 : Int32))).2.1 ?_
    refine XS.aloadN Xh46.here hx rfl (D d7_34) rfl rfl ?_
    refine XS.iloadN Xh46.here hx rfl (D d7_35) rfl ?_
    refine XS.iload Xh46.here hx rfl (D d7_36) rfl ?_
    show Steps p.tables e below (T44.setTop (fr_iw3 m x sp en ky 38 (.val (.int (own_b (Mw r0 d0)))) (vI 1) (vI r0) (vI d0) [(iV 1), (.int sp), (.ref x)])) t
    refine XS.iadd Xh46.here hx rfl (D d7_38) rfl ?_
    exact kt
   obtain ⟨cq47, kq47, q47a, q47b, q47c⟩ := isOf hZ Eq44 Es
   obtain ⟨vv47, _, ⟨T47, L47, k47, n47⟩, -, X47, ⟨Lc47, hQ47, l47, y47, z47⟩, st47⟩ := Xh46.virtualBack hx (y := yM19) (z := yM19) hown (mvT hZ (Wd46 hw)) (mvT hZ (Wd47 hw)) (notFace_of_selects (args := #[]) (mvT hZ (Wd49 hw))) (mvT hZ (Wd49 hw)) (mvT hZ (Wd48 hw)) (by decide) (backOf (W := 0) (c_chat l Z a0 hw [] x ta kb cd z vs (sp + (1 : Int32)) r1 kk1 kq1 (5 : Int32) G1 G3 h0 n0 Z0 Es Vs Cs Ks hr1 hP1 O2 P5 SA SHI SLO O4 rG3 X00) hZ (Wd50 hw) (Wd5 hw) (by decide) (by decide)) q47a q47c (g := (fr_iw3 m x sp en ky 39 (.val (.int (own_b (Mw r0 d0)))) (vI 1) (vI r0) (vI d0) [(.int (sp + (1 : Int32))), (.ref x)])) rfl (by rw [hml]; rfl) (Steps.refl _) (argsL := [(.int (sp + (1 : Int32)))]) (rest := []) (lenOf pd_22 rfl) rfl (by show 2 * 0 + _ ≤ _; exact Nat.le_of_eq rfl) (D d7_39) (fun _ _ => ⟨rfl, Eq44, (by decide : 0 + 0 ≤ _), (by decide : 0 + 0 ≤ _)⟩)
   dsimp only [Pt.U, Pt.locs, Pt.cells, Pt.slots] at X47 l47 y47 z47 st47 hQ47
   subst l47 y47 z47
   obtain ⟨rfl, Nq47, Eq47⟩ := hQ47
   have N48 := Fr.app Nh46 Nq47
   obtain ⟨Lh49, Xh49, Nh49⟩ := oHd 0 0 X47 N48 rfl rfl
   refine ownSt st47 ?_
   clear st47
   show oA p e below _ T47 (fr_iw3 m x sp en ky 42 (.val (.int (own_b (Mw r0 d0)))) (vI 1) (vI r0) (vI d0) [(.int r1)])
   refine oTo T47 (fr_iw3 m x sp en ky 47 (.val (.int (own_b (Mw r0 d0)))) (vI 1) (vI r1) (vI d0) [(iV 1), (.ref ky)]) (fun t kt => ?_) ?_
   ·refine XS.istore Xh49.here hx rfl (D d7_42) rfl (l' := #[vR x, vI sp, vI en, vR ky, .val (.int (own_b (Mw r0 d0))), vI 1, vI r1, vI d0]) rfl ?_
    refine XS.aloadN Xh49.here hx rfl (D d7_44) rfl rfl ?_
    refine XS.iload Xh49.here hx rfl (D d7_45) rfl ?_
    exact kt
   have hR50 : (ce = (0 : Int32) ∧ (¬ (1 : Int32) < (0 : Int32) ∧ (1 : Int32) < zz) ∧ (1 : Int32).toNatClampNeg = 1 ∧ wl.getD 1 (iV 0) = .int (oL d1) ∧ ¬ ((255 : Int32) < d1)) ∨ (ce = (1 : Int32) ∧ (¬ (1 : Int32) < (0 : Int32) ∧ (1 : Int32) < (3 : Int32)) ∧ (zz >>> ((1 : Int32) &&& 31)) = (3 : Int32) ∧ (¬ ((1 : Int32) <<< ((1 : Int32) &&& 31)) < 0 ∧ ((1 : Int32) <<< ((1 : Int32) &&& 31)) < zz) ∧ (¬ (((1 : Int32) <<< ((1 : Int32) &&& 31)) + (1 : Int32)) < 0 ∧ (((1 : Int32) <<< ((1 : Int32) &&& 31)) + (1 : Int32)) < zz) ∧ ((1 : Int32) <<< ((1 : Int32) &&& 31)).toNatClampNeg = 2 ∧ (((1 : Int32) <<< ((1 : Int32) &&& 31)) + (1 : Int32)).toNatClampNeg = 2 + 1 ∧ wl.getD 2 (iV 0) = .int (oW d1) ∧ wl.getD (2 + 1) (iV 0) = .int (oH d1)) := by
    rcases hrly with ⟨h1, h2, h3, g0, g1, g2⟩ | ⟨h1, h2, h3, -⟩
    ·exact Or.inl ⟨h1, by rw [h2]; decide +kernel, rfl, by rw [h3]; rfl, g1⟩
    ·exact Or.inr ⟨h1, by decide +kernel, by rw [h2]; decide +kernel, by rw [h2]; decide +kernel, by rw [h2]; decide +kernel, by decide +kernel, by decide +kernel, by rw [h3]; rfl, by rw [h3]; rfl⟩
   obtain ⟨cq51, kq51, q51a, q51b, q51c⟩ := isOf hZ Eq47 Ey
   obtain ⟨vv51, _, ⟨T51, L51, k51, n51⟩, -, X51, ⟨Lc51, hQ51, l51, y51, z51⟩, st51⟩ := Xh49.virtualBack hx (y := yM19) (z := yM19) hown (mvT hZ (Wd46 hw)) (mvT hZ (Wd47 hw)) (notFace_of_selects (args := #[]) (mvT hZ (Wd49 hw))) (mvT hZ (Wd49 hw)) (mvT hZ (Wd48 hw)) (by decide) (backOf (W := 0) (c_chat l Z a0 hw [] ky tb kc ce zz wl (1 : Int32) d1 1 2 (3 : Int32) G1 G3 h0 n0 Z0 Ey Vy Cy Ky hd1 hR50 O2 P5 SA SHI SLO O4 rG3 X00) hZ (Wd50 hw) (Wd5 hw) (by decide) (by decide)) q51a q51c (g := (fr_iw3 m x sp en ky 47 (.val (.int (own_b (Mw r0 d0)))) (vI 1) (vI r1) (vI d0) [(iV 1), (.ref ky)])) rfl (by rw [hml]; rfl) (Steps.refl _) (argsL := [(iV 1)]) (rest := []) (lenOf pd_22 rfl) rfl (by show 2 * 0 + _ ≤ _; exact Nat.le_of_eq rfl) (D d7_47) (fun _ _ => ⟨rfl, Eq47, (by decide : 0 + 0 ≤ _), (by decide : 0 + 0 ≤ _)⟩)
   dsimp only [Pt.U, Pt.locs, Pt.cells, Pt.slots] at X51 l51 y51 z51 st51 hQ51
   subst l51 y51 z51
   obtain ⟨rfl, Nq51, Eq51⟩ := hQ51
   have N52 := Fr.app Nh49 Nq51
   obtain ⟨Lh53, Xh53, Nh53⟩ := oHd 0 0 X51 N52 rfl rfl
   refine ownSt st51 ?_
   clear st51
   show oA p e below _ T51 (fr_iw3 m x sp en ky 50 (.val (.int (own_b (Mw r0 d0)))) (vI 1) (vI r1) (vI d0) [(.int d1)])
   refine oTo T51 (fr_iw3 m x sp en ky 52 (.val (.int (own_b (Mw r0 d0)))) (vI 1) (vI r1) (vI d1) []) (fun t kt => ?_) ?_
   ·refine XS.istore Xh53.here hx rfl (D d7_50) rfl (l' := #[vR x, vI sp, vI en, vR ky, .val (.int (own_b (Mw r0 d0))), vI 1, vI r1, vI d1]) rfl ?_
    exact kt
   have seg54 : ∀ t, Steps p.tables e below (T51.setTop (fr_iw3 m x sp en ky 88 (.val (.int (own_b (Mw r0 d0)))) (vI 1) (vI r1) (vI d1) [(.int (own_b (Mw r1 d1)))])) t → Steps p.tables e below (T51.setTop (fr_iw3 m x sp en ky 52 (.val (.int (own_b (Mw r0 d0)))) (vI 1) (vI r1) (vI d1) [])) t := by
    intro t kt
    show Steps p.tables e below (T51.setTop (fr_iw3 m x sp en ky 52 (.val (.int (own_b (Mw r0 d0)))) (vI 1) (vI r1) (vI d1) [])) t
    refine XS.iload Xh53.here hx rfl (D d7_52) rfl ?_
    refine XS.iload Xh53.here hx rfl (D d7_54) rfl ?_
    show Steps p.tables e below (T51.setTop (fr_iw3 m x sp en ky 56 (.val (.int (own_b (Mw r0 d0)))) (vI 1) (vI r1) (vI d1) [(.int d1), (.int r1)])) t
    by_cases hc55 : r1 = d1
    ·skip
     show Steps p.tables e below (T51.setTop (fr_iw3 m x sp en ky 56 (.val (.int (own_b (Mw r0 d0)))) (vI 1) (vI r1) (vI d1) [(.int d1), (.int r1)])) t
     refine XS.icmpYes Xh53.here hx rfl (pc0 := 56) (pc' := 83) rfl (D d7_56) rfl (teq hc55).1 (by decide) (by decide) ?_
     refine XS.iconst Xh53.here hx rfl (D d7_83) ?_
     refine XS.goto Xh53.here hx rfl (pc0 := 84) (pc' := 88) rfl (D d7_84) (by decide) (by decide) ?_
     show Steps p.tables e below (T51.setTop (fr_iw3 m x sp en ky 88 (.val (.int (own_b (Mw r0 d0)))) (vI 1) (vI r1) (vI d1) [(iV 1)])) t
     rw [show (own_b (Mw r1 d1)) = (1 : Int32) from by simp [own_b, Mw, hc55]] at kt
     exact kt
    ·skip
     show Steps p.tables e below (T51.setTop (fr_iw3 m x sp en ky 56 (.val (.int (own_b (Mw r0 d0)))) (vI 1) (vI r1) (vI d1) [(.int d1), (.int r1)])) t
     refine XS.icmpNo Xh53.here hx rfl (D d7_56) rfl (feq hc55).1 ?_
     refine XS.iload Xh53.here hx rfl (D d7_59) rfl ?_
     refine XS.bipush Xh53.here hx rfl (D d7_61) ?_
     show Steps p.tables e below (T51.setTop (fr_iw3 m x sp en ky 63 (.val (.int (own_b (Mw r0 d0)))) (vI 1) (vI r1) (vI d1) [(iV 65), (.int d1)])) t
     by_cases hc56 : d1 < (65 : Int32)
     ·skip
      show Steps p.tables e below (T51.setTop (fr_iw3 m x sp en ky 63 (.val (.int (own_b (Mw r0 d0)))) (vI 1) (vI r1) (vI d1) [(iV 65), (.int d1)])) t
      refine XS.icmpYes Xh53.here hx rfl (pc0 := 63) (pc' := 87) rfl (D d7_63) rfl (tlt hc56).1 (by decide) (by decide) ?_
      refine XS.iconst Xh53.here hx rfl (D d7_87) ?_
      show Steps p.tables e below (T51.setTop (fr_iw3 m x sp en ky 88 (.val (.int (own_b (Mw r0 d0)))) (vI 1) (vI r1) (vI d1) [(iV 0)])) t
      rw [show (own_b (Mw r1 d1)) = (0 : Int32) from by simp [own_b, Mw, hc55, hc56]] at kt
      exact kt
     ·skip
      show Steps p.tables e below (T51.setTop (fr_iw3 m x sp en ky 63 (.val (.int (own_b (Mw r0 d0)))) (vI 1) (vI r1) (vI d1) [(iV 65), (.int d1)])) t
      refine XS.icmpNo Xh53.here hx rfl (D d7_63) rfl (flt hc56).1 ?_
      refine XS.iload Xh53.here hx rfl (D d7_66) rfl ?_
      refine XS.bipush Xh53.here hx rfl (D d7_68) ?_
      show Steps p.tables e below (T51.setTop (fr_iw3 m x sp en ky 70 (.val (.int (own_b (Mw r0 d0)))) (vI 1) (vI r1) (vI d1) [(iV 90), (.int d1)])) t
      by_cases hc57 : (90 : Int32) < d1
      ·skip
       show Steps p.tables e below (T51.setTop (fr_iw3 m x sp en ky 70 (.val (.int (own_b (Mw r0 d0)))) (vI 1) (vI r1) (vI d1) [(iV 90), (.int d1)])) t
       refine XS.icmpYes Xh53.here hx rfl (pc0 := 70) (pc' := 87) rfl (D d7_70) rfl (tlt hc57).2.2.1 (by decide) (by decide) ?_
       refine XS.iconst Xh53.here hx rfl (D d7_87) ?_
       show Steps p.tables e below (T51.setTop (fr_iw3 m x sp en ky 88 (.val (.int (own_b (Mw r0 d0)))) (vI 1) (vI r1) (vI d1) [(iV 0)])) t
       rw [show (own_b (Mw r1 d1)) = (0 : Int32) from by simp [own_b, Mw, hc55, hc56, hc57]] at kt
       exact kt
      ·skip
       show Steps p.tables e below (T51.setTop (fr_iw3 m x sp en ky 70 (.val (.int (own_b (Mw r0 d0)))) (vI 1) (vI r1) (vI d1) [(iV 90), (.int d1)])) t
       refine XS.icmpNo Xh53.here hx rfl (D d7_70) rfl (flt hc57).2.2.1 ?_
       refine XS.iload Xh53.here hx rfl (D d7_73) rfl ?_
       refine XS.iload Xh53.here hx rfl (D d7_75) rfl ?_
       refine XS.bipush Xh53.here hx rfl (D d7_77) ?_
       show Steps p.tables e below (T51.setTop (fr_iw3 m x sp en ky 79 (.val (.int (own_b (Mw r0 d0)))) (vI 1) (vI r1) (vI d1) [(iV 32), (.int d1), (.int r1)])) t
       refine XS.ior Xh53.here hx rfl (D d7_79) rfl ?_
       show Steps p.tables e below (T51.setTop (fr_iw3 m x sp en ky 80 (.val (.int (own_b (Mw r0 d0)))) (vI 1) (vI r1) (vI d1) [(.int (d1 ||| (32 : Int32))), (.int r1)])) t
       by_cases hc58 : r1 = (d1 ||| (32 : Int32))
       ·skip
        show Steps p.tables e below (T51.setTop (fr_iw3 m x sp en ky 80 (.val (.int (own_b (Mw r0 d0)))) (vI 1) (vI r1) (vI d1) [(.int (d1 ||| (32 : Int32))), (.int r1)])) t
        refine XS.icmpNo Xh53.here hx rfl (D d7_80) rfl (teq hc58).2 ?_
        refine XS.iconst Xh53.here hx rfl (D d7_83) ?_
        refine XS.goto Xh53.here hx rfl (pc0 := 84) (pc' := 88) rfl (D d7_84) (by decide) (by decide) ?_
        show Steps p.tables e below (T51.setTop (fr_iw3 m x sp en ky 88 (.val (.int (own_b (Mw r0 d0)))) (vI 1) (vI r1) (vI d1) [(iV 1)])) t
        rw [show (own_b (Mw r1 d1)) = (1 : Int32) from by simp [own_b, Mw, hc55, hc56, hc57, hc58]] at kt
        exact kt
       ·skip
        show Steps p.tables e below (T51.setTop (fr_iw3 m x sp en ky 80 (.val (.int (own_b (Mw r0 d0)))) (vI 1) (vI r1) (vI d1) [(.int (d1 ||| (32 : Int32))), (.int r1)])) t
        refine XS.icmpYes Xh53.here hx rfl (pc0 := 80) (pc' := 87) rfl (D d7_80) rfl (feq hc58).2 (by decide) (by decide) ?_
        refine XS.iconst Xh53.here hx rfl (D d7_87) ?_
        show Steps p.tables e below (T51.setTop (fr_iw3 m x sp en ky 88 (.val (.int (own_b (Mw r0 d0)))) (vI 1) (vI r1) (vI d1) [(iV 0)])) t
        rw [show (own_b (Mw r1 d1)) = (0 : Int32) from by simp [own_b, Mw, hc55, hc56, hc57, hc58]] at kt
        exact kt
   refine ownBy seg54 ?_
   show oA p e below _ T51 (fr_iw3 m x sp en ky 88 (.val (.int (own_b (Mw r0 d0)))) (vI 1) (vI r1) (vI d1) [(.int (own_b (Mw r1 d1)))])
   refine oTo T51 (fr_iw3 m x sp en ky 22 (.val (.int (own_b (Mw r1 d1)))) (vI 2) (vI r1) (vI d1) [(.int (own_b (Mw r1 d1)))]) (fun t kt => ?_) ?_
   ·refine XS.istore Xh53.here hx rfl (D d7_88) rfl (l' := #[vR x, vI sp, vI en, vR ky, .val (.int (own_b (Mw r1 d1))), vI 1, vI r1, vI d1]) rfl ?_
    refine XS.iinc Xh53.here hx rfl (D d7_90) rfl (l' := #[vR x, vI sp, vI en, vR ky, .val (.int (own_b (Mw r1 d1))), vI 2, vI r1, vI d1]) rfl ?_
    refine XS.goto Xh53.here hx rfl (pc0 := 93) (pc' := 20) rfl (D d7_93) (by decide) (by decide) ?_
    refine XS.iload Xh53.here hx rfl (D d7_20) rfl ?_
    exact kt
   by_cases hc59 : Mw r1 d1
   ·skip
    refine oTo T51 (fr_iw3 m x sp en ky 28 (.val (.int (own_b (Mw r1 d1)))) (vI 2) (vI r1) (vI d1) [(.ref ky), (iV 2)]) (fun t kt => ?_) ?_
    ·refine XS.ifNo Xh53.here hx rfl (D d7_22) rfl ((if0 _ _).trans (feq (own_bt0 hc59)).1) ?_
     refine XS.iload Xh53.here hx rfl (D d7_25) rfl ?_
     refine XS.aloadN Xh53.here hx rfl (D d7_27) rfl rfl ?_
     exact kt
    have hL60 : (ce = (0 : Int32) ∧ (zz >>> ((0 : Int32) &&& 31)) = (3 : Int32)) ∨ (ce = (1 : Int32) ∧ (zz >>> ((1 : Int32) &&& 31)) = (3 : Int32)) := by
     rcases hrly with ⟨h1, h2, -⟩ | ⟨h1, h2, -⟩
     ·exact Or.inl ⟨h1, by rw [h2]; decide +kernel⟩
     ·exact Or.inr ⟨h1, by rw [h2]; decide +kernel⟩
    obtain ⟨cq61, kq61, q61a, q61b, q61c⟩ := isOf hZ Eq51 Ey
    obtain ⟨vv61, _, ⟨T61, L61, k61, n61⟩, -, X61, ⟨Lc61, hQ61, l61, y61, z61⟩, st61⟩ := Xh53.virtualBack hx (y := yM12) (z := yM12) hown (mvT hZ (Wd36 hw)) (mvT hZ (Wd37 hw)) (notFace_of_selects (args := #[]) (mvT hZ (Wd39 hw))) (mvT hZ (Wd39 hw)) (mvT hZ (Wd38 hw)) (by decide) (backOf (W := 1) (c_leng l Z a0 hw [] ky tb kc ce zz wl (3 : Int32) G1 h0 n0 Z0 Ey Vy Cy Ky hL60 O2 P5 X00) hZ (Wd40 hw) (Wd5 hw) (by decide) (by decide)) q61a q61c (g := (fr_iw3 m x sp en ky 28 (.val (.int (own_b (Mw r1 d1)))) (vI 2) (vI r1) (vI d1) [(.ref ky), (iV 2)])) rfl (by rw [hml]; rfl) (Steps.refl _) (argsL := []) (rest := [(iV 2)]) (lenOf pd_21 rfl) rfl (by show 2 * 0 + _ ≤ _; exact Nat.le_of_eq rfl) (D d7_28) (fun _ _ => ⟨rfl, Eq51, (by decide : 0 + 0 ≤ _), (by decide : 0 + 0 ≤ _)⟩)
    dsimp only [Pt.U, Pt.locs, Pt.cells, Pt.slots] at X61 l61 y61 z61 st61 hQ61
    subst l61 y61 z61
    obtain ⟨rfl, Nq61, Eq61⟩ := hQ61
    have N62 := Fr.app Nh53 Nq61
    obtain ⟨Lh63, Xh63, Nh63⟩ := oHd 0 0 X61 N62 rfl rfl
    refine ownSt st61 ?_
    clear st61
    show oA p e below _ T61 (fr_iw3 m x sp en ky 31 (.val (.int (own_b (Mw r1 d1)))) (vI 2) (vI r1) (vI d1) [(iV 3), (iV 2)])
    refine oTo T61 (fr_iw3 m x sp en ky 39 (.val (.int (own_b (Mw r1 d1)))) (vI 2) (vI r1) (vI d1) [(.int (sp + (2 : Int32))), (.ref x)]) (fun t kt => ?_) ?_
    ·refine XS.icmpNo Xh63.here hx rfl (D d7_31) rfl (tlt ((by decide) : (2 : Int32) < (3 : Int32))).2.1 ?_
     refine XS.aloadN Xh63.here hx rfl (D d7_34) rfl rfl ?_
     refine XS.iloadN Xh63.here hx rfl (D d7_35) rfl ?_
     refine XS.iload Xh63.here hx rfl (D d7_36) rfl ?_
     show Steps p.tables e below (T61.setTop (fr_iw3 m x sp en ky 38 (.val (.int (own_b (Mw r1 d1)))) (vI 2) (vI r1) (vI d1) [(iV 2), (.int sp), (.ref x)])) t
     refine XS.iadd Xh63.here hx rfl (D d7_38) rfl ?_
     exact kt
    obtain ⟨cq64, kq64, q64a, q64b, q64c⟩ := isOf hZ Eq61 Es
    obtain ⟨vv64, _, ⟨T64, L64, k64, n64⟩, -, X64, ⟨Lc64, hQ64, l64, y64, z64⟩, st64⟩ := Xh63.virtualBack hx (y := yM19) (z := yM19) hown (mvT hZ (Wd46 hw)) (mvT hZ (Wd47 hw)) (notFace_of_selects (args := #[]) (mvT hZ (Wd49 hw))) (mvT hZ (Wd49 hw)) (mvT hZ (Wd48 hw)) (by decide) (backOf (W := 0) (c_chat l Z a0 hw [] x ta kb cd z vs (sp + (2 : Int32)) r2 kk2 kq2 (5 : Int32) G1 G3 h0 n0 Z0 Es Vs Cs Ks hr2 hP2 O2 P5 SA SHI SLO O4 rG3 X00) hZ (Wd50 hw) (Wd5 hw) (by decide) (by decide)) q64a q64c (g := (fr_iw3 m x sp en ky 39 (.val (.int (own_b (Mw r1 d1)))) (vI 2) (vI r1) (vI d1) [(.int (sp + (2 : Int32))), (.ref x)])) rfl (by rw [hml]; rfl) (Steps.refl _) (argsL := [(.int (sp + (2 : Int32)))]) (rest := []) (lenOf pd_22 rfl) rfl (by show 2 * 0 + _ ≤ _; exact Nat.le_of_eq rfl) (D d7_39) (fun _ _ => ⟨rfl, Eq61, (by decide : 0 + 0 ≤ _), (by decide : 0 + 0 ≤ _)⟩)
    dsimp only [Pt.U, Pt.locs, Pt.cells, Pt.slots] at X64 l64 y64 z64 st64 hQ64
    subst l64 y64 z64
    obtain ⟨rfl, Nq64, Eq64⟩ := hQ64
    have N65 := Fr.app Nh63 Nq64
    obtain ⟨Lh66, Xh66, Nh66⟩ := oHd 0 0 X64 N65 rfl rfl
    refine ownSt st64 ?_
    clear st64
    show oA p e below _ T64 (fr_iw3 m x sp en ky 42 (.val (.int (own_b (Mw r1 d1)))) (vI 2) (vI r1) (vI d1) [(.int r2)])
    refine oTo T64 (fr_iw3 m x sp en ky 47 (.val (.int (own_b (Mw r1 d1)))) (vI 2) (vI r2) (vI d1) [(iV 2), (.ref ky)]) (fun t kt => ?_) ?_
    ·refine XS.istore Xh66.here hx rfl (D d7_42) rfl (l' := #[vR x, vI sp, vI en, vR ky, .val (.int (own_b (Mw r1 d1))), vI 2, vI r2, vI d1]) rfl ?_
     refine XS.aloadN Xh66.here hx rfl (D d7_44) rfl rfl ?_
     refine XS.iload Xh66.here hx rfl (D d7_45) rfl ?_
     exact kt
    have hR67 : (ce = (0 : Int32) ∧ (¬ (2 : Int32) < (0 : Int32) ∧ (2 : Int32) < zz) ∧ (2 : Int32).toNatClampNeg = 2 ∧ wl.getD 2 (iV 0) = .int (oL d2) ∧ ¬ ((255 : Int32) < d2)) ∨ (ce = (1 : Int32) ∧ (¬ (2 : Int32) < (0 : Int32) ∧ (2 : Int32) < (3 : Int32)) ∧ (zz >>> ((1 : Int32) &&& 31)) = (3 : Int32) ∧ (¬ ((2 : Int32) <<< ((1 : Int32) &&& 31)) < 0 ∧ ((2 : Int32) <<< ((1 : Int32) &&& 31)) < zz) ∧ (¬ (((2 : Int32) <<< ((1 : Int32) &&& 31)) + (1 : Int32)) < 0 ∧ (((2 : Int32) <<< ((1 : Int32) &&& 31)) + (1 : Int32)) < zz) ∧ ((2 : Int32) <<< ((1 : Int32) &&& 31)).toNatClampNeg = 4 ∧ (((2 : Int32) <<< ((1 : Int32) &&& 31)) + (1 : Int32)).toNatClampNeg = 4 + 1 ∧ wl.getD 4 (iV 0) = .int (oW d2) ∧ wl.getD (4 + 1) (iV 0) = .int (oH d2)) := by
     rcases hrly with ⟨h1, h2, h3, g0, g1, g2⟩ | ⟨h1, h2, h3, -⟩
     ·exact Or.inl ⟨h1, by rw [h2]; decide +kernel, rfl, by rw [h3]; rfl, g2⟩
     ·exact Or.inr ⟨h1, by decide +kernel, by rw [h2]; decide +kernel, by rw [h2]; decide +kernel, by rw [h2]; decide +kernel, by decide +kernel, by decide +kernel, by rw [h3]; rfl, by rw [h3]; rfl⟩
    obtain ⟨cq68, kq68, q68a, q68b, q68c⟩ := isOf hZ Eq64 Ey
    obtain ⟨vv68, _, ⟨T68, L68, k68, n68⟩, -, X68, ⟨Lc68, hQ68, l68, y68, z68⟩, st68⟩ := Xh66.virtualBack hx (y := yM19) (z := yM19) hown (mvT hZ (Wd46 hw)) (mvT hZ (Wd47 hw)) (notFace_of_selects (args := #[]) (mvT hZ (Wd49 hw))) (mvT hZ (Wd49 hw)) (mvT hZ (Wd48 hw)) (by decide) (backOf (W := 0) (c_chat l Z a0 hw [] ky tb kc ce zz wl (2 : Int32) d2 2 4 (3 : Int32) G1 G3 h0 n0 Z0 Ey Vy Cy Ky hd2 hR67 O2 P5 SA SHI SLO O4 rG3 X00) hZ (Wd50 hw) (Wd5 hw) (by decide) (by decide)) q68a q68c (g := (fr_iw3 m x sp en ky 47 (.val (.int (own_b (Mw r1 d1)))) (vI 2) (vI r2) (vI d1) [(iV 2), (.ref ky)])) rfl (by rw [hml]; rfl) (Steps.refl _) (argsL := [(iV 2)]) (rest := []) (lenOf pd_22 rfl) rfl (by show 2 * 0 + _ ≤ _; exact Nat.le_of_eq rfl) (D d7_47) (fun _ _ => ⟨rfl, Eq64, (by decide : 0 + 0 ≤ _), (by decide : 0 + 0 ≤ _)⟩)
    dsimp only [Pt.U, Pt.locs, Pt.cells, Pt.slots] at X68 l68 y68 z68 st68 hQ68
    subst l68 y68 z68
    obtain ⟨rfl, Nq68, Eq68⟩ := hQ68
    have N69 := Fr.app Nh66 Nq68
    obtain ⟨Lh70, Xh70, Nh70⟩ := oHd 0 0 X68 N69 rfl rfl
    refine ownSt st68 ?_
    clear st68
    show oA p e below _ T68 (fr_iw3 m x sp en ky 50 (.val (.int (own_b (Mw r1 d1)))) (vI 2) (vI r2) (vI d1) [(.int d2)])
    refine oTo T68 (fr_iw3 m x sp en ky 52 (.val (.int (own_b (Mw r1 d1)))) (vI 2) (vI r2) (vI d2) []) (fun t kt => ?_) ?_
    ·refine XS.istore Xh70.here hx rfl (D d7_50) rfl (l' := #[vR x, vI sp, vI en, vR ky, .val (.int (own_b (Mw r1 d1))), vI 2, vI r2, vI d2]) rfl ?_
     exact kt
    have seg71 : ∀ t, Steps p.tables e below (T68.setTop (fr_iw3 m x sp en ky 88 (.val (.int (own_b (Mw r1 d1)))) (vI 2) (vI r2) (vI d2) [(.int (own_b (Mw r2 d2)))])) t → Steps p.tables e below (T68.setTop (fr_iw3 m x sp en ky 52 (.val (.int (own_b (Mw r1 d1)))) (vI 2) (vI r2) (vI d2) [])) t := by
     intro t kt
     show Steps p.tables e below (T68.setTop (fr_iw3 m x sp en ky 52 (.val (.int (own_b (Mw r1 d1)))) (vI 2) (vI r2) (vI d2) [])) t
     refine XS.iload Xh70.here hx rfl (D d7_52) rfl ?_
     refine XS.iload Xh70.here hx rfl (D d7_54) rfl ?_
     show Steps p.tables e below (T68.setTop (fr_iw3 m x sp en ky 56 (.val (.int (own_b (Mw r1 d1)))) (vI 2) (vI r2) (vI d2) [(.int d2), (.int r2)])) t
     by_cases hc72 : r2 = d2
     ·skip
      show Steps p.tables e below (T68.setTop (fr_iw3 m x sp en ky 56 (.val (.int (own_b (Mw r1 d1)))) (vI 2) (vI r2) (vI d2) [(.int d2), (.int r2)])) t
      refine XS.icmpYes Xh70.here hx rfl (pc0 := 56) (pc' := 83) rfl (D d7_56) rfl (teq hc72).1 (by decide) (by decide) ?_
      refine XS.iconst Xh70.here hx rfl (D d7_83) ?_
      refine XS.goto Xh70.here hx rfl (pc0 := 84) (pc' := 88) rfl (D d7_84) (by decide) (by decide) ?_
      show Steps p.tables e below (T68.setTop (fr_iw3 m x sp en ky 88 (.val (.int (own_b (Mw r1 d1)))) (vI 2) (vI r2) (vI d2) [(iV 1)])) t
      rw [show (own_b (Mw r2 d2)) = (1 : Int32) from by simp [own_b, Mw, hc72]] at kt
      exact kt
     ·skip
      show Steps p.tables e below (T68.setTop (fr_iw3 m x sp en ky 56 (.val (.int (own_b (Mw r1 d1)))) (vI 2) (vI r2) (vI d2) [(.int d2), (.int r2)])) t
      refine XS.icmpNo Xh70.here hx rfl (D d7_56) rfl (feq hc72).1 ?_
      refine XS.iload Xh70.here hx rfl (D d7_59) rfl ?_
      refine XS.bipush Xh70.here hx rfl (D d7_61) ?_
      show Steps p.tables e below (T68.setTop (fr_iw3 m x sp en ky 63 (.val (.int (own_b (Mw r1 d1)))) (vI 2) (vI r2) (vI d2) [(iV 65), (.int d2)])) t
      by_cases hc73 : d2 < (65 : Int32)
      ·skip
       show Steps p.tables e below (T68.setTop (fr_iw3 m x sp en ky 63 (.val (.int (own_b (Mw r1 d1)))) (vI 2) (vI r2) (vI d2) [(iV 65), (.int d2)])) t
       refine XS.icmpYes Xh70.here hx rfl (pc0 := 63) (pc' := 87) rfl (D d7_63) rfl (tlt hc73).1 (by decide) (by decide) ?_
       refine XS.iconst Xh70.here hx rfl (D d7_87) ?_
       show Steps p.tables e below (T68.setTop (fr_iw3 m x sp en ky 88 (.val (.int (own_b (Mw r1 d1)))) (vI 2) (vI r2) (vI d2) [(iV 0)])) t
       rw [show (own_b (Mw r2 d2)) = (0 : Int32) from by simp [own_b, Mw, hc72, hc73]] at kt
       exact kt
      ·skip
       show Steps p.tables e below (T68.setTop (fr_iw3 m x sp en ky 63 (.val (.int (own_b (Mw r1 d1)))) (vI 2) (vI r2) (vI d2) [(iV 65), (.int d2)])) t
       refine XS.icmpNo Xh70.here hx rfl (D d7_63) rfl (flt hc73).1 ?_
       refine XS.iload Xh70.here hx rfl (D d7_66) rfl ?_
       refine XS.bipush Xh70.here hx rfl (D d7_68) ?_
       show Steps p.tables e below (T68.setTop (fr_iw3 m x sp en ky 70 (.val (.int (own_b (Mw r1 d1)))) (vI 2) (vI r2) (vI d2) [(iV 90), (.int d2)])) t
       by_cases hc74 : (90 : Int32) < d2
       ·skip
        show Steps p.tables e below (T68.setTop (fr_iw3 m x sp en ky 70 (.val (.int (own_b (Mw r1 d1)))) (vI 2) (vI r2) (vI d2) [(iV 90), (.int d2)])) t
        refine XS.icmpYes Xh70.here hx rfl (pc0 := 70) (pc' := 87) rfl (D d7_70) rfl (tlt hc74).2.2.1 (by decide) (by decide) ?_
        refine XS.iconst Xh70.here hx rfl (D d7_87) ?_
        show Steps p.tables e below (T68.setTop (fr_iw3 m x sp en ky 88 (.val (.int (own_b (Mw r1 d1)))) (vI 2) (vI r2) (vI d2) [(iV 0)])) t
        rw [show (own_b (Mw r2 d2)) = (0 : Int32) from by simp [own_b, Mw, hc72, hc73, hc74]] at kt
        exact kt
       ·skip
        show Steps p.tables e below (T68.setTop (fr_iw3 m x sp en ky 70 (.val (.int (own_b (Mw r1 d1)))) (vI 2) (vI r2) (vI d2) [(iV 90), (.int d2)])) t
        refine XS.icmpNo Xh70.here hx rfl (D d7_70) rfl (flt hc74).2.2.1 ?_
        refine XS.iload Xh70.here hx rfl (D d7_73) rfl ?_
        refine XS.iload Xh70.here hx rfl (D d7_75) rfl ?_
        refine XS.bipush Xh70.here hx rfl (D d7_77) ?_
        show Steps p.tables e below (T68.setTop (fr_iw3 m x sp en ky 79 (.val (.int (own_b (Mw r1 d1)))) (vI 2) (vI r2) (vI d2) [(iV 32), (.int d2), (.int r2)])) t
        refine XS.ior Xh70.here hx rfl (D d7_79) rfl ?_
        show Steps p.tables e below (T68.setTop (fr_iw3 m x sp en ky 80 (.val (.int (own_b (Mw r1 d1)))) (vI 2) (vI r2) (vI d2) [(.int (d2 ||| (32 : Int32))), (.int r2)])) t
        by_cases hc75 : r2 = (d2 ||| (32 : Int32))
        ·skip
         show Steps p.tables e below (T68.setTop (fr_iw3 m x sp en ky 80 (.val (.int (own_b (Mw r1 d1)))) (vI 2) (vI r2) (vI d2) [(.int (d2 ||| (32 : Int32))), (.int r2)])) t
         refine XS.icmpNo Xh70.here hx rfl (D d7_80) rfl (teq hc75).2 ?_
         refine XS.iconst Xh70.here hx rfl (D d7_83) ?_
         refine XS.goto Xh70.here hx rfl (pc0 := 84) (pc' := 88) rfl (D d7_84) (by decide) (by decide) ?_
         show Steps p.tables e below (T68.setTop (fr_iw3 m x sp en ky 88 (.val (.int (own_b (Mw r1 d1)))) (vI 2) (vI r2) (vI d2) [(iV 1)])) t
         rw [show (own_b (Mw r2 d2)) = (1 : Int32) from by simp [own_b, Mw, hc72, hc73, hc74, hc75]] at kt
         exact kt
        ·skip
         show Steps p.tables e below (T68.setTop (fr_iw3 m x sp en ky 80 (.val (.int (own_b (Mw r1 d1)))) (vI 2) (vI r2) (vI d2) [(.int (d2 ||| (32 : Int32))), (.int r2)])) t
         refine XS.icmpYes Xh70.here hx rfl (pc0 := 80) (pc' := 87) rfl (D d7_80) rfl (feq hc75).2 (by decide) (by decide) ?_
         refine XS.iconst Xh70.here hx rfl (D d7_87) ?_
         show Steps p.tables e below (T68.setTop (fr_iw3 m x sp en ky 88 (.val (.int (own_b (Mw r1 d1)))) (vI 2) (vI r2) (vI d2) [(iV 0)])) t
         rw [show (own_b (Mw r2 d2)) = (0 : Int32) from by simp [own_b, Mw, hc72, hc73, hc74, hc75]] at kt
         exact kt
    refine ownBy seg71 ?_
    show oA p e below _ T68 (fr_iw3 m x sp en ky 88 (.val (.int (own_b (Mw r1 d1)))) (vI 2) (vI r2) (vI d2) [(.int (own_b (Mw r2 d2)))])
    refine oTo T68 (fr_iw3 m x sp en ky 22 (.val (.int (own_b (Mw r2 d2)))) (vI 3) (vI r2) (vI d2) [(.int (own_b (Mw r2 d2)))]) (fun t kt => ?_) ?_
    ·refine XS.istore Xh70.here hx rfl (D d7_88) rfl (l' := #[vR x, vI sp, vI en, vR ky, .val (.int (own_b (Mw r2 d2))), vI 2, vI r2, vI d2]) rfl ?_
     refine XS.iinc Xh70.here hx rfl (D d7_90) rfl (l' := #[vR x, vI sp, vI en, vR ky, .val (.int (own_b (Mw r2 d2))), vI 3, vI r2, vI d2]) rfl ?_
     refine XS.goto Xh70.here hx rfl (pc0 := 93) (pc' := 20) rfl (D d7_93) (by decide) (by decide) ?_
     refine XS.iload Xh70.here hx rfl (D d7_20) rfl ?_
     exact kt
    by_cases hc76 : Mw r2 d2
    ·skip
     refine oTo T68 (fr_iw3 m x sp en ky 28 (.val (.int (own_b (Mw r2 d2)))) (vI 3) (vI r2) (vI d2) [(.ref ky), (iV 3)]) (fun t kt => ?_) ?_
     ·refine XS.ifNo Xh70.here hx rfl (D d7_22) rfl ((if0 _ _).trans (feq (own_bt0 hc76)).1) ?_
      refine XS.iload Xh70.here hx rfl (D d7_25) rfl ?_
      refine XS.aloadN Xh70.here hx rfl (D d7_27) rfl rfl ?_
      exact kt
     have hL77 : (ce = (0 : Int32) ∧ (zz >>> ((0 : Int32) &&& 31)) = (3 : Int32)) ∨ (ce = (1 : Int32) ∧ (zz >>> ((1 : Int32) &&& 31)) = (3 : Int32)) := by
      rcases hrly with ⟨h1, h2, -⟩ | ⟨h1, h2, -⟩
      ·exact Or.inl ⟨h1, by rw [h2]; decide +kernel⟩
      ·exact Or.inr ⟨h1, by rw [h2]; decide +kernel⟩
     obtain ⟨cq78, kq78, q78a, q78b, q78c⟩ := isOf hZ Eq68 Ey
     obtain ⟨vv78, _, ⟨T78, L78, k78, n78⟩, -, X78, ⟨Lc78, hQ78, l78, y78, z78⟩, st78⟩ := Xh70.virtualBack hx (y := yM12) (z := yM12) hown (mvT hZ (Wd36 hw)) (mvT hZ (Wd37 hw)) (notFace_of_selects (args := #[]) (mvT hZ (Wd39 hw))) (mvT hZ (Wd39 hw)) (mvT hZ (Wd38 hw)) (by decide) (backOf (W := 1) (c_leng l Z a0 hw [] ky tb kc ce zz wl (3 : Int32) G1 h0 n0 Z0 Ey Vy Cy Ky hL77 O2 P5 X00) hZ (Wd40 hw) (Wd5 hw) (by decide) (by decide)) q78a q78c (g := (fr_iw3 m x sp en ky 28 (.val (.int (own_b (Mw r2 d2)))) (vI 3) (vI r2) (vI d2) [(.ref ky), (iV 3)])) rfl (by rw [hml]; rfl) (Steps.refl _) (argsL := []) (rest := [(iV 3)]) (lenOf pd_21 rfl) rfl (by show 2 * 0 + _ ≤ _; exact Nat.le_of_eq rfl) (D d7_28) (fun _ _ => ⟨rfl, Eq68, (by decide : 0 + 0 ≤ _), (by decide : 0 + 0 ≤ _)⟩)
     dsimp only [Pt.U, Pt.locs, Pt.cells, Pt.slots] at X78 l78 y78 z78 st78 hQ78
     subst l78 y78 z78
     obtain ⟨rfl, Nq78, Eq78⟩ := hQ78
     have N79 := Fr.app Nh70 Nq78
     obtain ⟨Lh80, Xh80, Nh80⟩ := oHd 0 0 X78 N79 rfl rfl
     refine ownSt st78 ?_
     clear st78
     show oA p e below _ T78 (fr_iw3 m x sp en ky 31 (.val (.int (own_b (Mw r2 d2)))) (vI 3) (vI r2) (vI d2) [(iV 3), (iV 3)])
     refine oTo T78 (fr_iw3 m x sp en ky 98 (.val (.int (own_b (Mw r2 d2)))) (vI 3) (vI r2) (vI d2) [(.int (own_b (Mw r2 d2)))]) (fun t kt => ?_) ?_
     ·refine XS.icmpYes Xh80.here hx rfl (pc0 := 31) (pc' := 96) rfl (D d7_31) rfl (flt ((by decide) : ¬ ((3 : Int32) < (3 : Int32)))).2.1 (by decide) (by decide) ?_
      refine XS.iload Xh80.here hx rfl (D d7_96) rfl ?_
      exact kt
     refine ownRet Xh80 Bd.notSynchronized (v := some (.int (nar .boolean (own_b (Mw r2 d2))))) (fun h => by rw [Bd.returns] at h; cases h) ?_ (oLe rfl) (oLe rfl) (fun fs hr => retN Xh80 hx (t := .boolean) Bd.returns (by simp) (D d7_98) hr)
     show (Q_iw3 Z x ta kb cd z vs ky tb kc ce zz wl d0 d1 d2 r0 r1 r2 kk0 kk1 kk2 kq0 kq1 kq2 sp en G1 G3 h0 n0) (some (.int (nar .boolean (own_b (Mw r2 d2))))) T78.heap _
     rw [Eq78]
     refine ⟨?_, Nh80, rfl⟩
     rw [own_bt1 hc76]
     rw [own_bt1 (p := (en - sp) = (3 : Int32) ∧ Mw r0 d0 ∧ Mw r1 d1 ∧ Mw r2 d2) ⟨hc25, hc42, hc59, hc76⟩]
     rfl
    ·skip
     refine oTo T68 (fr_iw3 m x sp en ky 98 (.val (.int (own_b (Mw r2 d2)))) (vI 3) (vI r2) (vI d2) [(.int (own_b (Mw r2 d2)))]) (fun t kt => ?_) ?_
     ·refine XS.ifYes Xh70.here hx rfl (pc0 := 22) (pc' := 96) rfl (D d7_22) rfl ((if0 _ _).trans (teq (own_bf0 hc76)).1) (by decide) (by decide) ?_
      refine XS.iload Xh70.here hx rfl (D d7_96) rfl ?_
      exact kt
     refine ownRet Xh70 Bd.notSynchronized (v := some (.int (nar .boolean (own_b (Mw r2 d2))))) (fun h => by rw [Bd.returns] at h; cases h) ?_ (oLe rfl) (oLe rfl) (fun fs hr => retN Xh70 hx (t := .boolean) Bd.returns (by simp) (D d7_98) hr)
     show (Q_iw3 Z x ta kb cd z vs ky tb kc ce zz wl d0 d1 d2 r0 r1 r2 kk0 kk1 kk2 kq0 kq1 kq2 sp en G1 G3 h0 n0) (some (.int (nar .boolean (own_b (Mw r2 d2))))) T68.heap _
     rw [Eq68]
     refine ⟨?_, Nh70, rfl⟩
     rw [own_bf0 hc76]
     rw [own_bf0 (p := (en - sp) = (3 : Int32) ∧ Mw r0 d0 ∧ Mw r1 d1 ∧ Mw r2 d2) (fun q => hc76 q.2.2.2)]
     rfl
   ·skip
    refine oTo T51 (fr_iw3 m x sp en ky 98 (.val (.int (own_b (Mw r1 d1)))) (vI 2) (vI r1) (vI d1) [(.int (own_b (Mw r1 d1)))]) (fun t kt => ?_) ?_
    ·refine XS.ifYes Xh53.here hx rfl (pc0 := 22) (pc' := 96) rfl (D d7_22) rfl ((if0 _ _).trans (teq (own_bf0 hc59)).1) (by decide) (by decide) ?_
     refine XS.iload Xh53.here hx rfl (D d7_96) rfl ?_
     exact kt
    refine ownRet Xh53 Bd.notSynchronized (v := some (.int (nar .boolean (own_b (Mw r1 d1))))) (fun h => by rw [Bd.returns] at h; cases h) ?_ (oLe rfl) (oLe rfl) (fun fs hr => retN Xh53 hx (t := .boolean) Bd.returns (by simp) (D d7_98) hr)
    show (Q_iw3 Z x ta kb cd z vs ky tb kc ce zz wl d0 d1 d2 r0 r1 r2 kk0 kk1 kk2 kq0 kq1 kq2 sp en G1 G3 h0 n0) (some (.int (nar .boolean (own_b (Mw r1 d1))))) T51.heap _
    rw [Eq51]
    refine ⟨?_, Nh53, rfl⟩
    rw [own_bf0 hc59]
    rw [own_bf0 (p := (en - sp) = (3 : Int32) ∧ Mw r0 d0 ∧ Mw r1 d1 ∧ Mw r2 d2) (fun q => hc59 q.2.2.1)]
    rfl
  ·skip
   refine oTo T34 (fr_iw3 m x sp en ky 98 (.val (.int (own_b (Mw r0 d0)))) (vI 1) (vI r0) (vI d0) [(.int (own_b (Mw r0 d0)))]) (fun t kt => ?_) ?_
   ·refine XS.ifYes Xh36.here hx rfl (pc0 := 22) (pc' := 96) rfl (D d7_22) rfl ((if0 _ _).trans (teq (own_bf0 hc42)).1) (by decide) (by decide) ?_
    refine XS.iload Xh36.here hx rfl (D d7_96) rfl ?_
    exact kt
   refine ownRet Xh36 Bd.notSynchronized (v := some (.int (nar .boolean (own_b (Mw r0 d0))))) (fun h => by rw [Bd.returns] at h; cases h) ?_ (oLe rfl) (oLe rfl) (fun fs hr => retN Xh36 hx (t := .boolean) Bd.returns (by simp) (D d7_98) hr)
   show (Q_iw3 Z x ta kb cd z vs ky tb kc ce zz wl d0 d1 d2 r0 r1 r2 kk0 kk1 kk2 kq0 kq1 kq2 sp en G1 G3 h0 n0) (some (.int (nar .boolean (own_b (Mw r0 d0))))) T34.heap _
   rw [Eq34]
   refine ⟨?_, Nh36, rfl⟩
   rw [own_bf0 hc42]
   rw [own_bf0 (p := (en - sp) = (3 : Int32) ∧ Mw r0 d0 ∧ Mw r1 d1 ∧ Mw r2 d2) (fun q => hc42 q.2.1)]
   rfl
 ·skip
  refine oTo T22 (fr_iw3 m x sp en ky 98 (vI 0) (vI 0) .unset .unset [(iV 0)]) (fun t kt => ?_) ?_
  ·refine XS.icmpYes Xh24.here hx rfl (pc0 := 7) (pc' := 14) rfl (D d7_7) rfl (feq hc25).2 (by decide) (by decide) ?_
   refine XS.iconst Xh24.here hx rfl (D d7_14) ?_
   refine XS.istore Xh24.here hx rfl (D d7_15) rfl (l' := #[vR x, vI sp, vI en, vR ky, vI 0, .unset, .unset, .unset]) rfl ?_
   refine XS.iconst Xh24.here hx rfl (D d7_17) ?_
   show Steps p.tables e below (T22.setTop (fr_iw3 m x sp en ky 18 (vI 0) .unset .unset .unset [(iV 0)])) t
   refine XS.istore Xh24.here hx rfl (D d7_18) rfl (l' := #[vR x, vI sp, vI en, vR ky, vI 0, vI 0, .unset, .unset]) rfl ?_
   refine XS.iload Xh24.here hx rfl (D d7_20) rfl ?_
   refine XS.ifYes Xh24.here hx rfl (pc0 := 22) (pc' := 96) rfl (D d7_22) rfl ((if0 _ _).trans (teq ((by decide) : (0 : Int32) = (0 : Int32))).1) (by decide) (by decide) ?_
   refine XS.iload Xh24.here hx rfl (D d7_96) rfl ?_
   exact kt
  refine ownRet Xh24 Bd.notSynchronized (v := some (.int (nar .boolean (0 : Int32)))) (fun h => by rw [Bd.returns] at h; cases h) ?_ (oLe rfl) (oLe rfl) (fun fs hr => retN Xh24 hx (t := .boolean) Bd.returns (by simp) (D d7_98) hr)
  show (Q_iw3 Z x ta kb cd z vs ky tb kc ce zz wl d0 d1 d2 r0 r1 r2 kk0 kk1 kk2 kq0 kq1 kq2 sp en G1 G3 h0 n0) (some (.int (nar .boolean (0 : Int32)))) T22.heap _
  rw [Eq22]
  refine ⟨?_, Nh24, rfl⟩
  rw [own_bf0 (p := (en - sp) = (3 : Int32) ∧ Mw r0 d0 ∧ Mw r1 d1 ∧ Mw r2 d2) (fun q => hc25 q.1)]
  rfl
abbrev fr_law (m : MethodId) (p1 : Int64) (p2 : Int32) (p3 : Int32) (p4 : Int32) (p5 : Int32) (pc : Nat) (x6_ x7_ x8_ x9_ x10_ x11_ x12_ x13_ x14_ x15_ x16_ : Slot) (st : List Value) : JFrame := mkF m pc #[.val (.long p1), .second, vI p2, vI p3, vI p4, vI p5, x6_, x7_, x8_, x9_, x10_, x11_, x12_, x13_, x14_, x15_, x16_] st
def Q_law (Z : State) (p1 : Int64) (p2 : Int32) (p3 : Int32) (p4 : Int32) (p5 : Int32) (G1 : Int32) (G3 : Value) (h0 : Heap) (n0 : Nat) (v : Option Value) (h : Heap) (L : List Loc) : Prop := v = some (.int 1) ∧ Fr n0 L
theorem ef_law (m : MethodId) (x0 : Int64) (x1 : Int32) (x2 : Int32) (x3 : Int32) (x4 : Int32)  : entryFrame m #[(.long x0), (.int x1), (.int x2), (.int x3), (.int x4)] maxLocals = mkF m 0 #[.val (.long x0), .second, vI x1, vI x2, vI x3, vI x4, .unset, .unset, .unset, .unset, .unset, .unset, .unset, .unset, .unset, .unset, .unset] [] := by first | (simp [entryFrame, mkF, argsToLocals, Value.category, maxLocals]; done) | rfl
set_option maxRecDepth 65536 in
set_option maxHeartbeats 40000000 in
theorem c_law (l : Launch) (Z : State) (a0 : Array Value) (hw : HW a0 Z) (ws : List Jvm.Cond) (p1 : Int64) (p2 : Int32) (p3 : Int32) (p4 : Int32) (p5 : Int32) (G1 : Int32) (G3 : Value) (h0 : Heap) (n0 : Nat) (Z0 : n0 ≤ h0.size) (O2 : Sta Z Z.heap "java/lang/String" "COMPACT_STRINGS" "Z" (.int G1)) (P5 : ¬ (G1 = (0 : Int32))) (SA : Sta Z Z.heap "java/lang/StringUTF16" "$assertionsDisabled" "Z" (iV 1)) (SHI : Sta Z Z.heap "java/lang/StringUTF16" "HI_BYTE_SHIFT" "I" (iV 0)) (SLO : Sta Z Z.heap "java/lang/StringUTF16" "LO_BYTE_SHIFT" "I" (iV 8)) (O4 : Sta Z Z.heap "jdk/internal/util/Preconditions" "SIOOBE_FORMATTER" "Ljava/util/function/BiFunction;" G3) (rG3 : G3.isRef = true) (X00 : Old Z n0 h0) :
  MetFree l x (head1 (Jvm.Cond.code x code maxLocals ret :: ws) room_1) (fun a U => a = #[(.long p1), (.int p2), (.int p3), (.int p4), (.int p5)] ∧ Z.Warmed39 U.vm ∧ U.heap = h0 ∧ CHv Z ownEL U.vm h0) (fun _ _ _ _ _ => True) (fun _ U o U' => ∃ v L, o = .returned v ∧ (Q_law Z p1 p2 p3 p4 p5 G1 G3 h0 n0) v U'.heap L ∧ CHr Z ownEL U.vm U.heap U'.vm U'.heap ∧ ReturnedEndW U o U' L 32 1216) := by
 refine MetFree.of_bodySF (plainFor_of_name pn_19) hisR ?_
 intro p e s m args below meth c s₁ Bd hml0 hP hK
 obtain ⟨rfl, hZ, hHp, hCH⟩ := hP
 have hx := Bd.exec
 have D := fun {pc : Nat} {r} (h : decode _ pc = r) => hb Bd.bytes h
 have hml : c.maxLocals = 17 := hml0
 have hown : s.vm.findClass "com/example/savepoint/savepoint/SqlDialectIsWordPinLaw" = some m.cls := findClass_of_methodNamed Bd.named
 have hnm := (name_of_methodNamed Bd.named Bd.method).1
 have X0 : Stand p l e room_1 (s.setVm s.vm) m #[(.long p1), (.int p2), (.int p3), (.int p4), (.int p5)] below meth c s₁ [] 0 0 := Stand.of_body Bd
 have e0 : s₁.heap = h0 := by rw [← hHp, Bd.state]; rfl
 have N0 := Fr.nil n0
 refine ownOutH hHp (P := (Q_law Z p1 p2 p3 p4 p5 G1 G3 h0 n0)) ?_
 refine ownBy (A := s₁.setTop (mkF m 0 #[.val (.long p1), .second, vI p2, vI p3, vI p4, vI p5, .unset, .unset, .unset, .unset, .unset, .unset, .unset, .unset, .unset, .unset, .unset] [])) (fun t k => castTop (ef_law m p1 p2 p3 p4 p5) k) ?_
 have hS0 : s.Since s.vm h0.size := own_since
 have hEL := own_EW hw
 have R0 := CHr.refl hCH
 have wS := own_wS hw
 refine oTo s₁ (fr_law m p1 p2 p3 p4 p5 5 (.val (.int (p3 &&& (3 : Int32)))) .unset .unset .unset .unset .unset .unset .unset .unset .unset .unset []) (fun t kt => ?_) ?_
 ·refine XS.iloadN X0.here hx rfl (D at_0) rfl ?_
  refine XS.iconst X0.here hx rfl (D at_1) ?_
  refine XS.iand X0.here hx rfl (D at_2) rfl ?_
  refine XS.istore X0.here hx rfl (D at_3) rfl (l' := #[.val (.long p1), .second, vI p2, vI p3, vI p4, vI p5, .val (.int (p3 &&& (3 : Int32))), .unset, .unset, .unset, .unset, .unset, .unset, .unset, .unset, .unset, .unset]) rfl ?_
  exact kt
 show oA p e below _ s₁ (fr_law m p1 p2 p3 p4 p5 5 (.val (.int (p3 &&& (3 : Int32)))) .unset .unset .unset .unset .unset .unset .unset .unset .unset .unset [])
 generalize hd_nn : (p3 &&& (3 : Int32)) = nn
 have hnn := own_three p3
 rw [hd_nn] at hnn
 clear hd_nn
 have hd6 := own_d6 hnn
 refine oTo s₁ (fr_law m p1 p2 p3 p4 p5 7 (vI nn) .unset .unset .unset .unset .unset .unset .unset .unset .unset .unset [(.int p4)]) (fun t kt => ?_) ?_
 ·refine XS.iload X0.here hx rfl (D at_5) rfl ?_
  exact kt
 refine ownBy (X0.ldcInt hx hown (mvT hZ (Wd0 hw)) (g := (fr_law m p1 p2 p3 p4 p5 7 (vI nn) .unset .unset .unset .unset .unset .unset .unset .unset .unset .unset [(.int p4)])) rfl (D at_7)) ?_
 show oA p e below _ s₁ (fr_law m p1 p2 p3 p4 p5 9 (vI nn) .unset .unset .unset .unset .unset .unset .unset .unset .unset .unset [(iV 2147483647), (.int p4)])
 refine oTo s₁ (fr_law m p1 p2 p3 p4 p5 18 (vI nn) (.val (.int ((p4 &&& (2147483647 : Int32)) % ((6 : Int32) - nn)))) .unset .unset .unset .unset .unset .unset .unset .unset .unset []) (fun t kt => ?_) ?_
 ·refine XS.iand X0.here hx rfl (D at_9) rfl ?_
  refine XS.bipush X0.here hx rfl (D at_10) ?_
  refine XS.iload X0.here hx rfl (D at_12) rfl ?_
  refine XS.isub X0.here hx rfl (D at_14) rfl ?_
  refine iremM X0 hx rfl (D at_15) rfl hd6 ?_
  refine XS.istore X0.here hx rfl (D at_16) rfl (l' := #[.val (.long p1), .second, vI p2, vI p3, vI p4, vI p5, vI nn, .val (.int ((p4 &&& (2147483647 : Int32)) % ((6 : Int32) - nn))), .unset, .unset, .unset, .unset, .unset, .unset, .unset, .unset, .unset]) rfl ?_
  exact kt
 show oA p e below _ s₁ (fr_law m p1 p2 p3 p4 p5 18 (vI nn) (.val (.int ((p4 &&& (2147483647 : Int32)) % ((6 : Int32) - nn)))) .unset .unset .unset .unset .unset .unset .unset .unset .unset [])
 generalize hd_sp : ((p4 &&& (2147483647 : Int32)) % ((6 : Int32) - nn)) = sp
 have hsp := own_sp p4 hnn
 rw [hd_sp] at hsp
 clear hd_sp hd6 hnn
 refine oTo s₁ (fr_law m p1 p2 p3 p4 p5 30 (vI nn) (vI sp) (.val (.int (sp + ((p5 &&& (7 : Int32)) - (2 : Int32))))) .unset .unset .unset .unset .unset .unset .unset .unset []) (fun t kt => ?_) ?_
 ·refine XS.iload X0.here hx rfl (D at_18) rfl ?_
  refine XS.iload X0.here hx rfl (D at_20) rfl ?_
  refine XS.bipush X0.here hx rfl (D at_22) ?_
  refine XS.iand X0.here hx rfl (D at_24) rfl ?_
  refine XS.iconst X0.here hx rfl (D at_25) ?_
  refine XS.isub X0.here hx rfl (D at_26) rfl ?_
  refine XS.iadd X0.here hx rfl (D at_27) rfl ?_
  refine XS.istore X0.here hx rfl (D at_28) rfl (l' := #[.val (.long p1), .second, vI p2, vI p3, vI p4, vI p5, vI nn, vI sp, .val (.int (sp + ((p5 &&& (7 : Int32)) - (2 : Int32)))), .unset, .unset, .unset, .unset, .unset, .unset, .unset, .unset]) rfl ?_
  exact kt
 show oA p e below _ s₁ (fr_law m p1 p2 p3 p4 p5 30 (vI nn) (vI sp) (.val (.int (sp + ((p5 &&& (7 : Int32)) - (2 : Int32))))) .unset .unset .unset .unset .unset .unset .unset .unset [])
 generalize hd_en : (sp + ((p5 &&& (7 : Int32)) - (2 : Int32))) = en
 clear hd_en
 refine oTo s₁ (fr_law m p1 p2 p3 p4 p5 31 (vI nn) (vI sp) (vI en) .unset .unset .unset .unset .unset .unset .unset .unset [(iV 5)]) (fun t kt => ?_) ?_
 ·refine XS.iconst X0.here hx rfl (D at_30) ?_
  exact kt
 obtain ⟨T22, h22, k22, X22, e22, E22, A22, st22⟩ := newP X0 hx hZ (aty := .char) (Wd1 hw) e0 (g := (fr_law m p1 p2 p3 p4 p5 31 (vI nn) (vI sp) (vI en) .unset .unset .unset .unset .unset .unset .unset .unset [(iV 5)])) rfl (D at_31) rfl (by decide : ¬ ((5 : Int32) < (0 : Int32))) (cap := 5) (by decide) (by decide) (by decide) (by decide)
 obtain ⟨b22, g22⟩ : ∃ z, z = h0.size := ⟨_, rfl⟩
 rw [← g22] at A22 st22
 have g23 : n0 ≤ b22 := Nat.le_trans Z0 (Nat.le_of_eq g22.symm)
 have sf24 : Safe Z ownEL s.vm h0 b22 := Safe.new (Nat.le_of_eq g22.symm)
 have z25 : h0.size ≤ b22 := Nat.le_trans (Nat.le_refl h0.size) (Nat.le_of_eq g22.symm)
 have R26 := R0.trans (CHr.ext E22 R0.1)
 have sf27 := Safe.ext E22 R0.1 sf24
 have V28 : Arv Z h22 b22 k22 .char (5 : Int32) [(iV 0), (iV 0), (iV 0), (iV 0), (iV 0)] (iV 0) := (Arv.new A22 (by decide)).pad (pad_rep [] (iV 0) 5)
 refine ownBy st22 ?_
 clear st22
 show oA p e below _ T22 (fr_law m p1 p2 p3 p4 p5 33 (vI nn) (vI sp) (vI en) .unset .unset .unset .unset .unset .unset .unset .unset [(.ref b22)])
 refine oTo T22 (fr_law m p1 p2 p3 p4 p5 39 (vI nn) (vI sp) (vI en) (vR b22) .unset .unset .unset .unset .unset .unset .unset [(.long p1), (iV 0), (.ref b22)]) (fun t kt => ?_) ?_
 ·refine XS.astore X22.here hx rfl (D at_33) rfl rfl (l' := #[.val (.long p1), .second, vI p2, vI p3, vI p4, vI p5, vI nn, vI sp, vI en, vR b22, .unset, .unset, .unset, .unset, .unset, .unset, .unset]) rfl ?_
  refine XS.aload X22.here hx rfl (D at_35) rfl rfl ?_
  refine XS.iconst X22.here hx rfl (D at_37) ?_
  refine XS.lloadN X22.here hx rfl (D at_38) rfl ?_
  exact kt
 refine ownBy (X22.ldc2Long hx hown (mvT hZ (Wd2 hw)) (g := (fr_law m p1 p2 p3 p4 p5 39 (vI nn) (vI sp) (vI en) (vR b22) .unset .unset .unset .unset .unset .unset .unset [(.long p1), (iV 0), (.ref b22)])) rfl (D at_39)) ?_
 show oA p e below _ T22 (fr_law m p1 p2 p3 p4 p5 42 (vI nn) (vI sp) (vI en) (vR b22) .unset .unset .unset .unset .unset .unset .unset [(.long (511 : Int64)), (.long p1), (iV 0), (.ref b22)])
 refine oTo T22 (fr_law m p1 p2 p3 p4 p5 45 (vI nn) (vI sp) (vI en) (vR b22) .unset .unset .unset .unset .unset .unset .unset [(.int (((p1 &&& (511 : Int64)).toInt32).toUInt32.toUInt16.toUInt32.toInt32)), (iV 0), (.ref b22)]) (fun t kt => ?_) ?_
 ·refine XS.land X22.here hx rfl (D at_42) rfl ?_
  refine XS.l2i X22.here hx rfl (D at_43) rfl ?_
  refine XS.i2c X22.here hx rfl (D at_44) rfl ?_
  exact kt
 show oA p e below _ T22 (fr_law m p1 p2 p3 p4 p5 45 (vI nn) (vI sp) (vI en) (vR b22) .unset .unset .unset .unset .unset .unset .unset [(.int (((p1 &&& (511 : Int64)).toInt32).toUInt32.toUInt16.toUInt32.toInt32)), (iV 0), (.ref b22)])
 have hr_u0 : ¬ (((p1 &&& (511 : Int64)).toInt32).toUInt32.toUInt16.toUInt32.toInt32) < 0 ∧ ¬ (65535 : Int32) < (((p1 &&& (511 : Int64)).toInt32).toUInt32.toUInt16.toUInt32.toInt32) := own_n16 _
 generalize (((p1 &&& (511 : Int64)).toInt32).toUInt32.toUInt16.toUInt32.toInt32) = u0 at hr_u0 ⊢
 obtain ⟨cl30, Ar30, q30, S30, N30, H30, G30⟩ := id V28
 have hin30 : ¬ ((0 : Int32) < 0 ∨ cl30.slots.size ≤ ((0 : Int32)).toNatClampNeg) := inb_of S30 ⟨by decide, by decide⟩
 obtain ⟨T30, h30, X30, e30, W30, st30⟩ := stC X22 hx hZ e22 Ar30 (j := (0 : Int32)) hin30 (g := (fr_law m p1 p2 p3 p4 p5 45 (vI nn) (vI sp) (vI en) (vR b22) .unset .unset .unset .unset .unset .unset .unset [(.int u0), (iV 0), (.ref b22)])) rfl rfl (D at_45)
 have V31 : Arv Z h30 b22 k22 .char (5 : Int32) [(.int (nar .char u0)), (iV 0), (iV 0), (iV 0), (iV 0)] (iV 0) := Arv.set Ar30 q30 S30 N30 H30 G30 (fits_nar_char _) W30 0 rfl (oLe rfl)
 rw [own_c16 hr_u0] at V31
 clear hin30 G30 H30 N30 S30 q30 Ar30 cl30 V28
 have N32 := Fr.snoc X30 N0 g23
 have R33 := R26.trans (CHr.wr W30 sf27 R26.1)
 have sf34 := Safe.wr W30 sf27 R26.1 sf27
 obtain ⟨Lh35, Xh35, Nh35⟩ := oHd 1 5 X30 N32 rfl rfl
 refine ownBy st30 ?_
 clear st30
 show oA p e below _ T30 (fr_law m p1 p2 p3 p4 p5 46 (vI nn) (vI sp) (vI en) (vR b22) .unset .unset .unset .unset .unset .unset .unset [])
 refine oTo T30 (fr_law m p1 p2 p3 p4 p5 53 (vI nn) (vI sp) (vI en) (vR b22) .unset .unset .unset .unset .unset .unset .unset [(.long ((p1.toUInt64 >>> ((9 : Int32) &&& 0x3f).toInt64.toUInt64).toInt64)), (iV 1), (.ref b22)]) (fun t kt => ?_) ?_
 ·refine XS.aload Xh35.here hx rfl (D at_46) rfl rfl ?_
  refine XS.iconst Xh35.here hx rfl (D at_48) ?_
  refine XS.lloadN Xh35.here hx rfl (D at_49) rfl ?_
  refine XS.bipush Xh35.here hx rfl (D at_50) ?_
  refine XS.lushr Xh35.here hx rfl (D at_52) rfl ?_
  exact kt
 refine ownBy (Xh35.ldc2Long hx hown (mvT hZ (Wd2 hw)) (g := (fr_law m p1 p2 p3 p4 p5 53 (vI nn) (vI sp) (vI en) (vR b22) .unset .unset .unset .unset .unset .unset .unset [(.long ((p1.toUInt64 >>> ((9 : Int32) &&& 0x3f).toInt64.toUInt64).toInt64)), (iV 1), (.ref b22)])) rfl (D at_53)) ?_
 show oA p e below _ T30 (fr_law m p1 p2 p3 p4 p5 56 (vI nn) (vI sp) (vI en) (vR b22) .unset .unset .unset .unset .unset .unset .unset [(.long (511 : Int64)), (.long ((p1.toUInt64 >>> ((9 : Int32) &&& 0x3f).toInt64.toUInt64).toInt64)), (iV 1), (.ref b22)])
 refine oTo T30 (fr_law m p1 p2 p3 p4 p5 59 (vI nn) (vI sp) (vI en) (vR b22) .unset .unset .unset .unset .unset .unset .unset [(.int (((((p1.toUInt64 >>> ((9 : Int32) &&& 0x3f).toInt64.toUInt64).toInt64) &&& (511 : Int64)).toInt32).toUInt32.toUInt16.toUInt32.toInt32)), (iV 1), (.ref b22)]) (fun t kt => ?_) ?_
 ·refine XS.land Xh35.here hx rfl (D at_56) rfl ?_
  refine XS.l2i Xh35.here hx rfl (D at_57) rfl ?_
  refine XS.i2c Xh35.here hx rfl (D at_58) rfl ?_
  exact kt
 show oA p e below _ T30 (fr_law m p1 p2 p3 p4 p5 59 (vI nn) (vI sp) (vI en) (vR b22) .unset .unset .unset .unset .unset .unset .unset [(.int (((((p1.toUInt64 >>> ((9 : Int32) &&& 0x3f).toInt64.toUInt64).toInt64) &&& (511 : Int64)).toInt32).toUInt32.toUInt16.toUInt32.toInt32)), (iV 1), (.ref b22)])
 have hr_u1 : ¬ (((((p1.toUInt64 >>> ((9 : Int32) &&& 0x3f).toInt64.toUInt64).toInt64) &&& (511 : Int64)).toInt32).toUInt32.toUInt16.toUInt32.toInt32) < 0 ∧ ¬ (65535 : Int32) < (((((p1.toUInt64 >>> ((9 : Int32) &&& 0x3f).toInt64.toUInt64).toInt64) &&& (511 : Int64)).toInt32).toUInt32.toUInt16.toUInt32.toInt32) := own_n16 _
 generalize (((((p1.toUInt64 >>> ((9 : Int32) &&& 0x3f).toInt64.toUInt64).toInt64) &&& (511 : Int64)).toInt32).toUInt32.toUInt16.toUInt32.toInt32) = u1 at hr_u1 ⊢
 obtain ⟨cl37, Ar37, q37, S37, N37, H37, G37⟩ := id V31
 have hin37 : ¬ ((1 : Int32) < 0 ∨ cl37.slots.size ≤ ((1 : Int32)).toNatClampNeg) := inb_of S37 ⟨by decide, by decide⟩
 obtain ⟨T37, h37, X37, e37, W37, st37⟩ := stC Xh35 hx hZ e30 Ar37 (j := (1 : Int32)) hin37 (g := (fr_law m p1 p2 p3 p4 p5 59 (vI nn) (vI sp) (vI en) (vR b22) .unset .unset .unset .unset .unset .unset .unset [(.int u1), (iV 1), (.ref b22)])) rfl rfl (D at_59)
 have V38 : Arv Z h37 b22 k22 .char (5 : Int32) [(.int u0), (.int (nar .char u1)), (iV 0), (iV 0), (iV 0)] (iV 0) := Arv.set Ar37 q37 S37 N37 H37 G37 (fits_nar_char _) W37 1 rfl (oLe rfl)
 rw [own_c16 hr_u1] at V38
 clear hin37 G37 H37 N37 S37 q37 Ar37 cl37 V31
 have N39 := Fr.snoc X37 Nh35 g23
 have R40 := R33.trans (CHr.wr W37 sf34 R33.1)
 have sf41 := Safe.wr W37 sf34 R33.1 sf34
 obtain ⟨Lh42, Xh42, Nh42⟩ := oHd 1 5 X37 N39 rfl rfl
 refine ownBy st37 ?_
 clear st37
 show oA p e below _ T37 (fr_law m p1 p2 p3 p4 p5 60 (vI nn) (vI sp) (vI en) (vR b22) .unset .unset .unset .unset .unset .unset .unset [])
 refine oTo T37 (fr_law m p1 p2 p3 p4 p5 67 (vI nn) (vI sp) (vI en) (vR b22) .unset .unset .unset .unset .unset .unset .unset [(.long ((p1.toUInt64 >>> ((18 : Int32) &&& 0x3f).toInt64.toUInt64).toInt64)), (iV 2), (.ref b22)]) (fun t kt => ?_) ?_
 ·refine XS.aload Xh42.here hx rfl (D at_60) rfl rfl ?_
  refine XS.iconst Xh42.here hx rfl (D at_62) ?_
  refine XS.lloadN Xh42.here hx rfl (D at_63) rfl ?_
  refine XS.bipush Xh42.here hx rfl (D at_64) ?_
  refine XS.lushr Xh42.here hx rfl (D at_66) rfl ?_
  exact kt
 refine ownBy (Xh42.ldc2Long hx hown (mvT hZ (Wd2 hw)) (g := (fr_law m p1 p2 p3 p4 p5 67 (vI nn) (vI sp) (vI en) (vR b22) .unset .unset .unset .unset .unset .unset .unset [(.long ((p1.toUInt64 >>> ((18 : Int32) &&& 0x3f).toInt64.toUInt64).toInt64)), (iV 2), (.ref b22)])) rfl (D at_67)) ?_
 show oA p e below _ T37 (fr_law m p1 p2 p3 p4 p5 70 (vI nn) (vI sp) (vI en) (vR b22) .unset .unset .unset .unset .unset .unset .unset [(.long (511 : Int64)), (.long ((p1.toUInt64 >>> ((18 : Int32) &&& 0x3f).toInt64.toUInt64).toInt64)), (iV 2), (.ref b22)])
 refine oTo T37 (fr_law m p1 p2 p3 p4 p5 73 (vI nn) (vI sp) (vI en) (vR b22) .unset .unset .unset .unset .unset .unset .unset [(.int (((((p1.toUInt64 >>> ((18 : Int32) &&& 0x3f).toInt64.toUInt64).toInt64) &&& (511 : Int64)).toInt32).toUInt32.toUInt16.toUInt32.toInt32)), (iV 2), (.ref b22)]) (fun t kt => ?_) ?_
 ·refine XS.land Xh42.here hx rfl (D at_70) rfl ?_
  refine XS.l2i Xh42.here hx rfl (D at_71) rfl ?_
  refine XS.i2c Xh42.here hx rfl (D at_72) rfl ?_
  exact kt
 show oA p e below _ T37 (fr_law m p1 p2 p3 p4 p5 73 (vI nn) (vI sp) (vI en) (vR b22) .unset .unset .unset .unset .unset .unset .unset [(.int (((((p1.toUInt64 >>> ((18 : Int32) &&& 0x3f).toInt64.toUInt64).toInt64) &&& (511 : Int64)).toInt32).toUInt32.toUInt16.toUInt32.toInt32)), (iV 2), (.ref b22)])
 have hr_u2 : ¬ (((((p1.toUInt64 >>> ((18 : Int32) &&& 0x3f).toInt64.toUInt64).toInt64) &&& (511 : Int64)).toInt32).toUInt32.toUInt16.toUInt32.toInt32) < 0 ∧ ¬ (65535 : Int32) < (((((p1.toUInt64 >>> ((18 : Int32) &&& 0x3f).toInt64.toUInt64).toInt64) &&& (511 : Int64)).toInt32).toUInt32.toUInt16.toUInt32.toInt32) := own_n16 _
 generalize (((((p1.toUInt64 >>> ((18 : Int32) &&& 0x3f).toInt64.toUInt64).toInt64) &&& (511 : Int64)).toInt32).toUInt32.toUInt16.toUInt32.toInt32) = u2 at hr_u2 ⊢
 obtain ⟨cl44, Ar44, q44, S44, N44, H44, G44⟩ := id V38
 have hin44 : ¬ ((2 : Int32) < 0 ∨ cl44.slots.size ≤ ((2 : Int32)).toNatClampNeg) := inb_of S44 ⟨by decide, by decide⟩
 obtain ⟨T44, h44, X44, e44, W44, st44⟩ := stC Xh42 hx hZ e37 Ar44 (j := (2 : Int32)) hin44 (g := (fr_law m p1 p2 p3 p4 p5 73 (vI nn) (vI sp) (vI en) (vR b22) .unset .unset .unset .unset .unset .unset .unset [(.int u2), (iV 2), (.ref b22)])) rfl rfl (D at_73)
 have V45 : Arv Z h44 b22 k22 .char (5 : Int32) [(.int u0), (.int u1), (.int (nar .char u2)), (iV 0), (iV 0)] (iV 0) := Arv.set Ar44 q44 S44 N44 H44 G44 (fits_nar_char _) W44 2 rfl (oLe rfl)
 rw [own_c16 hr_u2] at V45
 clear hin44 G44 H44 N44 S44 q44 Ar44 cl44 V38
 have N46 := Fr.snoc X44 Nh42 g23
 have R47 := R40.trans (CHr.wr W44 sf41 R40.1)
 have sf48 := Safe.wr W44 sf41 R40.1 sf41
 obtain ⟨Lh49, Xh49, Nh49⟩ := oHd 1 5 X44 N46 rfl rfl
 refine ownBy st44 ?_
 clear st44
 show oA p e below _ T44 (fr_law m p1 p2 p3 p4 p5 74 (vI nn) (vI sp) (vI en) (vR b22) .unset .unset .unset .unset .unset .unset .unset [])
 refine oTo T44 (fr_law m p1 p2 p3 p4 p5 81 (vI nn) (vI sp) (vI en) (vR b22) .unset .unset .unset .unset .unset .unset .unset [(.long ((p1.toUInt64 >>> ((27 : Int32) &&& 0x3f).toInt64.toUInt64).toInt64)), (iV 3), (.ref b22)]) (fun t kt => ?_) ?_
 ·refine XS.aload Xh49.here hx rfl (D at_74) rfl rfl ?_
  refine XS.iconst Xh49.here hx rfl (D at_76) ?_
  refine XS.lloadN Xh49.here hx rfl (D at_77) rfl ?_
  refine XS.bipush Xh49.here hx rfl (D at_78) ?_
  refine XS.lushr Xh49.here hx rfl (D at_80) rfl ?_
  exact kt
 refine ownBy (Xh49.ldc2Long hx hown (mvT hZ (Wd2 hw)) (g := (fr_law m p1 p2 p3 p4 p5 81 (vI nn) (vI sp) (vI en) (vR b22) .unset .unset .unset .unset .unset .unset .unset [(.long ((p1.toUInt64 >>> ((27 : Int32) &&& 0x3f).toInt64.toUInt64).toInt64)), (iV 3), (.ref b22)])) rfl (D at_81)) ?_
 show oA p e below _ T44 (fr_law m p1 p2 p3 p4 p5 84 (vI nn) (vI sp) (vI en) (vR b22) .unset .unset .unset .unset .unset .unset .unset [(.long (511 : Int64)), (.long ((p1.toUInt64 >>> ((27 : Int32) &&& 0x3f).toInt64.toUInt64).toInt64)), (iV 3), (.ref b22)])
 refine oTo T44 (fr_law m p1 p2 p3 p4 p5 87 (vI nn) (vI sp) (vI en) (vR b22) .unset .unset .unset .unset .unset .unset .unset [(.int (((((p1.toUInt64 >>> ((27 : Int32) &&& 0x3f).toInt64.toUInt64).toInt64) &&& (511 : Int64)).toInt32).toUInt32.toUInt16.toUInt32.toInt32)), (iV 3), (.ref b22)]) (fun t kt => ?_) ?_
 ·refine XS.land Xh49.here hx rfl (D at_84) rfl ?_
  refine XS.l2i Xh49.here hx rfl (D at_85) rfl ?_
  refine XS.i2c Xh49.here hx rfl (D at_86) rfl ?_
  exact kt
 show oA p e below _ T44 (fr_law m p1 p2 p3 p4 p5 87 (vI nn) (vI sp) (vI en) (vR b22) .unset .unset .unset .unset .unset .unset .unset [(.int (((((p1.toUInt64 >>> ((27 : Int32) &&& 0x3f).toInt64.toUInt64).toInt64) &&& (511 : Int64)).toInt32).toUInt32.toUInt16.toUInt32.toInt32)), (iV 3), (.ref b22)])
 have hr_u3 : ¬ (((((p1.toUInt64 >>> ((27 : Int32) &&& 0x3f).toInt64.toUInt64).toInt64) &&& (511 : Int64)).toInt32).toUInt32.toUInt16.toUInt32.toInt32) < 0 ∧ ¬ (65535 : Int32) < (((((p1.toUInt64 >>> ((27 : Int32) &&& 0x3f).toInt64.toUInt64).toInt64) &&& (511 : Int64)).toInt32).toUInt32.toUInt16.toUInt32.toInt32) := own_n16 _
 generalize (((((p1.toUInt64 >>> ((27 : Int32) &&& 0x3f).toInt64.toUInt64).toInt64) &&& (511 : Int64)).toInt32).toUInt32.toUInt16.toUInt32.toInt32) = u3 at hr_u3 ⊢
 obtain ⟨cl51, Ar51, q51, S51, N51, H51, G51⟩ := id V45
 have hin51 : ¬ ((3 : Int32) < 0 ∨ cl51.slots.size ≤ ((3 : Int32)).toNatClampNeg) := inb_of S51 ⟨by decide, by decide⟩
 obtain ⟨T51, h51, X51, e51, W51, st51⟩ := stC Xh49 hx hZ e44 Ar51 (j := (3 : Int32)) hin51 (g := (fr_law m p1 p2 p3 p4 p5 87 (vI nn) (vI sp) (vI en) (vR b22) .unset .unset .unset .unset .unset .unset .unset [(.int u3), (iV 3), (.ref b22)])) rfl rfl (D at_87)
 have V52 : Arv Z h51 b22 k22 .char (5 : Int32) [(.int u0), (.int u1), (.int u2), (.int (nar .char u3)), (iV 0)] (iV 0) := Arv.set Ar51 q51 S51 N51 H51 G51 (fits_nar_char _) W51 3 rfl (oLe rfl)
 rw [own_c16 hr_u3] at V52
 clear hin51 G51 H51 N51 S51 q51 Ar51 cl51 V45
 have N53 := Fr.snoc X51 Nh49 g23
 have R54 := R47.trans (CHr.wr W51 sf48 R47.1)
 have sf55 := Safe.wr W51 sf48 R47.1 sf48
 obtain ⟨Lh56, Xh56, Nh56⟩ := oHd 1 5 X51 N53 rfl rfl
 refine ownBy st51 ?_
 clear st51
 show oA p e below _ T51 (fr_law m p1 p2 p3 p4 p5 88 (vI nn) (vI sp) (vI en) (vR b22) .unset .unset .unset .unset .unset .unset .unset [])
 refine oTo T51 (fr_law m p1 p2 p3 p4 p5 95 (vI nn) (vI sp) (vI en) (vR b22) .unset .unset .unset .unset .unset .unset .unset [(.long ((p1.toUInt64 >>> ((36 : Int32) &&& 0x3f).toInt64.toUInt64).toInt64)), (iV 4), (.ref b22)]) (fun t kt => ?_) ?_
 ·refine XS.aload Xh56.here hx rfl (D at_88) rfl rfl ?_
  refine XS.iconst Xh56.here hx rfl (D at_90) ?_
  refine XS.lloadN Xh56.here hx rfl (D at_91) rfl ?_
  refine XS.bipush Xh56.here hx rfl (D at_92) ?_
  refine XS.lushr Xh56.here hx rfl (D at_94) rfl ?_
  exact kt
 refine ownBy (Xh56.ldc2Long hx hown (mvT hZ (Wd2 hw)) (g := (fr_law m p1 p2 p3 p4 p5 95 (vI nn) (vI sp) (vI en) (vR b22) .unset .unset .unset .unset .unset .unset .unset [(.long ((p1.toUInt64 >>> ((36 : Int32) &&& 0x3f).toInt64.toUInt64).toInt64)), (iV 4), (.ref b22)])) rfl (D at_95)) ?_
 show oA p e below _ T51 (fr_law m p1 p2 p3 p4 p5 98 (vI nn) (vI sp) (vI en) (vR b22) .unset .unset .unset .unset .unset .unset .unset [(.long (511 : Int64)), (.long ((p1.toUInt64 >>> ((36 : Int32) &&& 0x3f).toInt64.toUInt64).toInt64)), (iV 4), (.ref b22)])
 refine oTo T51 (fr_law m p1 p2 p3 p4 p5 101 (vI nn) (vI sp) (vI en) (vR b22) .unset .unset .unset .unset .unset .unset .unset [(.int (((((p1.toUInt64 >>> ((36 : Int32) &&& 0x3f).toInt64.toUInt64).toInt64) &&& (511 : Int64)).toInt32).toUInt32.toUInt16.toUInt32.toInt32)), (iV 4), (.ref b22)]) (fun t kt => ?_) ?_
 ·refine XS.land Xh56.here hx rfl (D at_98) rfl ?_
  refine XS.l2i Xh56.here hx rfl (D at_99) rfl ?_
  refine XS.i2c Xh56.here hx rfl (D at_100) rfl ?_
  exact kt
 show oA p e below _ T51 (fr_law m p1 p2 p3 p4 p5 101 (vI nn) (vI sp) (vI en) (vR b22) .unset .unset .unset .unset .unset .unset .unset [(.int (((((p1.toUInt64 >>> ((36 : Int32) &&& 0x3f).toInt64.toUInt64).toInt64) &&& (511 : Int64)).toInt32).toUInt32.toUInt16.toUInt32.toInt32)), (iV 4), (.ref b22)])
 have hr_u4 : ¬ (((((p1.toUInt64 >>> ((36 : Int32) &&& 0x3f).toInt64.toUInt64).toInt64) &&& (511 : Int64)).toInt32).toUInt32.toUInt16.toUInt32.toInt32) < 0 ∧ ¬ (65535 : Int32) < (((((p1.toUInt64 >>> ((36 : Int32) &&& 0x3f).toInt64.toUInt64).toInt64) &&& (511 : Int64)).toInt32).toUInt32.toUInt16.toUInt32.toInt32) := own_n16 _
 generalize (((((p1.toUInt64 >>> ((36 : Int32) &&& 0x3f).toInt64.toUInt64).toInt64) &&& (511 : Int64)).toInt32).toUInt32.toUInt16.toUInt32.toInt32) = u4 at hr_u4 ⊢
 obtain ⟨cl58, Ar58, q58, S58, N58, H58, G58⟩ := id V52
 have hin58 : ¬ ((4 : Int32) < 0 ∨ cl58.slots.size ≤ ((4 : Int32)).toNatClampNeg) := inb_of S58 ⟨by decide, by decide⟩
 obtain ⟨T58, h58, X58, e58, W58, st58⟩ := stC Xh56 hx hZ e51 Ar58 (j := (4 : Int32)) hin58 (g := (fr_law m p1 p2 p3 p4 p5 101 (vI nn) (vI sp) (vI en) (vR b22) .unset .unset .unset .unset .unset .unset .unset [(.int u4), (iV 4), (.ref b22)])) rfl rfl (D at_101)
 have V59 : Arv Z h58 b22 k22 .char (5 : Int32) [(.int u0), (.int u1), (.int u2), (.int u3), (.int (nar .char u4))] (iV 0) := Arv.set Ar58 q58 S58 N58 H58 G58 (fits_nar_char _) W58 4 rfl (oLe rfl)
 rw [own_c16 hr_u4] at V59
 clear hin58 G58 H58 N58 S58 q58 Ar58 cl58 V52
 have N60 := Fr.snoc X58 Nh56 g23
 have R61 := R54.trans (CHr.wr W58 sf55 R54.1)
 have sf62 := Safe.wr W58 sf55 R54.1 sf55
 obtain ⟨Lh63, Xh63, Nh63⟩ := oHd 1 5 X58 N60 rfl rfl
 refine ownBy st58 ?_
 clear st58
 show oA p e below _ T58 (fr_law m p1 p2 p3 p4 p5 102 (vI nn) (vI sp) (vI en) (vR b22) .unset .unset .unset .unset .unset .unset .unset [])
 refine oTo T58 (fr_law m p1 p2 p3 p4 p5 108 (vI nn) (vI sp) (vI en) (vR b22) .unset .unset .unset .unset .unset .unset .unset [(.int ((p2 &&& (511 : Int32)).toUInt32.toUInt16.toUInt32.toInt32))]) (fun t kt => ?_) ?_
 ·refine XS.iloadN Xh63.here hx rfl (D at_102) rfl ?_
  refine XS.sipush Xh63.here hx rfl (D at_103) ?_
  refine XS.iand Xh63.here hx rfl (D at_106) rfl ?_
  refine XS.i2c Xh63.here hx rfl (D at_107) rfl ?_
  exact kt
 show oA p e below _ T58 (fr_law m p1 p2 p3 p4 p5 108 (vI nn) (vI sp) (vI en) (vR b22) .unset .unset .unset .unset .unset .unset .unset [(.int ((p2 &&& (511 : Int32)).toUInt32.toUInt16.toUInt32.toInt32))])
 have hr_d0 : ¬ ((p2 &&& (511 : Int32)).toUInt32.toUInt16.toUInt32.toInt32) < 0 ∧ ¬ (65535 : Int32) < ((p2 &&& (511 : Int32)).toUInt32.toUInt16.toUInt32.toInt32) := own_n16 _
 generalize ((p2 &&& (511 : Int32)).toUInt32.toUInt16.toUInt32.toInt32) = d0 at hr_d0 ⊢
 refine oTo T58 (fr_law m p1 p2 p3 p4 p5 119 (vI nn) (vI sp) (vI en) (vR b22) (vI d0) .unset .unset .unset .unset .unset .unset [(.int ((((p2.toUInt32 >>> ((9 : Int32) &&& 31).toUInt32).toInt32) &&& (511 : Int32)).toUInt32.toUInt16.toUInt32.toInt32))]) (fun t kt => ?_) ?_
 ·refine XS.istore Xh63.here hx rfl (D at_108) rfl (l' := #[.val (.long p1), .second, vI p2, vI p3, vI p4, vI p5, vI nn, vI sp, vI en, vR b22, vI d0, .unset, .unset, .unset, .unset, .unset, .unset]) rfl ?_
  refine XS.iloadN Xh63.here hx rfl (D at_110) rfl ?_
  refine XS.bipush Xh63.here hx rfl (D at_111) ?_
  refine XS.iushr Xh63.here hx rfl (D at_113) rfl ?_
  refine XS.sipush Xh63.here hx rfl (D at_114) ?_
  refine XS.iand Xh63.here hx rfl (D at_117) rfl ?_
  refine XS.i2c Xh63.here hx rfl (D at_118) rfl ?_
  exact kt
 show oA p e below _ T58 (fr_law m p1 p2 p3 p4 p5 119 (vI nn) (vI sp) (vI en) (vR b22) (vI d0) .unset .unset .unset .unset .unset .unset [(.int ((((p2.toUInt32 >>> ((9 : Int32) &&& 31).toUInt32).toInt32) &&& (511 : Int32)).toUInt32.toUInt16.toUInt32.toInt32))])
 have hr_d1 : ¬ ((((p2.toUInt32 >>> ((9 : Int32) &&& 31).toUInt32).toInt32) &&& (511 : Int32)).toUInt32.toUInt16.toUInt32.toInt32) < 0 ∧ ¬ (65535 : Int32) < ((((p2.toUInt32 >>> ((9 : Int32) &&& 31).toUInt32).toInt32) &&& (511 : Int32)).toUInt32.toUInt16.toUInt32.toInt32) := own_n16 _
 generalize ((((p2.toUInt32 >>> ((9 : Int32) &&& 31).toUInt32).toInt32) &&& (511 : Int32)).toUInt32.toUInt16.toUInt32.toInt32) = d1 at hr_d1 ⊢
 refine oTo T58 (fr_law m p1 p2 p3 p4 p5 130 (vI nn) (vI sp) (vI en) (vR b22) (vI d0) (vI d1) .unset .unset .unset .unset .unset [(.int ((((p2.toUInt32 >>> ((18 : Int32) &&& 31).toUInt32).toInt32) &&& (511 : Int32)).toUInt32.toUInt16.toUInt32.toInt32))]) (fun t kt => ?_) ?_
 ·refine XS.istore Xh63.here hx rfl (D at_119) rfl (l' := #[.val (.long p1), .second, vI p2, vI p3, vI p4, vI p5, vI nn, vI sp, vI en, vR b22, vI d0, vI d1, .unset, .unset, .unset, .unset, .unset]) rfl ?_
  refine XS.iloadN Xh63.here hx rfl (D at_121) rfl ?_
  refine XS.bipush Xh63.here hx rfl (D at_122) ?_
  refine XS.iushr Xh63.here hx rfl (D at_124) rfl ?_
  refine XS.sipush Xh63.here hx rfl (D at_125) ?_
  refine XS.iand Xh63.here hx rfl (D at_128) rfl ?_
  refine XS.i2c Xh63.here hx rfl (D at_129) rfl ?_
  exact kt
 show oA p e below _ T58 (fr_law m p1 p2 p3 p4 p5 130 (vI nn) (vI sp) (vI en) (vR b22) (vI d0) (vI d1) .unset .unset .unset .unset .unset [(.int ((((p2.toUInt32 >>> ((18 : Int32) &&& 31).toUInt32).toInt32) &&& (511 : Int32)).toUInt32.toUInt16.toUInt32.toInt32))])
 have hr_d2 : ¬ ((((p2.toUInt32 >>> ((18 : Int32) &&& 31).toUInt32).toInt32) &&& (511 : Int32)).toUInt32.toUInt16.toUInt32.toInt32) < 0 ∧ ¬ (65535 : Int32) < ((((p2.toUInt32 >>> ((18 : Int32) &&& 31).toUInt32).toInt32) &&& (511 : Int32)).toUInt32.toUInt16.toUInt32.toInt32) := own_n16 _
 generalize ((((p2.toUInt32 >>> ((18 : Int32) &&& 31).toUInt32).toInt32) &&& (511 : Int32)).toUInt32.toUInt16.toUInt32.toInt32) = d2 at hr_d2 ⊢
 refine oTo T58 (fr_law m p1 p2 p3 p4 p5 132 (vI nn) (vI sp) (vI en) (vR b22) (vI d0) (vI d1) (vI d2) .unset .unset .unset .unset []) (fun t kt => ?_) ?_
 ·refine XS.istore Xh63.here hx rfl (D at_130) rfl (l' := #[.val (.long p1), .second, vI p2, vI p3, vI p4, vI p5, vI nn, vI sp, vI en, vR b22, vI d0, vI d1, vI d2, .unset, .unset, .unset, .unset]) rfl ?_
  exact kt
 rcases hsp with rfl | ⟨rfl, hst⟩ | ⟨rfl, hst⟩ | ⟨rfl, hst⟩
 ·skip
  show oA p e below _ T58 (fr_law m p1 p2 p3 p4 p5 132 (vI 0) (vI sp) (vI en) (vR b22) (vI d0) (vI d1) (vI d2) .unset .unset .unset .unset [])
  refine oTo T58 (fr_law m p1 p2 p3 p4 p5 137 (vI 0) (vI sp) (vI en) (vR b22) (vI d0) (vI d1) (vI d2) .unset .unset .unset .unset []) (fun t kt => ?_) ?_
  ·refine XS.iload Xh63.here hx rfl (D at_132) rfl ?_
   refine XS.ifNo Xh63.here hx rfl (D at_134) rfl ((if0 _ _).trans (teq ((by decide) : (0 : Int32) = (0 : Int32))).2) ?_
   exact kt
  obtain ⟨T64, h64, X64, e64, E64, A64, D64, -, st64⟩ := newO Xh63 hx hZ hown (Wd3 hw) (Wd4 hw) (Wd5 hw) e58 (g := (fr_law m p1 p2 p3 p4 p5 137 (vI 0) (vI sp) (vI en) (vR b22) (vI d0) (vI d1) (vI d2) .unset .unset .unset .unset [])) rfl (D at_137) (by decide) (by decide)
  obtain ⟨b64, g64⟩ : ∃ z, z = h58.size := ⟨_, rfl⟩
  rw [← g64] at A64 D64 st64
  have ne65 : b22 ≠ b64 := Nat.ne_of_lt (Nat.lt_of_lt_of_le V59.lt (Nat.le_of_eq g64.symm))
  have f67 := (Nat.le_trans (Nat.le_trans (Nat.le_trans (Nat.le_trans (Nat.le_trans (Nat.le_trans Z0 E22.1) (Keep.of_wr W30).1) (Keep.of_wr W37).1) (Keep.of_wr W44).1) (Keep.of_wr W51).1) (Keep.of_wr W58).1)
  have g66 : n0 ≤ b64 := Nat.le_trans f67 (Nat.le_of_eq g64.symm)
  have sf68 : Safe Z ownEL s.vm h58 b64 := Safe.new (Nat.le_of_eq g64.symm)
  have f70 := (Nat.le_trans (Nat.le_trans (Nat.le_trans (Nat.le_trans (Nat.le_trans (Nat.le_trans (Nat.le_refl h0.size) E22.1) (Keep.of_wr W30).1) (Keep.of_wr W37).1) (Keep.of_wr W44).1) (Keep.of_wr W51).1) (Keep.of_wr W58).1)
  have z69 : h0.size ≤ b64 := Nat.le_trans f70 (Nat.le_of_eq g64.symm)
  have R71 := R61.trans (CHr.ext E64 R61.1)
  have sf72 := Safe.ext E64 R61.1 sf62
  have sf73 := Safe.ext E64 R61.1 sf68
  have F74 : Fld Z h64 b64 "java/lang/String" "coder" "B" (iV 0) := D64 (Or.inr (Wd29 hw)) (ty := .byte) (by decide)
  have F75 : Fld Z h64 b64 "java/lang/String" "value" "[B" .null := D64 (Or.inr (Wd31 hw)) (ty := (.array .byte)) (by decide)
  refine ownBy st64 ?_
  clear st64
  show oA p e below _ T64 (fr_law m p1 p2 p3 p4 p5 140 (vI 0) (vI sp) (vI en) (vR b22) (vI d0) (vI d1) (vI d2) .unset .unset .unset .unset [(.ref b64)])
  refine oTo T64 (fr_law m p1 p2 p3 p4 p5 142 (vI 0) (vI sp) (vI en) (vR b22) (vI d0) (vI d1) (vI d2) .unset .unset .unset .unset [(iV 0), (.ref b64), (.ref b64)]) (fun t kt => ?_) ?_
  ·refine XS.dup X64.here hx rfl (D at_140) rfl rfl ?_
   refine XS.iconst X64.here hx rfl (D at_141) ?_
   exact kt
  obtain ⟨T76, h76, k76, X76, e76, E76, A76, st76⟩ := newP X64 hx hZ (aty := .char) (Wd1 hw) e64 (g := (fr_law m p1 p2 p3 p4 p5 142 (vI 0) (vI sp) (vI en) (vR b22) (vI d0) (vI d1) (vI d2) .unset .unset .unset .unset [(iV 0), (.ref b64), (.ref b64)])) rfl (D at_142) rfl (by decide : ¬ ((0 : Int32) < (0 : Int32))) (cap := 0) (by decide) (by decide) (by decide) (by decide)
  obtain ⟨b76, g76⟩ : ∃ z, z = h64.size := ⟨_, rfl⟩
  rw [← g76] at A76 st76
  have f78 := (V59.ext E64)
  have ne77 : b22 ≠ b76 := Nat.ne_of_lt (Nat.lt_of_lt_of_le f78.lt (Nat.le_of_eq g76.symm))
  have ne79 : b64 ≠ b76 := Nat.ne_of_lt (Nat.lt_of_lt_of_le A64.lt (Nat.le_of_eq g76.symm))
  have f81 := (Nat.le_trans f67 E64.1)
  have g80 : n0 ≤ b76 := Nat.le_trans f81 (Nat.le_of_eq g76.symm)
  have sf82 : Safe Z ownEL s.vm h64 b76 := Safe.new (Nat.le_of_eq g76.symm)
  have f84 := (Nat.le_trans f70 E64.1)
  have z83 : h0.size ≤ b76 := Nat.le_trans f84 (Nat.le_of_eq g76.symm)
  have R85 := R71.trans (CHr.ext E76 R71.1)
  have sf86 := Safe.ext E76 R71.1 sf72
  have sf87 := Safe.ext E76 R71.1 sf73
  have sf88 := Safe.ext E76 R71.1 sf82
  have V89 : Arv Z h76 b76 k76 .char (0 : Int32) [] (iV 0) := Arv.new A76 (by decide)
  refine ownBy st76 ?_
  clear st76
  show oA p e below _ T76 (fr_law m p1 p2 p3 p4 p5 144 (vI 0) (vI sp) (vI en) (vR b22) (vI d0) (vI d1) (vI d2) .unset .unset .unset .unset [(.ref b76), (.ref b64), (.ref b64)])
  have f90 := (A64.ext E76)
  have f91 := (F75.ext E76)
  have f92 := (F74.ext E76)
  have f93 := (Nat.le_trans f81 E76.1)
  obtain ⟨vv94, _, ⟨T94, L94, k94, n94⟩, -, X94, hS94, hg94, ⟨Lc94, hQ94, l94, y94, z94, hC94⟩, st94⟩ := X76.specialBackS hx (y := yM1) rfl hown (mvT hZ (Wd6 hw)) (mvT hZ (Wd7 hw)) (mvT hZ (Wd8 hw)) (by decide) (backOfSH (W := 1) (s := s) (EL := ownEL) (c_ini0 l Z a0 hw [] b64 b76 _ k76 h76 n0 f93 f90 f91 f92 g66 V89 ne79) hZ (Wd8 hw) (Wd5 hw) (by decide) (by decide) hEL R85.1) (g := (fr_law m p1 p2 p3 p4 p5 144 (vI 0) (vI sp) (vI en) (vR b22) (vI d0) (vI d1) (vI d2) .unset .unset .unset .unset [(.ref b76), (.ref b64), (.ref b64)])) rfl (by rw [hml]; rfl) (Steps.refl _) (a := b64) (argsL := [(.ref b76)]) (rest := [(.ref b64)]) (lenOf pd_23 rfl) rfl (by show 2 * 0 + _ ≤ _; exact Nat.le_of_eq rfl) (D at_144) (fun _ _ => ⟨rfl, e76, (by decide : 3 + 4 ≤ _), (by decide : 9 + 8 ≤ _)⟩)
  dsimp only [Pt.U, Pt.locs, Pt.cells, Pt.slots] at X94 l94 y94 z94 st94 hQ94 hS94 hg94 hC94
  subst l94 y94 z94
  obtain ⟨rfl, Nq94, Kq94, Eq94, Cq94, t94, kb94, Vq94, Aq94⟩ := hQ94
  have N95 := Fr.app Nh63 Nq94
  have R97 := R85.trans hC94
  have f99 := (f78.ext E76)
  have sf98 := CHr.safe hC94 f99.lt sf86
  have sf100 := CHr.safe hC94 f90.lt sf87
  have sf101 := CHr.safe hC94 V89.lt sf88
  obtain ⟨XR102, hSR102, hZ102, hown102⟩ := rebS hS0 (by rw [e76]; exact (Nat.le_trans (Nat.le_trans (Nat.le_trans (Nat.le_trans (Nat.le_trans (Nat.le_trans (Nat.le_trans (Nat.le_trans (Nat.le_refl _) E22.1) (Keep.of_wr W30).1) (Keep.of_wr W37).1) (Keep.of_wr W44).1) (Keep.of_wr W51).1) (Keep.of_wr W58).1) E64.1) E76.1)) X94 hS94 hg94 hZ hown
  obtain ⟨Lh103, Xh103, Nh103⟩ := oHd 7 17 XR102 N95 rfl rfl
  refine ownSt st94 ?_
  clear st94
  show oA p e below _ T94 (fr_law m p1 p2 p3 p4 p5 147 (vI 0) (vI sp) (vI en) (vR b22) (vI d0) (vI d1) (vI d2) .unset .unset .unset .unset [(.ref b64)])
  refine oTo T94 (fr_law m p1 p2 p3 p4 p5 236 (vI 0) (vI sp) (vI en) (vR b22) (vI d0) (vI d1) (vI d2) (vR b64) .unset .unset .unset []) (fun t kt => ?_) ?_
  ·refine XS.astore Xh103.here hx rfl (D at_147) rfl rfl (l' := #[.val (.long p1), .second, vI p2, vI p3, vI p4, vI p5, vI 0, vI sp, vI en, vR b22, vI d0, vI d1, vI d2, vR b64, .unset, .unset, .unset]) rfl ?_
   refine XS.goto Xh103.here hx rfl (pc0 := 149) (pc' := 236) rfl (D at_149) (by decide) (by decide) ?_
   exact kt
  obtain ⟨T104, h104, X104, e104, E104, A104, D104, -, st104⟩ := newO Xh103 hx hZ102 hown102 (Wd3 hw) (Wd4 hw) (Wd5 hw) rfl (g := (fr_law m p1 p2 p3 p4 p5 236 (vI 0) (vI sp) (vI en) (vR b22) (vI d0) (vI d1) (vI d2) (vR b64) .unset .unset .unset [])) rfl (D at_236) (by decide) (by decide)
  obtain ⟨b104, g104⟩ : ∃ z, z = T94.heap.size := ⟨_, rfl⟩
  rw [← g104] at A104 D104 st104
  have f106 := (f99.keep Kq94 (ninS ne65 nin0))
  have ne105 : b22 ≠ b104 := Nat.ne_of_lt (Nat.lt_of_lt_of_le f106.lt (Nat.le_of_eq g104.symm))
  have f108 := (f90.keep Kq94)
  have ne107 : b64 ≠ b104 := Nat.ne_of_lt (Nat.lt_of_lt_of_le f108.lt (Nat.le_of_eq g104.symm))
  have f110 := (V89.keep Kq94 (ninS (Ne.symm ne79) nin0))
  have ne109 : b76 ≠ b104 := Nat.ne_of_lt (Nat.lt_of_lt_of_le f110.lt (Nat.le_of_eq g104.symm))
  have ne111 : t94 ≠ b104 := Nat.ne_of_lt (Nat.lt_of_lt_of_le Aq94.lt (Nat.le_of_eq g104.symm))
  have f113 := (Nat.le_trans f93 Kq94.1)
  have g112 : n0 ≤ b104 := Nat.le_trans f113 (Nat.le_of_eq g104.symm)
  have sf114 : Safe Z ownEL T94.vm T94.heap b104 := Safe.new (Nat.le_of_eq g104.symm)
  have f116 := (Nat.le_trans (Nat.le_trans f84 E76.1) Kq94.1)
  have z115 : h0.size ≤ b104 := Nat.le_trans f116 (Nat.le_of_eq g104.symm)
  have R117 := R97.trans (CHr.ext E104 R97.1)
  have sf118 := Safe.ext E104 R97.1 sf98
  have sf119 := Safe.ext E104 R97.1 sf100
  have sf120 := Safe.ext E104 R97.1 sf101
  have sf121 := Safe.ext E104 R97.1 sf114
  have F122 : Fld Z h104 b104 "java/lang/String" "coder" "B" (iV 0) := D104 (Or.inr (Wd29 hw)) (ty := .byte) (by decide)
  have F123 : Fld Z h104 b104 "java/lang/String" "value" "[B" .null := D104 (Or.inr (Wd31 hw)) (ty := (.array .byte)) (by decide)
  refine ownBy st104 ?_
  clear st104
  show oA p e below _ T104 (fr_law m p1 p2 p3 p4 p5 239 (vI 0) (vI sp) (vI en) (vR b22) (vI d0) (vI d1) (vI d2) (vR b64) .unset .unset .unset [(.ref b104)])
  refine oTo T104 (fr_law m p1 p2 p3 p4 p5 242 (vI 0) (vI sp) (vI en) (vR b22) (vI d0) (vI d1) (vI d2) (vR b64) .unset .unset .unset [(.ref b22), (.ref b104), (.ref b104)]) (fun t kt => ?_) ?_
  ·refine XS.dup X104.here hx rfl (D at_239) rfl rfl ?_
   refine XS.aload X104.here hx rfl (D at_240) rfl rfl ?_
   exact kt
  have f124 := (f106.ext E104)
  have f125 := ((((((((((X00.ext E22).wr W30 g23).wr W37 g23).wr W44 g23).wr W51 g23).wr W58 g23).ext E64).ext E76).keep Kq94 (allS g66 all0)).ext E104)
  have f126 := (Nat.le_trans f113 E104.1)
  obtain ⟨vv127, _, ⟨T127, L127, k127, n127⟩, -, X127, ⟨Lc127, hQ127, l127, y127, z127⟩, st127⟩ := X104.specialBack hx (y := yM1) rfl hown102 (mvT hZ102 (Wd6 hw)) (mvT hZ102 (Wd7 hw)) (mvT hZ102 (Wd8 hw)) (by decide) (backOf (W := 1) (c_inC_5 l Z a0 hw [] b104 b22 k22 u0 u1 u2 u3 u4 _ G1 h104 n0 f126 A104 F123 F122 g112 (Ne.symm ne105) f124 hr_u0 hr_u1 hr_u2 hr_u3 hr_u4 O2 P5 SA SHI SLO f125) hZ102 (Wd8 hw) (Wd5 hw) (by decide) (by decide)) (g := (fr_law m p1 p2 p3 p4 p5 242 (vI 0) (vI sp) (vI en) (vR b22) (vI d0) (vI d1) (vI d2) (vR b64) .unset .unset .unset [(.ref b22), (.ref b104), (.ref b104)])) rfl (by rw [hml]; rfl) (Steps.refl _) (a := b104) (argsL := [(.ref b22)]) (rest := [(.ref b104)]) (lenOf pd_23 rfl) rfl (by show 2 * 0 + _ ≤ _; exact Nat.le_of_eq rfl) (D at_242) (fun _ _ => ⟨rfl, e104, (by decide : 8 + 2 ≤ _), (by decide : 21 + 15 ≤ _)⟩)
  dsimp only [Pt.U, Pt.locs, Pt.cells, Pt.slots] at X127 l127 y127 z127 st127 hQ127
  subst l127 y127 z127
  obtain ⟨rfl, Nq127, Kq127, Eq127, t127, kb127, cd127, z127, vs127, zq127, Vq127, Cq127, Aq127, hrel127⟩ := hQ127
  have ne128 : b22 ≠ t127 := Nat.ne_of_lt (Nat.lt_of_lt_of_le f124.lt zq127)
  have f130 := (f108.ext E104)
  have ne129 : b64 ≠ t127 := Nat.ne_of_lt (Nat.lt_of_lt_of_le f130.lt zq127)
  have f132 := (f110.ext E104)
  have ne131 : b76 ≠ t127 := Nat.ne_of_lt (Nat.lt_of_lt_of_le f132.lt zq127)
  have f134 := (Aq94.ext E104)
  have ne133 : t94 ≠ t127 := Nat.ne_of_lt (Nat.lt_of_lt_of_le f134.lt zq127)
  have ne135 : b104 ≠ t127 := Nat.ne_of_lt (Nat.lt_of_lt_of_le A104.lt zq127)
  have g136 : n0 ≤ t127 := Nat.le_trans f126 zq127
  have sf137 : Safe Z ownEL T94.vm h104 t127 := Safe.new zq127
  have f139 := (Nat.le_trans f116 E104.1)
  have z138 : h0.size ≤ t127 := Nat.le_trans f139 zq127
  have N140 := Fr.app Nh103 Nq127
  have R141 := R117.trans (CHr.keep Kq127 (sfS sf121 sf0) R117.1)
  have sf142 := Safe.keep Kq127 (sfS sf121 sf0) R117.1 sf118
  have sf143 := Safe.keep Kq127 (sfS sf121 sf0) R117.1 sf119
  have sf144 := Safe.keep Kq127 (sfS sf121 sf0) R117.1 sf120
  have sf145 := Safe.keep Kq127 (sfS sf121 sf0) R117.1 sf121
  have sf146 := Safe.keep Kq127 (sfS sf121 sf0) R117.1 sf137
  obtain ⟨Lh147, Xh147, Nh147⟩ := oHd 10 36 X127 N140 rfl rfl
  refine ownSt st127 ?_
  clear st127
  show oA p e below _ T127 (fr_law m p1 p2 p3 p4 p5 245 (vI 0) (vI sp) (vI en) (vR b22) (vI d0) (vI d1) (vI d2) (vR b64) .unset .unset .unset [(.ref b104)])
  have f148 := (A104.keep Kq127)
  refine oTo T127 (fr_law m p1 p2 p3 p4 p5 255 (vI 0) (vI sp) (vI en) (vR b22) (vI d0) (vI d1) (vI d2) (vR b64) (vR b104) .unset .unset [(.ref b64), (.int en), (.int sp), (.ref b104)]) (fun t kt => ?_) ?_
  ·refine XS.astore Xh147.here hx rfl (D at_245) rfl rfl (l' := #[.val (.long p1), .second, vI p2, vI p3, vI p4, vI p5, vI 0, vI sp, vI en, vR b22, vI d0, vI d1, vI d2, vR b64, vR b104, .unset, .unset]) rfl ?_
   refine XS.aload Xh147.here hx rfl (D at_247) rfl rfl ?_
   refine XS.iload Xh147.here hx rfl (D at_249) rfl ?_
   refine XS.iload Xh147.here hx rfl (D at_251) rfl ?_
   refine XS.aload Xh147.here hx rfl (D at_253) rfl rfl ?_
   exact kt
  have f149 := (f130.keep Kq127)
  have f150 := ((Vq94.ext E104).keep Kq127 (ninS ne107 nin0))
  have f151 := ((Cq94.ext E104).keep Kq127 (ninS ne107 nin0))
  have f152 := (f134.keep Kq127 (ninS ne111 nin0))
  have f153 := (f125.keep Kq127 (allS g112 all0))
  have f154 := (Nat.le_trans f126 Kq127.1)
  obtain ⟨vv155, _, ⟨T155, L155, k155, n155⟩, -, X155, ⟨Lc155, hQ155, l155, y155, z155⟩, st155⟩ := Jvm.LawKit.callS Xh147 hx (y := yM21) hown102 (mvT hZ102 (Wd32 hw)) (mvT hZ102 (Wd33 hw)) (mvT hZ102 (Wd34 hw)) (mvT hZ102 (Wd35 hw)) (by decide) (backOf (W := 0) (c_iw0 l Z a0 hw [] b104 t127 kb127 cd127 z127 vs127 b64 t94 kb94 sp en G1 G3 T127.heap n0 f154 f148 Vq127 Cq127 Aq127 f149 f150 f151 f152 O2 P5 SA SHI SLO O4 rG3 f153) hZ102 (Wd35 hw) (Wd34 hw) (by decide) (by decide)) (g := (fr_law m p1 p2 p3 p4 p5 255 (vI 0) (vI sp) (vI en) (vR b22) (vI d0) (vI d1) (vI d2) (vR b64) (vR b104) .unset .unset [(.ref b64), (.int en), (.int sp), (.ref b104)])) rfl (by rw [hml]; rfl) (argsL := [(.ref b104), (.int sp), (.int en), (.ref b64)]) (rest := []) (lenOf pd_24 rfl) rfl (by show 2 * 0 + _ ≤ _; exact Nat.le_of_eq rfl) (D at_255) (fun _ _ => ⟨rfl, rfl, (by decide : 10 + 0 ≤ _), (by decide : 36 + 0 ≤ _)⟩)
  dsimp only [Pt.U, Pt.locs, Pt.cells, Pt.slots] at X155 l155 y155 z155 st155 hQ155
  subst l155 y155 z155
  obtain ⟨rfl, Nq155, Eq155⟩ := hQ155
  have N156 := Fr.app Nh147 Nq155
  obtain ⟨Lh157, Xh157, Nh157⟩ := oHd 10 36 X155 N156 rfl rfl
  refine ownBy st155 ?_
  clear st155
  show oA p e below _ T155 (fr_law m p1 p2 p3 p4 p5 258 (vI 0) (vI sp) (vI en) (vR b22) (vI d0) (vI d1) (vI d2) (vR b64) (vR b104) .unset .unset [(.int (own_b ((en - sp) = (0 : Int32))))])
  refine oTo T155 (fr_law m p1 p2 p3 p4 p5 267 (vI 0) (vI sp) (vI en) (vR b22) (vI d0) (vI d1) (vI d2) (vR b64) (vR b104) (.val (.int (own_b ((en - sp) = (0 : Int32))))) .unset [(iV 0), (.int (en - sp))]) (fun t kt => ?_) ?_
  ·refine XS.istore Xh157.here hx rfl (D at_258) rfl (l' := #[.val (.long p1), .second, vI p2, vI p3, vI p4, vI p5, vI 0, vI sp, vI en, vR b22, vI d0, vI d1, vI d2, vR b64, vR b104, .val (.int (own_b ((en - sp) = (0 : Int32)))), .unset]) rfl ?_
   refine XS.iload Xh157.here hx rfl (D at_260) rfl ?_
   refine XS.iload Xh157.here hx rfl (D at_262) rfl ?_
   refine XS.isub Xh157.here hx rfl (D at_264) rfl ?_
   refine XS.iload Xh157.here hx rfl (D at_265) rfl ?_
   exact kt
  by_cases hc158 : (en - sp) = (0 : Int32)
  ·skip
   refine oTo T155 (fr_law m p1 p2 p3 p4 p5 350 (vI 0) (vI sp) (vI en) (vR b22) (vI d0) (vI d1) (vI d2) (vR b64) (vR b104) (.val (.int (own_b ((en - sp) = (0 : Int32))))) (vI 1) [(iV 1)]) (fun t kt => ?_) ?_
   ·refine XS.icmpNo Xh157.here hx rfl (D at_267) rfl (teq hc158).2 ?_
    refine XS.iload Xh157.here hx rfl (D at_270) rfl ?_
    refine XS.iconst Xh157.here hx rfl (D at_272) ?_
    refine XS.icmpYes Xh157.here hx rfl (pc0 := 273) (pc' := 289) rfl (D at_273) rfl (tlt ((by decide) : (0 : Int32) < (1 : Int32))).1 (by decide) (by decide) ?_
    refine XS.iload Xh157.here hx rfl (D at_289) rfl ?_
    refine XS.iconst Xh157.here hx rfl (D at_291) ?_
    refine XS.icmpYes Xh157.here hx rfl (pc0 := 292) (pc' := 310) rfl (D at_292) rfl (tlt ((by decide) : (0 : Int32) < (2 : Int32))).1 (by decide) (by decide) ?_
    refine XS.iload Xh157.here hx rfl (D at_310) rfl ?_
    refine XS.iconst Xh157.here hx rfl (D at_312) ?_
    refine XS.icmpYes Xh157.here hx rfl (pc0 := 313) (pc' := 331) rfl (D at_313) rfl (tlt ((by decide) : (0 : Int32) < (3 : Int32))).1 (by decide) (by decide) ?_
    refine XS.iconst Xh157.here hx rfl (D at_331) ?_
    refine XS.goto Xh157.here hx rfl (pc0 := 332) (pc' := 336) rfl (D at_332) (by decide) (by decide) ?_
    show Steps p.tables e below (T155.setTop (fr_law m p1 p2 p3 p4 p5 336 (vI 0) (vI sp) (vI en) (vR b22) (vI d0) (vI d1) (vI d2) (vR b64) (vR b104) (.val (.int (own_b ((en - sp) = (0 : Int32))))) .unset [(iV 1)])) t
    refine XS.istore Xh157.here hx rfl (D at_336) rfl (l' := #[.val (.long p1), .second, vI p2, vI p3, vI p4, vI p5, vI 0, vI sp, vI en, vR b22, vI d0, vI d1, vI d2, vR b64, vR b104, .val (.int (own_b ((en - sp) = (0 : Int32)))), vI 1]) rfl ?_
    refine XS.iload Xh157.here hx rfl (D at_338) rfl ?_
    refine XS.iload Xh157.here hx rfl (D at_340) rfl ?_
    refine XS.icmpNo Xh157.here hx rfl (D at_342) rfl (teq (own_bt1 hc158)).2 ?_
    refine XS.iconst Xh157.here hx rfl (D at_345) ?_
    refine XS.goto Xh157.here hx rfl (pc0 := 346) (pc' := 350) rfl (D at_346) (by decide) (by decide) ?_
    exact kt
   refine ownRetH Xh157 hSR102 (by rw [Eq155]; exact (Nat.le_trans (Nat.le_trans (Nat.le_refl _) E104.1) Kq127.1)) Bd.notSynchronized (v := some (.int (nar .boolean (1 : Int32)))) (fun h => by rw [Bd.returns] at h; cases h) ?_ (R141.trans ((by rw [Eq155]; exact CHv.at Xh157 hZ102 hEL R141.1))) (oLe rfl) (oLe rfl) (fun fs hr => retN Xh157 hx (t := .boolean) Bd.returns (by simp) (D at_350) hr)
   show (Q_law Z p1 p2 p3 p4 p5 G1 G3 h0 n0) (some (.int (nar .boolean (1 : Int32)))) T155.heap _
   rw [Eq155]
   exact ⟨rfl, Nh157⟩
  ·skip
   refine oTo T155 (fr_law m p1 p2 p3 p4 p5 350 (vI 0) (vI sp) (vI en) (vR b22) (vI d0) (vI d1) (vI d2) (vR b64) (vR b104) (.val (.int (own_b ((en - sp) = (0 : Int32))))) (vI 0) [(iV 1)]) (fun t kt => ?_) ?_
   ·refine XS.icmpYes Xh157.here hx rfl (pc0 := 267) (pc' := 335) rfl (D at_267) rfl (feq hc158).2 (by decide) (by decide) ?_
    refine XS.iconst Xh157.here hx rfl (D at_335) ?_
    refine XS.istore Xh157.here hx rfl (D at_336) rfl (l' := #[.val (.long p1), .second, vI p2, vI p3, vI p4, vI p5, vI 0, vI sp, vI en, vR b22, vI d0, vI d1, vI d2, vR b64, vR b104, .val (.int (own_b ((en - sp) = (0 : Int32)))), vI 0]) rfl ?_
    refine XS.iload Xh157.here hx rfl (D at_338) rfl ?_
    refine XS.iload Xh157.here hx rfl (D at_340) rfl ?_
    refine XS.icmpNo Xh157.here hx rfl (D at_342) rfl (teq (own_bf0 hc158)).2 ?_
    refine XS.iconst Xh157.here hx rfl (D at_345) ?_
    refine XS.goto Xh157.here hx rfl (pc0 := 346) (pc' := 350) rfl (D at_346) (by decide) (by decide) ?_
    exact kt
   refine ownRetH Xh157 hSR102 (by rw [Eq155]; exact (Nat.le_trans (Nat.le_trans (Nat.le_refl _) E104.1) Kq127.1)) Bd.notSynchronized (v := some (.int (nar .boolean (1 : Int32)))) (fun h => by rw [Bd.returns] at h; cases h) ?_ (R141.trans ((by rw [Eq155]; exact CHv.at Xh157 hZ102 hEL R141.1))) (oLe rfl) (oLe rfl) (fun fs hr => retN Xh157 hx (t := .boolean) Bd.returns (by simp) (D at_350) hr)
   show (Q_law Z p1 p2 p3 p4 p5 G1 G3 h0 n0) (some (.int (nar .boolean (1 : Int32)))) T155.heap _
   rw [Eq155]
   exact ⟨rfl, Nh157⟩
 ·skip
  show oA p e below _ T58 (fr_law m p1 p2 p3 p4 p5 132 (vI 1) (vI sp) (vI en) (vR b22) (vI d0) (vI d1) (vI d2) .unset .unset .unset .unset [])
  refine oTo T58 (fr_law m p1 p2 p3 p4 p5 158 (vI 1) (vI sp) (vI en) (vR b22) (vI d0) (vI d1) (vI d2) .unset .unset .unset .unset []) (fun t kt => ?_) ?_
  ·refine XS.iload Xh63.here hx rfl (D at_132) rfl ?_
   refine XS.ifYes Xh63.here hx rfl (pc0 := 134) (pc' := 152) rfl (D at_134) rfl ((if0 _ _).trans (feq ((by decide) : ¬ ((1 : Int32) = (0 : Int32)))).2) (by decide) (by decide) ?_
   refine XS.iload Xh63.here hx rfl (D at_152) rfl ?_
   refine XS.iconst Xh63.here hx rfl (D at_154) ?_
   refine XS.icmpNo Xh63.here hx rfl (D at_155) rfl (teq ((by decide) : (1 : Int32) = (1 : Int32))).2 ?_
   exact kt
  obtain ⟨T161, h161, X161, e161, E161, A161, D161, -, st161⟩ := newO Xh63 hx hZ hown (Wd3 hw) (Wd4 hw) (Wd5 hw) e58 (g := (fr_law m p1 p2 p3 p4 p5 158 (vI 1) (vI sp) (vI en) (vR b22) (vI d0) (vI d1) (vI d2) .unset .unset .unset .unset [])) rfl (D at_158) (by decide) (by decide)
  obtain ⟨b161, g161⟩ : ∃ z, z = h58.size := ⟨_, rfl⟩
  rw [← g161] at A161 D161 st161
  have ne162 : b22 ≠ b161 := Nat.ne_of_lt (Nat.lt_of_lt_of_le V59.lt (Nat.le_of_eq g161.symm))
  have f164 := (Nat.le_trans (Nat.le_trans (Nat.le_trans (Nat.le_trans (Nat.le_trans (Nat.le_trans Z0 E22.1) (Keep.of_wr W30).1) (Keep.of_wr W37).1) (Keep.of_wr W44).1) (Keep.of_wr W51).1) (Keep.of_wr W58).1)
  have g163 : n0 ≤ b161 := Nat.le_trans f164 (Nat.le_of_eq g161.symm)
  have sf165 : Safe Z ownEL s.vm h58 b161 := Safe.new (Nat.le_of_eq g161.symm)
  have f167 := (Nat.le_trans (Nat.le_trans (Nat.le_trans (Nat.le_trans (Nat.le_trans (Nat.le_trans (Nat.le_refl h0.size) E22.1) (Keep.of_wr W30).1) (Keep.of_wr W37).1) (Keep.of_wr W44).1) (Keep.of_wr W51).1) (Keep.of_wr W58).1)
  have z166 : h0.size ≤ b161 := Nat.le_trans f167 (Nat.le_of_eq g161.symm)
  have R168 := R61.trans (CHr.ext E161 R61.1)
  have sf169 := Safe.ext E161 R61.1 sf62
  have sf170 := Safe.ext E161 R61.1 sf165
  have F171 : Fld Z h161 b161 "java/lang/String" "coder" "B" (iV 0) := D161 (Or.inr (Wd29 hw)) (ty := .byte) (by decide)
  have F172 : Fld Z h161 b161 "java/lang/String" "value" "[B" .null := D161 (Or.inr (Wd31 hw)) (ty := (.array .byte)) (by decide)
  refine ownBy st161 ?_
  clear st161
  show oA p e below _ T161 (fr_law m p1 p2 p3 p4 p5 161 (vI 1) (vI sp) (vI en) (vR b22) (vI d0) (vI d1) (vI d2) .unset .unset .unset .unset [(.ref b161)])
  refine oTo T161 (fr_law m p1 p2 p3 p4 p5 163 (vI 1) (vI sp) (vI en) (vR b22) (vI d0) (vI d1) (vI d2) .unset .unset .unset .unset [(iV 1), (.ref b161), (.ref b161)]) (fun t kt => ?_) ?_
  ·refine XS.dup X161.here hx rfl (D at_161) rfl rfl ?_
   refine XS.iconst X161.here hx rfl (D at_162) ?_
   exact kt
  obtain ⟨T173, h173, k173, X173, e173, E173, A173, st173⟩ := newP X161 hx hZ (aty := .char) (Wd1 hw) e161 (g := (fr_law m p1 p2 p3 p4 p5 163 (vI 1) (vI sp) (vI en) (vR b22) (vI d0) (vI d1) (vI d2) .unset .unset .unset .unset [(iV 1), (.ref b161), (.ref b161)])) rfl (D at_163) rfl (by decide : ¬ ((1 : Int32) < (0 : Int32))) (cap := 1) (by decide) (by decide) (by decide) (by decide)
  obtain ⟨b173, g173⟩ : ∃ z, z = h161.size := ⟨_, rfl⟩
  rw [← g173] at A173 st173
  have f175 := (V59.ext E161)
  have ne174 : b22 ≠ b173 := Nat.ne_of_lt (Nat.lt_of_lt_of_le f175.lt (Nat.le_of_eq g173.symm))
  have ne176 : b161 ≠ b173 := Nat.ne_of_lt (Nat.lt_of_lt_of_le A161.lt (Nat.le_of_eq g173.symm))
  have f178 := (Nat.le_trans f164 E161.1)
  have g177 : n0 ≤ b173 := Nat.le_trans f178 (Nat.le_of_eq g173.symm)
  have sf179 : Safe Z ownEL s.vm h161 b173 := Safe.new (Nat.le_of_eq g173.symm)
  have f181 := (Nat.le_trans f167 E161.1)
  have z180 : h0.size ≤ b173 := Nat.le_trans f181 (Nat.le_of_eq g173.symm)
  have R182 := R168.trans (CHr.ext E173 R168.1)
  have sf183 := Safe.ext E173 R168.1 sf169
  have sf184 := Safe.ext E173 R168.1 sf170
  have sf185 := Safe.ext E173 R168.1 sf179
  have V186 : Arv Z h173 b173 k173 .char (1 : Int32) [(iV 0)] (iV 0) := (Arv.new A173 (by decide)).pad (pad_rep [] (iV 0) 1)
  refine ownBy st173 ?_
  clear st173
  show oA p e below _ T173 (fr_law m p1 p2 p3 p4 p5 165 (vI 1) (vI sp) (vI en) (vR b22) (vI d0) (vI d1) (vI d2) .unset .unset .unset .unset [(.ref b173), (.ref b161), (.ref b161)])
  refine oTo T173 (fr_law m p1 p2 p3 p4 p5 169 (vI 1) (vI sp) (vI en) (vR b22) (vI d0) (vI d1) (vI d2) .unset .unset .unset .unset [(.int d0), (iV 0), (.ref b173), (.ref b173), (.ref b161), (.ref b161)]) (fun t kt => ?_) ?_
  ·refine XS.dup X173.here hx rfl (D at_165) rfl rfl ?_
   refine XS.iconst X173.here hx rfl (D at_166) ?_
   refine XS.iload X173.here hx rfl (D at_167) rfl ?_
   exact kt
  obtain ⟨cl187, Ar187, q187, S187, N187, H187, G187⟩ := id V186
  have hin187 : ¬ ((0 : Int32) < 0 ∨ cl187.slots.size ≤ ((0 : Int32)).toNatClampNeg) := inb_of S187 ⟨by decide, by decide⟩
  obtain ⟨T187, h187, X187, e187, W187, st187⟩ := stC X173 hx hZ e173 Ar187 (j := (0 : Int32)) hin187 (g := (fr_law m p1 p2 p3 p4 p5 169 (vI 1) (vI sp) (vI en) (vR b22) (vI d0) (vI d1) (vI d2) .unset .unset .unset .unset [(.int d0), (iV 0), (.ref b173), (.ref b173), (.ref b161), (.ref b161)])) rfl rfl (D at_169)
  have V188 : Arv Z h187 b173 k173 .char (1 : Int32) [(.int (nar .char d0))] (iV 0) := Arv.set Ar187 q187 S187 N187 H187 G187 (fits_nar_char _) W187 0 rfl (oLe rfl)
  rw [own_c16 hr_d0] at V188
  clear hin187 G187 H187 N187 S187 q187 Ar187 cl187 V186
  have N189 := Fr.snoc X187 Nh63 g177
  have R190 := R182.trans (CHr.wr W187 sf185 R182.1)
  have sf191 := Safe.wr W187 sf185 R182.1 sf183
  have sf192 := Safe.wr W187 sf185 R182.1 sf184
  have sf193 := Safe.wr W187 sf185 R182.1 sf185
  obtain ⟨Lh194, Xh194, Nh194⟩ := oHd 3 10 X187 N189 rfl rfl
  refine ownBy st187 ?_
  clear st187
  show oA p e below _ T187 (fr_law m p1 p2 p3 p4 p5 170 (vI 1) (vI sp) (vI en) (vR b22) (vI d0) (vI d1) (vI d2) .unset .unset .unset .unset [(.ref b173), (.ref b161), (.ref b161)])
  have f195 := ((A161.ext E173).wr W187)
  have f196 := ((F172.ext E173).other W187 (Or.inl ne176))
  have f197 := ((F171.ext E173).other W187 (Or.inl ne176))
  have f198 := (((((((((X00.ext E22).wr W30 g23).wr W37 g23).wr W44 g23).wr W51 g23).wr W58 g23).ext E161).ext E173).wr W187 g177)
  have f199 := (Nat.le_trans (Nat.le_trans f178 E173.1) (Keep.of_wr W187).1)
  obtain ⟨vv200, _, ⟨T200, L200, k200, n200⟩, -, X200, ⟨Lc200, hQ200, l200, y200, z200⟩, st200⟩ := Xh194.specialBack hx (y := yM1) rfl hown (mvT hZ (Wd6 hw)) (mvT hZ (Wd7 hw)) (mvT hZ (Wd8 hw)) (by decide) (backOf (W := 1) (c_inC_1 l Z a0 hw [] b161 b173 k173 d0 _ G1 h187 n0 f199 f195 f196 f197 g163 ne176 V188 hr_d0 O2 P5 SA SHI SLO f198) hZ (Wd8 hw) (Wd5 hw) (by decide) (by decide)) (g := (fr_law m p1 p2 p3 p4 p5 170 (vI 1) (vI sp) (vI en) (vR b22) (vI d0) (vI d1) (vI d2) .unset .unset .unset .unset [(.ref b173), (.ref b161), (.ref b161)])) rfl (by rw [hml]; rfl) (Steps.refl _) (a := b161) (argsL := [(.ref b173)]) (rest := [(.ref b161)]) (lenOf pd_23 rfl) rfl (by show 2 * 0 + _ ≤ _; exact Nat.le_of_eq rfl) (D at_170) (fun _ _ => ⟨rfl, e187, (by decide : 3 + 2 ≤ _), (by decide : 10 + 3 ≤ _)⟩)
  dsimp only [Pt.U, Pt.locs, Pt.cells, Pt.slots] at X200 l200 y200 z200 st200 hQ200
  subst l200 y200 z200
  obtain ⟨rfl, Nq200, Kq200, Eq200, t200, kb200, cd200, z200, vs200, zq200, Vq200, Cq200, Aq200, hrel200⟩ := hQ200
  have f202 := ((f175.ext E173).other W187 ne174)
  have ne201 : b22 ≠ t200 := Nat.ne_of_lt (Nat.lt_of_lt_of_le f202.lt zq200)
  have ne203 : b161 ≠ t200 := Nat.ne_of_lt (Nat.lt_of_lt_of_le f195.lt zq200)
  have ne204 : b173 ≠ t200 := Nat.ne_of_lt (Nat.lt_of_lt_of_le V188.lt zq200)
  have g205 : n0 ≤ t200 := Nat.le_trans f199 zq200
  have sf206 : Safe Z ownEL s.vm h187 t200 := Safe.new zq200
  have f208 := (Nat.le_trans (Nat.le_trans f181 E173.1) (Keep.of_wr W187).1)
  have z207 : h0.size ≤ t200 := Nat.le_trans f208 zq200
  have N209 := Fr.app Nh194 Nq200
  have R210 := R190.trans (CHr.keep Kq200 (sfS sf192 sf0) R190.1)
  have sf211 := Safe.keep Kq200 (sfS sf192 sf0) R190.1 sf191
  have sf212 := Safe.keep Kq200 (sfS sf192 sf0) R190.1 sf192
  have sf213 := Safe.keep Kq200 (sfS sf192 sf0) R190.1 sf193
  have sf214 := Safe.keep Kq200 (sfS sf192 sf0) R190.1 sf206
  obtain ⟨Lh215, Xh215, Nh215⟩ := oHd 5 13 X200 N209 rfl rfl
  refine ownSt st200 ?_
  clear st200
  show oA p e below _ T200 (fr_law m p1 p2 p3 p4 p5 173 (vI 1) (vI sp) (vI en) (vR b22) (vI d0) (vI d1) (vI d2) .unset .unset .unset .unset [(.ref b161)])
  refine oTo T200 (fr_law m p1 p2 p3 p4 p5 236 (vI 1) (vI sp) (vI en) (vR b22) (vI d0) (vI d1) (vI d2) (vR b161) .unset .unset .unset []) (fun t kt => ?_) ?_
  ·refine XS.astore Xh215.here hx rfl (D at_173) rfl rfl (l' := #[.val (.long p1), .second, vI p2, vI p3, vI p4, vI p5, vI 1, vI sp, vI en, vR b22, vI d0, vI d1, vI d2, vR b161, .unset, .unset, .unset]) rfl ?_
   refine XS.goto Xh215.here hx rfl (pc0 := 175) (pc' := 236) rfl (D at_175) (by decide) (by decide) ?_
   exact kt
  obtain ⟨T216, h216, X216, e216, E216, A216, D216, -, st216⟩ := newO Xh215 hx hZ hown (Wd3 hw) (Wd4 hw) (Wd5 hw) rfl (g := (fr_law m p1 p2 p3 p4 p5 236 (vI 1) (vI sp) (vI en) (vR b22) (vI d0) (vI d1) (vI d2) (vR b161) .unset .unset .unset [])) rfl (D at_236) (by decide) (by decide)
  obtain ⟨b216, g216⟩ : ∃ z, z = T200.heap.size := ⟨_, rfl⟩
  rw [← g216] at A216 D216 st216
  have f218 := (f202.keep Kq200 (ninS ne162 nin0))
  have ne217 : b22 ≠ b216 := Nat.ne_of_lt (Nat.lt_of_lt_of_le f218.lt (Nat.le_of_eq g216.symm))
  have f220 := (f195.keep Kq200)
  have ne219 : b161 ≠ b216 := Nat.ne_of_lt (Nat.lt_of_lt_of_le f220.lt (Nat.le_of_eq g216.symm))
  have f222 := (V188.keep Kq200 (ninS (Ne.symm ne176) nin0))
  have ne221 : b173 ≠ b216 := Nat.ne_of_lt (Nat.lt_of_lt_of_le f222.lt (Nat.le_of_eq g216.symm))
  have ne223 : t200 ≠ b216 := Nat.ne_of_lt (Nat.lt_of_lt_of_le Aq200.lt (Nat.le_of_eq g216.symm))
  have f225 := (Nat.le_trans f199 Kq200.1)
  have g224 : n0 ≤ b216 := Nat.le_trans f225 (Nat.le_of_eq g216.symm)
  have sf226 : Safe Z ownEL s.vm T200.heap b216 := Safe.new (Nat.le_of_eq g216.symm)
  have f228 := (Nat.le_trans f208 Kq200.1)
  have z227 : h0.size ≤ b216 := Nat.le_trans f228 (Nat.le_of_eq g216.symm)
  have R229 := R210.trans (CHr.ext E216 R210.1)
  have sf230 := Safe.ext E216 R210.1 sf211
  have sf231 := Safe.ext E216 R210.1 sf212
  have sf232 := Safe.ext E216 R210.1 sf213
  have sf233 := Safe.ext E216 R210.1 sf214
  have sf234 := Safe.ext E216 R210.1 sf226
  have F235 : Fld Z h216 b216 "java/lang/String" "coder" "B" (iV 0) := D216 (Or.inr (Wd29 hw)) (ty := .byte) (by decide)
  have F236 : Fld Z h216 b216 "java/lang/String" "value" "[B" .null := D216 (Or.inr (Wd31 hw)) (ty := (.array .byte)) (by decide)
  refine ownBy st216 ?_
  clear st216
  show oA p e below _ T216 (fr_law m p1 p2 p3 p4 p5 239 (vI 1) (vI sp) (vI en) (vR b22) (vI d0) (vI d1) (vI d2) (vR b161) .unset .unset .unset [(.ref b216)])
  refine oTo T216 (fr_law m p1 p2 p3 p4 p5 242 (vI 1) (vI sp) (vI en) (vR b22) (vI d0) (vI d1) (vI d2) (vR b161) .unset .unset .unset [(.ref b22), (.ref b216), (.ref b216)]) (fun t kt => ?_) ?_
  ·refine XS.dup X216.here hx rfl (D at_239) rfl rfl ?_
   refine XS.aload X216.here hx rfl (D at_240) rfl rfl ?_
   exact kt
  have f237 := (f218.ext E216)
  have f238 := ((f198.keep Kq200 (allS g163 all0)).ext E216)
  have f239 := (Nat.le_trans f225 E216.1)
  obtain ⟨vv240, _, ⟨T240, L240, k240, n240⟩, -, X240, ⟨Lc240, hQ240, l240, y240, z240⟩, st240⟩ := X216.specialBack hx (y := yM1) rfl hown (mvT hZ (Wd6 hw)) (mvT hZ (Wd7 hw)) (mvT hZ (Wd8 hw)) (by decide) (backOf (W := 1) (c_inC_5 l Z a0 hw [] b216 b22 k22 u0 u1 u2 u3 u4 _ G1 h216 n0 f239 A216 F236 F235 g224 (Ne.symm ne217) f237 hr_u0 hr_u1 hr_u2 hr_u3 hr_u4 O2 P5 SA SHI SLO f238) hZ (Wd8 hw) (Wd5 hw) (by decide) (by decide)) (g := (fr_law m p1 p2 p3 p4 p5 242 (vI 1) (vI sp) (vI en) (vR b22) (vI d0) (vI d1) (vI d2) (vR b161) .unset .unset .unset [(.ref b22), (.ref b216), (.ref b216)])) rfl (by rw [hml]; rfl) (Steps.refl _) (a := b216) (argsL := [(.ref b22)]) (rest := [(.ref b216)]) (lenOf pd_23 rfl) rfl (by show 2 * 0 + _ ≤ _; exact Nat.le_of_eq rfl) (D at_242) (fun _ _ => ⟨rfl, e216, (by decide : 6 + 2 ≤ _), (by decide : 17 + 15 ≤ _)⟩)
  dsimp only [Pt.U, Pt.locs, Pt.cells, Pt.slots] at X240 l240 y240 z240 st240 hQ240
  subst l240 y240 z240
  obtain ⟨rfl, Nq240, Kq240, Eq240, t240, kb240, cd240, z240, vs240, zq240, Vq240, Cq240, Aq240, hrel240⟩ := hQ240
  have ne241 : b22 ≠ t240 := Nat.ne_of_lt (Nat.lt_of_lt_of_le f237.lt zq240)
  have f243 := (f220.ext E216)
  have ne242 : b161 ≠ t240 := Nat.ne_of_lt (Nat.lt_of_lt_of_le f243.lt zq240)
  have f245 := (f222.ext E216)
  have ne244 : b173 ≠ t240 := Nat.ne_of_lt (Nat.lt_of_lt_of_le f245.lt zq240)
  have f247 := (Aq200.ext E216)
  have ne246 : t200 ≠ t240 := Nat.ne_of_lt (Nat.lt_of_lt_of_le f247.lt zq240)
  have ne248 : b216 ≠ t240 := Nat.ne_of_lt (Nat.lt_of_lt_of_le A216.lt zq240)
  have g249 : n0 ≤ t240 := Nat.le_trans f239 zq240
  have sf250 : Safe Z ownEL s.vm h216 t240 := Safe.new zq240
  have f252 := (Nat.le_trans f228 E216.1)
  have z251 : h0.size ≤ t240 := Nat.le_trans f252 zq240
  have N253 := Fr.app Nh215 Nq240
  have R254 := R229.trans (CHr.keep Kq240 (sfS sf234 sf0) R229.1)
  have sf255 := Safe.keep Kq240 (sfS sf234 sf0) R229.1 sf230
  have sf256 := Safe.keep Kq240 (sfS sf234 sf0) R229.1 sf231
  have sf257 := Safe.keep Kq240 (sfS sf234 sf0) R229.1 sf232
  have sf258 := Safe.keep Kq240 (sfS sf234 sf0) R229.1 sf233
  have sf259 := Safe.keep Kq240 (sfS sf234 sf0) R229.1 sf234
  have sf260 := Safe.keep Kq240 (sfS sf234 sf0) R229.1 sf250
  obtain ⟨Lh261, Xh261, Nh261⟩ := oHd 8 32 X240 N253 rfl rfl
  refine ownSt st240 ?_
  clear st240
  show oA p e below _ T240 (fr_law m p1 p2 p3 p4 p5 245 (vI 1) (vI sp) (vI en) (vR b22) (vI d0) (vI d1) (vI d2) (vR b161) .unset .unset .unset [(.ref b216)])
  have f262 := (A216.keep Kq240)
  refine oTo T240 (fr_law m p1 p2 p3 p4 p5 255 (vI 1) (vI sp) (vI en) (vR b22) (vI d0) (vI d1) (vI d2) (vR b161) (vR b216) .unset .unset [(.ref b161), (.int en), (.int sp), (.ref b216)]) (fun t kt => ?_) ?_
  ·refine XS.astore Xh261.here hx rfl (D at_245) rfl rfl (l' := #[.val (.long p1), .second, vI p2, vI p3, vI p4, vI p5, vI 1, vI sp, vI en, vR b22, vI d0, vI d1, vI d2, vR b161, vR b216, .unset, .unset]) rfl ?_
   refine XS.aload Xh261.here hx rfl (D at_247) rfl rfl ?_
   refine XS.iload Xh261.here hx rfl (D at_249) rfl ?_
   refine XS.iload Xh261.here hx rfl (D at_251) rfl ?_
   refine XS.aload Xh261.here hx rfl (D at_253) rfl rfl ?_
   exact kt
  obtain ⟨r0, kk0, kq0, hP0, hr0, hq0, hg0⟩ := own_at hrel240 hr_u0 hr_u1 hr_u2 hr_u3 hr_u4 (i := sp) (by rcases hst with rfl | rfl | rfl | rfl | rfl <;> decide)
  rw [← Int32.add_zero sp] at hP0
  have f263 := (f243.keep Kq240)
  have f264 := ((Vq200.ext E216).keep Kq240 (ninS ne219 nin0))
  have f265 := ((Cq200.ext E216).keep Kq240 (ninS ne219 nin0))
  have f266 := (f247.keep Kq240 (ninS ne223 nin0))
  have f267 := (f238.keep Kq240 (allS g224 all0))
  have f268 := (Nat.le_trans f239 Kq240.1)
  obtain ⟨vv269, _, ⟨T269, L269, k269, n269⟩, -, X269, ⟨Lc269, hQ269, l269, y269, z269⟩, st269⟩ := Jvm.LawKit.callS Xh261 hx (y := yM21) hown (mvT hZ (Wd32 hw)) (mvT hZ (Wd33 hw)) (mvT hZ (Wd34 hw)) (mvT hZ (Wd35 hw)) (by decide) (backOf (W := 0) (c_iw1 l Z a0 hw [] b216 t240 kb240 cd240 z240 vs240 b161 t200 kb200 cd200 z200 vs200 d0 r0 kk0 kq0 sp en G1 G3 T240.heap n0 f268 f262 Vq240 Cq240 Aq240 f263 f264 f265 f266 hrel200 hr_d0 hr0 hP0 O2 P5 SA SHI SLO O4 rG3 f267) hZ (Wd35 hw) (Wd34 hw) (by decide) (by decide)) (g := (fr_law m p1 p2 p3 p4 p5 255 (vI 1) (vI sp) (vI en) (vR b22) (vI d0) (vI d1) (vI d2) (vR b161) (vR b216) .unset .unset [(.ref b161), (.int en), (.int sp), (.ref b216)])) rfl (by rw [hml]; rfl) (argsL := [(.ref b216), (.int sp), (.int en), (.ref b161)]) (rest := []) (lenOf pd_24 rfl) rfl (by show 2 * 0 + _ ≤ _; exact Nat.le_of_eq rfl) (D at_255) (fun _ _ => ⟨rfl, rfl, (by decide : 8 + 0 ≤ _), (by decide : 32 + 0 ≤ _)⟩)
  dsimp only [Pt.U, Pt.locs, Pt.cells, Pt.slots] at X269 l269 y269 z269 st269 hQ269
  subst l269 y269 z269
  obtain ⟨rfl, Nq269, Eq269⟩ := hQ269
  have N270 := Fr.app Nh261 Nq269
  obtain ⟨Lh271, Xh271, Nh271⟩ := oHd 8 32 X269 N270 rfl rfl
  refine ownBy st269 ?_
  clear st269
  show oA p e below _ T269 (fr_law m p1 p2 p3 p4 p5 258 (vI 1) (vI sp) (vI en) (vR b22) (vI d0) (vI d1) (vI d2) (vR b161) (vR b216) .unset .unset [(.int (own_b ((en - sp) = (1 : Int32) ∧ Mw r0 d0)))])
  refine oTo T269 (fr_law m p1 p2 p3 p4 p5 267 (vI 1) (vI sp) (vI en) (vR b22) (vI d0) (vI d1) (vI d2) (vR b161) (vR b216) (.val (.int (own_b ((en - sp) = (1 : Int32) ∧ Mw r0 d0)))) .unset [(iV 1), (.int (en - sp))]) (fun t kt => ?_) ?_
  ·refine XS.istore Xh271.here hx rfl (D at_258) rfl (l' := #[.val (.long p1), .second, vI p2, vI p3, vI p4, vI p5, vI 1, vI sp, vI en, vR b22, vI d0, vI d1, vI d2, vR b161, vR b216, .val (.int (own_b ((en - sp) = (1 : Int32) ∧ Mw r0 d0))), .unset]) rfl ?_
   refine XS.iload Xh271.here hx rfl (D at_260) rfl ?_
   refine XS.iload Xh271.here hx rfl (D at_262) rfl ?_
   refine XS.isub Xh271.here hx rfl (D at_264) rfl ?_
   refine XS.iload Xh271.here hx rfl (D at_265) rfl ?_
   exact kt
  by_cases hc272 : (en - sp) = (1 : Int32)
  ·skip
   refine oTo T269 (fr_law m p1 p2 p3 p4 p5 280 (vI 1) (vI sp) (vI en) (vR b22) (vI d0) (vI d1) (vI d2) (vR b161) (vR b216) (.val (.int (own_b ((en - sp) = (1 : Int32) ∧ Mw r0 d0)))) .unset [(.int sp), (.ref b22)]) (fun t kt => ?_) ?_
   ·refine XS.icmpNo Xh271.here hx rfl (D at_267) rfl (teq hc272).2 ?_
    refine XS.iload Xh271.here hx rfl (D at_270) rfl ?_
    refine XS.iconst Xh271.here hx rfl (D at_272) ?_
    refine XS.icmpNo Xh271.here hx rfl (D at_273) rfl (flt ((by decide) : ¬ ((1 : Int32) < (1 : Int32)))).1 ?_
    refine XS.aload Xh271.here hx rfl (D at_276) rfl rfl ?_
    refine XS.iload Xh271.here hx rfl (D at_278) rfl ?_
    exact kt
   have f273 := (f237.keep Kq240 (ninS ne217 nin0))
   obtain ⟨cl274, Ar274, q274, S274, N274, H274, G274⟩ := id f273
   have hin274 : ¬ (sp < 0 ∨ cl274.slots.size ≤ (sp).toNatClampNeg) := inb_of S274 hq0
   have hat274 : cl274.slots[(sp).toNatClampNeg]? = some (.int r0) := H274.at hin274 hg0
   have st274 := Xh271.caload hx (j := sp) (v := (.int r0)) (by rw [Eq269]; exact Ar274.1) (State.isArrayOf_alike hZ.alike Ar274.2.1) Ar274.2.2 hin274 hat274 (g := (fr_law m p1 p2 p3 p4 p5 280 (vI 1) (vI sp) (vI en) (vR b22) (vI d0) (vI d1) (vI d2) (vR b161) (vR b216) (.val (.int (own_b ((en - sp) = (1 : Int32) ∧ Mw r0 d0)))) .unset [(.int sp), (.ref b22)])) rfl rfl (D at_280)
   refine ownBy st274 ?_
   show oA p e below _ T269 (fr_law m p1 p2 p3 p4 p5 281 (vI 1) (vI sp) (vI en) (vR b22) (vI d0) (vI d1) (vI d2) (vR b161) (vR b216) (.val (.int (own_b ((en - sp) = (1 : Int32) ∧ Mw r0 d0)))) .unset [(.int r0)])
   refine oTo T269 (fr_law m p1 p2 p3 p4 p5 283 (vI 1) (vI sp) (vI en) (vR b22) (vI d0) (vI d1) (vI d2) (vR b161) (vR b216) (.val (.int (own_b ((en - sp) = (1 : Int32) ∧ Mw r0 d0)))) .unset [(.int d0), (.int r0)]) (fun t kt => ?_) ?_
   ·refine XS.iload Xh271.here hx rfl (D at_281) rfl ?_
    exact kt
   obtain ⟨vv275, _, ⟨T275, L275, k275, n275⟩, -, X275, ⟨Lc275, hQ275, l275, y275, z275⟩, st275⟩ := Jvm.LawKit.callS Xh271 hx (y := yM20) hown (mvT hZ (Wd68 hw)) (mvT hZ (Wd69 hw)) (mvT hZ (Wd70 hw)) (mvT hZ (Wd71 hw)) (by decide) (backOf (W := 0) (c_mm l Z a0 hw [] r0 d0 T240.heap n0 f268 ) hZ (Wd71 hw) (Wd70 hw) (by decide) (by decide)) (g := (fr_law m p1 p2 p3 p4 p5 283 (vI 1) (vI sp) (vI en) (vR b22) (vI d0) (vI d1) (vI d2) (vR b161) (vR b216) (.val (.int (own_b ((en - sp) = (1 : Int32) ∧ Mw r0 d0)))) .unset [(.int d0), (.int r0)])) rfl (by rw [hml]; rfl) (argsL := [(.int r0), (.int d0)]) (rest := []) (lenOf pd_25 rfl) rfl (by show 2 * 0 + _ ≤ _; exact Nat.le_of_eq rfl) (D at_283) (fun _ _ => ⟨rfl, Eq269, (by decide : 8 + 0 ≤ _), (by decide : 32 + 0 ≤ _)⟩)
   dsimp only [Pt.U, Pt.locs, Pt.cells, Pt.slots] at X275 l275 y275 z275 st275 hQ275
   subst l275 y275 z275
   obtain ⟨rfl, Nq275, Eq275⟩ := hQ275
   have N276 := Fr.app Nh271 Nq275
   obtain ⟨Lh277, Xh277, Nh277⟩ := oHd 8 32 X275 N276 rfl rfl
   refine ownBy st275 ?_
   clear st275
   show oA p e below _ T275 (fr_law m p1 p2 p3 p4 p5 286 (vI 1) (vI sp) (vI en) (vR b22) (vI d0) (vI d1) (vI d2) (vR b161) (vR b216) (.val (.int (own_b ((en - sp) = (1 : Int32) ∧ Mw r0 d0)))) .unset [(.int (own_b (Mw r0 d0)))])
   by_cases hc278 : Mw r0 d0
   ·skip
    refine oTo T275 (fr_law m p1 p2 p3 p4 p5 350 (vI 1) (vI sp) (vI en) (vR b22) (vI d0) (vI d1) (vI d2) (vR b161) (vR b216) (.val (.int (own_b ((en - sp) = (1 : Int32) ∧ Mw r0 d0)))) (vI 1) [(iV 1)]) (fun t kt => ?_) ?_
    ·refine XS.ifNo Xh277.here hx rfl (D at_286) rfl ((if0 _ _).trans (feq (own_bt0 hc278)).1) ?_
     refine XS.iload Xh277.here hx rfl (D at_289) rfl ?_
     refine XS.iconst Xh277.here hx rfl (D at_291) ?_
     refine XS.icmpYes Xh277.here hx rfl (pc0 := 292) (pc' := 310) rfl (D at_292) rfl (tlt ((by decide) : (1 : Int32) < (2 : Int32))).1 (by decide) (by decide) ?_
     refine XS.iload Xh277.here hx rfl (D at_310) rfl ?_
     refine XS.iconst Xh277.here hx rfl (D at_312) ?_
     refine XS.icmpYes Xh277.here hx rfl (pc0 := 313) (pc' := 331) rfl (D at_313) rfl (tlt ((by decide) : (1 : Int32) < (3 : Int32))).1 (by decide) (by decide) ?_
     refine XS.iconst Xh277.here hx rfl (D at_331) ?_
     refine XS.goto Xh277.here hx rfl (pc0 := 332) (pc' := 336) rfl (D at_332) (by decide) (by decide) ?_
     refine XS.istore Xh277.here hx rfl (D at_336) rfl (l' := #[.val (.long p1), .second, vI p2, vI p3, vI p4, vI p5, vI 1, vI sp, vI en, vR b22, vI d0, vI d1, vI d2, vR b161, vR b216, .val (.int (own_b ((en - sp) = (1 : Int32) ∧ Mw r0 d0))), vI 1]) rfl ?_
     refine XS.iload Xh277.here hx rfl (D at_338) rfl ?_
     refine XS.iload Xh277.here hx rfl (D at_340) rfl ?_
     show Steps p.tables e below (T275.setTop (fr_law m p1 p2 p3 p4 p5 342 (vI 1) (vI sp) (vI en) (vR b22) (vI d0) (vI d1) (vI d2) (vR b161) (vR b216) (.val (.int (own_b ((en - sp) = (1 : Int32) ∧ Mw r0 d0)))) (vI 1) [(iV 1), (.int (own_b ((en - sp) = (1 : Int32) ∧ Mw r0 d0)))])) t
     refine XS.icmpNo Xh277.here hx rfl (D at_342) rfl (teq (own_bt1 (p := (en - sp) = (1 : Int32) ∧ Mw r0 d0) ⟨hc272, hc278⟩)).2 ?_
     refine XS.iconst Xh277.here hx rfl (D at_345) ?_
     refine XS.goto Xh277.here hx rfl (pc0 := 346) (pc' := 350) rfl (D at_346) (by decide) (by decide) ?_
     exact kt
    refine ownRetH Xh277 hS0 (by rw [Eq275]; exact (Nat.le_trans (Nat.le_trans (Nat.le_trans (Nat.le_trans (Nat.le_trans (Nat.le_trans (Nat.le_trans (Nat.le_trans (Nat.le_trans (Nat.le_trans (Nat.le_trans (Nat.le_trans (Nat.le_refl _) E22.1) (Keep.of_wr W30).1) (Keep.of_wr W37).1) (Keep.of_wr W44).1) (Keep.of_wr W51).1) (Keep.of_wr W58).1) E161.1) E173.1) (Keep.of_wr W187).1) Kq200.1) E216.1) Kq240.1)) Bd.notSynchronized (v := some (.int (nar .boolean (1 : Int32)))) (fun h => by rw [Bd.returns] at h; cases h) ?_ (R254.trans ((by rw [Eq275]; exact CHv.at Xh277 hZ hEL R254.1))) (oLe rfl) (oLe rfl) (fun fs hr => retN Xh277 hx (t := .boolean) Bd.returns (by simp) (D at_350) hr)
    show (Q_law Z p1 p2 p3 p4 p5 G1 G3 h0 n0) (some (.int (nar .boolean (1 : Int32)))) T275.heap _
    rw [Eq275]
    exact ⟨rfl, Nh277⟩
   ·skip
    refine oTo T275 (fr_law m p1 p2 p3 p4 p5 350 (vI 1) (vI sp) (vI en) (vR b22) (vI d0) (vI d1) (vI d2) (vR b161) (vR b216) (.val (.int (own_b ((en - sp) = (1 : Int32) ∧ Mw r0 d0)))) (vI 0) [(iV 1)]) (fun t kt => ?_) ?_
    ·refine XS.ifYes Xh277.here hx rfl (pc0 := 286) (pc' := 335) rfl (D at_286) rfl ((if0 _ _).trans (teq (own_bf0 hc278)).1) (by decide) (by decide) ?_
     refine XS.iconst Xh277.here hx rfl (D at_335) ?_
     refine XS.istore Xh277.here hx rfl (D at_336) rfl (l' := #[.val (.long p1), .second, vI p2, vI p3, vI p4, vI p5, vI 1, vI sp, vI en, vR b22, vI d0, vI d1, vI d2, vR b161, vR b216, .val (.int (own_b ((en - sp) = (1 : Int32) ∧ Mw r0 d0))), vI 0]) rfl ?_
     refine XS.iload Xh277.here hx rfl (D at_338) rfl ?_
     refine XS.iload Xh277.here hx rfl (D at_340) rfl ?_
     refine XS.icmpNo Xh277.here hx rfl (D at_342) rfl (teq (own_bf0 (p := (en - sp) = (1 : Int32) ∧ Mw r0 d0) (fun q => hc278 q.2))).2 ?_
     refine XS.iconst Xh277.here hx rfl (D at_345) ?_
     refine XS.goto Xh277.here hx rfl (pc0 := 346) (pc' := 350) rfl (D at_346) (by decide) (by decide) ?_
     exact kt
    refine ownRetH Xh277 hS0 (by rw [Eq275]; exact (Nat.le_trans (Nat.le_trans (Nat.le_trans (Nat.le_trans (Nat.le_trans (Nat.le_trans (Nat.le_trans (Nat.le_trans (Nat.le_trans (Nat.le_trans (Nat.le_trans (Nat.le_trans (Nat.le_refl _) E22.1) (Keep.of_wr W30).1) (Keep.of_wr W37).1) (Keep.of_wr W44).1) (Keep.of_wr W51).1) (Keep.of_wr W58).1) E161.1) E173.1) (Keep.of_wr W187).1) Kq200.1) E216.1) Kq240.1)) Bd.notSynchronized (v := some (.int (nar .boolean (1 : Int32)))) (fun h => by rw [Bd.returns] at h; cases h) ?_ (R254.trans ((by rw [Eq275]; exact CHv.at Xh277 hZ hEL R254.1))) (oLe rfl) (oLe rfl) (fun fs hr => retN Xh277 hx (t := .boolean) Bd.returns (by simp) (D at_350) hr)
    show (Q_law Z p1 p2 p3 p4 p5 G1 G3 h0 n0) (some (.int (nar .boolean (1 : Int32)))) T275.heap _
    rw [Eq275]
    exact ⟨rfl, Nh277⟩
  ·skip
   refine oTo T269 (fr_law m p1 p2 p3 p4 p5 350 (vI 1) (vI sp) (vI en) (vR b22) (vI d0) (vI d1) (vI d2) (vR b161) (vR b216) (.val (.int (own_b ((en - sp) = (1 : Int32) ∧ Mw r0 d0)))) (vI 0) [(iV 1)]) (fun t kt => ?_) ?_
   ·refine XS.icmpYes Xh271.here hx rfl (pc0 := 267) (pc' := 335) rfl (D at_267) rfl (feq hc272).2 (by decide) (by decide) ?_
    refine XS.iconst Xh271.here hx rfl (D at_335) ?_
    refine XS.istore Xh271.here hx rfl (D at_336) rfl (l' := #[.val (.long p1), .second, vI p2, vI p3, vI p4, vI p5, vI 1, vI sp, vI en, vR b22, vI d0, vI d1, vI d2, vR b161, vR b216, .val (.int (own_b ((en - sp) = (1 : Int32) ∧ Mw r0 d0))), vI 0]) rfl ?_
    refine XS.iload Xh271.here hx rfl (D at_338) rfl ?_
    refine XS.iload Xh271.here hx rfl (D at_340) rfl ?_
    refine XS.icmpNo Xh271.here hx rfl (D at_342) rfl (teq (own_bf0 (p := (en - sp) = (1 : Int32) ∧ Mw r0 d0) (fun q => hc272 q.1))).2 ?_
    refine XS.iconst Xh271.here hx rfl (D at_345) ?_
    refine XS.goto Xh271.here hx rfl (pc0 := 346) (pc' := 350) rfl (D at_346) (by decide) (by decide) ?_
    exact kt
   refine ownRetH Xh271 hS0 (by rw [Eq269]; exact (Nat.le_trans (Nat.le_trans (Nat.le_trans (Nat.le_trans (Nat.le_trans (Nat.le_trans (Nat.le_trans (Nat.le_trans (Nat.le_trans (Nat.le_trans (Nat.le_trans (Nat.le_trans (Nat.le_refl _) E22.1) (Keep.of_wr W30).1) (Keep.of_wr W37).1) (Keep.of_wr W44).1) (Keep.of_wr W51).1) (Keep.of_wr W58).1) E161.1) E173.1) (Keep.of_wr W187).1) Kq200.1) E216.1) Kq240.1)) Bd.notSynchronized (v := some (.int (nar .boolean (1 : Int32)))) (fun h => by rw [Bd.returns] at h; cases h) ?_ (R254.trans ((by rw [Eq269]; exact CHv.at Xh271 hZ hEL R254.1))) (oLe rfl) (oLe rfl) (fun fs hr => retN Xh271 hx (t := .boolean) Bd.returns (by simp) (D at_350) hr)
   show (Q_law Z p1 p2 p3 p4 p5 G1 G3 h0 n0) (some (.int (nar .boolean (1 : Int32)))) T269.heap _
   rw [Eq269]
   exact ⟨rfl, Nh271⟩
 ·skip
  show oA p e below _ T58 (fr_law m p1 p2 p3 p4 p5 132 (vI 2) (vI sp) (vI en) (vR b22) (vI d0) (vI d1) (vI d2) .unset .unset .unset .unset [])
  refine oTo T58 (fr_law m p1 p2 p3 p4 p5 184 (vI 2) (vI sp) (vI en) (vR b22) (vI d0) (vI d1) (vI d2) .unset .unset .unset .unset []) (fun t kt => ?_) ?_
  ·refine XS.iload Xh63.here hx rfl (D at_132) rfl ?_
   refine XS.ifYes Xh63.here hx rfl (pc0 := 134) (pc' := 152) rfl (D at_134) rfl ((if0 _ _).trans (feq ((by decide) : ¬ ((2 : Int32) = (0 : Int32)))).2) (by decide) (by decide) ?_
   refine XS.iload Xh63.here hx rfl (D at_152) rfl ?_
   refine XS.iconst Xh63.here hx rfl (D at_154) ?_
   refine XS.icmpYes Xh63.here hx rfl (pc0 := 155) (pc' := 178) rfl (D at_155) rfl (feq ((by decide) : ¬ ((2 : Int32) = (1 : Int32)))).2 (by decide) (by decide) ?_
   refine XS.iload Xh63.here hx rfl (D at_178) rfl ?_
   refine XS.iconst Xh63.here hx rfl (D at_180) ?_
   refine XS.icmpNo Xh63.here hx rfl (D at_181) rfl (teq ((by decide) : (2 : Int32) = (2 : Int32))).2 ?_
   exact kt
  obtain ⟨T282, h282, X282, e282, E282, A282, D282, -, st282⟩ := newO Xh63 hx hZ hown (Wd3 hw) (Wd4 hw) (Wd5 hw) e58 (g := (fr_law m p1 p2 p3 p4 p5 184 (vI 2) (vI sp) (vI en) (vR b22) (vI d0) (vI d1) (vI d2) .unset .unset .unset .unset [])) rfl (D at_184) (by decide) (by decide)
  obtain ⟨b282, g282⟩ : ∃ z, z = h58.size := ⟨_, rfl⟩
  rw [← g282] at A282 D282 st282
  have ne283 : b22 ≠ b282 := Nat.ne_of_lt (Nat.lt_of_lt_of_le V59.lt (Nat.le_of_eq g282.symm))
  have f285 := (Nat.le_trans (Nat.le_trans (Nat.le_trans (Nat.le_trans (Nat.le_trans (Nat.le_trans Z0 E22.1) (Keep.of_wr W30).1) (Keep.of_wr W37).1) (Keep.of_wr W44).1) (Keep.of_wr W51).1) (Keep.of_wr W58).1)
  have g284 : n0 ≤ b282 := Nat.le_trans f285 (Nat.le_of_eq g282.symm)
  have sf286 : Safe Z ownEL s.vm h58 b282 := Safe.new (Nat.le_of_eq g282.symm)
  have f288 := (Nat.le_trans (Nat.le_trans (Nat.le_trans (Nat.le_trans (Nat.le_trans (Nat.le_trans (Nat.le_refl h0.size) E22.1) (Keep.of_wr W30).1) (Keep.of_wr W37).1) (Keep.of_wr W44).1) (Keep.of_wr W51).1) (Keep.of_wr W58).1)
  have z287 : h0.size ≤ b282 := Nat.le_trans f288 (Nat.le_of_eq g282.symm)
  have R289 := R61.trans (CHr.ext E282 R61.1)
  have sf290 := Safe.ext E282 R61.1 sf62
  have sf291 := Safe.ext E282 R61.1 sf286
  have F292 : Fld Z h282 b282 "java/lang/String" "coder" "B" (iV 0) := D282 (Or.inr (Wd29 hw)) (ty := .byte) (by decide)
  have F293 : Fld Z h282 b282 "java/lang/String" "value" "[B" .null := D282 (Or.inr (Wd31 hw)) (ty := (.array .byte)) (by decide)
  refine ownBy st282 ?_
  clear st282
  show oA p e below _ T282 (fr_law m p1 p2 p3 p4 p5 187 (vI 2) (vI sp) (vI en) (vR b22) (vI d0) (vI d1) (vI d2) .unset .unset .unset .unset [(.ref b282)])
  refine oTo T282 (fr_law m p1 p2 p3 p4 p5 189 (vI 2) (vI sp) (vI en) (vR b22) (vI d0) (vI d1) (vI d2) .unset .unset .unset .unset [(iV 2), (.ref b282), (.ref b282)]) (fun t kt => ?_) ?_
  ·refine XS.dup X282.here hx rfl (D at_187) rfl rfl ?_
   refine XS.iconst X282.here hx rfl (D at_188) ?_
   exact kt
  obtain ⟨T294, h294, k294, X294, e294, E294, A294, st294⟩ := newP X282 hx hZ (aty := .char) (Wd1 hw) e282 (g := (fr_law m p1 p2 p3 p4 p5 189 (vI 2) (vI sp) (vI en) (vR b22) (vI d0) (vI d1) (vI d2) .unset .unset .unset .unset [(iV 2), (.ref b282), (.ref b282)])) rfl (D at_189) rfl (by decide : ¬ ((2 : Int32) < (0 : Int32))) (cap := 2) (by decide) (by decide) (by decide) (by decide)
  obtain ⟨b294, g294⟩ : ∃ z, z = h282.size := ⟨_, rfl⟩
  rw [← g294] at A294 st294
  have f296 := (V59.ext E282)
  have ne295 : b22 ≠ b294 := Nat.ne_of_lt (Nat.lt_of_lt_of_le f296.lt (Nat.le_of_eq g294.symm))
  have ne297 : b282 ≠ b294 := Nat.ne_of_lt (Nat.lt_of_lt_of_le A282.lt (Nat.le_of_eq g294.symm))
  have f299 := (Nat.le_trans f285 E282.1)
  have g298 : n0 ≤ b294 := Nat.le_trans f299 (Nat.le_of_eq g294.symm)
  have sf300 : Safe Z ownEL s.vm h282 b294 := Safe.new (Nat.le_of_eq g294.symm)
  have f302 := (Nat.le_trans f288 E282.1)
  have z301 : h0.size ≤ b294 := Nat.le_trans f302 (Nat.le_of_eq g294.symm)
  have R303 := R289.trans (CHr.ext E294 R289.1)
  have sf304 := Safe.ext E294 R289.1 sf290
  have sf305 := Safe.ext E294 R289.1 sf291
  have sf306 := Safe.ext E294 R289.1 sf300
  have V307 : Arv Z h294 b294 k294 .char (2 : Int32) [(iV 0), (iV 0)] (iV 0) := (Arv.new A294 (by decide)).pad (pad_rep [] (iV 0) 2)
  refine ownBy st294 ?_
  clear st294
  show oA p e below _ T294 (fr_law m p1 p2 p3 p4 p5 191 (vI 2) (vI sp) (vI en) (vR b22) (vI d0) (vI d1) (vI d2) .unset .unset .unset .unset [(.ref b294), (.ref b282), (.ref b282)])
  refine oTo T294 (fr_law m p1 p2 p3 p4 p5 195 (vI 2) (vI sp) (vI en) (vR b22) (vI d0) (vI d1) (vI d2) .unset .unset .unset .unset [(.int d0), (iV 0), (.ref b294), (.ref b294), (.ref b282), (.ref b282)]) (fun t kt => ?_) ?_
  ·refine XS.dup X294.here hx rfl (D at_191) rfl rfl ?_
   refine XS.iconst X294.here hx rfl (D at_192) ?_
   refine XS.iload X294.here hx rfl (D at_193) rfl ?_
   exact kt
  obtain ⟨cl308, Ar308, q308, S308, N308, H308, G308⟩ := id V307
  have hin308 : ¬ ((0 : Int32) < 0 ∨ cl308.slots.size ≤ ((0 : Int32)).toNatClampNeg) := inb_of S308 ⟨by decide, by decide⟩
  obtain ⟨T308, h308, X308, e308, W308, st308⟩ := stC X294 hx hZ e294 Ar308 (j := (0 : Int32)) hin308 (g := (fr_law m p1 p2 p3 p4 p5 195 (vI 2) (vI sp) (vI en) (vR b22) (vI d0) (vI d1) (vI d2) .unset .unset .unset .unset [(.int d0), (iV 0), (.ref b294), (.ref b294), (.ref b282), (.ref b282)])) rfl rfl (D at_195)
  have V309 : Arv Z h308 b294 k294 .char (2 : Int32) [(.int (nar .char d0)), (iV 0)] (iV 0) := Arv.set Ar308 q308 S308 N308 H308 G308 (fits_nar_char _) W308 0 rfl (oLe rfl)
  rw [own_c16 hr_d0] at V309
  clear hin308 G308 H308 N308 S308 q308 Ar308 cl308 V307
  have N310 := Fr.snoc X308 Nh63 g298
  have R311 := R303.trans (CHr.wr W308 sf306 R303.1)
  have sf312 := Safe.wr W308 sf306 R303.1 sf304
  have sf313 := Safe.wr W308 sf306 R303.1 sf305
  have sf314 := Safe.wr W308 sf306 R303.1 sf306
  obtain ⟨Lh315, Xh315, Nh315⟩ := oHd 3 11 X308 N310 rfl rfl
  refine ownBy st308 ?_
  clear st308
  show oA p e below _ T308 (fr_law m p1 p2 p3 p4 p5 196 (vI 2) (vI sp) (vI en) (vR b22) (vI d0) (vI d1) (vI d2) .unset .unset .unset .unset [(.ref b294), (.ref b282), (.ref b282)])
  refine oTo T308 (fr_law m p1 p2 p3 p4 p5 200 (vI 2) (vI sp) (vI en) (vR b22) (vI d0) (vI d1) (vI d2) .unset .unset .unset .unset [(.int d1), (iV 1), (.ref b294), (.ref b294), (.ref b282), (.ref b282)]) (fun t kt => ?_) ?_
  ·refine XS.dup Xh315.here hx rfl (D at_196) rfl rfl ?_
   refine XS.iconst Xh315.here hx rfl (D at_197) ?_
   refine XS.iload Xh315.here hx rfl (D at_198) rfl ?_
   exact kt
  obtain ⟨cl316, Ar316, q316, S316, N316, H316, G316⟩ := id V309
  have hin316 : ¬ ((1 : Int32) < 0 ∨ cl316.slots.size ≤ ((1 : Int32)).toNatClampNeg) := inb_of S316 ⟨by decide, by decide⟩
  obtain ⟨T316, h316, X316, e316, W316, st316⟩ := stC Xh315 hx hZ e308 Ar316 (j := (1 : Int32)) hin316 (g := (fr_law m p1 p2 p3 p4 p5 200 (vI 2) (vI sp) (vI en) (vR b22) (vI d0) (vI d1) (vI d2) .unset .unset .unset .unset [(.int d1), (iV 1), (.ref b294), (.ref b294), (.ref b282), (.ref b282)])) rfl rfl (D at_200)
  have V317 : Arv Z h316 b294 k294 .char (2 : Int32) [(.int d0), (.int (nar .char d1))] (iV 0) := Arv.set Ar316 q316 S316 N316 H316 G316 (fits_nar_char _) W316 1 rfl (oLe rfl)
  rw [own_c16 hr_d1] at V317
  clear hin316 G316 H316 N316 S316 q316 Ar316 cl316 V309
  have N318 := Fr.snoc X316 Nh315 g298
  have R319 := R311.trans (CHr.wr W316 sf314 R311.1)
  have sf320 := Safe.wr W316 sf314 R311.1 sf312
  have sf321 := Safe.wr W316 sf314 R311.1 sf313
  have sf322 := Safe.wr W316 sf314 R311.1 sf314
  obtain ⟨Lh323, Xh323, Nh323⟩ := oHd 3 11 X316 N318 rfl rfl
  refine ownBy st316 ?_
  clear st316
  show oA p e below _ T316 (fr_law m p1 p2 p3 p4 p5 201 (vI 2) (vI sp) (vI en) (vR b22) (vI d0) (vI d1) (vI d2) .unset .unset .unset .unset [(.ref b294), (.ref b282), (.ref b282)])
  have f324 := (((A282.ext E294).wr W308).wr W316)
  have f325 := (((F293.ext E294).other W308 (Or.inl ne297)).other W316 (Or.inl ne297))
  have f326 := (((F292.ext E294).other W308 (Or.inl ne297)).other W316 (Or.inl ne297))
  have f327 := ((((((((((X00.ext E22).wr W30 g23).wr W37 g23).wr W44 g23).wr W51 g23).wr W58 g23).ext E282).ext E294).wr W308 g298).wr W316 g298)
  have f328 := (Nat.le_trans (Nat.le_trans (Nat.le_trans f299 E294.1) (Keep.of_wr W308).1) (Keep.of_wr W316).1)
  obtain ⟨vv329, _, ⟨T329, L329, k329, n329⟩, -, X329, ⟨Lc329, hQ329, l329, y329, z329⟩, st329⟩ := Xh323.specialBack hx (y := yM1) rfl hown (mvT hZ (Wd6 hw)) (mvT hZ (Wd7 hw)) (mvT hZ (Wd8 hw)) (by decide) (backOf (W := 1) (c_inC_2 l Z a0 hw [] b282 b294 k294 d0 d1 _ G1 h316 n0 f328 f324 f325 f326 g284 ne297 V317 hr_d0 hr_d1 O2 P5 SA SHI SLO f327) hZ (Wd8 hw) (Wd5 hw) (by decide) (by decide)) (g := (fr_law m p1 p2 p3 p4 p5 201 (vI 2) (vI sp) (vI en) (vR b22) (vI d0) (vI d1) (vI d2) .unset .unset .unset .unset [(.ref b294), (.ref b282), (.ref b282)])) rfl (by rw [hml]; rfl) (Steps.refl _) (a := b282) (argsL := [(.ref b294)]) (rest := [(.ref b282)]) (lenOf pd_23 rfl) rfl (by show 2 * 0 + _ ≤ _; exact Nat.le_of_eq rfl) (D at_201) (fun _ _ => ⟨rfl, e316, (by decide : 3 + 2 ≤ _), (by decide : 11 + 6 ≤ _)⟩)
  dsimp only [Pt.U, Pt.locs, Pt.cells, Pt.slots] at X329 l329 y329 z329 st329 hQ329
  subst l329 y329 z329
  obtain ⟨rfl, Nq329, Kq329, Eq329, t329, kb329, cd329, z329, vs329, zq329, Vq329, Cq329, Aq329, hrel329⟩ := hQ329
  have f331 := (((f296.ext E294).other W308 ne295).other W316 ne295)
  have ne330 : b22 ≠ t329 := Nat.ne_of_lt (Nat.lt_of_lt_of_le f331.lt zq329)
  have ne332 : b282 ≠ t329 := Nat.ne_of_lt (Nat.lt_of_lt_of_le f324.lt zq329)
  have ne333 : b294 ≠ t329 := Nat.ne_of_lt (Nat.lt_of_lt_of_le V317.lt zq329)
  have g334 : n0 ≤ t329 := Nat.le_trans f328 zq329
  have sf335 : Safe Z ownEL s.vm h316 t329 := Safe.new zq329
  have f337 := (Nat.le_trans (Nat.le_trans (Nat.le_trans f302 E294.1) (Keep.of_wr W308).1) (Keep.of_wr W316).1)
  have z336 : h0.size ≤ t329 := Nat.le_trans f337 zq329
  have N338 := Fr.app Nh323 Nq329
  have R339 := R319.trans (CHr.keep Kq329 (sfS sf321 sf0) R319.1)
  have sf340 := Safe.keep Kq329 (sfS sf321 sf0) R319.1 sf320
  have sf341 := Safe.keep Kq329 (sfS sf321 sf0) R319.1 sf321
  have sf342 := Safe.keep Kq329 (sfS sf321 sf0) R319.1 sf322
  have sf343 := Safe.keep Kq329 (sfS sf321 sf0) R319.1 sf335
  obtain ⟨Lh344, Xh344, Nh344⟩ := oHd 5 17 X329 N338 rfl rfl
  refine ownSt st329 ?_
  clear st329
  show oA p e below _ T329 (fr_law m p1 p2 p3 p4 p5 204 (vI 2) (vI sp) (vI en) (vR b22) (vI d0) (vI d1) (vI d2) .unset .unset .unset .unset [(.ref b282)])
  refine oTo T329 (fr_law m p1 p2 p3 p4 p5 236 (vI 2) (vI sp) (vI en) (vR b22) (vI d0) (vI d1) (vI d2) (vR b282) .unset .unset .unset []) (fun t kt => ?_) ?_
  ·refine XS.astore Xh344.here hx rfl (D at_204) rfl rfl (l' := #[.val (.long p1), .second, vI p2, vI p3, vI p4, vI p5, vI 2, vI sp, vI en, vR b22, vI d0, vI d1, vI d2, vR b282, .unset, .unset, .unset]) rfl ?_
   refine XS.goto Xh344.here hx rfl (pc0 := 206) (pc' := 236) rfl (D at_206) (by decide) (by decide) ?_
   exact kt
  obtain ⟨T345, h345, X345, e345, E345, A345, D345, -, st345⟩ := newO Xh344 hx hZ hown (Wd3 hw) (Wd4 hw) (Wd5 hw) rfl (g := (fr_law m p1 p2 p3 p4 p5 236 (vI 2) (vI sp) (vI en) (vR b22) (vI d0) (vI d1) (vI d2) (vR b282) .unset .unset .unset [])) rfl (D at_236) (by decide) (by decide)
  obtain ⟨b345, g345⟩ : ∃ z, z = T329.heap.size := ⟨_, rfl⟩
  rw [← g345] at A345 D345 st345
  have f347 := (f331.keep Kq329 (ninS ne283 nin0))
  have ne346 : b22 ≠ b345 := Nat.ne_of_lt (Nat.lt_of_lt_of_le f347.lt (Nat.le_of_eq g345.symm))
  have f349 := (f324.keep Kq329)
  have ne348 : b282 ≠ b345 := Nat.ne_of_lt (Nat.lt_of_lt_of_le f349.lt (Nat.le_of_eq g345.symm))
  have f351 := (V317.keep Kq329 (ninS (Ne.symm ne297) nin0))
  have ne350 : b294 ≠ b345 := Nat.ne_of_lt (Nat.lt_of_lt_of_le f351.lt (Nat.le_of_eq g345.symm))
  have ne352 : t329 ≠ b345 := Nat.ne_of_lt (Nat.lt_of_lt_of_le Aq329.lt (Nat.le_of_eq g345.symm))
  have f354 := (Nat.le_trans f328 Kq329.1)
  have g353 : n0 ≤ b345 := Nat.le_trans f354 (Nat.le_of_eq g345.symm)
  have sf355 : Safe Z ownEL s.vm T329.heap b345 := Safe.new (Nat.le_of_eq g345.symm)
  have f357 := (Nat.le_trans f337 Kq329.1)
  have z356 : h0.size ≤ b345 := Nat.le_trans f357 (Nat.le_of_eq g345.symm)
  have R358 := R339.trans (CHr.ext E345 R339.1)
  have sf359 := Safe.ext E345 R339.1 sf340
  have sf360 := Safe.ext E345 R339.1 sf341
  have sf361 := Safe.ext E345 R339.1 sf342
  have sf362 := Safe.ext E345 R339.1 sf343
  have sf363 := Safe.ext E345 R339.1 sf355
  have F364 : Fld Z h345 b345 "java/lang/String" "coder" "B" (iV 0) := D345 (Or.inr (Wd29 hw)) (ty := .byte) (by decide)
  have F365 : Fld Z h345 b345 "java/lang/String" "value" "[B" .null := D345 (Or.inr (Wd31 hw)) (ty := (.array .byte)) (by decide)
  refine ownBy st345 ?_
  clear st345
  show oA p e below _ T345 (fr_law m p1 p2 p3 p4 p5 239 (vI 2) (vI sp) (vI en) (vR b22) (vI d0) (vI d1) (vI d2) (vR b282) .unset .unset .unset [(.ref b345)])
  refine oTo T345 (fr_law m p1 p2 p3 p4 p5 242 (vI 2) (vI sp) (vI en) (vR b22) (vI d0) (vI d1) (vI d2) (vR b282) .unset .unset .unset [(.ref b22), (.ref b345), (.ref b345)]) (fun t kt => ?_) ?_
  ·refine XS.dup X345.here hx rfl (D at_239) rfl rfl ?_
   refine XS.aload X345.here hx rfl (D at_240) rfl rfl ?_
   exact kt
  have f366 := (f347.ext E345)
  have f367 := ((f327.keep Kq329 (allS g284 all0)).ext E345)
  have f368 := (Nat.le_trans f354 E345.1)
  obtain ⟨vv369, _, ⟨T369, L369, k369, n369⟩, -, X369, ⟨Lc369, hQ369, l369, y369, z369⟩, st369⟩ := X345.specialBack hx (y := yM1) rfl hown (mvT hZ (Wd6 hw)) (mvT hZ (Wd7 hw)) (mvT hZ (Wd8 hw)) (by decide) (backOf (W := 1) (c_inC_5 l Z a0 hw [] b345 b22 k22 u0 u1 u2 u3 u4 _ G1 h345 n0 f368 A345 F365 F364 g353 (Ne.symm ne346) f366 hr_u0 hr_u1 hr_u2 hr_u3 hr_u4 O2 P5 SA SHI SLO f367) hZ (Wd8 hw) (Wd5 hw) (by decide) (by decide)) (g := (fr_law m p1 p2 p3 p4 p5 242 (vI 2) (vI sp) (vI en) (vR b22) (vI d0) (vI d1) (vI d2) (vR b282) .unset .unset .unset [(.ref b22), (.ref b345), (.ref b345)])) rfl (by rw [hml]; rfl) (Steps.refl _) (a := b345) (argsL := [(.ref b22)]) (rest := [(.ref b345)]) (lenOf pd_23 rfl) rfl (by show 2 * 0 + _ ≤ _; exact Nat.le_of_eq rfl) (D at_242) (fun _ _ => ⟨rfl, e345, (by decide : 6 + 2 ≤ _), (by decide : 21 + 15 ≤ _)⟩)
  dsimp only [Pt.U, Pt.locs, Pt.cells, Pt.slots] at X369 l369 y369 z369 st369 hQ369
  subst l369 y369 z369
  obtain ⟨rfl, Nq369, Kq369, Eq369, t369, kb369, cd369, z369, vs369, zq369, Vq369, Cq369, Aq369, hrel369⟩ := hQ369
  have ne370 : b22 ≠ t369 := Nat.ne_of_lt (Nat.lt_of_lt_of_le f366.lt zq369)
  have f372 := (f349.ext E345)
  have ne371 : b282 ≠ t369 := Nat.ne_of_lt (Nat.lt_of_lt_of_le f372.lt zq369)
  have f374 := (f351.ext E345)
  have ne373 : b294 ≠ t369 := Nat.ne_of_lt (Nat.lt_of_lt_of_le f374.lt zq369)
  have f376 := (Aq329.ext E345)
  have ne375 : t329 ≠ t369 := Nat.ne_of_lt (Nat.lt_of_lt_of_le f376.lt zq369)
  have ne377 : b345 ≠ t369 := Nat.ne_of_lt (Nat.lt_of_lt_of_le A345.lt zq369)
  have g378 : n0 ≤ t369 := Nat.le_trans f368 zq369
  have sf379 : Safe Z ownEL s.vm h345 t369 := Safe.new zq369
  have f381 := (Nat.le_trans f357 E345.1)
  have z380 : h0.size ≤ t369 := Nat.le_trans f381 zq369
  have N382 := Fr.app Nh344 Nq369
  have R383 := R358.trans (CHr.keep Kq369 (sfS sf363 sf0) R358.1)
  have sf384 := Safe.keep Kq369 (sfS sf363 sf0) R358.1 sf359
  have sf385 := Safe.keep Kq369 (sfS sf363 sf0) R358.1 sf360
  have sf386 := Safe.keep Kq369 (sfS sf363 sf0) R358.1 sf361
  have sf387 := Safe.keep Kq369 (sfS sf363 sf0) R358.1 sf362
  have sf388 := Safe.keep Kq369 (sfS sf363 sf0) R358.1 sf363
  have sf389 := Safe.keep Kq369 (sfS sf363 sf0) R358.1 sf379
  obtain ⟨Lh390, Xh390, Nh390⟩ := oHd 8 36 X369 N382 rfl rfl
  refine ownSt st369 ?_
  clear st369
  show oA p e below _ T369 (fr_law m p1 p2 p3 p4 p5 245 (vI 2) (vI sp) (vI en) (vR b22) (vI d0) (vI d1) (vI d2) (vR b282) .unset .unset .unset [(.ref b345)])
  have f391 := (A345.keep Kq369)
  refine oTo T369 (fr_law m p1 p2 p3 p4 p5 255 (vI 2) (vI sp) (vI en) (vR b22) (vI d0) (vI d1) (vI d2) (vR b282) (vR b345) .unset .unset [(.ref b282), (.int en), (.int sp), (.ref b345)]) (fun t kt => ?_) ?_
  ·refine XS.astore Xh390.here hx rfl (D at_245) rfl rfl (l' := #[.val (.long p1), .second, vI p2, vI p3, vI p4, vI p5, vI 2, vI sp, vI en, vR b22, vI d0, vI d1, vI d2, vR b282, vR b345, .unset, .unset]) rfl ?_
   refine XS.aload Xh390.here hx rfl (D at_247) rfl rfl ?_
   refine XS.iload Xh390.here hx rfl (D at_249) rfl ?_
   refine XS.iload Xh390.here hx rfl (D at_251) rfl ?_
   refine XS.aload Xh390.here hx rfl (D at_253) rfl rfl ?_
   exact kt
  obtain ⟨r0, kk0, kq0, hP0, hr0, hq0, hg0⟩ := own_at hrel369 hr_u0 hr_u1 hr_u2 hr_u3 hr_u4 (i := sp) (by rcases hst with rfl | rfl | rfl | rfl <;> decide)
  rw [← Int32.add_zero sp] at hP0
  obtain ⟨r1, kk1, kq1, hP1, hr1, hq1, hg1⟩ := own_at hrel369 hr_u0 hr_u1 hr_u2 hr_u3 hr_u4 (i := (sp + (1 : Int32))) (by rcases hst with rfl | rfl | rfl | rfl <;> decide)
  have f392 := (f372.keep Kq369)
  have f393 := ((Vq329.ext E345).keep Kq369 (ninS ne348 nin0))
  have f394 := ((Cq329.ext E345).keep Kq369 (ninS ne348 nin0))
  have f395 := (f376.keep Kq369 (ninS ne352 nin0))
  have f396 := (f367.keep Kq369 (allS g353 all0))
  have f397 := (Nat.le_trans f368 Kq369.1)
  obtain ⟨vv398, _, ⟨T398, L398, k398, n398⟩, -, X398, ⟨Lc398, hQ398, l398, y398, z398⟩, st398⟩ := Jvm.LawKit.callS Xh390 hx (y := yM21) hown (mvT hZ (Wd32 hw)) (mvT hZ (Wd33 hw)) (mvT hZ (Wd34 hw)) (mvT hZ (Wd35 hw)) (by decide) (backOf (W := 0) (c_iw2 l Z a0 hw [] b345 t369 kb369 cd369 z369 vs369 b282 t329 kb329 cd329 z329 vs329 d0 d1 r0 r1 kk0 kk1 kq0 kq1 sp en G1 G3 T369.heap n0 f397 f391 Vq369 Cq369 Aq369 f392 f393 f394 f395 hrel329 hr_d0 hr_d1 hr0 hr1 hP0 hP1 O2 P5 SA SHI SLO O4 rG3 f396) hZ (Wd35 hw) (Wd34 hw) (by decide) (by decide)) (g := (fr_law m p1 p2 p3 p4 p5 255 (vI 2) (vI sp) (vI en) (vR b22) (vI d0) (vI d1) (vI d2) (vR b282) (vR b345) .unset .unset [(.ref b282), (.int en), (.int sp), (.ref b345)])) rfl (by rw [hml]; rfl) (argsL := [(.ref b345), (.int sp), (.int en), (.ref b282)]) (rest := []) (lenOf pd_24 rfl) rfl (by show 2 * 0 + _ ≤ _; exact Nat.le_of_eq rfl) (D at_255) (fun _ _ => ⟨rfl, rfl, (by decide : 8 + 0 ≤ _), (by decide : 36 + 0 ≤ _)⟩)
  dsimp only [Pt.U, Pt.locs, Pt.cells, Pt.slots] at X398 l398 y398 z398 st398 hQ398
  subst l398 y398 z398
  obtain ⟨rfl, Nq398, Eq398⟩ := hQ398
  have N399 := Fr.app Nh390 Nq398
  obtain ⟨Lh400, Xh400, Nh400⟩ := oHd 8 36 X398 N399 rfl rfl
  refine ownBy st398 ?_
  clear st398
  show oA p e below _ T398 (fr_law m p1 p2 p3 p4 p5 258 (vI 2) (vI sp) (vI en) (vR b22) (vI d0) (vI d1) (vI d2) (vR b282) (vR b345) .unset .unset [(.int (own_b ((en - sp) = (2 : Int32) ∧ Mw r0 d0 ∧ Mw r1 d1)))])
  refine oTo T398 (fr_law m p1 p2 p3 p4 p5 267 (vI 2) (vI sp) (vI en) (vR b22) (vI d0) (vI d1) (vI d2) (vR b282) (vR b345) (.val (.int (own_b ((en - sp) = (2 : Int32) ∧ Mw r0 d0 ∧ Mw r1 d1)))) .unset [(iV 2), (.int (en - sp))]) (fun t kt => ?_) ?_
  ·refine XS.istore Xh400.here hx rfl (D at_258) rfl (l' := #[.val (.long p1), .second, vI p2, vI p3, vI p4, vI p5, vI 2, vI sp, vI en, vR b22, vI d0, vI d1, vI d2, vR b282, vR b345, .val (.int (own_b ((en - sp) = (2 : Int32) ∧ Mw r0 d0 ∧ Mw r1 d1))), .unset]) rfl ?_
   refine XS.iload Xh400.here hx rfl (D at_260) rfl ?_
   refine XS.iload Xh400.here hx rfl (D at_262) rfl ?_
   refine XS.isub Xh400.here hx rfl (D at_264) rfl ?_
   refine XS.iload Xh400.here hx rfl (D at_265) rfl ?_
   exact kt
  by_cases hc401 : (en - sp) = (2 : Int32)
  ·skip
   refine oTo T398 (fr_law m p1 p2 p3 p4 p5 280 (vI 2) (vI sp) (vI en) (vR b22) (vI d0) (vI d1) (vI d2) (vR b282) (vR b345) (.val (.int (own_b ((en - sp) = (2 : Int32) ∧ Mw r0 d0 ∧ Mw r1 d1)))) .unset [(.int sp), (.ref b22)]) (fun t kt => ?_) ?_
   ·refine XS.icmpNo Xh400.here hx rfl (D at_267) rfl (teq hc401).2 ?_
    refine XS.iload Xh400.here hx rfl (D at_270) rfl ?_
    refine XS.iconst Xh400.here hx rfl (D at_272) ?_
    refine XS.icmpNo Xh400.here hx rfl (D at_273) rfl (flt ((by decide) : ¬ ((2 : Int32) < (1 : Int32)))).1 ?_
    refine XS.aload Xh400.here hx rfl (D at_276) rfl rfl ?_
    refine XS.iload Xh400.here hx rfl (D at_278) rfl ?_
    exact kt
   have f402 := (f366.keep Kq369 (ninS ne346 nin0))
   obtain ⟨cl403, Ar403, q403, S403, N403, H403, G403⟩ := id f402
   have hin403 : ¬ (sp < 0 ∨ cl403.slots.size ≤ (sp).toNatClampNeg) := inb_of S403 hq0
   have hat403 : cl403.slots[(sp).toNatClampNeg]? = some (.int r0) := H403.at hin403 hg0
   have st403 := Xh400.caload hx (j := sp) (v := (.int r0)) (by rw [Eq398]; exact Ar403.1) (State.isArrayOf_alike hZ.alike Ar403.2.1) Ar403.2.2 hin403 hat403 (g := (fr_law m p1 p2 p3 p4 p5 280 (vI 2) (vI sp) (vI en) (vR b22) (vI d0) (vI d1) (vI d2) (vR b282) (vR b345) (.val (.int (own_b ((en - sp) = (2 : Int32) ∧ Mw r0 d0 ∧ Mw r1 d1)))) .unset [(.int sp), (.ref b22)])) rfl rfl (D at_280)
   refine ownBy st403 ?_
   show oA p e below _ T398 (fr_law m p1 p2 p3 p4 p5 281 (vI 2) (vI sp) (vI en) (vR b22) (vI d0) (vI d1) (vI d2) (vR b282) (vR b345) (.val (.int (own_b ((en - sp) = (2 : Int32) ∧ Mw r0 d0 ∧ Mw r1 d1)))) .unset [(.int r0)])
   refine oTo T398 (fr_law m p1 p2 p3 p4 p5 283 (vI 2) (vI sp) (vI en) (vR b22) (vI d0) (vI d1) (vI d2) (vR b282) (vR b345) (.val (.int (own_b ((en - sp) = (2 : Int32) ∧ Mw r0 d0 ∧ Mw r1 d1)))) .unset [(.int d0), (.int r0)]) (fun t kt => ?_) ?_
   ·refine XS.iload Xh400.here hx rfl (D at_281) rfl ?_
    exact kt
   obtain ⟨vv404, _, ⟨T404, L404, k404, n404⟩, -, X404, ⟨Lc404, hQ404, l404, y404, z404⟩, st404⟩ := Jvm.LawKit.callS Xh400 hx (y := yM20) hown (mvT hZ (Wd68 hw)) (mvT hZ (Wd69 hw)) (mvT hZ (Wd70 hw)) (mvT hZ (Wd71 hw)) (by decide) (backOf (W := 0) (c_mm l Z a0 hw [] r0 d0 T369.heap n0 f397 ) hZ (Wd71 hw) (Wd70 hw) (by decide) (by decide)) (g := (fr_law m p1 p2 p3 p4 p5 283 (vI 2) (vI sp) (vI en) (vR b22) (vI d0) (vI d1) (vI d2) (vR b282) (vR b345) (.val (.int (own_b ((en - sp) = (2 : Int32) ∧ Mw r0 d0 ∧ Mw r1 d1)))) .unset [(.int d0), (.int r0)])) rfl (by rw [hml]; rfl) (argsL := [(.int r0), (.int d0)]) (rest := []) (lenOf pd_25 rfl) rfl (by show 2 * 0 + _ ≤ _; exact Nat.le_of_eq rfl) (D at_283) (fun _ _ => ⟨rfl, Eq398, (by decide : 8 + 0 ≤ _), (by decide : 36 + 0 ≤ _)⟩)
   dsimp only [Pt.U, Pt.locs, Pt.cells, Pt.slots] at X404 l404 y404 z404 st404 hQ404
   subst l404 y404 z404
   obtain ⟨rfl, Nq404, Eq404⟩ := hQ404
   have N405 := Fr.app Nh400 Nq404
   obtain ⟨Lh406, Xh406, Nh406⟩ := oHd 8 36 X404 N405 rfl rfl
   refine ownBy st404 ?_
   clear st404
   show oA p e below _ T404 (fr_law m p1 p2 p3 p4 p5 286 (vI 2) (vI sp) (vI en) (vR b22) (vI d0) (vI d1) (vI d2) (vR b282) (vR b345) (.val (.int (own_b ((en - sp) = (2 : Int32) ∧ Mw r0 d0 ∧ Mw r1 d1)))) .unset [(.int (own_b (Mw r0 d0)))])
   by_cases hc407 : Mw r0 d0
   ·skip
    refine oTo T404 (fr_law m p1 p2 p3 p4 p5 301 (vI 2) (vI sp) (vI en) (vR b22) (vI d0) (vI d1) (vI d2) (vR b282) (vR b345) (.val (.int (own_b ((en - sp) = (2 : Int32) ∧ Mw r0 d0 ∧ Mw r1 d1)))) .unset [(.int (sp + (1 : Int32))), (.ref b22)]) (fun t kt => ?_) ?_
    ·refine XS.ifNo Xh406.here hx rfl (D at_286) rfl ((if0 _ _).trans (feq (own_bt0 hc407)).1) ?_
     refine XS.iload Xh406.here hx rfl (D at_289) rfl ?_
     refine XS.iconst Xh406.here hx rfl (D at_291) ?_
     refine XS.icmpNo Xh406.here hx rfl (D at_292) rfl (flt ((by decide) : ¬ ((2 : Int32) < (2 : Int32)))).1 ?_
     refine XS.aload Xh406.here hx rfl (D at_295) rfl rfl ?_
     refine XS.iload Xh406.here hx rfl (D at_297) rfl ?_
     refine XS.iconst Xh406.here hx rfl (D at_299) ?_
     refine XS.iadd Xh406.here hx rfl (D at_300) rfl ?_
     exact kt
    obtain ⟨cl408, Ar408, q408, S408, N408, H408, G408⟩ := id f402
    have hin408 : ¬ ((sp + (1 : Int32)) < 0 ∨ cl408.slots.size ≤ ((sp + (1 : Int32))).toNatClampNeg) := inb_of S408 hq1
    have hat408 : cl408.slots[((sp + (1 : Int32))).toNatClampNeg]? = some (.int r1) := H408.at hin408 hg1
    have st408 := Xh406.caload hx (j := (sp + (1 : Int32))) (v := (.int r1)) (by rw [Eq404]; exact Ar408.1) (State.isArrayOf_alike hZ.alike Ar408.2.1) Ar408.2.2 hin408 hat408 (g := (fr_law m p1 p2 p3 p4 p5 301 (vI 2) (vI sp) (vI en) (vR b22) (vI d0) (vI d1) (vI d2) (vR b282) (vR b345) (.val (.int (own_b ((en - sp) = (2 : Int32) ∧ Mw r0 d0 ∧ Mw r1 d1)))) .unset [(.int (sp + (1 : Int32))), (.ref b22)])) rfl rfl (D at_301)
    refine ownBy st408 ?_
    show oA p e below _ T404 (fr_law m p1 p2 p3 p4 p5 302 (vI 2) (vI sp) (vI en) (vR b22) (vI d0) (vI d1) (vI d2) (vR b282) (vR b345) (.val (.int (own_b ((en - sp) = (2 : Int32) ∧ Mw r0 d0 ∧ Mw r1 d1)))) .unset [(.int r1)])
    refine oTo T404 (fr_law m p1 p2 p3 p4 p5 304 (vI 2) (vI sp) (vI en) (vR b22) (vI d0) (vI d1) (vI d2) (vR b282) (vR b345) (.val (.int (own_b ((en - sp) = (2 : Int32) ∧ Mw r0 d0 ∧ Mw r1 d1)))) .unset [(.int d1), (.int r1)]) (fun t kt => ?_) ?_
    ·refine XS.iload Xh406.here hx rfl (D at_302) rfl ?_
     exact kt
    obtain ⟨vv409, _, ⟨T409, L409, k409, n409⟩, -, X409, ⟨Lc409, hQ409, l409, y409, z409⟩, st409⟩ := Jvm.LawKit.callS Xh406 hx (y := yM20) hown (mvT hZ (Wd68 hw)) (mvT hZ (Wd69 hw)) (mvT hZ (Wd70 hw)) (mvT hZ (Wd71 hw)) (by decide) (backOf (W := 0) (c_mm l Z a0 hw [] r1 d1 T369.heap n0 f397 ) hZ (Wd71 hw) (Wd70 hw) (by decide) (by decide)) (g := (fr_law m p1 p2 p3 p4 p5 304 (vI 2) (vI sp) (vI en) (vR b22) (vI d0) (vI d1) (vI d2) (vR b282) (vR b345) (.val (.int (own_b ((en - sp) = (2 : Int32) ∧ Mw r0 d0 ∧ Mw r1 d1)))) .unset [(.int d1), (.int r1)])) rfl (by rw [hml]; rfl) (argsL := [(.int r1), (.int d1)]) (rest := []) (lenOf pd_25 rfl) rfl (by show 2 * 0 + _ ≤ _; exact Nat.le_of_eq rfl) (D at_304) (fun _ _ => ⟨rfl, Eq404, (by decide : 8 + 0 ≤ _), (by decide : 36 + 0 ≤ _)⟩)
    dsimp only [Pt.U, Pt.locs, Pt.cells, Pt.slots] at X409 l409 y409 z409 st409 hQ409
    subst l409 y409 z409
    obtain ⟨rfl, Nq409, Eq409⟩ := hQ409
    have N410 := Fr.app Nh406 Nq409
    obtain ⟨Lh411, Xh411, Nh411⟩ := oHd 8 36 X409 N410 rfl rfl
    refine ownBy st409 ?_
    clear st409
    show oA p e below _ T409 (fr_law m p1 p2 p3 p4 p5 307 (vI 2) (vI sp) (vI en) (vR b22) (vI d0) (vI d1) (vI d2) (vR b282) (vR b345) (.val (.int (own_b ((en - sp) = (2 : Int32) ∧ Mw r0 d0 ∧ Mw r1 d1)))) .unset [(.int (own_b (Mw r1 d1)))])
    by_cases hc412 : Mw r1 d1
    ·skip
     refine oTo T409 (fr_law m p1 p2 p3 p4 p5 350 (vI 2) (vI sp) (vI en) (vR b22) (vI d0) (vI d1) (vI d2) (vR b282) (vR b345) (.val (.int (own_b ((en - sp) = (2 : Int32) ∧ Mw r0 d0 ∧ Mw r1 d1)))) (vI 1) [(iV 1)]) (fun t kt => ?_) ?_
     ·refine XS.ifNo Xh411.here hx rfl (D at_307) rfl ((if0 _ _).trans (feq (own_bt0 hc412)).1) ?_
      refine XS.iload Xh411.here hx rfl (D at_310) rfl ?_
      refine XS.iconst Xh411.here hx rfl (D at_312) ?_
      refine XS.icmpYes Xh411.here hx rfl (pc0 := 313) (pc' := 331) rfl (D at_313) rfl (tlt ((by decide) : (2 : Int32) < (3 : Int32))).1 (by decide) (by decide) ?_
      refine XS.iconst Xh411.here hx rfl (D at_331) ?_
      refine XS.goto Xh411.here hx rfl (pc0 := 332) (pc' := 336) rfl (D at_332) (by decide) (by decide) ?_
      refine XS.istore Xh411.here hx rfl (D at_336) rfl (l' := #[.val (.long p1), .second, vI p2, vI p3, vI p4, vI p5, vI 2, vI sp, vI en, vR b22, vI d0, vI d1, vI d2, vR b282, vR b345, .val (.int (own_b ((en - sp) = (2 : Int32) ∧ Mw r0 d0 ∧ Mw r1 d1))), vI 1]) rfl ?_
      refine XS.iload Xh411.here hx rfl (D at_338) rfl ?_
      refine XS.iload Xh411.here hx rfl (D at_340) rfl ?_
      refine XS.icmpNo Xh411.here hx rfl (D at_342) rfl (teq (own_bt1 (p := (en - sp) = (2 : Int32) ∧ Mw r0 d0 ∧ Mw r1 d1) ⟨hc401, hc407, hc412⟩)).2 ?_
      refine XS.iconst Xh411.here hx rfl (D at_345) ?_
      refine XS.goto Xh411.here hx rfl (pc0 := 346) (pc' := 350) rfl (D at_346) (by decide) (by decide) ?_
      exact kt
     refine ownRetH Xh411 hS0 (by rw [Eq409]; exact (Nat.le_trans (Nat.le_trans (Nat.le_trans (Nat.le_trans (Nat.le_trans (Nat.le_trans (Nat.le_trans (Nat.le_trans (Nat.le_trans (Nat.le_trans (Nat.le_trans (Nat.le_trans (Nat.le_trans (Nat.le_refl _) E22.1) (Keep.of_wr W30).1) (Keep.of_wr W37).1) (Keep.of_wr W44).1) (Keep.of_wr W51).1) (Keep.of_wr W58).1) E282.1) E294.1) (Keep.of_wr W308).1) (Keep.of_wr W316).1) Kq329.1) E345.1) Kq369.1)) Bd.notSynchronized (v := some (.int (nar .boolean (1 : Int32)))) (fun h => by rw [Bd.returns] at h; cases h) ?_ (R383.trans ((by rw [Eq409]; exact CHv.at Xh411 hZ hEL R383.1))) (oLe rfl) (oLe rfl) (fun fs hr => retN Xh411 hx (t := .boolean) Bd.returns (by simp) (D at_350) hr)
     show (Q_law Z p1 p2 p3 p4 p5 G1 G3 h0 n0) (some (.int (nar .boolean (1 : Int32)))) T409.heap _
     rw [Eq409]
     exact ⟨rfl, Nh411⟩
    ·skip
     refine oTo T409 (fr_law m p1 p2 p3 p4 p5 350 (vI 2) (vI sp) (vI en) (vR b22) (vI d0) (vI d1) (vI d2) (vR b282) (vR b345) (.val (.int (own_b ((en - sp) = (2 : Int32) ∧ Mw r0 d0 ∧ Mw r1 d1)))) (vI 0) [(iV 1)]) (fun t kt => ?_) ?_
     ·refine XS.ifYes Xh411.here hx rfl (pc0 := 307) (pc' := 335) rfl (D at_307) rfl ((if0 _ _).trans (teq (own_bf0 hc412)).1) (by decide) (by decide) ?_
      refine XS.iconst Xh411.here hx rfl (D at_335) ?_
      refine XS.istore Xh411.here hx rfl (D at_336) rfl (l' := #[.val (.long p1), .second, vI p2, vI p3, vI p4, vI p5, vI 2, vI sp, vI en, vR b22, vI d0, vI d1, vI d2, vR b282, vR b345, .val (.int (own_b ((en - sp) = (2 : Int32) ∧ Mw r0 d0 ∧ Mw r1 d1))), vI 0]) rfl ?_
      refine XS.iload Xh411.here hx rfl (D at_338) rfl ?_
      refine XS.iload Xh411.here hx rfl (D at_340) rfl ?_
      refine XS.icmpNo Xh411.here hx rfl (D at_342) rfl (teq (own_bf0 (p := (en - sp) = (2 : Int32) ∧ Mw r0 d0 ∧ Mw r1 d1) (fun q => hc412 q.2.2))).2 ?_
      refine XS.iconst Xh411.here hx rfl (D at_345) ?_
      refine XS.goto Xh411.here hx rfl (pc0 := 346) (pc' := 350) rfl (D at_346) (by decide) (by decide) ?_
      exact kt
     refine ownRetH Xh411 hS0 (by rw [Eq409]; exact (Nat.le_trans (Nat.le_trans (Nat.le_trans (Nat.le_trans (Nat.le_trans (Nat.le_trans (Nat.le_trans (Nat.le_trans (Nat.le_trans (Nat.le_trans (Nat.le_trans (Nat.le_trans (Nat.le_trans (Nat.le_refl _) E22.1) (Keep.of_wr W30).1) (Keep.of_wr W37).1) (Keep.of_wr W44).1) (Keep.of_wr W51).1) (Keep.of_wr W58).1) E282.1) E294.1) (Keep.of_wr W308).1) (Keep.of_wr W316).1) Kq329.1) E345.1) Kq369.1)) Bd.notSynchronized (v := some (.int (nar .boolean (1 : Int32)))) (fun h => by rw [Bd.returns] at h; cases h) ?_ (R383.trans ((by rw [Eq409]; exact CHv.at Xh411 hZ hEL R383.1))) (oLe rfl) (oLe rfl) (fun fs hr => retN Xh411 hx (t := .boolean) Bd.returns (by simp) (D at_350) hr)
     show (Q_law Z p1 p2 p3 p4 p5 G1 G3 h0 n0) (some (.int (nar .boolean (1 : Int32)))) T409.heap _
     rw [Eq409]
     exact ⟨rfl, Nh411⟩
   ·skip
    refine oTo T404 (fr_law m p1 p2 p3 p4 p5 350 (vI 2) (vI sp) (vI en) (vR b22) (vI d0) (vI d1) (vI d2) (vR b282) (vR b345) (.val (.int (own_b ((en - sp) = (2 : Int32) ∧ Mw r0 d0 ∧ Mw r1 d1)))) (vI 0) [(iV 1)]) (fun t kt => ?_) ?_
    ·refine XS.ifYes Xh406.here hx rfl (pc0 := 286) (pc' := 335) rfl (D at_286) rfl ((if0 _ _).trans (teq (own_bf0 hc407)).1) (by decide) (by decide) ?_
     refine XS.iconst Xh406.here hx rfl (D at_335) ?_
     refine XS.istore Xh406.here hx rfl (D at_336) rfl (l' := #[.val (.long p1), .second, vI p2, vI p3, vI p4, vI p5, vI 2, vI sp, vI en, vR b22, vI d0, vI d1, vI d2, vR b282, vR b345, .val (.int (own_b ((en - sp) = (2 : Int32) ∧ Mw r0 d0 ∧ Mw r1 d1))), vI 0]) rfl ?_
     refine XS.iload Xh406.here hx rfl (D at_338) rfl ?_
     refine XS.iload Xh406.here hx rfl (D at_340) rfl ?_
     refine XS.icmpNo Xh406.here hx rfl (D at_342) rfl (teq (own_bf0 (p := (en - sp) = (2 : Int32) ∧ Mw r0 d0 ∧ Mw r1 d1) (fun q => hc407 q.2.1))).2 ?_
     refine XS.iconst Xh406.here hx rfl (D at_345) ?_
     refine XS.goto Xh406.here hx rfl (pc0 := 346) (pc' := 350) rfl (D at_346) (by decide) (by decide) ?_
     exact kt
    refine ownRetH Xh406 hS0 (by rw [Eq404]; exact (Nat.le_trans (Nat.le_trans (Nat.le_trans (Nat.le_trans (Nat.le_trans (Nat.le_trans (Nat.le_trans (Nat.le_trans (Nat.le_trans (Nat.le_trans (Nat.le_trans (Nat.le_trans (Nat.le_trans (Nat.le_refl _) E22.1) (Keep.of_wr W30).1) (Keep.of_wr W37).1) (Keep.of_wr W44).1) (Keep.of_wr W51).1) (Keep.of_wr W58).1) E282.1) E294.1) (Keep.of_wr W308).1) (Keep.of_wr W316).1) Kq329.1) E345.1) Kq369.1)) Bd.notSynchronized (v := some (.int (nar .boolean (1 : Int32)))) (fun h => by rw [Bd.returns] at h; cases h) ?_ (R383.trans ((by rw [Eq404]; exact CHv.at Xh406 hZ hEL R383.1))) (oLe rfl) (oLe rfl) (fun fs hr => retN Xh406 hx (t := .boolean) Bd.returns (by simp) (D at_350) hr)
    show (Q_law Z p1 p2 p3 p4 p5 G1 G3 h0 n0) (some (.int (nar .boolean (1 : Int32)))) T404.heap _
    rw [Eq404]
    exact ⟨rfl, Nh406⟩
  ·skip
   refine oTo T398 (fr_law m p1 p2 p3 p4 p5 350 (vI 2) (vI sp) (vI en) (vR b22) (vI d0) (vI d1) (vI d2) (vR b282) (vR b345) (.val (.int (own_b ((en - sp) = (2 : Int32) ∧ Mw r0 d0 ∧ Mw r1 d1)))) (vI 0) [(iV 1)]) (fun t kt => ?_) ?_
   ·refine XS.icmpYes Xh400.here hx rfl (pc0 := 267) (pc' := 335) rfl (D at_267) rfl (feq hc401).2 (by decide) (by decide) ?_
    refine XS.iconst Xh400.here hx rfl (D at_335) ?_
    refine XS.istore Xh400.here hx rfl (D at_336) rfl (l' := #[.val (.long p1), .second, vI p2, vI p3, vI p4, vI p5, vI 2, vI sp, vI en, vR b22, vI d0, vI d1, vI d2, vR b282, vR b345, .val (.int (own_b ((en - sp) = (2 : Int32) ∧ Mw r0 d0 ∧ Mw r1 d1))), vI 0]) rfl ?_
    refine XS.iload Xh400.here hx rfl (D at_338) rfl ?_
    refine XS.iload Xh400.here hx rfl (D at_340) rfl ?_
    refine XS.icmpNo Xh400.here hx rfl (D at_342) rfl (teq (own_bf0 (p := (en - sp) = (2 : Int32) ∧ Mw r0 d0 ∧ Mw r1 d1) (fun q => hc401 q.1))).2 ?_
    refine XS.iconst Xh400.here hx rfl (D at_345) ?_
    refine XS.goto Xh400.here hx rfl (pc0 := 346) (pc' := 350) rfl (D at_346) (by decide) (by decide) ?_
    exact kt
   refine ownRetH Xh400 hS0 (by rw [Eq398]; exact (Nat.le_trans (Nat.le_trans (Nat.le_trans (Nat.le_trans (Nat.le_trans (Nat.le_trans (Nat.le_trans (Nat.le_trans (Nat.le_trans (Nat.le_trans (Nat.le_trans (Nat.le_trans (Nat.le_trans (Nat.le_refl _) E22.1) (Keep.of_wr W30).1) (Keep.of_wr W37).1) (Keep.of_wr W44).1) (Keep.of_wr W51).1) (Keep.of_wr W58).1) E282.1) E294.1) (Keep.of_wr W308).1) (Keep.of_wr W316).1) Kq329.1) E345.1) Kq369.1)) Bd.notSynchronized (v := some (.int (nar .boolean (1 : Int32)))) (fun h => by rw [Bd.returns] at h; cases h) ?_ (R383.trans ((by rw [Eq398]; exact CHv.at Xh400 hZ hEL R383.1))) (oLe rfl) (oLe rfl) (fun fs hr => retN Xh400 hx (t := .boolean) Bd.returns (by simp) (D at_350) hr)
   show (Q_law Z p1 p2 p3 p4 p5 G1 G3 h0 n0) (some (.int (nar .boolean (1 : Int32)))) T398.heap _
   rw [Eq398]
   exact ⟨rfl, Nh400⟩
 ·skip
  show oA p e below _ T58 (fr_law m p1 p2 p3 p4 p5 132 (vI 3) (vI sp) (vI en) (vR b22) (vI d0) (vI d1) (vI d2) .unset .unset .unset .unset [])
  refine oTo T58 (fr_law m p1 p2 p3 p4 p5 209 (vI 3) (vI sp) (vI en) (vR b22) (vI d0) (vI d1) (vI d2) .unset .unset .unset .unset []) (fun t kt => ?_) ?_
  ·refine XS.iload Xh63.here hx rfl (D at_132) rfl ?_
   refine XS.ifYes Xh63.here hx rfl (pc0 := 134) (pc' := 152) rfl (D at_134) rfl ((if0 _ _).trans (feq ((by decide) : ¬ ((3 : Int32) = (0 : Int32)))).2) (by decide) (by decide) ?_
   refine XS.iload Xh63.here hx rfl (D at_152) rfl ?_
   refine XS.iconst Xh63.here hx rfl (D at_154) ?_
   refine XS.icmpYes Xh63.here hx rfl (pc0 := 155) (pc' := 178) rfl (D at_155) rfl (feq ((by decide) : ¬ ((3 : Int32) = (1 : Int32)))).2 (by decide) (by decide) ?_
   refine XS.iload Xh63.here hx rfl (D at_178) rfl ?_
   refine XS.iconst Xh63.here hx rfl (D at_180) ?_
   refine XS.icmpYes Xh63.here hx rfl (pc0 := 181) (pc' := 209) rfl (D at_181) rfl (feq ((by decide) : ¬ ((3 : Int32) = (2 : Int32)))).2 (by decide) (by decide) ?_
   exact kt
  obtain ⟨T417, h417, X417, e417, E417, A417, D417, -, st417⟩ := newO Xh63 hx hZ hown (Wd3 hw) (Wd4 hw) (Wd5 hw) e58 (g := (fr_law m p1 p2 p3 p4 p5 209 (vI 3) (vI sp) (vI en) (vR b22) (vI d0) (vI d1) (vI d2) .unset .unset .unset .unset [])) rfl (D at_209) (by decide) (by decide)
  obtain ⟨b417, g417⟩ : ∃ z, z = h58.size := ⟨_, rfl⟩
  rw [← g417] at A417 D417 st417
  have ne418 : b22 ≠ b417 := Nat.ne_of_lt (Nat.lt_of_lt_of_le V59.lt (Nat.le_of_eq g417.symm))
  have f420 := (Nat.le_trans (Nat.le_trans (Nat.le_trans (Nat.le_trans (Nat.le_trans (Nat.le_trans Z0 E22.1) (Keep.of_wr W30).1) (Keep.of_wr W37).1) (Keep.of_wr W44).1) (Keep.of_wr W51).1) (Keep.of_wr W58).1)
  have g419 : n0 ≤ b417 := Nat.le_trans f420 (Nat.le_of_eq g417.symm)
  have sf421 : Safe Z ownEL s.vm h58 b417 := Safe.new (Nat.le_of_eq g417.symm)
  have f423 := (Nat.le_trans (Nat.le_trans (Nat.le_trans (Nat.le_trans (Nat.le_trans (Nat.le_trans (Nat.le_refl h0.size) E22.1) (Keep.of_wr W30).1) (Keep.of_wr W37).1) (Keep.of_wr W44).1) (Keep.of_wr W51).1) (Keep.of_wr W58).1)
  have z422 : h0.size ≤ b417 := Nat.le_trans f423 (Nat.le_of_eq g417.symm)
  have R424 := R61.trans (CHr.ext E417 R61.1)
  have sf425 := Safe.ext E417 R61.1 sf62
  have sf426 := Safe.ext E417 R61.1 sf421
  have F427 : Fld Z h417 b417 "java/lang/String" "coder" "B" (iV 0) := D417 (Or.inr (Wd29 hw)) (ty := .byte) (by decide)
  have F428 : Fld Z h417 b417 "java/lang/String" "value" "[B" .null := D417 (Or.inr (Wd31 hw)) (ty := (.array .byte)) (by decide)
  refine ownBy st417 ?_
  clear st417
  show oA p e below _ T417 (fr_law m p1 p2 p3 p4 p5 212 (vI 3) (vI sp) (vI en) (vR b22) (vI d0) (vI d1) (vI d2) .unset .unset .unset .unset [(.ref b417)])
  refine oTo T417 (fr_law m p1 p2 p3 p4 p5 214 (vI 3) (vI sp) (vI en) (vR b22) (vI d0) (vI d1) (vI d2) .unset .unset .unset .unset [(iV 3), (.ref b417), (.ref b417)]) (fun t kt => ?_) ?_
  ·refine XS.dup X417.here hx rfl (D at_212) rfl rfl ?_
   refine XS.iconst X417.here hx rfl (D at_213) ?_
   exact kt
  obtain ⟨T429, h429, k429, X429, e429, E429, A429, st429⟩ := newP X417 hx hZ (aty := .char) (Wd1 hw) e417 (g := (fr_law m p1 p2 p3 p4 p5 214 (vI 3) (vI sp) (vI en) (vR b22) (vI d0) (vI d1) (vI d2) .unset .unset .unset .unset [(iV 3), (.ref b417), (.ref b417)])) rfl (D at_214) rfl (by decide : ¬ ((3 : Int32) < (0 : Int32))) (cap := 3) (by decide) (by decide) (by decide) (by decide)
  obtain ⟨b429, g429⟩ : ∃ z, z = h417.size := ⟨_, rfl⟩
  rw [← g429] at A429 st429
  have f431 := (V59.ext E417)
  have ne430 : b22 ≠ b429 := Nat.ne_of_lt (Nat.lt_of_lt_of_le f431.lt (Nat.le_of_eq g429.symm))
  have ne432 : b417 ≠ b429 := Nat.ne_of_lt (Nat.lt_of_lt_of_le A417.lt (Nat.le_of_eq g429.symm))
  have f434 := (Nat.le_trans f420 E417.1)
  have g433 : n0 ≤ b429 := Nat.le_trans f434 (Nat.le_of_eq g429.symm)
  have sf435 : Safe Z ownEL s.vm h417 b429 := Safe.new (Nat.le_of_eq g429.symm)
  have f437 := (Nat.le_trans f423 E417.1)
  have z436 : h0.size ≤ b429 := Nat.le_trans f437 (Nat.le_of_eq g429.symm)
  have R438 := R424.trans (CHr.ext E429 R424.1)
  have sf439 := Safe.ext E429 R424.1 sf425
  have sf440 := Safe.ext E429 R424.1 sf426
  have sf441 := Safe.ext E429 R424.1 sf435
  have V442 : Arv Z h429 b429 k429 .char (3 : Int32) [(iV 0), (iV 0), (iV 0)] (iV 0) := (Arv.new A429 (by decide)).pad (pad_rep [] (iV 0) 3)
  refine ownBy st429 ?_
  clear st429
  show oA p e below _ T429 (fr_law m p1 p2 p3 p4 p5 216 (vI 3) (vI sp) (vI en) (vR b22) (vI d0) (vI d1) (vI d2) .unset .unset .unset .unset [(.ref b429), (.ref b417), (.ref b417)])
  refine oTo T429 (fr_law m p1 p2 p3 p4 p5 220 (vI 3) (vI sp) (vI en) (vR b22) (vI d0) (vI d1) (vI d2) .unset .unset .unset .unset [(.int d0), (iV 0), (.ref b429), (.ref b429), (.ref b417), (.ref b417)]) (fun t kt => ?_) ?_
  ·refine XS.dup X429.here hx rfl (D at_216) rfl rfl ?_
   refine XS.iconst X429.here hx rfl (D at_217) ?_
   refine XS.iload X429.here hx rfl (D at_218) rfl ?_
   exact kt
  obtain ⟨cl443, Ar443, q443, S443, N443, H443, G443⟩ := id V442
  have hin443 : ¬ ((0 : Int32) < 0 ∨ cl443.slots.size ≤ ((0 : Int32)).toNatClampNeg) := inb_of S443 ⟨by decide, by decide⟩
  obtain ⟨T443, h443, X443, e443, W443, st443⟩ := stC X429 hx hZ e429 Ar443 (j := (0 : Int32)) hin443 (g := (fr_law m p1 p2 p3 p4 p5 220 (vI 3) (vI sp) (vI en) (vR b22) (vI d0) (vI d1) (vI d2) .unset .unset .unset .unset [(.int d0), (iV 0), (.ref b429), (.ref b429), (.ref b417), (.ref b417)])) rfl rfl (D at_220)
  have V444 : Arv Z h443 b429 k429 .char (3 : Int32) [(.int (nar .char d0)), (iV 0), (iV 0)] (iV 0) := Arv.set Ar443 q443 S443 N443 H443 G443 (fits_nar_char _) W443 0 rfl (oLe rfl)
  rw [own_c16 hr_d0] at V444
  clear hin443 G443 H443 N443 S443 q443 Ar443 cl443 V442
  have N445 := Fr.snoc X443 Nh63 g433
  have R446 := R438.trans (CHr.wr W443 sf441 R438.1)
  have sf447 := Safe.wr W443 sf441 R438.1 sf439
  have sf448 := Safe.wr W443 sf441 R438.1 sf440
  have sf449 := Safe.wr W443 sf441 R438.1 sf441
  obtain ⟨Lh450, Xh450, Nh450⟩ := oHd 3 12 X443 N445 rfl rfl
  refine ownBy st443 ?_
  clear st443
  show oA p e below _ T443 (fr_law m p1 p2 p3 p4 p5 221 (vI 3) (vI sp) (vI en) (vR b22) (vI d0) (vI d1) (vI d2) .unset .unset .unset .unset [(.ref b429), (.ref b417), (.ref b417)])
  refine oTo T443 (fr_law m p1 p2 p3 p4 p5 225 (vI 3) (vI sp) (vI en) (vR b22) (vI d0) (vI d1) (vI d2) .unset .unset .unset .unset [(.int d1), (iV 1), (.ref b429), (.ref b429), (.ref b417), (.ref b417)]) (fun t kt => ?_) ?_
  ·refine XS.dup Xh450.here hx rfl (D at_221) rfl rfl ?_
   refine XS.iconst Xh450.here hx rfl (D at_222) ?_
   refine XS.iload Xh450.here hx rfl (D at_223) rfl ?_
   exact kt
  obtain ⟨cl451, Ar451, q451, S451, N451, H451, G451⟩ := id V444
  have hin451 : ¬ ((1 : Int32) < 0 ∨ cl451.slots.size ≤ ((1 : Int32)).toNatClampNeg) := inb_of S451 ⟨by decide, by decide⟩
  obtain ⟨T451, h451, X451, e451, W451, st451⟩ := stC Xh450 hx hZ e443 Ar451 (j := (1 : Int32)) hin451 (g := (fr_law m p1 p2 p3 p4 p5 225 (vI 3) (vI sp) (vI en) (vR b22) (vI d0) (vI d1) (vI d2) .unset .unset .unset .unset [(.int d1), (iV 1), (.ref b429), (.ref b429), (.ref b417), (.ref b417)])) rfl rfl (D at_225)
  have V452 : Arv Z h451 b429 k429 .char (3 : Int32) [(.int d0), (.int (nar .char d1)), (iV 0)] (iV 0) := Arv.set Ar451 q451 S451 N451 H451 G451 (fits_nar_char _) W451 1 rfl (oLe rfl)
  rw [own_c16 hr_d1] at V452
  clear hin451 G451 H451 N451 S451 q451 Ar451 cl451 V444
  have N453 := Fr.snoc X451 Nh450 g433
  have R454 := R446.trans (CHr.wr W451 sf449 R446.1)
  have sf455 := Safe.wr W451 sf449 R446.1 sf447
  have sf456 := Safe.wr W451 sf449 R446.1 sf448
  have sf457 := Safe.wr W451 sf449 R446.1 sf449
  obtain ⟨Lh458, Xh458, Nh458⟩ := oHd 3 12 X451 N453 rfl rfl
  refine ownBy st451 ?_
  clear st451
  show oA p e below _ T451 (fr_law m p1 p2 p3 p4 p5 226 (vI 3) (vI sp) (vI en) (vR b22) (vI d0) (vI d1) (vI d2) .unset .unset .unset .unset [(.ref b429), (.ref b417), (.ref b417)])
  refine oTo T451 (fr_law m p1 p2 p3 p4 p5 230 (vI 3) (vI sp) (vI en) (vR b22) (vI d0) (vI d1) (vI d2) .unset .unset .unset .unset [(.int d2), (iV 2), (.ref b429), (.ref b429), (.ref b417), (.ref b417)]) (fun t kt => ?_) ?_
  ·refine XS.dup Xh458.here hx rfl (D at_226) rfl rfl ?_
   refine XS.iconst Xh458.here hx rfl (D at_227) ?_
   refine XS.iload Xh458.here hx rfl (D at_228) rfl ?_
   exact kt
  obtain ⟨cl459, Ar459, q459, S459, N459, H459, G459⟩ := id V452
  have hin459 : ¬ ((2 : Int32) < 0 ∨ cl459.slots.size ≤ ((2 : Int32)).toNatClampNeg) := inb_of S459 ⟨by decide, by decide⟩
  obtain ⟨T459, h459, X459, e459, W459, st459⟩ := stC Xh458 hx hZ e451 Ar459 (j := (2 : Int32)) hin459 (g := (fr_law m p1 p2 p3 p4 p5 230 (vI 3) (vI sp) (vI en) (vR b22) (vI d0) (vI d1) (vI d2) .unset .unset .unset .unset [(.int d2), (iV 2), (.ref b429), (.ref b429), (.ref b417), (.ref b417)])) rfl rfl (D at_230)
  have V460 : Arv Z h459 b429 k429 .char (3 : Int32) [(.int d0), (.int d1), (.int (nar .char d2))] (iV 0) := Arv.set Ar459 q459 S459 N459 H459 G459 (fits_nar_char _) W459 2 rfl (oLe rfl)
  rw [own_c16 hr_d2] at V460
  clear hin459 G459 H459 N459 S459 q459 Ar459 cl459 V452
  have N461 := Fr.snoc X459 Nh458 g433
  have R462 := R454.trans (CHr.wr W459 sf457 R454.1)
  have sf463 := Safe.wr W459 sf457 R454.1 sf455
  have sf464 := Safe.wr W459 sf457 R454.1 sf456
  have sf465 := Safe.wr W459 sf457 R454.1 sf457
  obtain ⟨Lh466, Xh466, Nh466⟩ := oHd 3 12 X459 N461 rfl rfl
  refine ownBy st459 ?_
  clear st459
  show oA p e below _ T459 (fr_law m p1 p2 p3 p4 p5 231 (vI 3) (vI sp) (vI en) (vR b22) (vI d0) (vI d1) (vI d2) .unset .unset .unset .unset [(.ref b429), (.ref b417), (.ref b417)])
  have f467 := ((((A417.ext E429).wr W443).wr W451).wr W459)
  have f468 := ((((F428.ext E429).other W443 (Or.inl ne432)).other W451 (Or.inl ne432)).other W459 (Or.inl ne432))
  have f469 := ((((F427.ext E429).other W443 (Or.inl ne432)).other W451 (Or.inl ne432)).other W459 (Or.inl ne432))
  have f470 := (((((((((((X00.ext E22).wr W30 g23).wr W37 g23).wr W44 g23).wr W51 g23).wr W58 g23).ext E417).ext E429).wr W443 g433).wr W451 g433).wr W459 g433)
  have f471 := (Nat.le_trans (Nat.le_trans (Nat.le_trans (Nat.le_trans f434 E429.1) (Keep.of_wr W443).1) (Keep.of_wr W451).1) (Keep.of_wr W459).1)
  obtain ⟨vv472, _, ⟨T472, L472, k472, n472⟩, -, X472, ⟨Lc472, hQ472, l472, y472, z472⟩, st472⟩ := Xh466.specialBack hx (y := yM1) rfl hown (mvT hZ (Wd6 hw)) (mvT hZ (Wd7 hw)) (mvT hZ (Wd8 hw)) (by decide) (backOf (W := 1) (c_inC_3 l Z a0 hw [] b417 b429 k429 d0 d1 d2 _ G1 h459 n0 f471 f467 f468 f469 g419 ne432 V460 hr_d0 hr_d1 hr_d2 O2 P5 SA SHI SLO f470) hZ (Wd8 hw) (Wd5 hw) (by decide) (by decide)) (g := (fr_law m p1 p2 p3 p4 p5 231 (vI 3) (vI sp) (vI en) (vR b22) (vI d0) (vI d1) (vI d2) .unset .unset .unset .unset [(.ref b429), (.ref b417), (.ref b417)])) rfl (by rw [hml]; rfl) (Steps.refl _) (a := b417) (argsL := [(.ref b429)]) (rest := [(.ref b417)]) (lenOf pd_23 rfl) rfl (by show 2 * 0 + _ ≤ _; exact Nat.le_of_eq rfl) (D at_231) (fun _ _ => ⟨rfl, e459, (by decide : 3 + 2 ≤ _), (by decide : 12 + 9 ≤ _)⟩)
  dsimp only [Pt.U, Pt.locs, Pt.cells, Pt.slots] at X472 l472 y472 z472 st472 hQ472
  subst l472 y472 z472
  obtain ⟨rfl, Nq472, Kq472, Eq472, t472, kb472, cd472, z472, vs472, zq472, Vq472, Cq472, Aq472, hrel472⟩ := hQ472
  have f474 := ((((f431.ext E429).other W443 ne430).other W451 ne430).other W459 ne430)
  have ne473 : b22 ≠ t472 := Nat.ne_of_lt (Nat.lt_of_lt_of_le f474.lt zq472)
  have ne475 : b417 ≠ t472 := Nat.ne_of_lt (Nat.lt_of_lt_of_le f467.lt zq472)
  have ne476 : b429 ≠ t472 := Nat.ne_of_lt (Nat.lt_of_lt_of_le V460.lt zq472)
  have g477 : n0 ≤ t472 := Nat.le_trans f471 zq472
  have sf478 : Safe Z ownEL s.vm h459 t472 := Safe.new zq472
  have f480 := (Nat.le_trans (Nat.le_trans (Nat.le_trans (Nat.le_trans f437 E429.1) (Keep.of_wr W443).1) (Keep.of_wr W451).1) (Keep.of_wr W459).1)
  have z479 : h0.size ≤ t472 := Nat.le_trans f480 zq472
  have N481 := Fr.app Nh466 Nq472
  have R482 := R462.trans (CHr.keep Kq472 (sfS sf464 sf0) R462.1)
  have sf483 := Safe.keep Kq472 (sfS sf464 sf0) R462.1 sf463
  have sf484 := Safe.keep Kq472 (sfS sf464 sf0) R462.1 sf464
  have sf485 := Safe.keep Kq472 (sfS sf464 sf0) R462.1 sf465
  have sf486 := Safe.keep Kq472 (sfS sf464 sf0) R462.1 sf478
  obtain ⟨Lh487, Xh487, Nh487⟩ := oHd 5 21 X472 N481 rfl rfl
  refine ownSt st472 ?_
  clear st472
  show oA p e below _ T472 (fr_law m p1 p2 p3 p4 p5 234 (vI 3) (vI sp) (vI en) (vR b22) (vI d0) (vI d1) (vI d2) .unset .unset .unset .unset [(.ref b417)])
  refine oTo T472 (fr_law m p1 p2 p3 p4 p5 236 (vI 3) (vI sp) (vI en) (vR b22) (vI d0) (vI d1) (vI d2) (vR b417) .unset .unset .unset []) (fun t kt => ?_) ?_
  ·refine XS.astore Xh487.here hx rfl (D at_234) rfl rfl (l' := #[.val (.long p1), .second, vI p2, vI p3, vI p4, vI p5, vI 3, vI sp, vI en, vR b22, vI d0, vI d1, vI d2, vR b417, .unset, .unset, .unset]) rfl ?_
   exact kt
  obtain ⟨T488, h488, X488, e488, E488, A488, D488, -, st488⟩ := newO Xh487 hx hZ hown (Wd3 hw) (Wd4 hw) (Wd5 hw) rfl (g := (fr_law m p1 p2 p3 p4 p5 236 (vI 3) (vI sp) (vI en) (vR b22) (vI d0) (vI d1) (vI d2) (vR b417) .unset .unset .unset [])) rfl (D at_236) (by decide) (by decide)
  obtain ⟨b488, g488⟩ : ∃ z, z = T472.heap.size := ⟨_, rfl⟩
  rw [← g488] at A488 D488 st488
  have f490 := (f474.keep Kq472 (ninS ne418 nin0))
  have ne489 : b22 ≠ b488 := Nat.ne_of_lt (Nat.lt_of_lt_of_le f490.lt (Nat.le_of_eq g488.symm))
  have f492 := (f467.keep Kq472)
  have ne491 : b417 ≠ b488 := Nat.ne_of_lt (Nat.lt_of_lt_of_le f492.lt (Nat.le_of_eq g488.symm))
  have f494 := (V460.keep Kq472 (ninS (Ne.symm ne432) nin0))
  have ne493 : b429 ≠ b488 := Nat.ne_of_lt (Nat.lt_of_lt_of_le f494.lt (Nat.le_of_eq g488.symm))
  have ne495 : t472 ≠ b488 := Nat.ne_of_lt (Nat.lt_of_lt_of_le Aq472.lt (Nat.le_of_eq g488.symm))
  have f497 := (Nat.le_trans f471 Kq472.1)
  have g496 : n0 ≤ b488 := Nat.le_trans f497 (Nat.le_of_eq g488.symm)
  have sf498 : Safe Z ownEL s.vm T472.heap b488 := Safe.new (Nat.le_of_eq g488.symm)
  have f500 := (Nat.le_trans f480 Kq472.1)
  have z499 : h0.size ≤ b488 := Nat.le_trans f500 (Nat.le_of_eq g488.symm)
  have R501 := R482.trans (CHr.ext E488 R482.1)
  have sf502 := Safe.ext E488 R482.1 sf483
  have sf503 := Safe.ext E488 R482.1 sf484
  have sf504 := Safe.ext E488 R482.1 sf485
  have sf505 := Safe.ext E488 R482.1 sf486
  have sf506 := Safe.ext E488 R482.1 sf498
  have F507 : Fld Z h488 b488 "java/lang/String" "coder" "B" (iV 0) := D488 (Or.inr (Wd29 hw)) (ty := .byte) (by decide)
  have F508 : Fld Z h488 b488 "java/lang/String" "value" "[B" .null := D488 (Or.inr (Wd31 hw)) (ty := (.array .byte)) (by decide)
  refine ownBy st488 ?_
  clear st488
  show oA p e below _ T488 (fr_law m p1 p2 p3 p4 p5 239 (vI 3) (vI sp) (vI en) (vR b22) (vI d0) (vI d1) (vI d2) (vR b417) .unset .unset .unset [(.ref b488)])
  refine oTo T488 (fr_law m p1 p2 p3 p4 p5 242 (vI 3) (vI sp) (vI en) (vR b22) (vI d0) (vI d1) (vI d2) (vR b417) .unset .unset .unset [(.ref b22), (.ref b488), (.ref b488)]) (fun t kt => ?_) ?_
  ·refine XS.dup X488.here hx rfl (D at_239) rfl rfl ?_
   refine XS.aload X488.here hx rfl (D at_240) rfl rfl ?_
   exact kt
  have f509 := (f490.ext E488)
  have f510 := ((f470.keep Kq472 (allS g419 all0)).ext E488)
  have f511 := (Nat.le_trans f497 E488.1)
  obtain ⟨vv512, _, ⟨T512, L512, k512, n512⟩, -, X512, ⟨Lc512, hQ512, l512, y512, z512⟩, st512⟩ := X488.specialBack hx (y := yM1) rfl hown (mvT hZ (Wd6 hw)) (mvT hZ (Wd7 hw)) (mvT hZ (Wd8 hw)) (by decide) (backOf (W := 1) (c_inC_5 l Z a0 hw [] b488 b22 k22 u0 u1 u2 u3 u4 _ G1 h488 n0 f511 A488 F508 F507 g496 (Ne.symm ne489) f509 hr_u0 hr_u1 hr_u2 hr_u3 hr_u4 O2 P5 SA SHI SLO f510) hZ (Wd8 hw) (Wd5 hw) (by decide) (by decide)) (g := (fr_law m p1 p2 p3 p4 p5 242 (vI 3) (vI sp) (vI en) (vR b22) (vI d0) (vI d1) (vI d2) (vR b417) .unset .unset .unset [(.ref b22), (.ref b488), (.ref b488)])) rfl (by rw [hml]; rfl) (Steps.refl _) (a := b488) (argsL := [(.ref b22)]) (rest := [(.ref b488)]) (lenOf pd_23 rfl) rfl (by show 2 * 0 + _ ≤ _; exact Nat.le_of_eq rfl) (D at_242) (fun _ _ => ⟨rfl, e488, (by decide : 6 + 2 ≤ _), (by decide : 25 + 15 ≤ _)⟩)
  dsimp only [Pt.U, Pt.locs, Pt.cells, Pt.slots] at X512 l512 y512 z512 st512 hQ512
  subst l512 y512 z512
  obtain ⟨rfl, Nq512, Kq512, Eq512, t512, kb512, cd512, z512, vs512, zq512, Vq512, Cq512, Aq512, hrel512⟩ := hQ512
  have ne513 : b22 ≠ t512 := Nat.ne_of_lt (Nat.lt_of_lt_of_le f509.lt zq512)
  have f515 := (f492.ext E488)
  have ne514 : b417 ≠ t512 := Nat.ne_of_lt (Nat.lt_of_lt_of_le f515.lt zq512)
  have f517 := (f494.ext E488)
  have ne516 : b429 ≠ t512 := Nat.ne_of_lt (Nat.lt_of_lt_of_le f517.lt zq512)
  have f519 := (Aq472.ext E488)
  have ne518 : t472 ≠ t512 := Nat.ne_of_lt (Nat.lt_of_lt_of_le f519.lt zq512)
  have ne520 : b488 ≠ t512 := Nat.ne_of_lt (Nat.lt_of_lt_of_le A488.lt zq512)
  have g521 : n0 ≤ t512 := Nat.le_trans f511 zq512
  have sf522 : Safe Z ownEL s.vm h488 t512 := Safe.new zq512
  have f524 := (Nat.le_trans f500 E488.1)
  have z523 : h0.size ≤ t512 := Nat.le_trans f524 zq512
  have N525 := Fr.app Nh487 Nq512
  have R526 := R501.trans (CHr.keep Kq512 (sfS sf506 sf0) R501.1)
  have sf527 := Safe.keep Kq512 (sfS sf506 sf0) R501.1 sf502
  have sf528 := Safe.keep Kq512 (sfS sf506 sf0) R501.1 sf503
  have sf529 := Safe.keep Kq512 (sfS sf506 sf0) R501.1 sf504
  have sf530 := Safe.keep Kq512 (sfS sf506 sf0) R501.1 sf505
  have sf531 := Safe.keep Kq512 (sfS sf506 sf0) R501.1 sf506
  have sf532 := Safe.keep Kq512 (sfS sf506 sf0) R501.1 sf522
  obtain ⟨Lh533, Xh533, Nh533⟩ := oHd 8 40 X512 N525 rfl rfl
  refine ownSt st512 ?_
  clear st512
  show oA p e below _ T512 (fr_law m p1 p2 p3 p4 p5 245 (vI 3) (vI sp) (vI en) (vR b22) (vI d0) (vI d1) (vI d2) (vR b417) .unset .unset .unset [(.ref b488)])
  have f534 := (A488.keep Kq512)
  refine oTo T512 (fr_law m p1 p2 p3 p4 p5 255 (vI 3) (vI sp) (vI en) (vR b22) (vI d0) (vI d1) (vI d2) (vR b417) (vR b488) .unset .unset [(.ref b417), (.int en), (.int sp), (.ref b488)]) (fun t kt => ?_) ?_
  ·refine XS.astore Xh533.here hx rfl (D at_245) rfl rfl (l' := #[.val (.long p1), .second, vI p2, vI p3, vI p4, vI p5, vI 3, vI sp, vI en, vR b22, vI d0, vI d1, vI d2, vR b417, vR b488, .unset, .unset]) rfl ?_
   refine XS.aload Xh533.here hx rfl (D at_247) rfl rfl ?_
   refine XS.iload Xh533.here hx rfl (D at_249) rfl ?_
   refine XS.iload Xh533.here hx rfl (D at_251) rfl ?_
   refine XS.aload Xh533.here hx rfl (D at_253) rfl rfl ?_
   exact kt
  obtain ⟨r0, kk0, kq0, hP0, hr0, hq0, hg0⟩ := own_at hrel512 hr_u0 hr_u1 hr_u2 hr_u3 hr_u4 (i := sp) (by rcases hst with rfl | rfl | rfl <;> decide)
  rw [← Int32.add_zero sp] at hP0
  obtain ⟨r1, kk1, kq1, hP1, hr1, hq1, hg1⟩ := own_at hrel512 hr_u0 hr_u1 hr_u2 hr_u3 hr_u4 (i := (sp + (1 : Int32))) (by rcases hst with rfl | rfl | rfl <;> decide)
  obtain ⟨r2, kk2, kq2, hP2, hr2, hq2, hg2⟩ := own_at hrel512 hr_u0 hr_u1 hr_u2 hr_u3 hr_u4 (i := (sp + (2 : Int32))) (by rcases hst with rfl | rfl | rfl <;> decide)
  have f535 := (f515.keep Kq512)
  have f536 := ((Vq472.ext E488).keep Kq512 (ninS ne491 nin0))
  have f537 := ((Cq472.ext E488).keep Kq512 (ninS ne491 nin0))
  have f538 := (f519.keep Kq512 (ninS ne495 nin0))
  have f539 := (f510.keep Kq512 (allS g496 all0))
  have f540 := (Nat.le_trans f511 Kq512.1)
  obtain ⟨vv541, _, ⟨T541, L541, k541, n541⟩, -, X541, ⟨Lc541, hQ541, l541, y541, z541⟩, st541⟩ := Jvm.LawKit.callS Xh533 hx (y := yM21) hown (mvT hZ (Wd32 hw)) (mvT hZ (Wd33 hw)) (mvT hZ (Wd34 hw)) (mvT hZ (Wd35 hw)) (by decide) (backOf (W := 0) (c_iw3 l Z a0 hw [] b488 t512 kb512 cd512 z512 vs512 b417 t472 kb472 cd472 z472 vs472 d0 d1 d2 r0 r1 r2 kk0 kk1 kk2 kq0 kq1 kq2 sp en G1 G3 T512.heap n0 f540 f534 Vq512 Cq512 Aq512 f535 f536 f537 f538 hrel472 hr_d0 hr_d1 hr_d2 hr0 hr1 hr2 hP0 hP1 hP2 O2 P5 SA SHI SLO O4 rG3 f539) hZ (Wd35 hw) (Wd34 hw) (by decide) (by decide)) (g := (fr_law m p1 p2 p3 p4 p5 255 (vI 3) (vI sp) (vI en) (vR b22) (vI d0) (vI d1) (vI d2) (vR b417) (vR b488) .unset .unset [(.ref b417), (.int en), (.int sp), (.ref b488)])) rfl (by rw [hml]; rfl) (argsL := [(.ref b488), (.int sp), (.int en), (.ref b417)]) (rest := []) (lenOf pd_24 rfl) rfl (by show 2 * 0 + _ ≤ _; exact Nat.le_of_eq rfl) (D at_255) (fun _ _ => ⟨rfl, rfl, (by decide : 8 + 0 ≤ _), (by decide : 40 + 0 ≤ _)⟩)
  dsimp only [Pt.U, Pt.locs, Pt.cells, Pt.slots] at X541 l541 y541 z541 st541 hQ541
  subst l541 y541 z541
  obtain ⟨rfl, Nq541, Eq541⟩ := hQ541
  have N542 := Fr.app Nh533 Nq541
  obtain ⟨Lh543, Xh543, Nh543⟩ := oHd 8 40 X541 N542 rfl rfl
  refine ownBy st541 ?_
  clear st541
  show oA p e below _ T541 (fr_law m p1 p2 p3 p4 p5 258 (vI 3) (vI sp) (vI en) (vR b22) (vI d0) (vI d1) (vI d2) (vR b417) (vR b488) .unset .unset [(.int (own_b ((en - sp) = (3 : Int32) ∧ Mw r0 d0 ∧ Mw r1 d1 ∧ Mw r2 d2)))])
  refine oTo T541 (fr_law m p1 p2 p3 p4 p5 267 (vI 3) (vI sp) (vI en) (vR b22) (vI d0) (vI d1) (vI d2) (vR b417) (vR b488) (.val (.int (own_b ((en - sp) = (3 : Int32) ∧ Mw r0 d0 ∧ Mw r1 d1 ∧ Mw r2 d2)))) .unset [(iV 3), (.int (en - sp))]) (fun t kt => ?_) ?_
  ·refine XS.istore Xh543.here hx rfl (D at_258) rfl (l' := #[.val (.long p1), .second, vI p2, vI p3, vI p4, vI p5, vI 3, vI sp, vI en, vR b22, vI d0, vI d1, vI d2, vR b417, vR b488, .val (.int (own_b ((en - sp) = (3 : Int32) ∧ Mw r0 d0 ∧ Mw r1 d1 ∧ Mw r2 d2))), .unset]) rfl ?_
   refine XS.iload Xh543.here hx rfl (D at_260) rfl ?_
   refine XS.iload Xh543.here hx rfl (D at_262) rfl ?_
   refine XS.isub Xh543.here hx rfl (D at_264) rfl ?_
   refine XS.iload Xh543.here hx rfl (D at_265) rfl ?_
   exact kt
  by_cases hc544 : (en - sp) = (3 : Int32)
  ·skip
   refine oTo T541 (fr_law m p1 p2 p3 p4 p5 280 (vI 3) (vI sp) (vI en) (vR b22) (vI d0) (vI d1) (vI d2) (vR b417) (vR b488) (.val (.int (own_b ((en - sp) = (3 : Int32) ∧ Mw r0 d0 ∧ Mw r1 d1 ∧ Mw r2 d2)))) .unset [(.int sp), (.ref b22)]) (fun t kt => ?_) ?_
   ·refine XS.icmpNo Xh543.here hx rfl (D at_267) rfl (teq hc544).2 ?_
    refine XS.iload Xh543.here hx rfl (D at_270) rfl ?_
    refine XS.iconst Xh543.here hx rfl (D at_272) ?_
    refine XS.icmpNo Xh543.here hx rfl (D at_273) rfl (flt ((by decide) : ¬ ((3 : Int32) < (1 : Int32)))).1 ?_
    refine XS.aload Xh543.here hx rfl (D at_276) rfl rfl ?_
    refine XS.iload Xh543.here hx rfl (D at_278) rfl ?_
    exact kt
   have f545 := (f509.keep Kq512 (ninS ne489 nin0))
   obtain ⟨cl546, Ar546, q546, S546, N546, H546, G546⟩ := id f545
   have hin546 : ¬ (sp < 0 ∨ cl546.slots.size ≤ (sp).toNatClampNeg) := inb_of S546 hq0
   have hat546 : cl546.slots[(sp).toNatClampNeg]? = some (.int r0) := H546.at hin546 hg0
   have st546 := Xh543.caload hx (j := sp) (v := (.int r0)) (by rw [Eq541]; exact Ar546.1) (State.isArrayOf_alike hZ.alike Ar546.2.1) Ar546.2.2 hin546 hat546 (g := (fr_law m p1 p2 p3 p4 p5 280 (vI 3) (vI sp) (vI en) (vR b22) (vI d0) (vI d1) (vI d2) (vR b417) (vR b488) (.val (.int (own_b ((en - sp) = (3 : Int32) ∧ Mw r0 d0 ∧ Mw r1 d1 ∧ Mw r2 d2)))) .unset [(.int sp), (.ref b22)])) rfl rfl (D at_280)
   refine ownBy st546 ?_
   show oA p e below _ T541 (fr_law m p1 p2 p3 p4 p5 281 (vI 3) (vI sp) (vI en) (vR b22) (vI d0) (vI d1) (vI d2) (vR b417) (vR b488) (.val (.int (own_b ((en - sp) = (3 : Int32) ∧ Mw r0 d0 ∧ Mw r1 d1 ∧ Mw r2 d2)))) .unset [(.int r0)])
   refine oTo T541 (fr_law m p1 p2 p3 p4 p5 283 (vI 3) (vI sp) (vI en) (vR b22) (vI d0) (vI d1) (vI d2) (vR b417) (vR b488) (.val (.int (own_b ((en - sp) = (3 : Int32) ∧ Mw r0 d0 ∧ Mw r1 d1 ∧ Mw r2 d2)))) .unset [(.int d0), (.int r0)]) (fun t kt => ?_) ?_
   ·refine XS.iload Xh543.here hx rfl (D at_281) rfl ?_
    exact kt
   obtain ⟨vv547, _, ⟨T547, L547, k547, n547⟩, -, X547, ⟨Lc547, hQ547, l547, y547, z547⟩, st547⟩ := Jvm.LawKit.callS Xh543 hx (y := yM20) hown (mvT hZ (Wd68 hw)) (mvT hZ (Wd69 hw)) (mvT hZ (Wd70 hw)) (mvT hZ (Wd71 hw)) (by decide) (backOf (W := 0) (c_mm l Z a0 hw [] r0 d0 T512.heap n0 f540 ) hZ (Wd71 hw) (Wd70 hw) (by decide) (by decide)) (g := (fr_law m p1 p2 p3 p4 p5 283 (vI 3) (vI sp) (vI en) (vR b22) (vI d0) (vI d1) (vI d2) (vR b417) (vR b488) (.val (.int (own_b ((en - sp) = (3 : Int32) ∧ Mw r0 d0 ∧ Mw r1 d1 ∧ Mw r2 d2)))) .unset [(.int d0), (.int r0)])) rfl (by rw [hml]; rfl) (argsL := [(.int r0), (.int d0)]) (rest := []) (lenOf pd_25 rfl) rfl (by show 2 * 0 + _ ≤ _; exact Nat.le_of_eq rfl) (D at_283) (fun _ _ => ⟨rfl, Eq541, (by decide : 8 + 0 ≤ _), (by decide : 40 + 0 ≤ _)⟩)
   dsimp only [Pt.U, Pt.locs, Pt.cells, Pt.slots] at X547 l547 y547 z547 st547 hQ547
   subst l547 y547 z547
   obtain ⟨rfl, Nq547, Eq547⟩ := hQ547
   have N548 := Fr.app Nh543 Nq547
   obtain ⟨Lh549, Xh549, Nh549⟩ := oHd 8 40 X547 N548 rfl rfl
   refine ownBy st547 ?_
   clear st547
   show oA p e below _ T547 (fr_law m p1 p2 p3 p4 p5 286 (vI 3) (vI sp) (vI en) (vR b22) (vI d0) (vI d1) (vI d2) (vR b417) (vR b488) (.val (.int (own_b ((en - sp) = (3 : Int32) ∧ Mw r0 d0 ∧ Mw r1 d1 ∧ Mw r2 d2)))) .unset [(.int (own_b (Mw r0 d0)))])
   by_cases hc550 : Mw r0 d0
   ·skip
    refine oTo T547 (fr_law m p1 p2 p3 p4 p5 301 (vI 3) (vI sp) (vI en) (vR b22) (vI d0) (vI d1) (vI d2) (vR b417) (vR b488) (.val (.int (own_b ((en - sp) = (3 : Int32) ∧ Mw r0 d0 ∧ Mw r1 d1 ∧ Mw r2 d2)))) .unset [(.int (sp + (1 : Int32))), (.ref b22)]) (fun t kt => ?_) ?_
    ·refine XS.ifNo Xh549.here hx rfl (D at_286) rfl ((if0 _ _).trans (feq (own_bt0 hc550)).1) ?_
     refine XS.iload Xh549.here hx rfl (D at_289) rfl ?_
     refine XS.iconst Xh549.here hx rfl (D at_291) ?_
     refine XS.icmpNo Xh549.here hx rfl (D at_292) rfl (flt ((by decide) : ¬ ((3 : Int32) < (2 : Int32)))).1 ?_
     refine XS.aload Xh549.here hx rfl (D at_295) rfl rfl ?_
     refine XS.iload Xh549.here hx rfl (D at_297) rfl ?_
     refine XS.iconst Xh549.here hx rfl (D at_299) ?_
     refine XS.iadd Xh549.here hx rfl (D at_300) rfl ?_
     exact kt
    obtain ⟨cl551, Ar551, q551, S551, N551, H551, G551⟩ := id f545
    have hin551 : ¬ ((sp + (1 : Int32)) < 0 ∨ cl551.slots.size ≤ ((sp + (1 : Int32))).toNatClampNeg) := inb_of S551 hq1
    have hat551 : cl551.slots[((sp + (1 : Int32))).toNatClampNeg]? = some (.int r1) := H551.at hin551 hg1
    have st551 := Xh549.caload hx (j := (sp + (1 : Int32))) (v := (.int r1)) (by rw [Eq547]; exact Ar551.1) (State.isArrayOf_alike hZ.alike Ar551.2.1) Ar551.2.2 hin551 hat551 (g := (fr_law m p1 p2 p3 p4 p5 301 (vI 3) (vI sp) (vI en) (vR b22) (vI d0) (vI d1) (vI d2) (vR b417) (vR b488) (.val (.int (own_b ((en - sp) = (3 : Int32) ∧ Mw r0 d0 ∧ Mw r1 d1 ∧ Mw r2 d2)))) .unset [(.int (sp + (1 : Int32))), (.ref b22)])) rfl rfl (D at_301)
    refine ownBy st551 ?_
    show oA p e below _ T547 (fr_law m p1 p2 p3 p4 p5 302 (vI 3) (vI sp) (vI en) (vR b22) (vI d0) (vI d1) (vI d2) (vR b417) (vR b488) (.val (.int (own_b ((en - sp) = (3 : Int32) ∧ Mw r0 d0 ∧ Mw r1 d1 ∧ Mw r2 d2)))) .unset [(.int r1)])
    refine oTo T547 (fr_law m p1 p2 p3 p4 p5 304 (vI 3) (vI sp) (vI en) (vR b22) (vI d0) (vI d1) (vI d2) (vR b417) (vR b488) (.val (.int (own_b ((en - sp) = (3 : Int32) ∧ Mw r0 d0 ∧ Mw r1 d1 ∧ Mw r2 d2)))) .unset [(.int d1), (.int r1)]) (fun t kt => ?_) ?_
    ·refine XS.iload Xh549.here hx rfl (D at_302) rfl ?_
     exact kt
    obtain ⟨vv552, _, ⟨T552, L552, k552, n552⟩, -, X552, ⟨Lc552, hQ552, l552, y552, z552⟩, st552⟩ := Jvm.LawKit.callS Xh549 hx (y := yM20) hown (mvT hZ (Wd68 hw)) (mvT hZ (Wd69 hw)) (mvT hZ (Wd70 hw)) (mvT hZ (Wd71 hw)) (by decide) (backOf (W := 0) (c_mm l Z a0 hw [] r1 d1 T512.heap n0 f540 ) hZ (Wd71 hw) (Wd70 hw) (by decide) (by decide)) (g := (fr_law m p1 p2 p3 p4 p5 304 (vI 3) (vI sp) (vI en) (vR b22) (vI d0) (vI d1) (vI d2) (vR b417) (vR b488) (.val (.int (own_b ((en - sp) = (3 : Int32) ∧ Mw r0 d0 ∧ Mw r1 d1 ∧ Mw r2 d2)))) .unset [(.int d1), (.int r1)])) rfl (by rw [hml]; rfl) (argsL := [(.int r1), (.int d1)]) (rest := []) (lenOf pd_25 rfl) rfl (by show 2 * 0 + _ ≤ _; exact Nat.le_of_eq rfl) (D at_304) (fun _ _ => ⟨rfl, Eq547, (by decide : 8 + 0 ≤ _), (by decide : 40 + 0 ≤ _)⟩)
    dsimp only [Pt.U, Pt.locs, Pt.cells, Pt.slots] at X552 l552 y552 z552 st552 hQ552
    subst l552 y552 z552
    obtain ⟨rfl, Nq552, Eq552⟩ := hQ552
    have N553 := Fr.app Nh549 Nq552
    obtain ⟨Lh554, Xh554, Nh554⟩ := oHd 8 40 X552 N553 rfl rfl
    refine ownBy st552 ?_
    clear st552
    show oA p e below _ T552 (fr_law m p1 p2 p3 p4 p5 307 (vI 3) (vI sp) (vI en) (vR b22) (vI d0) (vI d1) (vI d2) (vR b417) (vR b488) (.val (.int (own_b ((en - sp) = (3 : Int32) ∧ Mw r0 d0 ∧ Mw r1 d1 ∧ Mw r2 d2)))) .unset [(.int (own_b (Mw r1 d1)))])
    by_cases hc555 : Mw r1 d1
    ·skip
     refine oTo T552 (fr_law m p1 p2 p3 p4 p5 322 (vI 3) (vI sp) (vI en) (vR b22) (vI d0) (vI d1) (vI d2) (vR b417) (vR b488) (.val (.int (own_b ((en - sp) = (3 : Int32) ∧ Mw r0 d0 ∧ Mw r1 d1 ∧ Mw r2 d2)))) .unset [(.int (sp + (2 : Int32))), (.ref b22)]) (fun t kt => ?_) ?_
     ·refine XS.ifNo Xh554.here hx rfl (D at_307) rfl ((if0 _ _).trans (feq (own_bt0 hc555)).1) ?_
      refine XS.iload Xh554.here hx rfl (D at_310) rfl ?_
      refine XS.iconst Xh554.here hx rfl (D at_312) ?_
      refine XS.icmpNo Xh554.here hx rfl (D at_313) rfl (flt ((by decide) : ¬ ((3 : Int32) < (3 : Int32)))).1 ?_
      refine XS.aload Xh554.here hx rfl (D at_316) rfl rfl ?_
      refine XS.iload Xh554.here hx rfl (D at_318) rfl ?_
      refine XS.iconst Xh554.here hx rfl (D at_320) ?_
      refine XS.iadd Xh554.here hx rfl (D at_321) rfl ?_
      exact kt
     obtain ⟨cl556, Ar556, q556, S556, N556, H556, G556⟩ := id f545
     have hin556 : ¬ ((sp + (2 : Int32)) < 0 ∨ cl556.slots.size ≤ ((sp + (2 : Int32))).toNatClampNeg) := inb_of S556 hq2
     have hat556 : cl556.slots[((sp + (2 : Int32))).toNatClampNeg]? = some (.int r2) := H556.at hin556 hg2
     have st556 := Xh554.caload hx (j := (sp + (2 : Int32))) (v := (.int r2)) (by rw [Eq552]; exact Ar556.1) (State.isArrayOf_alike hZ.alike Ar556.2.1) Ar556.2.2 hin556 hat556 (g := (fr_law m p1 p2 p3 p4 p5 322 (vI 3) (vI sp) (vI en) (vR b22) (vI d0) (vI d1) (vI d2) (vR b417) (vR b488) (.val (.int (own_b ((en - sp) = (3 : Int32) ∧ Mw r0 d0 ∧ Mw r1 d1 ∧ Mw r2 d2)))) .unset [(.int (sp + (2 : Int32))), (.ref b22)])) rfl rfl (D at_322)
     refine ownBy st556 ?_
     show oA p e below _ T552 (fr_law m p1 p2 p3 p4 p5 323 (vI 3) (vI sp) (vI en) (vR b22) (vI d0) (vI d1) (vI d2) (vR b417) (vR b488) (.val (.int (own_b ((en - sp) = (3 : Int32) ∧ Mw r0 d0 ∧ Mw r1 d1 ∧ Mw r2 d2)))) .unset [(.int r2)])
     refine oTo T552 (fr_law m p1 p2 p3 p4 p5 325 (vI 3) (vI sp) (vI en) (vR b22) (vI d0) (vI d1) (vI d2) (vR b417) (vR b488) (.val (.int (own_b ((en - sp) = (3 : Int32) ∧ Mw r0 d0 ∧ Mw r1 d1 ∧ Mw r2 d2)))) .unset [(.int d2), (.int r2)]) (fun t kt => ?_) ?_
     ·refine XS.iload Xh554.here hx rfl (D at_323) rfl ?_
      exact kt
     obtain ⟨vv557, _, ⟨T557, L557, k557, n557⟩, -, X557, ⟨Lc557, hQ557, l557, y557, z557⟩, st557⟩ := Jvm.LawKit.callS Xh554 hx (y := yM20) hown (mvT hZ (Wd68 hw)) (mvT hZ (Wd69 hw)) (mvT hZ (Wd70 hw)) (mvT hZ (Wd71 hw)) (by decide) (backOf (W := 0) (c_mm l Z a0 hw [] r2 d2 T512.heap n0 f540 ) hZ (Wd71 hw) (Wd70 hw) (by decide) (by decide)) (g := (fr_law m p1 p2 p3 p4 p5 325 (vI 3) (vI sp) (vI en) (vR b22) (vI d0) (vI d1) (vI d2) (vR b417) (vR b488) (.val (.int (own_b ((en - sp) = (3 : Int32) ∧ Mw r0 d0 ∧ Mw r1 d1 ∧ Mw r2 d2)))) .unset [(.int d2), (.int r2)])) rfl (by rw [hml]; rfl) (argsL := [(.int r2), (.int d2)]) (rest := []) (lenOf pd_25 rfl) rfl (by show 2 * 0 + _ ≤ _; exact Nat.le_of_eq rfl) (D at_325) (fun _ _ => ⟨rfl, Eq552, (by decide : 8 + 0 ≤ _), (by decide : 40 + 0 ≤ _)⟩)
     dsimp only [Pt.U, Pt.locs, Pt.cells, Pt.slots] at X557 l557 y557 z557 st557 hQ557
     subst l557 y557 z557
     obtain ⟨rfl, Nq557, Eq557⟩ := hQ557
     have N558 := Fr.app Nh554 Nq557
     obtain ⟨Lh559, Xh559, Nh559⟩ := oHd 8 40 X557 N558 rfl rfl
     refine ownBy st557 ?_
     clear st557
     show oA p e below _ T557 (fr_law m p1 p2 p3 p4 p5 328 (vI 3) (vI sp) (vI en) (vR b22) (vI d0) (vI d1) (vI d2) (vR b417) (vR b488) (.val (.int (own_b ((en - sp) = (3 : Int32) ∧ Mw r0 d0 ∧ Mw r1 d1 ∧ Mw r2 d2)))) .unset [(.int (own_b (Mw r2 d2)))])
     by_cases hc560 : Mw r2 d2
     ·skip
      refine oTo T557 (fr_law m p1 p2 p3 p4 p5 350 (vI 3) (vI sp) (vI en) (vR b22) (vI d0) (vI d1) (vI d2) (vR b417) (vR b488) (.val (.int (own_b ((en - sp) = (3 : Int32) ∧ Mw r0 d0 ∧ Mw r1 d1 ∧ Mw r2 d2)))) (vI 1) [(iV 1)]) (fun t kt => ?_) ?_
      ·refine XS.ifNo Xh559.here hx rfl (D at_328) rfl ((if0 _ _).trans (feq (own_bt0 hc560)).1) ?_
       refine XS.iconst Xh559.here hx rfl (D at_331) ?_
       refine XS.goto Xh559.here hx rfl (pc0 := 332) (pc' := 336) rfl (D at_332) (by decide) (by decide) ?_
       refine XS.istore Xh559.here hx rfl (D at_336) rfl (l' := #[.val (.long p1), .second, vI p2, vI p3, vI p4, vI p5, vI 3, vI sp, vI en, vR b22, vI d0, vI d1, vI d2, vR b417, vR b488, .val (.int (own_b ((en - sp) = (3 : Int32) ∧ Mw r0 d0 ∧ Mw r1 d1 ∧ Mw r2 d2))), vI 1]) rfl ?_
       refine XS.iload Xh559.here hx rfl (D at_338) rfl ?_
       refine XS.iload Xh559.here hx rfl (D at_340) rfl ?_
       refine XS.icmpNo Xh559.here hx rfl (D at_342) rfl (teq (own_bt1 (p := (en - sp) = (3 : Int32) ∧ Mw r0 d0 ∧ Mw r1 d1 ∧ Mw r2 d2) ⟨hc544, hc550, hc555, hc560⟩)).2 ?_
       refine XS.iconst Xh559.here hx rfl (D at_345) ?_
       refine XS.goto Xh559.here hx rfl (pc0 := 346) (pc' := 350) rfl (D at_346) (by decide) (by decide) ?_
       exact kt
      refine ownRetH Xh559 hS0 (by rw [Eq557]; exact (Nat.le_trans (Nat.le_trans (Nat.le_trans (Nat.le_trans (Nat.le_trans (Nat.le_trans (Nat.le_trans (Nat.le_trans (Nat.le_trans (Nat.le_trans (Nat.le_trans (Nat.le_trans (Nat.le_trans (Nat.le_trans (Nat.le_refl _) E22.1) (Keep.of_wr W30).1) (Keep.of_wr W37).1) (Keep.of_wr W44).1) (Keep.of_wr W51).1) (Keep.of_wr W58).1) E417.1) E429.1) (Keep.of_wr W443).1) (Keep.of_wr W451).1) (Keep.of_wr W459).1) Kq472.1) E488.1) Kq512.1)) Bd.notSynchronized (v := some (.int (nar .boolean (1 : Int32)))) (fun h => by rw [Bd.returns] at h; cases h) ?_ (R526.trans ((by rw [Eq557]; exact CHv.at Xh559 hZ hEL R526.1))) (oLe rfl) (oLe rfl) (fun fs hr => retN Xh559 hx (t := .boolean) Bd.returns (by simp) (D at_350) hr)
      show (Q_law Z p1 p2 p3 p4 p5 G1 G3 h0 n0) (some (.int (nar .boolean (1 : Int32)))) T557.heap _
      rw [Eq557]
      exact ⟨rfl, Nh559⟩
     ·skip
      refine oTo T557 (fr_law m p1 p2 p3 p4 p5 350 (vI 3) (vI sp) (vI en) (vR b22) (vI d0) (vI d1) (vI d2) (vR b417) (vR b488) (.val (.int (own_b ((en - sp) = (3 : Int32) ∧ Mw r0 d0 ∧ Mw r1 d1 ∧ Mw r2 d2)))) (vI 0) [(iV 1)]) (fun t kt => ?_) ?_
      ·refine XS.ifYes Xh559.here hx rfl (pc0 := 328) (pc' := 335) rfl (D at_328) rfl ((if0 _ _).trans (teq (own_bf0 hc560)).1) (by decide) (by decide) ?_
       refine XS.iconst Xh559.here hx rfl (D at_335) ?_
       refine XS.istore Xh559.here hx rfl (D at_336) rfl (l' := #[.val (.long p1), .second, vI p2, vI p3, vI p4, vI p5, vI 3, vI sp, vI en, vR b22, vI d0, vI d1, vI d2, vR b417, vR b488, .val (.int (own_b ((en - sp) = (3 : Int32) ∧ Mw r0 d0 ∧ Mw r1 d1 ∧ Mw r2 d2))), vI 0]) rfl ?_
       refine XS.iload Xh559.here hx rfl (D at_338) rfl ?_
       refine XS.iload Xh559.here hx rfl (D at_340) rfl ?_
       refine XS.icmpNo Xh559.here hx rfl (D at_342) rfl (teq (own_bf0 (p := (en - sp) = (3 : Int32) ∧ Mw r0 d0 ∧ Mw r1 d1 ∧ Mw r2 d2) (fun q => hc560 q.2.2.2))).2 ?_
       refine XS.iconst Xh559.here hx rfl (D at_345) ?_
       refine XS.goto Xh559.here hx rfl (pc0 := 346) (pc' := 350) rfl (D at_346) (by decide) (by decide) ?_
       exact kt
      refine ownRetH Xh559 hS0 (by rw [Eq557]; exact (Nat.le_trans (Nat.le_trans (Nat.le_trans (Nat.le_trans (Nat.le_trans (Nat.le_trans (Nat.le_trans (Nat.le_trans (Nat.le_trans (Nat.le_trans (Nat.le_trans (Nat.le_trans (Nat.le_trans (Nat.le_trans (Nat.le_refl _) E22.1) (Keep.of_wr W30).1) (Keep.of_wr W37).1) (Keep.of_wr W44).1) (Keep.of_wr W51).1) (Keep.of_wr W58).1) E417.1) E429.1) (Keep.of_wr W443).1) (Keep.of_wr W451).1) (Keep.of_wr W459).1) Kq472.1) E488.1) Kq512.1)) Bd.notSynchronized (v := some (.int (nar .boolean (1 : Int32)))) (fun h => by rw [Bd.returns] at h; cases h) ?_ (R526.trans ((by rw [Eq557]; exact CHv.at Xh559 hZ hEL R526.1))) (oLe rfl) (oLe rfl) (fun fs hr => retN Xh559 hx (t := .boolean) Bd.returns (by simp) (D at_350) hr)
      show (Q_law Z p1 p2 p3 p4 p5 G1 G3 h0 n0) (some (.int (nar .boolean (1 : Int32)))) T557.heap _
      rw [Eq557]
      exact ⟨rfl, Nh559⟩
    ·skip
     refine oTo T552 (fr_law m p1 p2 p3 p4 p5 350 (vI 3) (vI sp) (vI en) (vR b22) (vI d0) (vI d1) (vI d2) (vR b417) (vR b488) (.val (.int (own_b ((en - sp) = (3 : Int32) ∧ Mw r0 d0 ∧ Mw r1 d1 ∧ Mw r2 d2)))) (vI 0) [(iV 1)]) (fun t kt => ?_) ?_
     ·refine XS.ifYes Xh554.here hx rfl (pc0 := 307) (pc' := 335) rfl (D at_307) rfl ((if0 _ _).trans (teq (own_bf0 hc555)).1) (by decide) (by decide) ?_
      refine XS.iconst Xh554.here hx rfl (D at_335) ?_
      refine XS.istore Xh554.here hx rfl (D at_336) rfl (l' := #[.val (.long p1), .second, vI p2, vI p3, vI p4, vI p5, vI 3, vI sp, vI en, vR b22, vI d0, vI d1, vI d2, vR b417, vR b488, .val (.int (own_b ((en - sp) = (3 : Int32) ∧ Mw r0 d0 ∧ Mw r1 d1 ∧ Mw r2 d2))), vI 0]) rfl ?_
      refine XS.iload Xh554.here hx rfl (D at_338) rfl ?_
      refine XS.iload Xh554.here hx rfl (D at_340) rfl ?_
      refine XS.icmpNo Xh554.here hx rfl (D at_342) rfl (teq (own_bf0 (p := (en - sp) = (3 : Int32) ∧ Mw r0 d0 ∧ Mw r1 d1 ∧ Mw r2 d2) (fun q => hc555 q.2.2.1))).2 ?_
      refine XS.iconst Xh554.here hx rfl (D at_345) ?_
      refine XS.goto Xh554.here hx rfl (pc0 := 346) (pc' := 350) rfl (D at_346) (by decide) (by decide) ?_
      exact kt
     refine ownRetH Xh554 hS0 (by rw [Eq552]; exact (Nat.le_trans (Nat.le_trans (Nat.le_trans (Nat.le_trans (Nat.le_trans (Nat.le_trans (Nat.le_trans (Nat.le_trans (Nat.le_trans (Nat.le_trans (Nat.le_trans (Nat.le_trans (Nat.le_trans (Nat.le_trans (Nat.le_refl _) E22.1) (Keep.of_wr W30).1) (Keep.of_wr W37).1) (Keep.of_wr W44).1) (Keep.of_wr W51).1) (Keep.of_wr W58).1) E417.1) E429.1) (Keep.of_wr W443).1) (Keep.of_wr W451).1) (Keep.of_wr W459).1) Kq472.1) E488.1) Kq512.1)) Bd.notSynchronized (v := some (.int (nar .boolean (1 : Int32)))) (fun h => by rw [Bd.returns] at h; cases h) ?_ (R526.trans ((by rw [Eq552]; exact CHv.at Xh554 hZ hEL R526.1))) (oLe rfl) (oLe rfl) (fun fs hr => retN Xh554 hx (t := .boolean) Bd.returns (by simp) (D at_350) hr)
     show (Q_law Z p1 p2 p3 p4 p5 G1 G3 h0 n0) (some (.int (nar .boolean (1 : Int32)))) T552.heap _
     rw [Eq552]
     exact ⟨rfl, Nh554⟩
   ·skip
    refine oTo T547 (fr_law m p1 p2 p3 p4 p5 350 (vI 3) (vI sp) (vI en) (vR b22) (vI d0) (vI d1) (vI d2) (vR b417) (vR b488) (.val (.int (own_b ((en - sp) = (3 : Int32) ∧ Mw r0 d0 ∧ Mw r1 d1 ∧ Mw r2 d2)))) (vI 0) [(iV 1)]) (fun t kt => ?_) ?_
    ·refine XS.ifYes Xh549.here hx rfl (pc0 := 286) (pc' := 335) rfl (D at_286) rfl ((if0 _ _).trans (teq (own_bf0 hc550)).1) (by decide) (by decide) ?_
     refine XS.iconst Xh549.here hx rfl (D at_335) ?_
     refine XS.istore Xh549.here hx rfl (D at_336) rfl (l' := #[.val (.long p1), .second, vI p2, vI p3, vI p4, vI p5, vI 3, vI sp, vI en, vR b22, vI d0, vI d1, vI d2, vR b417, vR b488, .val (.int (own_b ((en - sp) = (3 : Int32) ∧ Mw r0 d0 ∧ Mw r1 d1 ∧ Mw r2 d2))), vI 0]) rfl ?_
     refine XS.iload Xh549.here hx rfl (D at_338) rfl ?_
     refine XS.iload Xh549.here hx rfl (D at_340) rfl ?_
     refine XS.icmpNo Xh549.here hx rfl (D at_342) rfl (teq (own_bf0 (p := (en - sp) = (3 : Int32) ∧ Mw r0 d0 ∧ Mw r1 d1 ∧ Mw r2 d2) (fun q => hc550 q.2.1))).2 ?_
     refine XS.iconst Xh549.here hx rfl (D at_345) ?_
     refine XS.goto Xh549.here hx rfl (pc0 := 346) (pc' := 350) rfl (D at_346) (by decide) (by decide) ?_
     exact kt
    refine ownRetH Xh549 hS0 (by rw [Eq547]; exact (Nat.le_trans (Nat.le_trans (Nat.le_trans (Nat.le_trans (Nat.le_trans (Nat.le_trans (Nat.le_trans (Nat.le_trans (Nat.le_trans (Nat.le_trans (Nat.le_trans (Nat.le_trans (Nat.le_trans (Nat.le_trans (Nat.le_refl _) E22.1) (Keep.of_wr W30).1) (Keep.of_wr W37).1) (Keep.of_wr W44).1) (Keep.of_wr W51).1) (Keep.of_wr W58).1) E417.1) E429.1) (Keep.of_wr W443).1) (Keep.of_wr W451).1) (Keep.of_wr W459).1) Kq472.1) E488.1) Kq512.1)) Bd.notSynchronized (v := some (.int (nar .boolean (1 : Int32)))) (fun h => by rw [Bd.returns] at h; cases h) ?_ (R526.trans ((by rw [Eq547]; exact CHv.at Xh549 hZ hEL R526.1))) (oLe rfl) (oLe rfl) (fun fs hr => retN Xh549 hx (t := .boolean) Bd.returns (by simp) (D at_350) hr)
    show (Q_law Z p1 p2 p3 p4 p5 G1 G3 h0 n0) (some (.int (nar .boolean (1 : Int32)))) T547.heap _
    rw [Eq547]
    exact ⟨rfl, Nh549⟩
  ·skip
   refine oTo T541 (fr_law m p1 p2 p3 p4 p5 350 (vI 3) (vI sp) (vI en) (vR b22) (vI d0) (vI d1) (vI d2) (vR b417) (vR b488) (.val (.int (own_b ((en - sp) = (3 : Int32) ∧ Mw r0 d0 ∧ Mw r1 d1 ∧ Mw r2 d2)))) (vI 0) [(iV 1)]) (fun t kt => ?_) ?_
   ·refine XS.icmpYes Xh543.here hx rfl (pc0 := 267) (pc' := 335) rfl (D at_267) rfl (feq hc544).2 (by decide) (by decide) ?_
    refine XS.iconst Xh543.here hx rfl (D at_335) ?_
    refine XS.istore Xh543.here hx rfl (D at_336) rfl (l' := #[.val (.long p1), .second, vI p2, vI p3, vI p4, vI p5, vI 3, vI sp, vI en, vR b22, vI d0, vI d1, vI d2, vR b417, vR b488, .val (.int (own_b ((en - sp) = (3 : Int32) ∧ Mw r0 d0 ∧ Mw r1 d1 ∧ Mw r2 d2))), vI 0]) rfl ?_
    refine XS.iload Xh543.here hx rfl (D at_338) rfl ?_
    refine XS.iload Xh543.here hx rfl (D at_340) rfl ?_
    refine XS.icmpNo Xh543.here hx rfl (D at_342) rfl (teq (own_bf0 (p := (en - sp) = (3 : Int32) ∧ Mw r0 d0 ∧ Mw r1 d1 ∧ Mw r2 d2) (fun q => hc544 q.1))).2 ?_
    refine XS.iconst Xh543.here hx rfl (D at_345) ?_
    refine XS.goto Xh543.here hx rfl (pc0 := 346) (pc' := 350) rfl (D at_346) (by decide) (by decide) ?_
    exact kt
   refine ownRetH Xh543 hS0 (by rw [Eq541]; exact (Nat.le_trans (Nat.le_trans (Nat.le_trans (Nat.le_trans (Nat.le_trans (Nat.le_trans (Nat.le_trans (Nat.le_trans (Nat.le_trans (Nat.le_trans (Nat.le_trans (Nat.le_trans (Nat.le_trans (Nat.le_trans (Nat.le_refl _) E22.1) (Keep.of_wr W30).1) (Keep.of_wr W37).1) (Keep.of_wr W44).1) (Keep.of_wr W51).1) (Keep.of_wr W58).1) E417.1) E429.1) (Keep.of_wr W443).1) (Keep.of_wr W451).1) (Keep.of_wr W459).1) Kq472.1) E488.1) Kq512.1)) Bd.notSynchronized (v := some (.int (nar .boolean (1 : Int32)))) (fun h => by rw [Bd.returns] at h; cases h) ?_ (R526.trans ((by rw [Eq541]; exact CHv.at Xh543 hZ hEL R526.1))) (oLe rfl) (oLe rfl) (fun fs hr => retN Xh543 hx (t := .boolean) Bd.returns (by simp) (D at_350) hr)
   show (Q_law Z p1 p2 p3 p4 p5 G1 G3 h0 n0) (some (.int (nar .boolean (1 : Int32)))) T541.heap _
   rw [Eq541]
   exact ⟨rfl, Nh543⟩
set_option maxRecDepth 65536 in
set_option maxHeartbeats 40000000 in
theorem comes_1 {Post : Tables → Env → Array Value → State → Outcome → State → Prop} (hpost : ∀ tb e args s v u, (limb_1_1.after args s (.returned v) u = true ∧ limb_1_2.after args s (.returned v) u = true ∧ True) → ReturnedEndW s (.returned v) u (Jvm.fieldLocs frame_1_writes args s ++ Jvm.arrayLocs frame_1_arrays args s ++ Jvm.staticLocs frame_1_statics s) 32 1216 → Post tb e args s (.returned v) u) :
  ArmFor flags0 classFile x code maxLocals ret World_1 tables_1 room_1 Calls_1 rest_1 Pre_1 Post := by
 intro l hfl _ _ p e ha hc hk s m args below hf hA hF happ hP
 obtain ⟨hcalls, hrest, hpre⟩ := hP
 obtain ⟨-, -, -, hnamed, -, -, -, hat⟩ := (Spec.applies_iff hf).mp happ
 obtain ⟨hg, hn⟩ := and_e (Cond.before_iff.mp (show (Jvm.Cond.and given_1 narrow_1).before args s = true from hpre))
 obtain ⟨g566, g567⟩ := and_e hg
 obtain ⟨g568, g569⟩ := and_e g567
 obtain ⟨g570, g571⟩ := and_e g569
 obtain ⟨g572, g573⟩ := and_e g571
 obtain ⟨g574, g575⟩ := and_e g573
 obtain ⟨w0, w1, w2, w3, w4, rfl⟩ : ∃ w0 w1 w2 w3 w4 : Value, args = #[w0, w1, w2, w3, w4] := by
  have hs : args.size = 5 := by simpa [Cond.value, given_1] using g566
  obtain ⟨L⟩ := args
  match L, hs with
  | [w0, w1, w2, w3, w4], _ => exact ⟨w0, w1, w2, w3, w4, rfl⟩
 have hw := fun d (hd : d ∈ tables_1) => atoms_spec (ws := Jvm.Cond.code x code maxLocals ret :: tables_1) hat d (List.mem_cons_of_mem _ hd)
 have hfit : Fit s := fun {y c} hc i hi => by
  obtain ⟨ha, rfl⟩ := Array.getElem?_eq_some_iff.mp hc
  have q := List.all_eq_true.mp ((Array.all_eq_true_iff_forall_mem.mp hF) _ (Array.getElem_mem ha)) i (List.mem_range.mpr hi)
  simpa [Array.getElem?_eq_getElem hi] using q
 obtain ⟨hsets, hown0⟩ := atoms_of _ (rest_1_c_eq ▸ (show rest_1_c.before _ s = true from hrest))
 have hr0 := Cond.before_iff.mp hown0
 obtain ⟨i0, ei0⟩ := isL_v g568
 obtain rfl : w0 = (.long i0) := Option.some.inj ei0
 obtain ⟨i1, ei1⟩ := is_v g570
 obtain rfl : w1 = (.int i1) := Option.some.inj ei1
 obtain ⟨i2, ei2⟩ := is_v g572
 obtain rfl : w2 = (.int i2) := Option.some.inj ei2
 obtain ⟨i3, ei3⟩ := is_v g574
 obtain rfl : w3 = (.int i3) := Option.some.inj ei3
 obtain ⟨i4, ei4⟩ := is_v g575
 obtain rfl : w4 = (.int i4) := Option.some.inj ei4
 obtain ⟨G1, eG1⟩ := is_v (Cond.before_iff.mp (hsets _ (List.mem_of_getElem? (i := 1) rfl)))
 have O2 := Sta.start eG1 (Or.inl (hsets _ (List.mem_of_getElem? (i := 0) rfl)))
 have P5 : ¬ (G1 = (0 : Int32)) := own_nz eG1 (Cond.before_iff.mp (hsets _ (List.mem_of_getElem? (i := 2) rfl)))
 obtain ⟨G3, eG3, rG3⟩ := isR_v (Cond.before_iff.mp (hsets _ (List.mem_of_getElem? (i := 8) rfl)))
 have O4 := Sta.start eG3 (Or.inl (hsets _ (List.mem_of_getElem? (i := 7) rfl)))
 have SA := Sta.start (eqv_i (y := (1 : Int32)) rfl (Cond.before_iff.mp (hsets _ (List.mem_of_getElem? (i := 12) rfl)))) (Or.inl (hsets _ (List.mem_of_getElem? (i := 11) rfl)))
 have SHI := Sta.start (eqv_i (y := (0 : Int32)) rfl (Cond.before_iff.mp (hsets _ (List.mem_of_getElem? (i := 15) rfl)))) (Or.inl (hsets _ (List.mem_of_getElem? (i := 14) rfl)))
 have SLO := Sta.start (eqv_i (y := (8 : Int32)) rfl (Cond.before_iff.mp (hsets _ (List.mem_of_getElem? (i := 18) rfl)))) (Or.inl (hsets _ (List.mem_of_getElem? (i := 17) rfl)))
 have hCH : CHv s ownEL s.vm s.heap := CHv.start (own_EW hw) (fun q hq => hcalls.1 q hq) (hsets _ (List.mem_of_getElem? (i := 2) rfl)) (Wd21 hw) (Wd4 hw)
 obtain ⟨n, o, h1, h2, h3, _, L, rfl, ⟨rfl, N⟩, -, hq⟩ := c_law l s _ hw tables_1 i0 i1 i2 i3 i4 G1 G3 s.heap s.heap.size (Nat.le_refl _) O2 P5 SA SHI SLO O4 rG3 (Old.start s) p e ha hc hk s m _ below hf ((Spec.applies_iff_loose hf).mp happ).1 ⟨rfl, State.Warmed39.refl s, rfl, hCH⟩ trivial
 refine ⟨n, _, h1, h2, h3, hpost _ _ _ _ _ _ ⟨Cond.after_iff.mpr rfl, Cond.after_iff.mpr (eq_i res_at (Term.int_eval (1)) rfl), trivial⟩ ⟨hq.1, hq.2.1, hq.2.2.1, (hq.2.2.2.sift fun y hy => Or.inr (N y hy)).mono (by decide) (by decide)⟩⟩
theorem main_1_1 : Claimed_1_1 := comes_1 fun _ _ _ _ _ _ h hF => ⟨h.1, hF⟩
theorem main_1_2 : Claimed_1_2 := comes_1 fun _ _ _ _ _ _ h hF => ⟨h.2.1, hF⟩
end Jvm.Pilot.@@N@@
namespace Jvm.Pilot.@@N@@
open Jvm Jvm.ClassFile Sem Op Lib Jvm.Free Jvm.Stand Jvm.Pilot.@@N@@.Jvm.D
/-! MADE BY PROGRAM (witnessworld.py) out of the Statement's table words and the real class files: 19 classes; the members and pool entries that the words name. The judged class is class 1, her method 2. -/
namespace start1
open Jvm.ClassFile
def u (s : String) : CpInfo := .utf8 (stringToUtf16 s)
/-- a pool by its gaps: so many unusable entries, then the entry; so many at the end -/
def gap : Nat → List CpInfo → List CpInfo
  | 0, r => r
  | n + 1, r => .unusable :: gap n r
def poolList (es : List (Nat × CpInfo)) (last : Nat) : List CpInfo := es.foldr (fun e r => gap e.1 (e.2 :: r)) (gap last [])
def pool (es : List (Nat × CpInfo)) (last : Nat) : Array CpInfo := ⟨poolList es last⟩
def fileOf (pool : Array CpInfo) (this : Nat) (attrs : Array Attribute := #[]) (ms : Array MethodInfo := #[]) (fl : Nat := 33) (sup : Nat := 0) (ifs : Array Nat := #[]) (fds : Array FieldInfo := #[]) : ClassFile where
  minorVersion := 0
  majorVersion := 65
  constantPool := pool
  accessFlags := fl
  thisClass := this
  superClass := sup
  interfaces := ifs
  fields := fds
  methods := ms
  attributes := attrs
def plain (name : String) (sup : Option ClassId) : Class where
  name := name
  kind := .ordinary
  loader := none
  accessFlags := 33
  super := sup
  interfaces := #[]
  cf := none
  fields := #[]
  methods := #[]
  instanceTypes := #[]
  staticTypes := #[]
  resolved := #[]
  callSites := []
  init := .initialized
  statics := none
  mirror := none

def pool0 : Array CpInfo := pool [(5, u "<init>"), (0, u "()V"), (1, .class_ 10), (1, u "java/lang/Object")] 113

def k0c0 : Code := { maxStack := 0, maxLocals := 1, code := object_method_1_code, exceptionTable := #[], attributes := #[] }
def k0m0 : Method := { name := "<init>", desc := "()V", sig := { parameters := [], returnType := none }, accessFlags := 1, code := some k0c0 }
/-- java/lang/Object -/
def k0 : Class := { plain "java/lang/Object" none with
  accessFlags := 33
  interfaces := #[]
  cf := some (fileOf pool0 8 #[] #[{ accessFlags := 1, nameIndex := 5, descriptorIndex := 6, attributes := #[] }] 33 0 #[] #[])
  fields := #[]
  methods := #[k0m0]
  instanceTypes := #[]
  staticTypes := #[]
  resolved := Array.replicate 124 none
  statics := none }

def pool1 : Array CpInfo := pool [(2, .class_ 4), (1, u "java/lang/Object"), (0, u "<init>"), (0, u "()V"), (0, .integer 2147483647), (0, .long 511), (1, .class_ 11), (0, u "java/lang/String"), (0, .methodref 10 13), (0, .nameAndType 5 14), (0, u "([C)V"), (0, .methodref 16 17), (0, .class_ 18), (0, .nameAndType 19 20), (0, u "com/example/savepoint/savepoint/SqlDialect"), (0, u "isWord"), (0, u "(Ljava/lang/String;IILjava/lang/String;)Z"), (0, .methodref 22 23), (0, .class_ 24), (0, .nameAndType 25 26), (0, u "com/example/savepoint/savepoint/SqlDialectIsWordPinLaw"), (0, u "m"), (0, u "(CC)Z"), (3, u "law"), (0, u "(JIIII)Z")] 4

def k1m0 : Method := { name := "<init>", desc := "()V", sig := { parameters := [], returnType := none }, accessFlags := 1, code := none }
def k1c1 : Code := { maxStack := 3, maxLocals := 2, code := method_2_code, exceptionTable := #[], attributes := #[] }
def k1m1 : Method := { name := "m", desc := "(CC)Z", sig := { parameters := [.char, .char], returnType := some .boolean }, accessFlags := 10, code := some k1c1 }
def k1c2 : Code := { maxStack := 6, maxLocals := 17, code := code, exceptionTable := #[], attributes := #[] }
def k1m2 : Method := { name := "law", desc := "(JIIII)Z", sig := { parameters := [.long, .int, .int, .int, .int], returnType := some .boolean }, accessFlags := 9, code := some k1c2 }
/-- com/example/savepoint/savepoint/SqlDialectIsWordPinLaw -/
def k1 : Class := { plain "com/example/savepoint/savepoint/SqlDialectIsWordPinLaw" (some 0) with
  accessFlags := 49
  interfaces := #[]
  cf := some (fileOf pool1 22 #[] #[{ accessFlags := 1, nameIndex := 5, descriptorIndex := 6, attributes := #[] }, { accessFlags := 10, nameIndex := 25, descriptorIndex := 26, attributes := #[] }, { accessFlags := 9, nameIndex := 30, descriptorIndex := 31, attributes := #[] }] 49 2 #[] #[])
  fields := #[]
  methods := #[k1m0, k1m1, k1m2]
  instanceTypes := #[]
  staticTypes := #[]
  resolved := Array.replicate 36 none
  statics := none }

def pool2 : Array CpInfo := pool [(1, .class_ 2), (0, u "java/io/Serializable"), (0, .class_ 4), (0, u "java/lang/Object")] 2

/-- java/io/Serializable -/
def k2 : Class := { plain "java/io/Serializable" (some 0) with
  accessFlags := 1537
  interfaces := #[]
  cf := some (fileOf pool2 1 #[] #[] 1537 3 #[] #[])
  fields := #[]
  methods := #[]
  instanceTypes := #[]
  staticTypes := #[]
  resolved := Array.replicate 7 none
  statics := none }

def pool3 : Array CpInfo := pool [(1, .class_ 2), (0, u "java/lang/Comparable"), (0, .class_ 4), (0, u "java/lang/Object")] 7

/-- java/lang/Comparable -/
def k3 : Class := { plain "java/lang/Comparable" (some 0) with
  accessFlags := 1537
  interfaces := #[]
  cf := some (fileOf pool3 1 #[] #[] 1537 3 #[] #[])
  fields := #[]
  methods := #[]
  instanceTypes := #[]
  staticTypes := #[]
  resolved := Array.replicate 12 none
  statics := none }

def pool4 : Array CpInfo := pool [(2, .class_ 4), (1, u "java/lang/CharSequence"), (42, .class_ 48), (0, u "java/lang/CharSequence$1CodePointIterator"), (10, .class_ 60), (0, u "java/lang/CharSequence$1CharIterator"), (5, .class_ 67), (0, u "java/lang/Object")] 63

/-- java/lang/CharSequence -/
def k4 : Class := { plain "java/lang/CharSequence" (some 0) with
  accessFlags := 1537
  interfaces := #[]
  cf := some (fileOf pool4 2 #[.nestMembers #[47, 59]] #[] 1537 66 #[] #[])
  fields := #[]
  methods := #[]
  instanceTypes := #[]
  staticTypes := #[]
  resolved := Array.replicate 131 none
  statics := none }

def pool5 : Array CpInfo := pool [(1, .class_ 2), (0, u "java/lang/constant/Constable"), (0, .class_ 4), (0, u "java/lang/Object")] 6

/-- java/lang/constant/Constable -/
def k5 : Class := { plain "java/lang/constant/Constable" (some 0) with
  accessFlags := 1537
  interfaces := #[]
  cf := some (fileOf pool5 1 #[] #[] 1537 3 #[] #[])
  fields := #[]
  methods := #[]
  instanceTypes := #[]
  staticTypes := #[]
  resolved := Array.replicate 11 none
  statics := none }

def pool6 : Array CpInfo := pool [(1, .class_ 2), (0, u "java/lang/constant/ConstantDesc"), (0, .class_ 4), (0, u "java/lang/Object")] 32

/-- java/lang/constant/ConstantDesc -/
def k6 : Class := { plain "java/lang/constant/ConstantDesc" (some 0) with
  accessFlags := 1537
  interfaces := #[]
  cf := some (fileOf pool6 1 #[] #[] 1537 3 #[] #[])
  fields := #[]
  methods := #[]
  instanceTypes := #[]
  staticTypes := #[]
  resolved := Array.replicate 37 none
  statics := none }

def pool7 : Array CpInfo := pool [(1, .methodref 2 3), (0, .class_ 4), (0, .nameAndType 5 6), (0, u "java/lang/Object"), (0, u "<init>"), (0, u "()V"), (0, .string 8), (0, u ""), (0, .fieldref 10 11), (0, .class_ 12), (0, .nameAndType 13 14), (0, u "java/lang/String"), (0, u "value"), (0, u "[B"), (0, .fieldref 10 16), (0, .nameAndType 17 18), (0, u "coder"), (0, u "B"), (2, u "hash"), (0, u "I"), (2, u "hashIsZero"), (0, u "Z"), (0, .methodref 10 28), (0, .nameAndType 5 29), (0, u "([CIILjava/lang/Void;)V"), (8, .fieldref 10 39), (0, .nameAndType 40 26), (0, u "COMPACT_STRINGS"), (1, .class_ 44), (1, u "java/lang/StringUTF16"), (0, u "compress"), (1, .methodref 42 48), (0, .nameAndType 49 50), (0, u "coderFromArrayLen"), (0, u "([BI)B"), (56, .class_ 109), (1, u "java/lang/StringLatin1"), (32, u "()Z"), (34, .methodref 42 178), (0, .nameAndType 45 179), (0, u "([CII)[B"), (154, u "()I"), (0, .methodref 10 336), (0, .nameAndType 17 337), (0, u "()B"), (25, u "([BI)C"), (27, u "(II)V"), (35, u "(I)C"), (64, .methodref 10 493), (0, .nameAndType 494 142), (0, u "isLatin1"), (0, .methodref 107 496), (0, .nameAndType 497 363), (0, u "charAt"), (0, .methodref 42 496), (2, u "checkIndex"), (5, u "length"), (67, .class_ 576), (0, u "java/lang/CharSequence"), (22, u "CASE_INSENSITIVE_ORDER"), (0, u "Ljava/util/Comparator;"), (409, u "([C)V"), (42, .fieldref 1054 1055), (0, .class_ 1056), (0, .nameAndType 1057 1058), (0, u "jdk/internal/util/Preconditions"), (0, u "SIOOBE_FORMATTER"), (0, u "Ljava/util/function/BiFunction;"), (0, .methodref 1054 1060), (0, .nameAndType 501 1061), (0, u "(IILjava/util/function/BiFunction;)I"), (39, u "serialPersistentFields"), (0, u "[Ljava/io/ObjectStreamField;"), (0, .class_ 1104), (0, u "java/lang/String$CaseInsensitiveComparator"), (1, .class_ 1107), (0, u "java/io/Serializable"), (0, .class_ 1109), (0, u "java/lang/Comparable"), (0, .class_ 1111), (0, u "java/lang/constant/Constable"), (0, .class_ 1113), (0, u "java/lang/constant/ConstantDesc"), (2, u "serialVersionUID"), (0, u "J"), (3, u "REPL"), (0, u "C"), (2, u "LATIN1"), (1, u "UTF16")] 323

def k7m0 : Method := { name := "<init>", desc := "()V", sig := { parameters := [], returnType := none }, accessFlags := 1, code := none }
def k7c1 : Code := { maxStack := 5, maxLocals := 2, code := jdk_42_method_3_code, exceptionTable := #[], attributes := #[] }
def k7m1 : Method := { name := "<init>", desc := "([C)V", sig := { parameters := [(.array .char)], returnType := none }, accessFlags := 1, code := some k7c1 }
def k7c2 : Code := { maxStack := 2, maxLocals := 1, code := jdk_42_method_54_code, exceptionTable := #[], attributes := #[] }
def k7m2 : Method := { name := "length", desc := "()I", sig := { parameters := [], returnType := some .int }, accessFlags := 1, code := some k7c2 }
def k7c3 : Code := { maxStack := 2, maxLocals := 2, code := jdk_42_method_56_code, exceptionTable := #[], attributes := #[] }
def k7m3 : Method := { name := "charAt", desc := "(I)C", sig := { parameters := [.int], returnType := some .char }, accessFlags := 1, code := some k7c3 }
def k7c4 : Code := { maxStack := 4, maxLocals := 6, code := jdk_42_method_149_code, exceptionTable := #[], attributes := #[] }
def k7m4 : Method := { name := "<init>", desc := "([CIILjava/lang/Void;)V", sig := { parameters := [(.array .char), .int, .int, (.object "java/lang/Void")], returnType := none }, accessFlags := 2, code := some k7c4 }
def k7c5 : Code := { maxStack := 1, maxLocals := 1, code := jdk_42_method_152_code, exceptionTable := #[], attributes := #[] }
def k7m5 : Method := { name := "coder", desc := "()B", sig := { parameters := [], returnType := some .byte }, accessFlags := 0, code := some k7c5 }
def k7c6 : Code := { maxStack := 1, maxLocals := 1, code := jdk_42_method_154_code, exceptionTable := #[], attributes := #[] }
def k7m6 : Method := { name := "isLatin1", desc := "()Z", sig := { parameters := [], returnType := some .boolean }, accessFlags := 0, code := some k7c6 }
def k7c7 : Code := { maxStack := 3, maxLocals := 2, code := jdk_42_method_155_code, exceptionTable := #[], attributes := #[] }
def k7m7 : Method := { name := "checkIndex", desc := "(II)V", sig := { parameters := [.int, .int], returnType := none }, accessFlags := 8, code := some k7c7 }
/-- java/lang/String -/
def k7 : Class := { plain "java/lang/String" (some 0) with
  accessFlags := 49
  interfaces := #[2, 3, 4, 5, 6]
  cf := some (fileOf pool7 10 #[.nestMembers #[1103]] #[{ accessFlags := 1, nameIndex := 5, descriptorIndex := 6, attributes := #[] }, { accessFlags := 1, nameIndex := 5, descriptorIndex := 1010, attributes := #[] }, { accessFlags := 1, nameIndex := 507, descriptorIndex := 334, attributes := #[] }, { accessFlags := 1, nameIndex := 497, descriptorIndex := 427, attributes := #[] }, { accessFlags := 2, nameIndex := 5, descriptorIndex := 29, attributes := #[] }, { accessFlags := 0, nameIndex := 17, descriptorIndex := 337, attributes := #[] }, { accessFlags := 0, nameIndex := 494, descriptorIndex := 142, attributes := #[] }, { accessFlags := 8, nameIndex := 501, descriptorIndex := 391, attributes := #[] }] 49 2 #[1106, 1108, 575, 1110, 1112] #[{ accessFlags := 18, nameIndex := 13, descriptorIndex := 14, attributes := #[] }, { accessFlags := 18, nameIndex := 17, descriptorIndex := 18, attributes := #[] }, { accessFlags := 2, nameIndex := 21, descriptorIndex := 22, attributes := #[] }, { accessFlags := 2, nameIndex := 25, descriptorIndex := 26, attributes := #[] }, { accessFlags := 26, nameIndex := 1116, descriptorIndex := 1117, attributes := #[] }, { accessFlags := 24, nameIndex := 40, descriptorIndex := 26, attributes := #[] }, { accessFlags := 26, nameIndex := 1101, descriptorIndex := 1102, attributes := #[] }, { accessFlags := 26, nameIndex := 1121, descriptorIndex := 1122, attributes := #[] }, { accessFlags := 25, nameIndex := 599, descriptorIndex := 600, attributes := #[] }, { accessFlags := 24, nameIndex := 1125, descriptorIndex := 18, attributes := #[] }, { accessFlags := 24, nameIndex := 1127, descriptorIndex := 18, attributes := #[] }])
  fields := #[{ name := "value", type := (.array .byte), accessFlags := 18, slot := 0, constantValue := 0 }, { name := "coder", type := .byte, accessFlags := 18, slot := 1, constantValue := 0 }, { name := "hash", type := .int, accessFlags := 2, slot := 2, constantValue := 0 }, { name := "hashIsZero", type := .boolean, accessFlags := 2, slot := 3, constantValue := 0 }, { name := "serialVersionUID", type := .long, accessFlags := 26, slot := 0, constantValue := 0 }, { name := "COMPACT_STRINGS", type := .boolean, accessFlags := 24, slot := 1, constantValue := 0 }, { name := "serialPersistentFields", type := (.array (.object "java/io/ObjectStreamField")), accessFlags := 26, slot := 2, constantValue := 0 }, { name := "REPL", type := .char, accessFlags := 26, slot := 3, constantValue := 0 }, { name := "CASE_INSENSITIVE_ORDER", type := (.object "java/util/Comparator"), accessFlags := 25, slot := 4, constantValue := 0 }, { name := "LATIN1", type := .byte, accessFlags := 24, slot := 5, constantValue := 0 }, { name := "UTF16", type := .byte, accessFlags := 24, slot := 6, constantValue := 0 }]
  methods := #[k7m0, k7m1, k7m2, k7m3, k7m4, k7m5, k7m6, k7m7]
  instanceTypes := #[(.array .byte), .byte, .int, .boolean]
  staticTypes := #[.long, .boolean, (.array (.object "java/io/ObjectStreamField")), .char, (.object "java/util/Comparator"), .byte, .byte]
  resolved := Array.replicate 1451 none
  statics := some 0 }

def pool8 : Array CpInfo := pool [(3, .class_ 4), (0, u "java/lang/String"), (1, .class_ 8), (1, u "java/lang/Object"), (0, u "<init>"), (0, u "()V"), (0, .methodref 12 13), (0, .class_ 14), (0, .nameAndType 15 16), (0, u "java/lang/StringUTF16"), (0, u "newBytesLength"), (0, u "(I)I"), (3, .integer 1073741823), (23, .fieldref 12 45), (0, .nameAndType 46 47), (0, u "$assertionsDisabled"), (0, u "Z"), (0, .methodref 12 49), (0, .nameAndType 50 51), (0, u "length"), (0, u "([B)I"), (7, .fieldref 12 60), (0, .nameAndType 61 62), (0, u "HI_BYTE_SHIFT"), (0, u "I"), (0, .fieldref 12 64), (0, .nameAndType 65 62), (0, u "LO_BYTE_SHIFT"), (1, .methodref 12 68), (0, .nameAndType 69 70), (0, u "checkIndex"), (0, u "(I[B)V"), (0, .methodref 12 72), (0, .nameAndType 73 74), (0, u "getChar"), (0, u "([BI)C"), (32, .methodref 12 108), (0, .nameAndType 109 110), (0, u "newBytesFor"), (0, u "(I)[B"), (0, .methodref 12 112), (0, .nameAndType 113 114), (0, u "putChar"), (0, u "([BII)V"), (0, .methodref 12 116), (0, .nameAndType 117 118), (0, u "compress"), (0, u "([CI[BII)I"), (0, .methodref 12 120), (0, .nameAndType 121 122), (0, u "toBytes"), (0, u "([CII)[B"), (138, u "coderFromArrayLen"), (0, u "([BI)B"), (106, .class_ 371), (1, u "java/lang/StringUTF16$LinesSpliterator"), (20, u "charAt"), (21, .methodref 3 415), (0, .nameAndType 69 416), (0, u "(II)V"), (13, u "MAX_LENGTH"), (196, .class_ 628), (0, u "java/lang/StringUTF16$CodePointsSpliterator"), (0, .class_ 630), (0, u "java/lang/StringUTF16$CharsSpliterator")] 4

def k8m0 : Method := { name := "<init>", desc := "()V", sig := { parameters := [], returnType := none }, accessFlags := 0, code := none }
def k8c1 : Code := { maxStack := 1, maxLocals := 1, code := jdk_52_method_2_code, exceptionTable := #[], attributes := #[] }
def k8m1 : Method := { name := "newBytesFor", desc := "(I)[B", sig := { parameters := [.int], returnType := some (.array .byte) }, accessFlags := 9, code := some k8c1 }
def k8c2 : Code := { maxStack := 4, maxLocals := 1, code := jdk_52_method_3_code, exceptionTable := #[], attributes := #[] }
def k8m2 : Method := { name := "newBytesLength", desc := "(I)I", sig := { parameters := [.int], returnType := some .int }, accessFlags := 9, code := some k8c2 }
def k8c3 : Code := { maxStack := 4, maxLocals := 3, code := jdk_52_method_4_code, exceptionTable := #[], attributes := #[] }
def k8m3 : Method := { name := "putChar", desc := "([BII)V", sig := { parameters := [(.array .byte), .int, .int], returnType := none }, accessFlags := 8, code := some k8c3 }
def k8c4 : Code := { maxStack := 3, maxLocals := 2, code := jdk_52_method_5_code, exceptionTable := #[], attributes := #[] }
def k8m4 : Method := { name := "getChar", desc := "([BI)C", sig := { parameters := [(.array .byte), .int], returnType := some .char }, accessFlags := 8, code := some k8c4 }
def k8c5 : Code := { maxStack := 2, maxLocals := 1, code := jdk_52_method_6_code, exceptionTable := #[], attributes := #[] }
def k8m5 : Method := { name := "length", desc := "([B)I", sig := { parameters := [(.array .byte)], returnType := some .int }, accessFlags := 9, code := some k8c5 }
def k8c6 : Code := { maxStack := 4, maxLocals := 5, code := jdk_52_method_14_code, exceptionTable := #[], attributes := #[] }
def k8m6 : Method := { name := "toBytes", desc := "([CII)[B", sig := { parameters := [(.array .char), .int, .int], returnType := some (.array .byte) }, accessFlags := 9, code := some k8c6 }
def k8c7 : Code := { maxStack := 2, maxLocals := 2, code := jdk_52_method_15_code, exceptionTable := #[], attributes := #[] }
def k8m7 : Method := { name := "coderFromArrayLen", desc := "([BI)B", sig := { parameters := [(.array .byte), .int], returnType := some .byte }, accessFlags := 8, code := some k8c7 }
def k8c8 : Code := { maxStack := 5, maxLocals := 6, code := jdk_52_method_16_code, exceptionTable := #[], attributes := #[] }
def k8m8 : Method := { name := "compress", desc := "([CII)[B", sig := { parameters := [(.array .char), .int, .int], returnType := some (.array .byte) }, accessFlags := 9, code := some k8c8 }
def k8c9 : Code := { maxStack := 3, maxLocals := 7, code := jdk_52_method_21_code, exceptionTable := #[], attributes := #[] }
def k8m9 : Method := { name := "compress", desc := "([CI[BII)I", sig := { parameters := [(.array .char), .int, (.array .byte), .int, .int], returnType := some .int }, accessFlags := 9, code := some k8c9 }
def k8c10 : Code := { maxStack := 2, maxLocals := 2, code := jdk_52_method_83_code, exceptionTable := #[], attributes := #[] }
def k8m10 : Method := { name := "charAt", desc := "([BI)C", sig := { parameters := [(.array .byte), .int], returnType := some .char }, accessFlags := 9, code := some k8c10 }
def k8c11 : Code := { maxStack := 2, maxLocals := 2, code := jdk_52_method_91_code, exceptionTable := #[], attributes := #[] }
def k8m11 : Method := { name := "checkIndex", desc := "(I[B)V", sig := { parameters := [.int, (.array .byte)], returnType := none }, accessFlags := 9, code := some k8c11 }
/-- java/lang/StringUTF16 -/
def k8 : Class := { plain "java/lang/StringUTF16" (some 0) with
  accessFlags := 48
  interfaces := #[]
  cf := some (fileOf pool8 12 #[.nestMembers #[627, 629, 369]] #[{ accessFlags := 0, nameIndex := 9, descriptorIndex := 10, attributes := #[] }, { accessFlags := 9, nameIndex := 109, descriptorIndex := 110, attributes := #[] }, { accessFlags := 9, nameIndex := 15, descriptorIndex := 16, attributes := #[] }, { accessFlags := 8, nameIndex := 113, descriptorIndex := 114, attributes := #[] }, { accessFlags := 8, nameIndex := 73, descriptorIndex := 74, attributes := #[] }, { accessFlags := 9, nameIndex := 50, descriptorIndex := 51, attributes := #[] }, { accessFlags := 9, nameIndex := 121, descriptorIndex := 122, attributes := #[] }, { accessFlags := 8, nameIndex := 261, descriptorIndex := 262, attributes := #[] }, { accessFlags := 9, nameIndex := 117, descriptorIndex := 122, attributes := #[] }, { accessFlags := 9, nameIndex := 117, descriptorIndex := 118, attributes := #[] }, { accessFlags := 9, nameIndex := 392, descriptorIndex := 74, attributes := #[] }, { accessFlags := 9, nameIndex := 69, descriptorIndex := 70, attributes := #[] }] 48 6 #[] #[{ accessFlags := 26, nameIndex := 61, descriptorIndex := 62, attributes := #[] }, { accessFlags := 26, nameIndex := 65, descriptorIndex := 62, attributes := #[] }, { accessFlags := 24, nameIndex := 430, descriptorIndex := 62, attributes := #[] }, { accessFlags := 4120, nameIndex := 46, descriptorIndex := 47, attributes := #[] }])
  fields := #[{ name := "HI_BYTE_SHIFT", type := .int, accessFlags := 26, slot := 0, constantValue := 0 }, { name := "LO_BYTE_SHIFT", type := .int, accessFlags := 26, slot := 1, constantValue := 0 }, { name := "MAX_LENGTH", type := .int, accessFlags := 24, slot := 2, constantValue := 0 }, { name := "$assertionsDisabled", type := .boolean, accessFlags := 4120, slot := 3, constantValue := 0 }]
  methods := #[k8m0, k8m1, k8m2, k8m3, k8m4, k8m5, k8m6, k8m7, k8m8, k8m9, k8m10, k8m11]
  instanceTypes := #[]
  staticTypes := #[.int, .int, .int, .boolean]
  resolved := Array.replicate 635 none
  statics := some 1 }

def pool9 : Array CpInfo := pool [(2, .class_ 4), (1, u "java/lang/Enum"), (0, u "name"), (0, u "Ljava/lang/String;"), (2, u "ordinal"), (0, u "I"), (1, .class_ 14), (1, u "java/lang/Object"), (4, u "hash"), (86, .class_ 108), (1, u "java/lang/Enum$EnumDesc"), (2, .class_ 112), (0, u "java/lang/constant/Constable"), (0, .class_ 114), (0, u "java/lang/Comparable"), (0, .class_ 116), (0, u "java/io/Serializable")] 87

/-- java/lang/Enum -/
def k9 : Class := { plain "java/lang/Enum" (some 0) with
  accessFlags := 1057
  interfaces := #[5, 3, 2]
  cf := some (fileOf pool9 2 #[.nestMembers #[106]] #[] 1057 12 #[111, 113, 115] #[{ accessFlags := 18, nameIndex := 5, descriptorIndex := 6, attributes := #[] }, { accessFlags := 18, nameIndex := 9, descriptorIndex := 10, attributes := #[] }, { accessFlags := 2, nameIndex := 19, descriptorIndex := 10, attributes := #[] }])
  fields := #[{ name := "name", type := (.object "java/lang/String"), accessFlags := 18, slot := 0, constantValue := 0 }, { name := "ordinal", type := .int, accessFlags := 18, slot := 1, constantValue := 0 }, { name := "hash", type := .int, accessFlags := 2, slot := 2, constantValue := 0 }]
  methods := #[]
  instanceTypes := #[(.object "java/lang/String"), .int, .int]
  staticTypes := #[]
  resolved := Array.replicate 204 none
  statics := none }

def pool10 : Array CpInfo := pool [(1, .class_ 2), (0, u "com/example/savepoint/savepoint/SqlDialect"), (2, u "HSQLDB"), (0, u "Lcom/example/savepoint/savepoint/SqlDialect;"), (2, u "H2"), (2, u "POSTGRESQL"), (2, u "SQLITE"), (2, u "$VALUES"), (0, u "[Lcom/example/savepoint/savepoint/SqlDialect;"), (6, .class_ 28), (1, u "java/lang/Enum"), (6, .class_ 36), (0, u "com/example/savepoint/savepoint/SqlDialect$Syntax"), (9, u "Ljava/util/Set;"), (14, u "PLAIN"), (0, u "Ljava/util/List;"), (0, .methodref 64 65), (0, .class_ 66), (0, .nameAndType 67 68), (0, u "java/lang/String"), (0, u "length"), (0, u "()I"), (0, .methodref 64 70), (0, .nameAndType 71 72), (0, u "charAt"), (0, u "(I)C"), (2, u "MARKS"), (0, u "[Z"), (2, u "ALL"), (23, u "isWord"), (0, u "(Ljava/lang/String;IILjava/lang/String;)Z")] 152

def k10c0 : Code := { maxStack := 3, maxLocals := 8, code := prog_14_method_9_code, exceptionTable := #[], attributes := #[] }
def k10m0 : Method := { name := "isWord", desc := "(Ljava/lang/String;IILjava/lang/String;)Z", sig := { parameters := [(.object "java/lang/String"), .int, .int, (.object "java/lang/String")], returnType := some .boolean }, accessFlags := 8, code := some k10c0 }
/-- com/example/savepoint/savepoint/SqlDialect -/
def k10 : Class := { plain "com/example/savepoint/savepoint/SqlDialect" (some 9) with
  accessFlags := 16432
  interfaces := #[]
  cf := some (fileOf pool10 1 #[.nestMembers #[35]] #[{ accessFlags := 8, nameIndex := 103, descriptorIndex := 104, attributes := #[] }] 16432 26 #[] #[{ accessFlags := 16409, nameIndex := 5, descriptorIndex := 6, attributes := #[] }, { accessFlags := 16409, nameIndex := 9, descriptorIndex := 6, attributes := #[] }, { accessFlags := 16409, nameIndex := 12, descriptorIndex := 6, attributes := #[] }, { accessFlags := 16409, nameIndex := 15, descriptorIndex := 6, attributes := #[] }, { accessFlags := 26, nameIndex := 79, descriptorIndex := 62, attributes := #[] }, { accessFlags := 26, nameIndex := 61, descriptorIndex := 62, attributes := #[] }, { accessFlags := 26, nameIndex := 75, descriptorIndex := 76, attributes := #[] }, { accessFlags := 4122, nameIndex := 18, descriptorIndex := 19, attributes := #[] }])
  fields := #[{ name := "HSQLDB", type := (.object "com/example/savepoint/savepoint/SqlDialect"), accessFlags := 16409, slot := 0, constantValue := 0 }, { name := "H2", type := (.object "com/example/savepoint/savepoint/SqlDialect"), accessFlags := 16409, slot := 1, constantValue := 0 }, { name := "POSTGRESQL", type := (.object "com/example/savepoint/savepoint/SqlDialect"), accessFlags := 16409, slot := 2, constantValue := 0 }, { name := "SQLITE", type := (.object "com/example/savepoint/savepoint/SqlDialect"), accessFlags := 16409, slot := 3, constantValue := 0 }, { name := "ALL", type := (.object "java/util/List"), accessFlags := 26, slot := 4, constantValue := 0 }, { name := "PLAIN", type := (.object "java/util/List"), accessFlags := 26, slot := 5, constantValue := 0 }, { name := "MARKS", type := (.array .boolean), accessFlags := 26, slot := 6, constantValue := 0 }, { name := "$VALUES", type := (.array (.object "com/example/savepoint/savepoint/SqlDialect")), accessFlags := 4122, slot := 7, constantValue := 0 }]
  methods := #[k10m0]
  instanceTypes := #[(.object "java/lang/String"), .int, .int]
  staticTypes := #[(.object "com/example/savepoint/savepoint/SqlDialect"), (.object "com/example/savepoint/savepoint/SqlDialect"), (.object "com/example/savepoint/savepoint/SqlDialect"), (.object "com/example/savepoint/savepoint/SqlDialect"), (.object "java/util/List"), (.object "java/util/List"), (.array .boolean), (.array (.object "com/example/savepoint/savepoint/SqlDialect"))]
  resolved := Array.replicate 257 none
  statics := none }

def pool11 : Array CpInfo := pool [(1, .class_ 2), (0, u "java/lang/String"), (1, .class_ 6), (1, u "java/lang/Object"), (0, u "<init>"), (0, u "()V"), (0, .methodref 1 10), (0, .nameAndType 11 12), (0, u "checkIndex"), (0, u "(II)V"), (1, .class_ 16), (1, u "java/lang/StringLatin1"), (36, u "([BI)C"), (67, u "$assertionsDisabled"), (0, u "Z"), (98, .class_ 223), (1, u "java/lang/StringLatin1$LinesSpliterator"), (28, u "charAt"), (137, .class_ 391), (0, u "java/lang/StringLatin1$CharsSpliterator")] 3

def k11m0 : Method := { name := "<init>", desc := "()V", sig := { parameters := [], returnType := none }, accessFlags := 0, code := none }
def k11c1 : Code := { maxStack := 2, maxLocals := 2, code := jdk_43_method_2_code, exceptionTable := #[], attributes := #[] }
def k11m1 : Method := { name := "charAt", desc := "([BI)C", sig := { parameters := [(.array .byte), .int], returnType := some .char }, accessFlags := 9, code := some k11c1 }
/-- java/lang/StringLatin1 -/
def k11 : Class := { plain "java/lang/StringLatin1" (some 0) with
  accessFlags := 48
  interfaces := #[]
  cf := some (fileOf pool11 14 #[.nestMembers #[390, 221]] #[{ accessFlags := 0, nameIndex := 7, descriptorIndex := 8, attributes := #[] }, { accessFlags := 9, nameIndex := 252, descriptorIndex := 53, attributes := #[] }] 48 4 #[] #[{ accessFlags := 4120, nameIndex := 121, descriptorIndex := 122, attributes := #[] }])
  fields := #[{ name := "$assertionsDisabled", type := .boolean, accessFlags := 4120, slot := 0, constantValue := 0 }]
  methods := #[k11m0, k11m1]
  instanceTypes := #[]
  staticTypes := #[.boolean]
  resolved := Array.replicate 395 none
  statics := none }

def pool12 : Array CpInfo := pool [(2, .class_ 4), (1, u "java/lang/Object"), (0, u "<init>"), (0, u "()V"), (17, .class_ 26), (1, u "jdk/internal/util/Preconditions"), (6, u "checkIndex"), (21, .class_ 56), (0, u "jdk/internal/util/Preconditions$4"), (57, .class_ 115), (0, u "jdk/internal/util/Preconditions$1"), (7, u "SIOOBE_FORMATTER"), (0, u "Ljava/util/function/BiFunction;"), (0, .class_ 126), (0, u "jdk/internal/util/Preconditions$2"), (3, u "AIOOBE_FORMATTER"), (0, .class_ 132), (0, u "jdk/internal/util/Preconditions$3"), (3, u "IOOBE_FORMATTER"), (41, u "(IILjava/util/function/BiFunction;)I")] 15

def k12m0 : Method := { name := "<init>", desc := "()V", sig := { parameters := [], returnType := none }, accessFlags := 1, code := none }
def k12c1 : Code := { maxStack := 3, maxLocals := 3, code := jdk_41_method_11_code, exceptionTable := #[], attributes := #[] }
def k12m1 : Method := { name := "checkIndex", desc := "(IILjava/util/function/BiFunction;)I", sig := { parameters := [.int, .int, (.object "java/util/function/BiFunction")], returnType := some .int }, accessFlags := 9, code := some k12c1 }
/-- jdk/internal/util/Preconditions -/
def k12 : Class := { plain "jdk/internal/util/Preconditions" (some 0) with
  accessFlags := 33
  interfaces := #[]
  cf := some (fileOf pool12 24 #[.nestMembers #[55, 131, 125, 114]] #[{ accessFlags := 1, nameIndex := 5, descriptorIndex := 6, attributes := #[] }, { accessFlags := 9, nameIndex := 33, descriptorIndex := 178, attributes := #[] }] 33 2 #[] #[{ accessFlags := 25, nameIndex := 123, descriptorIndex := 124, attributes := #[] }, { accessFlags := 25, nameIndex := 130, descriptorIndex := 124, attributes := #[] }, { accessFlags := 25, nameIndex := 136, descriptorIndex := 124, attributes := #[] }])
  fields := #[{ name := "SIOOBE_FORMATTER", type := (.object "java/util/function/BiFunction"), accessFlags := 25, slot := 0, constantValue := 0 }, { name := "AIOOBE_FORMATTER", type := (.object "java/util/function/BiFunction"), accessFlags := 25, slot := 1, constantValue := 0 }, { name := "IOOBE_FORMATTER", type := (.object "java/util/function/BiFunction"), accessFlags := 25, slot := 2, constantValue := 0 }]
  methods := #[k12m0, k12m1]
  instanceTypes := #[]
  staticTypes := #[(.object "java/util/function/BiFunction"), (.object "java/util/function/BiFunction"), (.object "java/util/function/BiFunction")]
  resolved := Array.replicate 194 none
  statics := some 2 }

def pool13 : Array CpInfo := pool [(9, u "<init>"), (6, .class_ 18), (1, u "java/lang/Object"), (0, u "()V"), (1, .class_ 23), (1, u "jdk/internal/util/ArraysSupport"), (0, u "LOG2_ARRAY_LONG_INDEX_SCALE"), (0, u "I"), (2, u "U"), (0, u "Ljdk/internal/misc/Unsafe;"), (8, u "BIG_ENDIAN"), (0, u "Z"), (8, u "LOG2_BYTE_BIT_SIZE"), (4, u "LOG2_ARRAY_INT_INDEX_SCALE"), (54, u "JLA"), (0, u "Ljdk/internal/access/JavaLangAccess;"), (11, u "LOG2_ARRAY_BOOLEAN_INDEX_SCALE"), (9, u "LOG2_ARRAY_BYTE_INDEX_SCALE"), (5, u "LOG2_ARRAY_CHAR_INDEX_SCALE"), (5, u "LOG2_ARRAY_SHORT_INDEX_SCALE"), (18, u "LOG2_ARRAY_FLOAT_INDEX_SCALE"), (24, u "LOG2_ARRAY_DOUBLE_INDEX_SCALE"), (89, u "T_BOOLEAN"), (2, u "T_CHAR"), (1, u "T_FLOAT"), (1, u "T_DOUBLE"), (1, u "T_BYTE"), (1, u "T_SHORT"), (1, u "T_INT"), (1, u "T_LONG"), (1, u "SOFT_MAX_ARRAY_LENGTH")] 83

def k13m0 : Method := { name := "<init>", desc := "()V", sig := { parameters := [], returnType := none }, accessFlags := 2, code := none }
/-- jdk/internal/util/ArraysSupport -/
def k13 : Class := { plain "jdk/internal/util/ArraysSupport" (some 0) with
  accessFlags := 33
  interfaces := #[]
  cf := some (fileOf pool13 21 #[] #[{ accessFlags := 2, nameIndex := 9, descriptorIndex := 19, attributes := #[] }] 33 16 #[] #[{ accessFlags := 24, nameIndex := 28, descriptorIndex := 29, attributes := #[] }, { accessFlags := 26, nameIndex := 38, descriptorIndex := 39, attributes := #[] }, { accessFlags := 25, nameIndex := 121, descriptorIndex := 25, attributes := #[] }, { accessFlags := 25, nameIndex := 131, descriptorIndex := 25, attributes := #[] }, { accessFlags := 25, nameIndex := 137, descriptorIndex := 25, attributes := #[] }, { accessFlags := 25, nameIndex := 143, descriptorIndex := 25, attributes := #[] }, { accessFlags := 25, nameIndex := 53, descriptorIndex := 25, attributes := #[] }, { accessFlags := 25, nameIndex := 24, descriptorIndex := 25, attributes := #[] }, { accessFlags := 25, nameIndex := 162, descriptorIndex := 25, attributes := #[] }, { accessFlags := 25, nameIndex := 187, descriptorIndex := 25, attributes := #[] }, { accessFlags := 26, nameIndex := 48, descriptorIndex := 25, attributes := #[] }, { accessFlags := 25, nameIndex := 277, descriptorIndex := 25, attributes := #[] }, { accessFlags := 25, nameIndex := 280, descriptorIndex := 25, attributes := #[] }, { accessFlags := 25, nameIndex := 282, descriptorIndex := 25, attributes := #[] }, { accessFlags := 25, nameIndex := 284, descriptorIndex := 25, attributes := #[] }, { accessFlags := 25, nameIndex := 286, descriptorIndex := 25, attributes := #[] }, { accessFlags := 25, nameIndex := 288, descriptorIndex := 25, attributes := #[] }, { accessFlags := 25, nameIndex := 290, descriptorIndex := 25, attributes := #[] }, { accessFlags := 25, nameIndex := 292, descriptorIndex := 25, attributes := #[] }, { accessFlags := 26, nameIndex := 108, descriptorIndex := 109, attributes := #[] }, { accessFlags := 25, nameIndex := 294, descriptorIndex := 25, attributes := #[] }])
  fields := #[{ name := "U", type := (.object "jdk/internal/misc/Unsafe"), accessFlags := 24, slot := 0, constantValue := 0 }, { name := "BIG_ENDIAN", type := .boolean, accessFlags := 26, slot := 1, constantValue := 0 }, { name := "LOG2_ARRAY_BOOLEAN_INDEX_SCALE", type := .int, accessFlags := 25, slot := 2, constantValue := 0 }, { name := "LOG2_ARRAY_BYTE_INDEX_SCALE", type := .int, accessFlags := 25, slot := 3, constantValue := 0 }, { name := "LOG2_ARRAY_CHAR_INDEX_SCALE", type := .int, accessFlags := 25, slot := 4, constantValue := 0 }, { name := "LOG2_ARRAY_SHORT_INDEX_SCALE", type := .int, accessFlags := 25, slot := 5, constantValue := 0 }, { name := "LOG2_ARRAY_INT_INDEX_SCALE", type := .int, accessFlags := 25, slot := 6, constantValue := 0 }, { name := "LOG2_ARRAY_LONG_INDEX_SCALE", type := .int, accessFlags := 25, slot := 7, constantValue := 0 }, { name := "LOG2_ARRAY_FLOAT_INDEX_SCALE", type := .int, accessFlags := 25, slot := 8, constantValue := 0 }, { name := "LOG2_ARRAY_DOUBLE_INDEX_SCALE", type := .int, accessFlags := 25, slot := 9, constantValue := 0 }, { name := "LOG2_BYTE_BIT_SIZE", type := .int, accessFlags := 26, slot := 10, constantValue := 0 }, { name := "T_BOOLEAN", type := .int, accessFlags := 25, slot := 11, constantValue := 0 }, { name := "T_CHAR", type := .int, accessFlags := 25, slot := 12, constantValue := 0 }, { name := "T_FLOAT", type := .int, accessFlags := 25, slot := 13, constantValue := 0 }, { name := "T_DOUBLE", type := .int, accessFlags := 25, slot := 14, constantValue := 0 }, { name := "T_BYTE", type := .int, accessFlags := 25, slot := 15, constantValue := 0 }, { name := "T_SHORT", type := .int, accessFlags := 25, slot := 16, constantValue := 0 }, { name := "T_INT", type := .int, accessFlags := 25, slot := 17, constantValue := 0 }, { name := "T_LONG", type := .int, accessFlags := 25, slot := 18, constantValue := 0 }, { name := "JLA", type := (.object "jdk/internal/access/JavaLangAccess"), accessFlags := 26, slot := 19, constantValue := 0 }, { name := "SOFT_MAX_ARRAY_LENGTH", type := .int, accessFlags := 25, slot := 20, constantValue := 0 }]
  methods := #[k13m0]
  instanceTypes := #[]
  staticTypes := #[(.object "jdk/internal/misc/Unsafe"), .boolean, .int, .int, .int, .int, .int, .int, .int, .int, .int, .int, .int, .int, .int, .int, .int, .int, .int, (.object "jdk/internal/access/JavaLangAccess"), .int]
  resolved := Array.replicate 378 none
  statics := none }

def pool14 : Array CpInfo := pool [(1, u "java/lang/Cloneable"), (0, .class_ 1), (0, u "java/lang/Object"), (0, .class_ 3)] 3

/-- java/lang/Cloneable -/
def k14 : Class := { plain "java/lang/Cloneable" (some 0) with
  accessFlags := 1537
  interfaces := #[]
  cf := some (fileOf pool14 2 #[] #[] 1537 4 #[] #[])
  fields := #[]
  methods := #[]
  instanceTypes := #[]
  staticTypes := #[]
  resolved := Array.replicate 8 none
  statics := none }

/-- the primitive byte -/
def k15 : Class := { plain "byte" none with kind := .primitive 'B', accessFlags := 0x411 }
/-- [B -/
def k16 : Class := { plain "[B" (some 0) with kind := .array 15 .byte, interfaces := #[14, 2], accessFlags := 1041 }

/-- the primitive char -/
def k17 : Class := { plain "char" none with kind := .primitive 'C', accessFlags := 0x411 }
/-- [C -/
def k18 : Class := { plain "[C" (some 0) with kind := .array 17 .char, interfaces := #[14, 2], accessFlags := 1041 }

def heap : Heap := #[{ cls := 7, slots := #[.long 0, .int 1, .null, .int 0, .null, .int 0, .int 0], vm := .statics 7 },
  { cls := 8, slots := #[.int 0, .int 8, .int 0, .int 1], vm := .statics 8 },
  { cls := 12, slots := #[.null, .null, .null], vm := .statics 12 }]
def classes : Array Class := #[k0, k1, k2, k3, k4, k5, k6, k7, k8, k9, k10, k11, k12, k13, k14, k15, k16, k17, k18]
def interned : List (Array UInt16 × Addr) := []
def slotsUsed : Nat := 14
def theMethod : MethodId := ⟨1, 2⟩
def args0 : Array Value := #[.long 5, .int 2, .int 131, .int 70000, .int 9]
def aboutOver (below : List Frame) : State where
  vm := { classes := classes, interned := interned.toArray }
  heap := heap
  slotsUsed := slotsUsed
  threads := #[{ frames := .invoking theMethod args0 :: below }]
def below0 : List Frame := [.native { method := ⟨0, 0⟩, args := #[] }]
def about1 : State := aboutOver below0
def p0 : Program := .bare "" "" ""
def e0 : Env := launch0.env 0 0 0
theorem w_frames : about1.frames = Frame.invoking theMethod args0 :: below0 := rfl
set_option maxRecDepth 65536 in
theorem w_args : argsFit about1.vm theMethod args0 = true := by decide +kernel
set_option maxRecDepth 65536 in
theorem w_heap : heapFits about1 = true := by decide +kernel
set_option maxRecDepth 65536 in
theorem w_runnable : about1.curStatus? = some .runnable := by decide +kernel
set_option maxRecDepth 65536 in
theorem w_alone : about1.alone = true := by decide +kernel
set_option maxRecDepth 65536 in
theorem w_named : about1.methodNamed? x = some theMethod := by decide +kernel
set_option maxRecDepth 65536 in
theorem w_hears : about1.hears theMethod below0 = true := by decide +kernel
set_option maxRecDepth 65536 in
theorem w_ripe : about1.ripe theMethod args0 below0 = true := by decide +kernel
theorem w_running : about1.status = .running := rfl
set_option maxRecDepth 65536 in
theorem w_room : about1.hasRoom e0.platform room_1 = true :=
  launch0.hasRoom_least _ room_1 (by decide +kernel) (by decide +kernel) (by decide +kernel) (by decide +kernel) (by decide +kernel) (by decide +kernel)
theorem allAtoms_all (ts : List Jvm.Cond) (a : Array Jvm.Value) (st : Jvm.State) : (allAtoms ts).before a st = ts.all (fun c => c.before a st) := by
  induction ts with
  | nil => rfl
  | cons c t ih =>
    show (Jvm.Cond.and c (allAtoms t)).before a st = _
    rw [Jvm.Cond.before_and, ih, List.all_cons]
def words1 : List Jvm.Cond := Jvm.Cond.code x code maxLocals ret :: tables_1
/-- a 'code' word, met by the world's own term for the bytes: nothing is compared byte by byte -/
theorem code_word {y : MethodName} {bytes : ByteArray} {mx : Nat} {rt : Option FieldType} {a : Array Value} {s : State} {m : MethodId} {meth : Method} {c : Code} (h1 : s.methodNamed? y = some m) (h2 : s.vm.method? m = some meth) (h3 : meth.code = some c) (h4 : c.code = bytes)
    (h5 : (c.maxLocals == mx && c.exceptionTable.isEmpty && decide (c.maxStack ≤ mostOperands) && decide (meth.sig.returnType = rt) && !meth.locks && decide (parseMethodDescriptor y.desc = some meth.sig)) = true) : (Jvm.Cond.code y bytes mx rt).before a s = true := by
  simp only [Bool.and_eq_true, beq_iff_eq, Bool.not_eq_true', decide_eq_true_eq] at h5
  obtain ⟨⟨⟨⟨⟨g1, g2⟩, g3⟩, g4⟩, g5⟩, g6⟩ := h5
  simp [Cond.before, Cond.holds, Cond.value, h1, h2, h3, h4, g1, g2, g3, g4, g5, g6]
def isCode : Jvm.Cond → Bool
  | .code _ _ _ _ => true
  | _ => false
theorem all_split {L : List Jvm.Cond} {P : Jvm.Cond → Bool} (h1 : L.all (fun c => isCode c || P c) = true) (h2 : ∀ c ∈ L.filter isCode, P c = true) : L.all P = true := by
  refine List.all_eq_true.mpr fun c hc => ?_
  have h := List.all_eq_true.mp h1 c hc
  rcases Bool.eq_false_or_eq_true (isCode c) with hi | hi
  · exact h2 c (List.mem_filter.mpr ⟨hc, hi⟩)
  · simpa [hi] using h
set_option maxRecDepth 65536 in
theorem w_c0 : (Jvm.Cond.code x code maxLocals ret).before args0 about1 = true := code_word (m := ⟨1, 2⟩) (meth := k1m2) (c := k1c2) (by decide +kernel) rfl rfl rfl (by decide +kernel)
set_option maxRecDepth 65536 in
theorem w_c1 : (Jvm.Cond.code ({ cls := "java/lang/String", name := "<init>", desc := "([C)V" } : Jvm.MethodName) jdk_42_method_3_code (2 : Nat) (Option.none : Option Jvm.ClassFile.FieldType)).before args0 about1 = true := code_word (m := ⟨7, 1⟩) (meth := k7m1) (c := k7c1) (by decide +kernel) rfl rfl rfl (by decide +kernel)
set_option maxRecDepth 65536 in
theorem w_c2 : (Jvm.Cond.code ({ cls := "java/lang/String", name := "<init>", desc := "([CIILjava/lang/Void;)V" } : Jvm.MethodName) jdk_42_method_149_code (6 : Nat) (Option.none : Option Jvm.ClassFile.FieldType)).before args0 about1 = true := code_word (m := ⟨7, 4⟩) (meth := k7m4) (c := k7c4) (by decide +kernel) rfl rfl rfl (by decide +kernel)
set_option maxRecDepth 65536 in
theorem w_c3 : (Jvm.Cond.code ({ cls := "java/lang/Object", name := "<init>", desc := "()V" } : Jvm.MethodName) object_method_1_code (1 : Nat) (Option.none : Option Jvm.ClassFile.FieldType)).before args0 about1 = true := code_word (m := ⟨0, 0⟩) (meth := k0m0) (c := k0c0) (by decide +kernel) rfl rfl rfl (by decide +kernel)
set_option maxRecDepth 65536 in
theorem w_c4 : (Jvm.Cond.code ({ cls := "java/lang/StringUTF16", name := "compress", desc := "([CII)[B" } : Jvm.MethodName) jdk_52_method_16_code (6 : Nat) (Option.some (Jvm.ClassFile.FieldType.array Jvm.ClassFile.FieldType.byte))).before args0 about1 = true := code_word (m := ⟨8, 8⟩) (meth := k8m8) (c := k8c8) (by decide +kernel) rfl rfl rfl (by decide +kernel)
set_option maxRecDepth 65536 in
theorem w_c5 : (Jvm.Cond.code ({ cls := "java/lang/StringUTF16", name := "compress", desc := "([CI[BII)I" } : Jvm.MethodName) jdk_52_method_21_code (7 : Nat) (Option.some Jvm.ClassFile.FieldType.int)).before args0 about1 = true := code_word (m := ⟨8, 9⟩) (meth := k8m9) (c := k8c9) (by decide +kernel) rfl rfl rfl (by decide +kernel)
set_option maxRecDepth 65536 in
theorem w_c6 : (Jvm.Cond.code ({ cls := "java/lang/StringUTF16", name := "coderFromArrayLen", desc := "([BI)B" } : Jvm.MethodName) jdk_52_method_15_code (2 : Nat) (Option.some Jvm.ClassFile.FieldType.byte)).before args0 about1 = true := code_word (m := ⟨8, 7⟩) (meth := k8m7) (c := k8c7) (by decide +kernel) rfl rfl rfl (by decide +kernel)
set_option maxRecDepth 65536 in
theorem w_c7 : (Jvm.Cond.code ({ cls := "com/example/savepoint/savepoint/SqlDialect", name := "isWord", desc := "(Ljava/lang/String;IILjava/lang/String;)Z" } : Jvm.MethodName) prog_14_method_9_code (8 : Nat) (Option.some Jvm.ClassFile.FieldType.boolean)).before args0 about1 = true := code_word (m := ⟨10, 0⟩) (meth := k10m0) (c := k10c0) (by decide +kernel) rfl rfl rfl (by decide +kernel)
set_option maxRecDepth 65536 in
theorem w_c8 : (Jvm.Cond.code ({ cls := "java/lang/String", name := "length", desc := "()I" } : Jvm.MethodName) jdk_42_method_54_code (1 : Nat) (Option.some Jvm.ClassFile.FieldType.int)).before args0 about1 = true := code_word (m := ⟨7, 2⟩) (meth := k7m2) (c := k7c2) (by decide +kernel) rfl rfl rfl (by decide +kernel)
set_option maxRecDepth 65536 in
theorem w_c9 : (Jvm.Cond.code ({ cls := "java/lang/String", name := "coder", desc := "()B" } : Jvm.MethodName) jdk_42_method_152_code (1 : Nat) (Option.some Jvm.ClassFile.FieldType.byte)).before args0 about1 = true := code_word (m := ⟨7, 5⟩) (meth := k7m5) (c := k7c5) (by decide +kernel) rfl rfl rfl (by decide +kernel)
set_option maxRecDepth 65536 in
theorem w_c10 : (Jvm.Cond.code ({ cls := "java/lang/String", name := "charAt", desc := "(I)C" } : Jvm.MethodName) jdk_42_method_56_code (2 : Nat) (Option.some Jvm.ClassFile.FieldType.char)).before args0 about1 = true := code_word (m := ⟨7, 3⟩) (meth := k7m3) (c := k7c3) (by decide +kernel) rfl rfl rfl (by decide +kernel)
set_option maxRecDepth 65536 in
theorem w_c11 : (Jvm.Cond.code ({ cls := "java/lang/String", name := "isLatin1", desc := "()Z" } : Jvm.MethodName) jdk_42_method_154_code (1 : Nat) (Option.some Jvm.ClassFile.FieldType.boolean)).before args0 about1 = true := code_word (m := ⟨7, 6⟩) (meth := k7m6) (c := k7c6) (by decide +kernel) rfl rfl rfl (by decide +kernel)
set_option maxRecDepth 65536 in
theorem w_c12 : (Jvm.Cond.code ({ cls := "java/lang/StringLatin1", name := "charAt", desc := "([BI)C" } : Jvm.MethodName) jdk_43_method_2_code (2 : Nat) (Option.some Jvm.ClassFile.FieldType.char)).before args0 about1 = true := code_word (m := ⟨11, 1⟩) (meth := k11m1) (c := k11c1) (by decide +kernel) rfl rfl rfl (by decide +kernel)
set_option maxRecDepth 65536 in
theorem w_c13 : (Jvm.Cond.code ({ cls := "java/lang/String", name := "checkIndex", desc := "(II)V" } : Jvm.MethodName) jdk_42_method_155_code (2 : Nat) (Option.none : Option Jvm.ClassFile.FieldType)).before args0 about1 = true := code_word (m := ⟨7, 7⟩) (meth := k7m7) (c := k7c7) (by decide +kernel) rfl rfl rfl (by decide +kernel)
set_option maxRecDepth 65536 in
theorem w_c14 : (Jvm.Cond.code ({ cls := "jdk/internal/util/Preconditions", name := "checkIndex", desc := "(IILjava/util/function/BiFunction;)I" } : Jvm.MethodName) jdk_41_method_11_code (3 : Nat) (Option.some Jvm.ClassFile.FieldType.int)).before args0 about1 = true := code_word (m := ⟨12, 1⟩) (meth := k12m1) (c := k12c1) (by decide +kernel) rfl rfl rfl (by decide +kernel)
set_option maxRecDepth 65536 in
theorem w_c15 : (Jvm.Cond.code ({ cls := "com/example/savepoint/savepoint/SqlDialectIsWordPinLaw", name := "m", desc := "(CC)Z" } : Jvm.MethodName) method_2_code (2 : Nat) (Option.some Jvm.ClassFile.FieldType.boolean)).before args0 about1 = true := code_word (m := ⟨1, 1⟩) (meth := k1m1) (c := k1c1) (by decide +kernel) rfl rfl rfl (by decide +kernel)
set_option maxRecDepth 65536 in
theorem w_c16 : (Jvm.Cond.code ({ cls := "java/lang/StringUTF16", name := "toBytes", desc := "([CII)[B" } : Jvm.MethodName) jdk_52_method_14_code (5 : Nat) (Option.some (Jvm.ClassFile.FieldType.array Jvm.ClassFile.FieldType.byte))).before args0 about1 = true := code_word (m := ⟨8, 6⟩) (meth := k8m6) (c := k8c6) (by decide +kernel) rfl rfl rfl (by decide +kernel)
set_option maxRecDepth 65536 in
theorem w_c17 : (Jvm.Cond.code ({ cls := "java/lang/StringUTF16", name := "newBytesFor", desc := "(I)[B" } : Jvm.MethodName) jdk_52_method_2_code (1 : Nat) (Option.some (Jvm.ClassFile.FieldType.array Jvm.ClassFile.FieldType.byte))).before args0 about1 = true := code_word (m := ⟨8, 1⟩) (meth := k8m1) (c := k8c1) (by decide +kernel) rfl rfl rfl (by decide +kernel)
set_option maxRecDepth 65536 in
theorem w_c18 : (Jvm.Cond.code ({ cls := "java/lang/StringUTF16", name := "newBytesLength", desc := "(I)I" } : Jvm.MethodName) jdk_52_method_3_code (1 : Nat) (Option.some Jvm.ClassFile.FieldType.int)).before args0 about1 = true := code_word (m := ⟨8, 2⟩) (meth := k8m2) (c := k8c2) (by decide +kernel) rfl rfl rfl (by decide +kernel)
set_option maxRecDepth 65536 in
theorem w_c19 : (Jvm.Cond.code ({ cls := "java/lang/StringUTF16", name := "putChar", desc := "([BII)V" } : Jvm.MethodName) jdk_52_method_4_code (3 : Nat) (Option.none : Option Jvm.ClassFile.FieldType)).before args0 about1 = true := code_word (m := ⟨8, 3⟩) (meth := k8m3) (c := k8c3) (by decide +kernel) rfl rfl rfl (by decide +kernel)
set_option maxRecDepth 65536 in
theorem w_c20 : (Jvm.Cond.code ({ cls := "java/lang/StringUTF16", name := "getChar", desc := "([BI)C" } : Jvm.MethodName) jdk_52_method_5_code (2 : Nat) (Option.some Jvm.ClassFile.FieldType.char)).before args0 about1 = true := code_word (m := ⟨8, 4⟩) (meth := k8m4) (c := k8c4) (by decide +kernel) rfl rfl rfl (by decide +kernel)
set_option maxRecDepth 65536 in
theorem w_c21 : (Jvm.Cond.code ({ cls := "java/lang/StringUTF16", name := "charAt", desc := "([BI)C" } : Jvm.MethodName) jdk_52_method_83_code (2 : Nat) (Option.some Jvm.ClassFile.FieldType.char)).before args0 about1 = true := code_word (m := ⟨8, 10⟩) (meth := k8m10) (c := k8c10) (by decide +kernel) rfl rfl rfl (by decide +kernel)
set_option maxRecDepth 65536 in
theorem w_c22 : (Jvm.Cond.code ({ cls := "java/lang/StringUTF16", name := "checkIndex", desc := "(I[B)V" } : Jvm.MethodName) jdk_52_method_91_code (2 : Nat) (Option.none : Option Jvm.ClassFile.FieldType)).before args0 about1 = true := code_word (m := ⟨8, 11⟩) (meth := k8m11) (c := k8c11) (by decide +kernel) rfl rfl rfl (by decide +kernel)
set_option maxRecDepth 65536 in
theorem w_c23 : (Jvm.Cond.code ({ cls := "java/lang/StringUTF16", name := "length", desc := "([B)I" } : Jvm.MethodName) jdk_52_method_6_code (1 : Nat) (Option.some Jvm.ClassFile.FieldType.int)).before args0 about1 = true := code_word (m := ⟨8, 5⟩) (meth := k8m5) (c := k8c5) (by decide +kernel) rfl rfl rfl (by decide +kernel)
def codes1 : List Jvm.Cond := [Jvm.Cond.code x code maxLocals ret, Jvm.Cond.code ({ cls := "java/lang/String", name := "<init>", desc := "([C)V" } : Jvm.MethodName) jdk_42_method_3_code (2 : Nat) (Option.none : Option Jvm.ClassFile.FieldType), Jvm.Cond.code ({ cls := "java/lang/String", name := "<init>", desc := "([CIILjava/lang/Void;)V" } : Jvm.MethodName) jdk_42_method_149_code (6 : Nat) (Option.none : Option Jvm.ClassFile.FieldType), Jvm.Cond.code ({ cls := "java/lang/Object", name := "<init>", desc := "()V" } : Jvm.MethodName) object_method_1_code (1 : Nat) (Option.none : Option Jvm.ClassFile.FieldType), Jvm.Cond.code ({ cls := "java/lang/StringUTF16", name := "compress", desc := "([CII)[B" } : Jvm.MethodName) jdk_52_method_16_code (6 : Nat) (Option.some (Jvm.ClassFile.FieldType.array Jvm.ClassFile.FieldType.byte)), Jvm.Cond.code ({ cls := "java/lang/StringUTF16", name := "compress", desc := "([CI[BII)I" } : Jvm.MethodName) jdk_52_method_21_code (7 : Nat) (Option.some Jvm.ClassFile.FieldType.int), Jvm.Cond.code ({ cls := "java/lang/StringUTF16", name := "coderFromArrayLen", desc := "([BI)B" } : Jvm.MethodName) jdk_52_method_15_code (2 : Nat) (Option.some Jvm.ClassFile.FieldType.byte), Jvm.Cond.code ({ cls := "com/example/savepoint/savepoint/SqlDialect", name := "isWord", desc := "(Ljava/lang/String;IILjava/lang/String;)Z" } : Jvm.MethodName) prog_14_method_9_code (8 : Nat) (Option.some Jvm.ClassFile.FieldType.boolean), Jvm.Cond.code ({ cls := "java/lang/String", name := "length", desc := "()I" } : Jvm.MethodName) jdk_42_method_54_code (1 : Nat) (Option.some Jvm.ClassFile.FieldType.int), Jvm.Cond.code ({ cls := "java/lang/String", name := "coder", desc := "()B" } : Jvm.MethodName) jdk_42_method_152_code (1 : Nat) (Option.some Jvm.ClassFile.FieldType.byte), Jvm.Cond.code ({ cls := "java/lang/String", name := "charAt", desc := "(I)C" } : Jvm.MethodName) jdk_42_method_56_code (2 : Nat) (Option.some Jvm.ClassFile.FieldType.char), Jvm.Cond.code ({ cls := "java/lang/String", name := "isLatin1", desc := "()Z" } : Jvm.MethodName) jdk_42_method_154_code (1 : Nat) (Option.some Jvm.ClassFile.FieldType.boolean), Jvm.Cond.code ({ cls := "java/lang/StringLatin1", name := "charAt", desc := "([BI)C" } : Jvm.MethodName) jdk_43_method_2_code (2 : Nat) (Option.some Jvm.ClassFile.FieldType.char), Jvm.Cond.code ({ cls := "java/lang/String", name := "checkIndex", desc := "(II)V" } : Jvm.MethodName) jdk_42_method_155_code (2 : Nat) (Option.none : Option Jvm.ClassFile.FieldType), Jvm.Cond.code ({ cls := "jdk/internal/util/Preconditions", name := "checkIndex", desc := "(IILjava/util/function/BiFunction;)I" } : Jvm.MethodName) jdk_41_method_11_code (3 : Nat) (Option.some Jvm.ClassFile.FieldType.int), Jvm.Cond.code ({ cls := "com/example/savepoint/savepoint/SqlDialectIsWordPinLaw", name := "m", desc := "(CC)Z" } : Jvm.MethodName) method_2_code (2 : Nat) (Option.some Jvm.ClassFile.FieldType.boolean), Jvm.Cond.code ({ cls := "java/lang/StringUTF16", name := "toBytes", desc := "([CII)[B" } : Jvm.MethodName) jdk_52_method_14_code (5 : Nat) (Option.some (Jvm.ClassFile.FieldType.array Jvm.ClassFile.FieldType.byte)), Jvm.Cond.code ({ cls := "java/lang/StringUTF16", name := "newBytesFor", desc := "(I)[B" } : Jvm.MethodName) jdk_52_method_2_code (1 : Nat) (Option.some (Jvm.ClassFile.FieldType.array Jvm.ClassFile.FieldType.byte)), Jvm.Cond.code ({ cls := "java/lang/StringUTF16", name := "newBytesLength", desc := "(I)I" } : Jvm.MethodName) jdk_52_method_3_code (1 : Nat) (Option.some Jvm.ClassFile.FieldType.int), Jvm.Cond.code ({ cls := "java/lang/StringUTF16", name := "putChar", desc := "([BII)V" } : Jvm.MethodName) jdk_52_method_4_code (3 : Nat) (Option.none : Option Jvm.ClassFile.FieldType), Jvm.Cond.code ({ cls := "java/lang/StringUTF16", name := "getChar", desc := "([BI)C" } : Jvm.MethodName) jdk_52_method_5_code (2 : Nat) (Option.some Jvm.ClassFile.FieldType.char), Jvm.Cond.code ({ cls := "java/lang/StringUTF16", name := "charAt", desc := "([BI)C" } : Jvm.MethodName) jdk_52_method_83_code (2 : Nat) (Option.some Jvm.ClassFile.FieldType.char), Jvm.Cond.code ({ cls := "java/lang/StringUTF16", name := "checkIndex", desc := "(I[B)V" } : Jvm.MethodName) jdk_52_method_91_code (2 : Nat) (Option.none : Option Jvm.ClassFile.FieldType), Jvm.Cond.code ({ cls := "java/lang/StringUTF16", name := "length", desc := "([B)I" } : Jvm.MethodName) jdk_52_method_6_code (1 : Nat) (Option.some Jvm.ClassFile.FieldType.int)]
set_option maxRecDepth 65536 in
theorem codes_eq : words1.filter isCode = codes1 := rfl
theorem w_codes : ∀ c ∈ words1.filter isCode, c.before args0 about1 = true := by
  rw [codes_eq]
  intro c hc
  simp only [codes1, List.mem_cons, List.not_mem_nil, or_false] at hc
  rcases hc with rfl | rfl | rfl | rfl | rfl | rfl | rfl | rfl | rfl | rfl | rfl | rfl | rfl | rfl | rfl | rfl | rfl | rfl | rfl | rfl | rfl | rfl | rfl | rfl
  · exact w_c0
  · exact w_c1
  · exact w_c2
  · exact w_c3
  · exact w_c4
  · exact w_c5
  · exact w_c6
  · exact w_c7
  · exact w_c8
  · exact w_c9
  · exact w_c10
  · exact w_c11
  · exact w_c12
  · exact w_c13
  · exact w_c14
  · exact w_c15
  · exact w_c16
  · exact w_c17
  · exact w_c18
  · exact w_c19
  · exact w_c20
  · exact w_c21
  · exact w_c22
  · exact w_c23
set_option maxRecDepth 65536 in
theorem w_t1 : (words1.take 24).all (fun c => isCode c || c.before args0 about1) = true := by decide +kernel
set_option maxRecDepth 65536 in
theorem w_t2 : ((words1.drop 24).take 24).all (fun c => isCode c || c.before args0 about1) = true := by decide +kernel
set_option maxRecDepth 65536 in
theorem w_t3 : (((words1.drop 24).drop 24).take 24).all (fun c => isCode c || c.before args0 about1) = true := by decide +kernel
set_option maxRecDepth 65536 in
theorem w_t4 : ((((words1.drop 24).drop 24).drop 24).take 24).all (fun c => isCode c || c.before args0 about1) = true := by decide +kernel
set_option maxRecDepth 65536 in
theorem w_t5 : ((((words1.drop 24).drop 24).drop 24).drop 24).all (fun c => isCode c || c.before args0 about1) = true := by decide +kernel
theorem w_tables : (allAtoms (Jvm.Cond.code x code maxLocals ret :: tables_1)).before args0 about1 = true := by
  rw [allAtoms_all]
  show words1.all (fun c => c.before args0 about1) = true
  refine all_split ?_ w_codes
  rw [← List.take_append_drop 24 words1, List.all_append, w_t1, ← List.take_append_drop 24 (words1.drop 24), List.all_append, w_t2, ← List.take_append_drop 24 ((words1.drop 24).drop 24), List.all_append, w_t3, ← List.take_append_drop 24 (((words1.drop 24).drop 24).drop 24), List.all_append, w_t4, w_t5]
  rfl
set_option maxRecDepth 65536 in
theorem w_rest : rest_1_c.before args0 about1 = true := by decide +kernel
set_option maxRecDepth 65536 in
theorem w_case : (Jvm.Cond.and given_1 narrow_1).before args0 about1 = true := by decide +kernel
set_option maxRecDepth 65536 in
theorem w_consts : constsHeld consts_1 about1 := Jvm.Lit.constsHeldB_iff.mp (by decide +kernel)
theorem w_applies : (headSpec (Jvm.Cond.code x code maxLocals ret :: tables_1) room_1).applies x e0.platform about1 = true :=
  (Spec.applies_iff w_frames).mpr ⟨w_running, w_runnable, w_alone, w_named, w_hears, w_ripe, w_room, w_tables⟩
theorem atStart : AtStart classFile x code maxLocals ret World_1 tables_1 room_1 Calls_1 rest_1 Pre_1 launch0 p0 e0 about1 theMethod args0 below0 :=
  ⟨lists_1, trivial, launch0.admits_env _ _ _, launch0.least_env, fairChoices_fair.cas, fairChoices_fair.clock, w_frames, w_args, w_heap, w_applies, ⟨w_consts, trivial⟩, w_rest, w_case⟩
end start1
theorem witness_1 : WitnessClaimed_1 := ⟨start1.p0, start1.e0, start1.about1, start1.theMethod, start1.args0, start1.below0, start1.atStart⟩
end Jvm.Pilot.@@N@@
