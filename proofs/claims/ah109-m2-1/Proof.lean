import JvmDerived
import JvmDerived.Pilot.@@N@@Statement
import JvmDerived.Pilot.@@N@@Code
set_option linter.unusedVariables false
set_option linter.unusedSimpArgs false
namespace Jvm.RoadKit
open Sem ClassFile Op Lib Jvm.Stand Jvm.Free Jvm.LawKit
section New
variable {p : Program} {l : Launch} {e : Env} {R : Room} {s : State} {m : MethodId} {args : Array Value} {below : List Frame} {meth : Method} {c : Code} {T : State} {locs : List Loc} {cells slots : Nat}
theorem retI (X : Stand p l e R s m args below meth c T locs cells slots) (hx : p.tables.exec = Jvm.exec) {pc : Nat} {Ls : Array Slot} {z : Int32} {rest : List Value} (hret : meth.sig.returnType = some .int) (hd : decode c.code pc = .ok (.ireturn, 1)) {fs : List Frame}
    (hl : ∀ (f : JFrame) (acts : List Action), f.method = m → f.locked = none → f.entered = [] → (doReturn e (T.setTop f) acts (some (.int z))).1 = T.setFrames fs) : Steps p.tables e below (T.setTop (mkF m pc Ls (.int z :: rest))) (T.setFrames fs) := by
  have hm' : T.vm.method? m = some meth := X.method'
  have hn : narrow .int (.int z) = .int z := rfl
  show Steps p.tables e below (T.setTop { method := m, pc := pc, locals := Ls, stack := _ :: rest, locked := none }) _
  jvm_step X.here [X.here.top, hx, hd, hm', hret, hn]
  first | (intro acts; rw [hl _ acts rfl rfl rfl]) | rw [hl _ _ rfl rfl rfl]
  exact Steps.refl _
end New
end Jvm.RoadKit
/- laws to paste: Road.lenW, pair_says, chr8_lo8 (cut by pick.py; bodies as the Statement names them) -/
namespace Jvm.Pilot.@@N@@
namespace StrChars
open Jvm Sem ClassFile Op Lib Jvm.Stand Jvm.Free.XT Jvm.Free.ALB Jvm.Free.JM Jvm.Free
open Jvm.Lib.Cold (StaticIs)
/-- the byte that i2b leaves of a char -/
def lo8 (x : Int32) : Int32 := x.toInt8.toInt32
def U16 : String := "java/lang/StringUTF16"
namespace Cmp5
def yN : MethodName := ⟨"java/lang/StringUTF16", "compress", "([CI[BII)I"⟩
abbrev yB : ByteArray := jdk_52_method_21_code
end Cmp5
namespace Cmp3
def yN : MethodName := ⟨"java/lang/StringUTF16", "compress", "([CII)[B"⟩
abbrev yB : ByteArray := jdk_52_method_16_code
end Cmp3
namespace CodL
def yN : MethodName := ⟨"java/lang/StringUTF16", "coderFromArrayLen", "([BI)B"⟩
abbrev yB : ByteArray := jdk_52_method_15_code
end CodL
namespace New4
def yN : MethodName := ⟨"java/lang/String", "<init>", "([CIILjava/lang/Void;)V"⟩
abbrev yB : ByteArray := jdk_42_method_149_code
end New4
namespace New1
def yN : MethodName := ⟨"java/lang/String", "<init>", "([C)V"⟩
abbrev yB : ByteArray := jdk_42_method_3_code
end New1
/-- the byte, read back as charAt reads it, is the char -/
theorem lo8_mask {x : Int32} (h0 : ¬ x < 0) (h1 : ¬ 255 < x) : lo8 x &&& 255 = x := by
  have t : ∀ k : Fin 256, lo8 (Int32.ofNat k.val) &&& 255 = Int32.ofNat k.val := by decide +kernel
  rw [Int32.lt_iff_toInt_lt] at h0 h1
  have e0 : (0 : Int32).toInt = 0 := rfl
  have e1 : (255 : Int32).toInt = 255 := rfl
  obtain ⟨k, hk⟩ : ∃ k : Nat, x.toInt = k := ⟨x.toInt.toNat, by omega⟩
  have hx : x = Int32.ofNat k := Int32.toInt_inj.mp (by rw [hk, Int32.toInt_ofNat_small (by omega)])
  rw [hx]
  exact t ⟨k, by omega⟩
end StrChars
namespace StrChars.Road
open Jvm Sem ClassFile Op Lib Jvm.Stand Jvm.Free Jvm.Free.XT
open Jvm.Lib.Cold (StaticIs)
abbrev ST : String := "java/lang/String"
/-- every table word that New1's law asks, flat -/
abbrev words : List Jvm.Cond := [.code New1.yN New1.yB 2 none, .initialized ST, .methodLink ST 27 New4.yN, .instanceMethod New4.yN,
  .code New4.yN New4.yB 6 none, .fieldLink ST 38 ST "COMPACT_STRINGS" "Z", .laysFinal ST ST "value" "[B", .fieldLink ST 9 ST "value" "[B", .laysFinal ST ST "coder" "B", .fieldLink ST 15 ST "coder" "B",
  .methodLink ST 1 Lib.objectInit, .instanceMethod Lib.objectInit, .code Lib.objectInit ⟨#[0xb1]⟩ 1 none, .methodLink ST 177 Cmp3.yN, .static Cmp3.yN, .methodLink ST 47 CodL.yN, .static CodL.yN,
  .code Cmp3.yN Cmp3.yB 6 (some (.array .byte)), .initialized U16, .arrayClass .byte, .methodLink U16 115 Cmp5.yN, .static Cmp5.yN, .code Cmp5.yN Cmp5.yB 7 (some .int), .code CodL.yN CodL.yB 2 (some .byte)]
end StrChars.Road
namespace StrChars
open Jvm Sem ClassFile Op Lib Jvm.Stand Jvm.Free.XT Jvm.Free.ALB Jvm.Free.JM Jvm.Free
open Jvm.Lib.Cold (StaticIs)
def hi8 (x : Int32) : Int32 := lo8 (x >>> ((8 : Int32) &&& 31))
/-- what StringUTF16.getChar makes of two bytes -/
def pairCh (u v : Int32) : Int32 := (((u &&& 255) <<< ((0 : Int32) &&& 31)) ||| ((v &&& 255) <<< ((8 : Int32) &&& 31))).toUInt32.toUInt16.toUInt32.toInt32
theorem shr0 (c : Int32) : c >>> ((0 : Int32) &&& 31) = c := by
  have e : ((0 : Int32) &&& 31) = 0 := by decide
  rw [e]
  apply Int32.toBitVec_inj.mp
  rw [Int32.toBitVec_shiftRight]
  have e1 : ((0 : Int32).toBitVec.smod 32) = 0#32 := by decide
  rw [e1, BitVec.sshiftRight_eq']
  exact BitVec.sshiftRight_zero
theorem lo8_and (x : Int32) : (lo8 x &&& 255).toBitVec.toNat = x.toBitVec.toNat % 256 := by
  have h : (lo8 x).toBitVec = (x.toBitVec.signExtend 8).signExtend 32 := by rw [lo8, Int8.toBitVec_toInt32, Int32.toBitVec_toInt8]
  rw [Int32.toBitVec_and, BitVec.toNat_and, h]
  have e : ((x.toBitVec.signExtend 8).signExtend 32).toNat % 256 = x.toBitVec.toNat % 256 := by
    rw [BitVec.toNat_signExtend]
    have hlt := x.toBitVec.isLt
    simp only [BitVec.toNat_setWidth, BitVec.toNat_signExtend]
    split <;> split <;> omega
  rw [← e]
  exact Nat.and_two_pow_sub_one_eq_mod _ 8
theorem pair_says {c : Int32} (h0 : ¬ c < 0) (h1 : ¬ 65535 < c) : pairCh (lo8 c) (hi8 c) = c := by
  rw [Int32.lt_iff_toInt_lt] at h0 h1
  have e0 : (0 : Int32).toInt = 0 := rfl
  have e1 : (65535 : Int32).toInt = 65535 := rfl
  have hc : c.toInt = c.toBitVec.toNat := by
    have := c.toBitVec.isLt
    have e : c.toInt = c.toBitVec.toInt := rfl
    rw [e] at h0 h1
    rw [e]
    rw [BitVec.toInt_eq_toNat_cond] at h0 h1 ⊢
    split at h0 <;> split <;> omega
  have hn : c.toBitVec.toNat < 65536 := by omega
  have a1 := lo8_and c
  have a2 : (hi8 c &&& 255).toBitVec.toNat = c.toBitVec.toNat / 256 := by
    rw [hi8, lo8_and]
    have e : ((8 : Int32) &&& 31) = 8 := by decide
    rw [e, Int32.toBitVec_shiftRight]
    have e2 : ((8 : Int32).toBitVec.smod 32) = 8#32 := by decide
    rw [e2, BitVec.sshiftRight_eq', BitVec.toNat_sshiftRight_of_msb_false (by rw [BitVec.msb_eq_false_iff_two_mul_lt]; omega)]
    show c.toBitVec.toNat >>> 8 % 256 = _
    rw [Nat.shiftRight_eq_div_pow]
    omega
  unfold pairCh
  apply Int32.toBitVec_inj.mp
  apply BitVec.eq_of_toNat_eq
  have f0 : ((0 : Int32) &&& 31) = 0 := by decide
  have f8 : ((8 : Int32) &&& 31) = 8 := by decide
  rw [f0, f8]
  have g : (((lo8 c &&& 255) <<< (0 : Int32)) ||| ((hi8 c &&& 255) <<< (8 : Int32))).toBitVec.toNat = c.toBitVec.toNat := by
    rw [Int32.toBitVec_or, Int32.toBitVec_shiftLeft, Int32.toBitVec_shiftLeft]
    have s0 : ((0 : Int32).toBitVec.smod 32) = 0#32 := by decide
    have s8 : ((8 : Int32).toBitVec.smod 32) = 8#32 := by decide
    rw [s0, s8, BitVec.toNat_or]
    simp only [BitVec.shiftLeft_eq', BitVec.toNat_shiftLeft, a1, a2]
    show (c.toBitVec.toNat % 256) <<< 0 % 2 ^ 32 ||| (c.toBitVec.toNat / 256) <<< 8 % 2 ^ 32 = _
    rw [Nat.shiftLeft_zero, Nat.mod_eq_of_lt (show c.toBitVec.toNat % 256 < 2 ^ 32 by omega), Nat.mod_eq_of_lt (show (c.toBitVec.toNat / 256) <<< 8 < 2 ^ 32 by rw [Nat.shiftLeft_eq]; omega), Nat.or_comm, ← Nat.shiftLeft_add_eq_or_of_lt (by omega), Nat.shiftLeft_eq]
    omega
  show BitVec.toNat (((((lo8 c &&& 255) <<< (0 : Int32)) ||| ((hi8 c &&& 255) <<< (8 : Int32))).toBitVec.setWidth 16).setWidth 32) = _
  rw [BitVec.toNat_setWidth, BitVec.toNat_setWidth, g]
  omega
end StrChars
namespace StrChars
open Jvm Sem ClassFile Op Lib Jvm.Stand Jvm.Free.XT Jvm.Free.ALB Jvm.Free.JM Jvm.Free
open Jvm.Lib.Cold (StaticIs)
theorem shr1 {n : Nat} (h : 2 * n < 2 ^ 31) : Int32.ofNat (2 * n) >>> ((1 : Int32) &&& 31) = Int32.ofNat n := by
  have e : ((1 : Int32) &&& 31) = 1 := by decide
  rw [e]
  apply Int32.toBitVec_inj.mp
  rw [Int32.toBitVec_shiftRight]
  have e1 : ((1 : Int32).toBitVec.smod 32) = 1#32 := by decide
  have hm : (BitVec.ofNat 32 (2 * n)).toNat = 2 * n := by rw [BitVec.toNat_ofNat, Nat.mod_eq_of_lt (by omega)]
  rw [e1, BitVec.sshiftRight_eq']
  apply BitVec.eq_of_toNat_eq
  show ((BitVec.ofNat 32 (2 * n)).sshiftRight 1).toNat = (BitVec.ofNat 32 n).toNat
  rw [BitVec.toNat_sshiftRight_of_msb_false (by rw [BitVec.msb_eq_false_iff_two_mul_lt, hm]; omega), hm, BitVec.toNat_ofNat, Nat.shiftRight_eq_div_pow]
  omega
/-- charAt's cast of a byte read back -/
def chr8 (u : Int32) : Int32 := (u &&& 255).toUInt32.toUInt16.toUInt32.toInt32
theorem chr8_lo8 {c : Int32} (h0 : ¬ c < 0) (h1 : ¬ 255 < c) : chr8 (lo8 c) = c := by
  have t : ∀ k : Fin 256, (Int32.ofNat k.val).toUInt32.toUInt16.toUInt32.toInt32 = Int32.ofNat k.val := by decide +kernel
  unfold chr8
  rw [lo8_mask h0 h1]
  rw [Int32.lt_iff_toInt_lt] at h0 h1
  have e0 : (0 : Int32).toInt = 0 := rfl
  have e1 : (255 : Int32).toInt = 255 := rfl
  obtain ⟨k, hk⟩ : ∃ k : Nat, c.toInt = k := ⟨c.toInt.toNat, by omega⟩
  have hx : c = Int32.ofNat k := Int32.toInt_inj.mp (by rw [hk, Int32.toInt_ofNat_small (by omega)])
  rw [hx]
  exact t ⟨k, by omega⟩
/-- the array's cell V codes the n chars f 0 .. f (n - 1) by the coder cd, as the JDK does: coder 1 just where some char is above 255 -/
def Cod (cd : Int32) (n : Nat) (f : Nat → Int32) (V : Cell) : Prop := (cd = 0 ∧ V.slots.size = n ∧ ∀ j, j < n → V.slots[j]? = some (.int (lo8 (f j))) ∧ ¬ 255 < f j) ∨ (cd = 1 ∧ V.slots.size = 2 * n ∧ (∀ j, j < n → V.slots[2 * j]? = some (.int (lo8 (f j))) ∧ V.slots[2 * j + 1]? = some (.int (hi8 (f j)))) ∧ ∃ j, j < n ∧ 255 < f j)
theorem Cod.cd {cd : Int32} {n : Nat} {f : Nat → Int32} {V : Cell} (h : Cod cd n f V) : cd = 0 ∨ cd = 1 := h.imp (fun q => q.1) fun q => q.1
theorem Cod.len {cd : Int32} {n : Nat} {f : Nat → Int32} {V : Cell} (h : Cod cd n f V) (hs : V.slots.size < 2 ^ 31) : Int32.ofNat V.slots.size >>> (cd &&& 31) = Int32.ofNat n := by
  rcases h with ⟨rfl, h, -⟩ | ⟨rfl, h, -⟩
  · rw [shr0, h]
  · rw [h, shr1 (by omega)]
/-- **x is a String of the n chars f 0 .. f (n - 1)**, Latin-1 or UTF-16; its array at t has the cell V -/
def Txt (x t : Addr) (V : Cell) (cd : Int32) (n : Nat) (f : Nat → Int32) (U : State) : Prop := Exact "java/lang/String" x U ∧ Has x "java/lang/String" "value" "[B" (.ref t) U ∧ Has x "java/lang/String" "coder" "B" (.int cd) U ∧ XT.Arr .byte t V U ∧ Cod cd n f V ∧ ∀ j, j < n → ¬ f j < 0 ∧ ¬ 65535 < f j
theorem Txt.mv {x t : Addr} {V : Cell} {cd : Int32} {n : Nat} {f : Nat → Int32} {U U' : State} (h : Txt x t V cd n f U) (hal : U.vm.Alike U'.vm) (hh : U'.heap = U.heap) : Txt x t V cd n f U' := ⟨h.1.mv hal hh, h.2.1.mv hal hh, h.2.2.1.mv hal hh, h.2.2.2.1.mv hal hh, h.2.2.2.2⟩
namespace Cdr
def yN : MethodName := ⟨"java/lang/String", "coder", "()B"⟩
abbrev yB : ByteArray := jdk_42_method_152_code
theorem d0 : decode yB 0 = .ok (.getstatic 38, 3) := by decide +kernel
theorem d3 : decode yB 3 = .ok (.ifCond (.eq) 10, 3) := by decide +kernel
theorem d6 : decode yB 6 = .ok (.aload_n 0, 1) := by decide +kernel
theorem d7 : decode yB 7 = .ok (.getfield 15, 3) := by decide +kernel
theorem d10 : decode yB 10 = .ok (.goto 4, 3) := by decide +kernel
theorem d14 : decode yB 14 = .ok (.ireturn, 1) := by decide +kernel
def site : List Cond := [.fieldLink "java/lang/String" 38 "java/lang/String" "COMPACT_STRINGS" "Z", .fieldLink "java/lang/String" 15 "java/lang/String" "coder" "B"]
def tab : Cond := tabOf yN yB 1 (some .byte) site
def P (x : Addr) (cd z : Int32) (args : Array Value) (s : State) : Prop := args = #[.ref x] ∧ Has x "java/lang/String" "coder" "B" (.int cd) s ∧ (cd = 0 ∨ cd = 1) ∧ StaticIs s "java/lang/String" "COMPACT_STRINGS" "Z" (.int z) ∧ ¬ z = 0
def E (cd : Int32) (r : Option Value) (s u : State) : Prop := XT.PureE (some (.int cd)) r s u
theorem law (l : Launch) (x : Addr) (cd z : Int32) : Law l yN 1 0 0 0 yB 1 (some .byte) site (P x cd z) (E cd) [] 0 0 := by
  refine Law.of_walk (plainFor_of_name (by decide +kernel)) (by decide +kernel) (by decide +kernel) (by decide) (fun _ _ h => by rw [h.1]; rfl) (fun _ U U' hal hh h => ⟨h.1, h.2.1.mv hal hh, h.2.2.1, h.2.2.2.1.there hal hh, h.2.2.2.2⟩) (fun r U U' V V' h1 hal h2 h => XT.PureE.mv r U U' V V' h1 hal h2 h) ?_
  intro p e s m args below meth c s₁ X0 hexec hbytes hml hret hlk hnm hown hh0 W hP
  obtain ⟨rfl, hx, hc, s1, hz⟩ := hP
  have c1 : Steps p.tables e below (s₁.setTop (entryFrame m #[.ref x] 1)) (s₁.setTop (mkF m 0 #[.val (.ref x)] [])) := entry rfl
  obtain ⟨T2, X2, q2, st2⟩ := X0.sget hexec hown (wk W (.fieldLink "java/lang/String" 38 "java/lang/String" "COMPACT_STRINGS" "Z")) s1 (fun _ _ h => by rw [hh0]; exact h) (g := (mkF m 0 #[.val (.ref x)] [])) rfl (hb hbytes d0)
  have hh2 := q2.trans hh0
  have c3 : Steps p.tables e below (s₁.setTop (entryFrame m #[.ref x] 1)) (T2.setTop (mkF m 7 #[.val (.ref x)] [.ref x])) := (c1.trans (st2 _ (Steps.refl _))).trans (by
    refine XS.ifNo X2.here hexec rfl (hb hbytes d3) rfl (i0_eq_f hz) ?_
    refine XS.aloadN X2.here hexec rfl (hb hbytes d6) rfl rfl ?_
    exact Steps.refl _)
  obtain ⟨T4, X4, q4, st4⟩ := X2.hget hexec hown (wk W (.fieldLink "java/lang/String" 15 "java/lang/String" "coder" "B")) (hx.mv X2.warmed.alike hh2) (g := (mkF m 7 #[.val (.ref x)] [.ref x])) rfl (rest := []) rfl (hb hbytes d7)
  have c5 : Steps p.tables e below (s₁.setTop (entryFrame m #[.ref x] 1)) (T4.setTop (mkF m 14 #[.val (.ref x)] [.int cd])) := (c3.trans (st4 _ (Steps.refl _))).trans (by
    refine XS.goto X4.here hexec rfl (pc0 := 10) rfl (hb hbytes d10) (by decide) rfl ?_
    exact Steps.refl _)
  exact ⟨T4, some (.int cd), _, _, _, X4, rfl, rfl, rfl, (fun h => by cases h), ⟨rfl, q4.trans hh2⟩, fun fs hl => c5.trans (X4.ireturnOut hexec hret (by rcases hc with rfl | rfl <;> rfl) (Or.inr (Or.inr (Or.inl rfl))) (hb hbytes d14) hl)⟩
end Cdr
namespace Len
def yN : MethodName := ⟨"java/lang/String", "length", "()I"⟩
abbrev yB : ByteArray := jdk_42_method_54_code
theorem d0 : decode yB 0 = .ok (.aload_n 0, 1) := by decide +kernel
theorem d1 : decode yB 1 = .ok (.getfield 9, 3) := by decide +kernel
theorem d4 : decode yB 4 = .ok (.arraylength, 1) := by decide +kernel
theorem d5 : decode yB 5 = .ok (.aload_n 0, 1) := by decide +kernel
theorem d6 : decode yB 6 = .ok (.invokevirtual 335, 3) := by decide +kernel
theorem d9 : decode yB 9 = .ok (.ishr, 1) := by decide +kernel
theorem d10 : decode yB 10 = .ok (.ireturn, 1) := by decide +kernel
def site : List Cond := [.fieldLink "java/lang/String" 9 "java/lang/String" "value" "[B", Cdr.tab] ++ virtW "java/lang/String" 335 "java/lang/String" Cdr.yN Cdr.yN
def tab : Cond := tabOf yN yB 1 (some .int) site
def P (x t : Addr) (V : Cell) (cd : Int32) (n : Nat) (f : Nat → Int32) (z : Int32) (args : Array Value) (s : State) : Prop := args = #[.ref x] ∧ Txt x t V cd n f s ∧ StaticIs s "java/lang/String" "COMPACT_STRINGS" "Z" (.int z) ∧ ¬ z = 0
def E (n : Nat) (r : Option Value) (s u : State) : Prop := XT.PureE (some (.int (Int32.ofNat n))) r s u
/-- length() of a String of n chars, in either coding -/
theorem law (l : Launch) (x t : Addr) (V : Cell) (cd : Int32) (n : Nat) (f : Nat → Int32) (z : Int32) : Law l yN 1 0 1 13 yB 1 (some .int) site (P x t V cd n f z) (E n) [] 0 0 := by
  refine Law.of_walk (plainFor_of_name (by decide +kernel)) (by decide +kernel) (by decide +kernel) (by decide) (fun _ _ h => by rw [h.1]; rfl) (fun _ U U' hal hh h => ⟨h.1, h.2.1.mv hal hh, h.2.2.1.there hal hh, h.2.2.2⟩) (fun r U U' V V' h1 hal h2 h => XT.PureE.mv r U U' V V' h1 hal h2 h) ?_
  intro p e s m args below meth c s₁ X0 hexec hbytes hml hret hlk hnm hown hh0 W hP
  obtain ⟨rfl, hx, s1, hz⟩ := hP
  have v31 := hx.2.2.2.1.2.2.2
  have c1 : Steps p.tables e below (s₁.setTop (entryFrame m #[.ref x] 1)) (s₁.setTop (mkF m 1 #[.val (.ref x)] [.ref x])) := Steps.trans (entry rfl) (by
    show Steps p.tables e below (s₁.setTop (mkF m 0 #[.val (.ref x)] [])) _
    refine XS.aloadN X0.here hexec rfl (hb hbytes d0) rfl rfl ?_
    exact Steps.refl _)
  obtain ⟨T2, X2, q2, st2⟩ := X0.hget hexec hown (wk W (.fieldLink "java/lang/String" 9 "java/lang/String" "value" "[B")) (hx.mv X0.warmed.alike hh0).2.1 (g := (mkF m 1 #[.val (.ref x)] [.ref x])) rfl (rest := []) rfl (hb hbytes d1)
  have hh2 := q2.trans hh0
  have hx2 := hx.mv X2.warmed.alike hh2
  have c3 : Steps p.tables e below (s₁.setTop (entryFrame m #[.ref x] 1)) (T2.setTop (mkF m 6 #[.val (.ref x)] [.ref x, .int (Int32.ofNat V.slots.size)])) := (c1.trans (st2 _ (Steps.refl _))).trans (by
    refine X2.alen hexec hx2.2.2.2.1 rfl rfl (hb hbytes d4) ?_
    refine XS.aloadN X2.here hexec rfl (hb hbytes d5) rfl rfl ?_
    exact Steps.refl _)
  obtain ⟨v4, T4, X4, E4, g4⟩ := X2.callV hexec (Cdr.law l x cd z) hown (wks W (virtW "java/lang/String" 335 "java/lang/String" Cdr.yN Cdr.yN)) rfl (by decide) (wk W Cdr.tab) (W := 1) (Nat.le_of_ble_eq_true rfl) (Nat.le_of_ble_eq_true rfl) (Nat.le_refl _) (Nat.le_refl _) (hx2.1.fc X2.warmed.alike) hx2.1.is (g := (mkF m 6 #[.val (.ref x)] [.ref x, .int (Int32.ofNat V.slots.size)])) rfl (by rw [hml]; rfl) c3 (argsL := []) (rest := [.int (Int32.ofNat V.slots.size)]) rfl rfl (by show 2 * 0 + (1 + 0) ≤ _; decide) (hb hbytes d6) (⟨rfl, hx2.2.2.1, hx.2.2.2.2.1.cd, s1.there X2.warmed.alike hh2, hz⟩)
  obtain ⟨rfl, q4⟩ := E4
  have c5 : Steps p.tables e below (s₁.setTop (entryFrame m #[.ref x] 1)) (T4.setTop (mkF m 10 #[.val (.ref x)] [.int (Int32.ofNat V.slots.size >>> (cd &&& 31))])) := Steps.trans g4 (by
    refine ishr X4.here hexec rfl (hb hbytes d9) rfl ?_
    exact Steps.refl _)
  rw [hx.2.2.2.2.1.len v31] at c5
  exact ⟨T4, some (.int (Int32.ofNat n)), _, _, _, X4, rfl, rfl, rfl, (fun h => by cases h), ⟨rfl, q4.trans hh2⟩, fun fs hl => c5.trans (X4.ireturnOut hexec hret rfl (Or.inl rfl) (hb hbytes d10) hl)⟩
theorem pays {l : Launch} {R : Room} {p : Program} {e : Env} {below : List Frame} {s : State} {sargs : Array Value} {len W : Nat} (x t : Addr) (V : Cell) (cd : Int32) (n : Nat) (f : Nat → Int32) (z : Int32) (htab : tab.before sargs s = true) (hfr : 2 ≤ R.frames) (hlo : W + 25 ≤ R.locals) :
    Back l R p e below s sargs yN len W (fun A₁ a₁ => A₁.cells + 0 ≤ R.cells ∧ A₁.slots + 0 ≤ R.slots ∧ P x t V cd n f z a₁ A₁.U) (fun A₁ _ v₁ B₁ => E n v₁ A₁.U B₁.U ∧ B₁.locs = A₁.locs ++ [] ∧ B₁.cells = A₁.cells + 0 ∧ B₁.slots = A₁.slots + 0) :=
  (law l x t V cd n f z).pays htab hfr (by omega)
end Len
end StrChars
namespace StrChars.Road
open Jvm Sem ClassFile Op Lib Jvm.Stand Jvm.Free Jvm.Free.XT
open Jvm.Lib.Cold (StaticIs)
theorem consq {a : Array Value} {s : State} {c : Jvm.Cond} {L : List Jvm.Cond} (h0 : c.before a s = true) (h : ∀ w ∈ L, w.before a s = true) : ∀ w ∈ c :: L, w.before a s = true := fun w hw => (List.mem_cons.mp hw).elim (fun e => e ▸ h0) (h w)
/-- the words of String.length(), either coding -/
abbrev wordsLen : List Jvm.Cond := [.code Len.yN Len.yB 1 (some .int), .initialized ST, .fieldLink ST 9 ST "value" "[B", .fieldLink ST 38 ST "COMPACT_STRINGS" "Z", .fieldLink ST 15 ST "coder" "B", .code Cdr.yN Cdr.yB 1 (some .byte), .methodLink ST 335 Cdr.yN, .declares Cdr.yN, .selects ST Cdr.yN Cdr.yN, .instanceMethod Cdr.yN]
theorem tabLen_of {a : Array Value} {s : State} (h : ∀ w ∈ wordsLen, w.before a s = true) : Len.tab.before a s = true := by
  have hc : Cdr.tab.before a s = true := unparts (wk h (.code Cdr.yN Cdr.yB 1 (some .byte))) (wks h (.initialized Cdr.yN.cls :: Cdr.site))
  have q := consq hc h
  exact unparts (wk q (.code Len.yN Len.yB 1 (some .int))) (wks q (.initialized Len.yN.cls :: Len.site))
theorem movedLen {Z s : State} {a0 args : Array Value} (hZ : Z.Warmed39 s.vm) (hw : ∀ d ∈ wordsLen, d.before a0 Z = true) : ∀ d ∈ wordsLen, d.before args s = true := fun d hd => by
  have q := hw d hd
  have t : ∀ d ∈ wordsLen, d = .arrayClass .byte ∨ (d.onTables && d.keepsFace) = true := by decide +kernel
  rcases t d hd with rfl | t
  · exact RoadKit.mvA hZ q
  · exact RoadKit.mv hZ q t
/-- the bytes of the chars cs, low before high -/
def wideBytes : List Int32 → List Value
  | [] => []
  | c :: cs => .int (lo8 c) :: .int (hi8 c) :: wideBytes cs
theorem wide_lo (d : Value) : ∀ (cs : List Int32) (j : Nat), j < cs.length → (wideBytes cs).getD (2 * j) d = .int (lo8 (cs.getD j 0))
  | [], j, h => absurd h (Nat.not_lt_zero j)
  | c :: cs, 0, _ => rfl
  | c :: cs, j + 1, h => by
    have q := wide_lo d cs j (by simpa using h)
    rw [show 2 * (j + 1) = 2 * j + 1 + 1 from by omega]
    simpa [wideBytes] using q
theorem wide_hi (d : Value) : ∀ (cs : List Int32) (j : Nat), j < cs.length → (wideBytes cs).getD (2 * j + 1) d = .int (hi8 (cs.getD j 0))
  | [], j, h => absurd h (Nat.not_lt_zero j)
  | c :: cs, 0, _ => rfl
  | c :: cs, j + 1, h => by
    have q := wide_hi d cs j (by simpa using h)
    rw [show 2 * (j + 1) + 1 = 2 * j + 1 + 1 + 1 from by omega]
    simpa [wideBytes] using q
theorem low_at (d : Value) (cs : List Int32) (j : Nat) (h : j < cs.length) : (cs.map fun c => Value.int (lo8 c)).getD j d = .int (lo8 (cs.getD j 0)) := by
  simp [List.getD_eq_getElem?_getD, h]
/-- an array of N2 bytes vs codes the chars cs by the coder cd -/
def CodA (cs : List Int32) (cd N2 : Int32) (vs : List Value) : Prop := (cd = 0 ∧ N2 = Int32.ofNat cs.length ∧ vs = (cs.map fun c => Value.int (lo8 c)) ∧ ∀ c ∈ cs, ¬ 255 < c) ∨ (cd = 1 ∧ N2 = Int32.ofNat (2 * cs.length) ∧ vs = wideBytes cs ∧ ∃ c ∈ cs, 255 < c)
theorem CodA.cod {cs : List Int32} {cd N2 : Int32} {vs : List Value} {V : Cell} (h : CodA cs cd N2 vs) (hn : 2 * cs.length < 2 ^ 31) (hs : V.slots.size = N2.toNatClampNeg) (hv : RoadKit.Has V vs (.int 0)) : Cod cd cs.length (fun j => cs.getD j 0) V := by
  rcases h with ⟨rfl, rfl, rfl, h⟩ | ⟨rfl, rfl, rfl, c, hc, hw⟩
  · rw [n32 (by omega)] at hs
    exact Or.inl ⟨rfl, hs, fun j hj => ⟨by rw [hv j (by omega), low_at _ _ _ hj], by
      have e : cs.getD j 0 = cs[j] := by simp [List.getD_eq_getElem?_getD, hj]
      show ¬ 255 < cs.getD j 0
      rw [e]; exact h _ (List.getElem_mem _)⟩⟩
  · rw [n32 (by omega)] at hs
    obtain ⟨j, hj, rfl⟩ := List.getElem_of_mem hc
    exact Or.inr ⟨rfl, hs, fun j hj => ⟨by rw [hv _ (by omega), wide_lo _ _ _ hj], by rw [hv _ (by omega), wide_hi _ _ _ hj]⟩, j, hj, by
      have e : cs.getD j 0 = cs[j] := by simp [List.getD_eq_getElem?_getD, hj]
      show 255 < cs.getD j 0
      rw [e]; exact hw⟩
/-- an object of exactly java/lang/String, its two fields found: as the laws ask it -/
theorem strObj {Z U : State} {a0 : Array Value} {kI : Nat} (wi : (Jvm.Cond.instantiable ST kI).before a0 Z = true) (al : Z.vm.Alike U.vm) {x : Addr} {v0 c0 : Value} (E : RoadKit.Exa Z U.heap x ST) (V : RoadKit.Fld Z U.heap x ST "value" "[B" v0) (C : RoadKit.Fld Z U.heap x ST "coder" "B" c0) :
    ∃ (D : Cell) (fV fC : Field), Blank ST x D U ∧ Found ST "value" "[B" fV U ∧ Found ST "coder" "B" fC U ∧ D.slots[fV.slot]? = some v0 ∧ D.slots[fC.slot]? = some c0 ∧ RoadKit.slotOf Z ST "value" "[B" = fV.slot ∧ RoadKit.slotOf Z ST "coder" "B" = fC.slot := by
  obtain ⟨D, cfV, kV, iV, fV, hD, gV, stV, knV, obV, asV, slV⟩ := V
  obtain ⟨D', cfC, kC, iC, fC, hD', gC, stC, -, -, asC, slC⟩ := C
  cases hD.symm.trans hD'
  obtain ⟨D2, kD, e1, e2, e3, e4, e5⟩ := E
  cases hD.symm.trans e1
  obtain ⟨c2, k2, i1, i2, i3, -⟩ := Cond.instantiable_spec wi
  cases e2.symm.trans i1
  cases e3.symm.trans i2
  obtain ⟨kU, u1, u2⟩ := al.2.2 _ _ e3
  exact ⟨D, fV, fC, ⟨hD, ⟨knV, fun q hq => by rw [hq] at obV; cases obV⟩, by rw [al.findClass]; exact e2, kU, u1, by rw [u2]; exact i3, by rw [u2]; exact e5 i3⟩, ⟨SBG.found_only al ⟨cfV, kV, iV, gV⟩, stV⟩, ⟨SBG.found_only al ⟨cfC, kC, iC, gC⟩, stC⟩, slV, slC, by simp [RoadKit.slotOf, gV], by simp [RoadKit.slotOf, gC]⟩
theorem sta_is {Z U : State} (al : Z.vm.Alike U.vm) {C n d : String} {v : Value} (S : RoadKit.Sta Z U.heap C n d v) : StaticIs U C n d v := by
  obtain ⟨cfS, iS, kS, fS, st, cS, t1, t2, t3, t4, t5, t6, t7⟩ := S
  exact StaticIs.there (s := { Z with heap := U.heap }) ⟨cfS, iS, kS, fS, st, cS, t1, t2, t3, t4, t5, (fun q => by rw [q] at t6; cases t6), t7⟩ al rfl
/-- **length() OF SUCH A STRING** -/
theorem lenW {p : Program} {l : Launch} {e : Env} {R : Room} {s : State} {args : Array Value} {below : List Frame} {len W : Nat} {Z : State} {a0 : Array Value} {h : Heap} (hZ : Z.Warmed39 s.vm) (hw : ∀ d ∈ wordsLen, d.before a0 Z = true) {kI : Nat} (wi : (Jvm.Cond.instantiable ST kI).before a0 Z = true)
    {x t : Addr} {kb : ClassId} {cs : List Int32} {cd N2 z : Int32} {vs : List Value} (E : RoadKit.Exa Z h x ST) (V : RoadKit.Fld Z h x ST "value" "[B" (.ref t)) (C : RoadKit.Fld Z h x ST "coder" "B" (.int cd)) (K : RoadKit.Arv Z h t kb .byte N2 vs (.int 0)) (hc : CodA cs cd N2 vs) (hb : ∀ c ∈ cs, ¬ c < 0 ∧ ¬ (65535 : Int32) < c)
    (S : RoadKit.Sta Z h ST "COMPACT_STRINGS" "Z" (.int z)) (hz : ¬ z = 0) (l2 : cs.length ≤ 4000) (hfr : 2 ≤ R.frames) (hlo : W + 25 ≤ R.locals) :
    Back l R p e below s args (⟨"java/lang/String", "length", "()I"⟩ : MethodName) len W (fun P a => a = #[.ref x] ∧ P.U.heap = h ∧ P.cells + 0 ≤ R.cells ∧ P.slots + 0 ≤ R.slots)
      (fun P _ v B => ∃ L, (v = some (.int (Int32.ofNat cs.length)) ∧ L = [] ∧ B.U.heap = h) ∧ B.locs = P.locs ++ L ∧ B.cells = P.cells + 0 ∧ B.slots = P.slots + 0) := by
  obtain ⟨A, K1, K2, K3, K4, K5, K6⟩ := K
  have hcod := hc.cod (by omega) K3 K5
  intro m meth c P g ig mk a X hg hsize hdg hW hn hp'
  obtain ⟨rfl, rfl, r1, r2⟩ := hp'
  have al : Z.vm.Alike P.U.vm := hZ.alike.trans X.warmed.alike
  obtain ⟨D, fV, fC, hB, F1, F2, g1, g2, -, -⟩ := strObj wi al E V C
  have hx : Txt x t A cd cs.length (fun j => cs.getD j 0) P.U := ⟨⟨_, hB.2.2.1, D, hB.1, rfl, by cases q : D.vm <;> first | rfl | exact absurd q (hB.2.1.2 _)⟩, Has.of hB F1 g1, Has.of hB F2 g2, ⟨K1.1, State.isArrayOf_alike al K1.2.1, K1.2.2, by rcases hcod with ⟨-, q, -⟩ | ⟨-, q, -⟩ <;> omega⟩, hcod, fun j hj => by
    have e : cs.getD j 0 = cs[j] := by simp [List.getD_eq_getElem?_getD, hj]
    show ¬ cs.getD j 0 < 0 ∧ ¬ 65535 < cs.getD j 0
    rw [e]; exact hb _ (List.getElem_mem _)⟩
  obtain ⟨v, B, X', ⟨⟨hv, hh⟩, hl, hk, hs⟩, st⟩ := Len.pays x t A cd cs.length (fun j => cs.getD j 0) z (tabLen_of (movedLen hZ hw)) hfr hlo m meth c P g ig mk _ X hg hsize hdg hW hn ⟨r1, r2, rfl, hx, sta_is al S, hz⟩
  exact ⟨v, B, X', ⟨[], ⟨hv, rfl, hh⟩, hl, hk, hs⟩, st⟩
end StrChars.Road
end Jvm.Pilot.@@N@@
namespace Jvm.Pilot.@@N@@
open Jvm Jvm.ClassFile Sem Op Lib Jvm.Free Jvm.Stand Jvm.LawKit Jvm.RoadKit Bundle Jvm.Pilot.@@N@@.Jvm.D
abbrev HW (a0 : Array Value) (Z : State) : Prop := ∀ d ∈ tables_1, d.before a0 Z = true
theorem oMem {d : Jvm.Cond} (i : Nat) (h : tables_1[i]? = some d) : d ∈ tables_1 := List.mem_of_getElem? h
section Words
variable {a0 : Array Value} {Z : State}
theorem Wd0 (hw : HW a0 Z) : (Jvm.Cond.methodLink "com/example/savepoint/savepoint/SqlDialectReadingsOfPinLaw" (7 : Nat) ({ cls := "com/example/savepoint/savepoint/SqlDialectReadingsOfPinLaw", name := "pick", desc := "(I)C" } : Jvm.MethodName)).before a0 Z = true := hw _ (oMem 0 rfl)
theorem Wd1 (hw : HW a0 Z) : (Jvm.Cond.static ({ cls := "com/example/savepoint/savepoint/SqlDialectReadingsOfPinLaw", name := "pick", desc := "(I)C" } : Jvm.MethodName)).before a0 Z = true := hw _ (oMem 1 rfl)
theorem Wd2 (hw : HW a0 Z) : (Jvm.Cond.initialized "com/example/savepoint/savepoint/SqlDialectReadingsOfPinLaw").before a0 Z = true := hw _ (oMem 2 rfl)
theorem Wd3 (hw : HW a0 Z) : (Jvm.Cond.code ({ cls := "com/example/savepoint/savepoint/SqlDialectReadingsOfPinLaw", name := "pick", desc := "(I)C" } : Jvm.MethodName) method_4_code (2 : Nat) (Option.some Jvm.ClassFile.FieldType.char)).before a0 Z = true := hw _ (oMem 3 rfl)
theorem Wd4 (hw : HW a0 Z) : (Jvm.Cond.methodLink "com/example/savepoint/savepoint/SqlDialectReadingsOfPinLaw" (13 : Nat) ({ cls := "com/example/savepoint/savepoint/SqlDialectReadingsOfPinLaw", name := "make", desc := "(ICCCC)Ljava/lang/String;" } : Jvm.MethodName)).before a0 Z = true := hw _ (oMem 4 rfl)
theorem Wd5 (hw : HW a0 Z) : (Jvm.Cond.static ({ cls := "com/example/savepoint/savepoint/SqlDialectReadingsOfPinLaw", name := "make", desc := "(ICCCC)Ljava/lang/String;" } : Jvm.MethodName)).before a0 Z = true := hw _ (oMem 5 rfl)
theorem Wd6 (hw : HW a0 Z) : (Jvm.Cond.code ({ cls := "com/example/savepoint/savepoint/SqlDialectReadingsOfPinLaw", name := "make", desc := "(ICCCC)Ljava/lang/String;" } : Jvm.MethodName) method_5_code (5 : Nat) (Option.some (Jvm.ClassFile.FieldType.object "java/lang/String"))).before a0 Z = true := hw _ (oMem 6 rfl)
theorem Wd7 (hw : HW a0 Z) : (Jvm.Cond.classLink "com/example/savepoint/savepoint/SqlDialectReadingsOfPinLaw" (50 : Nat) "java/lang/String").before a0 Z = true := hw _ (oMem 7 rfl)
theorem Wd8 (hw : HW a0 Z) : (Jvm.Cond.instantiable "java/lang/String" (4 : Nat)).before a0 Z = true := hw _ (oMem 8 rfl)
theorem Wd9 (hw : HW a0 Z) : (Jvm.Cond.initialized "java/lang/String").before a0 Z = true := hw _ (oMem 9 rfl)
theorem Wd10 (hw : HW a0 Z) : (Jvm.Cond.arrayClass Jvm.ClassFile.FieldType.char).before a0 Z = true := hw _ (oMem 10 rfl)
theorem Wd11 (hw : HW a0 Z) : (Jvm.Cond.methodLink "com/example/savepoint/savepoint/SqlDialectReadingsOfPinLaw" (52 : Nat) ({ cls := "java/lang/String", name := "<init>", desc := "([C)V" } : Jvm.MethodName)).before a0 Z = true := hw _ (oMem 11 rfl)
theorem Wd12 (hw : HW a0 Z) : (Jvm.Cond.instanceMethod ({ cls := "java/lang/String", name := "<init>", desc := "([C)V" } : Jvm.MethodName)).before a0 Z = true := hw _ (oMem 12 rfl)
theorem Wd13 (hw : HW a0 Z) : (Jvm.Cond.code ({ cls := "java/lang/String", name := "<init>", desc := "([C)V" } : Jvm.MethodName) jdk_42_method_3_code (2 : Nat) (Option.none : Option Jvm.ClassFile.FieldType)).before a0 Z = true := hw _ (oMem 13 rfl)
theorem Wd14 (hw : HW a0 Z) : (Jvm.Cond.methodLink "java/lang/String" (27 : Nat) ({ cls := "java/lang/String", name := "<init>", desc := "([CIILjava/lang/Void;)V" } : Jvm.MethodName)).before a0 Z = true := hw _ (oMem 14 rfl)
theorem Wd15 (hw : HW a0 Z) : (Jvm.Cond.instanceMethod ({ cls := "java/lang/String", name := "<init>", desc := "([CIILjava/lang/Void;)V" } : Jvm.MethodName)).before a0 Z = true := hw _ (oMem 15 rfl)
theorem Wd17 (hw : HW a0 Z) : (Jvm.Cond.code ({ cls := "java/lang/String", name := "<init>", desc := "([CIILjava/lang/Void;)V" } : Jvm.MethodName) jdk_42_method_149_code (6 : Nat) (Option.none : Option Jvm.ClassFile.FieldType)).before a0 Z = true := hw _ (oMem 17 rfl)
theorem Wd18 (hw : HW a0 Z) : (Jvm.Cond.methodLink "java/lang/String" (1 : Nat) ({ cls := "java/lang/Object", name := "<init>", desc := "()V" } : Jvm.MethodName)).before a0 Z = true := hw _ (oMem 18 rfl)
theorem Wd19 (hw : HW a0 Z) : (Jvm.Cond.instanceMethod ({ cls := "java/lang/Object", name := "<init>", desc := "()V" } : Jvm.MethodName)).before a0 Z = true := hw _ (oMem 19 rfl)
theorem Wd20 (hw : HW a0 Z) : (Jvm.Cond.code ({ cls := "java/lang/Object", name := "<init>", desc := "()V" } : Jvm.MethodName) object_method_1_code (1 : Nat) (Option.none : Option Jvm.ClassFile.FieldType)).before a0 Z = true := hw _ (oMem 20 rfl)
theorem Wd21 (hw : HW a0 Z) : (Jvm.Cond.stringLink "java/lang/String" (7 : Nat) "").before a0 Z = true := hw _ (oMem 21 rfl)
theorem Wd22 (hw : HW a0 Z) : (Jvm.Cond.arrayClass Jvm.ClassFile.FieldType.byte).before a0 Z = true := hw _ (oMem 22 rfl)
theorem Wd23 (hw : HW a0 Z) : (Jvm.Cond.laysFinal "java/lang/String" "java/lang/String" "value" "[B").before a0 Z = true := hw _ (oMem 23 rfl)
theorem Wd24 (hw : HW a0 Z) : (Jvm.Cond.laysFinal "java/lang/String" "java/lang/String" "coder" "B").before a0 Z = true := hw _ (oMem 24 rfl)
theorem Wd27 (hw : HW a0 Z) : (Jvm.Cond.fieldLink "java/lang/String" (9 : Nat) "java/lang/String" "value" "[B").before a0 Z = true := hw _ (oMem 27 rfl)
theorem Wd28 (hw : HW a0 Z) : (Jvm.Cond.fieldLink "java/lang/String" (15 : Nat) "java/lang/String" "coder" "B").before a0 Z = true := hw _ (oMem 28 rfl)
theorem Wd29 (hw : HW a0 Z) : (Jvm.Cond.methodLink "com/example/savepoint/savepoint/SqlDialectReadingsOfPinLaw" (21 : Nat) ({ cls := "com/example/savepoint/savepoint/SqlDialect", name := "readingsOf", desc := "(Ljava/lang/String;)Ljava/util/List;" } : Jvm.MethodName)).before a0 Z = true := hw _ (oMem 29 rfl)
theorem Wd30 (hw : HW a0 Z) : (Jvm.Cond.static ({ cls := "com/example/savepoint/savepoint/SqlDialect", name := "readingsOf", desc := "(Ljava/lang/String;)Ljava/util/List;" } : Jvm.MethodName)).before a0 Z = true := hw _ (oMem 30 rfl)
theorem Wd31 (hw : HW a0 Z) : (Jvm.Cond.initialized "com/example/savepoint/savepoint/SqlDialect").before a0 Z = true := hw _ (oMem 31 rfl)
theorem Wd32 (hw : HW a0 Z) : (Jvm.Cond.code ({ cls := "com/example/savepoint/savepoint/SqlDialect", name := "readingsOf", desc := "(Ljava/lang/String;)Ljava/util/List;" } : Jvm.MethodName) prog_14_method_4_code (4 : Nat) (Option.some (Jvm.ClassFile.FieldType.object "java/util/List"))).before a0 Z = true := hw _ (oMem 32 rfl)
theorem Wd33 (hw : HW a0 Z) : (Jvm.Cond.fieldLink "com/example/savepoint/savepoint/SqlDialect" (59 : Nat) "com/example/savepoint/savepoint/SqlDialect" "PLAIN" "Ljava/util/List;").before a0 Z = true := hw _ (oMem 33 rfl)
theorem Wd34 (hw : HW a0 Z) : (Jvm.Cond.laysStatic "com/example/savepoint/savepoint/SqlDialect" "PLAIN" "Ljava/util/List;").before a0 Z = true := hw _ (oMem 34 rfl)
theorem Wd35 (hw : HW a0 Z) : (Jvm.Cond.methodLink "com/example/savepoint/savepoint/SqlDialect" (63 : Nat) ({ cls := "java/lang/String", name := "length", desc := "()I" } : Jvm.MethodName)).before a0 Z = true := hw _ (oMem 35 rfl)
theorem Wd36 (hw : HW a0 Z) : (Jvm.Cond.declares ({ cls := "java/lang/String", name := "length", desc := "()I" } : Jvm.MethodName)).before a0 Z = true := hw _ (oMem 36 rfl)
theorem Wd37 (hw : HW a0 Z) : (Jvm.Cond.instanceMethod ({ cls := "java/lang/String", name := "length", desc := "()I" } : Jvm.MethodName)).before a0 Z = true := hw _ (oMem 37 rfl)
theorem Wd38 (hw : HW a0 Z) : (Jvm.Cond.selects "java/lang/String" ({ cls := "java/lang/String", name := "length", desc := "()I" } : Jvm.MethodName) ({ cls := "java/lang/String", name := "length", desc := "()I" } : Jvm.MethodName)).before a0 Z = true := hw _ (oMem 38 rfl)
theorem Wd39 (hw : HW a0 Z) : (Jvm.Cond.code ({ cls := "java/lang/String", name := "length", desc := "()I" } : Jvm.MethodName) jdk_42_method_54_code (1 : Nat) (Option.some Jvm.ClassFile.FieldType.int)).before a0 Z = true := hw _ (oMem 39 rfl)
theorem Wd40 (hw : HW a0 Z) : (Jvm.Cond.methodLink "java/lang/String" (335 : Nat) ({ cls := "java/lang/String", name := "coder", desc := "()B" } : Jvm.MethodName)).before a0 Z = true := hw _ (oMem 40 rfl)
theorem Wd41 (hw : HW a0 Z) : (Jvm.Cond.declares ({ cls := "java/lang/String", name := "coder", desc := "()B" } : Jvm.MethodName)).before a0 Z = true := hw _ (oMem 41 rfl)
theorem Wd42 (hw : HW a0 Z) : (Jvm.Cond.instanceMethod ({ cls := "java/lang/String", name := "coder", desc := "()B" } : Jvm.MethodName)).before a0 Z = true := hw _ (oMem 42 rfl)
theorem Wd43 (hw : HW a0 Z) : (Jvm.Cond.selects "java/lang/String" ({ cls := "java/lang/String", name := "coder", desc := "()B" } : Jvm.MethodName) ({ cls := "java/lang/String", name := "coder", desc := "()B" } : Jvm.MethodName)).before a0 Z = true := hw _ (oMem 43 rfl)
theorem Wd44 (hw : HW a0 Z) : (Jvm.Cond.code ({ cls := "java/lang/String", name := "coder", desc := "()B" } : Jvm.MethodName) jdk_42_method_152_code (1 : Nat) (Option.some Jvm.ClassFile.FieldType.byte)).before a0 Z = true := hw _ (oMem 44 rfl)
theorem Wd45 (hw : HW a0 Z) : (Jvm.Cond.fieldLink "java/lang/String" (38 : Nat) "java/lang/String" "COMPACT_STRINGS" "Z").before a0 Z = true := hw _ (oMem 45 rfl)
theorem Wd46 (hw : HW a0 Z) : (Jvm.Cond.methodLink "com/example/savepoint/savepoint/SqlDialectReadingsOfPinLaw" (27 : Nat) ({ cls := "java/util/List", name := "size", desc := "()I" } : Jvm.MethodName)).before a0 Z = true := hw _ (oMem 46 rfl)
theorem Wd47 (hw : HW a0 Z) : (Jvm.Cond.declares ({ cls := "java/util/List", name := "size", desc := "()I" } : Jvm.MethodName)).before a0 Z = true := hw _ (oMem 47 rfl)
theorem Wd48 (hw : HW a0 Z) : (Jvm.Cond.interfaceMethod "java/util/List" "java/util/List" "size" "()I").before a0 Z = true := hw _ (oMem 48 rfl)
theorem Wd49 (hw : HW a0 Z) : (Jvm.Cond.selects "java/util/ImmutableCollections$List12" ({ cls := "java/util/List", name := "size", desc := "()I" } : Jvm.MethodName) ({ cls := "java/util/ImmutableCollections$List12", name := "size", desc := "()I" } : Jvm.MethodName)).before a0 Z = true := hw _ (oMem 49 rfl)
theorem Wd50 (hw : HW a0 Z) : (Jvm.Cond.instanceMethod ({ cls := "java/util/ImmutableCollections$List12", name := "size", desc := "()I" } : Jvm.MethodName)).before a0 Z = true := hw _ (oMem 50 rfl)
theorem Wd51 (hw : HW a0 Z) : (Jvm.Cond.publicMethod ({ cls := "java/util/ImmutableCollections$List12", name := "size", desc := "()I" } : Jvm.MethodName)).before a0 Z = true := hw _ (oMem 51 rfl)
theorem Wd52 (hw : HW a0 Z) : (Jvm.Cond.unhidden "java/util/ImmutableCollections$List12" "size" "()I").before a0 Z = true := hw _ (oMem 52 rfl)
theorem Wd53 (hw : HW a0 Z) : (Jvm.Cond.castable "java/util/ImmutableCollections$List12" "java/util/List").before a0 Z = true := hw _ (oMem 53 rfl)
theorem Wd54 (hw : HW a0 Z) : (Jvm.Cond.initialized "java/util/ImmutableCollections$List12").before a0 Z = true := hw _ (oMem 54 rfl)
theorem Wd55 (hw : HW a0 Z) : (Jvm.Cond.code ({ cls := "java/util/ImmutableCollections$List12", name := "size", desc := "()I" } : Jvm.MethodName) jdk_44_method_3_code (1 : Nat) (Option.some Jvm.ClassFile.FieldType.int)).before a0 Z = true := hw _ (oMem 55 rfl)
theorem Wd56 (hw : HW a0 Z) : (Jvm.Cond.fieldLink "java/util/ImmutableCollections$List12" (24 : Nat) "java/util/ImmutableCollections$List12" "e1" "Ljava/lang/Object;").before a0 Z = true := hw _ (oMem 56 rfl)
theorem Wd58 (hw : HW a0 Z) : (Jvm.Cond.fieldLinkNest "java/util/ImmutableCollections$List12" (19 : Nat) "java/util/ImmutableCollections" "EMPTY" "Ljava/lang/Object;" "java/util/ImmutableCollections").before a0 Z = true := hw _ (oMem 58 rfl)
theorem Wd60 (hw : HW a0 Z) : (Jvm.Cond.methodLink "com/example/savepoint/savepoint/SqlDialectReadingsOfPinLaw" (33 : Nat) ({ cls := "java/util/List", name := "get", desc := "(I)Ljava/lang/Object;" } : Jvm.MethodName)).before a0 Z = true := hw _ (oMem 60 rfl)
theorem Wd61 (hw : HW a0 Z) : (Jvm.Cond.declares ({ cls := "java/util/List", name := "get", desc := "(I)Ljava/lang/Object;" } : Jvm.MethodName)).before a0 Z = true := hw _ (oMem 61 rfl)
theorem Wd62 (hw : HW a0 Z) : (Jvm.Cond.interfaceMethod "java/util/List" "java/util/List" "get" "(I)Ljava/lang/Object;").before a0 Z = true := hw _ (oMem 62 rfl)
theorem Wd63 (hw : HW a0 Z) : (Jvm.Cond.selects "java/util/ImmutableCollections$List12" ({ cls := "java/util/List", name := "get", desc := "(I)Ljava/lang/Object;" } : Jvm.MethodName) ({ cls := "java/util/ImmutableCollections$List12", name := "get", desc := "(I)Ljava/lang/Object;" } : Jvm.MethodName)).before a0 Z = true := hw _ (oMem 63 rfl)
theorem Wd64 (hw : HW a0 Z) : (Jvm.Cond.instanceMethod ({ cls := "java/util/ImmutableCollections$List12", name := "get", desc := "(I)Ljava/lang/Object;" } : Jvm.MethodName)).before a0 Z = true := hw _ (oMem 64 rfl)
theorem Wd65 (hw : HW a0 Z) : (Jvm.Cond.publicMethod ({ cls := "java/util/ImmutableCollections$List12", name := "get", desc := "(I)Ljava/lang/Object;" } : Jvm.MethodName)).before a0 Z = true := hw _ (oMem 65 rfl)
theorem Wd66 (hw : HW a0 Z) : (Jvm.Cond.unhidden "java/util/ImmutableCollections$List12" "get" "(I)Ljava/lang/Object;").before a0 Z = true := hw _ (oMem 66 rfl)
theorem Wd67 (hw : HW a0 Z) : (Jvm.Cond.code ({ cls := "java/util/ImmutableCollections$List12", name := "get", desc := "(I)Ljava/lang/Object;" } : Jvm.MethodName) jdk_44_method_5_code (2 : Nat) (Option.some (Jvm.ClassFile.FieldType.object "java/lang/Object"))).before a0 Z = true := hw _ (oMem 67 rfl)
theorem Wd68 (hw : HW a0 Z) : (Jvm.Cond.fieldLink "java/util/ImmutableCollections$List12" (13 : Nat) "java/util/ImmutableCollections$List12" "e0" "Ljava/lang/Object;").before a0 Z = true := hw _ (oMem 68 rfl)
theorem Wd70 (hw : HW a0 Z) : (Jvm.Cond.laysStatic "com/example/savepoint/savepoint/SqlDialect" "HSQLDB" "Lcom/example/savepoint/savepoint/SqlDialect;").before a0 Z = true := hw _ (oMem 70 rfl)
theorem Wd71 (hw : HW a0 Z) : (Jvm.Cond.fieldLink "com/example/savepoint/savepoint/SqlDialectReadingsOfPinLaw" (37 : Nat) "com/example/savepoint/savepoint/SqlDialect" "HSQLDB" "Lcom/example/savepoint/savepoint/SqlDialect;").before a0 Z = true := hw _ (oMem 71 rfl)
theorem Wd72 (hw : HW a0 Z) : (Jvm.Cond.methodLink "java/lang/String" (177 : Nat) ({ cls := "java/lang/StringUTF16", name := "compress", desc := "([CII)[B" } : Jvm.MethodName)).before a0 Z = true := hw _ (oMem 72 rfl)
theorem Wd73 (hw : HW a0 Z) : (Jvm.Cond.static ({ cls := "java/lang/StringUTF16", name := "compress", desc := "([CII)[B" } : Jvm.MethodName)).before a0 Z = true := hw _ (oMem 73 rfl)
theorem Wd74 (hw : HW a0 Z) : (Jvm.Cond.initialized "java/lang/StringUTF16").before a0 Z = true := hw _ (oMem 74 rfl)
theorem Wd75 (hw : HW a0 Z) : (Jvm.Cond.code ({ cls := "java/lang/StringUTF16", name := "compress", desc := "([CII)[B" } : Jvm.MethodName) jdk_52_method_16_code (6 : Nat) (Option.some (Jvm.ClassFile.FieldType.array Jvm.ClassFile.FieldType.byte))).before a0 Z = true := hw _ (oMem 75 rfl)
theorem Wd76 (hw : HW a0 Z) : (Jvm.Cond.methodLink "java/lang/StringUTF16" (115 : Nat) ({ cls := "java/lang/StringUTF16", name := "compress", desc := "([CI[BII)I" } : Jvm.MethodName)).before a0 Z = true := hw _ (oMem 76 rfl)
theorem Wd77 (hw : HW a0 Z) : (Jvm.Cond.static ({ cls := "java/lang/StringUTF16", name := "compress", desc := "([CI[BII)I" } : Jvm.MethodName)).before a0 Z = true := hw _ (oMem 77 rfl)
theorem Wd78 (hw : HW a0 Z) : (Jvm.Cond.code ({ cls := "java/lang/StringUTF16", name := "compress", desc := "([CI[BII)I" } : Jvm.MethodName) jdk_52_method_21_code (7 : Nat) (Option.some Jvm.ClassFile.FieldType.int)).before a0 Z = true := hw _ (oMem 78 rfl)
theorem Wd79 (hw : HW a0 Z) : (Jvm.Cond.methodLink "java/lang/String" (47 : Nat) ({ cls := "java/lang/StringUTF16", name := "coderFromArrayLen", desc := "([BI)B" } : Jvm.MethodName)).before a0 Z = true := hw _ (oMem 79 rfl)
theorem Wd80 (hw : HW a0 Z) : (Jvm.Cond.static ({ cls := "java/lang/StringUTF16", name := "coderFromArrayLen", desc := "([BI)B" } : Jvm.MethodName)).before a0 Z = true := hw _ (oMem 80 rfl)
theorem Wd81 (hw : HW a0 Z) : (Jvm.Cond.code ({ cls := "java/lang/StringUTF16", name := "coderFromArrayLen", desc := "([BI)B" } : Jvm.MethodName) jdk_52_method_15_code (2 : Nat) (Option.some Jvm.ClassFile.FieldType.byte)).before a0 Z = true := hw _ (oMem 81 rfl)
theorem Wd82 (hw : HW a0 Z) : (Jvm.Cond.methodLink "com/example/savepoint/savepoint/SqlDialectReadingsOfPinLaw" (17 : Nat) ({ cls := "com/example/savepoint/savepoint/SqlDialectReadingsOfPinLaw", name := "isMark", desc := "(C)Z" } : Jvm.MethodName)).before a0 Z = true := hw _ (oMem 82 rfl)
theorem Wd83 (hw : HW a0 Z) : (Jvm.Cond.static ({ cls := "com/example/savepoint/savepoint/SqlDialectReadingsOfPinLaw", name := "isMark", desc := "(C)Z" } : Jvm.MethodName)).before a0 Z = true := hw _ (oMem 83 rfl)
theorem Wd84 (hw : HW a0 Z) : (Jvm.Cond.code ({ cls := "com/example/savepoint/savepoint/SqlDialectReadingsOfPinLaw", name := "isMark", desc := "(C)Z" } : Jvm.MethodName) method_3_code (1 : Nat) (Option.some Jvm.ClassFile.FieldType.boolean)).before a0 Z = true := hw _ (oMem 84 rfl)
theorem Wd85 (hw : HW a0 Z) : (Jvm.Cond.methodLink "com/example/savepoint/savepoint/SqlDialect" (69 : Nat) ({ cls := "java/lang/String", name := "charAt", desc := "(I)C" } : Jvm.MethodName)).before a0 Z = true := hw _ (oMem 85 rfl)
theorem Wd86 (hw : HW a0 Z) : (Jvm.Cond.declares ({ cls := "java/lang/String", name := "charAt", desc := "(I)C" } : Jvm.MethodName)).before a0 Z = true := hw _ (oMem 86 rfl)
theorem Wd87 (hw : HW a0 Z) : (Jvm.Cond.instanceMethod ({ cls := "java/lang/String", name := "charAt", desc := "(I)C" } : Jvm.MethodName)).before a0 Z = true := hw _ (oMem 87 rfl)
theorem Wd88 (hw : HW a0 Z) : (Jvm.Cond.selects "java/lang/String" ({ cls := "java/lang/String", name := "charAt", desc := "(I)C" } : Jvm.MethodName) ({ cls := "java/lang/String", name := "charAt", desc := "(I)C" } : Jvm.MethodName)).before a0 Z = true := hw _ (oMem 88 rfl)
theorem Wd89 (hw : HW a0 Z) : (Jvm.Cond.code ({ cls := "java/lang/String", name := "charAt", desc := "(I)C" } : Jvm.MethodName) jdk_42_method_56_code (2 : Nat) (Option.some Jvm.ClassFile.FieldType.char)).before a0 Z = true := hw _ (oMem 89 rfl)
theorem Wd90 (hw : HW a0 Z) : (Jvm.Cond.methodLink "java/lang/String" (492 : Nat) ({ cls := "java/lang/String", name := "isLatin1", desc := "()Z" } : Jvm.MethodName)).before a0 Z = true := hw _ (oMem 90 rfl)
theorem Wd91 (hw : HW a0 Z) : (Jvm.Cond.declares ({ cls := "java/lang/String", name := "isLatin1", desc := "()Z" } : Jvm.MethodName)).before a0 Z = true := hw _ (oMem 91 rfl)
theorem Wd92 (hw : HW a0 Z) : (Jvm.Cond.instanceMethod ({ cls := "java/lang/String", name := "isLatin1", desc := "()Z" } : Jvm.MethodName)).before a0 Z = true := hw _ (oMem 92 rfl)
theorem Wd93 (hw : HW a0 Z) : (Jvm.Cond.selects "java/lang/String" ({ cls := "java/lang/String", name := "isLatin1", desc := "()Z" } : Jvm.MethodName) ({ cls := "java/lang/String", name := "isLatin1", desc := "()Z" } : Jvm.MethodName)).before a0 Z = true := hw _ (oMem 93 rfl)
theorem Wd94 (hw : HW a0 Z) : (Jvm.Cond.code ({ cls := "java/lang/String", name := "isLatin1", desc := "()Z" } : Jvm.MethodName) jdk_42_method_154_code (1 : Nat) (Option.some Jvm.ClassFile.FieldType.boolean)).before a0 Z = true := hw _ (oMem 94 rfl)
theorem Wd95 (hw : HW a0 Z) : (Jvm.Cond.methodLink "java/lang/String" (495 : Nat) ({ cls := "java/lang/StringLatin1", name := "charAt", desc := "([BI)C" } : Jvm.MethodName)).before a0 Z = true := hw _ (oMem 95 rfl)
theorem Wd96 (hw : HW a0 Z) : (Jvm.Cond.static ({ cls := "java/lang/StringLatin1", name := "charAt", desc := "([BI)C" } : Jvm.MethodName)).before a0 Z = true := hw _ (oMem 96 rfl)
theorem Wd97 (hw : HW a0 Z) : (Jvm.Cond.initialized "java/lang/StringLatin1").before a0 Z = true := hw _ (oMem 97 rfl)
theorem Wd98 (hw : HW a0 Z) : (Jvm.Cond.code ({ cls := "java/lang/StringLatin1", name := "charAt", desc := "([BI)C" } : Jvm.MethodName) jdk_43_method_2_code (2 : Nat) (Option.some Jvm.ClassFile.FieldType.char)).before a0 Z = true := hw _ (oMem 98 rfl)
theorem Wd99 (hw : HW a0 Z) : (Jvm.Cond.methodLink "java/lang/StringLatin1" (9 : Nat) ({ cls := "java/lang/String", name := "checkIndex", desc := "(II)V" } : Jvm.MethodName)).before a0 Z = true := hw _ (oMem 99 rfl)
theorem Wd100 (hw : HW a0 Z) : (Jvm.Cond.static ({ cls := "java/lang/String", name := "checkIndex", desc := "(II)V" } : Jvm.MethodName)).before a0 Z = true := hw _ (oMem 100 rfl)
theorem Wd101 (hw : HW a0 Z) : (Jvm.Cond.code ({ cls := "java/lang/String", name := "checkIndex", desc := "(II)V" } : Jvm.MethodName) jdk_42_method_155_code (2 : Nat) (Option.none : Option Jvm.ClassFile.FieldType)).before a0 Z = true := hw _ (oMem 101 rfl)
theorem Wd102 (hw : HW a0 Z) : (Jvm.Cond.fieldLink "java/lang/String" (1053 : Nat) "jdk/internal/util/Preconditions" "SIOOBE_FORMATTER" "Ljava/util/function/BiFunction;").before a0 Z = true := hw _ (oMem 102 rfl)
theorem Wd103 (hw : HW a0 Z) : (Jvm.Cond.initialized "jdk/internal/util/Preconditions").before a0 Z = true := hw _ (oMem 103 rfl)
theorem Wd104 (hw : HW a0 Z) : (Jvm.Cond.methodLink "java/lang/String" (1059 : Nat) ({ cls := "jdk/internal/util/Preconditions", name := "checkIndex", desc := "(IILjava/util/function/BiFunction;)I" } : Jvm.MethodName)).before a0 Z = true := hw _ (oMem 104 rfl)
theorem Wd105 (hw : HW a0 Z) : (Jvm.Cond.static ({ cls := "jdk/internal/util/Preconditions", name := "checkIndex", desc := "(IILjava/util/function/BiFunction;)I" } : Jvm.MethodName)).before a0 Z = true := hw _ (oMem 105 rfl)
theorem Wd106 (hw : HW a0 Z) : (Jvm.Cond.code ({ cls := "jdk/internal/util/Preconditions", name := "checkIndex", desc := "(IILjava/util/function/BiFunction;)I" } : Jvm.MethodName) jdk_41_method_11_code (3 : Nat) (Option.some Jvm.ClassFile.FieldType.int)).before a0 Z = true := hw _ (oMem 106 rfl)
theorem Wd107 (hw : HW a0 Z) : (Jvm.Cond.fieldLink "com/example/savepoint/savepoint/SqlDialect" (73 : Nat) "com/example/savepoint/savepoint/SqlDialect" "MARKS" "[Z").before a0 Z = true := hw _ (oMem 107 rfl)
theorem Wd108 (hw : HW a0 Z) : (Jvm.Cond.laysStatic "com/example/savepoint/savepoint/SqlDialect" "MARKS" "[Z").before a0 Z = true := hw _ (oMem 108 rfl)
theorem Wd109 (hw : HW a0 Z) : (Jvm.Cond.fieldLink "com/example/savepoint/savepoint/SqlDialect" (77 : Nat) "com/example/savepoint/savepoint/SqlDialect" "ALL" "Ljava/util/List;").before a0 Z = true := hw _ (oMem 109 rfl)
theorem Wd110 (hw : HW a0 Z) : (Jvm.Cond.laysStatic "com/example/savepoint/savepoint/SqlDialect" "ALL" "Ljava/util/List;").before a0 Z = true := hw _ (oMem 110 rfl)
theorem Wd111 (hw : HW a0 Z) : (Jvm.Cond.selects "java/util/ImmutableCollections$ListN" ({ cls := "java/util/List", name := "size", desc := "()I" } : Jvm.MethodName) ({ cls := "java/util/ImmutableCollections$ListN", name := "size", desc := "()I" } : Jvm.MethodName)).before a0 Z = true := hw _ (oMem 111 rfl)
theorem Wd112 (hw : HW a0 Z) : (Jvm.Cond.instanceMethod ({ cls := "java/util/ImmutableCollections$ListN", name := "size", desc := "()I" } : Jvm.MethodName)).before a0 Z = true := hw _ (oMem 112 rfl)
theorem Wd113 (hw : HW a0 Z) : (Jvm.Cond.publicMethod ({ cls := "java/util/ImmutableCollections$ListN", name := "size", desc := "()I" } : Jvm.MethodName)).before a0 Z = true := hw _ (oMem 113 rfl)
theorem Wd114 (hw : HW a0 Z) : (Jvm.Cond.unhidden "java/util/ImmutableCollections$ListN" "size" "()I").before a0 Z = true := hw _ (oMem 114 rfl)
theorem Wd115 (hw : HW a0 Z) : (Jvm.Cond.castable "java/util/ImmutableCollections$ListN" "java/util/List").before a0 Z = true := hw _ (oMem 115 rfl)
theorem Wd116 (hw : HW a0 Z) : (Jvm.Cond.initialized "java/util/ImmutableCollections$ListN").before a0 Z = true := hw _ (oMem 116 rfl)
theorem Wd117 (hw : HW a0 Z) : (Jvm.Cond.code ({ cls := "java/util/ImmutableCollections$ListN", name := "size", desc := "()I" } : Jvm.MethodName) jdk_45_method_3_code (1 : Nat) (Option.some Jvm.ClassFile.FieldType.int)).before a0 Z = true := hw _ (oMem 117 rfl)
theorem Wd118 (hw : HW a0 Z) : (Jvm.Cond.fieldLink "java/util/ImmutableCollections$ListN" (7 : Nat) "java/util/ImmutableCollections$ListN" "elements" "[Ljava/lang/Object;").before a0 Z = true := hw _ (oMem 118 rfl)
theorem Wd120 (hw : HW a0 Z) : (Jvm.Cond.selects "java/util/ImmutableCollections$ListN" ({ cls := "java/util/List", name := "get", desc := "(I)Ljava/lang/Object;" } : Jvm.MethodName) ({ cls := "java/util/ImmutableCollections$ListN", name := "get", desc := "(I)Ljava/lang/Object;" } : Jvm.MethodName)).before a0 Z = true := hw _ (oMem 120 rfl)
theorem Wd121 (hw : HW a0 Z) : (Jvm.Cond.instanceMethod ({ cls := "java/util/ImmutableCollections$ListN", name := "get", desc := "(I)Ljava/lang/Object;" } : Jvm.MethodName)).before a0 Z = true := hw _ (oMem 121 rfl)
theorem Wd122 (hw : HW a0 Z) : (Jvm.Cond.publicMethod ({ cls := "java/util/ImmutableCollections$ListN", name := "get", desc := "(I)Ljava/lang/Object;" } : Jvm.MethodName)).before a0 Z = true := hw _ (oMem 122 rfl)
theorem Wd123 (hw : HW a0 Z) : (Jvm.Cond.unhidden "java/util/ImmutableCollections$ListN" "get" "(I)Ljava/lang/Object;").before a0 Z = true := hw _ (oMem 123 rfl)
theorem Wd124 (hw : HW a0 Z) : (Jvm.Cond.code ({ cls := "java/util/ImmutableCollections$ListN", name := "get", desc := "(I)Ljava/lang/Object;" } : Jvm.MethodName) jdk_45_method_4_code (2 : Nat) (Option.some (Jvm.ClassFile.FieldType.object "java/lang/Object"))).before a0 Z = true := hw _ (oMem 124 rfl)
theorem Wd125 (hw : HW a0 Z) : (Jvm.Cond.laysStatic "com/example/savepoint/savepoint/SqlDialect" "H2" "Lcom/example/savepoint/savepoint/SqlDialect;").before a0 Z = true := hw _ (oMem 125 rfl)
theorem Wd126 (hw : HW a0 Z) : (Jvm.Cond.fieldLink "com/example/savepoint/savepoint/SqlDialectReadingsOfPinLaw" (41 : Nat) "com/example/savepoint/savepoint/SqlDialect" "H2" "Lcom/example/savepoint/savepoint/SqlDialect;").before a0 Z = true := hw _ (oMem 126 rfl)
theorem Wd127 (hw : HW a0 Z) : (Jvm.Cond.laysStatic "com/example/savepoint/savepoint/SqlDialect" "POSTGRESQL" "Lcom/example/savepoint/savepoint/SqlDialect;").before a0 Z = true := hw _ (oMem 127 rfl)
theorem Wd128 (hw : HW a0 Z) : (Jvm.Cond.fieldLink "com/example/savepoint/savepoint/SqlDialectReadingsOfPinLaw" (44 : Nat) "com/example/savepoint/savepoint/SqlDialect" "POSTGRESQL" "Lcom/example/savepoint/savepoint/SqlDialect;").before a0 Z = true := hw _ (oMem 128 rfl)
theorem Wd129 (hw : HW a0 Z) : (Jvm.Cond.laysStatic "com/example/savepoint/savepoint/SqlDialect" "SQLITE" "Lcom/example/savepoint/savepoint/SqlDialect;").before a0 Z = true := hw _ (oMem 129 rfl)
theorem Wd130 (hw : HW a0 Z) : (Jvm.Cond.fieldLink "com/example/savepoint/savepoint/SqlDialectReadingsOfPinLaw" (47 : Nat) "com/example/savepoint/savepoint/SqlDialect" "SQLITE" "Lcom/example/savepoint/savepoint/SqlDialect;").before a0 Z = true := hw _ (oMem 130 rfl)
theorem Wd131 (hw : HW a0 Z) : (Jvm.Cond.methodLink "java/lang/StringUTF16" (119 : Nat) ({ cls := "java/lang/StringUTF16", name := "toBytes", desc := "([CII)[B" } : Jvm.MethodName)).before a0 Z = true := hw _ (oMem 131 rfl)
theorem Wd132 (hw : HW a0 Z) : (Jvm.Cond.static ({ cls := "java/lang/StringUTF16", name := "toBytes", desc := "([CII)[B" } : Jvm.MethodName)).before a0 Z = true := hw _ (oMem 132 rfl)
theorem Wd133 (hw : HW a0 Z) : (Jvm.Cond.code ({ cls := "java/lang/StringUTF16", name := "toBytes", desc := "([CII)[B" } : Jvm.MethodName) jdk_52_method_14_code (5 : Nat) (Option.some (Jvm.ClassFile.FieldType.array Jvm.ClassFile.FieldType.byte))).before a0 Z = true := hw _ (oMem 133 rfl)
theorem Wd134 (hw : HW a0 Z) : (Jvm.Cond.methodLink "java/lang/StringUTF16" (107 : Nat) ({ cls := "java/lang/StringUTF16", name := "newBytesFor", desc := "(I)[B" } : Jvm.MethodName)).before a0 Z = true := hw _ (oMem 134 rfl)
theorem Wd135 (hw : HW a0 Z) : (Jvm.Cond.static ({ cls := "java/lang/StringUTF16", name := "newBytesFor", desc := "(I)[B" } : Jvm.MethodName)).before a0 Z = true := hw _ (oMem 135 rfl)
theorem Wd136 (hw : HW a0 Z) : (Jvm.Cond.code ({ cls := "java/lang/StringUTF16", name := "newBytesFor", desc := "(I)[B" } : Jvm.MethodName) jdk_52_method_2_code (1 : Nat) (Option.some (Jvm.ClassFile.FieldType.array Jvm.ClassFile.FieldType.byte))).before a0 Z = true := hw _ (oMem 136 rfl)
theorem Wd137 (hw : HW a0 Z) : (Jvm.Cond.methodLink "java/lang/StringUTF16" (11 : Nat) ({ cls := "java/lang/StringUTF16", name := "newBytesLength", desc := "(I)I" } : Jvm.MethodName)).before a0 Z = true := hw _ (oMem 137 rfl)
theorem Wd138 (hw : HW a0 Z) : (Jvm.Cond.static ({ cls := "java/lang/StringUTF16", name := "newBytesLength", desc := "(I)I" } : Jvm.MethodName)).before a0 Z = true := hw _ (oMem 138 rfl)
theorem Wd139 (hw : HW a0 Z) : (Jvm.Cond.code ({ cls := "java/lang/StringUTF16", name := "newBytesLength", desc := "(I)I" } : Jvm.MethodName) jdk_52_method_3_code (1 : Nat) (Option.some Jvm.ClassFile.FieldType.int)).before a0 Z = true := hw _ (oMem 139 rfl)
theorem Wd140 (hw : HW a0 Z) : (Jvm.Cond.constant "java/lang/StringUTF16" (20 : Nat) (1073741823 : Int32)).before a0 Z = true := hw _ (oMem 140 rfl)
theorem Wd141 (hw : HW a0 Z) : (Jvm.Cond.methodLink "java/lang/StringUTF16" (111 : Nat) ({ cls := "java/lang/StringUTF16", name := "putChar", desc := "([BII)V" } : Jvm.MethodName)).before a0 Z = true := hw _ (oMem 141 rfl)
theorem Wd142 (hw : HW a0 Z) : (Jvm.Cond.static ({ cls := "java/lang/StringUTF16", name := "putChar", desc := "([BII)V" } : Jvm.MethodName)).before a0 Z = true := hw _ (oMem 142 rfl)
theorem Wd143 (hw : HW a0 Z) : (Jvm.Cond.code ({ cls := "java/lang/StringUTF16", name := "putChar", desc := "([BII)V" } : Jvm.MethodName) jdk_52_method_4_code (3 : Nat) (Option.none : Option Jvm.ClassFile.FieldType)).before a0 Z = true := hw _ (oMem 143 rfl)
theorem Wd144 (hw : HW a0 Z) : (Jvm.Cond.fieldLink "java/lang/StringUTF16" (44 : Nat) "java/lang/StringUTF16" "$assertionsDisabled" "Z").before a0 Z = true := hw _ (oMem 144 rfl)
theorem Wd145 (hw : HW a0 Z) : (Jvm.Cond.fieldLink "java/lang/StringUTF16" (59 : Nat) "java/lang/StringUTF16" "HI_BYTE_SHIFT" "I").before a0 Z = true := hw _ (oMem 145 rfl)
theorem Wd146 (hw : HW a0 Z) : (Jvm.Cond.fieldLink "java/lang/StringUTF16" (63 : Nat) "java/lang/StringUTF16" "LO_BYTE_SHIFT" "I").before a0 Z = true := hw _ (oMem 146 rfl)
theorem Wd147 (hw : HW a0 Z) : (Jvm.Cond.methodLink "java/lang/StringUTF16" (71 : Nat) ({ cls := "java/lang/StringUTF16", name := "getChar", desc := "([BI)C" } : Jvm.MethodName)).before a0 Z = true := hw _ (oMem 147 rfl)
theorem Wd148 (hw : HW a0 Z) : (Jvm.Cond.static ({ cls := "java/lang/StringUTF16", name := "getChar", desc := "([BI)C" } : Jvm.MethodName)).before a0 Z = true := hw _ (oMem 148 rfl)
theorem Wd149 (hw : HW a0 Z) : (Jvm.Cond.code ({ cls := "java/lang/StringUTF16", name := "getChar", desc := "([BI)C" } : Jvm.MethodName) jdk_52_method_5_code (2 : Nat) (Option.some Jvm.ClassFile.FieldType.char)).before a0 Z = true := hw _ (oMem 149 rfl)
theorem Wd150 (hw : HW a0 Z) : (Jvm.Cond.methodLink "java/lang/String" (498 : Nat) ({ cls := "java/lang/StringUTF16", name := "charAt", desc := "([BI)C" } : Jvm.MethodName)).before a0 Z = true := hw _ (oMem 150 rfl)
theorem Wd151 (hw : HW a0 Z) : (Jvm.Cond.static ({ cls := "java/lang/StringUTF16", name := "charAt", desc := "([BI)C" } : Jvm.MethodName)).before a0 Z = true := hw _ (oMem 151 rfl)
theorem Wd152 (hw : HW a0 Z) : (Jvm.Cond.code ({ cls := "java/lang/StringUTF16", name := "charAt", desc := "([BI)C" } : Jvm.MethodName) jdk_52_method_83_code (2 : Nat) (Option.some Jvm.ClassFile.FieldType.char)).before a0 Z = true := hw _ (oMem 152 rfl)
theorem Wd153 (hw : HW a0 Z) : (Jvm.Cond.methodLink "java/lang/StringUTF16" (67 : Nat) ({ cls := "java/lang/StringUTF16", name := "checkIndex", desc := "(I[B)V" } : Jvm.MethodName)).before a0 Z = true := hw _ (oMem 153 rfl)
theorem Wd154 (hw : HW a0 Z) : (Jvm.Cond.static ({ cls := "java/lang/StringUTF16", name := "checkIndex", desc := "(I[B)V" } : Jvm.MethodName)).before a0 Z = true := hw _ (oMem 154 rfl)
theorem Wd155 (hw : HW a0 Z) : (Jvm.Cond.code ({ cls := "java/lang/StringUTF16", name := "checkIndex", desc := "(I[B)V" } : Jvm.MethodName) jdk_52_method_91_code (2 : Nat) (Option.none : Option Jvm.ClassFile.FieldType)).before a0 Z = true := hw _ (oMem 155 rfl)
theorem Wd156 (hw : HW a0 Z) : (Jvm.Cond.methodLink "java/lang/StringUTF16" (48 : Nat) ({ cls := "java/lang/StringUTF16", name := "length", desc := "([B)I" } : Jvm.MethodName)).before a0 Z = true := hw _ (oMem 156 rfl)
theorem Wd157 (hw : HW a0 Z) : (Jvm.Cond.static ({ cls := "java/lang/StringUTF16", name := "length", desc := "([B)I" } : Jvm.MethodName)).before a0 Z = true := hw _ (oMem 157 rfl)
theorem Wd158 (hw : HW a0 Z) : (Jvm.Cond.code ({ cls := "java/lang/StringUTF16", name := "length", desc := "([B)I" } : Jvm.MethodName) jdk_52_method_6_code (1 : Nat) (Option.some Jvm.ClassFile.FieldType.int)).before a0 Z = true := hw _ (oMem 158 rfl)
theorem Wd159 (hw : HW a0 Z) : (Jvm.Cond.methodLink "java/lang/StringUTF16" (414 : Nat) ({ cls := "java/lang/String", name := "checkIndex", desc := "(II)V" } : Jvm.MethodName)).before a0 Z = true := hw _ (oMem 159 rfl)
end Words
abbrev yM0 : MethodName := ⟨"java/lang/String", "<init>", "([CIILjava/lang/Void;)V"⟩
abbrev yM1 : MethodName := ⟨"java/lang/String", "<init>", "([C)V"⟩
abbrev yM2 : MethodName := ⟨"java/lang/StringUTF16", "putChar", "([BII)V"⟩
abbrev yM3 : MethodName := ⟨"java/lang/StringUTF16", "newBytesLength", "(I)I"⟩
abbrev yM4 : MethodName := ⟨"java/lang/StringUTF16", "coderFromArrayLen", "([BI)B"⟩
abbrev yM5 : MethodName := ⟨"java/lang/StringUTF16", "getChar", "([BI)C"⟩
abbrev yM6 : MethodName := ⟨"java/lang/StringUTF16", "newBytesFor", "(I)[B"⟩
abbrev yM7 : MethodName := ⟨"java/lang/StringUTF16", "toBytes", "([CII)[B"⟩
abbrev yM8 : MethodName := ⟨"java/lang/StringUTF16", "compress", "([CI[BII)I"⟩
abbrev yM9 : MethodName := ⟨"java/lang/StringUTF16", "compress", "([CII)[B"⟩
abbrev yM10 : MethodName := ⟨"java/lang/String", "coder", "()B"⟩
abbrev yM11 : MethodName := ⟨"java/lang/String", "isLatin1", "()Z"⟩
abbrev yM12 : MethodName := ⟨"java/lang/String", "length", "()I"⟩
abbrev yM13 : MethodName := ⟨"jdk/internal/util/Preconditions", "checkIndex", "(IILjava/util/function/BiFunction;)I"⟩
abbrev yM14 : MethodName := ⟨"java/lang/String", "checkIndex", "(II)V"⟩
abbrev yM15 : MethodName := ⟨"java/lang/StringUTF16", "length", "([B)I"⟩
abbrev yM16 : MethodName := ⟨"java/lang/StringLatin1", "charAt", "([BI)C"⟩
abbrev yM17 : MethodName := ⟨"java/lang/StringUTF16", "checkIndex", "(I[B)V"⟩
abbrev yM18 : MethodName := ⟨"java/lang/StringUTF16", "charAt", "([BI)C"⟩
abbrev yM19 : MethodName := ⟨"java/lang/String", "charAt", "(I)C"⟩
abbrev yM20 : MethodName := ⟨"com/example/savepoint/savepoint/SqlDialect", "readingsOf", "(Ljava/lang/String;)Ljava/util/List;"⟩
abbrev yM21 : MethodName := ⟨"java/util/ImmutableCollections$List12", "size", "()I"⟩
abbrev yM22 : MethodName := ⟨"java/util/ImmutableCollections$List12", "get", "(I)Ljava/lang/Object;"⟩
abbrev yM23 : MethodName := ⟨"java/util/ImmutableCollections$ListN", "size", "()I"⟩
abbrev yM24 : MethodName := ⟨"java/util/ImmutableCollections$ListN", "get", "(I)Ljava/lang/Object;"⟩
abbrev yM25 : MethodName := ⟨"com/example/savepoint/savepoint/SqlDialectReadingsOfPinLaw", "pick", "(I)C"⟩
abbrev yM26 : MethodName := ⟨"com/example/savepoint/savepoint/SqlDialectReadingsOfPinLaw", "isMark", "(C)Z"⟩
abbrev yM27 : MethodName := ⟨"com/example/savepoint/savepoint/SqlDialectReadingsOfPinLaw", "make", "(ICCCC)Ljava/lang/String;"⟩
abbrev yM28 : MethodName := ⟨"java/util/List", "size", "()I"⟩
abbrev yM29 : MethodName := ⟨"java/util/List", "get", "(I)Ljava/lang/Object;"⟩
/-- the run comes from A to a state with P -/
def ownG (tb : Tables) (e : Env) (below : List Frame) (P : State → Prop) (A : State) : Prop := ∃ t, Steps tb e below A t ∧ P t
theorem ownBy {tb : Tables} {e : Env} {below : List Frame} {P : State → Prop} {A B : State} (st : ∀ t, Steps tb e below A t → Steps tb e below B t) (k : ownG tb e below P A) : ownG tb e below P B := by
  obtain ⟨t, h, q⟩ := k
  exact ⟨t, st t h, q⟩
theorem ownSt {tb : Tables} {e : Env} {below : List Frame} {P : State → Prop} {A B : State} (st : Steps tb e below B A) (k : ownG tb e below P A) : ownG tb e below P B := by
  obtain ⟨t, h, q⟩ := k
  exact ⟨t, st.trans h, q⟩
def ownE (s : State) (below : List Frame) (Q : Option Value → Heap → List Loc → Prop) (k n : Nat) (t : State) : Prop := t.status = .running ∧ ∃ v L, Ended t below (.returned v) ∧ Q v t.heap L ∧ FrameEnd s (.returned v) t L k n
def ownEH (s : State) (below : List Frame) (Q : Option Value → Heap → List Loc → Prop) (Z : State) (EL : List (String × Nat)) (h0 : Heap) (k n : Nat) (t : State) : Prop := t.status = .running ∧ ∃ v L, Ended t below (.returned v) ∧ Q v t.heap L ∧ CHr Z EL s.vm h0 t.vm t.heap ∧ ReturnedEndW s (.returned v) t L k n
theorem ownOut {tb : Tables} {e : Env} {below : List Frame} {P : Option Value → Heap → List Loc → Prop} {s A : State} {k n : Nat} (g : ownG tb e below (ownE s below P k n) A) :
    ∃ s₂ o, Steps tb e below A s₂ ∧ s₂.status = .running ∧ Ended s₂ below o ∧ ∃ v L, o = .returned v ∧ P v s₂.heap L ∧ FrameEnd s o s₂ L k n := by
  obtain ⟨t, h, r, v, L, e1, q, f⟩ := g
  exact ⟨t, _, h, r, e1, v, L, rfl, q, f⟩
theorem ownOutH {tb : Tables} {e : Env} {below : List Frame} {P : Option Value → Heap → List Loc → Prop} {s A Z : State} {EL : List (String × Nat)} {h0 : Heap} {k n : Nat} (hh : s.heap = h0) (g : ownG tb e below (ownEH s below P Z EL h0 k n) A) :
    ∃ s₂ o, Steps tb e below A s₂ ∧ s₂.status = .running ∧ Ended s₂ below o ∧ ∃ v L, o = .returned v ∧ P v s₂.heap L ∧ CHr Z EL s.vm s.heap s₂.vm s₂.heap ∧ ReturnedEndW s o s₂ L k n := by
  subst hh
  obtain ⟨t, h, r, v, L, e1, q, c, f⟩ := g
  exact ⟨t, _, h, r, e1, v, L, rfl, q, c, f⟩
theorem ownRet {p : Program} {l : Launch} {e : Env} {R : Room} {s : State} {m : MethodId} {args : Array Value} {below : List Frame} {meth : Method} {c : Code} {T A : State} {locs : List Loc} {cells slots k n : Nat} {P : Option Value → Heap → List Loc → Prop}
    (X : Stand p l e R s m args below meth c T locs cells slots) (hlk : meth.locks = false) {v : Option Value} (hv : meth.sig.returnType = none → v = none) (hQ : P v T.heap locs) (hk : cells ≤ k) (hn : slots ≤ n)
    (st : ∀ fs, (∀ (f : JFrame) (acts : List Action), f.method = m → f.locked = none → f.entered = [] → (doReturn e (T.setTop f) acts v).1 = T.setFrames fs) → Steps p.tables e below A (T.setFrames fs)) :
    ownG p.tables e below (ownE s below P k n) A := by
  obtain ⟨fs, hr, hrun, hended, hW, hsame⟩ := X.leave hv hlk
  exact ⟨_, st fs hr, hrun, v, locs, hended, hQ, ⟨_, rfl⟩, hW, hsame.mono hk hn⟩
theorem ownRetH {p : Program} {l : Launch} {e : Env} {R : Room} {s : State} {m : MethodId} {args : Array Value} {below : List Frame} {meth : Method} {c : Code} {T A Z : State} {EL : List (String × Nat)} {h0 : Heap} {locs : List Loc} {cells slots k n k1 : Nat} {vm1 : Vm} {P : Option Value → Heap → List Loc → Prop}
    (X : Stand p l e R (s.setVm vm1) m args below meth c T locs cells slots) (hS : s.Since vm1 k1) (hk1 : k1 ≤ T.heap.size) (hlk : meth.locks = false) {v : Option Value} (hv : meth.sig.returnType = none → v = none) (hQ : P v T.heap locs) (hC : CHr Z EL s.vm h0 T.vm T.heap) (hk : cells ≤ k) (hn : slots ≤ n)
    (st : ∀ fs, (∀ (f : JFrame) (acts : List Action), f.method = m → f.locked = none → f.entered = [] → (doReturn e (T.setTop f) acts v).1 = T.setFrames fs) → Steps p.tables e below A (T.setFrames fs)) :
    ownG p.tables e below (ownEH s below P Z EL h0 k n) A := by
  obtain ⟨fs, hr, hrun, hended, hR⟩ := X.leaveW hS hk1 hv hlk
  exact ⟨_, st fs hr, hrun, v, locs, hended, hQ, hC, hR.1, hR.2.1, hR.2.2.1, hR.2.2.2.mono hk hn⟩
theorem own_since {s : State} {n : Nat} : s.Since s.vm n := (State.WarmedH.refl s).since n
theorem own_cat {v : Value} (h : v.isRef = true) : v.category = 1 := by cases v <;> simp_all [Value.isRef, Value.category]
theorem own_narrow {t : FieldType} {v : Value} (ht : t.isReference = true) (h : v.isRef = true) : narrow t v = v := by
  rcases ref_cases h with rfl | ⟨a, rfl⟩ <;> cases t <;> simp_all [narrow, FieldType.isReference]
theorem own_fits {t : FieldType} {v : Value} (ht : t.isReference = true) (h : v.isRef = true) : fits t v = true := by
  rcases ref_cases h with rfl | ⟨a, rfl⟩ <;> cases t <;> simp_all [fits, FieldType.isReference]
theorem own_and255 (x : Int32) : ¬ nar .char ((x &&& (255 : Int32)).toUInt32.toUInt16.toUInt32.toInt32) < 0 ∧ ¬ (255 : Int32) < nar .char ((x &&& (255 : Int32)).toUInt32.toUInt16.toUInt32.toInt32) := by
  have t : ∀ k : Fin 256, ¬ nar .char ((Int32.ofNat k.val).toUInt32.toUInt16.toUInt32.toInt32) < 0 ∧ ¬ (255 : Int32) < nar .char ((Int32.ofNat k.val).toUInt32.toUInt16.toUInt32.toInt32) := by decide +kernel
  have h : (x &&& 255).toBitVec.toNat < 256 := by
    simp only [Int32.toBitVec_and, BitVec.toNat_and]
    exact Nat.lt_succ_of_le Nat.and_le_right
  have e : (x &&& 255) = Int32.ofNat (x &&& 255).toBitVec.toNat := by
    apply Int32.toBitVec_inj.mp
    show _ = BitVec.ofNat 32 _
    rw [BitVec.ofNat_toNat]; simp
  rw [e]
  exact t ⟨_, h⟩
theorem own_up (cs : List Int32) (h : ∀ c ∈ cs, ¬ c < 0 ∧ ¬ (255 : Int32) < c) : ∀ c ∈ cs, ¬ c < 0 ∧ ¬ (65535 : Int32) < c := fun c hc => ⟨(h c hc).1, fun q => (h c hc).2 (by rw [Int32.lt_iff_toInt_lt] at q ⊢; have e1 : (65535 : Int32).toInt = 65535 := rfl; have e2 : (255 : Int32).toInt = 255 := rfl; omega)⟩
theorem own_nz {args : Array Value} {s : State} {t : Jvm.Term} {g : Int32} (e : t.eval args s none [] s = some (.int g)) (h : (Jvm.Cond.not (Jvm.Cond.eq t (Jvm.Term.int (0 : Int32)))).value args s none s [] = some true) : ¬ (g = (0 : Int32)) := by
  intro q
  subst q
  simp [Jvm.Cond.value, Jvm.Term.eval, e] at h
theorem own_lcmp_self (x : Int64) : lcmpW x x = 0 := by rw [lcW]; exact (lc_eq x x).mpr rfl
theorem own_nar_byte (x : Int32) : nar .byte (x.toInt8.toInt32) = x.toInt8.toInt32 := by simp [nar]
theorem own_nar_char (x : Int32) : nar .char (x.toUInt32.toUInt16.toUInt32.toInt32) = x.toUInt32.toUInt16.toUInt32.toInt32 := by
  have q := c_i2c x
  have q2 := c_i2c (x.toUInt32.toUInt16.toUInt32.toInt32)
  exact Int32.toInt_inj.mp (by show ((x.toUInt32.toUInt16.toUInt32.toInt32).toUInt32.toUInt16.toUInt32.toInt32).toInt = _; omega)
theorem own_and255c (x : Int32) : ¬ ((255 : Int32) < (x &&& (255 : Int32)).toUInt32.toUInt16.toUInt32.toInt32) := by
  have h := (own_and255 x).2
  rwa [own_nar_char] at h
def own_b (p : Prop) [Decidable p] : Int32 := if p then 1 else 0
theorem own_bt0 {p : Prop} [Decidable p] (h : p) : ¬ (own_b p = (0 : Int32)) := by simp [own_b, h]
theorem own_bf0 {p : Prop} [Decidable p] (h : ¬ p) : own_b p = (0 : Int32) := by simp [own_b, h]
theorem own_bt1 {p : Prop} [Decidable p] (h : p) : own_b p = (1 : Int32) := by simp [own_b, h]
theorem own_bf1 {p : Prop} [Decidable p] (h : ¬ p) : ¬ (own_b p = (1 : Int32)) := by simp [own_b, h]
theorem own_eqv {s : State} {args : Array Value} {t u : Jvm.Term} {w : Addr} (eu : u.eval args s none [] s = some (.ref w)) (h : (Jvm.Cond.eq t u).value args s none s [] = some true) : t.eval args s none [] s = some (.ref w) := by
  obtain ⟨x, y, ex, ey, kx, -⟩ := cmp_v (Or.inl h)
  cases eu.symm.trans ey
  have hr : x.isRef = true := by cases x <;> simp_all [Kin, Value.isRef]
  have q := gotT (eq_R ex ey hr rfl) h
  rw [ex, q]
theorem own_len {s : State} {args : Array Value} {t : Jvm.Term} {a : Addr} {c : Cell} {ty : FieldType} {n : Int32} (ev : t.eval args s none [] s = some (.ref a)) (A : Arr s s.heap a c ty) (h : (Jvm.Cond.eq (Jvm.Term.length t) (Jvm.Term.int n)).value args s none s [] = some true) : c.slots.size < 2 ^ 31 ∧ c.slots.size.toInt32 = n := by
  have q := eqv_i (y := n) rfl h
  have ha := A.fin (Vm.Alike.refl _)
  simp only [Jvm.Term.eval, ev, ha, Option.bind_eq_bind, Option.bind_some] at q
  split at q
  · rename_i hl
    exact ⟨hl, by simpa using q⟩
  · simp at q
theorem own_elem {s : State} {args : Array Value} {t : Jvm.Term} {a : Addr} {c : Cell} {ty : FieldType} {j : Int32} {v : Value} (ev : t.eval args s none [] s = some (.ref a)) (A : Arr s s.heap a c ty) (h : (Jvm.Term.elem t (Jvm.Term.int j)).eval args s none [] s = some v) : c.slots[j.toNatClampNeg]? = some v :=
  (elem_in h ev rfl A.1).2
theorem own_nar_rng {c : Int32} (h0 : ¬ c < 0) (h1 : ¬ (255 : Int32) < c) : nar .char c = c := by
  have e0 : (0 : Int32).toInt = 0 := rfl
  have e1 : (255 : Int32).toInt = 255 := rfl
  simp only [Int32.lt_iff_toInt_lt] at h0 h1
  have q := c_i2c c
  exact Int32.toInt_inj.mp (by show (c.toUInt32.toUInt16.toUInt32.toInt32).toInt = _; omega)
theorem own_idx {p : Int32} {n : Nat} (h0 : ¬ p < 0) (h : p < Int32.ofNat n) (hn : n ≤ 4000) : p.toNatClampNeg < n := by
  have e0 : (0 : Int32).toInt = 0 := rfl
  simp only [Int32.lt_iff_toInt_lt] at h0 h
  rw [Int32.toInt_ofNat_of_lt (by omega)] at h
  show p.toInt.toNat < n
  omega
theorem own_set_rng {cs : List Int32} {i : Nat} {x : Int32} (h : ∀ c ∈ cs, ¬ c < 0 ∧ ¬ (255 : Int32) < c) (hx : ¬ x < 0 ∧ ¬ (255 : Int32) < x) : ∀ c ∈ cs.set i x, ¬ c < 0 ∧ ¬ (255 : Int32) < c := fun c hc =>
  (List.mem_or_eq_of_mem_set hc).elim (h c) (fun e => e ▸ hx)
theorem own_rem_nn (x y : Int32) (hy : 0 < y.toInt) : ¬ ((x &&& (2147483647 : Int32)) % y < 0) := by
  have h0 : 0 ≤ (x &&& (2147483647 : Int32)).toInt := (c_and x 2147483647 (by decide)).1
  have q := (c_iremV (x &&& 2147483647) y).1 h0 hy
  have e0 : (0 : Int32).toInt = 0 := rfl
  simp only [Int32.lt_iff_toInt_lt]
  omega
theorem own_and255p (x : Int32) : ¬ (x &&& (255 : Int32)).toUInt32.toUInt16.toUInt32.toInt32 < 0 ∧ ¬ ((255 : Int32) < (x &&& (255 : Int32)).toUInt32.toUInt16.toUInt32.toInt32) := by
  have h := own_and255 x
  rwa [own_nar_char] at h
theorem own_ty_ne {Z : State} {h : Heap} {a b : Addr} {k1 k2 : ClassId} {t1 t2 : FieldType} {z1 z2 : Int32} {v1 v2 : List Value} {d1 d2 : Value} (A : Arv Z h a k1 t1 z1 v1 d1) (B : Arv Z h b k2 t2 z2 v2 d2) (q : t1 ≠ t2) : a ≠ b := fun e => by
  subst e
  obtain ⟨c1, A1, -⟩ := A
  obtain ⟨c2, B1, -⟩ := B
  cases A1.1.symm.trans B1.1
  obtain ⟨-, k, hk, comp, hkind⟩ := A1.2.1
  obtain ⟨-, k', hk', comp', hkind'⟩ := B1.2.1
  cases hk.symm.trans hk'
  rw [hkind] at hkind'
  injection hkind' with _ e2
  exact q e2
theorem own_hide {p : Program} {l : Launch} {e : Env} {R : Room} {s : State} {m : MethodId} {args : Array Value} {below : List Frame} {meth : Method} {c : Code} {T : State} {locs : List Loc} {cells slots cells' slots' n0 : Nat} (X : Stand p l e R s m args below meth c T locs cells slots) (N : Fr n0 locs) (hc : cells ≤ cells') (hs : slots ≤ slots') : ∃ L, Stand p l e R s m args below meth c T L cells' slots' ∧ Fr n0 L := ⟨_, X.more hc hs, N⟩
theorem own_getF {p : Program} {l : Launch} {e : Env} {R : Room} {s : State} {m : MethodId} {args : Array Value} {below : List Frame} {meth : Method} {c : Code} {T Z : State} {locs : List Loc} {cells slots : Nat} {a0 : Array Value} {h : Heap} {P : State → Prop} (X : Stand p l e R s m args below meth c T locs cells slots) (hx : p.tables.exec = Jvm.exec) (hZ : Z.Warmed39 s.vm) {own R0 O n d host : String} {index : Nat} (hown : s.vm.findClass own = some m.cls) (w : (Jvm.Cond.fieldLink own index R0 n d).before a0 Z = true ∨ (Jvm.Cond.fieldLinkNest own index R0 n d host).before a0 Z = true) (via : Via Z R0 O n d)
    (eT : T.heap = h) {a : Addr} {v : Value} (F : Fld Z h a O n d v) {pc : Nat} {Ls : Array Slot} {rest : List Value} (hd : decode c.code pc = .ok (.getfield index, 3)) (k : ∀ T', Stand p l e R s m args below meth c T' locs cells slots → T'.heap = h → ownG p.tables e below P (T'.setTop (mkF m (pc + 3) Ls (v :: rest)))) : ownG p.tables e below P (T.setTop (mkF m pc Ls (.ref a :: rest))) := by
  obtain ⟨T', X', e', st⟩ := getF X hx hZ hown w via eT F (g := mkF m pc Ls (.ref a :: rest)) rfl rfl hd
  exact ownBy st (k T' X' e')
theorem own_getS {p : Program} {l : Launch} {e : Env} {R : Room} {s : State} {m : MethodId} {args : Array Value} {below : List Frame} {meth : Method} {c : Code} {T Z : State} {locs : List Loc} {cells slots : Nat} {a0 : Array Value} {h : Heap} {P : State → Prop} (X : Stand p l e R s m args below meth c T locs cells slots) (hx : p.tables.exec = Jvm.exec) (hZ : Z.Warmed39 s.vm) {own R0 O n d host : String} {index : Nat} (hown : s.vm.findClass own = some m.cls) (w : (Jvm.Cond.fieldLink own index R0 n d).before a0 Z = true ∨ (Jvm.Cond.fieldLinkNest own index R0 n d host).before a0 Z = true) (via : Via Z R0 O n d)
    (eT : T.heap = h) {v : Value} (F : Sta Z h O n d v) {pc : Nat} {Ls : Array Slot} {rest : List Value} (hd : decode c.code pc = .ok (.getstatic index, 3)) (k : ∀ T', Stand p l e R s m args below meth c T' locs cells slots → T'.heap = h → ownG p.tables e below P (T'.setTop (mkF m (pc + 3) Ls (v :: rest)))) : ownG p.tables e below P (T.setTop (mkF m pc Ls rest)) := by
  obtain ⟨T', X', e', st⟩ := getS2 X hx hZ hown w via eT F (g := mkF m pc Ls rest) rfl hd
  exact ownBy st (k T' X' e')
theorem own_safe_blank {Z : State} {EL : List (String × Nat)} {vm : Vm} {h : Heap} {x : Addr} (hal : Z.vm.Alike vm) (E : Exa Z h x "java/lang/String") (F : Fld Z h x "java/lang/String" "value" "[B" .null) : Safe Z EL vm h x := fun B => by
  obtain ⟨p, -, u, a, -, q, -, G, rfl | rfl⟩ := B
  · obtain ⟨cS, ⟨⟨s1, s2, s3, ⟨cv, kv, iv, s4, s4'⟩, -, s6, -, s8, -⟩, -⟩, -⟩ := G
    obtain ⟨cell, cf, kk, i, f, h1, h2, h3, -, -, -, h7⟩ := F
    cases (show h[q.sa]? = some q.sC from s1).symm.trans h1
    obtain ⟨kv', z4⟩ := ff_back (U := Wst Z vm h) hal s4
    cases h2.symm.trans z4
    rw [s8] at h7
    cases h7
  · obtain ⟨cell, k, e1, e2, e3, -, -⟩ := E
    cases (show h[q.sd]? = some q.SA from G.hd).symm.trans e1
    obtain ⟨cS, -, -, f, -⟩ := G
    have f' : vm.findClass "[B" = some q.SA.cls := f
    rw [hal.findClass] at f'
    obtain ⟨k1, q1, q2⟩ := Vm.findClass_spec f'
    obtain ⟨k2, q3, q4⟩ := Vm.findClass_spec e2
    cases q1.symm.trans q3
    exact absurd (q2.symm.trans q4) (by decide)
theorem own_wS {Z : State} {a0 : Array Value} (hw : ∀ d ∈ tables_1, d.before a0 Z = true) : ∀ a ∈ Bundle.stringAtoms, a.before a0 Z = true := fun d hd => hw d ((by decide +kernel : ∀ d ∈ Bundle.stringAtoms, d ∈ tables_1) d hd)
theorem oTo {tb : Tables} {e : Env} {below : List Frame} {P : State → Prop} {B : State} (T : State) (F : JFrame) (h : ∀ t, Steps tb e below (T.setTop F) t → Steps tb e below B t) (g : ownG tb e below P (T.setTop F)) : ownG tb e below P B := ownBy h g
abbrev oA (p : Program) (e : Env) (below : List Frame) (P : State → Prop) (T : State) (F : JFrame) : Prop := ownG p.tables e below P (T.setTop F)
abbrev vI (x : Int32) : Slot := .val (.int x)
abbrev vR (x : Addr) : Slot := .val (.ref x)
abbrev iV (x : Int32) : Value := .int x
theorem oLe {a b : Nat} (h : Nat.ble a b = true) : a ≤ b := Nat.le_of_ble_eq_true h
theorem oHd {p : Program} {l : Launch} {e : Env} {R : Room} {s : State} {m : MethodId} {args : Array Value} {below : List Frame} {meth : Method} {c : Code} {T : State} {locs : List Loc} {cells slots n0 : Nat} (cells' slots' : Nat) (X : Stand p l e R s m args below meth c T locs cells slots) (N : Fr n0 locs) (hc : Nat.ble cells cells' = true) (hs : Nat.ble slots slots' = true) : ∃ L, Stand p l e R s m args below meth c T L cells' slots' ∧ Fr n0 L := own_hide X N (oLe hc) (oLe hs)
def ownEL : List (String × Nat) := [("java/lang/String", 7)]
theorem own_EW {Z : State} {a0 : Array Value} (hw : ∀ d ∈ tables_1, d.before a0 Z = true) : EW Z a0 ownEL := (EW.cons (Wd21 hw) (by decide) EW.nil)
theorem pn_1 : plainName "java/lang/String" = true := by first | (simp [plainName, overriddenIn]; done) | decide +kernel
theorem d4_0 : decode jdk_42_method_149_code 0 = .ok (.aload_n 0, 1) := by decide +kernel
theorem d4_1 : decode jdk_42_method_149_code 1 = .ok (.invokespecial 1, 3) := by decide +kernel
theorem d4_4 : decode jdk_42_method_149_code 4 = .ok (.iload_n 3, 1) := by decide +kernel
theorem d4_5 : decode jdk_42_method_149_code 5 = .ok (.ifCond .ne 22, 3) := by decide +kernel
theorem d4_8 : decode jdk_42_method_149_code 8 = .ok (.aload_n 0, 1) := by decide +kernel
theorem d4_9 : decode jdk_42_method_149_code 9 = .ok (.ldc 7, 2) := by decide +kernel
theorem d4_11 : decode jdk_42_method_149_code 11 = .ok (.getfield 9, 3) := by decide +kernel
theorem d4_14 : decode jdk_42_method_149_code 14 = .ok (.putfield 9, 3) := by decide +kernel
theorem d4_17 : decode jdk_42_method_149_code 17 = .ok (.aload_n 0, 1) := by decide +kernel
theorem d4_18 : decode jdk_42_method_149_code 18 = .ok (.ldc 7, 2) := by decide +kernel
theorem d4_20 : decode jdk_42_method_149_code 20 = .ok (.getfield 15, 3) := by decide +kernel
theorem d4_23 : decode jdk_42_method_149_code 23 = .ok (.putfield 15, 3) := by decide +kernel
theorem d4_26 : decode jdk_42_method_149_code 26 = .ok (.return_, 1) := by decide +kernel
theorem d3_0 : decode jdk_42_method_3_code 0 = .ok (.aload_n 0, 1) := by decide +kernel
theorem d3_1 : decode jdk_42_method_3_code 1 = .ok (.aload_n 1, 1) := by decide +kernel
theorem d3_2 : decode jdk_42_method_3_code 2 = .ok (.iconst 0, 1) := by decide +kernel
theorem d3_3 : decode jdk_42_method_3_code 3 = .ok (.aload_n 1, 1) := by decide +kernel
theorem d3_4 : decode jdk_42_method_3_code 4 = .ok (.arraylength, 1) := by decide +kernel
theorem d3_5 : decode jdk_42_method_3_code 5 = .ok (.aconst_null, 1) := by decide +kernel
theorem d3_6 : decode jdk_42_method_3_code 6 = .ok (.invokespecial 27, 3) := by decide +kernel
theorem pd_2 : parseMethodDescriptor "([CIILjava/lang/Void;)V" = some ⟨[(.array .char), .int, .int, (.object "java/lang/Void")], none⟩ := by decide +kernel
theorem d3_9 : decode jdk_42_method_3_code 9 = .ok (.return_, 1) := by decide +kernel
theorem own_irr (x : Int32) : ¬ x < x := by simp [Int32.lt_iff_toInt_lt]
abbrev oL (c : Int32) : Int32 := c.toInt8.toInt32
abbrev oW (c : Int32) : Int32 := (c >>> ((0 : Int32) &&& 31)).toInt8.toInt32
abbrev oH (c : Int32) : Int32 := (c >>> ((8 : Int32) &&& 31)).toInt8.toInt32
theorem own_n16 (x : Int32) : ¬ nar .char x < 0 ∧ ¬ (65535 : Int32) < nar .char x := by
  have q := c_i2c x
  have e0 : (0 : Int32).toInt = 0 := rfl
  have e1 : (65535 : Int32).toInt = 65535 := rfl
  have e : nar .char x = x.toUInt32.toUInt16.toUInt32.toInt32 := rfl
  rw [e]
  simp only [Int32.lt_iff_toInt_lt]
  omega
theorem own_c16 {c : Int32} (h : ¬ c < 0 ∧ ¬ (65535 : Int32) < c) : nar .char c = c := by
  have q := c_i2c c
  have e0 : (0 : Int32).toInt = 0 := rfl
  have e1 : (65535 : Int32).toInt = 65535 := rfl
  simp only [Int32.lt_iff_toInt_lt] at h
  exact Int32.toInt_inj.mp (by show (c.toUInt32.toUInt16.toUInt32.toInt32).toInt = _; omega)
theorem own_gc {c : Int32} (h : ¬ c < 0 ∧ ¬ (65535 : Int32) < c) : nar .char (((((oW c) &&& (255 : Int32)) <<< ((0 : Int32) &&& 31)) ||| (((oH c) &&& (255 : Int32)) <<< ((8 : Int32) &&& 31))).toUInt32.toUInt16.toUInt32.toInt32) = c := by
  have e : oW c = oL c := by unfold oW oL; rw [StrChars.shr0]
  rw [own_nar_char, e]
  exact StrChars.pair_says h.1 h.2
theorem own_lo_inj {c : Int32} (h : ¬ c < 0 ∧ ¬ (65535 : Int32) < c) (h2 : ¬ (255 : Int32) < c) : (c.toInt8.toInt32 &&& (255 : Int32)).toUInt32.toUInt16.toUInt32.toInt32 = c := StrChars.chr8_lo8 h.1 h2
theorem own_six31 (f : Int32) : (f &&& (2147483647 : Int32)) % (6 : Int32) = (0 : Int32) ∨ (f &&& (2147483647 : Int32)) % (6 : Int32) = (1 : Int32) ∨ (f &&& (2147483647 : Int32)) % (6 : Int32) = (2 : Int32) ∨ (f &&& (2147483647 : Int32)) % (6 : Int32) = (3 : Int32) ∨ (f &&& (2147483647 : Int32)) % (6 : Int32) = (4 : Int32) ∨ (f &&& (2147483647 : Int32)) % (6 : Int32) = (5 : Int32) := by
  have h0 := c_and f 2147483647 (by decide)
  have q := (c_iremV (f &&& 2147483647) 6).1 h0.1 (by decide)
  have e6 : (6 : Int32).toInt = 6 := rfl
  have e0 : (0 : Int32).toInt = 0 := rfl
  have e1 : (1 : Int32).toInt = 1 := rfl
  have e2 : (2 : Int32).toInt = 2 := rfl
  have e3 : (3 : Int32).toInt = 3 := rfl
  have e4 : (4 : Int32).toInt = 4 := rfl
  have e5 : (5 : Int32).toInt = 5 := rfl
  simp only [← Int32.toInt_inj, e0, e1, e2, e3, e4, e5]
  omega
theorem pn_3 : plainName "java/lang/StringUTF16" = true := by first | (simp [plainName, overriddenIn]; done) | decide +kernel
theorem d25_0 : decode jdk_52_method_4_code 0 = .ok (.getstatic 44, 3) := by decide +kernel
theorem d25_3 : decode jdk_52_method_4_code 3 = .ok (.ifCond .ne 25, 3) := by decide +kernel
theorem d25_28 : decode jdk_52_method_4_code 28 = .ok (.iload_n 1, 1) := by decide +kernel
theorem d25_29 : decode jdk_52_method_4_code 29 = .ok (.iconst 1, 1) := by decide +kernel
theorem d25_30 : decode jdk_52_method_4_code 30 = .ok (.ishl, 1) := by decide +kernel
theorem d25_31 : decode jdk_52_method_4_code 31 = .ok (.istore_n 1, 1) := by decide +kernel
theorem d25_32 : decode jdk_52_method_4_code 32 = .ok (.aload_n 0, 1) := by decide +kernel
theorem d25_33 : decode jdk_52_method_4_code 33 = .ok (.iload_n 1, 1) := by decide +kernel
theorem d25_34 : decode jdk_52_method_4_code 34 = .ok (.iinc 1 1, 3) := by decide +kernel
theorem d25_37 : decode jdk_52_method_4_code 37 = .ok (.iload_n 2, 1) := by decide +kernel
theorem d25_38 : decode jdk_52_method_4_code 38 = .ok (.getstatic 59, 3) := by decide +kernel
theorem d25_41 : decode jdk_52_method_4_code 41 = .ok (.ishr, 1) := by decide +kernel
theorem d25_42 : decode jdk_52_method_4_code 42 = .ok (.i2b, 1) := by decide +kernel
theorem d25_43 : decode jdk_52_method_4_code 43 = .ok (.bastore, 1) := by decide +kernel
theorem d25_44 : decode jdk_52_method_4_code 44 = .ok (.aload_n 0, 1) := by decide +kernel
theorem d25_45 : decode jdk_52_method_4_code 45 = .ok (.iload_n 1, 1) := by decide +kernel
theorem d25_46 : decode jdk_52_method_4_code 46 = .ok (.iload_n 2, 1) := by decide +kernel
theorem d25_47 : decode jdk_52_method_4_code 47 = .ok (.getstatic 63, 3) := by decide +kernel
theorem d25_50 : decode jdk_52_method_4_code 50 = .ok (.ishr, 1) := by decide +kernel
theorem d25_51 : decode jdk_52_method_4_code 51 = .ok (.i2b, 1) := by decide +kernel
theorem d25_52 : decode jdk_52_method_4_code 52 = .ok (.bastore, 1) := by decide +kernel
theorem d25_53 : decode jdk_52_method_4_code 53 = .ok (.return_, 1) := by decide +kernel
theorem d24_0 : decode jdk_52_method_3_code 0 = .ok (.iload_n 0, 1) := by decide +kernel
theorem d24_1 : decode jdk_52_method_3_code 1 = .ok (.ifCond .ge 11, 3) := by decide +kernel
theorem d24_12 : decode jdk_52_method_3_code 12 = .ok (.iload_n 0, 1) := by decide +kernel
theorem d24_13 : decode jdk_52_method_3_code 13 = .ok (.ldc 20, 2) := by decide +kernel
theorem d24_15 : decode jdk_52_method_3_code 15 = .ok (.if_icmp .lt 40, 3) := by decide +kernel
theorem d24_55 : decode jdk_52_method_3_code 55 = .ok (.iload_n 0, 1) := by decide +kernel
theorem d24_56 : decode jdk_52_method_3_code 56 = .ok (.iconst 1, 1) := by decide +kernel
theorem d24_57 : decode jdk_52_method_3_code 57 = .ok (.ishl, 1) := by decide +kernel
theorem d24_58 : decode jdk_52_method_3_code 58 = .ok (.ireturn, 1) := by decide +kernel
theorem d13_0 : decode jdk_52_method_15_code 0 = .ok (.iload_n 1, 1) := by decide +kernel
theorem d13_1 : decode jdk_52_method_15_code 1 = .ok (.aload_n 0, 1) := by decide +kernel
theorem d13_2 : decode jdk_52_method_15_code 2 = .ok (.arraylength, 1) := by decide +kernel
theorem d13_3 : decode jdk_52_method_15_code 3 = .ok (.isub, 1) := by decide +kernel
theorem d13_4 : decode jdk_52_method_15_code 4 = .ok (.bipush 31, 2) := by decide +kernel
theorem d13_6 : decode jdk_52_method_15_code 6 = .ok (.iushr, 1) := by decide +kernel
theorem d13_7 : decode jdk_52_method_15_code 7 = .ok (.i2b, 1) := by decide +kernel
theorem d13_8 : decode jdk_52_method_15_code 8 = .ok (.ireturn, 1) := by decide +kernel
theorem d26_0 : decode jdk_52_method_5_code 0 = .ok (.getstatic 44, 3) := by decide +kernel
theorem d26_3 : decode jdk_52_method_5_code 3 = .ok (.ifCond .ne 25, 3) := by decide +kernel
theorem d26_28 : decode jdk_52_method_5_code 28 = .ok (.iload_n 1, 1) := by decide +kernel
theorem d26_29 : decode jdk_52_method_5_code 29 = .ok (.iconst 1, 1) := by decide +kernel
theorem d26_30 : decode jdk_52_method_5_code 30 = .ok (.ishl, 1) := by decide +kernel
theorem d26_31 : decode jdk_52_method_5_code 31 = .ok (.istore_n 1, 1) := by decide +kernel
theorem d26_32 : decode jdk_52_method_5_code 32 = .ok (.aload_n 0, 1) := by decide +kernel
theorem d26_33 : decode jdk_52_method_5_code 33 = .ok (.iload_n 1, 1) := by decide +kernel
theorem d26_34 : decode jdk_52_method_5_code 34 = .ok (.iinc 1 1, 3) := by decide +kernel
theorem d26_37 : decode jdk_52_method_5_code 37 = .ok (.baload, 1) := by decide +kernel
theorem d26_38 : decode jdk_52_method_5_code 38 = .ok (.sipush 255, 3) := by decide +kernel
theorem d26_41 : decode jdk_52_method_5_code 41 = .ok (.iand, 1) := by decide +kernel
theorem d26_42 : decode jdk_52_method_5_code 42 = .ok (.getstatic 59, 3) := by decide +kernel
theorem d26_45 : decode jdk_52_method_5_code 45 = .ok (.ishl, 1) := by decide +kernel
theorem d26_46 : decode jdk_52_method_5_code 46 = .ok (.aload_n 0, 1) := by decide +kernel
theorem d26_47 : decode jdk_52_method_5_code 47 = .ok (.iload_n 1, 1) := by decide +kernel
theorem d26_48 : decode jdk_52_method_5_code 48 = .ok (.baload, 1) := by decide +kernel
theorem d26_49 : decode jdk_52_method_5_code 49 = .ok (.sipush 255, 3) := by decide +kernel
theorem d26_52 : decode jdk_52_method_5_code 52 = .ok (.iand, 1) := by decide +kernel
theorem d26_53 : decode jdk_52_method_5_code 53 = .ok (.getstatic 63, 3) := by decide +kernel
theorem d26_56 : decode jdk_52_method_5_code 56 = .ok (.ishl, 1) := by decide +kernel
theorem d26_57 : decode jdk_52_method_5_code 57 = .ok (.ior, 1) := by decide +kernel
theorem d26_58 : decode jdk_52_method_5_code 58 = .ok (.i2c, 1) := by decide +kernel
theorem d26_59 : decode jdk_52_method_5_code 59 = .ok (.ireturn, 1) := by decide +kernel
theorem d23_0 : decode jdk_52_method_2_code 0 = .ok (.iload_n 0, 1) := by decide +kernel
theorem d23_1 : decode jdk_52_method_2_code 1 = .ok (.invokestatic 11, 3) := by decide +kernel
theorem pd_4 : parseMethodDescriptor "(I)I" = some ⟨[.int], some .int⟩ := by decide +kernel
theorem d23_4 : decode jdk_52_method_2_code 4 = .ok (.newarray .byte, 2) := by decide +kernel
theorem d23_6 : decode jdk_52_method_2_code 6 = .ok (.areturn, 1) := by decide +kernel
theorem d22_0 : decode jdk_52_method_14_code 0 = .ok (.iload_n 2, 1) := by decide +kernel
theorem d22_1 : decode jdk_52_method_14_code 1 = .ok (.invokestatic 107, 3) := by decide +kernel
theorem pd_5 : parseMethodDescriptor "(I)[B" = some ⟨[.int], some (.array .byte)⟩ := by decide +kernel
theorem d22_4 : decode jdk_52_method_14_code 4 = .ok (.astore_n 3, 1) := by decide +kernel
theorem d22_5 : decode jdk_52_method_14_code 5 = .ok (.iconst 0, 1) := by decide +kernel
theorem d22_6 : decode jdk_52_method_14_code 6 = .ok (.istore 4, 2) := by decide +kernel
theorem d22_8 : decode jdk_52_method_14_code 8 = .ok (.iload 4, 2) := by decide +kernel
theorem d22_10 : decode jdk_52_method_14_code 10 = .ok (.iload_n 2, 1) := by decide +kernel
theorem d22_11 : decode jdk_52_method_14_code 11 = .ok (.if_icmp .ge 21, 3) := by decide +kernel
theorem d22_14 : decode jdk_52_method_14_code 14 = .ok (.aload_n 3, 1) := by decide +kernel
theorem d22_15 : decode jdk_52_method_14_code 15 = .ok (.iload 4, 2) := by decide +kernel
theorem d22_17 : decode jdk_52_method_14_code 17 = .ok (.aload_n 0, 1) := by decide +kernel
theorem d22_18 : decode jdk_52_method_14_code 18 = .ok (.iload_n 1, 1) := by decide +kernel
theorem d22_19 : decode jdk_52_method_14_code 19 = .ok (.caload, 1) := by decide +kernel
theorem d22_20 : decode jdk_52_method_14_code 20 = .ok (.invokestatic 111, 3) := by decide +kernel
theorem pd_6 : parseMethodDescriptor "([BII)V" = some ⟨[(.array .byte), .int, .int], none⟩ := by decide +kernel
theorem d22_23 : decode jdk_52_method_14_code 23 = .ok (.iinc 1 1, 3) := by decide +kernel
theorem d22_26 : decode jdk_52_method_14_code 26 = .ok (.iinc 4 1, 3) := by decide +kernel
theorem d22_29 : decode jdk_52_method_14_code 29 = .ok (.goto (-21), 3) := by decide +kernel
theorem d22_32 : decode jdk_52_method_14_code 32 = .ok (.aload_n 3, 1) := by decide +kernel
theorem d22_33 : decode jdk_52_method_14_code 33 = .ok (.areturn, 1) := by decide +kernel
theorem d12_0 : decode jdk_52_method_21_code 0 = .ok (.iconst 0, 1) := by decide +kernel
theorem d12_1 : decode jdk_52_method_21_code 1 = .ok (.istore 5, 2) := by decide +kernel
theorem d12_3 : decode jdk_52_method_21_code 3 = .ok (.iload 5, 2) := by decide +kernel
theorem d12_5 : decode jdk_52_method_21_code 5 = .ok (.iload 4, 2) := by decide +kernel
theorem d12_7 : decode jdk_52_method_21_code 7 = .ok (.if_icmp .ge 37, 3) := by decide +kernel
theorem d12_10 : decode jdk_52_method_21_code 10 = .ok (.aload_n 0, 1) := by decide +kernel
theorem d12_11 : decode jdk_52_method_21_code 11 = .ok (.iload_n 1, 1) := by decide +kernel
theorem d12_12 : decode jdk_52_method_21_code 12 = .ok (.caload, 1) := by decide +kernel
theorem d12_13 : decode jdk_52_method_21_code 13 = .ok (.istore 6, 2) := by decide +kernel
theorem d12_15 : decode jdk_52_method_21_code 15 = .ok (.iload 6, 2) := by decide +kernel
theorem d12_17 : decode jdk_52_method_21_code 17 = .ok (.sipush 255, 3) := by decide +kernel
theorem d12_20 : decode jdk_52_method_21_code 20 = .ok (.if_icmp .le 6, 3) := by decide +kernel
theorem d12_23 : decode jdk_52_method_21_code 23 = .ok (.iload 5, 2) := by decide +kernel
theorem d12_25 : decode jdk_52_method_21_code 25 = .ok (.ireturn, 1) := by decide +kernel
theorem d12_26 : decode jdk_52_method_21_code 26 = .ok (.aload_n 2, 1) := by decide +kernel
theorem d12_27 : decode jdk_52_method_21_code 27 = .ok (.iload_n 3, 1) := by decide +kernel
theorem d12_28 : decode jdk_52_method_21_code 28 = .ok (.iload 6, 2) := by decide +kernel
theorem d12_30 : decode jdk_52_method_21_code 30 = .ok (.i2b, 1) := by decide +kernel
theorem d12_31 : decode jdk_52_method_21_code 31 = .ok (.bastore, 1) := by decide +kernel
theorem d12_32 : decode jdk_52_method_21_code 32 = .ok (.iinc 1 1, 3) := by decide +kernel
theorem d12_35 : decode jdk_52_method_21_code 35 = .ok (.iinc 3 1, 3) := by decide +kernel
theorem d12_38 : decode jdk_52_method_21_code 38 = .ok (.iinc 5 1, 3) := by decide +kernel
theorem d12_41 : decode jdk_52_method_21_code 41 = .ok (.goto (-38), 3) := by decide +kernel
theorem d12_44 : decode jdk_52_method_21_code 44 = .ok (.iload 4, 2) := by decide +kernel
theorem d12_46 : decode jdk_52_method_21_code 46 = .ok (.ireturn, 1) := by decide +kernel
theorem d11_0 : decode jdk_52_method_16_code 0 = .ok (.iload_n 2, 1) := by decide +kernel
theorem d11_1 : decode jdk_52_method_16_code 1 = .ok (.newarray .byte, 2) := by decide +kernel
theorem d11_3 : decode jdk_52_method_16_code 3 = .ok (.astore_n 3, 1) := by decide +kernel
theorem d11_4 : decode jdk_52_method_16_code 4 = .ok (.aload_n 0, 1) := by decide +kernel
theorem d11_5 : decode jdk_52_method_16_code 5 = .ok (.iload_n 1, 1) := by decide +kernel
theorem d11_6 : decode jdk_52_method_16_code 6 = .ok (.aload_n 3, 1) := by decide +kernel
theorem d11_7 : decode jdk_52_method_16_code 7 = .ok (.iconst 0, 1) := by decide +kernel
theorem d11_8 : decode jdk_52_method_16_code 8 = .ok (.iload_n 2, 1) := by decide +kernel
theorem d11_9 : decode jdk_52_method_16_code 9 = .ok (.invokestatic 115, 3) := by decide +kernel
theorem pd_7 : parseMethodDescriptor "([CI[BII)I" = some ⟨[(.array .char), .int, (.array .byte), .int, .int], some .int⟩ := by decide +kernel
theorem d11_12 : decode jdk_52_method_16_code 12 = .ok (.istore 4, 2) := by decide +kernel
theorem d11_14 : decode jdk_52_method_16_code 14 = .ok (.iload 4, 2) := by decide +kernel
theorem d11_16 : decode jdk_52_method_16_code 16 = .ok (.iload_n 2, 1) := by decide +kernel
theorem d11_17 : decode jdk_52_method_16_code 17 = .ok (.if_icmp .eq 40, 3) := by decide +kernel
theorem d11_57 : decode jdk_52_method_16_code 57 = .ok (.aload_n 3, 1) := by decide +kernel
theorem d11_58 : decode jdk_52_method_16_code 58 = .ok (.areturn, 1) := by decide +kernel
theorem d11_20 : decode jdk_52_method_16_code 20 = .ok (.aload_n 0, 1) := by decide +kernel
theorem d11_21 : decode jdk_52_method_16_code 21 = .ok (.iload_n 1, 1) := by decide +kernel
theorem d11_22 : decode jdk_52_method_16_code 22 = .ok (.iload_n 2, 1) := by decide +kernel
theorem d11_23 : decode jdk_52_method_16_code 23 = .ok (.invokestatic 119, 3) := by decide +kernel
theorem pd_8 : parseMethodDescriptor "([CII)[B" = some ⟨[(.array .char), .int, .int], some (.array .byte)⟩ := by decide +kernel
theorem d11_26 : decode jdk_52_method_16_code 26 = .ok (.astore 5, 2) := by decide +kernel
theorem d11_28 : decode jdk_52_method_16_code 28 = .ok (.aload 5, 2) := by decide +kernel
theorem d11_30 : decode jdk_52_method_16_code 30 = .ok (.iload 4, 2) := by decide +kernel
theorem d11_32 : decode jdk_52_method_16_code 32 = .ok (.invokestatic 71, 3) := by decide +kernel
theorem pd_9 : parseMethodDescriptor "([BI)C" = some ⟨[(.array .byte), .int], some .char⟩ := by decide +kernel
theorem d11_35 : decode jdk_52_method_16_code 35 = .ok (.sipush 255, 3) := by decide +kernel
theorem d11_38 : decode jdk_52_method_16_code 38 = .ok (.if_icmp .gt 16, 3) := by decide +kernel
theorem d11_54 : decode jdk_52_method_16_code 54 = .ok (.aload 5, 2) := by decide +kernel
theorem d11_56 : decode jdk_52_method_16_code 56 = .ok (.areturn, 1) := by decide +kernel
theorem d4_27 : decode jdk_42_method_149_code 27 = .ok (.getstatic 38, 3) := by decide +kernel
theorem d4_30 : decode jdk_42_method_149_code 30 = .ok (.ifCond .eq 28, 3) := by decide +kernel
theorem d4_33 : decode jdk_42_method_149_code 33 = .ok (.aload_n 1, 1) := by decide +kernel
theorem d4_34 : decode jdk_42_method_149_code 34 = .ok (.iload_n 2, 1) := by decide +kernel
theorem d4_35 : decode jdk_42_method_149_code 35 = .ok (.iload_n 3, 1) := by decide +kernel
theorem d4_36 : decode jdk_42_method_149_code 36 = .ok (.invokestatic 177, 3) := by decide +kernel
theorem d4_39 : decode jdk_42_method_149_code 39 = .ok (.astore 5, 2) := by decide +kernel
theorem d4_41 : decode jdk_42_method_149_code 41 = .ok (.aload_n 0, 1) := by decide +kernel
theorem d4_42 : decode jdk_42_method_149_code 42 = .ok (.aload 5, 2) := by decide +kernel
theorem d4_44 : decode jdk_42_method_149_code 44 = .ok (.iload_n 3, 1) := by decide +kernel
theorem d4_45 : decode jdk_42_method_149_code 45 = .ok (.invokestatic 47, 3) := by decide +kernel
theorem pd_10 : parseMethodDescriptor "([BI)B" = some ⟨[(.array .byte), .int], some .byte⟩ := by decide +kernel
theorem d4_48 : decode jdk_42_method_149_code 48 = .ok (.putfield 15, 3) := by decide +kernel
theorem d4_51 : decode jdk_42_method_149_code 51 = .ok (.aload_n 0, 1) := by decide +kernel
theorem d4_52 : decode jdk_42_method_149_code 52 = .ok (.aload 5, 2) := by decide +kernel
theorem d4_54 : decode jdk_42_method_149_code 54 = .ok (.putfield 9, 3) := by decide +kernel
theorem d4_57 : decode jdk_42_method_149_code 57 = .ok (.return_, 1) := by decide +kernel
theorem d8_0 : decode jdk_42_method_152_code 0 = .ok (.getstatic 38, 3) := by decide +kernel
theorem d8_3 : decode jdk_42_method_152_code 3 = .ok (.ifCond .eq 10, 3) := by decide +kernel
theorem d8_6 : decode jdk_42_method_152_code 6 = .ok (.aload_n 0, 1) := by decide +kernel
theorem d8_7 : decode jdk_42_method_152_code 7 = .ok (.getfield 15, 3) := by decide +kernel
theorem d8_10 : decode jdk_42_method_152_code 10 = .ok (.goto 4, 3) := by decide +kernel
theorem d8_14 : decode jdk_42_method_152_code 14 = .ok (.ireturn, 1) := by decide +kernel
theorem d16_0 : decode jdk_42_method_154_code 0 = .ok (.getstatic 38, 3) := by decide +kernel
theorem d16_3 : decode jdk_42_method_154_code 3 = .ok (.ifCond .eq 14, 3) := by decide +kernel
theorem d16_6 : decode jdk_42_method_154_code 6 = .ok (.aload_n 0, 1) := by decide +kernel
theorem d16_7 : decode jdk_42_method_154_code 7 = .ok (.getfield 15, 3) := by decide +kernel
theorem d16_10 : decode jdk_42_method_154_code 10 = .ok (.ifCond .ne 7, 3) := by decide +kernel
theorem d16_13 : decode jdk_42_method_154_code 13 = .ok (.iconst 1, 1) := by decide +kernel
theorem d16_14 : decode jdk_42_method_154_code 14 = .ok (.goto 4, 3) := by decide +kernel
theorem d16_18 : decode jdk_42_method_154_code 18 = .ok (.ireturn, 1) := by decide +kernel
theorem d16_17 : decode jdk_42_method_154_code 17 = .ok (.iconst 0, 1) := by decide +kernel
theorem own_l1c {c : Int32} (h : ¬ c < 0 ∧ ¬ (65535 : Int32) < c) (h2 : ¬ (255 : Int32) < c) : nar .char (((oL c) &&& (255 : Int32)).toUInt32.toUInt16.toUInt32.toInt32) = c := by
  rw [own_nar_char]
  exact own_lo_inj h h2
theorem d7_0 : decode jdk_42_method_54_code 0 = .ok (.aload_n 0, 1) := by decide +kernel
theorem d7_1 : decode jdk_42_method_54_code 1 = .ok (.getfield 9, 3) := by decide +kernel
theorem d7_4 : decode jdk_42_method_54_code 4 = .ok (.arraylength, 1) := by decide +kernel
theorem d7_5 : decode jdk_42_method_54_code 5 = .ok (.aload_n 0, 1) := by decide +kernel
theorem d7_6 : decode jdk_42_method_54_code 6 = .ok (.invokevirtual 335, 3) := by decide +kernel
theorem pd_11 : parseMethodDescriptor "()B" = some ⟨[], some .byte⟩ := by decide +kernel
theorem d7_9 : decode jdk_42_method_54_code 9 = .ok (.ishr, 1) := by decide +kernel
theorem d7_10 : decode jdk_42_method_54_code 10 = .ok (.ireturn, 1) := by decide +kernel
theorem pn_12 : plainName "jdk/internal/util/Preconditions" = true := by first | (simp [plainName, overriddenIn]; done) | decide +kernel
theorem d19_0 : decode jdk_41_method_11_code 0 = .ok (.iload_n 0, 1) := by decide +kernel
theorem d19_1 : decode jdk_41_method_11_code 1 = .ok (.ifCond .lt 8, 3) := by decide +kernel
theorem d19_4 : decode jdk_41_method_11_code 4 = .ok (.iload_n 0, 1) := by decide +kernel
theorem d19_5 : decode jdk_41_method_11_code 5 = .ok (.iload_n 1, 1) := by decide +kernel
theorem d19_6 : decode jdk_41_method_11_code 6 = .ok (.if_icmp .lt 10, 3) := by decide +kernel
theorem d19_16 : decode jdk_41_method_11_code 16 = .ok (.iload_n 0, 1) := by decide +kernel
theorem d19_17 : decode jdk_41_method_11_code 17 = .ok (.ireturn, 1) := by decide +kernel
theorem d18_0 : decode jdk_42_method_155_code 0 = .ok (.iload_n 0, 1) := by decide +kernel
theorem d18_1 : decode jdk_42_method_155_code 1 = .ok (.iload_n 1, 1) := by decide +kernel
theorem d18_2 : decode jdk_42_method_155_code 2 = .ok (.getstatic 1053, 3) := by decide +kernel
theorem d18_5 : decode jdk_42_method_155_code 5 = .ok (.invokestatic 1059, 3) := by decide +kernel
theorem pd_13 : parseMethodDescriptor "(IILjava/util/function/BiFunction;)I" = some ⟨[.int, .int, (.object "java/util/function/BiFunction")], some .int⟩ := by decide +kernel
theorem d18_8 : decode jdk_42_method_155_code 8 = .ok (.pop, 1) := by decide +kernel
theorem d18_9 : decode jdk_42_method_155_code 9 = .ok (.return_, 1) := by decide +kernel
theorem d29_0 : decode jdk_52_method_6_code 0 = .ok (.aload_n 0, 1) := by decide +kernel
theorem d29_1 : decode jdk_52_method_6_code 1 = .ok (.arraylength, 1) := by decide +kernel
theorem d29_2 : decode jdk_52_method_6_code 2 = .ok (.iconst 1, 1) := by decide +kernel
theorem d29_3 : decode jdk_52_method_6_code 3 = .ok (.ishr, 1) := by decide +kernel
theorem d29_4 : decode jdk_52_method_6_code 4 = .ok (.ireturn, 1) := by decide +kernel
theorem pn_14 : plainName "java/lang/StringLatin1" = true := by first | (simp [plainName, overriddenIn]; done) | decide +kernel
theorem d17_0 : decode jdk_43_method_2_code 0 = .ok (.iload_n 1, 1) := by decide +kernel
theorem d17_1 : decode jdk_43_method_2_code 1 = .ok (.aload_n 0, 1) := by decide +kernel
theorem d17_2 : decode jdk_43_method_2_code 2 = .ok (.arraylength, 1) := by decide +kernel
theorem d17_3 : decode jdk_43_method_2_code 3 = .ok (.invokestatic 9, 3) := by decide +kernel
theorem pd_15 : parseMethodDescriptor "(II)V" = some ⟨[.int, .int], none⟩ := by decide +kernel
theorem d17_6 : decode jdk_43_method_2_code 6 = .ok (.aload_n 0, 1) := by decide +kernel
theorem d17_7 : decode jdk_43_method_2_code 7 = .ok (.iload_n 1, 1) := by decide +kernel
theorem d17_8 : decode jdk_43_method_2_code 8 = .ok (.baload, 1) := by decide +kernel
theorem d17_9 : decode jdk_43_method_2_code 9 = .ok (.sipush 255, 3) := by decide +kernel
theorem d17_12 : decode jdk_43_method_2_code 12 = .ok (.iand, 1) := by decide +kernel
theorem d17_13 : decode jdk_43_method_2_code 13 = .ok (.i2c, 1) := by decide +kernel
theorem d17_14 : decode jdk_43_method_2_code 14 = .ok (.ireturn, 1) := by decide +kernel
theorem d28_0 : decode jdk_52_method_91_code 0 = .ok (.iload_n 0, 1) := by decide +kernel
theorem d28_1 : decode jdk_52_method_91_code 1 = .ok (.aload_n 1, 1) := by decide +kernel
theorem d28_2 : decode jdk_52_method_91_code 2 = .ok (.invokestatic 48, 3) := by decide +kernel
theorem pd_16 : parseMethodDescriptor "([B)I" = some ⟨[(.array .byte)], some .int⟩ := by decide +kernel
theorem d28_5 : decode jdk_52_method_91_code 5 = .ok (.invokestatic 414, 3) := by decide +kernel
theorem d28_8 : decode jdk_52_method_91_code 8 = .ok (.return_, 1) := by decide +kernel
theorem d27_0 : decode jdk_52_method_83_code 0 = .ok (.iload_n 1, 1) := by decide +kernel
theorem d27_1 : decode jdk_52_method_83_code 1 = .ok (.aload_n 0, 1) := by decide +kernel
theorem d27_2 : decode jdk_52_method_83_code 2 = .ok (.invokestatic 67, 3) := by decide +kernel
theorem pd_17 : parseMethodDescriptor "(I[B)V" = some ⟨[.int, (.array .byte)], none⟩ := by decide +kernel
theorem d27_5 : decode jdk_52_method_83_code 5 = .ok (.aload_n 0, 1) := by decide +kernel
theorem d27_6 : decode jdk_52_method_83_code 6 = .ok (.iload_n 1, 1) := by decide +kernel
theorem d27_7 : decode jdk_52_method_83_code 7 = .ok (.invokestatic 71, 3) := by decide +kernel
theorem d27_10 : decode jdk_52_method_83_code 10 = .ok (.ireturn, 1) := by decide +kernel
theorem d15_0 : decode jdk_42_method_56_code 0 = .ok (.aload_n 0, 1) := by decide +kernel
theorem d15_1 : decode jdk_42_method_56_code 1 = .ok (.invokevirtual 492, 3) := by decide +kernel
theorem pd_18 : parseMethodDescriptor "()Z" = some ⟨[], some .boolean⟩ := by decide +kernel
theorem d15_4 : decode jdk_42_method_56_code 4 = .ok (.ifCond .eq 12, 3) := by decide +kernel
theorem d15_7 : decode jdk_42_method_56_code 7 = .ok (.aload_n 0, 1) := by decide +kernel
theorem d15_8 : decode jdk_42_method_56_code 8 = .ok (.getfield 9, 3) := by decide +kernel
theorem d15_11 : decode jdk_42_method_56_code 11 = .ok (.iload_n 1, 1) := by decide +kernel
theorem d15_12 : decode jdk_42_method_56_code 12 = .ok (.invokestatic 495, 3) := by decide +kernel
theorem d15_15 : decode jdk_42_method_56_code 15 = .ok (.ireturn, 1) := by decide +kernel
theorem d15_16 : decode jdk_42_method_56_code 16 = .ok (.aload_n 0, 1) := by decide +kernel
theorem d15_17 : decode jdk_42_method_56_code 17 = .ok (.getfield 9, 3) := by decide +kernel
theorem d15_20 : decode jdk_42_method_56_code 20 = .ok (.iload_n 1, 1) := by decide +kernel
theorem d15_21 : decode jdk_42_method_56_code 21 = .ok (.invokestatic 498, 3) := by decide +kernel
theorem d15_24 : decode jdk_42_method_56_code 24 = .ok (.ireturn, 1) := by decide +kernel
abbrev Mk (c : Int32) : Prop := c = (47 : Int32) ∨ c = (92 : Int32) ∨ c = (36 : Int32) ∨ c = (96 : Int32) ∨ c = (91 : Int32)
theorem own_mk_lt {c : Int32} (h : Mk c) : c < (128 : Int32) := by rcases h with rfl | rfl | rfl | rfl | rfl <;> decide
def World (Z : State) (PA : Addr) (AA : Addr) (MA : Addr) (HS : Addr) (H2 : Addr) (PG : Addr) (SQ : Addr) (EM : Addr) (EL : Addr) (kM : ClassId) (kE : ClassId) (ms : List Value) : Prop := (Sta Z Z.heap "com/example/savepoint/savepoint/SqlDialect" "PLAIN" "Ljava/util/List;" (.ref PA)) ∧ (Sta Z Z.heap "com/example/savepoint/savepoint/SqlDialect" "ALL" "Ljava/util/List;" (.ref AA)) ∧ (Sta Z Z.heap "com/example/savepoint/savepoint/SqlDialect" "MARKS" "[Z" (.ref MA)) ∧ (Sta Z Z.heap "com/example/savepoint/savepoint/SqlDialect" "HSQLDB" "Lcom/example/savepoint/savepoint/SqlDialect;" (.ref HS)) ∧ (Sta Z Z.heap "com/example/savepoint/savepoint/SqlDialect" "H2" "Lcom/example/savepoint/savepoint/SqlDialect;" (.ref H2)) ∧ (Sta Z Z.heap "com/example/savepoint/savepoint/SqlDialect" "POSTGRESQL" "Lcom/example/savepoint/savepoint/SqlDialect;" (.ref PG)) ∧ (Sta Z Z.heap "com/example/savepoint/savepoint/SqlDialect" "SQLITE" "Lcom/example/savepoint/savepoint/SqlDialect;" (.ref SQ)) ∧ (Sta Z Z.heap "java/util/ImmutableCollections" "EMPTY" "Ljava/lang/Object;" (.ref EM)) ∧ (Exa Z Z.heap PA "java/util/ImmutableCollections$List12") ∧ (Exa Z Z.heap AA "java/util/ImmutableCollections$ListN") ∧ (Fld Z Z.heap PA "java/util/ImmutableCollections$List12" "e1" "Ljava/lang/Object;" (.ref EM)) ∧ (Fld Z Z.heap PA "java/util/ImmutableCollections$List12" "e0" "Ljava/lang/Object;" (.ref HS)) ∧ (Fld Z Z.heap AA "java/util/ImmutableCollections$ListN" "elements" "[Ljava/lang/Object;" (.ref EL)) ∧ (Arv Z Z.heap EL kE (.object "java/lang/Object") (4 : Int32) [(.ref HS), (.ref H2), (.ref PG), (.ref SQ)] .null) ∧ (Arv Z Z.heap MA kM .boolean (128 : Int32) ms (.int (0 : Int32))) ∧ (∀ c : Int32, ¬ c < (0 : Int32) → c < (128 : Int32) → ms.getD c.toNatClampNeg (.int (0 : Int32)) = .int (own_b (Mk c))) ∧ (PA ≠ AA)
theorem pn_19 : plainName "com/example/savepoint/savepoint/SqlDialect" = true := by first | (simp [plainName, overriddenIn]; done) | decide +kernel
theorem d6_0 : decode prog_14_method_4_code 0 = .ok (.getstatic 59, 3) := by decide +kernel
theorem d6_3 : decode prog_14_method_4_code 3 = .ok (.astore_n 1, 1) := by decide +kernel
theorem d6_4 : decode prog_14_method_4_code 4 = .ok (.iconst 0, 1) := by decide +kernel
theorem d6_5 : decode prog_14_method_4_code 5 = .ok (.istore_n 2, 1) := by decide +kernel
theorem d6_6 : decode prog_14_method_4_code 6 = .ok (.aload_n 1, 1) := by decide +kernel
theorem d6_7 : decode prog_14_method_4_code 7 = .ok (.getstatic 59, 3) := by decide +kernel
theorem d6_10 : decode prog_14_method_4_code 10 = .ok (.if_acmp .ne 43, 3) := by decide +kernel
theorem d6_13 : decode prog_14_method_4_code 13 = .ok (.iload_n 2, 1) := by decide +kernel
theorem d6_14 : decode prog_14_method_4_code 14 = .ok (.aload_n 0, 1) := by decide +kernel
theorem d6_15 : decode prog_14_method_4_code 15 = .ok (.invokevirtual 63, 3) := by decide +kernel
theorem pd_20 : parseMethodDescriptor "()I" = some ⟨[], some .int⟩ := by decide +kernel
theorem d6_18 : decode prog_14_method_4_code 18 = .ok (.if_icmp .ge 35, 3) := by decide +kernel
theorem d6_53 : decode prog_14_method_4_code 53 = .ok (.aload_n 1, 1) := by decide +kernel
theorem d6_54 : decode prog_14_method_4_code 54 = .ok (.areturn, 1) := by decide +kernel
theorem d6_21 : decode prog_14_method_4_code 21 = .ok (.aload_n 0, 1) := by decide +kernel
theorem d6_22 : decode prog_14_method_4_code 22 = .ok (.iload_n 2, 1) := by decide +kernel
theorem d6_23 : decode prog_14_method_4_code 23 = .ok (.invokevirtual 69, 3) := by decide +kernel
theorem pd_21 : parseMethodDescriptor "(I)C" = some ⟨[.int], some .char⟩ := by decide +kernel
theorem d6_26 : decode prog_14_method_4_code 26 = .ok (.istore_n 3, 1) := by decide +kernel
theorem d6_47 : decode prog_14_method_4_code 47 = .ok (.iinc 2 1, 3) := by decide +kernel
theorem d6_50 : decode prog_14_method_4_code 50 = .ok (.goto (-44), 3) := by decide +kernel
theorem d6_27 : decode prog_14_method_4_code 27 = .ok (.iload_n 3, 1) := by decide +kernel
theorem d6_28 : decode prog_14_method_4_code 28 = .ok (.getstatic 73, 3) := by decide +kernel
theorem d6_31 : decode prog_14_method_4_code 31 = .ok (.arraylength, 1) := by decide +kernel
theorem d6_32 : decode prog_14_method_4_code 32 = .ok (.if_icmp .ge 15, 3) := by decide +kernel
theorem d6_35 : decode prog_14_method_4_code 35 = .ok (.getstatic 73, 3) := by decide +kernel
theorem d6_38 : decode prog_14_method_4_code 38 = .ok (.iload_n 3, 1) := by decide +kernel
theorem d6_39 : decode prog_14_method_4_code 39 = .ok (.baload, 1) := by decide +kernel
theorem d6_40 : decode prog_14_method_4_code 40 = .ok (.ifCond .eq 7, 3) := by decide +kernel
theorem d6_43 : decode prog_14_method_4_code 43 = .ok (.getstatic 77, 3) := by decide +kernel
theorem d6_46 : decode prog_14_method_4_code 46 = .ok (.astore_n 1, 1) := by decide +kernel
theorem pn_22 : plainName "java/util/ImmutableCollections$List12" = true := by first | (simp [plainName, overriddenIn]; done) | decide +kernel
theorem d9_0 : decode jdk_44_method_3_code 0 = .ok (.aload_n 0, 1) := by decide +kernel
theorem d9_1 : decode jdk_44_method_3_code 1 = .ok (.getfield 24, 3) := by decide +kernel
theorem d9_4 : decode jdk_44_method_3_code 4 = .ok (.getstatic 19, 3) := by decide +kernel
theorem d9_7 : decode jdk_44_method_3_code 7 = .ok (.if_acmp .eq 7, 3) := by decide +kernel
theorem d9_14 : decode jdk_44_method_3_code 14 = .ok (.iconst 1, 1) := by decide +kernel
theorem d9_15 : decode jdk_44_method_3_code 15 = .ok (.ireturn, 1) := by decide +kernel
theorem d10_0 : decode jdk_44_method_5_code 0 = .ok (.iload_n 1, 1) := by decide +kernel
theorem d10_1 : decode jdk_44_method_5_code 1 = .ok (.ifCond .ne 8, 3) := by decide +kernel
theorem d10_4 : decode jdk_44_method_5_code 4 = .ok (.aload_n 0, 1) := by decide +kernel
theorem d10_5 : decode jdk_44_method_5_code 5 = .ok (.getfield 13, 3) := by decide +kernel
theorem d10_8 : decode jdk_44_method_5_code 8 = .ok (.areturn, 1) := by decide +kernel
theorem pn_23 : plainName "java/util/ImmutableCollections$ListN" = true := by first | (simp [plainName, overriddenIn]; done) | decide +kernel
theorem d20_0 : decode jdk_45_method_3_code 0 = .ok (.aload_n 0, 1) := by decide +kernel
theorem d20_1 : decode jdk_45_method_3_code 1 = .ok (.getfield 7, 3) := by decide +kernel
theorem d20_4 : decode jdk_45_method_3_code 4 = .ok (.arraylength, 1) := by decide +kernel
theorem d20_5 : decode jdk_45_method_3_code 5 = .ok (.ireturn, 1) := by decide +kernel
theorem d21_0 : decode jdk_45_method_4_code 0 = .ok (.aload_n 0, 1) := by decide +kernel
theorem d21_1 : decode jdk_45_method_4_code 1 = .ok (.getfield 7, 3) := by decide +kernel
theorem d21_4 : decode jdk_45_method_4_code 4 = .ok (.iload_n 1, 1) := by decide +kernel
theorem d21_5 : decode jdk_45_method_4_code 5 = .ok (.aaload, 1) := by decide +kernel
theorem d21_6 : decode jdk_45_method_4_code 6 = .ok (.areturn, 1) := by decide +kernel
theorem pn_24 : plainName "com/example/savepoint/savepoint/SqlDialectReadingsOfPinLaw" = true := by first | (simp [plainName, overriddenIn]; done) | decide +kernel
theorem d1_0 : decode method_4_code 0 = .ok (.iload_n 0, 1) := by decide +kernel
theorem d1_1 : decode method_4_code 1 = .ok (.bipush 16, 2) := by decide +kernel
theorem d1_3 : decode method_4_code 3 = .ok (.iushr, 1) := by decide +kernel
theorem d1_4 : decode method_4_code 4 = .ok (.bipush 15, 2) := by decide +kernel
theorem d1_6 : decode method_4_code 6 = .ok (.iand, 1) := by decide +kernel
theorem d1_7 : decode method_4_code 7 = .ok (.istore_n 1, 1) := by decide +kernel
theorem d1_8 : decode method_4_code 8 = .ok (.iload_n 1, 1) := by decide +kernel
theorem d1_9 : decode method_4_code 9 = .ok (.ifCond .ne 6, 3) := by decide +kernel
theorem d1_12 : decode method_4_code 12 = .ok (.bipush 47, 2) := by decide +kernel
theorem d1_14 : decode method_4_code 14 = .ok (.ireturn, 1) := by decide +kernel
theorem d1_15 : decode method_4_code 15 = .ok (.iload_n 1, 1) := by decide +kernel
theorem d1_16 : decode method_4_code 16 = .ok (.iconst 1, 1) := by decide +kernel
theorem d1_17 : decode method_4_code 17 = .ok (.if_icmp .ne 6, 3) := by decide +kernel
theorem d1_20 : decode method_4_code 20 = .ok (.bipush 92, 2) := by decide +kernel
theorem d1_22 : decode method_4_code 22 = .ok (.ireturn, 1) := by decide +kernel
theorem d1_23 : decode method_4_code 23 = .ok (.iload_n 1, 1) := by decide +kernel
theorem d1_24 : decode method_4_code 24 = .ok (.iconst 2, 1) := by decide +kernel
theorem d1_25 : decode method_4_code 25 = .ok (.if_icmp .ne 6, 3) := by decide +kernel
theorem d1_28 : decode method_4_code 28 = .ok (.bipush 36, 2) := by decide +kernel
theorem d1_30 : decode method_4_code 30 = .ok (.ireturn, 1) := by decide +kernel
theorem d1_31 : decode method_4_code 31 = .ok (.iload_n 1, 1) := by decide +kernel
theorem d1_32 : decode method_4_code 32 = .ok (.iconst 3, 1) := by decide +kernel
theorem d1_33 : decode method_4_code 33 = .ok (.if_icmp .ne 6, 3) := by decide +kernel
theorem d1_36 : decode method_4_code 36 = .ok (.bipush 96, 2) := by decide +kernel
theorem d1_38 : decode method_4_code 38 = .ok (.ireturn, 1) := by decide +kernel
theorem d1_39 : decode method_4_code 39 = .ok (.iload_n 1, 1) := by decide +kernel
theorem d1_40 : decode method_4_code 40 = .ok (.iconst 4, 1) := by decide +kernel
theorem d1_41 : decode method_4_code 41 = .ok (.if_icmp .ne 6, 3) := by decide +kernel
theorem d1_44 : decode method_4_code 44 = .ok (.bipush 91, 2) := by decide +kernel
theorem d1_46 : decode method_4_code 46 = .ok (.ireturn, 1) := by decide +kernel
theorem d1_47 : decode method_4_code 47 = .ok (.iload_n 0, 1) := by decide +kernel
theorem d1_48 : decode method_4_code 48 = .ok (.i2c, 1) := by decide +kernel
theorem d1_49 : decode method_4_code 49 = .ok (.ireturn, 1) := by decide +kernel
theorem d14_0 : decode method_3_code 0 = .ok (.iload_n 0, 1) := by decide +kernel
theorem d14_1 : decode method_3_code 1 = .ok (.bipush 47, 2) := by decide +kernel
theorem d14_3 : decode method_3_code 3 = .ok (.if_icmp .eq 27, 3) := by decide +kernel
theorem d14_30 : decode method_3_code 30 = .ok (.iconst 1, 1) := by decide +kernel
theorem d14_31 : decode method_3_code 31 = .ok (.goto 4, 3) := by decide +kernel
theorem d14_35 : decode method_3_code 35 = .ok (.ireturn, 1) := by decide +kernel
theorem d14_6 : decode method_3_code 6 = .ok (.iload_n 0, 1) := by decide +kernel
theorem d14_7 : decode method_3_code 7 = .ok (.bipush 92, 2) := by decide +kernel
theorem d14_9 : decode method_3_code 9 = .ok (.if_icmp .eq 21, 3) := by decide +kernel
theorem d14_12 : decode method_3_code 12 = .ok (.iload_n 0, 1) := by decide +kernel
theorem d14_13 : decode method_3_code 13 = .ok (.bipush 36, 2) := by decide +kernel
theorem d14_15 : decode method_3_code 15 = .ok (.if_icmp .eq 15, 3) := by decide +kernel
theorem d14_18 : decode method_3_code 18 = .ok (.iload_n 0, 1) := by decide +kernel
theorem d14_19 : decode method_3_code 19 = .ok (.bipush 96, 2) := by decide +kernel
theorem d14_21 : decode method_3_code 21 = .ok (.if_icmp .eq 9, 3) := by decide +kernel
theorem d14_24 : decode method_3_code 24 = .ok (.iload_n 0, 1) := by decide +kernel
theorem d14_25 : decode method_3_code 25 = .ok (.bipush 91, 2) := by decide +kernel
theorem d14_27 : decode method_3_code 27 = .ok (.if_icmp .ne 7, 3) := by decide +kernel
theorem d14_34 : decode method_3_code 34 = .ok (.iconst 0, 1) := by decide +kernel
theorem d2_0 : decode method_5_code 0 = .ok (.iload_n 0, 1) := by decide +kernel
theorem d2_1 : decode method_5_code 1 = .ok (.ifCond .ne 14, 3) := by decide +kernel
theorem d2_4 : decode method_5_code 4 = .ok (.new 50, 3) := by decide +kernel
theorem d2_7 : decode method_5_code 7 = .ok (.dup, 1) := by decide +kernel
theorem d2_8 : decode method_5_code 8 = .ok (.iconst 0, 1) := by decide +kernel
theorem d2_9 : decode method_5_code 9 = .ok (.newarray .char, 2) := by decide +kernel
theorem d2_11 : decode method_5_code 11 = .ok (.invokespecial 52, 3) := by decide +kernel
theorem pd_25 : parseMethodDescriptor "([C)V" = some ⟨[(.array .char)], none⟩ := by decide +kernel
theorem d2_14 : decode method_5_code 14 = .ok (.areturn, 1) := by decide +kernel
theorem d2_15 : decode method_5_code 15 = .ok (.iload_n 0, 1) := by decide +kernel
theorem d2_16 : decode method_5_code 16 = .ok (.iconst 1, 1) := by decide +kernel
theorem d2_17 : decode method_5_code 17 = .ok (.if_icmp .ne 18, 3) := by decide +kernel
theorem d2_20 : decode method_5_code 20 = .ok (.new 50, 3) := by decide +kernel
theorem d2_23 : decode method_5_code 23 = .ok (.dup, 1) := by decide +kernel
theorem d2_24 : decode method_5_code 24 = .ok (.iconst 1, 1) := by decide +kernel
theorem d2_25 : decode method_5_code 25 = .ok (.newarray .char, 2) := by decide +kernel
theorem d2_27 : decode method_5_code 27 = .ok (.dup, 1) := by decide +kernel
theorem d2_28 : decode method_5_code 28 = .ok (.iconst 0, 1) := by decide +kernel
theorem d2_29 : decode method_5_code 29 = .ok (.iload_n 1, 1) := by decide +kernel
theorem d2_30 : decode method_5_code 30 = .ok (.castore, 1) := by decide +kernel
theorem d2_31 : decode method_5_code 31 = .ok (.invokespecial 52, 3) := by decide +kernel
theorem d2_34 : decode method_5_code 34 = .ok (.areturn, 1) := by decide +kernel
theorem d2_35 : decode method_5_code 35 = .ok (.iload_n 0, 1) := by decide +kernel
theorem d2_36 : decode method_5_code 36 = .ok (.iconst 2, 1) := by decide +kernel
theorem d2_37 : decode method_5_code 37 = .ok (.if_icmp .ne 22, 3) := by decide +kernel
theorem d2_40 : decode method_5_code 40 = .ok (.new 50, 3) := by decide +kernel
theorem d2_43 : decode method_5_code 43 = .ok (.dup, 1) := by decide +kernel
theorem d2_44 : decode method_5_code 44 = .ok (.iconst 2, 1) := by decide +kernel
theorem d2_45 : decode method_5_code 45 = .ok (.newarray .char, 2) := by decide +kernel
theorem d2_47 : decode method_5_code 47 = .ok (.dup, 1) := by decide +kernel
theorem d2_48 : decode method_5_code 48 = .ok (.iconst 0, 1) := by decide +kernel
theorem d2_49 : decode method_5_code 49 = .ok (.iload_n 1, 1) := by decide +kernel
theorem d2_50 : decode method_5_code 50 = .ok (.castore, 1) := by decide +kernel
theorem d2_51 : decode method_5_code 51 = .ok (.dup, 1) := by decide +kernel
theorem d2_52 : decode method_5_code 52 = .ok (.iconst 1, 1) := by decide +kernel
theorem d2_53 : decode method_5_code 53 = .ok (.iload_n 2, 1) := by decide +kernel
theorem d2_54 : decode method_5_code 54 = .ok (.castore, 1) := by decide +kernel
theorem d2_55 : decode method_5_code 55 = .ok (.invokespecial 52, 3) := by decide +kernel
theorem d2_58 : decode method_5_code 58 = .ok (.areturn, 1) := by decide +kernel
theorem d2_59 : decode method_5_code 59 = .ok (.iload_n 0, 1) := by decide +kernel
theorem d2_60 : decode method_5_code 60 = .ok (.iconst 3, 1) := by decide +kernel
theorem d2_61 : decode method_5_code 61 = .ok (.if_icmp .ne 26, 3) := by decide +kernel
theorem d2_64 : decode method_5_code 64 = .ok (.new 50, 3) := by decide +kernel
theorem d2_67 : decode method_5_code 67 = .ok (.dup, 1) := by decide +kernel
theorem d2_68 : decode method_5_code 68 = .ok (.iconst 3, 1) := by decide +kernel
theorem d2_69 : decode method_5_code 69 = .ok (.newarray .char, 2) := by decide +kernel
theorem d2_71 : decode method_5_code 71 = .ok (.dup, 1) := by decide +kernel
theorem d2_72 : decode method_5_code 72 = .ok (.iconst 0, 1) := by decide +kernel
theorem d2_73 : decode method_5_code 73 = .ok (.iload_n 1, 1) := by decide +kernel
theorem d2_74 : decode method_5_code 74 = .ok (.castore, 1) := by decide +kernel
theorem d2_75 : decode method_5_code 75 = .ok (.dup, 1) := by decide +kernel
theorem d2_76 : decode method_5_code 76 = .ok (.iconst 1, 1) := by decide +kernel
theorem d2_77 : decode method_5_code 77 = .ok (.iload_n 2, 1) := by decide +kernel
theorem d2_78 : decode method_5_code 78 = .ok (.castore, 1) := by decide +kernel
theorem d2_79 : decode method_5_code 79 = .ok (.dup, 1) := by decide +kernel
theorem d2_80 : decode method_5_code 80 = .ok (.iconst 2, 1) := by decide +kernel
theorem d2_81 : decode method_5_code 81 = .ok (.iload_n 3, 1) := by decide +kernel
theorem d2_82 : decode method_5_code 82 = .ok (.castore, 1) := by decide +kernel
theorem d2_83 : decode method_5_code 83 = .ok (.invokespecial 52, 3) := by decide +kernel
theorem d2_86 : decode method_5_code 86 = .ok (.areturn, 1) := by decide +kernel
theorem d2_87 : decode method_5_code 87 = .ok (.new 50, 3) := by decide +kernel
theorem d2_90 : decode method_5_code 90 = .ok (.dup, 1) := by decide +kernel
theorem d2_91 : decode method_5_code 91 = .ok (.iconst 4, 1) := by decide +kernel
theorem d2_92 : decode method_5_code 92 = .ok (.newarray .char, 2) := by decide +kernel
theorem d2_94 : decode method_5_code 94 = .ok (.dup, 1) := by decide +kernel
theorem d2_95 : decode method_5_code 95 = .ok (.iconst 0, 1) := by decide +kernel
theorem d2_96 : decode method_5_code 96 = .ok (.iload_n 1, 1) := by decide +kernel
theorem d2_97 : decode method_5_code 97 = .ok (.castore, 1) := by decide +kernel
theorem d2_98 : decode method_5_code 98 = .ok (.dup, 1) := by decide +kernel
theorem d2_99 : decode method_5_code 99 = .ok (.iconst 1, 1) := by decide +kernel
theorem d2_100 : decode method_5_code 100 = .ok (.iload_n 2, 1) := by decide +kernel
theorem d2_101 : decode method_5_code 101 = .ok (.castore, 1) := by decide +kernel
theorem d2_102 : decode method_5_code 102 = .ok (.dup, 1) := by decide +kernel
theorem d2_103 : decode method_5_code 103 = .ok (.iconst 2, 1) := by decide +kernel
theorem d2_104 : decode method_5_code 104 = .ok (.iload_n 3, 1) := by decide +kernel
theorem d2_105 : decode method_5_code 105 = .ok (.castore, 1) := by decide +kernel
theorem d2_106 : decode method_5_code 106 = .ok (.dup, 1) := by decide +kernel
theorem d2_107 : decode method_5_code 107 = .ok (.iconst 3, 1) := by decide +kernel
theorem d2_108 : decode method_5_code 108 = .ok (.iload 4, 2) := by decide +kernel
theorem d2_110 : decode method_5_code 110 = .ok (.castore, 1) := by decide +kernel
theorem d2_111 : decode method_5_code 111 = .ok (.invokespecial 52, 3) := by decide +kernel
theorem d2_114 : decode method_5_code 114 = .ok (.areturn, 1) := by decide +kernel
theorem own_cut {tb : Tables} {e : Env} {below : List Frame} {P : State → Prop} {A : State} {C : (State → Prop) → Prop} (h1 : C P) (h2 : C P → ownG tb e below P A) : ownG tb e below P A := h2 h1
theorem own_five (f : Int32) : (f &&& (7 : Int32)) % (5 : Int32) = (0 : Int32) ∨ (f &&& (7 : Int32)) % (5 : Int32) = (1 : Int32) ∨ (f &&& (7 : Int32)) % (5 : Int32) = (2 : Int32) ∨ (f &&& (7 : Int32)) % (5 : Int32) = (3 : Int32) ∨ (f &&& (7 : Int32)) % (5 : Int32) = (4 : Int32) := by
  have h0 := c_and f 7 (by decide)
  have q := (c_iremV (f &&& 7) 5).1 h0.1 (by decide)
  have e6 : (5 : Int32).toInt = 5 := rfl
  have e0 : (0 : Int32).toInt = 0 := rfl
  have e1 : (1 : Int32).toInt = 1 := rfl
  have e2 : (2 : Int32).toInt = 2 := rfl
  have e3 : (3 : Int32).toInt = 3 := rfl
  have e4 : (4 : Int32).toInt = 4 := rfl
  simp only [← Int32.toInt_inj, e0, e1, e2, e3, e4]
  omega
theorem pd_26 : parseMethodDescriptor "(ICCCC)Ljava/lang/String;" = some ⟨[.int, .char, .char, .char, .char], some (.object "java/lang/String")⟩ := by decide +kernel
theorem pd_27 : parseMethodDescriptor "(Ljava/lang/String;)Ljava/util/List;" = some ⟨[(.object "java/lang/String")], some (.object "java/util/List")⟩ := by decide +kernel
theorem pd_28 : parseMethodDescriptor "(I)Ljava/lang/Object;" = some ⟨[.int], some (.object "java/lang/Object")⟩ := by decide +kernel
theorem pd_29 : parseMethodDescriptor "(C)Z" = some ⟨[.char], some .boolean⟩ := by decide +kernel
theorem own_fold {f : Nat → Option Bool} : ∀ (l : List Nat) (a : Option Bool), l.foldl (fun acc i => match acc with | some true => f i | x => x) a = some true → a = some true ∧ ∀ i ∈ l, f i = some true
  | [], a, h => ⟨h, fun i hi => nomatch hi⟩
  | x :: xs, a, h => by
    have q := own_fold xs _ h
    match a, q with
    | some true, q => exact ⟨rfl, fun i hi => by
        rcases List.mem_cons.mp hi with rfl | hi
        · exact q.1
        · exact q.2 i hi⟩
    | some false, q => exact absurd q.1 (by simp)
    | none, q => exact absurd q.1 (by simp)
theorem own_all {s : State} {args : Array Value} {t : Jvm.Term} {c : Jvm.Cond} {a : Addr} {cl : Cell} {ty : FieldType} (ev : t.eval args s none [] s = some (.ref a)) (A : Arr s s.heap a cl ty) (h : (Jvm.Cond.all t c).value args s none s [] = some true) : ∀ k, k < cl.slots.size → c.value args s none s [k] = some true := by
  have ha := A.fin (Vm.Alike.refl _)
  simp only [Jvm.Cond.value, ev, ha] at h
  exact fun k hk => (own_fold _ _ h).2 k (List.mem_range.mpr hk)
theorem own_or_r {s : State} {args : Array Value} {i : List Nat} {a b : Jvm.Cond} (h : (Jvm.Cond.or a b).value args s none s i = some true) (ha : a.value args s none s i = some false) : b.value args s none s i = some true := by
  simpa [Jvm.Cond.value, ha] using h
theorem own_le_i {s : State} {args : Array Value} {k : Nat} {n : Int32} (q : ¬ n ≤ k.toInt32) : (Jvm.Cond.le (Jvm.Term.int n) (Jvm.Term.index 0)).value args s none s [k] = some false := by
  simp [Jvm.Cond.value, Jvm.Term.eval, q]
theorem own_lt_i {s : State} {args : Array Value} {k : Nat} {n : Int32} (q : ¬ k.toInt32 < n) : (Jvm.Cond.lt (Jvm.Term.index 0) (Jvm.Term.int n)).value args s none s [k] = some false := by
  simp [Jvm.Cond.value, Jvm.Term.eval, q]
theorem own_eq0 {s : State} {args : Array Value} {t : Jvm.Term} {a : Addr} {cl : Cell} {ty : FieldType} {k : Nat} (ev : t.eval args s none [k] s = some (.ref a)) (A : Arr s s.heap a cl ty) (hk : k < 128) (h : (Jvm.Cond.eq (Jvm.Term.elem t (Jvm.Term.index 0)) (Jvm.Term.int 0)).value args s none s [k] = some true) : cl.slots[k]? = some (.int 0) := by
  have hx := eqv_i (y := (0 : Int32)) rfl h
  have hj : (Jvm.Term.index 0).eval args s none [k] s = some (.int k.toInt32) := by simp [Jvm.Term.eval]
  have q := (elem_in hx ev hj A.1).2
  have e1 : (Nat.toInt32 k).toNatClampNeg = k := by simp only [Int32.toNatClampNeg, len_toInt (show k < 2 ^ 31 by omega)]; rfl
  rw [e1] at q
  exact q
theorem own_exa_ne {Z : State} {h : Heap} {a b : Addr} {C D : String} (E : Exa Z h a C) (F : Exa Z h b D) (q : C ≠ D) : a ≠ b := fun e => by
  subst e
  obtain ⟨c1, k1, e1, e2, e3, -⟩ := E
  obtain ⟨c2, k2, f1, f2, f3, -⟩ := F
  cases e1.symm.trans f1
  obtain ⟨x1, q1, q2⟩ := Vm.findClass_spec e2
  obtain ⟨x2, q3, q4⟩ := Vm.findClass_spec f2
  cases q1.symm.trans q3
  exact q (q2.symm.trans q4)
theorem own_arvL {Z : State} {a : Addr} {cl : Cell} {ty : FieldType} {z : Int32} {dv : Value} (hf : Fit Z) (A : Arr Z Z.heap a cl ty) (q : cl.slots.size < 2 ^ 31) (e : cl.slots.size.toInt32 = z) (hz : ¬ z < 0) : Arv Z Z.heap a cl.cls ty z cl.slots.toList dv := by
  have S : cl.slots.size = z.toNatClampNeg := by rw [← e]; simp only [Int32.toNatClampNeg, len_toInt q]; rfl
  have H' : Has cl cl.slots.toList dv := fun j hj => by simp [List.getD_eq_getElem?_getD, hj]
  refine ⟨cl, A, rfl, S, hz, H', fun j hj => ?_⟩
  have e1 : (Nat.toInt32 j).toNatClampNeg = j := by simp only [Int32.toNatClampNeg, len_toInt (Nat.lt_trans hj q)]; rfl
  exact elem_fits (j := Nat.toInt32 j) hf A (idx_in hj q) (by rw [e1]; exact H' j hj)
theorem own_nle {n : Int32} {k : Nat} (hk : k < 128) (h : (k : Int) < n.toInt) : ¬ n ≤ k.toInt32 := by
  rw [Int32.le_iff_toInt_le, len_toInt (by omega)]
  omega
theorem own_nlt {n : Int32} {k : Nat} (hk : k < 128) (h : n.toInt ≤ (k : Int)) : ¬ k.toInt32 < n := by
  rw [Int32.lt_iff_toInt_lt, len_toInt (by omega)]
  omega
theorem own_marks {sl : Array Value} (h1 : ∀ k, k < 36 → sl[k]? = some (.int 0)) (h2 : ∀ k, 37 ≤ k → k < 47 → sl[k]? = some (.int 0)) (h3 : ∀ k, 48 ≤ k → k < 91 → sl[k]? = some (.int 0)) (h4 : ∀ k, 97 ≤ k → k < 128 → sl[k]? = some (.int 0)) (e36 : sl[36]? = some (.int 1)) (e47 : sl[47]? = some (.int 1)) (e91 : sl[91]? = some (.int 1)) (e92 : sl[92]? = some (.int 1)) (e93 : sl[93]? = some (.int 0)) (e94 : sl[94]? = some (.int 0)) (e95 : sl[95]? = some (.int 0)) (e96 : sl[96]? = some (.int 1)) : ∀ c : Int32, ¬ c < (0 : Int32) → c < (128 : Int32) → sl.toList.getD c.toNatClampNeg (.int (0 : Int32)) = .int (own_b (Mk c)) := by
  intro c q0 q1
  have g : ∀ k v, sl[k]? = some v → sl.toList.getD k (.int (0 : Int32)) = v := fun k v h => by simp [List.getD_eq_getElem?_getD, h]
  by_cases hm : Mk c
  · rw [own_bt1 hm]
    rcases hm with rfl | rfl | rfl | rfl | rfl
    · exact g 47 _ e47
    · exact g 92 _ e92
    · exact g 36 _ e36
    · exact g 96 _ e96
    · exact g 91 _ e91
  · rw [own_bf0 hm]
    have z0 : (0 : Int32).toInt = 0 := rfl
    have z1 : (128 : Int32).toInt = 128 := rfl
    rw [Int32.lt_iff_toInt_lt] at q0 q1
    have hk : (c.toNatClampNeg : Int) = c.toInt := by show ((c.toInt.toNat : Nat) : Int) = _; omega
    have n47 : c.toNatClampNeg ≠ 47 := fun e => hm (Or.inl (Int32.toInt_inj.mp (by rw [← hk, e]; rfl)))
    have n92 : c.toNatClampNeg ≠ 92 := fun e => hm (Or.inr (Or.inl (Int32.toInt_inj.mp (by rw [← hk, e]; rfl))))
    have n36 : c.toNatClampNeg ≠ 36 := fun e => hm (Or.inr (Or.inr (Or.inl (Int32.toInt_inj.mp (by rw [← hk, e]; rfl)))))
    have n96 : c.toNatClampNeg ≠ 96 := fun e => hm (Or.inr (Or.inr (Or.inr (Or.inl (Int32.toInt_inj.mp (by rw [← hk, e]; rfl))))))
    have n91 : c.toNatClampNeg ≠ 91 := fun e => hm (Or.inr (Or.inr (Or.inr (Or.inr (Int32.toInt_inj.mp (by rw [← hk, e]; rfl))))))
    generalize c.toNatClampNeg = k at hk n47 n92 n36 n96 n91 ⊢
    have hl : k < 36 ∨ (37 ≤ k ∧ k < 47) ∨ (48 ≤ k ∧ k < 91) ∨ k = 93 ∨ k = 94 ∨ k = 95 ∨ (97 ≤ k ∧ k < 128) := by omega
    rcases hl with h | h | h | rfl | rfl | rfl | h
    · exact g _ _ (h1 k h)
    · exact g _ _ (h2 k h.1 h.2)
    · exact g _ _ (h3 k h.1 h.2)
    · exact g _ _ e93
    · exact g _ _ e94
    · exact g _ _ e95
    · exact g _ _ (h4 k h.1 h.2)
abbrev fr_ini4 (m : MethodId) (a1 : Addr) (a2 : Addr) (pc : Nat)  (st : List Value) : JFrame := mkF m pc #[vR a1, vR a2, vI 0, vI 0, .val .null, .unset] st
def Q_ini4 (Z : State) (a1 : Addr) (a2 : Addr) (c0 : Value) (h0 : Heap) (n0 : Nat) (v : Option Value) (h : Heap) (L : List Loc) : Prop := v = none ∧ Fr n0 L ∧ Keep h0 h [a1] ∧ Exa Z h a1 "java/lang/String" ∧ Fld Z h a1 "java/lang/String" "coder" "B" (iV 0) ∧ ∃ (t : Addr) (kb : ClassId), Fld Z h a1 "java/lang/String" "value" "[B" (.ref t) ∧ Arv Z h t kb .byte (0 : Int32) [] (iV 0)
theorem ef_ini4 (m : MethodId) (x0 : Addr) (x1 : Addr) (x2 : Int32) (x3 : Int32)  : entryFrame m #[(.ref x0), (.ref x1), (.int x2), (.int x3), .null] 6 = mkF m 0 #[vR x0, vR x1, vI x2, vI x3, .val .null, .unset] [] := by first | (simp [entryFrame, mkF, argsToLocals, Value.category]; done) | rfl
set_option maxRecDepth 65536 in
set_option maxHeartbeats 40000000 in
theorem c_ini4 (l : Launch) (Z : State) (a0 : Array Value) (hw : HW a0 Z) (ws : List Jvm.Cond) (a1 : Addr) (a2 : Addr) (c0 : Value) (h0 : Heap) (n0 : Nat) (Z0 : n0 ≤ h0.size) (E1 : Exa Z h0 a1 "java/lang/String") (F1 : Fld Z h0 a1 "java/lang/String" "value" "[B" .null) (F2 : Fld Z h0 a1 "java/lang/String" "coder" "B" c0) (g1 : n0 ≤ a1) :
  MetFree l yM0 (head1 (Jvm.Cond.code yM0 jdk_42_method_149_code 6 none :: ws) ({ frames := 1, cells := 4, slots := 8, locals := 12 } : Room)) (fun a U => a = #[(.ref a1), (.ref a2), (iV 0), (iV 0), .null] ∧ Z.Warmed39 U.vm ∧ U.heap = h0 ∧ CHv Z ownEL U.vm h0) (fun _ _ _ _ _ => True) (fun _ U o U' => ∃ v L, o = .returned v ∧ (Q_ini4 Z a1 a2 c0 h0 n0) v U'.heap L ∧ CHr Z ownEL U.vm U.heap U'.vm U'.heap ∧ ReturnedEndW U o U' L ({ frames := 1, cells := 4, slots := 8, locals := 12 } : Room).cells ({ frames := 1, cells := 4, slots := 8, locals := 12 } : Room).slots) := by
 refine MetFree.of_bodySF (plainFor_of_name pn_1) hisR ?_
 intro p e s m args below meth c s₁ Bd hml0 hP hK
 obtain ⟨rfl, hZ, hHp, hCH⟩ := hP
 have hx := Bd.exec
 have D := fun {pc : Nat} {r} (h : decode _ pc = r) => hb Bd.bytes h
 have hml : c.maxLocals = 6 := hml0
 have hown : s.vm.findClass "java/lang/String" = some m.cls := findClass_of_methodNamed Bd.named
 have hnm := (name_of_methodNamed Bd.named Bd.method).1
 have X0 : Stand p l e ({ frames := 1, cells := 4, slots := 8, locals := 12 } : Room) (s.setVm s.vm) m #[(.ref a1), (.ref a2), (iV 0), (iV 0), .null] below meth c s₁ [] 0 0 := Stand.of_body Bd
 have e0 : s₁.heap = h0 := by rw [← hHp, Bd.state]; rfl
 have N0 := Fr.nil n0
 refine ownOutH hHp (P := (Q_ini4 Z a1 a2 c0 h0 n0)) ?_
 refine ownBy (A := s₁.setTop (mkF m 0 #[vR a1, vR a2, vI 0, vI 0, .val .null, .unset] [])) (fun t k => castTop (ef_ini4 m a1 a2 (0 : Int32) (0 : Int32)) k) ?_
 have hS0 : s.Since s.vm h0.size := own_since
 have hEL := own_EW hw
 have R0 := CHr.refl hCH
 have wS := own_wS hw
 have sfa1 : Safe Z ownEL s.vm h0 a1 := own_safe_blank hZ.alike E1 F1
 refine oTo s₁ (fr_ini4 m a1 a2 1  [(.ref a1)]) (fun t kt => ?_) ?_
 ·refine XS.aloadN X0.here hx rfl (D d4_0) rfl rfl ?_
  exact kt
 obtain ⟨T21, X21, e21, st21⟩ := initO X0 hx hZ hown (Wd18 hw) (Wd19 hw) (Wd20 hw) e0 (g := (fr_ini4 m a1 a2 1  [(.ref a1)])) rfl (by rw [hml]; rfl) rfl (D d4_1) (by decide) (W := 0) (by show 2 * 0 + _ ≤ _; exact Nat.le_of_eq rfl) (by decide)
 refine ownBy st21 ?_
 clear st21
 show oA p e below _ T21 (fr_ini4 m a1 a2 4  [])
 refine oTo T21 (fr_ini4 m a1 a2 9  [(.ref a1)]) (fun t kt => ?_) ?_
 ·refine XS.iloadN X21.here hx rfl (D d4_4) rfl ?_
  refine XS.ifNo X21.here hx rfl (D d4_5) rfl ((if0 _ _).trans (teq ((by decide) : (0 : Int32) = (0 : Int32))).2) ?_
  refine XS.aloadN X21.here hx rfl (D d4_8) rfl rfl ?_
  exact kt
 obtain ⟨a22, T22, h22, k22, b22, kb22, X22, e22, E22, hS22, hk22, hZ22, hown22, A22, C22, V22, Ab22, -, -, hC22, Lt22, hne22, st22⟩ := ldcCH (text := "") X21 hx hZ hown (Wd21 hw) wS e21 hS0 (Nat.le_refl _) hEL (by simp [ownEL]) R0.1 (vs := []) (z := (0 : Int32)) ⟨by decide, by decide⟩ (by decide) rfl (g := (fr_ini4 m a1 a2 9  [(.ref a1)])) rfl (D d4_9) (n := 0) (by decide) (by decide) (by decide) (by decide)
 have R24 := R0.trans hC22
 have sf25 := CHr.safe hC22 E1.lt sfa1
 have ne26 := hne22 a1 sf25
 refine ownBy st22 ?_
 clear st22
 show oA p e below _ T22 (fr_ini4 m a1 a2 11  [(.ref a22), (.ref a1)])
 refine own_getF X22 hx hZ22 hown22 (host := "") (Or.inl (Wd27 hw)) Via.refl e22 V22 (D d4_11) (fun T27 X27 e27 => ?_)
 have f29 := (F1.ext E22)
 have f30 := (E1.ext E22)
 obtain ⟨T28, h28, X28, e28, W28, st28⟩ := putF X27 hx hZ22 hown22 (host := "") (Or.inl (Wd27 hw)) Via.refl e27 f29 f30 (Or.inr ⟨(Wd23 hw), rfl, hnm⟩) (Wd8 hw) (ty := (.array .byte)) (by decide) rfl rfl (g := (fr_ini4 m a1 a2 14  [(.ref b22), (.ref a1)])) rfl rfl (D d4_14)
 have F31 := f29.same W28
 have N32 := Fr.snoc X28 N0 g1
 have R33 := R24.trans (CHr.wr W28 sf25 R24.1)
 have sf34 := Safe.wr W28 sf25 R24.1 sf25
 obtain ⟨Lh35, Xh35, Nh35⟩ := oHd 2 4 X28 N32 rfl rfl
 refine ownBy st28 ?_
 clear st28
 show oA p e below _ T28 (fr_ini4 m a1 a2 17  [])
 refine oTo T28 (fr_ini4 m a1 a2 18  [(.ref a1)]) (fun t kt => ?_) ?_
 ·refine XS.aloadN Xh35.here hx rfl (D d4_17) rfl rfl ?_
  exact kt
 obtain ⟨a36, T36, h36, k36, b36, kb36, X36, e36, E36, hS36, hk36, hZ36, hown36, A36, C36, V36, Ab36, -, -, hC36, Lt36, hne36, st36⟩ := ldcCH (text := "") Xh35 hx hZ22 hown22 (Wd21 hw) wS e28 hS22 (Nat.le_trans hk22 (Keep.of_wr W28).1) hEL (by simp [ownEL]) R33.1 (vs := []) (z := (0 : Int32)) ⟨by decide, by decide⟩ (by decide) rfl (g := (fr_ini4 m a1 a2 18  [(.ref a1)])) rfl (D d4_18) (n := 0) (by decide) (by decide) (by decide) (by decide)
 have R38 := R33.trans hC36
 have f40 := (f30.wr W28)
 have sf39 := CHr.safe hC36 f40.lt sf34
 have ne41 := hne36 a1 sf39
 refine ownBy st36 ?_
 clear st36
 show oA p e below _ T36 (fr_ini4 m a1 a2 20  [(.ref a36), (.ref a1)])
 refine own_getF X36 hx hZ36 hown36 (host := "") (Or.inl (Wd28 hw)) Via.refl e36 C36 (D d4_20) (fun T42 X42 e42 => ?_)
 have f44 := (((F2.ext E22).other W28 (Or.inr (slot_ne (Or.inr (Wd24 hw)) (Or.inr (Wd23 hw)) (by decide) (t := .byte) (t' := (.array .byte)) (by decide) (by decide)))).ext E36)
 have f45 := (f40.ext E36)
 obtain ⟨T43, h43, X43, e43, W43, st43⟩ := putFN X42 hx hZ36 hown36 (Wd28 hw) Via.refl e42 f44 f45 (Or.inr ⟨(Wd24 hw), rfl, hnm⟩) (Wd8 hw) (ty := .byte) (v' := (iV 0)) (by decide) rfl (fits_nar_byte (0 : Int32)) (g := (fr_ini4 m a1 a2 23  [(iV 0), (.ref a1)])) rfl rfl (D d4_23)
 have F46 := f44.same W43
 have N47 := Fr.snoc X43 Nh35 g1
 have R48 := R38.trans (CHr.wr W43 sf39 R38.1)
 have sf49 := Safe.wr W43 sf39 R38.1 sf39
 obtain ⟨Lh50, Xh50, Nh50⟩ := oHd 4 8 X43 N47 rfl rfl
 refine ownBy st43 ?_
 clear st43
 show oA p e below _ T43 (fr_ini4 m a1 a2 26  [])
 have f51 := (((((Keep.refl h0 [a1]).ext E22).wr W28 (Or.inl (List.mem_of_getElem? (i := 0) rfl))).ext E36).wr W43 (Or.inl (List.mem_of_getElem? (i := 0) rfl)))
 have f52 := (f45.wr W43)
 have f53 := ((F31.ext E36).other W43 (Or.inr (slot_ne (Or.inr (Wd23 hw)) (Or.inr (Wd24 hw)) (by decide) (t := (.array .byte)) (t' := .byte) (by decide) (by decide))))
 have f54 := (((Ab22.other W28 (Ne.symm ne26.2)).ext E36).other W43 (Ne.symm ne26.2))
 refine ownRetH Xh50 hS36 (by rw [e43]; exact (Nat.le_trans hk36 (Keep.of_wr W43).1)) Bd.notSynchronized (v := none) (fun _ => rfl) ?_ (R48.trans ((by rw [e43]; exact CHv.at Xh50 hZ36 hEL R48.1))) (oLe rfl) (oLe rfl) (fun fs hr => Xh50.returnOut hx Bd.returns (D d4_26) hr)
 show (Q_ini4 Z a1 a2 c0 h0 n0) (none) T43.heap _
 rw [e43]
 exact ⟨rfl, Nh50, f51, f52, F46, b22, kb22, f53, f54⟩
abbrev fr_ini0 (m : MethodId) (a1 : Addr) (a2 : Addr) (pc : Nat)  (st : List Value) : JFrame := mkF m pc #[vR a1, vR a2] st
def Q_ini0 (Z : State) (a1 : Addr) (a2 : Addr) (c0 : Value) (kC : ClassId) (h0 : Heap) (n0 : Nat) (v : Option Value) (h : Heap) (L : List Loc) : Prop := v = none ∧ Fr n0 L ∧ Keep h0 h [a1] ∧ Exa Z h a1 "java/lang/String" ∧ Fld Z h a1 "java/lang/String" "coder" "B" (iV 0) ∧ ∃ (t : Addr) (kb : ClassId), Fld Z h a1 "java/lang/String" "value" "[B" (.ref t) ∧ Arv Z h t kb .byte (0 : Int32) [] (iV 0)
theorem ef_ini0 (m : MethodId) (x0 : Addr) (x1 : Addr)  : entryFrame m #[(.ref x0), (.ref x1)] 2 = mkF m 0 #[vR x0, vR x1] [] := by first | (simp [entryFrame, mkF, argsToLocals, Value.category]; done) | rfl
set_option maxRecDepth 65536 in
set_option maxHeartbeats 40000000 in
theorem c_ini0 (l : Launch) (Z : State) (a0 : Array Value) (hw : HW a0 Z) (ws : List Jvm.Cond) (a1 : Addr) (a2 : Addr) (c0 : Value) (kC : ClassId) (h0 : Heap) (n0 : Nat) (Z0 : n0 ≤ h0.size) (E1 : Exa Z h0 a1 "java/lang/String") (F1 : Fld Z h0 a1 "java/lang/String" "value" "[B" .null) (F2 : Fld Z h0 a1 "java/lang/String" "coder" "B" c0) (g1 : n0 ≤ a1) (V1 : Arv Z h0 a2 kC .char (0 : Int32) [] (iV 0)) (ne1 : a1 ≠ a2) :
  MetFree l yM1 (head1 (Jvm.Cond.code yM1 jdk_42_method_3_code 2 none :: ws) ({ frames := 2, cells := 4, slots := 8, locals := 29 } : Room)) (fun a U => a = #[(.ref a1), (.ref a2)] ∧ Z.Warmed39 U.vm ∧ U.heap = h0 ∧ CHv Z ownEL U.vm h0) (fun _ _ _ _ _ => True) (fun _ U o U' => ∃ v L, o = .returned v ∧ (Q_ini0 Z a1 a2 c0 kC h0 n0) v U'.heap L ∧ CHr Z ownEL U.vm U.heap U'.vm U'.heap ∧ ReturnedEndW U o U' L ({ frames := 2, cells := 4, slots := 8, locals := 29 } : Room).cells ({ frames := 2, cells := 4, slots := 8, locals := 29 } : Room).slots) := by
 refine MetFree.of_bodySF (plainFor_of_name pn_1) hisR ?_
 intro p e s m args below meth c s₁ Bd hml0 hP hK
 obtain ⟨rfl, hZ, hHp, hCH⟩ := hP
 have hx := Bd.exec
 have D := fun {pc : Nat} {r} (h : decode _ pc = r) => hb Bd.bytes h
 have hml : c.maxLocals = 2 := hml0
 have hown : s.vm.findClass "java/lang/String" = some m.cls := findClass_of_methodNamed Bd.named
 have hnm := (name_of_methodNamed Bd.named Bd.method).1
 have X0 : Stand p l e ({ frames := 2, cells := 4, slots := 8, locals := 29 } : Room) (s.setVm s.vm) m #[(.ref a1), (.ref a2)] below meth c s₁ [] 0 0 := Stand.of_body Bd
 have e0 : s₁.heap = h0 := by rw [← hHp, Bd.state]; rfl
 have N0 := Fr.nil n0
 refine ownOutH hHp (P := (Q_ini0 Z a1 a2 c0 kC h0 n0)) ?_
 refine ownBy (A := s₁.setTop (mkF m 0 #[vR a1, vR a2] [])) (fun t k => castTop (ef_ini0 m a1 a2) k) ?_
 have hS0 : s.Since s.vm h0.size := own_since
 have hEL := own_EW hw
 have R0 := CHr.refl hCH
 have wS := own_wS hw
 have sfa1 : Safe Z ownEL s.vm h0 a1 := own_safe_blank hZ.alike E1 F1
 refine oTo s₁ (fr_ini0 m a1 a2 4  [(.ref a2), (iV 0), (.ref a2), (.ref a1)]) (fun t kt => ?_) ?_
 ·refine XS.aloadN X0.here hx rfl (D d3_0) rfl rfl ?_
  refine XS.aloadN X0.here hx rfl (D d3_1) rfl rfl ?_
  refine XS.iconst X0.here hx rfl (D d3_2) ?_
  refine XS.aloadN X0.here hx rfl (D d3_3) rfl rfl ?_
  exact kt
 obtain ⟨cl21, Ar21, -, S21, N21, -, -⟩ := id V1
 have st21 := X0.arraylength hx (by rw [e0]; exact Ar21.1) (State.isArrayOf_alike hZ.alike Ar21.2.1) (g := (fr_ini0 m a1 a2 4  [(.ref a2), (iV 0), (.ref a2), (.ref a1)])) rfl rfl (D d3_4)
 rw [len_of S21 N21] at st21
 refine ownBy st21 ?_
 show oA p e below _ s₁ (fr_ini0 m a1 a2 5  [(iV 0), (iV 0), (.ref a2), (.ref a1)])
 refine oTo s₁ (fr_ini0 m a1 a2 6  [.null, (iV 0), (iV 0), (.ref a2), (.ref a1)]) (fun t kt => ?_) ?_
 ·refine XS.aconstNull X0.here hx rfl (D d3_5) ?_
  exact kt
 obtain ⟨vv22, _, ⟨T22, L22, k22, n22⟩, -, X22, hS22, hg22, ⟨Lc22, hQ22, l22, y22, z22, hC22⟩, st22⟩ := X0.specialBackS hx (y := yM0) rfl hown (mvT hZ (Wd14 hw)) (mvT hZ (Wd15 hw)) (mvT hZ (Wd17 hw)) (by decide) (backOfSH (W := 0) (s := s) (EL := ownEL) (c_ini4 l Z a0 hw [] a1 a2 _ h0 n0 Z0 E1 F1 F2 g1) hZ (Wd17 hw) (Wd9 hw) (by decide) (by decide) hEL R0.1) (g := (fr_ini0 m a1 a2 6  [.null, (iV 0), (iV 0), (.ref a2), (.ref a1)])) rfl (by rw [hml]; rfl) (Steps.refl _) (a := a1) (argsL := [(.ref a2), (iV 0), (iV 0), .null]) (rest := []) (lenOf pd_2 rfl) rfl (by show 2 * 0 + _ ≤ _; exact Nat.le_of_eq rfl) (D d3_6) (fun _ _ => ⟨rfl, e0, (by decide : 0 + 4 ≤ _), (by decide : 0 + 8 ≤ _)⟩)
 dsimp only [Pt.U, Pt.locs, Pt.cells, Pt.slots] at X22 l22 y22 z22 st22 hQ22 hS22 hg22 hC22
 subst l22 y22 z22
 obtain ⟨rfl, Nq22, Kq22, Eq22, Cq22, t22, kb22, Vq22, Aq22⟩ := hQ22
 have N23 := Fr.app N0 Nq22
 have R25 := R0.trans hC22
 have sf26 := CHr.safe hC22 E1.lt sfa1
 obtain ⟨XR27, hSR27, hZ27, hown27⟩ := rebS hS0 (by rw [e0]; exact (Nat.le_refl _)) X22 hS22 hg22 hZ hown
 obtain ⟨Lh28, Xh28, Nh28⟩ := oHd 4 8 XR27 N23 rfl rfl
 refine ownSt st22 ?_
 clear st22
 show oA p e below _ T22 (fr_ini0 m a1 a2 9  [])
 have f29 := ((Keep.refl h0 [a1]).trans Kq22 (allS (Or.inl (List.mem_of_getElem? (i := 0) rfl)) all0))
 have f30 := (E1.keep Kq22)
 refine ownRetH Xh28 hSR27 (Nat.le_refl _) Bd.notSynchronized (v := none) (fun _ => rfl) ?_ (R25.trans (CHv.at Xh28 hZ27 hEL R25.1)) (oLe rfl) (oLe rfl) (fun fs hr => Xh28.returnOut hx Bd.returns (D d3_9) hr)
 show (Q_ini0 Z a1 a2 c0 kC h0 n0) (none) T22.heap _
 exact ⟨rfl, Nh28, f29, f30, Cq22, t22, kb22, Vq22, Aq22⟩
abbrev fr_put (m : MethodId) (ta : Addr) (cc : Int32) (pc : Nat) (x1_ : Slot) (st : List Value) : JFrame := mkF m pc #[vR ta, x1_, vI cc] st
def Q_put (Z : State) (ta : Addr) (kb : ClassId) (z : Int32) (vs : List Value) (i : Int32) (cc : Int32) (k : Nat) (h0 : Heap) (n0 : Nat) (v : Option Value) (h : Heap) (L : List Loc) : Prop := v = none ∧ Fr n0 L ∧ Keep h0 h [ta] ∧ Arv Z h ta kb .byte z ((vs.set k (.int (oW cc))).set (k + 1) (.int (oH cc))) (iV 0)
theorem ef_put (m : MethodId) (x0 : Addr) (x1 : Int32) (x2 : Int32)  : entryFrame m #[(.ref x0), (.int x1), (.int x2)] 3 = mkF m 0 #[vR x0, vI x1, vI x2] [] := by first | (simp [entryFrame, mkF, argsToLocals, Value.category]; done) | rfl
set_option maxRecDepth 65536 in
set_option maxHeartbeats 40000000 in
theorem c_put (l : Launch) (Z : State) (a0 : Array Value) (hw : HW a0 Z) (ws : List Jvm.Cond) (ta : Addr) (kb : ClassId) (z : Int32) (vs : List Value) (i : Int32) (cc : Int32) (k : Nat) (h0 : Heap) (n0 : Nat) (Z0 : n0 ≤ h0.size) (At : Arv Z h0 ta kb .byte z vs (iV 0)) (gt : n0 ≤ ta) (q0 : ¬ (i <<< ((1 : Int32) &&& 31)) < 0 ∧ (i <<< ((1 : Int32) &&& 31)) < z) (q1 : ¬ ((i <<< ((1 : Int32) &&& 31)) + (1 : Int32)) < 0 ∧ ((i <<< ((1 : Int32) &&& 31)) + (1 : Int32)) < z) (k0 : (i <<< ((1 : Int32) &&& 31)).toNatClampNeg = k) (k1 : ((i <<< ((1 : Int32) &&& 31)) + (1 : Int32)).toNatClampNeg = k + 1) (hl : k + 1 < vs.length) (SA : Sta Z Z.heap "java/lang/StringUTF16" "$assertionsDisabled" "Z" (iV 1)) (SHI : Sta Z Z.heap "java/lang/StringUTF16" "HI_BYTE_SHIFT" "I" (iV 0)) (SLO : Sta Z Z.heap "java/lang/StringUTF16" "LO_BYTE_SHIFT" "I" (iV 8)) (X00 : Old Z n0 h0) :
  MetFree l yM2 (head1 (Jvm.Cond.code yM2 jdk_52_method_4_code 3 none :: ws) ({ frames := 0, cells := 0, slots := 0, locals := 0 } : Room)) (fun a U => a = #[(.ref ta), (.int i), (.int cc)] ∧ Z.Warmed39 U.vm ∧ U.heap = h0) (fun _ _ _ _ _ => True) (fun _ U o U' => ∃ v L, o = .returned v ∧ (Q_put Z ta kb z vs i cc k h0 n0) v U'.heap L ∧ FrameEnd U o U' L ({ frames := 0, cells := 0, slots := 0, locals := 0 } : Room).cells ({ frames := 0, cells := 0, slots := 0, locals := 0 } : Room).slots) := by
 refine MetFree.of_bodySF (plainFor_of_name pn_3) hisR ?_
 intro p e s m args below meth c s₁ Bd hml0 hP hK
 obtain ⟨rfl, hZ, hHp⟩ := hP
 have hx := Bd.exec
 have D := fun {pc : Nat} {r} (h : decode _ pc = r) => hb Bd.bytes h
 have hml : c.maxLocals = 3 := hml0
 have hown : s.vm.findClass "java/lang/StringUTF16" = some m.cls := findClass_of_methodNamed Bd.named
 have hnm := (name_of_methodNamed Bd.named Bd.method).1
 have X0 : Stand p l e ({ frames := 0, cells := 0, slots := 0, locals := 0 } : Room) s m #[(.ref ta), (.int i), (.int cc)] below meth c s₁ [] 0 0 := Stand.of_body Bd
 have e0 : s₁.heap = h0 := by rw [← hHp, Bd.state]; rfl
 have N0 := Fr.nil n0
 refine ownOut (P := (Q_put Z ta kb z vs i cc k h0 n0)) ?_
 refine ownBy (A := s₁.setTop (mkF m 0 #[vR ta, vI i, vI cc] [])) (fun t k => castTop (ef_put m ta i cc) k) ?_
 refine own_getS X0 hx hZ hown (host := "") (Or.inl (Wd144 hw)) Via.refl e0 (SA.ext X00.2) (D d25_0) (fun T21 X21 e21 => ?_)
 refine oTo T21 (fr_put m ta cc 38 (.val (.int ((i <<< ((1 : Int32) &&& 31)) + (1 : Int32)))) [(.int cc), (.int (i <<< ((1 : Int32) &&& 31))), (.ref ta)]) (fun t kt => ?_) ?_
 ·refine XS.ifYes X21.here hx rfl (pc0 := 3) (pc' := 28) rfl (D d25_3) rfl ((if0 _ _).trans (feq ((by decide) : ¬ ((1 : Int32) = (0 : Int32)))).2) (by decide) (by decide) ?_
  refine XS.iloadN X21.here hx rfl (D d25_28) rfl ?_
  refine XS.iconst X21.here hx rfl (D d25_29) ?_
  refine XS.ishl X21.here hx rfl (D d25_30) rfl ?_
  show Steps p.tables e below (T21.setTop (fr_put m ta cc 31 (vI i) [(.int (i <<< ((1 : Int32) &&& 31)))])) t
  refine XS.istoreN X21.here hx rfl (D d25_31) rfl (l' := #[vR ta, .val (.int (i <<< ((1 : Int32) &&& 31))), vI cc]) rfl ?_
  refine XS.aloadN X21.here hx rfl (D d25_32) rfl rfl ?_
  refine XS.iloadN X21.here hx rfl (D d25_33) rfl ?_
  refine XS.iinc X21.here hx rfl (D d25_34) rfl (l' := #[vR ta, .val (.int ((i <<< ((1 : Int32) &&& 31)) + (1 : Int32))), vI cc]) rfl ?_
  show Steps p.tables e below (T21.setTop (fr_put m ta cc 37 (.val (.int ((i <<< ((1 : Int32) &&& 31)) + (1 : Int32)))) [(.int (i <<< ((1 : Int32) &&& 31))), (.ref ta)])) t
  refine XS.iloadN X21.here hx rfl (D d25_37) rfl ?_
  exact kt
 refine own_getS X21 hx hZ hown (host := "") (Or.inl (Wd145 hw)) Via.refl e21 (SHI.ext X00.2) (D d25_38) (fun T22 X22 e22 => ?_)
 refine oTo T22 (fr_put m ta cc 43 (.val (.int ((i <<< ((1 : Int32) &&& 31)) + (1 : Int32)))) [(.int ((cc >>> ((0 : Int32) &&& 31)).toInt8.toInt32)), (.int (i <<< ((1 : Int32) &&& 31))), (.ref ta)]) (fun t kt => ?_) ?_
 ·refine XS.ishr X22.here hx rfl (D d25_41) rfl ?_
  refine XS.i2b X22.here hx rfl (D d25_42) rfl ?_
  exact kt
 obtain ⟨cl23, Ar23, q23, S23, N23, H23, G23⟩ := id At
 have hin23 : ¬ ((i <<< ((1 : Int32) &&& 31)) < 0 ∨ cl23.slots.size ≤ ((i <<< ((1 : Int32) &&& 31))).toNatClampNeg) := inb_of S23 q0
 obtain ⟨T23, h23, X23, e23, W23, st23⟩ := stB X22 hx hZ e22 Ar23 (j := (i <<< ((1 : Int32) &&& 31))) hin23 (g := (fr_put m ta cc 43 (.val (.int ((i <<< ((1 : Int32) &&& 31)) + (1 : Int32)))) [(.int ((cc >>> ((0 : Int32) &&& 31)).toInt8.toInt32)), (.int (i <<< ((1 : Int32) &&& 31))), (.ref ta)])) rfl rfl (D d25_43)
 have V24 : Arv Z h23 ta kb .byte z (vs.set (k) (.int (nar .byte ((cc >>> ((0 : Int32) &&& 31)).toInt8.toInt32)))) (iV 0) := Arv.set Ar23 q23 S23 N23 H23 G23 (fits_nar_byte _) W23 (k) k0 (Nat.lt_of_succ_lt hl)
 rw [own_nar_byte (cc >>> ((0 : Int32) &&& 31))] at V24
 have N25 := Fr.snoc X23 N0 gt
 obtain ⟨Lh26, Xh26, Nh26⟩ := oHd 0 0 X23 N25 rfl rfl
 refine ownBy st23 ?_
 clear st23
 show oA p e below _ T23 (fr_put m ta cc 44 (.val (.int ((i <<< ((1 : Int32) &&& 31)) + (1 : Int32)))) [])
 refine oTo T23 (fr_put m ta cc 47 (.val (.int ((i <<< ((1 : Int32) &&& 31)) + (1 : Int32)))) [(.int cc), (.int ((i <<< ((1 : Int32) &&& 31)) + (1 : Int32))), (.ref ta)]) (fun t kt => ?_) ?_
 ·refine XS.aloadN Xh26.here hx rfl (D d25_44) rfl rfl ?_
  refine XS.iloadN Xh26.here hx rfl (D d25_45) rfl ?_
  refine XS.iloadN Xh26.here hx rfl (D d25_46) rfl ?_
  exact kt
 have f28 := (X00.wr W23 gt)
 refine own_getS Xh26 hx hZ hown (host := "") (Or.inl (Wd146 hw)) Via.refl e23 (SLO.ext f28.2) (D d25_47) (fun T27 X27 e27 => ?_)
 refine oTo T27 (fr_put m ta cc 52 (.val (.int ((i <<< ((1 : Int32) &&& 31)) + (1 : Int32)))) [(.int ((cc >>> ((8 : Int32) &&& 31)).toInt8.toInt32)), (.int ((i <<< ((1 : Int32) &&& 31)) + (1 : Int32))), (.ref ta)]) (fun t kt => ?_) ?_
 ·refine XS.ishr X27.here hx rfl (D d25_50) rfl ?_
  refine XS.i2b X27.here hx rfl (D d25_51) rfl ?_
  exact kt
 obtain ⟨cl29, Ar29, q29, S29, N29, H29, G29⟩ := id V24
 have hin29 : ¬ (((i <<< ((1 : Int32) &&& 31)) + (1 : Int32)) < 0 ∨ cl29.slots.size ≤ (((i <<< ((1 : Int32) &&& 31)) + (1 : Int32))).toNatClampNeg) := inb_of S29 q1
 obtain ⟨T29, h29, X29, e29, W29, st29⟩ := stB X27 hx hZ e27 Ar29 (j := ((i <<< ((1 : Int32) &&& 31)) + (1 : Int32))) hin29 (g := (fr_put m ta cc 52 (.val (.int ((i <<< ((1 : Int32) &&& 31)) + (1 : Int32)))) [(.int ((cc >>> ((8 : Int32) &&& 31)).toInt8.toInt32)), (.int ((i <<< ((1 : Int32) &&& 31)) + (1 : Int32))), (.ref ta)])) rfl rfl (D d25_52)
 have V30 : Arv Z h29 ta kb .byte z ((vs.set (k) (.int ((cc >>> ((0 : Int32) &&& 31)).toInt8.toInt32))).set (k + 1) (.int (nar .byte ((cc >>> ((8 : Int32) &&& 31)).toInt8.toInt32)))) (iV 0) := Arv.set Ar29 q29 S29 N29 H29 G29 (fits_nar_byte _) W29 (k + 1) k1 (by rw [List.length_set]; exact hl)
 rw [own_nar_byte (cc >>> ((8 : Int32) &&& 31))] at V30
 have N31 := Fr.snoc X29 Nh26 gt
 obtain ⟨Lh32, Xh32, Nh32⟩ := oHd 0 0 X29 N31 rfl rfl
 refine ownBy st29 ?_
 clear st29
 show oA p e below _ T29 (fr_put m ta cc 53 (.val (.int ((i <<< ((1 : Int32) &&& 31)) + (1 : Int32)))) [])
 have f33 := (((Keep.refl h0 [ta]).wr W23 (Or.inl (List.mem_of_getElem? (i := 0) rfl))).wr W29 (Or.inl (List.mem_of_getElem? (i := 0) rfl)))
 refine ownRet Xh32 Bd.notSynchronized (v := none) (fun _ => rfl) ?_ (oLe rfl) (oLe rfl) (fun fs hr => Xh32.returnOut hx Bd.returns (D d25_53) hr)
 show (Q_put Z ta kb z vs i cc k h0 n0) (none) T29.heap _
 rw [e29]
 exact ⟨rfl, Nh32, f33, V30⟩
abbrev fr_nbl (m : MethodId) (i : Int32) (pc : Nat)  (st : List Value) : JFrame := mkF m pc #[vI i] st
def Q_nbl (Z : State) (i : Int32) (z : Int32) (h0 : Heap) (n0 : Nat) (v : Option Value) (h : Heap) (L : List Loc) : Prop := v = some (.int z) ∧ Fr n0 L ∧ h = h0
theorem ef_nbl (m : MethodId) (x0 : Int32)  : entryFrame m #[(.int x0)] 1 = mkF m 0 #[vI x0] [] := by first | (simp [entryFrame, mkF, argsToLocals, Value.category]; done) | rfl
set_option maxRecDepth 65536 in
set_option maxHeartbeats 40000000 in
theorem c_nbl (l : Launch) (Z : State) (a0 : Array Value) (hw : HW a0 Z) (ws : List Jvm.Cond) (i : Int32) (z : Int32) (h0 : Heap) (n0 : Nat) (Z0 : n0 ≤ h0.size) (i0 : ¬ i < (0 : Int32)) (i1 : i < (1073741823 : Int32)) (hz : (i <<< ((1 : Int32) &&& 31)) = z) :
  MetFree l yM3 (head1 (Jvm.Cond.code yM3 jdk_52_method_3_code 1 (some .int) :: ws) ({ frames := 0, cells := 0, slots := 0, locals := 0 } : Room)) (fun a U => a = #[(.int i)] ∧ Z.Warmed39 U.vm ∧ U.heap = h0) (fun _ _ _ _ _ => True) (fun _ U o U' => ∃ v L, o = .returned v ∧ (Q_nbl Z i z h0 n0) v U'.heap L ∧ FrameEnd U o U' L ({ frames := 0, cells := 0, slots := 0, locals := 0 } : Room).cells ({ frames := 0, cells := 0, slots := 0, locals := 0 } : Room).slots) := by
 refine MetFree.of_bodySF (plainFor_of_name pn_3) hisR ?_
 intro p e s m args below meth c s₁ Bd hml0 hP hK
 obtain ⟨rfl, hZ, hHp⟩ := hP
 have hx := Bd.exec
 have D := fun {pc : Nat} {r} (h : decode _ pc = r) => hb Bd.bytes h
 have hml : c.maxLocals = 1 := hml0
 have hown : s.vm.findClass "java/lang/StringUTF16" = some m.cls := findClass_of_methodNamed Bd.named
 have hnm := (name_of_methodNamed Bd.named Bd.method).1
 have X0 : Stand p l e ({ frames := 0, cells := 0, slots := 0, locals := 0 } : Room) s m #[(.int i)] below meth c s₁ [] 0 0 := Stand.of_body Bd
 have e0 : s₁.heap = h0 := by rw [← hHp, Bd.state]; rfl
 have N0 := Fr.nil n0
 refine ownOut (P := (Q_nbl Z i z h0 n0)) ?_
 refine ownBy (A := s₁.setTop (mkF m 0 #[vI i] [])) (fun t k => castTop (ef_nbl m i) k) ?_
 refine oTo s₁ (fr_nbl m i 13  [(.int i)]) (fun t kt => ?_) ?_
 ·refine XS.iloadN X0.here hx rfl (D d24_0) rfl ?_
  refine XS.ifYes X0.here hx rfl (pc0 := 1) (pc' := 12) rfl (D d24_1) rfl ((if0 _ _).trans (flt i0).2.1) (by decide) (by decide) ?_
  refine XS.iloadN X0.here hx rfl (D d24_12) rfl ?_
  exact kt
 refine ownBy (X0.ldcInt hx hown (mvT hZ (Wd140 hw)) (g := (fr_nbl m i 13  [(.int i)])) rfl (D d24_13)) ?_
 show oA p e below _ s₁ (fr_nbl m i 15  [(iV 1073741823), (.int i)])
 refine oTo s₁ (fr_nbl m i 58  [(.int (i <<< ((1 : Int32) &&& 31)))]) (fun t kt => ?_) ?_
 ·refine XS.icmpYes X0.here hx rfl (pc0 := 15) (pc' := 55) rfl (D d24_15) rfl (tlt i1).1 (by decide) (by decide) ?_
  refine XS.iloadN X0.here hx rfl (D d24_55) rfl ?_
  refine XS.iconst X0.here hx rfl (D d24_56) ?_
  refine XS.ishl X0.here hx rfl (D d24_57) rfl ?_
  exact kt
 refine ownRet X0 Bd.notSynchronized (v := some (.int (i <<< ((1 : Int32) &&& 31)))) (fun h => by rw [Bd.returns] at h; cases h) ?_ (oLe rfl) (oLe rfl) (fun fs hr => retI X0 hx Bd.returns (D d24_58) hr)
 show (Q_nbl Z i z h0 n0) (some (.int (i <<< ((1 : Int32) &&& 31)))) s₁.heap _
 rw [e0]
 refine ⟨?_, N0, rfl⟩
 rw [hz]
abbrev fr_cfa (m : MethodId) (ta : Addr) (i : Int32) (pc : Nat)  (st : List Value) : JFrame := mkF m pc #[vR ta, vI i] st
def Q_cfa (Z : State) (ta : Addr) (kb : ClassId) (z : Int32) (vs : List Value) (i : Int32) (kk : Int32) (h0 : Heap) (n0 : Nat) (v : Option Value) (h : Heap) (L : List Loc) : Prop := v = some (.int kk) ∧ Fr n0 L ∧ h = h0
theorem ef_cfa (m : MethodId) (x0 : Addr) (x1 : Int32)  : entryFrame m #[(.ref x0), (.int x1)] 2 = mkF m 0 #[vR x0, vI x1] [] := by first | (simp [entryFrame, mkF, argsToLocals, Value.category]; done) | rfl
set_option maxRecDepth 65536 in
set_option maxHeartbeats 40000000 in
theorem c_cfa (l : Launch) (Z : State) (a0 : Array Value) (hw : HW a0 Z) (ws : List Jvm.Cond) (ta : Addr) (kb : ClassId) (z : Int32) (vs : List Value) (i : Int32) (kk : Int32) (h0 : Heap) (n0 : Nat) (Z0 : n0 ≤ h0.size) (At : Arv Z h0 ta kb .byte z vs (iV 0)) (hk : nar .byte ((((i - z).toUInt32 >>> ((31 : Int32) &&& 31).toUInt32).toInt32).toInt8.toInt32) = kk) :
  MetFree l yM4 (head1 (Jvm.Cond.code yM4 jdk_52_method_15_code 2 (some .byte) :: ws) ({ frames := 0, cells := 0, slots := 0, locals := 0 } : Room)) (fun a U => a = #[(.ref ta), (.int i)] ∧ Z.Warmed39 U.vm ∧ U.heap = h0) (fun _ _ _ _ _ => True) (fun _ U o U' => ∃ v L, o = .returned v ∧ (Q_cfa Z ta kb z vs i kk h0 n0) v U'.heap L ∧ FrameEnd U o U' L ({ frames := 0, cells := 0, slots := 0, locals := 0 } : Room).cells ({ frames := 0, cells := 0, slots := 0, locals := 0 } : Room).slots) := by
 refine MetFree.of_bodySF (plainFor_of_name pn_3) hisR ?_
 intro p e s m args below meth c s₁ Bd hml0 hP hK
 obtain ⟨rfl, hZ, hHp⟩ := hP
 have hx := Bd.exec
 have D := fun {pc : Nat} {r} (h : decode _ pc = r) => hb Bd.bytes h
 have hml : c.maxLocals = 2 := hml0
 have hown : s.vm.findClass "java/lang/StringUTF16" = some m.cls := findClass_of_methodNamed Bd.named
 have hnm := (name_of_methodNamed Bd.named Bd.method).1
 have X0 : Stand p l e ({ frames := 0, cells := 0, slots := 0, locals := 0 } : Room) s m #[(.ref ta), (.int i)] below meth c s₁ [] 0 0 := Stand.of_body Bd
 have e0 : s₁.heap = h0 := by rw [← hHp, Bd.state]; rfl
 have N0 := Fr.nil n0
 refine ownOut (P := (Q_cfa Z ta kb z vs i kk h0 n0)) ?_
 refine ownBy (A := s₁.setTop (mkF m 0 #[vR ta, vI i] [])) (fun t k => castTop (ef_cfa m ta i) k) ?_
 refine oTo s₁ (fr_cfa m ta i 2  [(.ref ta), (.int i)]) (fun t kt => ?_) ?_
 ·refine XS.iloadN X0.here hx rfl (D d13_0) rfl ?_
  refine XS.aloadN X0.here hx rfl (D d13_1) rfl rfl ?_
  exact kt
 obtain ⟨cl21, Ar21, -, S21, N21, -, -⟩ := id At
 have st21 := X0.arraylength hx (by rw [e0]; exact Ar21.1) (State.isArrayOf_alike hZ.alike Ar21.2.1) (g := (fr_cfa m ta i 2  [(.ref ta), (.int i)])) rfl rfl (D d13_2)
 rw [len_of S21 N21] at st21
 refine ownBy st21 ?_
 show oA p e below _ s₁ (fr_cfa m ta i 3  [(.int z), (.int i)])
 refine oTo s₁ (fr_cfa m ta i 8  [(.int ((((i - z).toUInt32 >>> ((31 : Int32) &&& 31).toUInt32).toInt32).toInt8.toInt32))]) (fun t kt => ?_) ?_
 ·refine XS.isub X0.here hx rfl (D d13_3) rfl ?_
  refine XS.bipush X0.here hx rfl (D d13_4) ?_
  refine XS.iushr X0.here hx rfl (D d13_6) rfl ?_
  refine XS.i2b X0.here hx rfl (D d13_7) rfl ?_
  exact kt
 refine ownRet X0 Bd.notSynchronized (v := some (.int (nar .byte ((((i - z).toUInt32 >>> ((31 : Int32) &&& 31).toUInt32).toInt32).toInt8.toInt32)))) (fun h => by rw [Bd.returns] at h; cases h) ?_ (oLe rfl) (oLe rfl) (fun fs hr => retN X0 hx (t := .byte) Bd.returns (by simp) (D d13_8) hr)
 show (Q_cfa Z ta kb z vs i kk h0 n0) (some (.int (nar .byte ((((i - z).toUInt32 >>> ((31 : Int32) &&& 31).toUInt32).toInt32).toInt8.toInt32)))) s₁.heap _
 rw [e0]
 refine ⟨?_, N0, rfl⟩
 rw [hk]
abbrev fr_getc (m : MethodId) (ta : Addr) (pc : Nat) (x1_ : Slot) (st : List Value) : JFrame := mkF m pc #[vR ta, x1_] st
def Q_getc (Z : State) (ta : Addr) (kb : ClassId) (z : Int32) (vs : List Value) (i : Int32) (cc : Int32) (k : Nat) (h0 : Heap) (n0 : Nat) (v : Option Value) (h : Heap) (L : List Loc) : Prop := v = some (.int cc) ∧ Fr n0 L ∧ h = h0
theorem ef_getc (m : MethodId) (x0 : Addr) (x1 : Int32)  : entryFrame m #[(.ref x0), (.int x1)] 2 = mkF m 0 #[vR x0, vI x1] [] := by first | (simp [entryFrame, mkF, argsToLocals, Value.category]; done) | rfl
set_option maxRecDepth 65536 in
set_option maxHeartbeats 40000000 in
theorem c_getc (l : Launch) (Z : State) (a0 : Array Value) (hw : HW a0 Z) (ws : List Jvm.Cond) (ta : Addr) (kb : ClassId) (z : Int32) (vs : List Value) (i : Int32) (cc : Int32) (k : Nat) (h0 : Heap) (n0 : Nat) (Z0 : n0 ≤ h0.size) (At : Arv Z h0 ta kb .byte z vs (iV 0)) (q0 : ¬ (i <<< ((1 : Int32) &&& 31)) < 0 ∧ (i <<< ((1 : Int32) &&& 31)) < z) (q1 : ¬ ((i <<< ((1 : Int32) &&& 31)) + (1 : Int32)) < 0 ∧ ((i <<< ((1 : Int32) &&& 31)) + (1 : Int32)) < z) (k0 : (i <<< ((1 : Int32) &&& 31)).toNatClampNeg = k) (k1 : ((i <<< ((1 : Int32) &&& 31)) + (1 : Int32)).toNatClampNeg = k + 1) (u0 : vs.getD k (iV 0) = .int (oW cc)) (u1 : vs.getD (k + 1) (iV 0) = .int (oH cc)) (hc : ¬ cc < 0 ∧ ¬ (65535 : Int32) < cc) (SA : Sta Z Z.heap "java/lang/StringUTF16" "$assertionsDisabled" "Z" (iV 1)) (SHI : Sta Z Z.heap "java/lang/StringUTF16" "HI_BYTE_SHIFT" "I" (iV 0)) (SLO : Sta Z Z.heap "java/lang/StringUTF16" "LO_BYTE_SHIFT" "I" (iV 8)) (X00 : Old Z n0 h0) :
  MetFree l yM5 (head1 (Jvm.Cond.code yM5 jdk_52_method_5_code 2 (some .char) :: ws) ({ frames := 0, cells := 0, slots := 0, locals := 0 } : Room)) (fun a U => a = #[(.ref ta), (.int i)] ∧ Z.Warmed39 U.vm ∧ U.heap = h0) (fun _ _ _ _ _ => True) (fun _ U o U' => ∃ v L, o = .returned v ∧ (Q_getc Z ta kb z vs i cc k h0 n0) v U'.heap L ∧ FrameEnd U o U' L ({ frames := 0, cells := 0, slots := 0, locals := 0 } : Room).cells ({ frames := 0, cells := 0, slots := 0, locals := 0 } : Room).slots) := by
 refine MetFree.of_bodySF (plainFor_of_name pn_3) hisR ?_
 intro p e s m args below meth c s₁ Bd hml0 hP hK
 obtain ⟨rfl, hZ, hHp⟩ := hP
 have hx := Bd.exec
 have D := fun {pc : Nat} {r} (h : decode _ pc = r) => hb Bd.bytes h
 have hml : c.maxLocals = 2 := hml0
 have hown : s.vm.findClass "java/lang/StringUTF16" = some m.cls := findClass_of_methodNamed Bd.named
 have hnm := (name_of_methodNamed Bd.named Bd.method).1
 have X0 : Stand p l e ({ frames := 0, cells := 0, slots := 0, locals := 0 } : Room) s m #[(.ref ta), (.int i)] below meth c s₁ [] 0 0 := Stand.of_body Bd
 have e0 : s₁.heap = h0 := by rw [← hHp, Bd.state]; rfl
 have N0 := Fr.nil n0
 refine ownOut (P := (Q_getc Z ta kb z vs i cc k h0 n0)) ?_
 refine ownBy (A := s₁.setTop (mkF m 0 #[vR ta, vI i] [])) (fun t k => castTop (ef_getc m ta i) k) ?_
 refine own_getS X0 hx hZ hown (host := "") (Or.inl (Wd144 hw)) Via.refl e0 (SA.ext X00.2) (D d26_0) (fun T21 X21 e21 => ?_)
 refine oTo T21 (fr_getc m ta 37 (.val (.int ((i <<< ((1 : Int32) &&& 31)) + (1 : Int32)))) [(.int (i <<< ((1 : Int32) &&& 31))), (.ref ta)]) (fun t kt => ?_) ?_
 ·refine XS.ifYes X21.here hx rfl (pc0 := 3) (pc' := 28) rfl (D d26_3) rfl ((if0 _ _).trans (feq ((by decide) : ¬ ((1 : Int32) = (0 : Int32)))).2) (by decide) (by decide) ?_
  refine XS.iloadN X21.here hx rfl (D d26_28) rfl ?_
  refine XS.iconst X21.here hx rfl (D d26_29) ?_
  refine XS.ishl X21.here hx rfl (D d26_30) rfl ?_
  show Steps p.tables e below (T21.setTop (fr_getc m ta 31 (vI i) [(.int (i <<< ((1 : Int32) &&& 31)))])) t
  refine XS.istoreN X21.here hx rfl (D d26_31) rfl (l' := #[vR ta, .val (.int (i <<< ((1 : Int32) &&& 31)))]) rfl ?_
  refine XS.aloadN X21.here hx rfl (D d26_32) rfl rfl ?_
  refine XS.iloadN X21.here hx rfl (D d26_33) rfl ?_
  refine XS.iinc X21.here hx rfl (D d26_34) rfl (l' := #[vR ta, .val (.int ((i <<< ((1 : Int32) &&& 31)) + (1 : Int32)))]) rfl ?_
  exact kt
 obtain ⟨cl22, Ar22, q22, S22, N22, H22, G22⟩ := id At
 have hin22 : ¬ ((i <<< ((1 : Int32) &&& 31)) < 0 ∨ cl22.slots.size ≤ ((i <<< ((1 : Int32) &&& 31))).toNatClampNeg) := inb_of S22 q0
 have hat22 : cl22.slots[((i <<< ((1 : Int32) &&& 31))).toNatClampNeg]? = some (.int (oW cc)) := H22.at hin22 (by rw [k0]; exact u0)
 have st22 := X21.baloadBytes hx (j := (i <<< ((1 : Int32) &&& 31))) (v := (.int (oW cc))) (by rw [e21]; exact Ar22.1) (State.isArrayOf_alike hZ.alike Ar22.2.1) Ar22.2.2 hin22 hat22 (g := (fr_getc m ta 37 (.val (.int ((i <<< ((1 : Int32) &&& 31)) + (1 : Int32)))) [(.int (i <<< ((1 : Int32) &&& 31))), (.ref ta)])) rfl rfl (D d26_37)
 refine ownBy st22 ?_
 show oA p e below _ T21 (fr_getc m ta 38 (.val (.int ((i <<< ((1 : Int32) &&& 31)) + (1 : Int32)))) [(.int (oW cc))])
 refine oTo T21 (fr_getc m ta 42 (.val (.int ((i <<< ((1 : Int32) &&& 31)) + (1 : Int32)))) [(.int ((oW cc) &&& (255 : Int32)))]) (fun t kt => ?_) ?_
 ·refine XS.sipush X21.here hx rfl (D d26_38) ?_
  refine XS.iand X21.here hx rfl (D d26_41) rfl ?_
  exact kt
 refine own_getS X21 hx hZ hown (host := "") (Or.inl (Wd145 hw)) Via.refl e21 (SHI.ext X00.2) (D d26_42) (fun T23 X23 e23 => ?_)
 refine oTo T23 (fr_getc m ta 48 (.val (.int ((i <<< ((1 : Int32) &&& 31)) + (1 : Int32)))) [(.int ((i <<< ((1 : Int32) &&& 31)) + (1 : Int32))), (.ref ta), (.int (((oW cc) &&& (255 : Int32)) <<< ((0 : Int32) &&& 31)))]) (fun t kt => ?_) ?_
 ·refine XS.ishl X23.here hx rfl (D d26_45) rfl ?_
  refine XS.aloadN X23.here hx rfl (D d26_46) rfl rfl ?_
  refine XS.iloadN X23.here hx rfl (D d26_47) rfl ?_
  exact kt
 obtain ⟨cl24, Ar24, q24, S24, N24, H24, G24⟩ := id At
 have hin24 : ¬ (((i <<< ((1 : Int32) &&& 31)) + (1 : Int32)) < 0 ∨ cl24.slots.size ≤ (((i <<< ((1 : Int32) &&& 31)) + (1 : Int32))).toNatClampNeg) := inb_of S24 q1
 have hat24 : cl24.slots[(((i <<< ((1 : Int32) &&& 31)) + (1 : Int32))).toNatClampNeg]? = some (.int (oH cc)) := H24.at hin24 (by rw [k1]; exact u1)
 have st24 := X23.baloadBytes hx (j := ((i <<< ((1 : Int32) &&& 31)) + (1 : Int32))) (v := (.int (oH cc))) (by rw [e23]; exact Ar24.1) (State.isArrayOf_alike hZ.alike Ar24.2.1) Ar24.2.2 hin24 hat24 (g := (fr_getc m ta 48 (.val (.int ((i <<< ((1 : Int32) &&& 31)) + (1 : Int32)))) [(.int ((i <<< ((1 : Int32) &&& 31)) + (1 : Int32))), (.ref ta), (.int (((oW cc) &&& (255 : Int32)) <<< ((0 : Int32) &&& 31)))])) rfl rfl (D d26_48)
 refine ownBy st24 ?_
 show oA p e below _ T23 (fr_getc m ta 49 (.val (.int ((i <<< ((1 : Int32) &&& 31)) + (1 : Int32)))) [(.int (oH cc)), (.int (((oW cc) &&& (255 : Int32)) <<< ((0 : Int32) &&& 31)))])
 refine oTo T23 (fr_getc m ta 53 (.val (.int ((i <<< ((1 : Int32) &&& 31)) + (1 : Int32)))) [(.int ((oH cc) &&& (255 : Int32))), (.int (((oW cc) &&& (255 : Int32)) <<< ((0 : Int32) &&& 31)))]) (fun t kt => ?_) ?_
 ·refine XS.sipush X23.here hx rfl (D d26_49) ?_
  refine XS.iand X23.here hx rfl (D d26_52) rfl ?_
  exact kt
 refine own_getS X23 hx hZ hown (host := "") (Or.inl (Wd146 hw)) Via.refl e23 (SLO.ext X00.2) (D d26_53) (fun T25 X25 e25 => ?_)
 refine oTo T25 (fr_getc m ta 59 (.val (.int ((i <<< ((1 : Int32) &&& 31)) + (1 : Int32)))) [(.int (((((oW cc) &&& (255 : Int32)) <<< ((0 : Int32) &&& 31)) ||| (((oH cc) &&& (255 : Int32)) <<< ((8 : Int32) &&& 31))).toUInt32.toUInt16.toUInt32.toInt32))]) (fun t kt => ?_) ?_
 ·refine XS.ishl X25.here hx rfl (D d26_56) rfl ?_
  refine XS.ior X25.here hx rfl (D d26_57) rfl ?_
  refine XS.i2c X25.here hx rfl (D d26_58) rfl ?_
  exact kt
 refine ownRet X25 Bd.notSynchronized (v := some (.int (nar .char (((((oW cc) &&& (255 : Int32)) <<< ((0 : Int32) &&& 31)) ||| (((oH cc) &&& (255 : Int32)) <<< ((8 : Int32) &&& 31))).toUInt32.toUInt16.toUInt32.toInt32)))) (fun h => by rw [Bd.returns] at h; cases h) ?_ (oLe rfl) (oLe rfl) (fun fs hr => retN X25 hx (t := .char) Bd.returns (by simp) (D d26_59) hr)
 show (Q_getc Z ta kb z vs i cc k h0 n0) (some (.int (nar .char (((((oW cc) &&& (255 : Int32)) <<< ((0 : Int32) &&& 31)) ||| (((oH cc) &&& (255 : Int32)) <<< ((8 : Int32) &&& 31))).toUInt32.toUInt16.toUInt32.toInt32)))) T25.heap _
 rw [e25]
 refine ⟨?_, N0, rfl⟩
 rw [own_gc hc]
abbrev fr_nbf1 (m : MethodId)  (pc : Nat)  (st : List Value) : JFrame := mkF m pc #[vI 1] st
def Q_nbf1 (Z : State)  (h0 : Heap) (n0 : Nat) (v : Option Value) (h : Heap) (L : List Loc) : Prop := ∃ (ta : Addr) (kb : ClassId), v = some (.ref ta) ∧ Fr n0 L ∧ Keep h0 h [] ∧ h0.size ≤ ta ∧ Arv Z h ta kb .byte (2 : Int32) [(iV 0), (iV 0)] (iV 0)
theorem ef_nbf1 (m : MethodId) (x0 : Int32)  : entryFrame m #[(.int x0)] 1 = mkF m 0 #[vI x0] [] := by first | (simp [entryFrame, mkF, argsToLocals, Value.category]; done) | rfl
set_option maxRecDepth 65536 in
set_option maxHeartbeats 40000000 in
theorem c_nbf1 (l : Launch) (Z : State) (a0 : Array Value) (hw : HW a0 Z) (ws : List Jvm.Cond)  (h0 : Heap) (n0 : Nat) (Z0 : n0 ≤ h0.size) :
  MetFree l yM6 (head1 (Jvm.Cond.code yM6 jdk_52_method_2_code 1 (some (.array .byte)) :: ws) ({ frames := 1, cells := 1, slots := 2, locals := 12 } : Room)) (fun a U => a = #[(iV 1)] ∧ Z.Warmed39 U.vm ∧ U.heap = h0) (fun _ _ _ _ _ => True) (fun _ U o U' => ∃ v L, o = .returned v ∧ (Q_nbf1 Z  h0 n0) v U'.heap L ∧ FrameEnd U o U' L ({ frames := 1, cells := 1, slots := 2, locals := 12 } : Room).cells ({ frames := 1, cells := 1, slots := 2, locals := 12 } : Room).slots) := by
 refine MetFree.of_bodySF (plainFor_of_name pn_3) hisR ?_
 intro p e s m args below meth c s₁ Bd hml0 hP hK
 obtain ⟨rfl, hZ, hHp⟩ := hP
 have hx := Bd.exec
 have D := fun {pc : Nat} {r} (h : decode _ pc = r) => hb Bd.bytes h
 have hml : c.maxLocals = 1 := hml0
 have hown : s.vm.findClass "java/lang/StringUTF16" = some m.cls := findClass_of_methodNamed Bd.named
 have hnm := (name_of_methodNamed Bd.named Bd.method).1
 have X0 : Stand p l e ({ frames := 1, cells := 1, slots := 2, locals := 12 } : Room) s m #[(iV 1)] below meth c s₁ [] 0 0 := Stand.of_body Bd
 have e0 : s₁.heap = h0 := by rw [← hHp, Bd.state]; rfl
 have N0 := Fr.nil n0
 refine ownOut (P := (Q_nbf1 Z  h0 n0)) ?_
 refine ownBy (A := s₁.setTop (mkF m 0 #[vI 1] [])) (fun t k => castTop (ef_nbf1 m (1 : Int32)) k) ?_
 refine oTo s₁ (fr_nbf1 m  1  [(iV 1)]) (fun t kt => ?_) ?_
 ·refine XS.iloadN X0.here hx rfl (D d23_0) rfl ?_
  exact kt
 obtain ⟨vv21, _, ⟨T21, L21, k21, n21⟩, -, X21, ⟨Lc21, hQ21, l21, y21, z21⟩, st21⟩ := Jvm.LawKit.callS X0 hx (y := yM3) hown (mvT hZ (Wd137 hw)) (mvT hZ (Wd138 hw)) (mvT hZ (Wd74 hw)) (mvT hZ (Wd139 hw)) (by decide) (backOf (W := 0) (c_nbl l Z a0 hw [] (1 : Int32) (2 : Int32) h0 n0 Z0 (by decide) (by decide) (by decide +kernel)) hZ (Wd139 hw) (Wd74 hw) (by decide) (by decide)) (g := (fr_nbf1 m  1  [(iV 1)])) rfl (by rw [hml]; rfl) (argsL := [(iV 1)]) (rest := []) (lenOf pd_4 rfl) rfl (by show 2 * 0 + _ ≤ _; exact Nat.le_of_eq rfl) (D d23_1) (fun _ _ => ⟨rfl, e0, (by decide : 0 + 0 ≤ _), (by decide : 0 + 0 ≤ _)⟩)
 dsimp only [Pt.U, Pt.locs, Pt.cells, Pt.slots] at X21 l21 y21 z21 st21 hQ21
 subst l21 y21 z21
 obtain ⟨rfl, Nq21, Eq21⟩ := hQ21
 have N22 := Fr.app N0 Nq21
 obtain ⟨Lh23, Xh23, Nh23⟩ := oHd 0 0 X21 N22 rfl rfl
 refine ownBy st21 ?_
 clear st21
 show oA p e below _ T21 (fr_nbf1 m  4  [(iV 2)])
 obtain ⟨T24, h24, k24, X24, e24, E24, A24, st24⟩ := newP Xh23 hx hZ (aty := .byte) (Wd22 hw) Eq21 (g := (fr_nbf1 m  4  [(iV 2)])) rfl (D d23_4) rfl (by decide : ¬ ((2 : Int32) < (0 : Int32))) (cap := 2) (by decide) (by decide) (by decide) (by decide)
 obtain ⟨b24, g24⟩ : ∃ z, z = h0.size := ⟨_, rfl⟩
 rw [← g24] at A24 st24
 have g25 : n0 ≤ b24 := Nat.le_trans Z0 (Nat.le_of_eq g24.symm)
 have z26 : h0.size ≤ b24 := Nat.le_trans (Nat.le_refl h0.size) (Nat.le_of_eq g24.symm)
 have V27 : Arv Z h24 b24 k24 .byte (2 : Int32) [(iV 0), (iV 0)] (iV 0) := (Arv.new A24 (by decide)).pad (pad_rep [] (iV 0) 2)
 refine ownBy st24 ?_
 clear st24
 show oA p e below _ T24 (fr_nbf1 m  6  [(.ref b24)])
 have f28 := ((Keep.refl h0 []).ext E24)
 refine ownRet X24 Bd.notSynchronized (v := some (.ref b24)) (fun h => by rw [Bd.returns] at h; cases h) ?_ (oLe rfl) (oLe rfl) (fun fs hr => retOut X24 hx Bd.returns rfl (Or.inr (Or.inr (Or.inr (Or.inr ⟨rfl, rfl, rfl⟩)))) (D d23_6) hr)
 show (Q_nbf1 Z  h0 n0) (some (.ref b24)) T24.heap _
 rw [e24]
 exact ⟨b24, k24, rfl, Nh23, f28, z26, V27⟩
abbrev fr_tob1 (m : MethodId) (a2 : Addr) (pc : Nat) (x1_ x3_ x4_ : Slot) (st : List Value) : JFrame := mkF m pc #[vR a2, x1_, vI 1, x3_, x4_] st
def Q_tob1 (Z : State) (a2 : Addr) (kC : ClassId) (c0 : Int32) (h0 : Heap) (n0 : Nat) (v : Option Value) (h : Heap) (L : List Loc) : Prop := ∃ (ta : Addr) (kb : ClassId), v = some (.ref ta) ∧ Fr n0 L ∧ Keep h0 h [] ∧ h0.size ≤ ta ∧ Arv Z h ta kb .byte (2 : Int32) [(.int (oW c0)), (.int (oH c0))] (iV 0)
theorem ef_tob1 (m : MethodId) (x0 : Addr) (x1 : Int32) (x2 : Int32)  : entryFrame m #[(.ref x0), (.int x1), (.int x2)] 5 = mkF m 0 #[vR x0, vI x1, vI x2, .unset, .unset] [] := by first | (simp [entryFrame, mkF, argsToLocals, Value.category]; done) | rfl
set_option maxRecDepth 65536 in
set_option maxHeartbeats 40000000 in
theorem c_tob1 (l : Launch) (Z : State) (a0 : Array Value) (hw : HW a0 Z) (ws : List Jvm.Cond) (a2 : Addr) (kC : ClassId) (c0 : Int32) (h0 : Heap) (n0 : Nat) (Z0 : n0 ≤ h0.size) (A2 : Arv Z h0 a2 kC .char (1 : Int32) [(.int c0)] (iV 0)) (SA : Sta Z Z.heap "java/lang/StringUTF16" "$assertionsDisabled" "Z" (iV 1)) (SHI : Sta Z Z.heap "java/lang/StringUTF16" "HI_BYTE_SHIFT" "I" (iV 0)) (SLO : Sta Z Z.heap "java/lang/StringUTF16" "LO_BYTE_SHIFT" "I" (iV 8)) (X00 : Old Z n0 h0) :
  MetFree l yM7 (head1 (Jvm.Cond.code yM7 jdk_52_method_14_code 5 (some (.array .byte)) :: ws) ({ frames := 2, cells := 1, slots := 2, locals := 24 } : Room)) (fun a U => a = #[(.ref a2), (iV 0), (iV 1)] ∧ Z.Warmed39 U.vm ∧ U.heap = h0) (fun _ _ _ _ _ => True) (fun _ U o U' => ∃ v L, o = .returned v ∧ (Q_tob1 Z a2 kC c0 h0 n0) v U'.heap L ∧ FrameEnd U o U' L ({ frames := 2, cells := 1, slots := 2, locals := 24 } : Room).cells ({ frames := 2, cells := 1, slots := 2, locals := 24 } : Room).slots) := by
 refine MetFree.of_bodySF (plainFor_of_name pn_3) hisR ?_
 intro p e s m args below meth c s₁ Bd hml0 hP hK
 obtain ⟨rfl, hZ, hHp⟩ := hP
 have hx := Bd.exec
 have D := fun {pc : Nat} {r} (h : decode _ pc = r) => hb Bd.bytes h
 have hml : c.maxLocals = 5 := hml0
 have hown : s.vm.findClass "java/lang/StringUTF16" = some m.cls := findClass_of_methodNamed Bd.named
 have hnm := (name_of_methodNamed Bd.named Bd.method).1
 have X0 : Stand p l e ({ frames := 2, cells := 1, slots := 2, locals := 24 } : Room) s m #[(.ref a2), (iV 0), (iV 1)] below meth c s₁ [] 0 0 := Stand.of_body Bd
 have e0 : s₁.heap = h0 := by rw [← hHp, Bd.state]; rfl
 have N0 := Fr.nil n0
 refine ownOut (P := (Q_tob1 Z a2 kC c0 h0 n0)) ?_
 refine ownBy (A := s₁.setTop (mkF m 0 #[vR a2, vI 0, vI 1, .unset, .unset] [])) (fun t k => castTop (ef_tob1 m a2 (0 : Int32) (1 : Int32)) k) ?_
 refine oTo s₁ (fr_tob1 m a2 1 (vI 0) .unset .unset [(iV 1)]) (fun t kt => ?_) ?_
 ·refine XS.iloadN X0.here hx rfl (D d22_0) rfl ?_
  exact kt
 obtain ⟨vv21, _, ⟨T21, L21, k21, n21⟩, -, X21, ⟨Lc21, hQ21, l21, y21, z21⟩, st21⟩ := Jvm.LawKit.callS X0 hx (y := yM6) hown (mvT hZ (Wd134 hw)) (mvT hZ (Wd135 hw)) (mvT hZ (Wd74 hw)) (mvT hZ (Wd136 hw)) (by decide) (backOf (W := 0) (c_nbf1 l Z a0 hw []  h0 n0 Z0 ) hZ (Wd136 hw) (Wd74 hw) (by decide) (by decide)) (g := (fr_tob1 m a2 1 (vI 0) .unset .unset [(iV 1)])) rfl (by rw [hml]; rfl) (argsL := [(iV 1)]) (rest := []) (lenOf pd_5 rfl) rfl (by show 2 * 0 + _ ≤ _; exact Nat.le_of_eq rfl) (D d22_1) (fun _ _ => ⟨rfl, e0, (by decide : 0 + 1 ≤ _), (by decide : 0 + 2 ≤ _)⟩)
 dsimp only [Pt.U, Pt.locs, Pt.cells, Pt.slots] at X21 l21 y21 z21 st21 hQ21
 subst l21 y21 z21
 obtain ⟨t21, kb21, rfl, Nq21, Kq21, zq21, Aq21⟩ := hQ21
 have ne22 : a2 ≠ t21 := Nat.ne_of_lt (Nat.lt_of_lt_of_le A2.lt zq21)
 have g23 : n0 ≤ t21 := Nat.le_trans Z0 zq21
 have z24 : h0.size ≤ t21 := Nat.le_trans (Nat.le_refl h0.size) zq21
 have N25 := Fr.app N0 Nq21
 obtain ⟨Lh26, Xh26, Nh26⟩ := oHd 1 2 X21 N25 rfl rfl
 refine ownBy st21 ?_
 clear st21
 show oA p e below _ T21 (fr_tob1 m a2 4 (vI 0) .unset .unset [(.ref t21)])
 refine oTo T21 (fr_tob1 m a2 19 (vI 0) (vR t21) (vI 0) [(iV 0), (.ref a2), (iV 0), (.ref t21)]) (fun t kt => ?_) ?_
 ·refine XS.astoreN Xh26.here hx rfl (D d22_4) rfl rfl (l' := #[vR a2, vI 0, vI 1, vR t21, .unset]) rfl ?_
  refine XS.iconst Xh26.here hx rfl (D d22_5) ?_
  refine XS.istore Xh26.here hx rfl (D d22_6) rfl (l' := #[vR a2, vI 0, vI 1, vR t21, vI 0]) rfl ?_
  refine XS.iload Xh26.here hx rfl (D d22_8) rfl ?_
  show Steps p.tables e below (T21.setTop (fr_tob1 m a2 10 (vI 0) (vR t21) (vI 0) [(iV 0)])) t
  refine XS.iloadN Xh26.here hx rfl (D d22_10) rfl ?_
  refine XS.icmpNo Xh26.here hx rfl (D d22_11) rfl (tlt ((by decide) : (0 : Int32) < (1 : Int32))).2.1 ?_
  refine XS.aloadN Xh26.here hx rfl (D d22_14) rfl rfl ?_
  refine XS.iload Xh26.here hx rfl (D d22_15) rfl ?_
  show Steps p.tables e below (T21.setTop (fr_tob1 m a2 17 (vI 0) (vR t21) (vI 0) [(iV 0), (.ref t21)])) t
  refine XS.aloadN Xh26.here hx rfl (D d22_17) rfl rfl ?_
  refine XS.iloadN Xh26.here hx rfl (D d22_18) rfl ?_
  exact kt
 have f27 := (A2.keep Kq21 nin0)
 obtain ⟨cl28, Ar28, q28, S28, N28, H28, G28⟩ := id f27
 have hin28 : ¬ ((0 : Int32) < 0 ∨ cl28.slots.size ≤ ((0 : Int32)).toNatClampNeg) := inb_of S28 ⟨by decide, by decide⟩
 have hat28 : cl28.slots[((0 : Int32)).toNatClampNeg]? = some (.int c0) := H28.at hin28 rfl
 have st28 := Xh26.caload hx (j := (0 : Int32)) (v := (.int c0)) Ar28.1 (State.isArrayOf_alike hZ.alike Ar28.2.1) Ar28.2.2 hin28 hat28 (g := (fr_tob1 m a2 19 (vI 0) (vR t21) (vI 0) [(iV 0), (.ref a2), (iV 0), (.ref t21)])) rfl rfl (D d22_19)
 refine ownBy st28 ?_
 show oA p e below _ T21 (fr_tob1 m a2 20 (vI 0) (vR t21) (vI 0) [(.int c0), (iV 0), (.ref t21)])
 have f29 := (X00.keep Kq21 all0)
 have f30 := (Nat.le_trans Z0 Kq21.1)
 obtain ⟨vv31, _, ⟨T31, L31, k31, n31⟩, -, X31, ⟨Lc31, hQ31, l31, y31, z31⟩, st31⟩ := Jvm.LawKit.callS Xh26 hx (y := yM2) hown (mvT hZ (Wd141 hw)) (mvT hZ (Wd142 hw)) (mvT hZ (Wd74 hw)) (mvT hZ (Wd143 hw)) (by decide) (backOf (W := 0) (c_put l Z a0 hw [] t21 kb21 (2 : Int32) [(iV 0), (iV 0)] (0 : Int32) c0 0 T21.heap n0 f30 Aq21 g23 ⟨by decide +kernel, by decide +kernel⟩ ⟨by decide +kernel, by decide +kernel⟩ (by decide +kernel) (by decide +kernel) (oLe rfl) SA SHI SLO f29) hZ (Wd143 hw) (Wd74 hw) (by decide) (by decide)) (g := (fr_tob1 m a2 20 (vI 0) (vR t21) (vI 0) [(.int c0), (iV 0), (.ref t21)])) rfl (by rw [hml]; rfl) (argsL := [(.ref t21), (iV 0), (.int c0)]) (rest := []) (lenOf pd_6 rfl) rfl (by show 2 * 0 + _ ≤ _; exact Nat.le_of_eq rfl) (D d22_20) (fun _ _ => ⟨rfl, rfl, (by decide : 1 + 0 ≤ _), (by decide : 2 + 0 ≤ _)⟩)
 dsimp only [Pt.U, Pt.locs, Pt.cells, Pt.slots] at X31 l31 y31 z31 st31 hQ31
 subst l31 y31 z31
 obtain ⟨rfl, Nq31, Kq31, Ap31⟩ := hQ31
 have Aq31 : Arv Z T31.heap t21 kb21 .byte (2 : Int32) [(.int (oW c0)), (.int (oH c0))] (iV 0) := Ap31
 have N32 := Fr.app Nh26 Nq31
 obtain ⟨Lh33, Xh33, Nh33⟩ := oHd 1 2 X31 N32 rfl rfl
 refine ownBy st31 ?_
 clear st31
 show oA p e below _ T31 (fr_tob1 m a2 23 (vI 0) (vR t21) (vI 0) [])
 refine oTo T31 (fr_tob1 m a2 33 (vI 1) (vR t21) (vI 1) [(.ref t21)]) (fun t kt => ?_) ?_
 ·refine XS.iinc Xh33.here hx rfl (D d22_23) rfl (l' := #[vR a2, vI 1, vI 1, vR t21, vI 0]) rfl ?_
  refine XS.iinc Xh33.here hx rfl (D d22_26) rfl (l' := #[vR a2, vI 1, vI 1, vR t21, vI 1]) rfl ?_
  refine XS.goto Xh33.here hx rfl (pc0 := 29) (pc' := 8) rfl (D d22_29) (by decide) (by decide) ?_
  refine XS.iload Xh33.here hx rfl (D d22_8) rfl ?_
  show Steps p.tables e below (T31.setTop (fr_tob1 m a2 10 (vI 1) (vR t21) (vI 1) [(iV 1)])) t
  refine XS.iloadN Xh33.here hx rfl (D d22_10) rfl ?_
  refine XS.icmpYes Xh33.here hx rfl (pc0 := 11) (pc' := 32) rfl (D d22_11) rfl (flt ((by decide) : ¬ ((1 : Int32) < (1 : Int32)))).2.1 (by decide) (by decide) ?_
  refine XS.aloadN Xh33.here hx rfl (D d22_32) rfl rfl ?_
  exact kt
 have f34 := (((Keep.refl h0 []).trans Kq21 all0).trans Kq31 (allS (Or.inr z24) all0))
 refine ownRet Xh33 Bd.notSynchronized (v := some (.ref t21)) (fun h => by rw [Bd.returns] at h; cases h) ?_ (oLe rfl) (oLe rfl) (fun fs hr => retOut Xh33 hx Bd.returns rfl (Or.inr (Or.inr (Or.inr (Or.inr ⟨rfl, rfl, rfl⟩)))) (D d22_33) hr)
 show (Q_tob1 Z a2 kC c0 h0 n0) (some (.ref t21)) T31.heap _
 exact ⟨t21, kb21, rfl, Nh33, f34, z24, Aq31⟩
abbrev fr_cp5_1 (m : MethodId) (a2 : Addr) (ta : Addr) (pc : Nat) (x1_ x3_ x5_ x6_ : Slot) (st : List Value) : JFrame := mkF m pc #[vR a2, x1_, vR ta, x3_, vI 1, x5_, x6_] st
def Q_cp5_1 (Z : State) (a2 : Addr) (kC : ClassId) (ta : Addr) (kb : ClassId) (c0 : Int32) (h0 : Heap) (n0 : Nat) (v : Option Value) (h : Heap) (L : List Loc) : Prop := ∃ r : Int32, v = some (.int r) ∧ Fr n0 L ∧ Keep h0 h [ta] ∧ ((r = (1 : Int32) ∧ ¬ ((255 : Int32) < c0) ∧ Arv Z h ta kb .byte (1 : Int32) [(.int (oL c0))] (iV 0)) ∨ (r = (0 : Int32) ∧ (255 : Int32) < c0))
theorem ef_cp5_1 (m : MethodId) (x0 : Addr) (x1 : Int32) (x2 : Addr) (x3 : Int32) (x4 : Int32)  : entryFrame m #[(.ref x0), (.int x1), (.ref x2), (.int x3), (.int x4)] 7 = mkF m 0 #[vR x0, vI x1, vR x2, vI x3, vI x4, .unset, .unset] [] := by first | (simp [entryFrame, mkF, argsToLocals, Value.category]; done) | rfl
set_option maxRecDepth 65536 in
set_option maxHeartbeats 40000000 in
theorem c_cp5_1 (l : Launch) (Z : State) (a0 : Array Value) (hw : HW a0 Z) (ws : List Jvm.Cond) (a2 : Addr) (kC : ClassId) (ta : Addr) (kb : ClassId) (c0 : Int32) (h0 : Heap) (n0 : Nat) (Z0 : n0 ≤ h0.size) (A2 : Arv Z h0 a2 kC .char (1 : Int32) [(.int c0)] (iV 0)) (At : Arv Z h0 ta kb .byte (1 : Int32) [(iV 0)] (iV 0)) (gt : n0 ≤ ta) (ne1 : a2 ≠ ta) :
  MetFree l yM8 (head1 (Jvm.Cond.code yM8 jdk_52_method_21_code 7 (some .int) :: ws) ({ frames := 0, cells := 0, slots := 0, locals := 0 } : Room)) (fun a U => a = #[(.ref a2), (iV 0), (.ref ta), (iV 0), (iV 1)] ∧ Z.Warmed39 U.vm ∧ U.heap = h0) (fun _ _ _ _ _ => True) (fun _ U o U' => ∃ v L, o = .returned v ∧ (Q_cp5_1 Z a2 kC ta kb c0 h0 n0) v U'.heap L ∧ FrameEnd U o U' L ({ frames := 0, cells := 0, slots := 0, locals := 0 } : Room).cells ({ frames := 0, cells := 0, slots := 0, locals := 0 } : Room).slots) := by
 refine MetFree.of_bodySF (plainFor_of_name pn_3) hisR ?_
 intro p e s m args below meth c s₁ Bd hml0 hP hK
 obtain ⟨rfl, hZ, hHp⟩ := hP
 have hx := Bd.exec
 have D := fun {pc : Nat} {r} (h : decode _ pc = r) => hb Bd.bytes h
 have hml : c.maxLocals = 7 := hml0
 have hown : s.vm.findClass "java/lang/StringUTF16" = some m.cls := findClass_of_methodNamed Bd.named
 have hnm := (name_of_methodNamed Bd.named Bd.method).1
 have X0 : Stand p l e ({ frames := 0, cells := 0, slots := 0, locals := 0 } : Room) s m #[(.ref a2), (iV 0), (.ref ta), (iV 0), (iV 1)] below meth c s₁ [] 0 0 := Stand.of_body Bd
 have e0 : s₁.heap = h0 := by rw [← hHp, Bd.state]; rfl
 have N0 := Fr.nil n0
 refine ownOut (P := (Q_cp5_1 Z a2 kC ta kb c0 h0 n0)) ?_
 refine ownBy (A := s₁.setTop (mkF m 0 #[vR a2, vI 0, vR ta, vI 0, vI 1, .unset, .unset] [])) (fun t k => castTop (ef_cp5_1 m a2 (0 : Int32) ta (0 : Int32) (1 : Int32)) k) ?_
 refine oTo s₁ (fr_cp5_1 m a2 ta 12 (vI 0) (vI 0) (vI 0) .unset [(iV 0), (.ref a2)]) (fun t kt => ?_) ?_
 ·refine XS.iconst X0.here hx rfl (D d12_0) ?_
  refine XS.istore X0.here hx rfl (D d12_1) rfl (l' := #[vR a2, vI 0, vR ta, vI 0, vI 1, vI 0, .unset]) rfl ?_
  refine XS.iload X0.here hx rfl (D d12_3) rfl ?_
  refine XS.iload X0.here hx rfl (D d12_5) rfl ?_
  show Steps p.tables e below (s₁.setTop (fr_cp5_1 m a2 ta 7 (vI 0) (vI 0) (vI 0) .unset [(iV 1), (iV 0)])) t
  refine XS.icmpNo X0.here hx rfl (D d12_7) rfl (tlt ((by decide) : (0 : Int32) < (1 : Int32))).2.1 ?_
  refine XS.aloadN X0.here hx rfl (D d12_10) rfl rfl ?_
  refine XS.iloadN X0.here hx rfl (D d12_11) rfl ?_
  exact kt
 obtain ⟨cl21, Ar21, q21, S21, N21, H21, G21⟩ := id A2
 have hin21 : ¬ ((0 : Int32) < 0 ∨ cl21.slots.size ≤ ((0 : Int32)).toNatClampNeg) := inb_of S21 ⟨by decide, by decide⟩
 have hat21 : cl21.slots[((0 : Int32)).toNatClampNeg]? = some (.int c0) := H21.at hin21 rfl
 have st21 := X0.caload hx (j := (0 : Int32)) (v := (.int c0)) (by rw [e0]; exact Ar21.1) (State.isArrayOf_alike hZ.alike Ar21.2.1) Ar21.2.2 hin21 hat21 (g := (fr_cp5_1 m a2 ta 12 (vI 0) (vI 0) (vI 0) .unset [(iV 0), (.ref a2)])) rfl rfl (D d12_12)
 refine ownBy st21 ?_
 show oA p e below _ s₁ (fr_cp5_1 m a2 ta 13 (vI 0) (vI 0) (vI 0) .unset [(.int c0)])
 refine oTo s₁ (fr_cp5_1 m a2 ta 20 (vI 0) (vI 0) (vI 0) (vI c0) [(iV 255), (.int c0)]) (fun t kt => ?_) ?_
 ·refine XS.istore X0.here hx rfl (D d12_13) rfl (l' := #[vR a2, vI 0, vR ta, vI 0, vI 1, vI 0, vI c0]) rfl ?_
  refine XS.iload X0.here hx rfl (D d12_15) rfl ?_
  refine XS.sipush X0.here hx rfl (D d12_17) ?_
  exact kt
 by_cases hc22 : (255 : Int32) < c0
 ·skip
  refine oTo s₁ (fr_cp5_1 m a2 ta 25 (vI 0) (vI 0) (vI 0) (vI c0) [(iV 0)]) (fun t kt => ?_) ?_
  ·refine XS.icmpNo X0.here hx rfl (D d12_20) rfl (tlt hc22).2.2.2 ?_
   refine XS.iload X0.here hx rfl (D d12_23) rfl ?_
   exact kt
  refine ownRet X0 Bd.notSynchronized (v := some (iV 0)) (fun h => by rw [Bd.returns] at h; cases h) ?_ (oLe rfl) (oLe rfl) (fun fs hr => retI X0 hx Bd.returns (D d12_25) hr)
  show (Q_cp5_1 Z a2 kC ta kb c0 h0 n0) (some (iV 0)) s₁.heap _
  rw [e0]
  exact ⟨_, rfl, N0, (Keep.refl h0 [ta]), Or.inr (⟨rfl, hc22⟩)⟩
 ·skip
  refine oTo s₁ (fr_cp5_1 m a2 ta 31 (vI 0) (vI 0) (vI 0) (vI c0) [(.int (c0.toInt8.toInt32)), (iV 0), (.ref ta)]) (fun t kt => ?_) ?_
  ·refine XS.icmpYes X0.here hx rfl (pc0 := 20) (pc' := 26) rfl (D d12_20) rfl (flt hc22).2.2.2 (by decide) (by decide) ?_
   refine XS.aloadN X0.here hx rfl (D d12_26) rfl rfl ?_
   refine XS.iloadN X0.here hx rfl (D d12_27) rfl ?_
   refine XS.iload X0.here hx rfl (D d12_28) rfl ?_
   show Steps p.tables e below (s₁.setTop (fr_cp5_1 m a2 ta 30 (vI 0) (vI 0) (vI 0) (vI c0) [(.int c0), (iV 0), (.ref ta)])) t
   refine XS.i2b X0.here hx rfl (D d12_30) rfl ?_
   exact kt
  obtain ⟨cl23, Ar23, q23, S23, N23, H23, G23⟩ := id At
  have hin23 : ¬ ((0 : Int32) < 0 ∨ cl23.slots.size ≤ ((0 : Int32)).toNatClampNeg) := inb_of S23 ⟨by decide, by decide⟩
  obtain ⟨T23, h23, X23, e23, W23, st23⟩ := stB X0 hx hZ e0 Ar23 (j := (0 : Int32)) hin23 (g := (fr_cp5_1 m a2 ta 31 (vI 0) (vI 0) (vI 0) (vI c0) [(.int (c0.toInt8.toInt32)), (iV 0), (.ref ta)])) rfl rfl (D d12_31)
  have V24 : Arv Z h23 ta kb .byte (1 : Int32) [(.int (nar .byte (c0.toInt8.toInt32)))] (iV 0) := Arv.set Ar23 q23 S23 N23 H23 G23 (fits_nar_byte _) W23 0 rfl (oLe rfl)
  rw [own_nar_byte c0] at V24
  clear hin23 G23 H23 N23 S23 q23 Ar23 cl23
  have N25 := Fr.snoc X23 N0 gt
  obtain ⟨Lh26, Xh26, Nh26⟩ := oHd 0 0 X23 N25 rfl rfl
  refine ownBy st23 ?_
  clear st23
  show oA p e below _ T23 (fr_cp5_1 m a2 ta 32 (vI 0) (vI 0) (vI 0) (vI c0) [])
  refine oTo T23 (fr_cp5_1 m a2 ta 46 (vI 1) (vI 1) (vI 1) (vI c0) [(iV 1)]) (fun t kt => ?_) ?_
  ·refine XS.iinc Xh26.here hx rfl (D d12_32) rfl (l' := #[vR a2, vI 1, vR ta, vI 0, vI 1, vI 0, vI c0]) rfl ?_
   refine XS.iinc Xh26.here hx rfl (D d12_35) rfl (l' := #[vR a2, vI 1, vR ta, vI 1, vI 1, vI 0, vI c0]) rfl ?_
   refine XS.iinc Xh26.here hx rfl (D d12_38) rfl (l' := #[vR a2, vI 1, vR ta, vI 1, vI 1, vI 1, vI c0]) rfl ?_
   refine XS.goto Xh26.here hx rfl (pc0 := 41) (pc' := 3) rfl (D d12_41) (by decide) (by decide) ?_
   show Steps p.tables e below (T23.setTop (fr_cp5_1 m a2 ta 3 (vI 1) (vI 1) (vI 1) (vI c0) [])) t
   refine XS.iload Xh26.here hx rfl (D d12_3) rfl ?_
   refine XS.iload Xh26.here hx rfl (D d12_5) rfl ?_
   refine XS.icmpYes Xh26.here hx rfl (pc0 := 7) (pc' := 44) rfl (D d12_7) rfl (flt ((by decide) : ¬ ((1 : Int32) < (1 : Int32)))).2.1 (by decide) (by decide) ?_
   refine XS.iload Xh26.here hx rfl (D d12_44) rfl ?_
   exact kt
  have f27 := ((Keep.refl h0 [ta]).wr W23 (Or.inl (List.mem_of_getElem? (i := 0) rfl)))
  refine ownRet Xh26 Bd.notSynchronized (v := some (iV 1)) (fun h => by rw [Bd.returns] at h; cases h) ?_ (oLe rfl) (oLe rfl) (fun fs hr => retI Xh26 hx Bd.returns (D d12_46) hr)
  show (Q_cp5_1 Z a2 kC ta kb c0 h0 n0) (some (iV 1)) T23.heap _
  rw [e23]
  exact ⟨_, rfl, Nh26, f27, Or.inl ⟨rfl, hc22, V24⟩⟩
abbrev fr_cp3_1 (m : MethodId) (a2 : Addr) (pc : Nat) (x3_ x4_ x5_ : Slot) (st : List Value) : JFrame := mkF m pc #[vR a2, vI 0, vI 1, x3_, x4_, x5_] st
def Q_cp3_1 (Z : State) (a2 : Addr) (kC : ClassId) (c0 : Int32) (h0 : Heap) (n0 : Nat) (v : Option Value) (h : Heap) (L : List Loc) : Prop := ∃ (ta : Addr) (kb : ClassId), v = some (.ref ta) ∧ Fr n0 L ∧ Keep h0 h [] ∧ h0.size ≤ ta ∧ ((¬ ((255 : Int32) < c0) ∧ Arv Z h ta kb .byte (1 : Int32) [(.int (oL c0))] (iV 0)) ∨ (((255 : Int32) < c0) ∧ Arv Z h ta kb .byte (2 : Int32) [(.int (oW c0)), (.int (oH c0))] (iV 0)))
theorem ef_cp3_1 (m : MethodId) (x0 : Addr) (x1 : Int32) (x2 : Int32)  : entryFrame m #[(.ref x0), (.int x1), (.int x2)] 6 = mkF m 0 #[vR x0, vI x1, vI x2, .unset, .unset, .unset] [] := by first | (simp [entryFrame, mkF, argsToLocals, Value.category]; done) | rfl
set_option maxRecDepth 65536 in
set_option maxHeartbeats 40000000 in
theorem c_cp3_1 (l : Launch) (Z : State) (a0 : Array Value) (hw : HW a0 Z) (ws : List Jvm.Cond) (a2 : Addr) (kC : ClassId) (c0 : Int32) (h0 : Heap) (n0 : Nat) (Z0 : n0 ≤ h0.size) (A2 : Arv Z h0 a2 kC .char (1 : Int32) [(.int c0)] (iV 0)) (hc0 : ¬ c0 < 0 ∧ ¬ (65535 : Int32) < c0) (SA : Sta Z Z.heap "java/lang/StringUTF16" "$assertionsDisabled" "Z" (iV 1)) (SHI : Sta Z Z.heap "java/lang/StringUTF16" "HI_BYTE_SHIFT" "I" (iV 0)) (SLO : Sta Z Z.heap "java/lang/StringUTF16" "LO_BYTE_SHIFT" "I" (iV 8)) (X00 : Old Z n0 h0) :
  MetFree l yM9 (head1 (Jvm.Cond.code yM9 jdk_52_method_16_code 6 (some (.array .byte)) :: ws) ({ frames := 3, cells := 2, slots := 3, locals := 40 } : Room)) (fun a U => a = #[(.ref a2), (iV 0), (iV 1)] ∧ Z.Warmed39 U.vm ∧ U.heap = h0) (fun _ _ _ _ _ => True) (fun _ U o U' => ∃ v L, o = .returned v ∧ (Q_cp3_1 Z a2 kC c0 h0 n0) v U'.heap L ∧ FrameEnd U o U' L ({ frames := 3, cells := 2, slots := 3, locals := 40 } : Room).cells ({ frames := 3, cells := 2, slots := 3, locals := 40 } : Room).slots) := by
 refine MetFree.of_bodySF (plainFor_of_name pn_3) hisR ?_
 intro p e s m args below meth c s₁ Bd hml0 hP hK
 obtain ⟨rfl, hZ, hHp⟩ := hP
 have hx := Bd.exec
 have D := fun {pc : Nat} {r} (h : decode _ pc = r) => hb Bd.bytes h
 have hml : c.maxLocals = 6 := hml0
 have hown : s.vm.findClass "java/lang/StringUTF16" = some m.cls := findClass_of_methodNamed Bd.named
 have hnm := (name_of_methodNamed Bd.named Bd.method).1
 have X0 : Stand p l e ({ frames := 3, cells := 2, slots := 3, locals := 40 } : Room) s m #[(.ref a2), (iV 0), (iV 1)] below meth c s₁ [] 0 0 := Stand.of_body Bd
 have e0 : s₁.heap = h0 := by rw [← hHp, Bd.state]; rfl
 have N0 := Fr.nil n0
 refine ownOut (P := (Q_cp3_1 Z a2 kC c0 h0 n0)) ?_
 refine ownBy (A := s₁.setTop (mkF m 0 #[vR a2, vI 0, vI 1, .unset, .unset, .unset] [])) (fun t k => castTop (ef_cp3_1 m a2 (0 : Int32) (1 : Int32)) k) ?_
 refine oTo s₁ (fr_cp3_1 m a2 1 .unset .unset .unset [(iV 1)]) (fun t kt => ?_) ?_
 ·refine XS.iloadN X0.here hx rfl (D d11_0) rfl ?_
  exact kt
 obtain ⟨T21, h21, k21, X21, e21, E21, A21, st21⟩ := newP X0 hx hZ (aty := .byte) (Wd22 hw) e0 (g := (fr_cp3_1 m a2 1 .unset .unset .unset [(iV 1)])) rfl (D d11_1) rfl (by decide : ¬ ((1 : Int32) < (0 : Int32))) (cap := 1) (by decide) (by decide) (by decide) (by decide)
 obtain ⟨b21, g21⟩ : ∃ z, z = h0.size := ⟨_, rfl⟩
 rw [← g21] at A21 st21
 have ne22 : a2 ≠ b21 := Nat.ne_of_lt (Nat.lt_of_lt_of_le A2.lt (Nat.le_of_eq g21.symm))
 have g23 : n0 ≤ b21 := Nat.le_trans Z0 (Nat.le_of_eq g21.symm)
 have z24 : h0.size ≤ b21 := Nat.le_trans (Nat.le_refl h0.size) (Nat.le_of_eq g21.symm)
 have V25 : Arv Z h21 b21 k21 .byte (1 : Int32) [(iV 0)] (iV 0) := (Arv.new A21 (by decide)).pad (pad_rep [] (iV 0) 1)
 refine ownBy st21 ?_
 clear st21
 show oA p e below _ T21 (fr_cp3_1 m a2 3 .unset .unset .unset [(.ref b21)])
 refine oTo T21 (fr_cp3_1 m a2 9 (vR b21) .unset .unset [(iV 1), (iV 0), (.ref b21), (iV 0), (.ref a2)]) (fun t kt => ?_) ?_
 ·refine XS.astoreN X21.here hx rfl (D d11_3) rfl rfl (l' := #[vR a2, vI 0, vI 1, vR b21, .unset, .unset]) rfl ?_
  refine XS.aloadN X21.here hx rfl (D d11_4) rfl rfl ?_
  refine XS.iloadN X21.here hx rfl (D d11_5) rfl ?_
  refine XS.aloadN X21.here hx rfl (D d11_6) rfl rfl ?_
  show Steps p.tables e below (T21.setTop (fr_cp3_1 m a2 7 (vR b21) .unset .unset [(.ref b21), (iV 0), (.ref a2)])) t
  refine XS.iconst X21.here hx rfl (D d11_7) ?_
  refine XS.iloadN X21.here hx rfl (D d11_8) rfl ?_
  exact kt
 have f26 := (A2.ext E21)
 have f27 := (Nat.le_trans Z0 E21.1)
 obtain ⟨vv28, _, ⟨T28, L28, k28, n28⟩, -, X28, ⟨Lc28, hQ28, l28, y28, z28⟩, st28⟩ := Jvm.LawKit.callS X21 hx (y := yM8) hown (mvT hZ (Wd76 hw)) (mvT hZ (Wd77 hw)) (mvT hZ (Wd74 hw)) (mvT hZ (Wd78 hw)) (by decide) (backOf (W := 0) (c_cp5_1 l Z a0 hw [] a2 kC b21 k21 c0 h21 n0 f27 f26 V25 g23 ne22) hZ (Wd78 hw) (Wd74 hw) (by decide) (by decide)) (g := (fr_cp3_1 m a2 9 (vR b21) .unset .unset [(iV 1), (iV 0), (.ref b21), (iV 0), (.ref a2)])) rfl (by rw [hml]; rfl) (argsL := [(.ref a2), (iV 0), (.ref b21), (iV 0), (iV 1)]) (rest := []) (lenOf pd_7 rfl) rfl (by show 2 * 0 + _ ≤ _; exact Nat.le_of_eq rfl) (D d11_9) (fun _ _ => ⟨rfl, e21, (by decide : 1 + 0 ≤ _), (by decide : 1 + 0 ≤ _)⟩)
 dsimp only [Pt.U, Pt.locs, Pt.cells, Pt.slots] at X28 l28 y28 z28 st28 hQ28
 subst l28 y28 z28
 obtain ⟨r28, rfl, Nq28, Kq28, hB28⟩ := hQ28
 rcases hB28 with ⟨rfl, hn28_0, Aq28⟩ | hF
 ·skip
  have N29 := Fr.app N0 Nq28
  obtain ⟨Lh30, Xh30, Nh30⟩ := oHd 1 1 X28 N29 rfl rfl
  refine ownBy st28 ?_
  clear st28
  show oA p e below _ T28 (fr_cp3_1 m a2 12 (vR b21) .unset .unset [(iV 1)])
  refine oTo T28 (fr_cp3_1 m a2 58 (vR b21) (vI 1) .unset [(.ref b21)]) (fun t kt => ?_) ?_
  ·refine XS.istore Xh30.here hx rfl (D d11_12) rfl (l' := #[vR a2, vI 0, vI 1, vR b21, vI 1, .unset]) rfl ?_
   refine XS.iload Xh30.here hx rfl (D d11_14) rfl ?_
   refine XS.iloadN Xh30.here hx rfl (D d11_16) rfl ?_
   refine XS.icmpYes Xh30.here hx rfl (pc0 := 17) (pc' := 57) rfl (D d11_17) rfl (teq ((by decide) : (1 : Int32) = (1 : Int32))).1 (by decide) (by decide) ?_
   show Steps p.tables e below (T28.setTop (fr_cp3_1 m a2 57 (vR b21) (vI 1) .unset [])) t
   refine XS.aloadN Xh30.here hx rfl (D d11_57) rfl rfl ?_
   exact kt
  have f31 := (((Keep.refl h0 []).ext E21).trans Kq28 (allS (Or.inr z24) all0))
  refine ownRet Xh30 Bd.notSynchronized (v := some (.ref b21)) (fun h => by rw [Bd.returns] at h; cases h) ?_ (oLe rfl) (oLe rfl) (fun fs hr => retOut Xh30 hx Bd.returns rfl (Or.inr (Or.inr (Or.inr (Or.inr ⟨rfl, rfl, rfl⟩)))) (D d11_58) hr)
  show (Q_cp3_1 Z a2 kC c0 h0 n0) (some (.ref b21)) T28.heap _
  exact ⟨b21, k21, rfl, Nh30, f31, z24, Or.inl ⟨hn28_0, Aq28⟩⟩
 ·skip
  have N32 := Fr.app N0 Nq28
  obtain ⟨Lh33, Xh33, Nh33⟩ := oHd 1 1 X28 N32 rfl rfl
  refine ownBy st28 ?_
  clear st28
  show oA p e below _ T28 (fr_cp3_1 m a2 12 (vR b21) .unset .unset [(.int r28)])
  have hr : ¬ (r28 = (1 : Int32)) := by
   rcases hF with ⟨rfl, -⟩
   decide
  refine oTo T28 (fr_cp3_1 m a2 23 (vR b21) (vI r28) .unset [(iV 1), (iV 0), (.ref a2)]) (fun t kt => ?_) ?_
  ·refine XS.istore Xh33.here hx rfl (D d11_12) rfl (l' := #[vR a2, vI 0, vI 1, vR b21, vI r28, .unset]) rfl ?_
   refine XS.iload Xh33.here hx rfl (D d11_14) rfl ?_
   refine XS.iloadN Xh33.here hx rfl (D d11_16) rfl ?_
   refine XS.icmpNo Xh33.here hx rfl (D d11_17) rfl (feq hr).1 ?_
   show Steps p.tables e below (T28.setTop (fr_cp3_1 m a2 20 (vR b21) (vI r28) .unset [])) t
   refine XS.aloadN Xh33.here hx rfl (D d11_20) rfl rfl ?_
   refine XS.iloadN Xh33.here hx rfl (D d11_21) rfl ?_
   refine XS.iloadN Xh33.here hx rfl (D d11_22) rfl ?_
   exact kt
  have f34 := (f26.keep Kq28 (ninS ne22 nin0))
  have f35 := ((X00.ext E21).keep Kq28 (allS g23 all0))
  have f36 := (Nat.le_trans f27 Kq28.1)
  obtain ⟨vv37, _, ⟨T37, L37, k37, n37⟩, -, X37, ⟨Lc37, hQ37, l37, y37, z37⟩, st37⟩ := Jvm.LawKit.callS Xh33 hx (y := yM7) hown (mvT hZ (Wd131 hw)) (mvT hZ (Wd132 hw)) (mvT hZ (Wd74 hw)) (mvT hZ (Wd133 hw)) (by decide) (backOf (W := 0) (c_tob1 l Z a0 hw [] a2 kC c0 T28.heap n0 f36 f34 SA SHI SLO f35) hZ (Wd133 hw) (Wd74 hw) (by decide) (by decide)) (g := (fr_cp3_1 m a2 23 (vR b21) (vI r28) .unset [(iV 1), (iV 0), (.ref a2)])) rfl (by rw [hml]; rfl) (argsL := [(.ref a2), (iV 0), (iV 1)]) (rest := []) (lenOf pd_8 rfl) rfl (by show 2 * 0 + _ ≤ _; exact Nat.le_of_eq rfl) (D d11_23) (fun _ _ => ⟨rfl, rfl, (by decide : 1 + 1 ≤ _), (by decide : 1 + 2 ≤ _)⟩)
  dsimp only [Pt.U, Pt.locs, Pt.cells, Pt.slots] at X37 l37 y37 z37 st37 hQ37
  subst l37 y37 z37
  obtain ⟨t37, kb37, rfl, Nq37, Kq37, zq37, Aq37⟩ := hQ37
  have ne38 : a2 ≠ t37 := Nat.ne_of_lt (Nat.lt_of_lt_of_le f34.lt zq37)
  have g39 : n0 ≤ t37 := Nat.le_trans f36 zq37
  have f41 := (Nat.le_trans (Nat.le_trans (Nat.le_refl h0.size) E21.1) Kq28.1)
  have z40 : h0.size ≤ t37 := Nat.le_trans f41 zq37
  have N42 := Fr.app Nh33 Nq37
  obtain ⟨Lh43, Xh43, Nh43⟩ := oHd 2 3 X37 N42 rfl rfl
  refine ownBy st37 ?_
  clear st37
  show oA p e below _ T37 (fr_cp3_1 m a2 26 (vR b21) (vI r28) .unset [(.ref t37)])
  refine oTo T37 (fr_cp3_1 m a2 32 (vR b21) (vI r28) (vR t37) [(.int r28), (.ref t37)]) (fun t kt => ?_) ?_
  ·refine XS.astore Xh43.here hx rfl (D d11_26) rfl rfl (l' := #[vR a2, vI 0, vI 1, vR b21, vI r28, vR t37]) rfl ?_
   refine XS.aload Xh43.here hx rfl (D d11_28) rfl rfl ?_
   refine XS.iload Xh43.here hx rfl (D d11_30) rfl ?_
   exact kt
  obtain ⟨cM, kM, q0, q1, k0, k1, u0, u1, hcM, hgM⟩ : ∃ (cM : Int32) (kM : Nat), (¬ (r28 <<< ((1 : Int32) &&& 31)) < 0 ∧ (r28 <<< ((1 : Int32) &&& 31)) < (2 : Int32)) ∧ (¬ ((r28 <<< ((1 : Int32) &&& 31)) + (1 : Int32)) < 0 ∧ ((r28 <<< ((1 : Int32) &&& 31)) + (1 : Int32)) < (2 : Int32)) ∧ (r28 <<< ((1 : Int32) &&& 31)).toNatClampNeg = kM ∧ ((r28 <<< ((1 : Int32) &&& 31)) + (1 : Int32)).toNatClampNeg = kM + 1 ∧ ([(.int (oW c0)), (.int (oH c0))] : List Value).getD kM (iV 0) = .int (oW cM) ∧ ([(.int (oW c0)), (.int (oH c0))] : List Value).getD (kM + 1) (iV 0) = .int (oH cM) ∧ (¬ cM < 0 ∧ ¬ (65535 : Int32) < cM) ∧ (255 : Int32) < cM := by
   rcases hF with ⟨rfl, h⟩
   ·exact ⟨c0, 0, by decide +kernel, by decide +kernel, by decide +kernel, by decide +kernel, rfl, rfl, hc0, h⟩
  have f44 := (f35.keep Kq37 all0)
  have f45 := (Nat.le_trans f36 Kq37.1)
  obtain ⟨vv46, _, ⟨T46, L46, k46, n46⟩, -, X46, ⟨Lc46, hQ46, l46, y46, z46⟩, st46⟩ := Jvm.LawKit.callS Xh43 hx (y := yM5) hown (mvT hZ (Wd147 hw)) (mvT hZ (Wd148 hw)) (mvT hZ (Wd74 hw)) (mvT hZ (Wd149 hw)) (by decide) (backOf (W := 0) (c_getc l Z a0 hw [] t37 kb37 (2 : Int32) [(.int (oW c0)), (.int (oH c0))] r28 cM kM T37.heap n0 f45 Aq37 q0 q1 k0 k1 u0 u1 hcM SA SHI SLO f44) hZ (Wd149 hw) (Wd74 hw) (by decide) (by decide)) (g := (fr_cp3_1 m a2 32 (vR b21) (vI r28) (vR t37) [(.int r28), (.ref t37)])) rfl (by rw [hml]; rfl) (argsL := [(.ref t37), (.int r28)]) (rest := []) (lenOf pd_9 rfl) rfl (by show 2 * 0 + _ ≤ _; exact Nat.le_of_eq rfl) (D d11_32) (fun _ _ => ⟨rfl, rfl, (by decide : 2 + 0 ≤ _), (by decide : 3 + 0 ≤ _)⟩)
  dsimp only [Pt.U, Pt.locs, Pt.cells, Pt.slots] at X46 l46 y46 z46 st46 hQ46
  subst l46 y46 z46
  obtain ⟨rfl, Nq46, Eq46⟩ := hQ46
  have N47 := Fr.app Nh43 Nq46
  obtain ⟨Lh48, Xh48, Nh48⟩ := oHd 2 3 X46 N47 rfl rfl
  refine ownBy st46 ?_
  clear st46
  show oA p e below _ T46 (fr_cp3_1 m a2 35 (vR b21) (vI r28) (vR t37) [(.int cM)])
  refine oTo T46 (fr_cp3_1 m a2 56 (vR b21) (vI r28) (vR t37) [(.ref t37)]) (fun t kt => ?_) ?_
  ·refine XS.sipush Xh48.here hx rfl (D d11_35) ?_
   refine XS.icmpYes Xh48.here hx rfl (pc0 := 38) (pc' := 54) rfl (D d11_38) rfl (tlt hgM).2.2.1 (by decide) (by decide) ?_
   refine XS.aload Xh48.here hx rfl (D d11_54) rfl rfl ?_
   exact kt
  have hg3 : (255 : Int32) < c0 := by
   rcases hF with ⟨-, h⟩
   ·exact h
  have f49 := ((((Keep.refl h0 []).ext E21).trans Kq28 (allS (Or.inr z24) all0)).trans Kq37 all0)
  refine ownRet Xh48 Bd.notSynchronized (v := some (.ref t37)) (fun h => by rw [Bd.returns] at h; cases h) ?_ (oLe rfl) (oLe rfl) (fun fs hr => retOut Xh48 hx Bd.returns rfl (Or.inr (Or.inr (Or.inr (Or.inr ⟨rfl, rfl, rfl⟩)))) (D d11_56) hr)
  show (Q_cp3_1 Z a2 kC c0 h0 n0) (some (.ref t37)) T46.heap _
  rw [Eq46]
  exact ⟨t37, kb37, rfl, Nh48, f49, z40, Or.inr ⟨hg3, Aq37⟩⟩
abbrev fr_ini4_1 (m : MethodId) (a1 : Addr) (a2 : Addr) (pc : Nat) (x5_ : Slot) (st : List Value) : JFrame := mkF m pc #[vR a1, vR a2, vI 0, vI 1, .val .null, x5_] st
def Q_ini4_1 (Z : State) (a1 : Addr) (a2 : Addr) (kC : ClassId) (c0 : Int32) (c9 : Value) (G1 : Int32) (h0 : Heap) (n0 : Nat) (v : Option Value) (h : Heap) (L : List Loc) : Prop := v = none ∧ Fr n0 L ∧ Keep h0 h [a1] ∧ Exa Z h a1 "java/lang/String" ∧ ∃ (ta : Addr) (kb : ClassId) (cd z : Int32) (vs : List Value), h0.size ≤ ta ∧ Fld Z h a1 "java/lang/String" "value" "[B" (.ref ta) ∧ Fld Z h a1 "java/lang/String" "coder" "B" (.int cd) ∧ Arv Z h ta kb .byte z vs (iV 0) ∧ ((cd = (0 : Int32) ∧ z = (1 : Int32) ∧ vs = [(.int (oL c0))] ∧ ¬ ((255 : Int32) < c0)) ∨ (cd = (1 : Int32) ∧ z = (2 : Int32) ∧ vs = [(.int (oW c0)), (.int (oH c0))] ∧ ((255 : Int32) < c0)))
theorem ef_ini4_1 (m : MethodId) (x0 : Addr) (x1 : Addr) (x2 : Int32) (x3 : Int32)  : entryFrame m #[(.ref x0), (.ref x1), (.int x2), (.int x3), .null] 6 = mkF m 0 #[vR x0, vR x1, vI x2, vI x3, .val .null, .unset] [] := by first | (simp [entryFrame, mkF, argsToLocals, Value.category]; done) | rfl
set_option maxRecDepth 65536 in
set_option maxHeartbeats 40000000 in
theorem c_ini4_1 (l : Launch) (Z : State) (a0 : Array Value) (hw : HW a0 Z) (ws : List Jvm.Cond) (a1 : Addr) (a2 : Addr) (kC : ClassId) (c0 : Int32) (c9 : Value) (G1 : Int32) (h0 : Heap) (n0 : Nat) (Z0 : n0 ≤ h0.size) (E1 : Exa Z h0 a1 "java/lang/String") (F1 : Fld Z h0 a1 "java/lang/String" "value" "[B" .null) (F2 : Fld Z h0 a1 "java/lang/String" "coder" "B" c9) (g1 : n0 ≤ a1) (ne1 : a1 ≠ a2) (A2 : Arv Z h0 a2 kC .char (1 : Int32) [(.int c0)] (iV 0)) (hc0 : ¬ c0 < 0 ∧ ¬ (65535 : Int32) < c0) (O2 : Sta Z Z.heap "java/lang/String" "COMPACT_STRINGS" "Z" (.int G1)) (P5 : ¬ (G1 = (0 : Int32))) (SA : Sta Z Z.heap "java/lang/StringUTF16" "$assertionsDisabled" "Z" (iV 1)) (SHI : Sta Z Z.heap "java/lang/StringUTF16" "HI_BYTE_SHIFT" "I" (iV 0)) (SLO : Sta Z Z.heap "java/lang/StringUTF16" "LO_BYTE_SHIFT" "I" (iV 8)) (X00 : Old Z n0 h0) :
  MetFree l yM0 (head1 (Jvm.Cond.code yM0 jdk_42_method_149_code 6 none :: ws) ({ frames := 4, cells := 2, slots := 3, locals := 58 } : Room)) (fun a U => a = #[(.ref a1), (.ref a2), (iV 0), (iV 1), .null] ∧ Z.Warmed39 U.vm ∧ U.heap = h0) (fun _ _ _ _ _ => True) (fun _ U o U' => ∃ v L, o = .returned v ∧ (Q_ini4_1 Z a1 a2 kC c0 c9 G1 h0 n0) v U'.heap L ∧ FrameEnd U o U' L ({ frames := 4, cells := 2, slots := 3, locals := 58 } : Room).cells ({ frames := 4, cells := 2, slots := 3, locals := 58 } : Room).slots) := by
 refine MetFree.of_bodySF (plainFor_of_name pn_1) hisR ?_
 intro p e s m args below meth c s₁ Bd hml0 hP hK
 obtain ⟨rfl, hZ, hHp⟩ := hP
 have hx := Bd.exec
 have D := fun {pc : Nat} {r} (h : decode _ pc = r) => hb Bd.bytes h
 have hml : c.maxLocals = 6 := hml0
 have hown : s.vm.findClass "java/lang/String" = some m.cls := findClass_of_methodNamed Bd.named
 have hnm := (name_of_methodNamed Bd.named Bd.method).1
 have X0 : Stand p l e ({ frames := 4, cells := 2, slots := 3, locals := 58 } : Room) s m #[(.ref a1), (.ref a2), (iV 0), (iV 1), .null] below meth c s₁ [] 0 0 := Stand.of_body Bd
 have e0 : s₁.heap = h0 := by rw [← hHp, Bd.state]; rfl
 have N0 := Fr.nil n0
 refine ownOut (P := (Q_ini4_1 Z a1 a2 kC c0 c9 G1 h0 n0)) ?_
 refine ownBy (A := s₁.setTop (mkF m 0 #[vR a1, vR a2, vI 0, vI 1, .val .null, .unset] [])) (fun t k => castTop (ef_ini4_1 m a1 a2 (0 : Int32) (1 : Int32)) k) ?_
 refine oTo s₁ (fr_ini4_1 m a1 a2 1 .unset [(.ref a1)]) (fun t kt => ?_) ?_
 ·refine XS.aloadN X0.here hx rfl (D d4_0) rfl rfl ?_
  exact kt
 obtain ⟨T21, X21, e21, st21⟩ := initO X0 hx hZ hown (Wd18 hw) (Wd19 hw) (Wd20 hw) e0 (g := (fr_ini4_1 m a1 a2 1 .unset [(.ref a1)])) rfl (by rw [hml]; rfl) rfl (D d4_1) (by decide) (W := 0) (by show 2 * 0 + _ ≤ _; exact Nat.le_of_eq rfl) (by decide)
 refine ownBy st21 ?_
 clear st21
 show oA p e below _ T21 (fr_ini4_1 m a1 a2 4 .unset [])
 refine oTo T21 (fr_ini4_1 m a1 a2 27 .unset []) (fun t kt => ?_) ?_
 ·refine XS.iloadN X21.here hx rfl (D d4_4) rfl ?_
  refine XS.ifYes X21.here hx rfl (pc0 := 5) (pc' := 27) rfl (D d4_5) rfl ((if0 _ _).trans (feq ((by decide) : ¬ ((1 : Int32) = (0 : Int32)))).2) (by decide) (by decide) ?_
  exact kt
 refine own_getS X21 hx hZ hown (host := "") (Or.inl (Wd45 hw)) Via.refl e21 (O2.ext X00.2) (D d4_27) (fun T22 X22 e22 => ?_)
 refine oTo T22 (fr_ini4_1 m a1 a2 36 .unset [(iV 1), (iV 0), (.ref a2)]) (fun t kt => ?_) ?_
 ·refine XS.ifNo X22.here hx rfl (D d4_30) rfl ((if0 _ _).trans (feq P5).1) ?_
  refine XS.aloadN X22.here hx rfl (D d4_33) rfl rfl ?_
  refine XS.iloadN X22.here hx rfl (D d4_34) rfl ?_
  refine XS.iloadN X22.here hx rfl (D d4_35) rfl ?_
  exact kt
 obtain ⟨vv23, _, ⟨T23, L23, k23, n23⟩, -, X23, ⟨Lc23, hQ23, l23, y23, z23⟩, st23⟩ := Jvm.LawKit.callS X22 hx (y := yM9) hown (mvT hZ (Wd72 hw)) (mvT hZ (Wd73 hw)) (mvT hZ (Wd74 hw)) (mvT hZ (Wd75 hw)) (by decide) (backOf (W := 0) (c_cp3_1 l Z a0 hw [] a2 kC c0 h0 n0 Z0 A2 hc0 SA SHI SLO X00) hZ (Wd75 hw) (Wd74 hw) (by decide) (by decide)) (g := (fr_ini4_1 m a1 a2 36 .unset [(iV 1), (iV 0), (.ref a2)])) rfl (by rw [hml]; rfl) (argsL := [(.ref a2), (iV 0), (iV 1)]) (rest := []) (lenOf pd_8 rfl) rfl (by show 2 * 0 + _ ≤ _; exact Nat.le_of_eq rfl) (D d4_36) (fun _ _ => ⟨rfl, e22, (by decide : 0 + 2 ≤ _), (by decide : 0 + 3 ≤ _)⟩)
 dsimp only [Pt.U, Pt.locs, Pt.cells, Pt.slots] at X23 l23 y23 z23 st23 hQ23
 subst l23 y23 z23
 obtain ⟨t23, kb23, rfl, Nq23, Kq23, zq23, hB23⟩ := hQ23
 have ne24 : a1 ≠ t23 := Nat.ne_of_lt (Nat.lt_of_lt_of_le E1.lt zq23)
 have ne25 : a2 ≠ t23 := Nat.ne_of_lt (Nat.lt_of_lt_of_le A2.lt zq23)
 have g26 : n0 ≤ t23 := Nat.le_trans Z0 zq23
 have z27 : h0.size ≤ t23 := Nat.le_trans (Nat.le_refl h0.size) zq23
 rcases hB23 with ⟨hn23_0, Aq23⟩ | ⟨hg23, Aq23⟩
 ·skip
  have N28 := Fr.app N0 Nq23
  obtain ⟨Lh29, Xh29, Nh29⟩ := oHd 2 3 X23 N28 rfl rfl
  refine ownBy st23 ?_
  clear st23
  show oA p e below _ T23 (fr_ini4_1 m a1 a2 39 .unset [(.ref t23)])
  refine oTo T23 (fr_ini4_1 m a1 a2 45 (vR t23) [(iV 1), (.ref t23), (.ref a1)]) (fun t kt => ?_) ?_
  ·refine XS.astore Xh29.here hx rfl (D d4_39) rfl rfl (l' := #[vR a1, vR a2, vI 0, vI 1, .val .null, vR t23]) rfl ?_
   refine XS.aloadN Xh29.here hx rfl (D d4_41) rfl rfl ?_
   refine XS.aload Xh29.here hx rfl (D d4_42) rfl rfl ?_
   refine XS.iloadN Xh29.here hx rfl (D d4_44) rfl ?_
   exact kt
  have f30 := (Nat.le_trans Z0 Kq23.1)
  obtain ⟨vv31, _, ⟨T31, L31, k31, n31⟩, -, X31, ⟨Lc31, hQ31, l31, y31, z31⟩, st31⟩ := Jvm.LawKit.callS Xh29 hx (y := yM4) hown (mvT hZ (Wd79 hw)) (mvT hZ (Wd80 hw)) (mvT hZ (Wd74 hw)) (mvT hZ (Wd81 hw)) (by decide) (backOf (W := 1) (c_cfa l Z a0 hw [] t23 kb23 (1 : Int32) _ (1 : Int32) (0 : Int32) T23.heap n0 f30 Aq23 (by decide +kernel)) hZ (Wd81 hw) (Wd74 hw) (by decide) (by decide)) (g := (fr_ini4_1 m a1 a2 45 (vR t23) [(iV 1), (.ref t23), (.ref a1)])) rfl (by rw [hml]; rfl) (argsL := [(.ref t23), (iV 1)]) (rest := [(.ref a1)]) (lenOf pd_10 rfl) rfl (by show 2 * 0 + _ ≤ _; exact Nat.le_of_eq rfl) (D d4_45) (fun _ _ => ⟨rfl, rfl, (by decide : 2 + 0 ≤ _), (by decide : 3 + 0 ≤ _)⟩)
  dsimp only [Pt.U, Pt.locs, Pt.cells, Pt.slots] at X31 l31 y31 z31 st31 hQ31
  subst l31 y31 z31
  obtain ⟨rfl, Nq31, Eq31⟩ := hQ31
  have N32 := Fr.app Nh29 Nq31
  obtain ⟨Lh33, Xh33, Nh33⟩ := oHd 2 3 X31 N32 rfl rfl
  refine ownBy st31 ?_
  clear st31
  show oA p e below _ T31 (fr_ini4_1 m a1 a2 48 (vR t23) [(iV 0), (.ref a1)])
  have f35 := (F2.keep Kq23 nin0)
  have f36 := (E1.keep Kq23)
  obtain ⟨T34, h34, X34, e34, W34, st34⟩ := putFN Xh33 hx hZ hown (Wd28 hw) Via.refl Eq31 f35 f36 (Or.inr ⟨(Wd24 hw), rfl, hnm⟩) (Wd8 hw) (ty := .byte) (v' := (iV 0)) (by decide) rfl (fits_nar_byte (0 : Int32)) (g := (fr_ini4_1 m a1 a2 48 (vR t23) [(iV 0), (.ref a1)])) rfl rfl (D d4_48)
  have F37 := f35.same W34
  have N38 := Fr.snoc X34 Nh33 g1
  obtain ⟨Lh39, Xh39, Nh39⟩ := oHd 2 3 X34 N38 rfl rfl
  refine ownBy st34 ?_
  clear st34
  show oA p e below _ T34 (fr_ini4_1 m a1 a2 51 (vR t23) [])
  refine oTo T34 (fr_ini4_1 m a1 a2 54 (vR t23) [(.ref t23), (.ref a1)]) (fun t kt => ?_) ?_
  ·refine XS.aloadN Xh39.here hx rfl (D d4_51) rfl rfl ?_
   refine XS.aload Xh39.here hx rfl (D d4_52) rfl rfl ?_
   exact kt
  have f41 := ((F1.keep Kq23 nin0).other W34 (Or.inr (slot_ne (Or.inr (Wd23 hw)) (Or.inr (Wd24 hw)) (by decide) (t := (.array .byte)) (t' := .byte) (by decide) (by decide))))
  have f42 := (f36.wr W34)
  obtain ⟨T40, h40, X40, e40, W40, st40⟩ := putF Xh39 hx hZ hown (host := "") (Or.inl (Wd27 hw)) Via.refl e34 f41 f42 (Or.inr ⟨(Wd23 hw), rfl, hnm⟩) (Wd8 hw) (ty := (.array .byte)) (by decide) rfl rfl (g := (fr_ini4_1 m a1 a2 54 (vR t23) [(.ref t23), (.ref a1)])) rfl rfl (D d4_54)
  have F43 := f41.same W40
  have N44 := Fr.snoc X40 Nh39 g1
  obtain ⟨Lh45, Xh45, Nh45⟩ := oHd 2 3 X40 N44 rfl rfl
  refine ownBy st40 ?_
  clear st40
  show oA p e below _ T40 (fr_ini4_1 m a1 a2 57 (vR t23) [])
  have f46 := ((((Keep.refl h0 [a1]).trans Kq23 all0).wr W34 (Or.inl (List.mem_of_getElem? (i := 0) rfl))).wr W40 (Or.inl (List.mem_of_getElem? (i := 0) rfl)))
  have f47 := (f42.wr W40)
  have f48 := (F37.other W40 (Or.inr (slot_ne (Or.inr (Wd24 hw)) (Or.inr (Wd23 hw)) (by decide) (t := .byte) (t' := (.array .byte)) (by decide) (by decide))))
  have f49 := ((Aq23.other W34 (Ne.symm ne24)).other W40 (Ne.symm ne24))
  refine ownRet Xh45 Bd.notSynchronized (v := none) (fun _ => rfl) ?_ (oLe rfl) (oLe rfl) (fun fs hr => Xh45.returnOut hx Bd.returns (D d4_57) hr)
  show (Q_ini4_1 Z a1 a2 kC c0 c9 G1 h0 n0) (none) T40.heap _
  rw [e40]
  exact ⟨rfl, Nh45, f46, f47, t23, kb23, _, _, _, z27, F43, f48, f49, Or.inl ⟨rfl, rfl, rfl, hn23_0⟩⟩
 ·skip
  have N50 := Fr.app N0 Nq23
  obtain ⟨Lh51, Xh51, Nh51⟩ := oHd 2 3 X23 N50 rfl rfl
  refine ownBy st23 ?_
  clear st23
  show oA p e below _ T23 (fr_ini4_1 m a1 a2 39 .unset [(.ref t23)])
  refine oTo T23 (fr_ini4_1 m a1 a2 45 (vR t23) [(iV 1), (.ref t23), (.ref a1)]) (fun t kt => ?_) ?_
  ·refine XS.astore Xh51.here hx rfl (D d4_39) rfl rfl (l' := #[vR a1, vR a2, vI 0, vI 1, .val .null, vR t23]) rfl ?_
   refine XS.aloadN Xh51.here hx rfl (D d4_41) rfl rfl ?_
   refine XS.aload Xh51.here hx rfl (D d4_42) rfl rfl ?_
   refine XS.iloadN Xh51.here hx rfl (D d4_44) rfl ?_
   exact kt
  have f52 := (Nat.le_trans Z0 Kq23.1)
  obtain ⟨vv53, _, ⟨T53, L53, k53, n53⟩, -, X53, ⟨Lc53, hQ53, l53, y53, z53⟩, st53⟩ := Jvm.LawKit.callS Xh51 hx (y := yM4) hown (mvT hZ (Wd79 hw)) (mvT hZ (Wd80 hw)) (mvT hZ (Wd74 hw)) (mvT hZ (Wd81 hw)) (by decide) (backOf (W := 1) (c_cfa l Z a0 hw [] t23 kb23 (2 : Int32) _ (1 : Int32) (1 : Int32) T23.heap n0 f52 Aq23 (by decide +kernel)) hZ (Wd81 hw) (Wd74 hw) (by decide) (by decide)) (g := (fr_ini4_1 m a1 a2 45 (vR t23) [(iV 1), (.ref t23), (.ref a1)])) rfl (by rw [hml]; rfl) (argsL := [(.ref t23), (iV 1)]) (rest := [(.ref a1)]) (lenOf pd_10 rfl) rfl (by show 2 * 0 + _ ≤ _; exact Nat.le_of_eq rfl) (D d4_45) (fun _ _ => ⟨rfl, rfl, (by decide : 2 + 0 ≤ _), (by decide : 3 + 0 ≤ _)⟩)
  dsimp only [Pt.U, Pt.locs, Pt.cells, Pt.slots] at X53 l53 y53 z53 st53 hQ53
  subst l53 y53 z53
  obtain ⟨rfl, Nq53, Eq53⟩ := hQ53
  have N54 := Fr.app Nh51 Nq53
  obtain ⟨Lh55, Xh55, Nh55⟩ := oHd 2 3 X53 N54 rfl rfl
  refine ownBy st53 ?_
  clear st53
  show oA p e below _ T53 (fr_ini4_1 m a1 a2 48 (vR t23) [(iV 1), (.ref a1)])
  have f57 := (F2.keep Kq23 nin0)
  have f58 := (E1.keep Kq23)
  obtain ⟨T56, h56, X56, e56, W56, st56⟩ := putFN Xh55 hx hZ hown (Wd28 hw) Via.refl Eq53 f57 f58 (Or.inr ⟨(Wd24 hw), rfl, hnm⟩) (Wd8 hw) (ty := .byte) (v' := (iV 1)) (by decide) rfl (fits_nar_byte (1 : Int32)) (g := (fr_ini4_1 m a1 a2 48 (vR t23) [(iV 1), (.ref a1)])) rfl rfl (D d4_48)
  have F59 := f57.same W56
  have N60 := Fr.snoc X56 Nh55 g1
  obtain ⟨Lh61, Xh61, Nh61⟩ := oHd 2 3 X56 N60 rfl rfl
  refine ownBy st56 ?_
  clear st56
  show oA p e below _ T56 (fr_ini4_1 m a1 a2 51 (vR t23) [])
  refine oTo T56 (fr_ini4_1 m a1 a2 54 (vR t23) [(.ref t23), (.ref a1)]) (fun t kt => ?_) ?_
  ·refine XS.aloadN Xh61.here hx rfl (D d4_51) rfl rfl ?_
   refine XS.aload Xh61.here hx rfl (D d4_52) rfl rfl ?_
   exact kt
  have f63 := ((F1.keep Kq23 nin0).other W56 (Or.inr (slot_ne (Or.inr (Wd23 hw)) (Or.inr (Wd24 hw)) (by decide) (t := (.array .byte)) (t' := .byte) (by decide) (by decide))))
  have f64 := (f58.wr W56)
  obtain ⟨T62, h62, X62, e62, W62, st62⟩ := putF Xh61 hx hZ hown (host := "") (Or.inl (Wd27 hw)) Via.refl e56 f63 f64 (Or.inr ⟨(Wd23 hw), rfl, hnm⟩) (Wd8 hw) (ty := (.array .byte)) (by decide) rfl rfl (g := (fr_ini4_1 m a1 a2 54 (vR t23) [(.ref t23), (.ref a1)])) rfl rfl (D d4_54)
  have F65 := f63.same W62
  have N66 := Fr.snoc X62 Nh61 g1
  obtain ⟨Lh67, Xh67, Nh67⟩ := oHd 2 3 X62 N66 rfl rfl
  refine ownBy st62 ?_
  clear st62
  show oA p e below _ T62 (fr_ini4_1 m a1 a2 57 (vR t23) [])
  have f68 := ((((Keep.refl h0 [a1]).trans Kq23 all0).wr W56 (Or.inl (List.mem_of_getElem? (i := 0) rfl))).wr W62 (Or.inl (List.mem_of_getElem? (i := 0) rfl)))
  have f69 := (f64.wr W62)
  have f70 := (F59.other W62 (Or.inr (slot_ne (Or.inr (Wd24 hw)) (Or.inr (Wd23 hw)) (by decide) (t := .byte) (t' := (.array .byte)) (by decide) (by decide))))
  have f71 := ((Aq23.other W56 (Ne.symm ne24)).other W62 (Ne.symm ne24))
  refine ownRet Xh67 Bd.notSynchronized (v := none) (fun _ => rfl) ?_ (oLe rfl) (oLe rfl) (fun fs hr => Xh67.returnOut hx Bd.returns (D d4_57) hr)
  show (Q_ini4_1 Z a1 a2 kC c0 c9 G1 h0 n0) (none) T62.heap _
  rw [e62]
  exact ⟨rfl, Nh67, f68, f69, t23, kb23, _, _, _, z27, F65, f70, f71, Or.inr ⟨rfl, rfl, rfl, hg23⟩⟩
abbrev fr_inC_1 (m : MethodId) (a1 : Addr) (a2 : Addr) (pc : Nat)  (st : List Value) : JFrame := mkF m pc #[vR a1, vR a2] st
def Q_inC_1 (Z : State) (a1 : Addr) (a2 : Addr) (kC : ClassId) (c0 : Int32) (c9 : Value) (G1 : Int32) (h0 : Heap) (n0 : Nat) (v : Option Value) (h : Heap) (L : List Loc) : Prop := v = none ∧ Fr n0 L ∧ Keep h0 h [a1] ∧ Exa Z h a1 "java/lang/String" ∧ ∃ (ta : Addr) (kb : ClassId) (cd z : Int32) (vs : List Value), h0.size ≤ ta ∧ Fld Z h a1 "java/lang/String" "value" "[B" (.ref ta) ∧ Fld Z h a1 "java/lang/String" "coder" "B" (.int cd) ∧ Arv Z h ta kb .byte z vs (iV 0) ∧ ((cd = (0 : Int32) ∧ z = (1 : Int32) ∧ vs = [(.int (oL c0))] ∧ ¬ ((255 : Int32) < c0)) ∨ (cd = (1 : Int32) ∧ z = (2 : Int32) ∧ vs = [(.int (oW c0)), (.int (oH c0))] ∧ ((255 : Int32) < c0)))
theorem ef_inC_1 (m : MethodId) (x0 : Addr) (x1 : Addr)  : entryFrame m #[(.ref x0), (.ref x1)] 2 = mkF m 0 #[vR x0, vR x1] [] := by first | (simp [entryFrame, mkF, argsToLocals, Value.category]; done) | rfl
set_option maxRecDepth 65536 in
set_option maxHeartbeats 40000000 in
theorem c_inC_1 (l : Launch) (Z : State) (a0 : Array Value) (hw : HW a0 Z) (ws : List Jvm.Cond) (a1 : Addr) (a2 : Addr) (kC : ClassId) (c0 : Int32) (c9 : Value) (G1 : Int32) (h0 : Heap) (n0 : Nat) (Z0 : n0 ≤ h0.size) (E1 : Exa Z h0 a1 "java/lang/String") (F1 : Fld Z h0 a1 "java/lang/String" "value" "[B" .null) (F2 : Fld Z h0 a1 "java/lang/String" "coder" "B" c9) (g1 : n0 ≤ a1) (ne1 : a1 ≠ a2) (A2 : Arv Z h0 a2 kC .char (1 : Int32) [(.int c0)] (iV 0)) (hc0 : ¬ c0 < 0 ∧ ¬ (65535 : Int32) < c0) (O2 : Sta Z Z.heap "java/lang/String" "COMPACT_STRINGS" "Z" (.int G1)) (P5 : ¬ (G1 = (0 : Int32))) (SA : Sta Z Z.heap "java/lang/StringUTF16" "$assertionsDisabled" "Z" (iV 1)) (SHI : Sta Z Z.heap "java/lang/StringUTF16" "HI_BYTE_SHIFT" "I" (iV 0)) (SLO : Sta Z Z.heap "java/lang/StringUTF16" "LO_BYTE_SHIFT" "I" (iV 8)) (X00 : Old Z n0 h0) :
  MetFree l yM1 (head1 (Jvm.Cond.code yM1 jdk_42_method_3_code 2 none :: ws) ({ frames := 5, cells := 2, slots := 3, locals := 75 } : Room)) (fun a U => a = #[(.ref a1), (.ref a2)] ∧ Z.Warmed39 U.vm ∧ U.heap = h0) (fun _ _ _ _ _ => True) (fun _ U o U' => ∃ v L, o = .returned v ∧ (Q_inC_1 Z a1 a2 kC c0 c9 G1 h0 n0) v U'.heap L ∧ FrameEnd U o U' L ({ frames := 5, cells := 2, slots := 3, locals := 75 } : Room).cells ({ frames := 5, cells := 2, slots := 3, locals := 75 } : Room).slots) := by
 refine MetFree.of_bodySF (plainFor_of_name pn_1) hisR ?_
 intro p e s m args below meth c s₁ Bd hml0 hP hK
 obtain ⟨rfl, hZ, hHp⟩ := hP
 have hx := Bd.exec
 have D := fun {pc : Nat} {r} (h : decode _ pc = r) => hb Bd.bytes h
 have hml : c.maxLocals = 2 := hml0
 have hown : s.vm.findClass "java/lang/String" = some m.cls := findClass_of_methodNamed Bd.named
 have hnm := (name_of_methodNamed Bd.named Bd.method).1
 have X0 : Stand p l e ({ frames := 5, cells := 2, slots := 3, locals := 75 } : Room) s m #[(.ref a1), (.ref a2)] below meth c s₁ [] 0 0 := Stand.of_body Bd
 have e0 : s₁.heap = h0 := by rw [← hHp, Bd.state]; rfl
 have N0 := Fr.nil n0
 refine ownOut (P := (Q_inC_1 Z a1 a2 kC c0 c9 G1 h0 n0)) ?_
 refine ownBy (A := s₁.setTop (mkF m 0 #[vR a1, vR a2] [])) (fun t k => castTop (ef_inC_1 m a1 a2) k) ?_
 refine oTo s₁ (fr_inC_1 m a1 a2 4  [(.ref a2), (iV 0), (.ref a2), (.ref a1)]) (fun t kt => ?_) ?_
 ·refine XS.aloadN X0.here hx rfl (D d3_0) rfl rfl ?_
  refine XS.aloadN X0.here hx rfl (D d3_1) rfl rfl ?_
  refine XS.iconst X0.here hx rfl (D d3_2) ?_
  refine XS.aloadN X0.here hx rfl (D d3_3) rfl rfl ?_
  exact kt
 obtain ⟨cl21, Ar21, -, S21, N21, -, -⟩ := id A2
 have st21 := X0.arraylength hx (by rw [e0]; exact Ar21.1) (State.isArrayOf_alike hZ.alike Ar21.2.1) (g := (fr_inC_1 m a1 a2 4  [(.ref a2), (iV 0), (.ref a2), (.ref a1)])) rfl rfl (D d3_4)
 rw [len_of S21 N21] at st21
 refine ownBy st21 ?_
 show oA p e below _ s₁ (fr_inC_1 m a1 a2 5  [(iV 1), (iV 0), (.ref a2), (.ref a1)])
 refine oTo s₁ (fr_inC_1 m a1 a2 6  [.null, (iV 1), (iV 0), (.ref a2), (.ref a1)]) (fun t kt => ?_) ?_
 ·refine XS.aconstNull X0.here hx rfl (D d3_5) ?_
  exact kt
 obtain ⟨vv22, _, ⟨T22, L22, k22, n22⟩, -, X22, ⟨Lc22, hQ22, l22, y22, z22⟩, st22⟩ := X0.specialBack hx (y := yM0) rfl hown (mvT hZ (Wd14 hw)) (mvT hZ (Wd15 hw)) (mvT hZ (Wd17 hw)) (by decide) (backOf (W := 0) (c_ini4_1 l Z a0 hw [] a1 a2 kC c0 _ G1 h0 n0 Z0 E1 F1 F2 g1 ne1 A2 hc0 O2 P5 SA SHI SLO X00) hZ (Wd17 hw) (Wd9 hw) (by decide) (by decide)) (g := (fr_inC_1 m a1 a2 6  [.null, (iV 1), (iV 0), (.ref a2), (.ref a1)])) rfl (by rw [hml]; rfl) (Steps.refl _) (a := a1) (argsL := [(.ref a2), (iV 0), (iV 1), .null]) (rest := []) (lenOf pd_2 rfl) rfl (by show 2 * 0 + _ ≤ _; exact Nat.le_of_eq rfl) (D d3_6) (fun _ _ => ⟨rfl, e0, (by decide : 0 + 2 ≤ _), (by decide : 0 + 3 ≤ _)⟩)
 dsimp only [Pt.U, Pt.locs, Pt.cells, Pt.slots] at X22 l22 y22 z22 st22 hQ22
 subst l22 y22 z22
 obtain ⟨rfl, Nq22, Kq22, Eq22, t22, kb22, cd22, z22, vs22, zq22, Vq22, Cq22, Aq22, hrel22⟩ := hQ22
 have ne23 : a1 ≠ t22 := Nat.ne_of_lt (Nat.lt_of_lt_of_le E1.lt zq22)
 have ne24 : a2 ≠ t22 := Nat.ne_of_lt (Nat.lt_of_lt_of_le A2.lt zq22)
 have g25 : n0 ≤ t22 := Nat.le_trans Z0 zq22
 have z26 : h0.size ≤ t22 := Nat.le_trans (Nat.le_refl h0.size) zq22
 have N27 := Fr.app N0 Nq22
 obtain ⟨Lh28, Xh28, Nh28⟩ := oHd 2 3 X22 N27 rfl rfl
 refine ownSt st22 ?_
 clear st22
 show oA p e below _ T22 (fr_inC_1 m a1 a2 9  [])
 have f29 := ((Keep.refl h0 [a1]).trans Kq22 (allS (Or.inl (List.mem_of_getElem? (i := 0) rfl)) all0))
 have f30 := (E1.keep Kq22)
 refine ownRet Xh28 Bd.notSynchronized (v := none) (fun _ => rfl) ?_ (oLe rfl) (oLe rfl) (fun fs hr => Xh28.returnOut hx Bd.returns (D d3_9) hr)
 show (Q_inC_1 Z a1 a2 kC c0 c9 G1 h0 n0) (none) T22.heap _
 exact ⟨rfl, Nh28, f29, f30, t22, kb22, _, _, _, z26, Vq22, Cq22, Aq22, hrel22⟩
abbrev fr_nbf2 (m : MethodId)  (pc : Nat)  (st : List Value) : JFrame := mkF m pc #[vI 2] st
def Q_nbf2 (Z : State)  (h0 : Heap) (n0 : Nat) (v : Option Value) (h : Heap) (L : List Loc) : Prop := ∃ (ta : Addr) (kb : ClassId), v = some (.ref ta) ∧ Fr n0 L ∧ Keep h0 h [] ∧ h0.size ≤ ta ∧ Arv Z h ta kb .byte (4 : Int32) [(iV 0), (iV 0), (iV 0), (iV 0)] (iV 0)
theorem ef_nbf2 (m : MethodId) (x0 : Int32)  : entryFrame m #[(.int x0)] 1 = mkF m 0 #[vI x0] [] := by first | (simp [entryFrame, mkF, argsToLocals, Value.category]; done) | rfl
set_option maxRecDepth 65536 in
set_option maxHeartbeats 40000000 in
theorem c_nbf2 (l : Launch) (Z : State) (a0 : Array Value) (hw : HW a0 Z) (ws : List Jvm.Cond)  (h0 : Heap) (n0 : Nat) (Z0 : n0 ≤ h0.size) :
  MetFree l yM6 (head1 (Jvm.Cond.code yM6 jdk_52_method_2_code 1 (some (.array .byte)) :: ws) ({ frames := 1, cells := 1, slots := 4, locals := 12 } : Room)) (fun a U => a = #[(iV 2)] ∧ Z.Warmed39 U.vm ∧ U.heap = h0) (fun _ _ _ _ _ => True) (fun _ U o U' => ∃ v L, o = .returned v ∧ (Q_nbf2 Z  h0 n0) v U'.heap L ∧ FrameEnd U o U' L ({ frames := 1, cells := 1, slots := 4, locals := 12 } : Room).cells ({ frames := 1, cells := 1, slots := 4, locals := 12 } : Room).slots) := by
 refine MetFree.of_bodySF (plainFor_of_name pn_3) hisR ?_
 intro p e s m args below meth c s₁ Bd hml0 hP hK
 obtain ⟨rfl, hZ, hHp⟩ := hP
 have hx := Bd.exec
 have D := fun {pc : Nat} {r} (h : decode _ pc = r) => hb Bd.bytes h
 have hml : c.maxLocals = 1 := hml0
 have hown : s.vm.findClass "java/lang/StringUTF16" = some m.cls := findClass_of_methodNamed Bd.named
 have hnm := (name_of_methodNamed Bd.named Bd.method).1
 have X0 : Stand p l e ({ frames := 1, cells := 1, slots := 4, locals := 12 } : Room) s m #[(iV 2)] below meth c s₁ [] 0 0 := Stand.of_body Bd
 have e0 : s₁.heap = h0 := by rw [← hHp, Bd.state]; rfl
 have N0 := Fr.nil n0
 refine ownOut (P := (Q_nbf2 Z  h0 n0)) ?_
 refine ownBy (A := s₁.setTop (mkF m 0 #[vI 2] [])) (fun t k => castTop (ef_nbf2 m (2 : Int32)) k) ?_
 refine oTo s₁ (fr_nbf2 m  1  [(iV 2)]) (fun t kt => ?_) ?_
 ·refine XS.iloadN X0.here hx rfl (D d23_0) rfl ?_
  exact kt
 obtain ⟨vv21, _, ⟨T21, L21, k21, n21⟩, -, X21, ⟨Lc21, hQ21, l21, y21, z21⟩, st21⟩ := Jvm.LawKit.callS X0 hx (y := yM3) hown (mvT hZ (Wd137 hw)) (mvT hZ (Wd138 hw)) (mvT hZ (Wd74 hw)) (mvT hZ (Wd139 hw)) (by decide) (backOf (W := 0) (c_nbl l Z a0 hw [] (2 : Int32) (4 : Int32) h0 n0 Z0 (by decide) (by decide) (by decide +kernel)) hZ (Wd139 hw) (Wd74 hw) (by decide) (by decide)) (g := (fr_nbf2 m  1  [(iV 2)])) rfl (by rw [hml]; rfl) (argsL := [(iV 2)]) (rest := []) (lenOf pd_4 rfl) rfl (by show 2 * 0 + _ ≤ _; exact Nat.le_of_eq rfl) (D d23_1) (fun _ _ => ⟨rfl, e0, (by decide : 0 + 0 ≤ _), (by decide : 0 + 0 ≤ _)⟩)
 dsimp only [Pt.U, Pt.locs, Pt.cells, Pt.slots] at X21 l21 y21 z21 st21 hQ21
 subst l21 y21 z21
 obtain ⟨rfl, Nq21, Eq21⟩ := hQ21
 have N22 := Fr.app N0 Nq21
 obtain ⟨Lh23, Xh23, Nh23⟩ := oHd 0 0 X21 N22 rfl rfl
 refine ownBy st21 ?_
 clear st21
 show oA p e below _ T21 (fr_nbf2 m  4  [(iV 4)])
 obtain ⟨T24, h24, k24, X24, e24, E24, A24, st24⟩ := newP Xh23 hx hZ (aty := .byte) (Wd22 hw) Eq21 (g := (fr_nbf2 m  4  [(iV 4)])) rfl (D d23_4) rfl (by decide : ¬ ((4 : Int32) < (0 : Int32))) (cap := 4) (by decide) (by decide) (by decide) (by decide)
 obtain ⟨b24, g24⟩ : ∃ z, z = h0.size := ⟨_, rfl⟩
 rw [← g24] at A24 st24
 have g25 : n0 ≤ b24 := Nat.le_trans Z0 (Nat.le_of_eq g24.symm)
 have z26 : h0.size ≤ b24 := Nat.le_trans (Nat.le_refl h0.size) (Nat.le_of_eq g24.symm)
 have V27 : Arv Z h24 b24 k24 .byte (4 : Int32) [(iV 0), (iV 0), (iV 0), (iV 0)] (iV 0) := (Arv.new A24 (by decide)).pad (pad_rep [] (iV 0) 4)
 refine ownBy st24 ?_
 clear st24
 show oA p e below _ T24 (fr_nbf2 m  6  [(.ref b24)])
 have f28 := ((Keep.refl h0 []).ext E24)
 refine ownRet X24 Bd.notSynchronized (v := some (.ref b24)) (fun h => by rw [Bd.returns] at h; cases h) ?_ (oLe rfl) (oLe rfl) (fun fs hr => retOut X24 hx Bd.returns rfl (Or.inr (Or.inr (Or.inr (Or.inr ⟨rfl, rfl, rfl⟩)))) (D d23_6) hr)
 show (Q_nbf2 Z  h0 n0) (some (.ref b24)) T24.heap _
 rw [e24]
 exact ⟨b24, k24, rfl, Nh23, f28, z26, V27⟩
abbrev fr_tob2 (m : MethodId) (a2 : Addr) (pc : Nat) (x1_ x3_ x4_ : Slot) (st : List Value) : JFrame := mkF m pc #[vR a2, x1_, vI 2, x3_, x4_] st
def Q_tob2 (Z : State) (a2 : Addr) (kC : ClassId) (c0 : Int32) (c1 : Int32) (h0 : Heap) (n0 : Nat) (v : Option Value) (h : Heap) (L : List Loc) : Prop := ∃ (ta : Addr) (kb : ClassId), v = some (.ref ta) ∧ Fr n0 L ∧ Keep h0 h [] ∧ h0.size ≤ ta ∧ Arv Z h ta kb .byte (4 : Int32) [(.int (oW c0)), (.int (oH c0)), (.int (oW c1)), (.int (oH c1))] (iV 0)
theorem ef_tob2 (m : MethodId) (x0 : Addr) (x1 : Int32) (x2 : Int32)  : entryFrame m #[(.ref x0), (.int x1), (.int x2)] 5 = mkF m 0 #[vR x0, vI x1, vI x2, .unset, .unset] [] := by first | (simp [entryFrame, mkF, argsToLocals, Value.category]; done) | rfl
set_option maxRecDepth 65536 in
set_option maxHeartbeats 40000000 in
theorem c_tob2 (l : Launch) (Z : State) (a0 : Array Value) (hw : HW a0 Z) (ws : List Jvm.Cond) (a2 : Addr) (kC : ClassId) (c0 : Int32) (c1 : Int32) (h0 : Heap) (n0 : Nat) (Z0 : n0 ≤ h0.size) (A2 : Arv Z h0 a2 kC .char (2 : Int32) [(.int c0), (.int c1)] (iV 0)) (SA : Sta Z Z.heap "java/lang/StringUTF16" "$assertionsDisabled" "Z" (iV 1)) (SHI : Sta Z Z.heap "java/lang/StringUTF16" "HI_BYTE_SHIFT" "I" (iV 0)) (SLO : Sta Z Z.heap "java/lang/StringUTF16" "LO_BYTE_SHIFT" "I" (iV 8)) (X00 : Old Z n0 h0) :
  MetFree l yM7 (head1 (Jvm.Cond.code yM7 jdk_52_method_14_code 5 (some (.array .byte)) :: ws) ({ frames := 2, cells := 1, slots := 4, locals := 24 } : Room)) (fun a U => a = #[(.ref a2), (iV 0), (iV 2)] ∧ Z.Warmed39 U.vm ∧ U.heap = h0) (fun _ _ _ _ _ => True) (fun _ U o U' => ∃ v L, o = .returned v ∧ (Q_tob2 Z a2 kC c0 c1 h0 n0) v U'.heap L ∧ FrameEnd U o U' L ({ frames := 2, cells := 1, slots := 4, locals := 24 } : Room).cells ({ frames := 2, cells := 1, slots := 4, locals := 24 } : Room).slots) := by
 refine MetFree.of_bodySF (plainFor_of_name pn_3) hisR ?_
 intro p e s m args below meth c s₁ Bd hml0 hP hK
 obtain ⟨rfl, hZ, hHp⟩ := hP
 have hx := Bd.exec
 have D := fun {pc : Nat} {r} (h : decode _ pc = r) => hb Bd.bytes h
 have hml : c.maxLocals = 5 := hml0
 have hown : s.vm.findClass "java/lang/StringUTF16" = some m.cls := findClass_of_methodNamed Bd.named
 have hnm := (name_of_methodNamed Bd.named Bd.method).1
 have X0 : Stand p l e ({ frames := 2, cells := 1, slots := 4, locals := 24 } : Room) s m #[(.ref a2), (iV 0), (iV 2)] below meth c s₁ [] 0 0 := Stand.of_body Bd
 have e0 : s₁.heap = h0 := by rw [← hHp, Bd.state]; rfl
 have N0 := Fr.nil n0
 refine ownOut (P := (Q_tob2 Z a2 kC c0 c1 h0 n0)) ?_
 refine ownBy (A := s₁.setTop (mkF m 0 #[vR a2, vI 0, vI 2, .unset, .unset] [])) (fun t k => castTop (ef_tob2 m a2 (0 : Int32) (2 : Int32)) k) ?_
 refine oTo s₁ (fr_tob2 m a2 1 (vI 0) .unset .unset [(iV 2)]) (fun t kt => ?_) ?_
 ·refine XS.iloadN X0.here hx rfl (D d22_0) rfl ?_
  exact kt
 obtain ⟨vv21, _, ⟨T21, L21, k21, n21⟩, -, X21, ⟨Lc21, hQ21, l21, y21, z21⟩, st21⟩ := Jvm.LawKit.callS X0 hx (y := yM6) hown (mvT hZ (Wd134 hw)) (mvT hZ (Wd135 hw)) (mvT hZ (Wd74 hw)) (mvT hZ (Wd136 hw)) (by decide) (backOf (W := 0) (c_nbf2 l Z a0 hw []  h0 n0 Z0 ) hZ (Wd136 hw) (Wd74 hw) (by decide) (by decide)) (g := (fr_tob2 m a2 1 (vI 0) .unset .unset [(iV 2)])) rfl (by rw [hml]; rfl) (argsL := [(iV 2)]) (rest := []) (lenOf pd_5 rfl) rfl (by show 2 * 0 + _ ≤ _; exact Nat.le_of_eq rfl) (D d22_1) (fun _ _ => ⟨rfl, e0, (by decide : 0 + 1 ≤ _), (by decide : 0 + 4 ≤ _)⟩)
 dsimp only [Pt.U, Pt.locs, Pt.cells, Pt.slots] at X21 l21 y21 z21 st21 hQ21
 subst l21 y21 z21
 obtain ⟨t21, kb21, rfl, Nq21, Kq21, zq21, Aq21⟩ := hQ21
 have ne22 : a2 ≠ t21 := Nat.ne_of_lt (Nat.lt_of_lt_of_le A2.lt zq21)
 have g23 : n0 ≤ t21 := Nat.le_trans Z0 zq21
 have z24 : h0.size ≤ t21 := Nat.le_trans (Nat.le_refl h0.size) zq21
 have N25 := Fr.app N0 Nq21
 obtain ⟨Lh26, Xh26, Nh26⟩ := oHd 1 4 X21 N25 rfl rfl
 refine ownBy st21 ?_
 clear st21
 show oA p e below _ T21 (fr_tob2 m a2 4 (vI 0) .unset .unset [(.ref t21)])
 refine oTo T21 (fr_tob2 m a2 19 (vI 0) (vR t21) (vI 0) [(iV 0), (.ref a2), (iV 0), (.ref t21)]) (fun t kt => ?_) ?_
 ·refine XS.astoreN Xh26.here hx rfl (D d22_4) rfl rfl (l' := #[vR a2, vI 0, vI 2, vR t21, .unset]) rfl ?_
  refine XS.iconst Xh26.here hx rfl (D d22_5) ?_
  refine XS.istore Xh26.here hx rfl (D d22_6) rfl (l' := #[vR a2, vI 0, vI 2, vR t21, vI 0]) rfl ?_
  refine XS.iload Xh26.here hx rfl (D d22_8) rfl ?_
  show Steps p.tables e below (T21.setTop (fr_tob2 m a2 10 (vI 0) (vR t21) (vI 0) [(iV 0)])) t
  refine XS.iloadN Xh26.here hx rfl (D d22_10) rfl ?_
  refine XS.icmpNo Xh26.here hx rfl (D d22_11) rfl (tlt ((by decide) : (0 : Int32) < (2 : Int32))).2.1 ?_
  refine XS.aloadN Xh26.here hx rfl (D d22_14) rfl rfl ?_
  refine XS.iload Xh26.here hx rfl (D d22_15) rfl ?_
  show Steps p.tables e below (T21.setTop (fr_tob2 m a2 17 (vI 0) (vR t21) (vI 0) [(iV 0), (.ref t21)])) t
  refine XS.aloadN Xh26.here hx rfl (D d22_17) rfl rfl ?_
  refine XS.iloadN Xh26.here hx rfl (D d22_18) rfl ?_
  exact kt
 have f27 := (A2.keep Kq21 nin0)
 obtain ⟨cl28, Ar28, q28, S28, N28, H28, G28⟩ := id f27
 have hin28 : ¬ ((0 : Int32) < 0 ∨ cl28.slots.size ≤ ((0 : Int32)).toNatClampNeg) := inb_of S28 ⟨by decide, by decide⟩
 have hat28 : cl28.slots[((0 : Int32)).toNatClampNeg]? = some (.int c0) := H28.at hin28 rfl
 have st28 := Xh26.caload hx (j := (0 : Int32)) (v := (.int c0)) Ar28.1 (State.isArrayOf_alike hZ.alike Ar28.2.1) Ar28.2.2 hin28 hat28 (g := (fr_tob2 m a2 19 (vI 0) (vR t21) (vI 0) [(iV 0), (.ref a2), (iV 0), (.ref t21)])) rfl rfl (D d22_19)
 refine ownBy st28 ?_
 show oA p e below _ T21 (fr_tob2 m a2 20 (vI 0) (vR t21) (vI 0) [(.int c0), (iV 0), (.ref t21)])
 have f29 := (X00.keep Kq21 all0)
 have f30 := (Nat.le_trans Z0 Kq21.1)
 obtain ⟨vv31, _, ⟨T31, L31, k31, n31⟩, -, X31, ⟨Lc31, hQ31, l31, y31, z31⟩, st31⟩ := Jvm.LawKit.callS Xh26 hx (y := yM2) hown (mvT hZ (Wd141 hw)) (mvT hZ (Wd142 hw)) (mvT hZ (Wd74 hw)) (mvT hZ (Wd143 hw)) (by decide) (backOf (W := 0) (c_put l Z a0 hw [] t21 kb21 (4 : Int32) [(iV 0), (iV 0), (iV 0), (iV 0)] (0 : Int32) c0 0 T21.heap n0 f30 Aq21 g23 ⟨by decide +kernel, by decide +kernel⟩ ⟨by decide +kernel, by decide +kernel⟩ (by decide +kernel) (by decide +kernel) (oLe rfl) SA SHI SLO f29) hZ (Wd143 hw) (Wd74 hw) (by decide) (by decide)) (g := (fr_tob2 m a2 20 (vI 0) (vR t21) (vI 0) [(.int c0), (iV 0), (.ref t21)])) rfl (by rw [hml]; rfl) (argsL := [(.ref t21), (iV 0), (.int c0)]) (rest := []) (lenOf pd_6 rfl) rfl (by show 2 * 0 + _ ≤ _; exact Nat.le_of_eq rfl) (D d22_20) (fun _ _ => ⟨rfl, rfl, (by decide : 1 + 0 ≤ _), (by decide : 4 + 0 ≤ _)⟩)
 dsimp only [Pt.U, Pt.locs, Pt.cells, Pt.slots] at X31 l31 y31 z31 st31 hQ31
 subst l31 y31 z31
 obtain ⟨rfl, Nq31, Kq31, Ap31⟩ := hQ31
 have Aq31 : Arv Z T31.heap t21 kb21 .byte (4 : Int32) [(.int (oW c0)), (.int (oH c0)), (iV 0), (iV 0)] (iV 0) := Ap31
 have N32 := Fr.app Nh26 Nq31
 obtain ⟨Lh33, Xh33, Nh33⟩ := oHd 1 4 X31 N32 rfl rfl
 refine ownBy st31 ?_
 clear st31
 show oA p e below _ T31 (fr_tob2 m a2 23 (vI 0) (vR t21) (vI 0) [])
 refine oTo T31 (fr_tob2 m a2 19 (vI 1) (vR t21) (vI 1) [(iV 1), (.ref a2), (iV 1), (.ref t21)]) (fun t kt => ?_) ?_
 ·refine XS.iinc Xh33.here hx rfl (D d22_23) rfl (l' := #[vR a2, vI 1, vI 2, vR t21, vI 0]) rfl ?_
  refine XS.iinc Xh33.here hx rfl (D d22_26) rfl (l' := #[vR a2, vI 1, vI 2, vR t21, vI 1]) rfl ?_
  refine XS.goto Xh33.here hx rfl (pc0 := 29) (pc' := 8) rfl (D d22_29) (by decide) (by decide) ?_
  refine XS.iload Xh33.here hx rfl (D d22_8) rfl ?_
  show Steps p.tables e below (T31.setTop (fr_tob2 m a2 10 (vI 1) (vR t21) (vI 1) [(iV 1)])) t
  refine XS.iloadN Xh33.here hx rfl (D d22_10) rfl ?_
  refine XS.icmpNo Xh33.here hx rfl (D d22_11) rfl (tlt ((by decide) : (1 : Int32) < (2 : Int32))).2.1 ?_
  refine XS.aloadN Xh33.here hx rfl (D d22_14) rfl rfl ?_
  refine XS.iload Xh33.here hx rfl (D d22_15) rfl ?_
  show Steps p.tables e below (T31.setTop (fr_tob2 m a2 17 (vI 1) (vR t21) (vI 1) [(iV 1), (.ref t21)])) t
  refine XS.aloadN Xh33.here hx rfl (D d22_17) rfl rfl ?_
  refine XS.iloadN Xh33.here hx rfl (D d22_18) rfl ?_
  exact kt
 have f34 := (f27.keep Kq31 (ninS ne22 nin0))
 obtain ⟨cl35, Ar35, q35, S35, N35, H35, G35⟩ := id f34
 have hin35 : ¬ ((1 : Int32) < 0 ∨ cl35.slots.size ≤ ((1 : Int32)).toNatClampNeg) := inb_of S35 ⟨by decide, by decide⟩
 have hat35 : cl35.slots[((1 : Int32)).toNatClampNeg]? = some (.int c1) := H35.at hin35 rfl
 have st35 := Xh33.caload hx (j := (1 : Int32)) (v := (.int c1)) Ar35.1 (State.isArrayOf_alike hZ.alike Ar35.2.1) Ar35.2.2 hin35 hat35 (g := (fr_tob2 m a2 19 (vI 1) (vR t21) (vI 1) [(iV 1), (.ref a2), (iV 1), (.ref t21)])) rfl rfl (D d22_19)
 refine ownBy st35 ?_
 show oA p e below _ T31 (fr_tob2 m a2 20 (vI 1) (vR t21) (vI 1) [(.int c1), (iV 1), (.ref t21)])
 have f36 := (f29.keep Kq31 (allS g23 all0))
 have f37 := (Nat.le_trans f30 Kq31.1)
 obtain ⟨vv38, _, ⟨T38, L38, k38, n38⟩, -, X38, ⟨Lc38, hQ38, l38, y38, z38⟩, st38⟩ := Jvm.LawKit.callS Xh33 hx (y := yM2) hown (mvT hZ (Wd141 hw)) (mvT hZ (Wd142 hw)) (mvT hZ (Wd74 hw)) (mvT hZ (Wd143 hw)) (by decide) (backOf (W := 0) (c_put l Z a0 hw [] t21 kb21 (4 : Int32) [(.int (oW c0)), (.int (oH c0)), (iV 0), (iV 0)] (1 : Int32) c1 2 T31.heap n0 f37 Aq31 g23 ⟨by decide +kernel, by decide +kernel⟩ ⟨by decide +kernel, by decide +kernel⟩ (by decide +kernel) (by decide +kernel) (oLe rfl) SA SHI SLO f36) hZ (Wd143 hw) (Wd74 hw) (by decide) (by decide)) (g := (fr_tob2 m a2 20 (vI 1) (vR t21) (vI 1) [(.int c1), (iV 1), (.ref t21)])) rfl (by rw [hml]; rfl) (argsL := [(.ref t21), (iV 1), (.int c1)]) (rest := []) (lenOf pd_6 rfl) rfl (by show 2 * 0 + _ ≤ _; exact Nat.le_of_eq rfl) (D d22_20) (fun _ _ => ⟨rfl, rfl, (by decide : 1 + 0 ≤ _), (by decide : 4 + 0 ≤ _)⟩)
 dsimp only [Pt.U, Pt.locs, Pt.cells, Pt.slots] at X38 l38 y38 z38 st38 hQ38
 subst l38 y38 z38
 obtain ⟨rfl, Nq38, Kq38, Ap38⟩ := hQ38
 have Aq38 : Arv Z T38.heap t21 kb21 .byte (4 : Int32) [(.int (oW c0)), (.int (oH c0)), (.int (oW c1)), (.int (oH c1))] (iV 0) := Ap38
 have N39 := Fr.app Nh33 Nq38
 obtain ⟨Lh40, Xh40, Nh40⟩ := oHd 1 4 X38 N39 rfl rfl
 refine ownBy st38 ?_
 clear st38
 show oA p e below _ T38 (fr_tob2 m a2 23 (vI 1) (vR t21) (vI 1) [])
 refine oTo T38 (fr_tob2 m a2 33 (vI 2) (vR t21) (vI 2) [(.ref t21)]) (fun t kt => ?_) ?_
 ·refine XS.iinc Xh40.here hx rfl (D d22_23) rfl (l' := #[vR a2, vI 2, vI 2, vR t21, vI 1]) rfl ?_
  refine XS.iinc Xh40.here hx rfl (D d22_26) rfl (l' := #[vR a2, vI 2, vI 2, vR t21, vI 2]) rfl ?_
  refine XS.goto Xh40.here hx rfl (pc0 := 29) (pc' := 8) rfl (D d22_29) (by decide) (by decide) ?_
  refine XS.iload Xh40.here hx rfl (D d22_8) rfl ?_
  show Steps p.tables e below (T38.setTop (fr_tob2 m a2 10 (vI 2) (vR t21) (vI 2) [(iV 2)])) t
  refine XS.iloadN Xh40.here hx rfl (D d22_10) rfl ?_
  refine XS.icmpYes Xh40.here hx rfl (pc0 := 11) (pc' := 32) rfl (D d22_11) rfl (flt ((by decide) : ¬ ((2 : Int32) < (2 : Int32)))).2.1 (by decide) (by decide) ?_
  refine XS.aloadN Xh40.here hx rfl (D d22_32) rfl rfl ?_
  exact kt
 have f41 := ((((Keep.refl h0 []).trans Kq21 all0).trans Kq31 (allS (Or.inr z24) all0)).trans Kq38 (allS (Or.inr z24) all0))
 refine ownRet Xh40 Bd.notSynchronized (v := some (.ref t21)) (fun h => by rw [Bd.returns] at h; cases h) ?_ (oLe rfl) (oLe rfl) (fun fs hr => retOut Xh40 hx Bd.returns rfl (Or.inr (Or.inr (Or.inr (Or.inr ⟨rfl, rfl, rfl⟩)))) (D d22_33) hr)
 show (Q_tob2 Z a2 kC c0 c1 h0 n0) (some (.ref t21)) T38.heap _
 exact ⟨t21, kb21, rfl, Nh40, f41, z24, Aq38⟩
abbrev fr_cp5_2 (m : MethodId) (a2 : Addr) (ta : Addr) (pc : Nat) (x1_ x3_ x5_ x6_ : Slot) (st : List Value) : JFrame := mkF m pc #[vR a2, x1_, vR ta, x3_, vI 2, x5_, x6_] st
def Q_cp5_2 (Z : State) (a2 : Addr) (kC : ClassId) (ta : Addr) (kb : ClassId) (c0 : Int32) (c1 : Int32) (h0 : Heap) (n0 : Nat) (v : Option Value) (h : Heap) (L : List Loc) : Prop := ∃ r : Int32, v = some (.int r) ∧ Fr n0 L ∧ Keep h0 h [ta] ∧ ((r = (2 : Int32) ∧ ¬ ((255 : Int32) < c0) ∧ ¬ ((255 : Int32) < c1) ∧ Arv Z h ta kb .byte (2 : Int32) [(.int (oL c0)), (.int (oL c1))] (iV 0)) ∨ (r = (0 : Int32) ∧ (255 : Int32) < c0) ∨ (r = (1 : Int32) ∧ (255 : Int32) < c1))
theorem ef_cp5_2 (m : MethodId) (x0 : Addr) (x1 : Int32) (x2 : Addr) (x3 : Int32) (x4 : Int32)  : entryFrame m #[(.ref x0), (.int x1), (.ref x2), (.int x3), (.int x4)] 7 = mkF m 0 #[vR x0, vI x1, vR x2, vI x3, vI x4, .unset, .unset] [] := by first | (simp [entryFrame, mkF, argsToLocals, Value.category]; done) | rfl
set_option maxRecDepth 65536 in
set_option maxHeartbeats 40000000 in
theorem c_cp5_2 (l : Launch) (Z : State) (a0 : Array Value) (hw : HW a0 Z) (ws : List Jvm.Cond) (a2 : Addr) (kC : ClassId) (ta : Addr) (kb : ClassId) (c0 : Int32) (c1 : Int32) (h0 : Heap) (n0 : Nat) (Z0 : n0 ≤ h0.size) (A2 : Arv Z h0 a2 kC .char (2 : Int32) [(.int c0), (.int c1)] (iV 0)) (At : Arv Z h0 ta kb .byte (2 : Int32) [(iV 0), (iV 0)] (iV 0)) (gt : n0 ≤ ta) (ne1 : a2 ≠ ta) :
  MetFree l yM8 (head1 (Jvm.Cond.code yM8 jdk_52_method_21_code 7 (some .int) :: ws) ({ frames := 0, cells := 0, slots := 0, locals := 0 } : Room)) (fun a U => a = #[(.ref a2), (iV 0), (.ref ta), (iV 0), (iV 2)] ∧ Z.Warmed39 U.vm ∧ U.heap = h0) (fun _ _ _ _ _ => True) (fun _ U o U' => ∃ v L, o = .returned v ∧ (Q_cp5_2 Z a2 kC ta kb c0 c1 h0 n0) v U'.heap L ∧ FrameEnd U o U' L ({ frames := 0, cells := 0, slots := 0, locals := 0 } : Room).cells ({ frames := 0, cells := 0, slots := 0, locals := 0 } : Room).slots) := by
 refine MetFree.of_bodySF (plainFor_of_name pn_3) hisR ?_
 intro p e s m args below meth c s₁ Bd hml0 hP hK
 obtain ⟨rfl, hZ, hHp⟩ := hP
 have hx := Bd.exec
 have D := fun {pc : Nat} {r} (h : decode _ pc = r) => hb Bd.bytes h
 have hml : c.maxLocals = 7 := hml0
 have hown : s.vm.findClass "java/lang/StringUTF16" = some m.cls := findClass_of_methodNamed Bd.named
 have hnm := (name_of_methodNamed Bd.named Bd.method).1
 have X0 : Stand p l e ({ frames := 0, cells := 0, slots := 0, locals := 0 } : Room) s m #[(.ref a2), (iV 0), (.ref ta), (iV 0), (iV 2)] below meth c s₁ [] 0 0 := Stand.of_body Bd
 have e0 : s₁.heap = h0 := by rw [← hHp, Bd.state]; rfl
 have N0 := Fr.nil n0
 refine ownOut (P := (Q_cp5_2 Z a2 kC ta kb c0 c1 h0 n0)) ?_
 refine ownBy (A := s₁.setTop (mkF m 0 #[vR a2, vI 0, vR ta, vI 0, vI 2, .unset, .unset] [])) (fun t k => castTop (ef_cp5_2 m a2 (0 : Int32) ta (0 : Int32) (2 : Int32)) k) ?_
 refine oTo s₁ (fr_cp5_2 m a2 ta 12 (vI 0) (vI 0) (vI 0) .unset [(iV 0), (.ref a2)]) (fun t kt => ?_) ?_
 ·refine XS.iconst X0.here hx rfl (D d12_0) ?_
  refine XS.istore X0.here hx rfl (D d12_1) rfl (l' := #[vR a2, vI 0, vR ta, vI 0, vI 2, vI 0, .unset]) rfl ?_
  refine XS.iload X0.here hx rfl (D d12_3) rfl ?_
  refine XS.iload X0.here hx rfl (D d12_5) rfl ?_
  show Steps p.tables e below (s₁.setTop (fr_cp5_2 m a2 ta 7 (vI 0) (vI 0) (vI 0) .unset [(iV 2), (iV 0)])) t
  refine XS.icmpNo X0.here hx rfl (D d12_7) rfl (tlt ((by decide) : (0 : Int32) < (2 : Int32))).2.1 ?_
  refine XS.aloadN X0.here hx rfl (D d12_10) rfl rfl ?_
  refine XS.iloadN X0.here hx rfl (D d12_11) rfl ?_
  exact kt
 obtain ⟨cl21, Ar21, q21, S21, N21, H21, G21⟩ := id A2
 have hin21 : ¬ ((0 : Int32) < 0 ∨ cl21.slots.size ≤ ((0 : Int32)).toNatClampNeg) := inb_of S21 ⟨by decide, by decide⟩
 have hat21 : cl21.slots[((0 : Int32)).toNatClampNeg]? = some (.int c0) := H21.at hin21 rfl
 have st21 := X0.caload hx (j := (0 : Int32)) (v := (.int c0)) (by rw [e0]; exact Ar21.1) (State.isArrayOf_alike hZ.alike Ar21.2.1) Ar21.2.2 hin21 hat21 (g := (fr_cp5_2 m a2 ta 12 (vI 0) (vI 0) (vI 0) .unset [(iV 0), (.ref a2)])) rfl rfl (D d12_12)
 refine ownBy st21 ?_
 show oA p e below _ s₁ (fr_cp5_2 m a2 ta 13 (vI 0) (vI 0) (vI 0) .unset [(.int c0)])
 refine oTo s₁ (fr_cp5_2 m a2 ta 20 (vI 0) (vI 0) (vI 0) (vI c0) [(iV 255), (.int c0)]) (fun t kt => ?_) ?_
 ·refine XS.istore X0.here hx rfl (D d12_13) rfl (l' := #[vR a2, vI 0, vR ta, vI 0, vI 2, vI 0, vI c0]) rfl ?_
  refine XS.iload X0.here hx rfl (D d12_15) rfl ?_
  refine XS.sipush X0.here hx rfl (D d12_17) ?_
  exact kt
 by_cases hc22 : (255 : Int32) < c0
 ·skip
  refine oTo s₁ (fr_cp5_2 m a2 ta 25 (vI 0) (vI 0) (vI 0) (vI c0) [(iV 0)]) (fun t kt => ?_) ?_
  ·refine XS.icmpNo X0.here hx rfl (D d12_20) rfl (tlt hc22).2.2.2 ?_
   refine XS.iload X0.here hx rfl (D d12_23) rfl ?_
   exact kt
  refine ownRet X0 Bd.notSynchronized (v := some (iV 0)) (fun h => by rw [Bd.returns] at h; cases h) ?_ (oLe rfl) (oLe rfl) (fun fs hr => retI X0 hx Bd.returns (D d12_25) hr)
  show (Q_cp5_2 Z a2 kC ta kb c0 c1 h0 n0) (some (iV 0)) s₁.heap _
  rw [e0]
  exact ⟨_, rfl, N0, (Keep.refl h0 [ta]), Or.inr (Or.inl ⟨rfl, hc22⟩)⟩
 ·skip
  refine oTo s₁ (fr_cp5_2 m a2 ta 31 (vI 0) (vI 0) (vI 0) (vI c0) [(.int (c0.toInt8.toInt32)), (iV 0), (.ref ta)]) (fun t kt => ?_) ?_
  ·refine XS.icmpYes X0.here hx rfl (pc0 := 20) (pc' := 26) rfl (D d12_20) rfl (flt hc22).2.2.2 (by decide) (by decide) ?_
   refine XS.aloadN X0.here hx rfl (D d12_26) rfl rfl ?_
   refine XS.iloadN X0.here hx rfl (D d12_27) rfl ?_
   refine XS.iload X0.here hx rfl (D d12_28) rfl ?_
   show Steps p.tables e below (s₁.setTop (fr_cp5_2 m a2 ta 30 (vI 0) (vI 0) (vI 0) (vI c0) [(.int c0), (iV 0), (.ref ta)])) t
   refine XS.i2b X0.here hx rfl (D d12_30) rfl ?_
   exact kt
  obtain ⟨cl23, Ar23, q23, S23, N23, H23, G23⟩ := id At
  have hin23 : ¬ ((0 : Int32) < 0 ∨ cl23.slots.size ≤ ((0 : Int32)).toNatClampNeg) := inb_of S23 ⟨by decide, by decide⟩
  obtain ⟨T23, h23, X23, e23, W23, st23⟩ := stB X0 hx hZ e0 Ar23 (j := (0 : Int32)) hin23 (g := (fr_cp5_2 m a2 ta 31 (vI 0) (vI 0) (vI 0) (vI c0) [(.int (c0.toInt8.toInt32)), (iV 0), (.ref ta)])) rfl rfl (D d12_31)
  have V24 : Arv Z h23 ta kb .byte (2 : Int32) [(.int (nar .byte (c0.toInt8.toInt32))), (iV 0)] (iV 0) := Arv.set Ar23 q23 S23 N23 H23 G23 (fits_nar_byte _) W23 0 rfl (oLe rfl)
  rw [own_nar_byte c0] at V24
  clear hin23 G23 H23 N23 S23 q23 Ar23 cl23
  have N25 := Fr.snoc X23 N0 gt
  obtain ⟨Lh26, Xh26, Nh26⟩ := oHd 0 0 X23 N25 rfl rfl
  refine ownBy st23 ?_
  clear st23
  show oA p e below _ T23 (fr_cp5_2 m a2 ta 32 (vI 0) (vI 0) (vI 0) (vI c0) [])
  refine oTo T23 (fr_cp5_2 m a2 ta 12 (vI 1) (vI 1) (vI 1) (vI c0) [(iV 1), (.ref a2)]) (fun t kt => ?_) ?_
  ·refine XS.iinc Xh26.here hx rfl (D d12_32) rfl (l' := #[vR a2, vI 1, vR ta, vI 0, vI 2, vI 0, vI c0]) rfl ?_
   refine XS.iinc Xh26.here hx rfl (D d12_35) rfl (l' := #[vR a2, vI 1, vR ta, vI 1, vI 2, vI 0, vI c0]) rfl ?_
   refine XS.iinc Xh26.here hx rfl (D d12_38) rfl (l' := #[vR a2, vI 1, vR ta, vI 1, vI 2, vI 1, vI c0]) rfl ?_
   refine XS.goto Xh26.here hx rfl (pc0 := 41) (pc' := 3) rfl (D d12_41) (by decide) (by decide) ?_
   show Steps p.tables e below (T23.setTop (fr_cp5_2 m a2 ta 3 (vI 1) (vI 1) (vI 1) (vI c0) [])) t
   refine XS.iload Xh26.here hx rfl (D d12_3) rfl ?_
   refine XS.iload Xh26.here hx rfl (D d12_5) rfl ?_
   refine XS.icmpNo Xh26.here hx rfl (D d12_7) rfl (tlt ((by decide) : (1 : Int32) < (2 : Int32))).2.1 ?_
   refine XS.aloadN Xh26.here hx rfl (D d12_10) rfl rfl ?_
   show Steps p.tables e below (T23.setTop (fr_cp5_2 m a2 ta 11 (vI 1) (vI 1) (vI 1) (vI c0) [(.ref a2)])) t
   refine XS.iloadN Xh26.here hx rfl (D d12_11) rfl ?_
   exact kt
  have f27 := (A2.other W23 ne1)
  obtain ⟨cl28, Ar28, q28, S28, N28, H28, G28⟩ := id f27
  have hin28 : ¬ ((1 : Int32) < 0 ∨ cl28.slots.size ≤ ((1 : Int32)).toNatClampNeg) := inb_of S28 ⟨by decide, by decide⟩
  have hat28 : cl28.slots[((1 : Int32)).toNatClampNeg]? = some (.int c1) := H28.at hin28 rfl
  have st28 := Xh26.caload hx (j := (1 : Int32)) (v := (.int c1)) (by rw [e23]; exact Ar28.1) (State.isArrayOf_alike hZ.alike Ar28.2.1) Ar28.2.2 hin28 hat28 (g := (fr_cp5_2 m a2 ta 12 (vI 1) (vI 1) (vI 1) (vI c0) [(iV 1), (.ref a2)])) rfl rfl (D d12_12)
  refine ownBy st28 ?_
  show oA p e below _ T23 (fr_cp5_2 m a2 ta 13 (vI 1) (vI 1) (vI 1) (vI c0) [(.int c1)])
  refine oTo T23 (fr_cp5_2 m a2 ta 20 (vI 1) (vI 1) (vI 1) (vI c1) [(iV 255), (.int c1)]) (fun t kt => ?_) ?_
  ·refine XS.istore Xh26.here hx rfl (D d12_13) rfl (l' := #[vR a2, vI 1, vR ta, vI 1, vI 2, vI 1, vI c1]) rfl ?_
   refine XS.iload Xh26.here hx rfl (D d12_15) rfl ?_
   refine XS.sipush Xh26.here hx rfl (D d12_17) ?_
   exact kt
  by_cases hc29 : (255 : Int32) < c1
  ·skip
   refine oTo T23 (fr_cp5_2 m a2 ta 25 (vI 1) (vI 1) (vI 1) (vI c1) [(iV 1)]) (fun t kt => ?_) ?_
   ·refine XS.icmpNo Xh26.here hx rfl (D d12_20) rfl (tlt hc29).2.2.2 ?_
    refine XS.iload Xh26.here hx rfl (D d12_23) rfl ?_
    exact kt
   have f30 := ((Keep.refl h0 [ta]).wr W23 (Or.inl (List.mem_of_getElem? (i := 0) rfl)))
   refine ownRet Xh26 Bd.notSynchronized (v := some (iV 1)) (fun h => by rw [Bd.returns] at h; cases h) ?_ (oLe rfl) (oLe rfl) (fun fs hr => retI Xh26 hx Bd.returns (D d12_25) hr)
   show (Q_cp5_2 Z a2 kC ta kb c0 c1 h0 n0) (some (iV 1)) T23.heap _
   rw [e23]
   exact ⟨_, rfl, Nh26, f30, Or.inr (Or.inr (⟨rfl, hc29⟩))⟩
  ·skip
   refine oTo T23 (fr_cp5_2 m a2 ta 31 (vI 1) (vI 1) (vI 1) (vI c1) [(.int (c1.toInt8.toInt32)), (iV 1), (.ref ta)]) (fun t kt => ?_) ?_
   ·refine XS.icmpYes Xh26.here hx rfl (pc0 := 20) (pc' := 26) rfl (D d12_20) rfl (flt hc29).2.2.2 (by decide) (by decide) ?_
    refine XS.aloadN Xh26.here hx rfl (D d12_26) rfl rfl ?_
    refine XS.iloadN Xh26.here hx rfl (D d12_27) rfl ?_
    refine XS.iload Xh26.here hx rfl (D d12_28) rfl ?_
    show Steps p.tables e below (T23.setTop (fr_cp5_2 m a2 ta 30 (vI 1) (vI 1) (vI 1) (vI c1) [(.int c1), (iV 1), (.ref ta)])) t
    refine XS.i2b Xh26.here hx rfl (D d12_30) rfl ?_
    exact kt
   obtain ⟨cl31, Ar31, q31, S31, N31, H31, G31⟩ := id V24
   have hin31 : ¬ ((1 : Int32) < 0 ∨ cl31.slots.size ≤ ((1 : Int32)).toNatClampNeg) := inb_of S31 ⟨by decide, by decide⟩
   obtain ⟨T31, h31, X31, e31, W31, st31⟩ := stB Xh26 hx hZ e23 Ar31 (j := (1 : Int32)) hin31 (g := (fr_cp5_2 m a2 ta 31 (vI 1) (vI 1) (vI 1) (vI c1) [(.int (c1.toInt8.toInt32)), (iV 1), (.ref ta)])) rfl rfl (D d12_31)
   have V32 : Arv Z h31 ta kb .byte (2 : Int32) [(.int (oL c0)), (.int (nar .byte (c1.toInt8.toInt32)))] (iV 0) := Arv.set Ar31 q31 S31 N31 H31 G31 (fits_nar_byte _) W31 1 rfl (oLe rfl)
   rw [own_nar_byte c1] at V32
   clear hin31 G31 H31 N31 S31 q31 Ar31 cl31 V24
   have N33 := Fr.snoc X31 Nh26 gt
   obtain ⟨Lh34, Xh34, Nh34⟩ := oHd 0 0 X31 N33 rfl rfl
   refine ownBy st31 ?_
   clear st31
   show oA p e below _ T31 (fr_cp5_2 m a2 ta 32 (vI 1) (vI 1) (vI 1) (vI c1) [])
   refine oTo T31 (fr_cp5_2 m a2 ta 46 (vI 2) (vI 2) (vI 2) (vI c1) [(iV 2)]) (fun t kt => ?_) ?_
   ·refine XS.iinc Xh34.here hx rfl (D d12_32) rfl (l' := #[vR a2, vI 2, vR ta, vI 1, vI 2, vI 1, vI c1]) rfl ?_
    refine XS.iinc Xh34.here hx rfl (D d12_35) rfl (l' := #[vR a2, vI 2, vR ta, vI 2, vI 2, vI 1, vI c1]) rfl ?_
    refine XS.iinc Xh34.here hx rfl (D d12_38) rfl (l' := #[vR a2, vI 2, vR ta, vI 2, vI 2, vI 2, vI c1]) rfl ?_
    refine XS.goto Xh34.here hx rfl (pc0 := 41) (pc' := 3) rfl (D d12_41) (by decide) (by decide) ?_
    show Steps p.tables e below (T31.setTop (fr_cp5_2 m a2 ta 3 (vI 2) (vI 2) (vI 2) (vI c1) [])) t
    refine XS.iload Xh34.here hx rfl (D d12_3) rfl ?_
    refine XS.iload Xh34.here hx rfl (D d12_5) rfl ?_
    refine XS.icmpYes Xh34.here hx rfl (pc0 := 7) (pc' := 44) rfl (D d12_7) rfl (flt ((by decide) : ¬ ((2 : Int32) < (2 : Int32)))).2.1 (by decide) (by decide) ?_
    refine XS.iload Xh34.here hx rfl (D d12_44) rfl ?_
    exact kt
   have f35 := (((Keep.refl h0 [ta]).wr W23 (Or.inl (List.mem_of_getElem? (i := 0) rfl))).wr W31 (Or.inl (List.mem_of_getElem? (i := 0) rfl)))
   refine ownRet Xh34 Bd.notSynchronized (v := some (iV 2)) (fun h => by rw [Bd.returns] at h; cases h) ?_ (oLe rfl) (oLe rfl) (fun fs hr => retI Xh34 hx Bd.returns (D d12_46) hr)
   show (Q_cp5_2 Z a2 kC ta kb c0 c1 h0 n0) (some (iV 2)) T31.heap _
   rw [e31]
   exact ⟨_, rfl, Nh34, f35, Or.inl ⟨rfl, hc22, hc29, V32⟩⟩
abbrev fr_cp3_2 (m : MethodId) (a2 : Addr) (pc : Nat) (x3_ x4_ x5_ : Slot) (st : List Value) : JFrame := mkF m pc #[vR a2, vI 0, vI 2, x3_, x4_, x5_] st
def Q_cp3_2 (Z : State) (a2 : Addr) (kC : ClassId) (c0 : Int32) (c1 : Int32) (h0 : Heap) (n0 : Nat) (v : Option Value) (h : Heap) (L : List Loc) : Prop := ∃ (ta : Addr) (kb : ClassId), v = some (.ref ta) ∧ Fr n0 L ∧ Keep h0 h [] ∧ h0.size ≤ ta ∧ ((¬ ((255 : Int32) < c0) ∧ ¬ ((255 : Int32) < c1) ∧ Arv Z h ta kb .byte (2 : Int32) [(.int (oL c0)), (.int (oL c1))] (iV 0)) ∨ (((255 : Int32) < c0 ∨ (255 : Int32) < c1) ∧ Arv Z h ta kb .byte (4 : Int32) [(.int (oW c0)), (.int (oH c0)), (.int (oW c1)), (.int (oH c1))] (iV 0)))
theorem ef_cp3_2 (m : MethodId) (x0 : Addr) (x1 : Int32) (x2 : Int32)  : entryFrame m #[(.ref x0), (.int x1), (.int x2)] 6 = mkF m 0 #[vR x0, vI x1, vI x2, .unset, .unset, .unset] [] := by first | (simp [entryFrame, mkF, argsToLocals, Value.category]; done) | rfl
set_option maxRecDepth 65536 in
set_option maxHeartbeats 40000000 in
theorem c_cp3_2 (l : Launch) (Z : State) (a0 : Array Value) (hw : HW a0 Z) (ws : List Jvm.Cond) (a2 : Addr) (kC : ClassId) (c0 : Int32) (c1 : Int32) (h0 : Heap) (n0 : Nat) (Z0 : n0 ≤ h0.size) (A2 : Arv Z h0 a2 kC .char (2 : Int32) [(.int c0), (.int c1)] (iV 0)) (hc0 : ¬ c0 < 0 ∧ ¬ (65535 : Int32) < c0) (hc1 : ¬ c1 < 0 ∧ ¬ (65535 : Int32) < c1) (SA : Sta Z Z.heap "java/lang/StringUTF16" "$assertionsDisabled" "Z" (iV 1)) (SHI : Sta Z Z.heap "java/lang/StringUTF16" "HI_BYTE_SHIFT" "I" (iV 0)) (SLO : Sta Z Z.heap "java/lang/StringUTF16" "LO_BYTE_SHIFT" "I" (iV 8)) (X00 : Old Z n0 h0) :
  MetFree l yM9 (head1 (Jvm.Cond.code yM9 jdk_52_method_16_code 6 (some (.array .byte)) :: ws) ({ frames := 3, cells := 2, slots := 6, locals := 40 } : Room)) (fun a U => a = #[(.ref a2), (iV 0), (iV 2)] ∧ Z.Warmed39 U.vm ∧ U.heap = h0) (fun _ _ _ _ _ => True) (fun _ U o U' => ∃ v L, o = .returned v ∧ (Q_cp3_2 Z a2 kC c0 c1 h0 n0) v U'.heap L ∧ FrameEnd U o U' L ({ frames := 3, cells := 2, slots := 6, locals := 40 } : Room).cells ({ frames := 3, cells := 2, slots := 6, locals := 40 } : Room).slots) := by
 refine MetFree.of_bodySF (plainFor_of_name pn_3) hisR ?_
 intro p e s m args below meth c s₁ Bd hml0 hP hK
 obtain ⟨rfl, hZ, hHp⟩ := hP
 have hx := Bd.exec
 have D := fun {pc : Nat} {r} (h : decode _ pc = r) => hb Bd.bytes h
 have hml : c.maxLocals = 6 := hml0
 have hown : s.vm.findClass "java/lang/StringUTF16" = some m.cls := findClass_of_methodNamed Bd.named
 have hnm := (name_of_methodNamed Bd.named Bd.method).1
 have X0 : Stand p l e ({ frames := 3, cells := 2, slots := 6, locals := 40 } : Room) s m #[(.ref a2), (iV 0), (iV 2)] below meth c s₁ [] 0 0 := Stand.of_body Bd
 have e0 : s₁.heap = h0 := by rw [← hHp, Bd.state]; rfl
 have N0 := Fr.nil n0
 refine ownOut (P := (Q_cp3_2 Z a2 kC c0 c1 h0 n0)) ?_
 refine ownBy (A := s₁.setTop (mkF m 0 #[vR a2, vI 0, vI 2, .unset, .unset, .unset] [])) (fun t k => castTop (ef_cp3_2 m a2 (0 : Int32) (2 : Int32)) k) ?_
 refine oTo s₁ (fr_cp3_2 m a2 1 .unset .unset .unset [(iV 2)]) (fun t kt => ?_) ?_
 ·refine XS.iloadN X0.here hx rfl (D d11_0) rfl ?_
  exact kt
 obtain ⟨T21, h21, k21, X21, e21, E21, A21, st21⟩ := newP X0 hx hZ (aty := .byte) (Wd22 hw) e0 (g := (fr_cp3_2 m a2 1 .unset .unset .unset [(iV 2)])) rfl (D d11_1) rfl (by decide : ¬ ((2 : Int32) < (0 : Int32))) (cap := 2) (by decide) (by decide) (by decide) (by decide)
 obtain ⟨b21, g21⟩ : ∃ z, z = h0.size := ⟨_, rfl⟩
 rw [← g21] at A21 st21
 have ne22 : a2 ≠ b21 := Nat.ne_of_lt (Nat.lt_of_lt_of_le A2.lt (Nat.le_of_eq g21.symm))
 have g23 : n0 ≤ b21 := Nat.le_trans Z0 (Nat.le_of_eq g21.symm)
 have z24 : h0.size ≤ b21 := Nat.le_trans (Nat.le_refl h0.size) (Nat.le_of_eq g21.symm)
 have V25 : Arv Z h21 b21 k21 .byte (2 : Int32) [(iV 0), (iV 0)] (iV 0) := (Arv.new A21 (by decide)).pad (pad_rep [] (iV 0) 2)
 refine ownBy st21 ?_
 clear st21
 show oA p e below _ T21 (fr_cp3_2 m a2 3 .unset .unset .unset [(.ref b21)])
 refine oTo T21 (fr_cp3_2 m a2 9 (vR b21) .unset .unset [(iV 2), (iV 0), (.ref b21), (iV 0), (.ref a2)]) (fun t kt => ?_) ?_
 ·refine XS.astoreN X21.here hx rfl (D d11_3) rfl rfl (l' := #[vR a2, vI 0, vI 2, vR b21, .unset, .unset]) rfl ?_
  refine XS.aloadN X21.here hx rfl (D d11_4) rfl rfl ?_
  refine XS.iloadN X21.here hx rfl (D d11_5) rfl ?_
  refine XS.aloadN X21.here hx rfl (D d11_6) rfl rfl ?_
  show Steps p.tables e below (T21.setTop (fr_cp3_2 m a2 7 (vR b21) .unset .unset [(.ref b21), (iV 0), (.ref a2)])) t
  refine XS.iconst X21.here hx rfl (D d11_7) ?_
  refine XS.iloadN X21.here hx rfl (D d11_8) rfl ?_
  exact kt
 have f26 := (A2.ext E21)
 have f27 := (Nat.le_trans Z0 E21.1)
 obtain ⟨vv28, _, ⟨T28, L28, k28, n28⟩, -, X28, ⟨Lc28, hQ28, l28, y28, z28⟩, st28⟩ := Jvm.LawKit.callS X21 hx (y := yM8) hown (mvT hZ (Wd76 hw)) (mvT hZ (Wd77 hw)) (mvT hZ (Wd74 hw)) (mvT hZ (Wd78 hw)) (by decide) (backOf (W := 0) (c_cp5_2 l Z a0 hw [] a2 kC b21 k21 c0 c1 h21 n0 f27 f26 V25 g23 ne22) hZ (Wd78 hw) (Wd74 hw) (by decide) (by decide)) (g := (fr_cp3_2 m a2 9 (vR b21) .unset .unset [(iV 2), (iV 0), (.ref b21), (iV 0), (.ref a2)])) rfl (by rw [hml]; rfl) (argsL := [(.ref a2), (iV 0), (.ref b21), (iV 0), (iV 2)]) (rest := []) (lenOf pd_7 rfl) rfl (by show 2 * 0 + _ ≤ _; exact Nat.le_of_eq rfl) (D d11_9) (fun _ _ => ⟨rfl, e21, (by decide : 1 + 0 ≤ _), (by decide : 2 + 0 ≤ _)⟩)
 dsimp only [Pt.U, Pt.locs, Pt.cells, Pt.slots] at X28 l28 y28 z28 st28 hQ28
 subst l28 y28 z28
 obtain ⟨r28, rfl, Nq28, Kq28, hB28⟩ := hQ28
 rcases hB28 with ⟨rfl, hn28_0, hn28_1, Aq28⟩ | hF
 ·skip
  have N29 := Fr.app N0 Nq28
  obtain ⟨Lh30, Xh30, Nh30⟩ := oHd 1 2 X28 N29 rfl rfl
  refine ownBy st28 ?_
  clear st28
  show oA p e below _ T28 (fr_cp3_2 m a2 12 (vR b21) .unset .unset [(iV 2)])
  refine oTo T28 (fr_cp3_2 m a2 58 (vR b21) (vI 2) .unset [(.ref b21)]) (fun t kt => ?_) ?_
  ·refine XS.istore Xh30.here hx rfl (D d11_12) rfl (l' := #[vR a2, vI 0, vI 2, vR b21, vI 2, .unset]) rfl ?_
   refine XS.iload Xh30.here hx rfl (D d11_14) rfl ?_
   refine XS.iloadN Xh30.here hx rfl (D d11_16) rfl ?_
   refine XS.icmpYes Xh30.here hx rfl (pc0 := 17) (pc' := 57) rfl (D d11_17) rfl (teq ((by decide) : (2 : Int32) = (2 : Int32))).1 (by decide) (by decide) ?_
   show Steps p.tables e below (T28.setTop (fr_cp3_2 m a2 57 (vR b21) (vI 2) .unset [])) t
   refine XS.aloadN Xh30.here hx rfl (D d11_57) rfl rfl ?_
   exact kt
  have f31 := (((Keep.refl h0 []).ext E21).trans Kq28 (allS (Or.inr z24) all0))
  refine ownRet Xh30 Bd.notSynchronized (v := some (.ref b21)) (fun h => by rw [Bd.returns] at h; cases h) ?_ (oLe rfl) (oLe rfl) (fun fs hr => retOut Xh30 hx Bd.returns rfl (Or.inr (Or.inr (Or.inr (Or.inr ⟨rfl, rfl, rfl⟩)))) (D d11_58) hr)
  show (Q_cp3_2 Z a2 kC c0 c1 h0 n0) (some (.ref b21)) T28.heap _
  exact ⟨b21, k21, rfl, Nh30, f31, z24, Or.inl ⟨hn28_0, hn28_1, Aq28⟩⟩
 ·skip
  have N32 := Fr.app N0 Nq28
  obtain ⟨Lh33, Xh33, Nh33⟩ := oHd 1 2 X28 N32 rfl rfl
  refine ownBy st28 ?_
  clear st28
  show oA p e below _ T28 (fr_cp3_2 m a2 12 (vR b21) .unset .unset [(.int r28)])
  have hr : ¬ (r28 = (2 : Int32)) := by
   rcases hF with ⟨rfl, -⟩ | ⟨rfl, -⟩ <;> decide
  refine oTo T28 (fr_cp3_2 m a2 23 (vR b21) (vI r28) .unset [(iV 2), (iV 0), (.ref a2)]) (fun t kt => ?_) ?_
  ·refine XS.istore Xh33.here hx rfl (D d11_12) rfl (l' := #[vR a2, vI 0, vI 2, vR b21, vI r28, .unset]) rfl ?_
   refine XS.iload Xh33.here hx rfl (D d11_14) rfl ?_
   refine XS.iloadN Xh33.here hx rfl (D d11_16) rfl ?_
   refine XS.icmpNo Xh33.here hx rfl (D d11_17) rfl (feq hr).1 ?_
   show Steps p.tables e below (T28.setTop (fr_cp3_2 m a2 20 (vR b21) (vI r28) .unset [])) t
   refine XS.aloadN Xh33.here hx rfl (D d11_20) rfl rfl ?_
   refine XS.iloadN Xh33.here hx rfl (D d11_21) rfl ?_
   refine XS.iloadN Xh33.here hx rfl (D d11_22) rfl ?_
   exact kt
  have f34 := (f26.keep Kq28 (ninS ne22 nin0))
  have f35 := ((X00.ext E21).keep Kq28 (allS g23 all0))
  have f36 := (Nat.le_trans f27 Kq28.1)
  obtain ⟨vv37, _, ⟨T37, L37, k37, n37⟩, -, X37, ⟨Lc37, hQ37, l37, y37, z37⟩, st37⟩ := Jvm.LawKit.callS Xh33 hx (y := yM7) hown (mvT hZ (Wd131 hw)) (mvT hZ (Wd132 hw)) (mvT hZ (Wd74 hw)) (mvT hZ (Wd133 hw)) (by decide) (backOf (W := 0) (c_tob2 l Z a0 hw [] a2 kC c0 c1 T28.heap n0 f36 f34 SA SHI SLO f35) hZ (Wd133 hw) (Wd74 hw) (by decide) (by decide)) (g := (fr_cp3_2 m a2 23 (vR b21) (vI r28) .unset [(iV 2), (iV 0), (.ref a2)])) rfl (by rw [hml]; rfl) (argsL := [(.ref a2), (iV 0), (iV 2)]) (rest := []) (lenOf pd_8 rfl) rfl (by show 2 * 0 + _ ≤ _; exact Nat.le_of_eq rfl) (D d11_23) (fun _ _ => ⟨rfl, rfl, (by decide : 1 + 1 ≤ _), (by decide : 2 + 4 ≤ _)⟩)
  dsimp only [Pt.U, Pt.locs, Pt.cells, Pt.slots] at X37 l37 y37 z37 st37 hQ37
  subst l37 y37 z37
  obtain ⟨t37, kb37, rfl, Nq37, Kq37, zq37, Aq37⟩ := hQ37
  have ne38 : a2 ≠ t37 := Nat.ne_of_lt (Nat.lt_of_lt_of_le f34.lt zq37)
  have g39 : n0 ≤ t37 := Nat.le_trans f36 zq37
  have f41 := (Nat.le_trans (Nat.le_trans (Nat.le_refl h0.size) E21.1) Kq28.1)
  have z40 : h0.size ≤ t37 := Nat.le_trans f41 zq37
  have N42 := Fr.app Nh33 Nq37
  obtain ⟨Lh43, Xh43, Nh43⟩ := oHd 2 6 X37 N42 rfl rfl
  refine ownBy st37 ?_
  clear st37
  show oA p e below _ T37 (fr_cp3_2 m a2 26 (vR b21) (vI r28) .unset [(.ref t37)])
  refine oTo T37 (fr_cp3_2 m a2 32 (vR b21) (vI r28) (vR t37) [(.int r28), (.ref t37)]) (fun t kt => ?_) ?_
  ·refine XS.astore Xh43.here hx rfl (D d11_26) rfl rfl (l' := #[vR a2, vI 0, vI 2, vR b21, vI r28, vR t37]) rfl ?_
   refine XS.aload Xh43.here hx rfl (D d11_28) rfl rfl ?_
   refine XS.iload Xh43.here hx rfl (D d11_30) rfl ?_
   exact kt
  obtain ⟨cM, kM, q0, q1, k0, k1, u0, u1, hcM, hgM⟩ : ∃ (cM : Int32) (kM : Nat), (¬ (r28 <<< ((1 : Int32) &&& 31)) < 0 ∧ (r28 <<< ((1 : Int32) &&& 31)) < (4 : Int32)) ∧ (¬ ((r28 <<< ((1 : Int32) &&& 31)) + (1 : Int32)) < 0 ∧ ((r28 <<< ((1 : Int32) &&& 31)) + (1 : Int32)) < (4 : Int32)) ∧ (r28 <<< ((1 : Int32) &&& 31)).toNatClampNeg = kM ∧ ((r28 <<< ((1 : Int32) &&& 31)) + (1 : Int32)).toNatClampNeg = kM + 1 ∧ ([(.int (oW c0)), (.int (oH c0)), (.int (oW c1)), (.int (oH c1))] : List Value).getD kM (iV 0) = .int (oW cM) ∧ ([(.int (oW c0)), (.int (oH c0)), (.int (oW c1)), (.int (oH c1))] : List Value).getD (kM + 1) (iV 0) = .int (oH cM) ∧ (¬ cM < 0 ∧ ¬ (65535 : Int32) < cM) ∧ (255 : Int32) < cM := by
   rcases hF with ⟨rfl, h⟩ | ⟨rfl, h⟩
   ·exact ⟨c0, 0, by decide +kernel, by decide +kernel, by decide +kernel, by decide +kernel, rfl, rfl, hc0, h⟩
   ·exact ⟨c1, 2, by decide +kernel, by decide +kernel, by decide +kernel, by decide +kernel, rfl, rfl, hc1, h⟩
  have f44 := (f35.keep Kq37 all0)
  have f45 := (Nat.le_trans f36 Kq37.1)
  obtain ⟨vv46, _, ⟨T46, L46, k46, n46⟩, -, X46, ⟨Lc46, hQ46, l46, y46, z46⟩, st46⟩ := Jvm.LawKit.callS Xh43 hx (y := yM5) hown (mvT hZ (Wd147 hw)) (mvT hZ (Wd148 hw)) (mvT hZ (Wd74 hw)) (mvT hZ (Wd149 hw)) (by decide) (backOf (W := 0) (c_getc l Z a0 hw [] t37 kb37 (4 : Int32) [(.int (oW c0)), (.int (oH c0)), (.int (oW c1)), (.int (oH c1))] r28 cM kM T37.heap n0 f45 Aq37 q0 q1 k0 k1 u0 u1 hcM SA SHI SLO f44) hZ (Wd149 hw) (Wd74 hw) (by decide) (by decide)) (g := (fr_cp3_2 m a2 32 (vR b21) (vI r28) (vR t37) [(.int r28), (.ref t37)])) rfl (by rw [hml]; rfl) (argsL := [(.ref t37), (.int r28)]) (rest := []) (lenOf pd_9 rfl) rfl (by show 2 * 0 + _ ≤ _; exact Nat.le_of_eq rfl) (D d11_32) (fun _ _ => ⟨rfl, rfl, (by decide : 2 + 0 ≤ _), (by decide : 6 + 0 ≤ _)⟩)
  dsimp only [Pt.U, Pt.locs, Pt.cells, Pt.slots] at X46 l46 y46 z46 st46 hQ46
  subst l46 y46 z46
  obtain ⟨rfl, Nq46, Eq46⟩ := hQ46
  have N47 := Fr.app Nh43 Nq46
  obtain ⟨Lh48, Xh48, Nh48⟩ := oHd 2 6 X46 N47 rfl rfl
  refine ownBy st46 ?_
  clear st46
  show oA p e below _ T46 (fr_cp3_2 m a2 35 (vR b21) (vI r28) (vR t37) [(.int cM)])
  refine oTo T46 (fr_cp3_2 m a2 56 (vR b21) (vI r28) (vR t37) [(.ref t37)]) (fun t kt => ?_) ?_
  ·refine XS.sipush Xh48.here hx rfl (D d11_35) ?_
   refine XS.icmpYes Xh48.here hx rfl (pc0 := 38) (pc' := 54) rfl (D d11_38) rfl (tlt hgM).2.2.1 (by decide) (by decide) ?_
   refine XS.aload Xh48.here hx rfl (D d11_54) rfl rfl ?_
   exact kt
  have hg3 : (255 : Int32) < c0 ∨ (255 : Int32) < c1 := by
   rcases hF with ⟨-, h⟩ | ⟨-, h⟩
   ·exact Or.inl h
   ·exact Or.inr (h)
  have f49 := ((((Keep.refl h0 []).ext E21).trans Kq28 (allS (Or.inr z24) all0)).trans Kq37 all0)
  refine ownRet Xh48 Bd.notSynchronized (v := some (.ref t37)) (fun h => by rw [Bd.returns] at h; cases h) ?_ (oLe rfl) (oLe rfl) (fun fs hr => retOut Xh48 hx Bd.returns rfl (Or.inr (Or.inr (Or.inr (Or.inr ⟨rfl, rfl, rfl⟩)))) (D d11_56) hr)
  show (Q_cp3_2 Z a2 kC c0 c1 h0 n0) (some (.ref t37)) T46.heap _
  rw [Eq46]
  exact ⟨t37, kb37, rfl, Nh48, f49, z40, Or.inr ⟨hg3, Aq37⟩⟩
abbrev fr_ini4_2 (m : MethodId) (a1 : Addr) (a2 : Addr) (pc : Nat) (x5_ : Slot) (st : List Value) : JFrame := mkF m pc #[vR a1, vR a2, vI 0, vI 2, .val .null, x5_] st
def Q_ini4_2 (Z : State) (a1 : Addr) (a2 : Addr) (kC : ClassId) (c0 : Int32) (c1 : Int32) (c9 : Value) (G1 : Int32) (h0 : Heap) (n0 : Nat) (v : Option Value) (h : Heap) (L : List Loc) : Prop := v = none ∧ Fr n0 L ∧ Keep h0 h [a1] ∧ Exa Z h a1 "java/lang/String" ∧ ∃ (ta : Addr) (kb : ClassId) (cd z : Int32) (vs : List Value), h0.size ≤ ta ∧ Fld Z h a1 "java/lang/String" "value" "[B" (.ref ta) ∧ Fld Z h a1 "java/lang/String" "coder" "B" (.int cd) ∧ Arv Z h ta kb .byte z vs (iV 0) ∧ ((cd = (0 : Int32) ∧ z = (2 : Int32) ∧ vs = [(.int (oL c0)), (.int (oL c1))] ∧ ¬ ((255 : Int32) < c0) ∧ ¬ ((255 : Int32) < c1)) ∨ (cd = (1 : Int32) ∧ z = (4 : Int32) ∧ vs = [(.int (oW c0)), (.int (oH c0)), (.int (oW c1)), (.int (oH c1))] ∧ ((255 : Int32) < c0 ∨ (255 : Int32) < c1)))
theorem ef_ini4_2 (m : MethodId) (x0 : Addr) (x1 : Addr) (x2 : Int32) (x3 : Int32)  : entryFrame m #[(.ref x0), (.ref x1), (.int x2), (.int x3), .null] 6 = mkF m 0 #[vR x0, vR x1, vI x2, vI x3, .val .null, .unset] [] := by first | (simp [entryFrame, mkF, argsToLocals, Value.category]; done) | rfl
set_option maxRecDepth 65536 in
set_option maxHeartbeats 40000000 in
theorem c_ini4_2 (l : Launch) (Z : State) (a0 : Array Value) (hw : HW a0 Z) (ws : List Jvm.Cond) (a1 : Addr) (a2 : Addr) (kC : ClassId) (c0 : Int32) (c1 : Int32) (c9 : Value) (G1 : Int32) (h0 : Heap) (n0 : Nat) (Z0 : n0 ≤ h0.size) (E1 : Exa Z h0 a1 "java/lang/String") (F1 : Fld Z h0 a1 "java/lang/String" "value" "[B" .null) (F2 : Fld Z h0 a1 "java/lang/String" "coder" "B" c9) (g1 : n0 ≤ a1) (ne1 : a1 ≠ a2) (A2 : Arv Z h0 a2 kC .char (2 : Int32) [(.int c0), (.int c1)] (iV 0)) (hc0 : ¬ c0 < 0 ∧ ¬ (65535 : Int32) < c0) (hc1 : ¬ c1 < 0 ∧ ¬ (65535 : Int32) < c1) (O2 : Sta Z Z.heap "java/lang/String" "COMPACT_STRINGS" "Z" (.int G1)) (P5 : ¬ (G1 = (0 : Int32))) (SA : Sta Z Z.heap "java/lang/StringUTF16" "$assertionsDisabled" "Z" (iV 1)) (SHI : Sta Z Z.heap "java/lang/StringUTF16" "HI_BYTE_SHIFT" "I" (iV 0)) (SLO : Sta Z Z.heap "java/lang/StringUTF16" "LO_BYTE_SHIFT" "I" (iV 8)) (X00 : Old Z n0 h0) :
  MetFree l yM0 (head1 (Jvm.Cond.code yM0 jdk_42_method_149_code 6 none :: ws) ({ frames := 4, cells := 2, slots := 6, locals := 58 } : Room)) (fun a U => a = #[(.ref a1), (.ref a2), (iV 0), (iV 2), .null] ∧ Z.Warmed39 U.vm ∧ U.heap = h0) (fun _ _ _ _ _ => True) (fun _ U o U' => ∃ v L, o = .returned v ∧ (Q_ini4_2 Z a1 a2 kC c0 c1 c9 G1 h0 n0) v U'.heap L ∧ FrameEnd U o U' L ({ frames := 4, cells := 2, slots := 6, locals := 58 } : Room).cells ({ frames := 4, cells := 2, slots := 6, locals := 58 } : Room).slots) := by
 refine MetFree.of_bodySF (plainFor_of_name pn_1) hisR ?_
 intro p e s m args below meth c s₁ Bd hml0 hP hK
 obtain ⟨rfl, hZ, hHp⟩ := hP
 have hx := Bd.exec
 have D := fun {pc : Nat} {r} (h : decode _ pc = r) => hb Bd.bytes h
 have hml : c.maxLocals = 6 := hml0
 have hown : s.vm.findClass "java/lang/String" = some m.cls := findClass_of_methodNamed Bd.named
 have hnm := (name_of_methodNamed Bd.named Bd.method).1
 have X0 : Stand p l e ({ frames := 4, cells := 2, slots := 6, locals := 58 } : Room) s m #[(.ref a1), (.ref a2), (iV 0), (iV 2), .null] below meth c s₁ [] 0 0 := Stand.of_body Bd
 have e0 : s₁.heap = h0 := by rw [← hHp, Bd.state]; rfl
 have N0 := Fr.nil n0
 refine ownOut (P := (Q_ini4_2 Z a1 a2 kC c0 c1 c9 G1 h0 n0)) ?_
 refine ownBy (A := s₁.setTop (mkF m 0 #[vR a1, vR a2, vI 0, vI 2, .val .null, .unset] [])) (fun t k => castTop (ef_ini4_2 m a1 a2 (0 : Int32) (2 : Int32)) k) ?_
 refine oTo s₁ (fr_ini4_2 m a1 a2 1 .unset [(.ref a1)]) (fun t kt => ?_) ?_
 ·refine XS.aloadN X0.here hx rfl (D d4_0) rfl rfl ?_
  exact kt
 obtain ⟨T21, X21, e21, st21⟩ := initO X0 hx hZ hown (Wd18 hw) (Wd19 hw) (Wd20 hw) e0 (g := (fr_ini4_2 m a1 a2 1 .unset [(.ref a1)])) rfl (by rw [hml]; rfl) rfl (D d4_1) (by decide) (W := 0) (by show 2 * 0 + _ ≤ _; exact Nat.le_of_eq rfl) (by decide)
 refine ownBy st21 ?_
 clear st21
 show oA p e below _ T21 (fr_ini4_2 m a1 a2 4 .unset [])
 refine oTo T21 (fr_ini4_2 m a1 a2 27 .unset []) (fun t kt => ?_) ?_
 ·refine XS.iloadN X21.here hx rfl (D d4_4) rfl ?_
  refine XS.ifYes X21.here hx rfl (pc0 := 5) (pc' := 27) rfl (D d4_5) rfl ((if0 _ _).trans (feq ((by decide) : ¬ ((2 : Int32) = (0 : Int32)))).2) (by decide) (by decide) ?_
  exact kt
 refine own_getS X21 hx hZ hown (host := "") (Or.inl (Wd45 hw)) Via.refl e21 (O2.ext X00.2) (D d4_27) (fun T22 X22 e22 => ?_)
 refine oTo T22 (fr_ini4_2 m a1 a2 36 .unset [(iV 2), (iV 0), (.ref a2)]) (fun t kt => ?_) ?_
 ·refine XS.ifNo X22.here hx rfl (D d4_30) rfl ((if0 _ _).trans (feq P5).1) ?_
  refine XS.aloadN X22.here hx rfl (D d4_33) rfl rfl ?_
  refine XS.iloadN X22.here hx rfl (D d4_34) rfl ?_
  refine XS.iloadN X22.here hx rfl (D d4_35) rfl ?_
  exact kt
 obtain ⟨vv23, _, ⟨T23, L23, k23, n23⟩, -, X23, ⟨Lc23, hQ23, l23, y23, z23⟩, st23⟩ := Jvm.LawKit.callS X22 hx (y := yM9) hown (mvT hZ (Wd72 hw)) (mvT hZ (Wd73 hw)) (mvT hZ (Wd74 hw)) (mvT hZ (Wd75 hw)) (by decide) (backOf (W := 0) (c_cp3_2 l Z a0 hw [] a2 kC c0 c1 h0 n0 Z0 A2 hc0 hc1 SA SHI SLO X00) hZ (Wd75 hw) (Wd74 hw) (by decide) (by decide)) (g := (fr_ini4_2 m a1 a2 36 .unset [(iV 2), (iV 0), (.ref a2)])) rfl (by rw [hml]; rfl) (argsL := [(.ref a2), (iV 0), (iV 2)]) (rest := []) (lenOf pd_8 rfl) rfl (by show 2 * 0 + _ ≤ _; exact Nat.le_of_eq rfl) (D d4_36) (fun _ _ => ⟨rfl, e22, (by decide : 0 + 2 ≤ _), (by decide : 0 + 6 ≤ _)⟩)
 dsimp only [Pt.U, Pt.locs, Pt.cells, Pt.slots] at X23 l23 y23 z23 st23 hQ23
 subst l23 y23 z23
 obtain ⟨t23, kb23, rfl, Nq23, Kq23, zq23, hB23⟩ := hQ23
 have ne24 : a1 ≠ t23 := Nat.ne_of_lt (Nat.lt_of_lt_of_le E1.lt zq23)
 have ne25 : a2 ≠ t23 := Nat.ne_of_lt (Nat.lt_of_lt_of_le A2.lt zq23)
 have g26 : n0 ≤ t23 := Nat.le_trans Z0 zq23
 have z27 : h0.size ≤ t23 := Nat.le_trans (Nat.le_refl h0.size) zq23
 rcases hB23 with ⟨hn23_0, hn23_1, Aq23⟩ | ⟨hg23, Aq23⟩
 ·skip
  have N28 := Fr.app N0 Nq23
  obtain ⟨Lh29, Xh29, Nh29⟩ := oHd 2 6 X23 N28 rfl rfl
  refine ownBy st23 ?_
  clear st23
  show oA p e below _ T23 (fr_ini4_2 m a1 a2 39 .unset [(.ref t23)])
  refine oTo T23 (fr_ini4_2 m a1 a2 45 (vR t23) [(iV 2), (.ref t23), (.ref a1)]) (fun t kt => ?_) ?_
  ·refine XS.astore Xh29.here hx rfl (D d4_39) rfl rfl (l' := #[vR a1, vR a2, vI 0, vI 2, .val .null, vR t23]) rfl ?_
   refine XS.aloadN Xh29.here hx rfl (D d4_41) rfl rfl ?_
   refine XS.aload Xh29.here hx rfl (D d4_42) rfl rfl ?_
   refine XS.iloadN Xh29.here hx rfl (D d4_44) rfl ?_
   exact kt
  have f30 := (Nat.le_trans Z0 Kq23.1)
  obtain ⟨vv31, _, ⟨T31, L31, k31, n31⟩, -, X31, ⟨Lc31, hQ31, l31, y31, z31⟩, st31⟩ := Jvm.LawKit.callS Xh29 hx (y := yM4) hown (mvT hZ (Wd79 hw)) (mvT hZ (Wd80 hw)) (mvT hZ (Wd74 hw)) (mvT hZ (Wd81 hw)) (by decide) (backOf (W := 1) (c_cfa l Z a0 hw [] t23 kb23 (2 : Int32) _ (2 : Int32) (0 : Int32) T23.heap n0 f30 Aq23 (by decide +kernel)) hZ (Wd81 hw) (Wd74 hw) (by decide) (by decide)) (g := (fr_ini4_2 m a1 a2 45 (vR t23) [(iV 2), (.ref t23), (.ref a1)])) rfl (by rw [hml]; rfl) (argsL := [(.ref t23), (iV 2)]) (rest := [(.ref a1)]) (lenOf pd_10 rfl) rfl (by show 2 * 0 + _ ≤ _; exact Nat.le_of_eq rfl) (D d4_45) (fun _ _ => ⟨rfl, rfl, (by decide : 2 + 0 ≤ _), (by decide : 6 + 0 ≤ _)⟩)
  dsimp only [Pt.U, Pt.locs, Pt.cells, Pt.slots] at X31 l31 y31 z31 st31 hQ31
  subst l31 y31 z31
  obtain ⟨rfl, Nq31, Eq31⟩ := hQ31
  have N32 := Fr.app Nh29 Nq31
  obtain ⟨Lh33, Xh33, Nh33⟩ := oHd 2 6 X31 N32 rfl rfl
  refine ownBy st31 ?_
  clear st31
  show oA p e below _ T31 (fr_ini4_2 m a1 a2 48 (vR t23) [(iV 0), (.ref a1)])
  have f35 := (F2.keep Kq23 nin0)
  have f36 := (E1.keep Kq23)
  obtain ⟨T34, h34, X34, e34, W34, st34⟩ := putFN Xh33 hx hZ hown (Wd28 hw) Via.refl Eq31 f35 f36 (Or.inr ⟨(Wd24 hw), rfl, hnm⟩) (Wd8 hw) (ty := .byte) (v' := (iV 0)) (by decide) rfl (fits_nar_byte (0 : Int32)) (g := (fr_ini4_2 m a1 a2 48 (vR t23) [(iV 0), (.ref a1)])) rfl rfl (D d4_48)
  have F37 := f35.same W34
  have N38 := Fr.snoc X34 Nh33 g1
  obtain ⟨Lh39, Xh39, Nh39⟩ := oHd 2 6 X34 N38 rfl rfl
  refine ownBy st34 ?_
  clear st34
  show oA p e below _ T34 (fr_ini4_2 m a1 a2 51 (vR t23) [])
  refine oTo T34 (fr_ini4_2 m a1 a2 54 (vR t23) [(.ref t23), (.ref a1)]) (fun t kt => ?_) ?_
  ·refine XS.aloadN Xh39.here hx rfl (D d4_51) rfl rfl ?_
   refine XS.aload Xh39.here hx rfl (D d4_52) rfl rfl ?_
   exact kt
  have f41 := ((F1.keep Kq23 nin0).other W34 (Or.inr (slot_ne (Or.inr (Wd23 hw)) (Or.inr (Wd24 hw)) (by decide) (t := (.array .byte)) (t' := .byte) (by decide) (by decide))))
  have f42 := (f36.wr W34)
  obtain ⟨T40, h40, X40, e40, W40, st40⟩ := putF Xh39 hx hZ hown (host := "") (Or.inl (Wd27 hw)) Via.refl e34 f41 f42 (Or.inr ⟨(Wd23 hw), rfl, hnm⟩) (Wd8 hw) (ty := (.array .byte)) (by decide) rfl rfl (g := (fr_ini4_2 m a1 a2 54 (vR t23) [(.ref t23), (.ref a1)])) rfl rfl (D d4_54)
  have F43 := f41.same W40
  have N44 := Fr.snoc X40 Nh39 g1
  obtain ⟨Lh45, Xh45, Nh45⟩ := oHd 2 6 X40 N44 rfl rfl
  refine ownBy st40 ?_
  clear st40
  show oA p e below _ T40 (fr_ini4_2 m a1 a2 57 (vR t23) [])
  have f46 := ((((Keep.refl h0 [a1]).trans Kq23 all0).wr W34 (Or.inl (List.mem_of_getElem? (i := 0) rfl))).wr W40 (Or.inl (List.mem_of_getElem? (i := 0) rfl)))
  have f47 := (f42.wr W40)
  have f48 := (F37.other W40 (Or.inr (slot_ne (Or.inr (Wd24 hw)) (Or.inr (Wd23 hw)) (by decide) (t := .byte) (t' := (.array .byte)) (by decide) (by decide))))
  have f49 := ((Aq23.other W34 (Ne.symm ne24)).other W40 (Ne.symm ne24))
  refine ownRet Xh45 Bd.notSynchronized (v := none) (fun _ => rfl) ?_ (oLe rfl) (oLe rfl) (fun fs hr => Xh45.returnOut hx Bd.returns (D d4_57) hr)
  show (Q_ini4_2 Z a1 a2 kC c0 c1 c9 G1 h0 n0) (none) T40.heap _
  rw [e40]
  exact ⟨rfl, Nh45, f46, f47, t23, kb23, _, _, _, z27, F43, f48, f49, Or.inl ⟨rfl, rfl, rfl, hn23_0, hn23_1⟩⟩
 ·skip
  have N50 := Fr.app N0 Nq23
  obtain ⟨Lh51, Xh51, Nh51⟩ := oHd 2 6 X23 N50 rfl rfl
  refine ownBy st23 ?_
  clear st23
  show oA p e below _ T23 (fr_ini4_2 m a1 a2 39 .unset [(.ref t23)])
  refine oTo T23 (fr_ini4_2 m a1 a2 45 (vR t23) [(iV 2), (.ref t23), (.ref a1)]) (fun t kt => ?_) ?_
  ·refine XS.astore Xh51.here hx rfl (D d4_39) rfl rfl (l' := #[vR a1, vR a2, vI 0, vI 2, .val .null, vR t23]) rfl ?_
   refine XS.aloadN Xh51.here hx rfl (D d4_41) rfl rfl ?_
   refine XS.aload Xh51.here hx rfl (D d4_42) rfl rfl ?_
   refine XS.iloadN Xh51.here hx rfl (D d4_44) rfl ?_
   exact kt
  have f52 := (Nat.le_trans Z0 Kq23.1)
  obtain ⟨vv53, _, ⟨T53, L53, k53, n53⟩, -, X53, ⟨Lc53, hQ53, l53, y53, z53⟩, st53⟩ := Jvm.LawKit.callS Xh51 hx (y := yM4) hown (mvT hZ (Wd79 hw)) (mvT hZ (Wd80 hw)) (mvT hZ (Wd74 hw)) (mvT hZ (Wd81 hw)) (by decide) (backOf (W := 1) (c_cfa l Z a0 hw [] t23 kb23 (4 : Int32) _ (2 : Int32) (1 : Int32) T23.heap n0 f52 Aq23 (by decide +kernel)) hZ (Wd81 hw) (Wd74 hw) (by decide) (by decide)) (g := (fr_ini4_2 m a1 a2 45 (vR t23) [(iV 2), (.ref t23), (.ref a1)])) rfl (by rw [hml]; rfl) (argsL := [(.ref t23), (iV 2)]) (rest := [(.ref a1)]) (lenOf pd_10 rfl) rfl (by show 2 * 0 + _ ≤ _; exact Nat.le_of_eq rfl) (D d4_45) (fun _ _ => ⟨rfl, rfl, (by decide : 2 + 0 ≤ _), (by decide : 6 + 0 ≤ _)⟩)
  dsimp only [Pt.U, Pt.locs, Pt.cells, Pt.slots] at X53 l53 y53 z53 st53 hQ53
  subst l53 y53 z53
  obtain ⟨rfl, Nq53, Eq53⟩ := hQ53
  have N54 := Fr.app Nh51 Nq53
  obtain ⟨Lh55, Xh55, Nh55⟩ := oHd 2 6 X53 N54 rfl rfl
  refine ownBy st53 ?_
  clear st53
  show oA p e below _ T53 (fr_ini4_2 m a1 a2 48 (vR t23) [(iV 1), (.ref a1)])
  have f57 := (F2.keep Kq23 nin0)
  have f58 := (E1.keep Kq23)
  obtain ⟨T56, h56, X56, e56, W56, st56⟩ := putFN Xh55 hx hZ hown (Wd28 hw) Via.refl Eq53 f57 f58 (Or.inr ⟨(Wd24 hw), rfl, hnm⟩) (Wd8 hw) (ty := .byte) (v' := (iV 1)) (by decide) rfl (fits_nar_byte (1 : Int32)) (g := (fr_ini4_2 m a1 a2 48 (vR t23) [(iV 1), (.ref a1)])) rfl rfl (D d4_48)
  have F59 := f57.same W56
  have N60 := Fr.snoc X56 Nh55 g1
  obtain ⟨Lh61, Xh61, Nh61⟩ := oHd 2 6 X56 N60 rfl rfl
  refine ownBy st56 ?_
  clear st56
  show oA p e below _ T56 (fr_ini4_2 m a1 a2 51 (vR t23) [])
  refine oTo T56 (fr_ini4_2 m a1 a2 54 (vR t23) [(.ref t23), (.ref a1)]) (fun t kt => ?_) ?_
  ·refine XS.aloadN Xh61.here hx rfl (D d4_51) rfl rfl ?_
   refine XS.aload Xh61.here hx rfl (D d4_52) rfl rfl ?_
   exact kt
  have f63 := ((F1.keep Kq23 nin0).other W56 (Or.inr (slot_ne (Or.inr (Wd23 hw)) (Or.inr (Wd24 hw)) (by decide) (t := (.array .byte)) (t' := .byte) (by decide) (by decide))))
  have f64 := (f58.wr W56)
  obtain ⟨T62, h62, X62, e62, W62, st62⟩ := putF Xh61 hx hZ hown (host := "") (Or.inl (Wd27 hw)) Via.refl e56 f63 f64 (Or.inr ⟨(Wd23 hw), rfl, hnm⟩) (Wd8 hw) (ty := (.array .byte)) (by decide) rfl rfl (g := (fr_ini4_2 m a1 a2 54 (vR t23) [(.ref t23), (.ref a1)])) rfl rfl (D d4_54)
  have F65 := f63.same W62
  have N66 := Fr.snoc X62 Nh61 g1
  obtain ⟨Lh67, Xh67, Nh67⟩ := oHd 2 6 X62 N66 rfl rfl
  refine ownBy st62 ?_
  clear st62
  show oA p e below _ T62 (fr_ini4_2 m a1 a2 57 (vR t23) [])
  have f68 := ((((Keep.refl h0 [a1]).trans Kq23 all0).wr W56 (Or.inl (List.mem_of_getElem? (i := 0) rfl))).wr W62 (Or.inl (List.mem_of_getElem? (i := 0) rfl)))
  have f69 := (f64.wr W62)
  have f70 := (F59.other W62 (Or.inr (slot_ne (Or.inr (Wd24 hw)) (Or.inr (Wd23 hw)) (by decide) (t := .byte) (t' := (.array .byte)) (by decide) (by decide))))
  have f71 := ((Aq23.other W56 (Ne.symm ne24)).other W62 (Ne.symm ne24))
  refine ownRet Xh67 Bd.notSynchronized (v := none) (fun _ => rfl) ?_ (oLe rfl) (oLe rfl) (fun fs hr => Xh67.returnOut hx Bd.returns (D d4_57) hr)
  show (Q_ini4_2 Z a1 a2 kC c0 c1 c9 G1 h0 n0) (none) T62.heap _
  rw [e62]
  exact ⟨rfl, Nh67, f68, f69, t23, kb23, _, _, _, z27, F65, f70, f71, Or.inr ⟨rfl, rfl, rfl, hg23⟩⟩
abbrev fr_inC_2 (m : MethodId) (a1 : Addr) (a2 : Addr) (pc : Nat)  (st : List Value) : JFrame := mkF m pc #[vR a1, vR a2] st
def Q_inC_2 (Z : State) (a1 : Addr) (a2 : Addr) (kC : ClassId) (c0 : Int32) (c1 : Int32) (c9 : Value) (G1 : Int32) (h0 : Heap) (n0 : Nat) (v : Option Value) (h : Heap) (L : List Loc) : Prop := v = none ∧ Fr n0 L ∧ Keep h0 h [a1] ∧ Exa Z h a1 "java/lang/String" ∧ ∃ (ta : Addr) (kb : ClassId) (cd z : Int32) (vs : List Value), h0.size ≤ ta ∧ Fld Z h a1 "java/lang/String" "value" "[B" (.ref ta) ∧ Fld Z h a1 "java/lang/String" "coder" "B" (.int cd) ∧ Arv Z h ta kb .byte z vs (iV 0) ∧ ((cd = (0 : Int32) ∧ z = (2 : Int32) ∧ vs = [(.int (oL c0)), (.int (oL c1))] ∧ ¬ ((255 : Int32) < c0) ∧ ¬ ((255 : Int32) < c1)) ∨ (cd = (1 : Int32) ∧ z = (4 : Int32) ∧ vs = [(.int (oW c0)), (.int (oH c0)), (.int (oW c1)), (.int (oH c1))] ∧ ((255 : Int32) < c0 ∨ (255 : Int32) < c1)))
theorem ef_inC_2 (m : MethodId) (x0 : Addr) (x1 : Addr)  : entryFrame m #[(.ref x0), (.ref x1)] 2 = mkF m 0 #[vR x0, vR x1] [] := by first | (simp [entryFrame, mkF, argsToLocals, Value.category]; done) | rfl
set_option maxRecDepth 65536 in
set_option maxHeartbeats 40000000 in
theorem c_inC_2 (l : Launch) (Z : State) (a0 : Array Value) (hw : HW a0 Z) (ws : List Jvm.Cond) (a1 : Addr) (a2 : Addr) (kC : ClassId) (c0 : Int32) (c1 : Int32) (c9 : Value) (G1 : Int32) (h0 : Heap) (n0 : Nat) (Z0 : n0 ≤ h0.size) (E1 : Exa Z h0 a1 "java/lang/String") (F1 : Fld Z h0 a1 "java/lang/String" "value" "[B" .null) (F2 : Fld Z h0 a1 "java/lang/String" "coder" "B" c9) (g1 : n0 ≤ a1) (ne1 : a1 ≠ a2) (A2 : Arv Z h0 a2 kC .char (2 : Int32) [(.int c0), (.int c1)] (iV 0)) (hc0 : ¬ c0 < 0 ∧ ¬ (65535 : Int32) < c0) (hc1 : ¬ c1 < 0 ∧ ¬ (65535 : Int32) < c1) (O2 : Sta Z Z.heap "java/lang/String" "COMPACT_STRINGS" "Z" (.int G1)) (P5 : ¬ (G1 = (0 : Int32))) (SA : Sta Z Z.heap "java/lang/StringUTF16" "$assertionsDisabled" "Z" (iV 1)) (SHI : Sta Z Z.heap "java/lang/StringUTF16" "HI_BYTE_SHIFT" "I" (iV 0)) (SLO : Sta Z Z.heap "java/lang/StringUTF16" "LO_BYTE_SHIFT" "I" (iV 8)) (X00 : Old Z n0 h0) :
  MetFree l yM1 (head1 (Jvm.Cond.code yM1 jdk_42_method_3_code 2 none :: ws) ({ frames := 5, cells := 2, slots := 6, locals := 75 } : Room)) (fun a U => a = #[(.ref a1), (.ref a2)] ∧ Z.Warmed39 U.vm ∧ U.heap = h0) (fun _ _ _ _ _ => True) (fun _ U o U' => ∃ v L, o = .returned v ∧ (Q_inC_2 Z a1 a2 kC c0 c1 c9 G1 h0 n0) v U'.heap L ∧ FrameEnd U o U' L ({ frames := 5, cells := 2, slots := 6, locals := 75 } : Room).cells ({ frames := 5, cells := 2, slots := 6, locals := 75 } : Room).slots) := by
 refine MetFree.of_bodySF (plainFor_of_name pn_1) hisR ?_
 intro p e s m args below meth c s₁ Bd hml0 hP hK
 obtain ⟨rfl, hZ, hHp⟩ := hP
 have hx := Bd.exec
 have D := fun {pc : Nat} {r} (h : decode _ pc = r) => hb Bd.bytes h
 have hml : c.maxLocals = 2 := hml0
 have hown : s.vm.findClass "java/lang/String" = some m.cls := findClass_of_methodNamed Bd.named
 have hnm := (name_of_methodNamed Bd.named Bd.method).1
 have X0 : Stand p l e ({ frames := 5, cells := 2, slots := 6, locals := 75 } : Room) s m #[(.ref a1), (.ref a2)] below meth c s₁ [] 0 0 := Stand.of_body Bd
 have e0 : s₁.heap = h0 := by rw [← hHp, Bd.state]; rfl
 have N0 := Fr.nil n0
 refine ownOut (P := (Q_inC_2 Z a1 a2 kC c0 c1 c9 G1 h0 n0)) ?_
 refine ownBy (A := s₁.setTop (mkF m 0 #[vR a1, vR a2] [])) (fun t k => castTop (ef_inC_2 m a1 a2) k) ?_
 refine oTo s₁ (fr_inC_2 m a1 a2 4  [(.ref a2), (iV 0), (.ref a2), (.ref a1)]) (fun t kt => ?_) ?_
 ·refine XS.aloadN X0.here hx rfl (D d3_0) rfl rfl ?_
  refine XS.aloadN X0.here hx rfl (D d3_1) rfl rfl ?_
  refine XS.iconst X0.here hx rfl (D d3_2) ?_
  refine XS.aloadN X0.here hx rfl (D d3_3) rfl rfl ?_
  exact kt
 obtain ⟨cl21, Ar21, -, S21, N21, -, -⟩ := id A2
 have st21 := X0.arraylength hx (by rw [e0]; exact Ar21.1) (State.isArrayOf_alike hZ.alike Ar21.2.1) (g := (fr_inC_2 m a1 a2 4  [(.ref a2), (iV 0), (.ref a2), (.ref a1)])) rfl rfl (D d3_4)
 rw [len_of S21 N21] at st21
 refine ownBy st21 ?_
 show oA p e below _ s₁ (fr_inC_2 m a1 a2 5  [(iV 2), (iV 0), (.ref a2), (.ref a1)])
 refine oTo s₁ (fr_inC_2 m a1 a2 6  [.null, (iV 2), (iV 0), (.ref a2), (.ref a1)]) (fun t kt => ?_) ?_
 ·refine XS.aconstNull X0.here hx rfl (D d3_5) ?_
  exact kt
 obtain ⟨vv22, _, ⟨T22, L22, k22, n22⟩, -, X22, ⟨Lc22, hQ22, l22, y22, z22⟩, st22⟩ := X0.specialBack hx (y := yM0) rfl hown (mvT hZ (Wd14 hw)) (mvT hZ (Wd15 hw)) (mvT hZ (Wd17 hw)) (by decide) (backOf (W := 0) (c_ini4_2 l Z a0 hw [] a1 a2 kC c0 c1 _ G1 h0 n0 Z0 E1 F1 F2 g1 ne1 A2 hc0 hc1 O2 P5 SA SHI SLO X00) hZ (Wd17 hw) (Wd9 hw) (by decide) (by decide)) (g := (fr_inC_2 m a1 a2 6  [.null, (iV 2), (iV 0), (.ref a2), (.ref a1)])) rfl (by rw [hml]; rfl) (Steps.refl _) (a := a1) (argsL := [(.ref a2), (iV 0), (iV 2), .null]) (rest := []) (lenOf pd_2 rfl) rfl (by show 2 * 0 + _ ≤ _; exact Nat.le_of_eq rfl) (D d3_6) (fun _ _ => ⟨rfl, e0, (by decide : 0 + 2 ≤ _), (by decide : 0 + 6 ≤ _)⟩)
 dsimp only [Pt.U, Pt.locs, Pt.cells, Pt.slots] at X22 l22 y22 z22 st22 hQ22
 subst l22 y22 z22
 obtain ⟨rfl, Nq22, Kq22, Eq22, t22, kb22, cd22, z22, vs22, zq22, Vq22, Cq22, Aq22, hrel22⟩ := hQ22
 have ne23 : a1 ≠ t22 := Nat.ne_of_lt (Nat.lt_of_lt_of_le E1.lt zq22)
 have ne24 : a2 ≠ t22 := Nat.ne_of_lt (Nat.lt_of_lt_of_le A2.lt zq22)
 have g25 : n0 ≤ t22 := Nat.le_trans Z0 zq22
 have z26 : h0.size ≤ t22 := Nat.le_trans (Nat.le_refl h0.size) zq22
 have N27 := Fr.app N0 Nq22
 obtain ⟨Lh28, Xh28, Nh28⟩ := oHd 2 6 X22 N27 rfl rfl
 refine ownSt st22 ?_
 clear st22
 show oA p e below _ T22 (fr_inC_2 m a1 a2 9  [])
 have f29 := ((Keep.refl h0 [a1]).trans Kq22 (allS (Or.inl (List.mem_of_getElem? (i := 0) rfl)) all0))
 have f30 := (E1.keep Kq22)
 refine ownRet Xh28 Bd.notSynchronized (v := none) (fun _ => rfl) ?_ (oLe rfl) (oLe rfl) (fun fs hr => Xh28.returnOut hx Bd.returns (D d3_9) hr)
 show (Q_inC_2 Z a1 a2 kC c0 c1 c9 G1 h0 n0) (none) T22.heap _
 exact ⟨rfl, Nh28, f29, f30, t22, kb22, _, _, _, z26, Vq22, Cq22, Aq22, hrel22⟩
abbrev fr_nbf3 (m : MethodId)  (pc : Nat)  (st : List Value) : JFrame := mkF m pc #[vI 3] st
def Q_nbf3 (Z : State)  (h0 : Heap) (n0 : Nat) (v : Option Value) (h : Heap) (L : List Loc) : Prop := ∃ (ta : Addr) (kb : ClassId), v = some (.ref ta) ∧ Fr n0 L ∧ Keep h0 h [] ∧ h0.size ≤ ta ∧ Arv Z h ta kb .byte (6 : Int32) [(iV 0), (iV 0), (iV 0), (iV 0), (iV 0), (iV 0)] (iV 0)
theorem ef_nbf3 (m : MethodId) (x0 : Int32)  : entryFrame m #[(.int x0)] 1 = mkF m 0 #[vI x0] [] := by first | (simp [entryFrame, mkF, argsToLocals, Value.category]; done) | rfl
set_option maxRecDepth 65536 in
set_option maxHeartbeats 40000000 in
theorem c_nbf3 (l : Launch) (Z : State) (a0 : Array Value) (hw : HW a0 Z) (ws : List Jvm.Cond)  (h0 : Heap) (n0 : Nat) (Z0 : n0 ≤ h0.size) :
  MetFree l yM6 (head1 (Jvm.Cond.code yM6 jdk_52_method_2_code 1 (some (.array .byte)) :: ws) ({ frames := 1, cells := 1, slots := 6, locals := 12 } : Room)) (fun a U => a = #[(iV 3)] ∧ Z.Warmed39 U.vm ∧ U.heap = h0) (fun _ _ _ _ _ => True) (fun _ U o U' => ∃ v L, o = .returned v ∧ (Q_nbf3 Z  h0 n0) v U'.heap L ∧ FrameEnd U o U' L ({ frames := 1, cells := 1, slots := 6, locals := 12 } : Room).cells ({ frames := 1, cells := 1, slots := 6, locals := 12 } : Room).slots) := by
 refine MetFree.of_bodySF (plainFor_of_name pn_3) hisR ?_
 intro p e s m args below meth c s₁ Bd hml0 hP hK
 obtain ⟨rfl, hZ, hHp⟩ := hP
 have hx := Bd.exec
 have D := fun {pc : Nat} {r} (h : decode _ pc = r) => hb Bd.bytes h
 have hml : c.maxLocals = 1 := hml0
 have hown : s.vm.findClass "java/lang/StringUTF16" = some m.cls := findClass_of_methodNamed Bd.named
 have hnm := (name_of_methodNamed Bd.named Bd.method).1
 have X0 : Stand p l e ({ frames := 1, cells := 1, slots := 6, locals := 12 } : Room) s m #[(iV 3)] below meth c s₁ [] 0 0 := Stand.of_body Bd
 have e0 : s₁.heap = h0 := by rw [← hHp, Bd.state]; rfl
 have N0 := Fr.nil n0
 refine ownOut (P := (Q_nbf3 Z  h0 n0)) ?_
 refine ownBy (A := s₁.setTop (mkF m 0 #[vI 3] [])) (fun t k => castTop (ef_nbf3 m (3 : Int32)) k) ?_
 refine oTo s₁ (fr_nbf3 m  1  [(iV 3)]) (fun t kt => ?_) ?_
 ·refine XS.iloadN X0.here hx rfl (D d23_0) rfl ?_
  exact kt
 obtain ⟨vv21, _, ⟨T21, L21, k21, n21⟩, -, X21, ⟨Lc21, hQ21, l21, y21, z21⟩, st21⟩ := Jvm.LawKit.callS X0 hx (y := yM3) hown (mvT hZ (Wd137 hw)) (mvT hZ (Wd138 hw)) (mvT hZ (Wd74 hw)) (mvT hZ (Wd139 hw)) (by decide) (backOf (W := 0) (c_nbl l Z a0 hw [] (3 : Int32) (6 : Int32) h0 n0 Z0 (by decide) (by decide) (by decide +kernel)) hZ (Wd139 hw) (Wd74 hw) (by decide) (by decide)) (g := (fr_nbf3 m  1  [(iV 3)])) rfl (by rw [hml]; rfl) (argsL := [(iV 3)]) (rest := []) (lenOf pd_4 rfl) rfl (by show 2 * 0 + _ ≤ _; exact Nat.le_of_eq rfl) (D d23_1) (fun _ _ => ⟨rfl, e0, (by decide : 0 + 0 ≤ _), (by decide : 0 + 0 ≤ _)⟩)
 dsimp only [Pt.U, Pt.locs, Pt.cells, Pt.slots] at X21 l21 y21 z21 st21 hQ21
 subst l21 y21 z21
 obtain ⟨rfl, Nq21, Eq21⟩ := hQ21
 have N22 := Fr.app N0 Nq21
 obtain ⟨Lh23, Xh23, Nh23⟩ := oHd 0 0 X21 N22 rfl rfl
 refine ownBy st21 ?_
 clear st21
 show oA p e below _ T21 (fr_nbf3 m  4  [(iV 6)])
 obtain ⟨T24, h24, k24, X24, e24, E24, A24, st24⟩ := newP Xh23 hx hZ (aty := .byte) (Wd22 hw) Eq21 (g := (fr_nbf3 m  4  [(iV 6)])) rfl (D d23_4) rfl (by decide : ¬ ((6 : Int32) < (0 : Int32))) (cap := 6) (by decide) (by decide) (by decide) (by decide)
 obtain ⟨b24, g24⟩ : ∃ z, z = h0.size := ⟨_, rfl⟩
 rw [← g24] at A24 st24
 have g25 : n0 ≤ b24 := Nat.le_trans Z0 (Nat.le_of_eq g24.symm)
 have z26 : h0.size ≤ b24 := Nat.le_trans (Nat.le_refl h0.size) (Nat.le_of_eq g24.symm)
 have V27 : Arv Z h24 b24 k24 .byte (6 : Int32) [(iV 0), (iV 0), (iV 0), (iV 0), (iV 0), (iV 0)] (iV 0) := (Arv.new A24 (by decide)).pad (pad_rep [] (iV 0) 6)
 refine ownBy st24 ?_
 clear st24
 show oA p e below _ T24 (fr_nbf3 m  6  [(.ref b24)])
 have f28 := ((Keep.refl h0 []).ext E24)
 refine ownRet X24 Bd.notSynchronized (v := some (.ref b24)) (fun h => by rw [Bd.returns] at h; cases h) ?_ (oLe rfl) (oLe rfl) (fun fs hr => retOut X24 hx Bd.returns rfl (Or.inr (Or.inr (Or.inr (Or.inr ⟨rfl, rfl, rfl⟩)))) (D d23_6) hr)
 show (Q_nbf3 Z  h0 n0) (some (.ref b24)) T24.heap _
 rw [e24]
 exact ⟨b24, k24, rfl, Nh23, f28, z26, V27⟩
abbrev fr_tob3 (m : MethodId) (a2 : Addr) (pc : Nat) (x1_ x3_ x4_ : Slot) (st : List Value) : JFrame := mkF m pc #[vR a2, x1_, vI 3, x3_, x4_] st
def Q_tob3 (Z : State) (a2 : Addr) (kC : ClassId) (c0 : Int32) (c1 : Int32) (c2 : Int32) (h0 : Heap) (n0 : Nat) (v : Option Value) (h : Heap) (L : List Loc) : Prop := ∃ (ta : Addr) (kb : ClassId), v = some (.ref ta) ∧ Fr n0 L ∧ Keep h0 h [] ∧ h0.size ≤ ta ∧ Arv Z h ta kb .byte (6 : Int32) [(.int (oW c0)), (.int (oH c0)), (.int (oW c1)), (.int (oH c1)), (.int (oW c2)), (.int (oH c2))] (iV 0)
theorem ef_tob3 (m : MethodId) (x0 : Addr) (x1 : Int32) (x2 : Int32)  : entryFrame m #[(.ref x0), (.int x1), (.int x2)] 5 = mkF m 0 #[vR x0, vI x1, vI x2, .unset, .unset] [] := by first | (simp [entryFrame, mkF, argsToLocals, Value.category]; done) | rfl
set_option maxRecDepth 65536 in
set_option maxHeartbeats 40000000 in
theorem c_tob3 (l : Launch) (Z : State) (a0 : Array Value) (hw : HW a0 Z) (ws : List Jvm.Cond) (a2 : Addr) (kC : ClassId) (c0 : Int32) (c1 : Int32) (c2 : Int32) (h0 : Heap) (n0 : Nat) (Z0 : n0 ≤ h0.size) (A2 : Arv Z h0 a2 kC .char (3 : Int32) [(.int c0), (.int c1), (.int c2)] (iV 0)) (SA : Sta Z Z.heap "java/lang/StringUTF16" "$assertionsDisabled" "Z" (iV 1)) (SHI : Sta Z Z.heap "java/lang/StringUTF16" "HI_BYTE_SHIFT" "I" (iV 0)) (SLO : Sta Z Z.heap "java/lang/StringUTF16" "LO_BYTE_SHIFT" "I" (iV 8)) (X00 : Old Z n0 h0) :
  MetFree l yM7 (head1 (Jvm.Cond.code yM7 jdk_52_method_14_code 5 (some (.array .byte)) :: ws) ({ frames := 2, cells := 1, slots := 6, locals := 24 } : Room)) (fun a U => a = #[(.ref a2), (iV 0), (iV 3)] ∧ Z.Warmed39 U.vm ∧ U.heap = h0) (fun _ _ _ _ _ => True) (fun _ U o U' => ∃ v L, o = .returned v ∧ (Q_tob3 Z a2 kC c0 c1 c2 h0 n0) v U'.heap L ∧ FrameEnd U o U' L ({ frames := 2, cells := 1, slots := 6, locals := 24 } : Room).cells ({ frames := 2, cells := 1, slots := 6, locals := 24 } : Room).slots) := by
 refine MetFree.of_bodySF (plainFor_of_name pn_3) hisR ?_
 intro p e s m args below meth c s₁ Bd hml0 hP hK
 obtain ⟨rfl, hZ, hHp⟩ := hP
 have hx := Bd.exec
 have D := fun {pc : Nat} {r} (h : decode _ pc = r) => hb Bd.bytes h
 have hml : c.maxLocals = 5 := hml0
 have hown : s.vm.findClass "java/lang/StringUTF16" = some m.cls := findClass_of_methodNamed Bd.named
 have hnm := (name_of_methodNamed Bd.named Bd.method).1
 have X0 : Stand p l e ({ frames := 2, cells := 1, slots := 6, locals := 24 } : Room) s m #[(.ref a2), (iV 0), (iV 3)] below meth c s₁ [] 0 0 := Stand.of_body Bd
 have e0 : s₁.heap = h0 := by rw [← hHp, Bd.state]; rfl
 have N0 := Fr.nil n0
 refine ownOut (P := (Q_tob3 Z a2 kC c0 c1 c2 h0 n0)) ?_
 refine ownBy (A := s₁.setTop (mkF m 0 #[vR a2, vI 0, vI 3, .unset, .unset] [])) (fun t k => castTop (ef_tob3 m a2 (0 : Int32) (3 : Int32)) k) ?_
 refine oTo s₁ (fr_tob3 m a2 1 (vI 0) .unset .unset [(iV 3)]) (fun t kt => ?_) ?_
 ·refine XS.iloadN X0.here hx rfl (D d22_0) rfl ?_
  exact kt
 obtain ⟨vv21, _, ⟨T21, L21, k21, n21⟩, -, X21, ⟨Lc21, hQ21, l21, y21, z21⟩, st21⟩ := Jvm.LawKit.callS X0 hx (y := yM6) hown (mvT hZ (Wd134 hw)) (mvT hZ (Wd135 hw)) (mvT hZ (Wd74 hw)) (mvT hZ (Wd136 hw)) (by decide) (backOf (W := 0) (c_nbf3 l Z a0 hw []  h0 n0 Z0 ) hZ (Wd136 hw) (Wd74 hw) (by decide) (by decide)) (g := (fr_tob3 m a2 1 (vI 0) .unset .unset [(iV 3)])) rfl (by rw [hml]; rfl) (argsL := [(iV 3)]) (rest := []) (lenOf pd_5 rfl) rfl (by show 2 * 0 + _ ≤ _; exact Nat.le_of_eq rfl) (D d22_1) (fun _ _ => ⟨rfl, e0, (by decide : 0 + 1 ≤ _), (by decide : 0 + 6 ≤ _)⟩)
 dsimp only [Pt.U, Pt.locs, Pt.cells, Pt.slots] at X21 l21 y21 z21 st21 hQ21
 subst l21 y21 z21
 obtain ⟨t21, kb21, rfl, Nq21, Kq21, zq21, Aq21⟩ := hQ21
 have ne22 : a2 ≠ t21 := Nat.ne_of_lt (Nat.lt_of_lt_of_le A2.lt zq21)
 have g23 : n0 ≤ t21 := Nat.le_trans Z0 zq21
 have z24 : h0.size ≤ t21 := Nat.le_trans (Nat.le_refl h0.size) zq21
 have N25 := Fr.app N0 Nq21
 obtain ⟨Lh26, Xh26, Nh26⟩ := oHd 1 6 X21 N25 rfl rfl
 refine ownBy st21 ?_
 clear st21
 show oA p e below _ T21 (fr_tob3 m a2 4 (vI 0) .unset .unset [(.ref t21)])
 refine oTo T21 (fr_tob3 m a2 19 (vI 0) (vR t21) (vI 0) [(iV 0), (.ref a2), (iV 0), (.ref t21)]) (fun t kt => ?_) ?_
 ·refine XS.astoreN Xh26.here hx rfl (D d22_4) rfl rfl (l' := #[vR a2, vI 0, vI 3, vR t21, .unset]) rfl ?_
  refine XS.iconst Xh26.here hx rfl (D d22_5) ?_
  refine XS.istore Xh26.here hx rfl (D d22_6) rfl (l' := #[vR a2, vI 0, vI 3, vR t21, vI 0]) rfl ?_
  refine XS.iload Xh26.here hx rfl (D d22_8) rfl ?_
  show Steps p.tables e below (T21.setTop (fr_tob3 m a2 10 (vI 0) (vR t21) (vI 0) [(iV 0)])) t
  refine XS.iloadN Xh26.here hx rfl (D d22_10) rfl ?_
  refine XS.icmpNo Xh26.here hx rfl (D d22_11) rfl (tlt ((by decide) : (0 : Int32) < (3 : Int32))).2.1 ?_
  refine XS.aloadN Xh26.here hx rfl (D d22_14) rfl rfl ?_
  refine XS.iload Xh26.here hx rfl (D d22_15) rfl ?_
  show Steps p.tables e below (T21.setTop (fr_tob3 m a2 17 (vI 0) (vR t21) (vI 0) [(iV 0), (.ref t21)])) t
  refine XS.aloadN Xh26.here hx rfl (D d22_17) rfl rfl ?_
  refine XS.iloadN Xh26.here hx rfl (D d22_18) rfl ?_
  exact kt
 have f27 := (A2.keep Kq21 nin0)
 obtain ⟨cl28, Ar28, q28, S28, N28, H28, G28⟩ := id f27
 have hin28 : ¬ ((0 : Int32) < 0 ∨ cl28.slots.size ≤ ((0 : Int32)).toNatClampNeg) := inb_of S28 ⟨by decide, by decide⟩
 have hat28 : cl28.slots[((0 : Int32)).toNatClampNeg]? = some (.int c0) := H28.at hin28 rfl
 have st28 := Xh26.caload hx (j := (0 : Int32)) (v := (.int c0)) Ar28.1 (State.isArrayOf_alike hZ.alike Ar28.2.1) Ar28.2.2 hin28 hat28 (g := (fr_tob3 m a2 19 (vI 0) (vR t21) (vI 0) [(iV 0), (.ref a2), (iV 0), (.ref t21)])) rfl rfl (D d22_19)
 refine ownBy st28 ?_
 show oA p e below _ T21 (fr_tob3 m a2 20 (vI 0) (vR t21) (vI 0) [(.int c0), (iV 0), (.ref t21)])
 have f29 := (X00.keep Kq21 all0)
 have f30 := (Nat.le_trans Z0 Kq21.1)
 obtain ⟨vv31, _, ⟨T31, L31, k31, n31⟩, -, X31, ⟨Lc31, hQ31, l31, y31, z31⟩, st31⟩ := Jvm.LawKit.callS Xh26 hx (y := yM2) hown (mvT hZ (Wd141 hw)) (mvT hZ (Wd142 hw)) (mvT hZ (Wd74 hw)) (mvT hZ (Wd143 hw)) (by decide) (backOf (W := 0) (c_put l Z a0 hw [] t21 kb21 (6 : Int32) [(iV 0), (iV 0), (iV 0), (iV 0), (iV 0), (iV 0)] (0 : Int32) c0 0 T21.heap n0 f30 Aq21 g23 ⟨by decide +kernel, by decide +kernel⟩ ⟨by decide +kernel, by decide +kernel⟩ (by decide +kernel) (by decide +kernel) (oLe rfl) SA SHI SLO f29) hZ (Wd143 hw) (Wd74 hw) (by decide) (by decide)) (g := (fr_tob3 m a2 20 (vI 0) (vR t21) (vI 0) [(.int c0), (iV 0), (.ref t21)])) rfl (by rw [hml]; rfl) (argsL := [(.ref t21), (iV 0), (.int c0)]) (rest := []) (lenOf pd_6 rfl) rfl (by show 2 * 0 + _ ≤ _; exact Nat.le_of_eq rfl) (D d22_20) (fun _ _ => ⟨rfl, rfl, (by decide : 1 + 0 ≤ _), (by decide : 6 + 0 ≤ _)⟩)
 dsimp only [Pt.U, Pt.locs, Pt.cells, Pt.slots] at X31 l31 y31 z31 st31 hQ31
 subst l31 y31 z31
 obtain ⟨rfl, Nq31, Kq31, Ap31⟩ := hQ31
 have Aq31 : Arv Z T31.heap t21 kb21 .byte (6 : Int32) [(.int (oW c0)), (.int (oH c0)), (iV 0), (iV 0), (iV 0), (iV 0)] (iV 0) := Ap31
 have N32 := Fr.app Nh26 Nq31
 obtain ⟨Lh33, Xh33, Nh33⟩ := oHd 1 6 X31 N32 rfl rfl
 refine ownBy st31 ?_
 clear st31
 show oA p e below _ T31 (fr_tob3 m a2 23 (vI 0) (vR t21) (vI 0) [])
 refine oTo T31 (fr_tob3 m a2 19 (vI 1) (vR t21) (vI 1) [(iV 1), (.ref a2), (iV 1), (.ref t21)]) (fun t kt => ?_) ?_
 ·refine XS.iinc Xh33.here hx rfl (D d22_23) rfl (l' := #[vR a2, vI 1, vI 3, vR t21, vI 0]) rfl ?_
  refine XS.iinc Xh33.here hx rfl (D d22_26) rfl (l' := #[vR a2, vI 1, vI 3, vR t21, vI 1]) rfl ?_
  refine XS.goto Xh33.here hx rfl (pc0 := 29) (pc' := 8) rfl (D d22_29) (by decide) (by decide) ?_
  refine XS.iload Xh33.here hx rfl (D d22_8) rfl ?_
  show Steps p.tables e below (T31.setTop (fr_tob3 m a2 10 (vI 1) (vR t21) (vI 1) [(iV 1)])) t
  refine XS.iloadN Xh33.here hx rfl (D d22_10) rfl ?_
  refine XS.icmpNo Xh33.here hx rfl (D d22_11) rfl (tlt ((by decide) : (1 : Int32) < (3 : Int32))).2.1 ?_
  refine XS.aloadN Xh33.here hx rfl (D d22_14) rfl rfl ?_
  refine XS.iload Xh33.here hx rfl (D d22_15) rfl ?_
  show Steps p.tables e below (T31.setTop (fr_tob3 m a2 17 (vI 1) (vR t21) (vI 1) [(iV 1), (.ref t21)])) t
  refine XS.aloadN Xh33.here hx rfl (D d22_17) rfl rfl ?_
  refine XS.iloadN Xh33.here hx rfl (D d22_18) rfl ?_
  exact kt
 have f34 := (f27.keep Kq31 (ninS ne22 nin0))
 obtain ⟨cl35, Ar35, q35, S35, N35, H35, G35⟩ := id f34
 have hin35 : ¬ ((1 : Int32) < 0 ∨ cl35.slots.size ≤ ((1 : Int32)).toNatClampNeg) := inb_of S35 ⟨by decide, by decide⟩
 have hat35 : cl35.slots[((1 : Int32)).toNatClampNeg]? = some (.int c1) := H35.at hin35 rfl
 have st35 := Xh33.caload hx (j := (1 : Int32)) (v := (.int c1)) Ar35.1 (State.isArrayOf_alike hZ.alike Ar35.2.1) Ar35.2.2 hin35 hat35 (g := (fr_tob3 m a2 19 (vI 1) (vR t21) (vI 1) [(iV 1), (.ref a2), (iV 1), (.ref t21)])) rfl rfl (D d22_19)
 refine ownBy st35 ?_
 show oA p e below _ T31 (fr_tob3 m a2 20 (vI 1) (vR t21) (vI 1) [(.int c1), (iV 1), (.ref t21)])
 have f36 := (f29.keep Kq31 (allS g23 all0))
 have f37 := (Nat.le_trans f30 Kq31.1)
 obtain ⟨vv38, _, ⟨T38, L38, k38, n38⟩, -, X38, ⟨Lc38, hQ38, l38, y38, z38⟩, st38⟩ := Jvm.LawKit.callS Xh33 hx (y := yM2) hown (mvT hZ (Wd141 hw)) (mvT hZ (Wd142 hw)) (mvT hZ (Wd74 hw)) (mvT hZ (Wd143 hw)) (by decide) (backOf (W := 0) (c_put l Z a0 hw [] t21 kb21 (6 : Int32) [(.int (oW c0)), (.int (oH c0)), (iV 0), (iV 0), (iV 0), (iV 0)] (1 : Int32) c1 2 T31.heap n0 f37 Aq31 g23 ⟨by decide +kernel, by decide +kernel⟩ ⟨by decide +kernel, by decide +kernel⟩ (by decide +kernel) (by decide +kernel) (oLe rfl) SA SHI SLO f36) hZ (Wd143 hw) (Wd74 hw) (by decide) (by decide)) (g := (fr_tob3 m a2 20 (vI 1) (vR t21) (vI 1) [(.int c1), (iV 1), (.ref t21)])) rfl (by rw [hml]; rfl) (argsL := [(.ref t21), (iV 1), (.int c1)]) (rest := []) (lenOf pd_6 rfl) rfl (by show 2 * 0 + _ ≤ _; exact Nat.le_of_eq rfl) (D d22_20) (fun _ _ => ⟨rfl, rfl, (by decide : 1 + 0 ≤ _), (by decide : 6 + 0 ≤ _)⟩)
 dsimp only [Pt.U, Pt.locs, Pt.cells, Pt.slots] at X38 l38 y38 z38 st38 hQ38
 subst l38 y38 z38
 obtain ⟨rfl, Nq38, Kq38, Ap38⟩ := hQ38
 have Aq38 : Arv Z T38.heap t21 kb21 .byte (6 : Int32) [(.int (oW c0)), (.int (oH c0)), (.int (oW c1)), (.int (oH c1)), (iV 0), (iV 0)] (iV 0) := Ap38
 have N39 := Fr.app Nh33 Nq38
 obtain ⟨Lh40, Xh40, Nh40⟩ := oHd 1 6 X38 N39 rfl rfl
 refine ownBy st38 ?_
 clear st38
 show oA p e below _ T38 (fr_tob3 m a2 23 (vI 1) (vR t21) (vI 1) [])
 refine oTo T38 (fr_tob3 m a2 19 (vI 2) (vR t21) (vI 2) [(iV 2), (.ref a2), (iV 2), (.ref t21)]) (fun t kt => ?_) ?_
 ·refine XS.iinc Xh40.here hx rfl (D d22_23) rfl (l' := #[vR a2, vI 2, vI 3, vR t21, vI 1]) rfl ?_
  refine XS.iinc Xh40.here hx rfl (D d22_26) rfl (l' := #[vR a2, vI 2, vI 3, vR t21, vI 2]) rfl ?_
  refine XS.goto Xh40.here hx rfl (pc0 := 29) (pc' := 8) rfl (D d22_29) (by decide) (by decide) ?_
  refine XS.iload Xh40.here hx rfl (D d22_8) rfl ?_
  show Steps p.tables e below (T38.setTop (fr_tob3 m a2 10 (vI 2) (vR t21) (vI 2) [(iV 2)])) t
  refine XS.iloadN Xh40.here hx rfl (D d22_10) rfl ?_
  refine XS.icmpNo Xh40.here hx rfl (D d22_11) rfl (tlt ((by decide) : (2 : Int32) < (3 : Int32))).2.1 ?_
  refine XS.aloadN Xh40.here hx rfl (D d22_14) rfl rfl ?_
  refine XS.iload Xh40.here hx rfl (D d22_15) rfl ?_
  show Steps p.tables e below (T38.setTop (fr_tob3 m a2 17 (vI 2) (vR t21) (vI 2) [(iV 2), (.ref t21)])) t
  refine XS.aloadN Xh40.here hx rfl (D d22_17) rfl rfl ?_
  refine XS.iloadN Xh40.here hx rfl (D d22_18) rfl ?_
  exact kt
 have f41 := (f34.keep Kq38 (ninS ne22 nin0))
 obtain ⟨cl42, Ar42, q42, S42, N42, H42, G42⟩ := id f41
 have hin42 : ¬ ((2 : Int32) < 0 ∨ cl42.slots.size ≤ ((2 : Int32)).toNatClampNeg) := inb_of S42 ⟨by decide, by decide⟩
 have hat42 : cl42.slots[((2 : Int32)).toNatClampNeg]? = some (.int c2) := H42.at hin42 rfl
 have st42 := Xh40.caload hx (j := (2 : Int32)) (v := (.int c2)) Ar42.1 (State.isArrayOf_alike hZ.alike Ar42.2.1) Ar42.2.2 hin42 hat42 (g := (fr_tob3 m a2 19 (vI 2) (vR t21) (vI 2) [(iV 2), (.ref a2), (iV 2), (.ref t21)])) rfl rfl (D d22_19)
 refine ownBy st42 ?_
 show oA p e below _ T38 (fr_tob3 m a2 20 (vI 2) (vR t21) (vI 2) [(.int c2), (iV 2), (.ref t21)])
 have f43 := (f36.keep Kq38 (allS g23 all0))
 have f44 := (Nat.le_trans f37 Kq38.1)
 obtain ⟨vv45, _, ⟨T45, L45, k45, n45⟩, -, X45, ⟨Lc45, hQ45, l45, y45, z45⟩, st45⟩ := Jvm.LawKit.callS Xh40 hx (y := yM2) hown (mvT hZ (Wd141 hw)) (mvT hZ (Wd142 hw)) (mvT hZ (Wd74 hw)) (mvT hZ (Wd143 hw)) (by decide) (backOf (W := 0) (c_put l Z a0 hw [] t21 kb21 (6 : Int32) [(.int (oW c0)), (.int (oH c0)), (.int (oW c1)), (.int (oH c1)), (iV 0), (iV 0)] (2 : Int32) c2 4 T38.heap n0 f44 Aq38 g23 ⟨by decide +kernel, by decide +kernel⟩ ⟨by decide +kernel, by decide +kernel⟩ (by decide +kernel) (by decide +kernel) (oLe rfl) SA SHI SLO f43) hZ (Wd143 hw) (Wd74 hw) (by decide) (by decide)) (g := (fr_tob3 m a2 20 (vI 2) (vR t21) (vI 2) [(.int c2), (iV 2), (.ref t21)])) rfl (by rw [hml]; rfl) (argsL := [(.ref t21), (iV 2), (.int c2)]) (rest := []) (lenOf pd_6 rfl) rfl (by show 2 * 0 + _ ≤ _; exact Nat.le_of_eq rfl) (D d22_20) (fun _ _ => ⟨rfl, rfl, (by decide : 1 + 0 ≤ _), (by decide : 6 + 0 ≤ _)⟩)
 dsimp only [Pt.U, Pt.locs, Pt.cells, Pt.slots] at X45 l45 y45 z45 st45 hQ45
 subst l45 y45 z45
 obtain ⟨rfl, Nq45, Kq45, Ap45⟩ := hQ45
 have Aq45 : Arv Z T45.heap t21 kb21 .byte (6 : Int32) [(.int (oW c0)), (.int (oH c0)), (.int (oW c1)), (.int (oH c1)), (.int (oW c2)), (.int (oH c2))] (iV 0) := Ap45
 have N46 := Fr.app Nh40 Nq45
 obtain ⟨Lh47, Xh47, Nh47⟩ := oHd 1 6 X45 N46 rfl rfl
 refine ownBy st45 ?_
 clear st45
 show oA p e below _ T45 (fr_tob3 m a2 23 (vI 2) (vR t21) (vI 2) [])
 refine oTo T45 (fr_tob3 m a2 33 (vI 3) (vR t21) (vI 3) [(.ref t21)]) (fun t kt => ?_) ?_
 ·refine XS.iinc Xh47.here hx rfl (D d22_23) rfl (l' := #[vR a2, vI 3, vI 3, vR t21, vI 2]) rfl ?_
  refine XS.iinc Xh47.here hx rfl (D d22_26) rfl (l' := #[vR a2, vI 3, vI 3, vR t21, vI 3]) rfl ?_
  refine XS.goto Xh47.here hx rfl (pc0 := 29) (pc' := 8) rfl (D d22_29) (by decide) (by decide) ?_
  refine XS.iload Xh47.here hx rfl (D d22_8) rfl ?_
  show Steps p.tables e below (T45.setTop (fr_tob3 m a2 10 (vI 3) (vR t21) (vI 3) [(iV 3)])) t
  refine XS.iloadN Xh47.here hx rfl (D d22_10) rfl ?_
  refine XS.icmpYes Xh47.here hx rfl (pc0 := 11) (pc' := 32) rfl (D d22_11) rfl (flt ((by decide) : ¬ ((3 : Int32) < (3 : Int32)))).2.1 (by decide) (by decide) ?_
  refine XS.aloadN Xh47.here hx rfl (D d22_32) rfl rfl ?_
  exact kt
 have f48 := (((((Keep.refl h0 []).trans Kq21 all0).trans Kq31 (allS (Or.inr z24) all0)).trans Kq38 (allS (Or.inr z24) all0)).trans Kq45 (allS (Or.inr z24) all0))
 refine ownRet Xh47 Bd.notSynchronized (v := some (.ref t21)) (fun h => by rw [Bd.returns] at h; cases h) ?_ (oLe rfl) (oLe rfl) (fun fs hr => retOut Xh47 hx Bd.returns rfl (Or.inr (Or.inr (Or.inr (Or.inr ⟨rfl, rfl, rfl⟩)))) (D d22_33) hr)
 show (Q_tob3 Z a2 kC c0 c1 c2 h0 n0) (some (.ref t21)) T45.heap _
 exact ⟨t21, kb21, rfl, Nh47, f48, z24, Aq45⟩
abbrev fr_cp5_3 (m : MethodId) (a2 : Addr) (ta : Addr) (pc : Nat) (x1_ x3_ x5_ x6_ : Slot) (st : List Value) : JFrame := mkF m pc #[vR a2, x1_, vR ta, x3_, vI 3, x5_, x6_] st
def Q_cp5_3 (Z : State) (a2 : Addr) (kC : ClassId) (ta : Addr) (kb : ClassId) (c0 : Int32) (c1 : Int32) (c2 : Int32) (h0 : Heap) (n0 : Nat) (v : Option Value) (h : Heap) (L : List Loc) : Prop := ∃ r : Int32, v = some (.int r) ∧ Fr n0 L ∧ Keep h0 h [ta] ∧ ((r = (3 : Int32) ∧ ¬ ((255 : Int32) < c0) ∧ ¬ ((255 : Int32) < c1) ∧ ¬ ((255 : Int32) < c2) ∧ Arv Z h ta kb .byte (3 : Int32) [(.int (oL c0)), (.int (oL c1)), (.int (oL c2))] (iV 0)) ∨ (r = (0 : Int32) ∧ (255 : Int32) < c0) ∨ (r = (1 : Int32) ∧ (255 : Int32) < c1) ∨ (r = (2 : Int32) ∧ (255 : Int32) < c2))
theorem ef_cp5_3 (m : MethodId) (x0 : Addr) (x1 : Int32) (x2 : Addr) (x3 : Int32) (x4 : Int32)  : entryFrame m #[(.ref x0), (.int x1), (.ref x2), (.int x3), (.int x4)] 7 = mkF m 0 #[vR x0, vI x1, vR x2, vI x3, vI x4, .unset, .unset] [] := by first | (simp [entryFrame, mkF, argsToLocals, Value.category]; done) | rfl
set_option maxRecDepth 65536 in
set_option maxHeartbeats 40000000 in
theorem c_cp5_3 (l : Launch) (Z : State) (a0 : Array Value) (hw : HW a0 Z) (ws : List Jvm.Cond) (a2 : Addr) (kC : ClassId) (ta : Addr) (kb : ClassId) (c0 : Int32) (c1 : Int32) (c2 : Int32) (h0 : Heap) (n0 : Nat) (Z0 : n0 ≤ h0.size) (A2 : Arv Z h0 a2 kC .char (3 : Int32) [(.int c0), (.int c1), (.int c2)] (iV 0)) (At : Arv Z h0 ta kb .byte (3 : Int32) [(iV 0), (iV 0), (iV 0)] (iV 0)) (gt : n0 ≤ ta) (ne1 : a2 ≠ ta) :
  MetFree l yM8 (head1 (Jvm.Cond.code yM8 jdk_52_method_21_code 7 (some .int) :: ws) ({ frames := 0, cells := 0, slots := 0, locals := 0 } : Room)) (fun a U => a = #[(.ref a2), (iV 0), (.ref ta), (iV 0), (iV 3)] ∧ Z.Warmed39 U.vm ∧ U.heap = h0) (fun _ _ _ _ _ => True) (fun _ U o U' => ∃ v L, o = .returned v ∧ (Q_cp5_3 Z a2 kC ta kb c0 c1 c2 h0 n0) v U'.heap L ∧ FrameEnd U o U' L ({ frames := 0, cells := 0, slots := 0, locals := 0 } : Room).cells ({ frames := 0, cells := 0, slots := 0, locals := 0 } : Room).slots) := by
 refine MetFree.of_bodySF (plainFor_of_name pn_3) hisR ?_
 intro p e s m args below meth c s₁ Bd hml0 hP hK
 obtain ⟨rfl, hZ, hHp⟩ := hP
 have hx := Bd.exec
 have D := fun {pc : Nat} {r} (h : decode _ pc = r) => hb Bd.bytes h
 have hml : c.maxLocals = 7 := hml0
 have hown : s.vm.findClass "java/lang/StringUTF16" = some m.cls := findClass_of_methodNamed Bd.named
 have hnm := (name_of_methodNamed Bd.named Bd.method).1
 have X0 : Stand p l e ({ frames := 0, cells := 0, slots := 0, locals := 0 } : Room) s m #[(.ref a2), (iV 0), (.ref ta), (iV 0), (iV 3)] below meth c s₁ [] 0 0 := Stand.of_body Bd
 have e0 : s₁.heap = h0 := by rw [← hHp, Bd.state]; rfl
 have N0 := Fr.nil n0
 refine ownOut (P := (Q_cp5_3 Z a2 kC ta kb c0 c1 c2 h0 n0)) ?_
 refine ownBy (A := s₁.setTop (mkF m 0 #[vR a2, vI 0, vR ta, vI 0, vI 3, .unset, .unset] [])) (fun t k => castTop (ef_cp5_3 m a2 (0 : Int32) ta (0 : Int32) (3 : Int32)) k) ?_
 refine oTo s₁ (fr_cp5_3 m a2 ta 12 (vI 0) (vI 0) (vI 0) .unset [(iV 0), (.ref a2)]) (fun t kt => ?_) ?_
 ·refine XS.iconst X0.here hx rfl (D d12_0) ?_
  refine XS.istore X0.here hx rfl (D d12_1) rfl (l' := #[vR a2, vI 0, vR ta, vI 0, vI 3, vI 0, .unset]) rfl ?_
  refine XS.iload X0.here hx rfl (D d12_3) rfl ?_
  refine XS.iload X0.here hx rfl (D d12_5) rfl ?_
  show Steps p.tables e below (s₁.setTop (fr_cp5_3 m a2 ta 7 (vI 0) (vI 0) (vI 0) .unset [(iV 3), (iV 0)])) t
  refine XS.icmpNo X0.here hx rfl (D d12_7) rfl (tlt ((by decide) : (0 : Int32) < (3 : Int32))).2.1 ?_
  refine XS.aloadN X0.here hx rfl (D d12_10) rfl rfl ?_
  refine XS.iloadN X0.here hx rfl (D d12_11) rfl ?_
  exact kt
 obtain ⟨cl21, Ar21, q21, S21, N21, H21, G21⟩ := id A2
 have hin21 : ¬ ((0 : Int32) < 0 ∨ cl21.slots.size ≤ ((0 : Int32)).toNatClampNeg) := inb_of S21 ⟨by decide, by decide⟩
 have hat21 : cl21.slots[((0 : Int32)).toNatClampNeg]? = some (.int c0) := H21.at hin21 rfl
 have st21 := X0.caload hx (j := (0 : Int32)) (v := (.int c0)) (by rw [e0]; exact Ar21.1) (State.isArrayOf_alike hZ.alike Ar21.2.1) Ar21.2.2 hin21 hat21 (g := (fr_cp5_3 m a2 ta 12 (vI 0) (vI 0) (vI 0) .unset [(iV 0), (.ref a2)])) rfl rfl (D d12_12)
 refine ownBy st21 ?_
 show oA p e below _ s₁ (fr_cp5_3 m a2 ta 13 (vI 0) (vI 0) (vI 0) .unset [(.int c0)])
 refine oTo s₁ (fr_cp5_3 m a2 ta 20 (vI 0) (vI 0) (vI 0) (vI c0) [(iV 255), (.int c0)]) (fun t kt => ?_) ?_
 ·refine XS.istore X0.here hx rfl (D d12_13) rfl (l' := #[vR a2, vI 0, vR ta, vI 0, vI 3, vI 0, vI c0]) rfl ?_
  refine XS.iload X0.here hx rfl (D d12_15) rfl ?_
  refine XS.sipush X0.here hx rfl (D d12_17) ?_
  exact kt
 by_cases hc22 : (255 : Int32) < c0
 ·skip
  refine oTo s₁ (fr_cp5_3 m a2 ta 25 (vI 0) (vI 0) (vI 0) (vI c0) [(iV 0)]) (fun t kt => ?_) ?_
  ·refine XS.icmpNo X0.here hx rfl (D d12_20) rfl (tlt hc22).2.2.2 ?_
   refine XS.iload X0.here hx rfl (D d12_23) rfl ?_
   exact kt
  refine ownRet X0 Bd.notSynchronized (v := some (iV 0)) (fun h => by rw [Bd.returns] at h; cases h) ?_ (oLe rfl) (oLe rfl) (fun fs hr => retI X0 hx Bd.returns (D d12_25) hr)
  show (Q_cp5_3 Z a2 kC ta kb c0 c1 c2 h0 n0) (some (iV 0)) s₁.heap _
  rw [e0]
  exact ⟨_, rfl, N0, (Keep.refl h0 [ta]), Or.inr (Or.inl ⟨rfl, hc22⟩)⟩
 ·skip
  refine oTo s₁ (fr_cp5_3 m a2 ta 31 (vI 0) (vI 0) (vI 0) (vI c0) [(.int (c0.toInt8.toInt32)), (iV 0), (.ref ta)]) (fun t kt => ?_) ?_
  ·refine XS.icmpYes X0.here hx rfl (pc0 := 20) (pc' := 26) rfl (D d12_20) rfl (flt hc22).2.2.2 (by decide) (by decide) ?_
   refine XS.aloadN X0.here hx rfl (D d12_26) rfl rfl ?_
   refine XS.iloadN X0.here hx rfl (D d12_27) rfl ?_
   refine XS.iload X0.here hx rfl (D d12_28) rfl ?_
   show Steps p.tables e below (s₁.setTop (fr_cp5_3 m a2 ta 30 (vI 0) (vI 0) (vI 0) (vI c0) [(.int c0), (iV 0), (.ref ta)])) t
   refine XS.i2b X0.here hx rfl (D d12_30) rfl ?_
   exact kt
  obtain ⟨cl23, Ar23, q23, S23, N23, H23, G23⟩ := id At
  have hin23 : ¬ ((0 : Int32) < 0 ∨ cl23.slots.size ≤ ((0 : Int32)).toNatClampNeg) := inb_of S23 ⟨by decide, by decide⟩
  obtain ⟨T23, h23, X23, e23, W23, st23⟩ := stB X0 hx hZ e0 Ar23 (j := (0 : Int32)) hin23 (g := (fr_cp5_3 m a2 ta 31 (vI 0) (vI 0) (vI 0) (vI c0) [(.int (c0.toInt8.toInt32)), (iV 0), (.ref ta)])) rfl rfl (D d12_31)
  have V24 : Arv Z h23 ta kb .byte (3 : Int32) [(.int (nar .byte (c0.toInt8.toInt32))), (iV 0), (iV 0)] (iV 0) := Arv.set Ar23 q23 S23 N23 H23 G23 (fits_nar_byte _) W23 0 rfl (oLe rfl)
  rw [own_nar_byte c0] at V24
  clear hin23 G23 H23 N23 S23 q23 Ar23 cl23
  have N25 := Fr.snoc X23 N0 gt
  obtain ⟨Lh26, Xh26, Nh26⟩ := oHd 0 0 X23 N25 rfl rfl
  refine ownBy st23 ?_
  clear st23
  show oA p e below _ T23 (fr_cp5_3 m a2 ta 32 (vI 0) (vI 0) (vI 0) (vI c0) [])
  refine oTo T23 (fr_cp5_3 m a2 ta 12 (vI 1) (vI 1) (vI 1) (vI c0) [(iV 1), (.ref a2)]) (fun t kt => ?_) ?_
  ·refine XS.iinc Xh26.here hx rfl (D d12_32) rfl (l' := #[vR a2, vI 1, vR ta, vI 0, vI 3, vI 0, vI c0]) rfl ?_
   refine XS.iinc Xh26.here hx rfl (D d12_35) rfl (l' := #[vR a2, vI 1, vR ta, vI 1, vI 3, vI 0, vI c0]) rfl ?_
   refine XS.iinc Xh26.here hx rfl (D d12_38) rfl (l' := #[vR a2, vI 1, vR ta, vI 1, vI 3, vI 1, vI c0]) rfl ?_
   refine XS.goto Xh26.here hx rfl (pc0 := 41) (pc' := 3) rfl (D d12_41) (by decide) (by decide) ?_
   show Steps p.tables e below (T23.setTop (fr_cp5_3 m a2 ta 3 (vI 1) (vI 1) (vI 1) (vI c0) [])) t
   refine XS.iload Xh26.here hx rfl (D d12_3) rfl ?_
   refine XS.iload Xh26.here hx rfl (D d12_5) rfl ?_
   refine XS.icmpNo Xh26.here hx rfl (D d12_7) rfl (tlt ((by decide) : (1 : Int32) < (3 : Int32))).2.1 ?_
   refine XS.aloadN Xh26.here hx rfl (D d12_10) rfl rfl ?_
   show Steps p.tables e below (T23.setTop (fr_cp5_3 m a2 ta 11 (vI 1) (vI 1) (vI 1) (vI c0) [(.ref a2)])) t
   refine XS.iloadN Xh26.here hx rfl (D d12_11) rfl ?_
   exact kt
  have f27 := (A2.other W23 ne1)
  obtain ⟨cl28, Ar28, q28, S28, N28, H28, G28⟩ := id f27
  have hin28 : ¬ ((1 : Int32) < 0 ∨ cl28.slots.size ≤ ((1 : Int32)).toNatClampNeg) := inb_of S28 ⟨by decide, by decide⟩
  have hat28 : cl28.slots[((1 : Int32)).toNatClampNeg]? = some (.int c1) := H28.at hin28 rfl
  have st28 := Xh26.caload hx (j := (1 : Int32)) (v := (.int c1)) (by rw [e23]; exact Ar28.1) (State.isArrayOf_alike hZ.alike Ar28.2.1) Ar28.2.2 hin28 hat28 (g := (fr_cp5_3 m a2 ta 12 (vI 1) (vI 1) (vI 1) (vI c0) [(iV 1), (.ref a2)])) rfl rfl (D d12_12)
  refine ownBy st28 ?_
  show oA p e below _ T23 (fr_cp5_3 m a2 ta 13 (vI 1) (vI 1) (vI 1) (vI c0) [(.int c1)])
  refine oTo T23 (fr_cp5_3 m a2 ta 20 (vI 1) (vI 1) (vI 1) (vI c1) [(iV 255), (.int c1)]) (fun t kt => ?_) ?_
  ·refine XS.istore Xh26.here hx rfl (D d12_13) rfl (l' := #[vR a2, vI 1, vR ta, vI 1, vI 3, vI 1, vI c1]) rfl ?_
   refine XS.iload Xh26.here hx rfl (D d12_15) rfl ?_
   refine XS.sipush Xh26.here hx rfl (D d12_17) ?_
   exact kt
  by_cases hc29 : (255 : Int32) < c1
  ·skip
   refine oTo T23 (fr_cp5_3 m a2 ta 25 (vI 1) (vI 1) (vI 1) (vI c1) [(iV 1)]) (fun t kt => ?_) ?_
   ·refine XS.icmpNo Xh26.here hx rfl (D d12_20) rfl (tlt hc29).2.2.2 ?_
    refine XS.iload Xh26.here hx rfl (D d12_23) rfl ?_
    exact kt
   have f30 := ((Keep.refl h0 [ta]).wr W23 (Or.inl (List.mem_of_getElem? (i := 0) rfl)))
   refine ownRet Xh26 Bd.notSynchronized (v := some (iV 1)) (fun h => by rw [Bd.returns] at h; cases h) ?_ (oLe rfl) (oLe rfl) (fun fs hr => retI Xh26 hx Bd.returns (D d12_25) hr)
   show (Q_cp5_3 Z a2 kC ta kb c0 c1 c2 h0 n0) (some (iV 1)) T23.heap _
   rw [e23]
   exact ⟨_, rfl, Nh26, f30, Or.inr (Or.inr (Or.inl ⟨rfl, hc29⟩))⟩
  ·skip
   refine oTo T23 (fr_cp5_3 m a2 ta 31 (vI 1) (vI 1) (vI 1) (vI c1) [(.int (c1.toInt8.toInt32)), (iV 1), (.ref ta)]) (fun t kt => ?_) ?_
   ·refine XS.icmpYes Xh26.here hx rfl (pc0 := 20) (pc' := 26) rfl (D d12_20) rfl (flt hc29).2.2.2 (by decide) (by decide) ?_
    refine XS.aloadN Xh26.here hx rfl (D d12_26) rfl rfl ?_
    refine XS.iloadN Xh26.here hx rfl (D d12_27) rfl ?_
    refine XS.iload Xh26.here hx rfl (D d12_28) rfl ?_
    show Steps p.tables e below (T23.setTop (fr_cp5_3 m a2 ta 30 (vI 1) (vI 1) (vI 1) (vI c1) [(.int c1), (iV 1), (.ref ta)])) t
    refine XS.i2b Xh26.here hx rfl (D d12_30) rfl ?_
    exact kt
   obtain ⟨cl31, Ar31, q31, S31, N31, H31, G31⟩ := id V24
   have hin31 : ¬ ((1 : Int32) < 0 ∨ cl31.slots.size ≤ ((1 : Int32)).toNatClampNeg) := inb_of S31 ⟨by decide, by decide⟩
   obtain ⟨T31, h31, X31, e31, W31, st31⟩ := stB Xh26 hx hZ e23 Ar31 (j := (1 : Int32)) hin31 (g := (fr_cp5_3 m a2 ta 31 (vI 1) (vI 1) (vI 1) (vI c1) [(.int (c1.toInt8.toInt32)), (iV 1), (.ref ta)])) rfl rfl (D d12_31)
   have V32 : Arv Z h31 ta kb .byte (3 : Int32) [(.int (oL c0)), (.int (nar .byte (c1.toInt8.toInt32))), (iV 0)] (iV 0) := Arv.set Ar31 q31 S31 N31 H31 G31 (fits_nar_byte _) W31 1 rfl (oLe rfl)
   rw [own_nar_byte c1] at V32
   clear hin31 G31 H31 N31 S31 q31 Ar31 cl31 V24
   have N33 := Fr.snoc X31 Nh26 gt
   obtain ⟨Lh34, Xh34, Nh34⟩ := oHd 0 0 X31 N33 rfl rfl
   refine ownBy st31 ?_
   clear st31
   show oA p e below _ T31 (fr_cp5_3 m a2 ta 32 (vI 1) (vI 1) (vI 1) (vI c1) [])
   refine oTo T31 (fr_cp5_3 m a2 ta 12 (vI 2) (vI 2) (vI 2) (vI c1) [(iV 2), (.ref a2)]) (fun t kt => ?_) ?_
   ·refine XS.iinc Xh34.here hx rfl (D d12_32) rfl (l' := #[vR a2, vI 2, vR ta, vI 1, vI 3, vI 1, vI c1]) rfl ?_
    refine XS.iinc Xh34.here hx rfl (D d12_35) rfl (l' := #[vR a2, vI 2, vR ta, vI 2, vI 3, vI 1, vI c1]) rfl ?_
    refine XS.iinc Xh34.here hx rfl (D d12_38) rfl (l' := #[vR a2, vI 2, vR ta, vI 2, vI 3, vI 2, vI c1]) rfl ?_
    refine XS.goto Xh34.here hx rfl (pc0 := 41) (pc' := 3) rfl (D d12_41) (by decide) (by decide) ?_
    show Steps p.tables e below (T31.setTop (fr_cp5_3 m a2 ta 3 (vI 2) (vI 2) (vI 2) (vI c1) [])) t
    refine XS.iload Xh34.here hx rfl (D d12_3) rfl ?_
    refine XS.iload Xh34.here hx rfl (D d12_5) rfl ?_
    refine XS.icmpNo Xh34.here hx rfl (D d12_7) rfl (tlt ((by decide) : (2 : Int32) < (3 : Int32))).2.1 ?_
    refine XS.aloadN Xh34.here hx rfl (D d12_10) rfl rfl ?_
    show Steps p.tables e below (T31.setTop (fr_cp5_3 m a2 ta 11 (vI 2) (vI 2) (vI 2) (vI c1) [(.ref a2)])) t
    refine XS.iloadN Xh34.here hx rfl (D d12_11) rfl ?_
    exact kt
   have f35 := (f27.other W31 ne1)
   obtain ⟨cl36, Ar36, q36, S36, N36, H36, G36⟩ := id f35
   have hin36 : ¬ ((2 : Int32) < 0 ∨ cl36.slots.size ≤ ((2 : Int32)).toNatClampNeg) := inb_of S36 ⟨by decide, by decide⟩
   have hat36 : cl36.slots[((2 : Int32)).toNatClampNeg]? = some (.int c2) := H36.at hin36 rfl
   have st36 := Xh34.caload hx (j := (2 : Int32)) (v := (.int c2)) (by rw [e31]; exact Ar36.1) (State.isArrayOf_alike hZ.alike Ar36.2.1) Ar36.2.2 hin36 hat36 (g := (fr_cp5_3 m a2 ta 12 (vI 2) (vI 2) (vI 2) (vI c1) [(iV 2), (.ref a2)])) rfl rfl (D d12_12)
   refine ownBy st36 ?_
   show oA p e below _ T31 (fr_cp5_3 m a2 ta 13 (vI 2) (vI 2) (vI 2) (vI c1) [(.int c2)])
   refine oTo T31 (fr_cp5_3 m a2 ta 20 (vI 2) (vI 2) (vI 2) (vI c2) [(iV 255), (.int c2)]) (fun t kt => ?_) ?_
   ·refine XS.istore Xh34.here hx rfl (D d12_13) rfl (l' := #[vR a2, vI 2, vR ta, vI 2, vI 3, vI 2, vI c2]) rfl ?_
    refine XS.iload Xh34.here hx rfl (D d12_15) rfl ?_
    refine XS.sipush Xh34.here hx rfl (D d12_17) ?_
    exact kt
   by_cases hc37 : (255 : Int32) < c2
   ·skip
    refine oTo T31 (fr_cp5_3 m a2 ta 25 (vI 2) (vI 2) (vI 2) (vI c2) [(iV 2)]) (fun t kt => ?_) ?_
    ·refine XS.icmpNo Xh34.here hx rfl (D d12_20) rfl (tlt hc37).2.2.2 ?_
     refine XS.iload Xh34.here hx rfl (D d12_23) rfl ?_
     exact kt
    have f38 := (((Keep.refl h0 [ta]).wr W23 (Or.inl (List.mem_of_getElem? (i := 0) rfl))).wr W31 (Or.inl (List.mem_of_getElem? (i := 0) rfl)))
    refine ownRet Xh34 Bd.notSynchronized (v := some (iV 2)) (fun h => by rw [Bd.returns] at h; cases h) ?_ (oLe rfl) (oLe rfl) (fun fs hr => retI Xh34 hx Bd.returns (D d12_25) hr)
    show (Q_cp5_3 Z a2 kC ta kb c0 c1 c2 h0 n0) (some (iV 2)) T31.heap _
    rw [e31]
    exact ⟨_, rfl, Nh34, f38, Or.inr (Or.inr (Or.inr (⟨rfl, hc37⟩)))⟩
   ·skip
    refine oTo T31 (fr_cp5_3 m a2 ta 31 (vI 2) (vI 2) (vI 2) (vI c2) [(.int (c2.toInt8.toInt32)), (iV 2), (.ref ta)]) (fun t kt => ?_) ?_
    ·refine XS.icmpYes Xh34.here hx rfl (pc0 := 20) (pc' := 26) rfl (D d12_20) rfl (flt hc37).2.2.2 (by decide) (by decide) ?_
     refine XS.aloadN Xh34.here hx rfl (D d12_26) rfl rfl ?_
     refine XS.iloadN Xh34.here hx rfl (D d12_27) rfl ?_
     refine XS.iload Xh34.here hx rfl (D d12_28) rfl ?_
     show Steps p.tables e below (T31.setTop (fr_cp5_3 m a2 ta 30 (vI 2) (vI 2) (vI 2) (vI c2) [(.int c2), (iV 2), (.ref ta)])) t
     refine XS.i2b Xh34.here hx rfl (D d12_30) rfl ?_
     exact kt
    obtain ⟨cl39, Ar39, q39, S39, N39, H39, G39⟩ := id V32
    have hin39 : ¬ ((2 : Int32) < 0 ∨ cl39.slots.size ≤ ((2 : Int32)).toNatClampNeg) := inb_of S39 ⟨by decide, by decide⟩
    obtain ⟨T39, h39, X39, e39, W39, st39⟩ := stB Xh34 hx hZ e31 Ar39 (j := (2 : Int32)) hin39 (g := (fr_cp5_3 m a2 ta 31 (vI 2) (vI 2) (vI 2) (vI c2) [(.int (c2.toInt8.toInt32)), (iV 2), (.ref ta)])) rfl rfl (D d12_31)
    have V40 : Arv Z h39 ta kb .byte (3 : Int32) [(.int (oL c0)), (.int (oL c1)), (.int (nar .byte (c2.toInt8.toInt32)))] (iV 0) := Arv.set Ar39 q39 S39 N39 H39 G39 (fits_nar_byte _) W39 2 rfl (oLe rfl)
    rw [own_nar_byte c2] at V40
    clear hin39 G39 H39 N39 S39 q39 Ar39 cl39 V32
    have N41 := Fr.snoc X39 Nh34 gt
    obtain ⟨Lh42, Xh42, Nh42⟩ := oHd 0 0 X39 N41 rfl rfl
    refine ownBy st39 ?_
    clear st39
    show oA p e below _ T39 (fr_cp5_3 m a2 ta 32 (vI 2) (vI 2) (vI 2) (vI c2) [])
    refine oTo T39 (fr_cp5_3 m a2 ta 46 (vI 3) (vI 3) (vI 3) (vI c2) [(iV 3)]) (fun t kt => ?_) ?_
    ·refine XS.iinc Xh42.here hx rfl (D d12_32) rfl (l' := #[vR a2, vI 3, vR ta, vI 2, vI 3, vI 2, vI c2]) rfl ?_
     refine XS.iinc Xh42.here hx rfl (D d12_35) rfl (l' := #[vR a2, vI 3, vR ta, vI 3, vI 3, vI 2, vI c2]) rfl ?_
     refine XS.iinc Xh42.here hx rfl (D d12_38) rfl (l' := #[vR a2, vI 3, vR ta, vI 3, vI 3, vI 3, vI c2]) rfl ?_
     refine XS.goto Xh42.here hx rfl (pc0 := 41) (pc' := 3) rfl (D d12_41) (by decide) (by decide) ?_
     show Steps p.tables e below (T39.setTop (fr_cp5_3 m a2 ta 3 (vI 3) (vI 3) (vI 3) (vI c2) [])) t
     refine XS.iload Xh42.here hx rfl (D d12_3) rfl ?_
     refine XS.iload Xh42.here hx rfl (D d12_5) rfl ?_
     refine XS.icmpYes Xh42.here hx rfl (pc0 := 7) (pc' := 44) rfl (D d12_7) rfl (flt ((by decide) : ¬ ((3 : Int32) < (3 : Int32)))).2.1 (by decide) (by decide) ?_
     refine XS.iload Xh42.here hx rfl (D d12_44) rfl ?_
     exact kt
    have f43 := ((((Keep.refl h0 [ta]).wr W23 (Or.inl (List.mem_of_getElem? (i := 0) rfl))).wr W31 (Or.inl (List.mem_of_getElem? (i := 0) rfl))).wr W39 (Or.inl (List.mem_of_getElem? (i := 0) rfl)))
    refine ownRet Xh42 Bd.notSynchronized (v := some (iV 3)) (fun h => by rw [Bd.returns] at h; cases h) ?_ (oLe rfl) (oLe rfl) (fun fs hr => retI Xh42 hx Bd.returns (D d12_46) hr)
    show (Q_cp5_3 Z a2 kC ta kb c0 c1 c2 h0 n0) (some (iV 3)) T39.heap _
    rw [e39]
    exact ⟨_, rfl, Nh42, f43, Or.inl ⟨rfl, hc22, hc29, hc37, V40⟩⟩
abbrev fr_cp3_3 (m : MethodId) (a2 : Addr) (pc : Nat) (x3_ x4_ x5_ : Slot) (st : List Value) : JFrame := mkF m pc #[vR a2, vI 0, vI 3, x3_, x4_, x5_] st
def Q_cp3_3 (Z : State) (a2 : Addr) (kC : ClassId) (c0 : Int32) (c1 : Int32) (c2 : Int32) (h0 : Heap) (n0 : Nat) (v : Option Value) (h : Heap) (L : List Loc) : Prop := ∃ (ta : Addr) (kb : ClassId), v = some (.ref ta) ∧ Fr n0 L ∧ Keep h0 h [] ∧ h0.size ≤ ta ∧ ((¬ ((255 : Int32) < c0) ∧ ¬ ((255 : Int32) < c1) ∧ ¬ ((255 : Int32) < c2) ∧ Arv Z h ta kb .byte (3 : Int32) [(.int (oL c0)), (.int (oL c1)), (.int (oL c2))] (iV 0)) ∨ (((255 : Int32) < c0 ∨ (255 : Int32) < c1 ∨ (255 : Int32) < c2) ∧ Arv Z h ta kb .byte (6 : Int32) [(.int (oW c0)), (.int (oH c0)), (.int (oW c1)), (.int (oH c1)), (.int (oW c2)), (.int (oH c2))] (iV 0)))
theorem ef_cp3_3 (m : MethodId) (x0 : Addr) (x1 : Int32) (x2 : Int32)  : entryFrame m #[(.ref x0), (.int x1), (.int x2)] 6 = mkF m 0 #[vR x0, vI x1, vI x2, .unset, .unset, .unset] [] := by first | (simp [entryFrame, mkF, argsToLocals, Value.category]; done) | rfl
set_option maxRecDepth 65536 in
set_option maxHeartbeats 40000000 in
theorem c_cp3_3 (l : Launch) (Z : State) (a0 : Array Value) (hw : HW a0 Z) (ws : List Jvm.Cond) (a2 : Addr) (kC : ClassId) (c0 : Int32) (c1 : Int32) (c2 : Int32) (h0 : Heap) (n0 : Nat) (Z0 : n0 ≤ h0.size) (A2 : Arv Z h0 a2 kC .char (3 : Int32) [(.int c0), (.int c1), (.int c2)] (iV 0)) (hc0 : ¬ c0 < 0 ∧ ¬ (65535 : Int32) < c0) (hc1 : ¬ c1 < 0 ∧ ¬ (65535 : Int32) < c1) (hc2 : ¬ c2 < 0 ∧ ¬ (65535 : Int32) < c2) (SA : Sta Z Z.heap "java/lang/StringUTF16" "$assertionsDisabled" "Z" (iV 1)) (SHI : Sta Z Z.heap "java/lang/StringUTF16" "HI_BYTE_SHIFT" "I" (iV 0)) (SLO : Sta Z Z.heap "java/lang/StringUTF16" "LO_BYTE_SHIFT" "I" (iV 8)) (X00 : Old Z n0 h0) :
  MetFree l yM9 (head1 (Jvm.Cond.code yM9 jdk_52_method_16_code 6 (some (.array .byte)) :: ws) ({ frames := 3, cells := 2, slots := 9, locals := 40 } : Room)) (fun a U => a = #[(.ref a2), (iV 0), (iV 3)] ∧ Z.Warmed39 U.vm ∧ U.heap = h0) (fun _ _ _ _ _ => True) (fun _ U o U' => ∃ v L, o = .returned v ∧ (Q_cp3_3 Z a2 kC c0 c1 c2 h0 n0) v U'.heap L ∧ FrameEnd U o U' L ({ frames := 3, cells := 2, slots := 9, locals := 40 } : Room).cells ({ frames := 3, cells := 2, slots := 9, locals := 40 } : Room).slots) := by
 refine MetFree.of_bodySF (plainFor_of_name pn_3) hisR ?_
 intro p e s m args below meth c s₁ Bd hml0 hP hK
 obtain ⟨rfl, hZ, hHp⟩ := hP
 have hx := Bd.exec
 have D := fun {pc : Nat} {r} (h : decode _ pc = r) => hb Bd.bytes h
 have hml : c.maxLocals = 6 := hml0
 have hown : s.vm.findClass "java/lang/StringUTF16" = some m.cls := findClass_of_methodNamed Bd.named
 have hnm := (name_of_methodNamed Bd.named Bd.method).1
 have X0 : Stand p l e ({ frames := 3, cells := 2, slots := 9, locals := 40 } : Room) s m #[(.ref a2), (iV 0), (iV 3)] below meth c s₁ [] 0 0 := Stand.of_body Bd
 have e0 : s₁.heap = h0 := by rw [← hHp, Bd.state]; rfl
 have N0 := Fr.nil n0
 refine ownOut (P := (Q_cp3_3 Z a2 kC c0 c1 c2 h0 n0)) ?_
 refine ownBy (A := s₁.setTop (mkF m 0 #[vR a2, vI 0, vI 3, .unset, .unset, .unset] [])) (fun t k => castTop (ef_cp3_3 m a2 (0 : Int32) (3 : Int32)) k) ?_
 refine oTo s₁ (fr_cp3_3 m a2 1 .unset .unset .unset [(iV 3)]) (fun t kt => ?_) ?_
 ·refine XS.iloadN X0.here hx rfl (D d11_0) rfl ?_
  exact kt
 obtain ⟨T21, h21, k21, X21, e21, E21, A21, st21⟩ := newP X0 hx hZ (aty := .byte) (Wd22 hw) e0 (g := (fr_cp3_3 m a2 1 .unset .unset .unset [(iV 3)])) rfl (D d11_1) rfl (by decide : ¬ ((3 : Int32) < (0 : Int32))) (cap := 3) (by decide) (by decide) (by decide) (by decide)
 obtain ⟨b21, g21⟩ : ∃ z, z = h0.size := ⟨_, rfl⟩
 rw [← g21] at A21 st21
 have ne22 : a2 ≠ b21 := Nat.ne_of_lt (Nat.lt_of_lt_of_le A2.lt (Nat.le_of_eq g21.symm))
 have g23 : n0 ≤ b21 := Nat.le_trans Z0 (Nat.le_of_eq g21.symm)
 have z24 : h0.size ≤ b21 := Nat.le_trans (Nat.le_refl h0.size) (Nat.le_of_eq g21.symm)
 have V25 : Arv Z h21 b21 k21 .byte (3 : Int32) [(iV 0), (iV 0), (iV 0)] (iV 0) := (Arv.new A21 (by decide)).pad (pad_rep [] (iV 0) 3)
 refine ownBy st21 ?_
 clear st21
 show oA p e below _ T21 (fr_cp3_3 m a2 3 .unset .unset .unset [(.ref b21)])
 refine oTo T21 (fr_cp3_3 m a2 9 (vR b21) .unset .unset [(iV 3), (iV 0), (.ref b21), (iV 0), (.ref a2)]) (fun t kt => ?_) ?_
 ·refine XS.astoreN X21.here hx rfl (D d11_3) rfl rfl (l' := #[vR a2, vI 0, vI 3, vR b21, .unset, .unset]) rfl ?_
  refine XS.aloadN X21.here hx rfl (D d11_4) rfl rfl ?_
  refine XS.iloadN X21.here hx rfl (D d11_5) rfl ?_
  refine XS.aloadN X21.here hx rfl (D d11_6) rfl rfl ?_
  show Steps p.tables e below (T21.setTop (fr_cp3_3 m a2 7 (vR b21) .unset .unset [(.ref b21), (iV 0), (.ref a2)])) t
  refine XS.iconst X21.here hx rfl (D d11_7) ?_
  refine XS.iloadN X21.here hx rfl (D d11_8) rfl ?_
  exact kt
 have f26 := (A2.ext E21)
 have f27 := (Nat.le_trans Z0 E21.1)
 obtain ⟨vv28, _, ⟨T28, L28, k28, n28⟩, -, X28, ⟨Lc28, hQ28, l28, y28, z28⟩, st28⟩ := Jvm.LawKit.callS X21 hx (y := yM8) hown (mvT hZ (Wd76 hw)) (mvT hZ (Wd77 hw)) (mvT hZ (Wd74 hw)) (mvT hZ (Wd78 hw)) (by decide) (backOf (W := 0) (c_cp5_3 l Z a0 hw [] a2 kC b21 k21 c0 c1 c2 h21 n0 f27 f26 V25 g23 ne22) hZ (Wd78 hw) (Wd74 hw) (by decide) (by decide)) (g := (fr_cp3_3 m a2 9 (vR b21) .unset .unset [(iV 3), (iV 0), (.ref b21), (iV 0), (.ref a2)])) rfl (by rw [hml]; rfl) (argsL := [(.ref a2), (iV 0), (.ref b21), (iV 0), (iV 3)]) (rest := []) (lenOf pd_7 rfl) rfl (by show 2 * 0 + _ ≤ _; exact Nat.le_of_eq rfl) (D d11_9) (fun _ _ => ⟨rfl, e21, (by decide : 1 + 0 ≤ _), (by decide : 3 + 0 ≤ _)⟩)
 dsimp only [Pt.U, Pt.locs, Pt.cells, Pt.slots] at X28 l28 y28 z28 st28 hQ28
 subst l28 y28 z28
 obtain ⟨r28, rfl, Nq28, Kq28, hB28⟩ := hQ28
 rcases hB28 with ⟨rfl, hn28_0, hn28_1, hn28_2, Aq28⟩ | hF
 ·skip
  have N29 := Fr.app N0 Nq28
  obtain ⟨Lh30, Xh30, Nh30⟩ := oHd 1 3 X28 N29 rfl rfl
  refine ownBy st28 ?_
  clear st28
  show oA p e below _ T28 (fr_cp3_3 m a2 12 (vR b21) .unset .unset [(iV 3)])
  refine oTo T28 (fr_cp3_3 m a2 58 (vR b21) (vI 3) .unset [(.ref b21)]) (fun t kt => ?_) ?_
  ·refine XS.istore Xh30.here hx rfl (D d11_12) rfl (l' := #[vR a2, vI 0, vI 3, vR b21, vI 3, .unset]) rfl ?_
   refine XS.iload Xh30.here hx rfl (D d11_14) rfl ?_
   refine XS.iloadN Xh30.here hx rfl (D d11_16) rfl ?_
   refine XS.icmpYes Xh30.here hx rfl (pc0 := 17) (pc' := 57) rfl (D d11_17) rfl (teq ((by decide) : (3 : Int32) = (3 : Int32))).1 (by decide) (by decide) ?_
   show Steps p.tables e below (T28.setTop (fr_cp3_3 m a2 57 (vR b21) (vI 3) .unset [])) t
   refine XS.aloadN Xh30.here hx rfl (D d11_57) rfl rfl ?_
   exact kt
  have f31 := (((Keep.refl h0 []).ext E21).trans Kq28 (allS (Or.inr z24) all0))
  refine ownRet Xh30 Bd.notSynchronized (v := some (.ref b21)) (fun h => by rw [Bd.returns] at h; cases h) ?_ (oLe rfl) (oLe rfl) (fun fs hr => retOut Xh30 hx Bd.returns rfl (Or.inr (Or.inr (Or.inr (Or.inr ⟨rfl, rfl, rfl⟩)))) (D d11_58) hr)
  show (Q_cp3_3 Z a2 kC c0 c1 c2 h0 n0) (some (.ref b21)) T28.heap _
  exact ⟨b21, k21, rfl, Nh30, f31, z24, Or.inl ⟨hn28_0, hn28_1, hn28_2, Aq28⟩⟩
 ·skip
  have N32 := Fr.app N0 Nq28
  obtain ⟨Lh33, Xh33, Nh33⟩ := oHd 1 3 X28 N32 rfl rfl
  refine ownBy st28 ?_
  clear st28
  show oA p e below _ T28 (fr_cp3_3 m a2 12 (vR b21) .unset .unset [(.int r28)])
  have hr : ¬ (r28 = (3 : Int32)) := by
   rcases hF with ⟨rfl, -⟩ | ⟨rfl, -⟩ | ⟨rfl, -⟩ <;> decide
  refine oTo T28 (fr_cp3_3 m a2 23 (vR b21) (vI r28) .unset [(iV 3), (iV 0), (.ref a2)]) (fun t kt => ?_) ?_
  ·refine XS.istore Xh33.here hx rfl (D d11_12) rfl (l' := #[vR a2, vI 0, vI 3, vR b21, vI r28, .unset]) rfl ?_
   refine XS.iload Xh33.here hx rfl (D d11_14) rfl ?_
   refine XS.iloadN Xh33.here hx rfl (D d11_16) rfl ?_
   refine XS.icmpNo Xh33.here hx rfl (D d11_17) rfl (feq hr).1 ?_
   show Steps p.tables e below (T28.setTop (fr_cp3_3 m a2 20 (vR b21) (vI r28) .unset [])) t
   refine XS.aloadN Xh33.here hx rfl (D d11_20) rfl rfl ?_
   refine XS.iloadN Xh33.here hx rfl (D d11_21) rfl ?_
   refine XS.iloadN Xh33.here hx rfl (D d11_22) rfl ?_
   exact kt
  have f34 := (f26.keep Kq28 (ninS ne22 nin0))
  have f35 := ((X00.ext E21).keep Kq28 (allS g23 all0))
  have f36 := (Nat.le_trans f27 Kq28.1)
  obtain ⟨vv37, _, ⟨T37, L37, k37, n37⟩, -, X37, ⟨Lc37, hQ37, l37, y37, z37⟩, st37⟩ := Jvm.LawKit.callS Xh33 hx (y := yM7) hown (mvT hZ (Wd131 hw)) (mvT hZ (Wd132 hw)) (mvT hZ (Wd74 hw)) (mvT hZ (Wd133 hw)) (by decide) (backOf (W := 0) (c_tob3 l Z a0 hw [] a2 kC c0 c1 c2 T28.heap n0 f36 f34 SA SHI SLO f35) hZ (Wd133 hw) (Wd74 hw) (by decide) (by decide)) (g := (fr_cp3_3 m a2 23 (vR b21) (vI r28) .unset [(iV 3), (iV 0), (.ref a2)])) rfl (by rw [hml]; rfl) (argsL := [(.ref a2), (iV 0), (iV 3)]) (rest := []) (lenOf pd_8 rfl) rfl (by show 2 * 0 + _ ≤ _; exact Nat.le_of_eq rfl) (D d11_23) (fun _ _ => ⟨rfl, rfl, (by decide : 1 + 1 ≤ _), (by decide : 3 + 6 ≤ _)⟩)
  dsimp only [Pt.U, Pt.locs, Pt.cells, Pt.slots] at X37 l37 y37 z37 st37 hQ37
  subst l37 y37 z37
  obtain ⟨t37, kb37, rfl, Nq37, Kq37, zq37, Aq37⟩ := hQ37
  have ne38 : a2 ≠ t37 := Nat.ne_of_lt (Nat.lt_of_lt_of_le f34.lt zq37)
  have g39 : n0 ≤ t37 := Nat.le_trans f36 zq37
  have f41 := (Nat.le_trans (Nat.le_trans (Nat.le_refl h0.size) E21.1) Kq28.1)
  have z40 : h0.size ≤ t37 := Nat.le_trans f41 zq37
  have N42 := Fr.app Nh33 Nq37
  obtain ⟨Lh43, Xh43, Nh43⟩ := oHd 2 9 X37 N42 rfl rfl
  refine ownBy st37 ?_
  clear st37
  show oA p e below _ T37 (fr_cp3_3 m a2 26 (vR b21) (vI r28) .unset [(.ref t37)])
  refine oTo T37 (fr_cp3_3 m a2 32 (vR b21) (vI r28) (vR t37) [(.int r28), (.ref t37)]) (fun t kt => ?_) ?_
  ·refine XS.astore Xh43.here hx rfl (D d11_26) rfl rfl (l' := #[vR a2, vI 0, vI 3, vR b21, vI r28, vR t37]) rfl ?_
   refine XS.aload Xh43.here hx rfl (D d11_28) rfl rfl ?_
   refine XS.iload Xh43.here hx rfl (D d11_30) rfl ?_
   exact kt
  obtain ⟨cM, kM, q0, q1, k0, k1, u0, u1, hcM, hgM⟩ : ∃ (cM : Int32) (kM : Nat), (¬ (r28 <<< ((1 : Int32) &&& 31)) < 0 ∧ (r28 <<< ((1 : Int32) &&& 31)) < (6 : Int32)) ∧ (¬ ((r28 <<< ((1 : Int32) &&& 31)) + (1 : Int32)) < 0 ∧ ((r28 <<< ((1 : Int32) &&& 31)) + (1 : Int32)) < (6 : Int32)) ∧ (r28 <<< ((1 : Int32) &&& 31)).toNatClampNeg = kM ∧ ((r28 <<< ((1 : Int32) &&& 31)) + (1 : Int32)).toNatClampNeg = kM + 1 ∧ ([(.int (oW c0)), (.int (oH c0)), (.int (oW c1)), (.int (oH c1)), (.int (oW c2)), (.int (oH c2))] : List Value).getD kM (iV 0) = .int (oW cM) ∧ ([(.int (oW c0)), (.int (oH c0)), (.int (oW c1)), (.int (oH c1)), (.int (oW c2)), (.int (oH c2))] : List Value).getD (kM + 1) (iV 0) = .int (oH cM) ∧ (¬ cM < 0 ∧ ¬ (65535 : Int32) < cM) ∧ (255 : Int32) < cM := by
   rcases hF with ⟨rfl, h⟩ | ⟨rfl, h⟩ | ⟨rfl, h⟩
   ·exact ⟨c0, 0, by decide +kernel, by decide +kernel, by decide +kernel, by decide +kernel, rfl, rfl, hc0, h⟩
   ·exact ⟨c1, 2, by decide +kernel, by decide +kernel, by decide +kernel, by decide +kernel, rfl, rfl, hc1, h⟩
   ·exact ⟨c2, 4, by decide +kernel, by decide +kernel, by decide +kernel, by decide +kernel, rfl, rfl, hc2, h⟩
  have f44 := (f35.keep Kq37 all0)
  have f45 := (Nat.le_trans f36 Kq37.1)
  obtain ⟨vv46, _, ⟨T46, L46, k46, n46⟩, -, X46, ⟨Lc46, hQ46, l46, y46, z46⟩, st46⟩ := Jvm.LawKit.callS Xh43 hx (y := yM5) hown (mvT hZ (Wd147 hw)) (mvT hZ (Wd148 hw)) (mvT hZ (Wd74 hw)) (mvT hZ (Wd149 hw)) (by decide) (backOf (W := 0) (c_getc l Z a0 hw [] t37 kb37 (6 : Int32) [(.int (oW c0)), (.int (oH c0)), (.int (oW c1)), (.int (oH c1)), (.int (oW c2)), (.int (oH c2))] r28 cM kM T37.heap n0 f45 Aq37 q0 q1 k0 k1 u0 u1 hcM SA SHI SLO f44) hZ (Wd149 hw) (Wd74 hw) (by decide) (by decide)) (g := (fr_cp3_3 m a2 32 (vR b21) (vI r28) (vR t37) [(.int r28), (.ref t37)])) rfl (by rw [hml]; rfl) (argsL := [(.ref t37), (.int r28)]) (rest := []) (lenOf pd_9 rfl) rfl (by show 2 * 0 + _ ≤ _; exact Nat.le_of_eq rfl) (D d11_32) (fun _ _ => ⟨rfl, rfl, (by decide : 2 + 0 ≤ _), (by decide : 9 + 0 ≤ _)⟩)
  dsimp only [Pt.U, Pt.locs, Pt.cells, Pt.slots] at X46 l46 y46 z46 st46 hQ46
  subst l46 y46 z46
  obtain ⟨rfl, Nq46, Eq46⟩ := hQ46
  have N47 := Fr.app Nh43 Nq46
  obtain ⟨Lh48, Xh48, Nh48⟩ := oHd 2 9 X46 N47 rfl rfl
  refine ownBy st46 ?_
  clear st46
  show oA p e below _ T46 (fr_cp3_3 m a2 35 (vR b21) (vI r28) (vR t37) [(.int cM)])
  refine oTo T46 (fr_cp3_3 m a2 56 (vR b21) (vI r28) (vR t37) [(.ref t37)]) (fun t kt => ?_) ?_
  ·refine XS.sipush Xh48.here hx rfl (D d11_35) ?_
   refine XS.icmpYes Xh48.here hx rfl (pc0 := 38) (pc' := 54) rfl (D d11_38) rfl (tlt hgM).2.2.1 (by decide) (by decide) ?_
   refine XS.aload Xh48.here hx rfl (D d11_54) rfl rfl ?_
   exact kt
  have hg3 : (255 : Int32) < c0 ∨ (255 : Int32) < c1 ∨ (255 : Int32) < c2 := by
   rcases hF with ⟨-, h⟩ | ⟨-, h⟩ | ⟨-, h⟩
   ·exact Or.inl h
   ·exact Or.inr (Or.inl h)
   ·exact Or.inr (Or.inr (h))
  have f49 := ((((Keep.refl h0 []).ext E21).trans Kq28 (allS (Or.inr z24) all0)).trans Kq37 all0)
  refine ownRet Xh48 Bd.notSynchronized (v := some (.ref t37)) (fun h => by rw [Bd.returns] at h; cases h) ?_ (oLe rfl) (oLe rfl) (fun fs hr => retOut Xh48 hx Bd.returns rfl (Or.inr (Or.inr (Or.inr (Or.inr ⟨rfl, rfl, rfl⟩)))) (D d11_56) hr)
  show (Q_cp3_3 Z a2 kC c0 c1 c2 h0 n0) (some (.ref t37)) T46.heap _
  rw [Eq46]
  exact ⟨t37, kb37, rfl, Nh48, f49, z40, Or.inr ⟨hg3, Aq37⟩⟩
abbrev fr_ini4_3 (m : MethodId) (a1 : Addr) (a2 : Addr) (pc : Nat) (x5_ : Slot) (st : List Value) : JFrame := mkF m pc #[vR a1, vR a2, vI 0, vI 3, .val .null, x5_] st
def Q_ini4_3 (Z : State) (a1 : Addr) (a2 : Addr) (kC : ClassId) (c0 : Int32) (c1 : Int32) (c2 : Int32) (c9 : Value) (G1 : Int32) (h0 : Heap) (n0 : Nat) (v : Option Value) (h : Heap) (L : List Loc) : Prop := v = none ∧ Fr n0 L ∧ Keep h0 h [a1] ∧ Exa Z h a1 "java/lang/String" ∧ ∃ (ta : Addr) (kb : ClassId) (cd z : Int32) (vs : List Value), h0.size ≤ ta ∧ Fld Z h a1 "java/lang/String" "value" "[B" (.ref ta) ∧ Fld Z h a1 "java/lang/String" "coder" "B" (.int cd) ∧ Arv Z h ta kb .byte z vs (iV 0) ∧ ((cd = (0 : Int32) ∧ z = (3 : Int32) ∧ vs = [(.int (oL c0)), (.int (oL c1)), (.int (oL c2))] ∧ ¬ ((255 : Int32) < c0) ∧ ¬ ((255 : Int32) < c1) ∧ ¬ ((255 : Int32) < c2)) ∨ (cd = (1 : Int32) ∧ z = (6 : Int32) ∧ vs = [(.int (oW c0)), (.int (oH c0)), (.int (oW c1)), (.int (oH c1)), (.int (oW c2)), (.int (oH c2))] ∧ ((255 : Int32) < c0 ∨ (255 : Int32) < c1 ∨ (255 : Int32) < c2)))
theorem ef_ini4_3 (m : MethodId) (x0 : Addr) (x1 : Addr) (x2 : Int32) (x3 : Int32)  : entryFrame m #[(.ref x0), (.ref x1), (.int x2), (.int x3), .null] 6 = mkF m 0 #[vR x0, vR x1, vI x2, vI x3, .val .null, .unset] [] := by first | (simp [entryFrame, mkF, argsToLocals, Value.category]; done) | rfl
set_option maxRecDepth 65536 in
set_option maxHeartbeats 40000000 in
theorem c_ini4_3 (l : Launch) (Z : State) (a0 : Array Value) (hw : HW a0 Z) (ws : List Jvm.Cond) (a1 : Addr) (a2 : Addr) (kC : ClassId) (c0 : Int32) (c1 : Int32) (c2 : Int32) (c9 : Value) (G1 : Int32) (h0 : Heap) (n0 : Nat) (Z0 : n0 ≤ h0.size) (E1 : Exa Z h0 a1 "java/lang/String") (F1 : Fld Z h0 a1 "java/lang/String" "value" "[B" .null) (F2 : Fld Z h0 a1 "java/lang/String" "coder" "B" c9) (g1 : n0 ≤ a1) (ne1 : a1 ≠ a2) (A2 : Arv Z h0 a2 kC .char (3 : Int32) [(.int c0), (.int c1), (.int c2)] (iV 0)) (hc0 : ¬ c0 < 0 ∧ ¬ (65535 : Int32) < c0) (hc1 : ¬ c1 < 0 ∧ ¬ (65535 : Int32) < c1) (hc2 : ¬ c2 < 0 ∧ ¬ (65535 : Int32) < c2) (O2 : Sta Z Z.heap "java/lang/String" "COMPACT_STRINGS" "Z" (.int G1)) (P5 : ¬ (G1 = (0 : Int32))) (SA : Sta Z Z.heap "java/lang/StringUTF16" "$assertionsDisabled" "Z" (iV 1)) (SHI : Sta Z Z.heap "java/lang/StringUTF16" "HI_BYTE_SHIFT" "I" (iV 0)) (SLO : Sta Z Z.heap "java/lang/StringUTF16" "LO_BYTE_SHIFT" "I" (iV 8)) (X00 : Old Z n0 h0) :
  MetFree l yM0 (head1 (Jvm.Cond.code yM0 jdk_42_method_149_code 6 none :: ws) ({ frames := 4, cells := 2, slots := 9, locals := 58 } : Room)) (fun a U => a = #[(.ref a1), (.ref a2), (iV 0), (iV 3), .null] ∧ Z.Warmed39 U.vm ∧ U.heap = h0) (fun _ _ _ _ _ => True) (fun _ U o U' => ∃ v L, o = .returned v ∧ (Q_ini4_3 Z a1 a2 kC c0 c1 c2 c9 G1 h0 n0) v U'.heap L ∧ FrameEnd U o U' L ({ frames := 4, cells := 2, slots := 9, locals := 58 } : Room).cells ({ frames := 4, cells := 2, slots := 9, locals := 58 } : Room).slots) := by
 refine MetFree.of_bodySF (plainFor_of_name pn_1) hisR ?_
 intro p e s m args below meth c s₁ Bd hml0 hP hK
 obtain ⟨rfl, hZ, hHp⟩ := hP
 have hx := Bd.exec
 have D := fun {pc : Nat} {r} (h : decode _ pc = r) => hb Bd.bytes h
 have hml : c.maxLocals = 6 := hml0
 have hown : s.vm.findClass "java/lang/String" = some m.cls := findClass_of_methodNamed Bd.named
 have hnm := (name_of_methodNamed Bd.named Bd.method).1
 have X0 : Stand p l e ({ frames := 4, cells := 2, slots := 9, locals := 58 } : Room) s m #[(.ref a1), (.ref a2), (iV 0), (iV 3), .null] below meth c s₁ [] 0 0 := Stand.of_body Bd
 have e0 : s₁.heap = h0 := by rw [← hHp, Bd.state]; rfl
 have N0 := Fr.nil n0
 refine ownOut (P := (Q_ini4_3 Z a1 a2 kC c0 c1 c2 c9 G1 h0 n0)) ?_
 refine ownBy (A := s₁.setTop (mkF m 0 #[vR a1, vR a2, vI 0, vI 3, .val .null, .unset] [])) (fun t k => castTop (ef_ini4_3 m a1 a2 (0 : Int32) (3 : Int32)) k) ?_
 refine oTo s₁ (fr_ini4_3 m a1 a2 1 .unset [(.ref a1)]) (fun t kt => ?_) ?_
 ·refine XS.aloadN X0.here hx rfl (D d4_0) rfl rfl ?_
  exact kt
 obtain ⟨T21, X21, e21, st21⟩ := initO X0 hx hZ hown (Wd18 hw) (Wd19 hw) (Wd20 hw) e0 (g := (fr_ini4_3 m a1 a2 1 .unset [(.ref a1)])) rfl (by rw [hml]; rfl) rfl (D d4_1) (by decide) (W := 0) (by show 2 * 0 + _ ≤ _; exact Nat.le_of_eq rfl) (by decide)
 refine ownBy st21 ?_
 clear st21
 show oA p e below _ T21 (fr_ini4_3 m a1 a2 4 .unset [])
 refine oTo T21 (fr_ini4_3 m a1 a2 27 .unset []) (fun t kt => ?_) ?_
 ·refine XS.iloadN X21.here hx rfl (D d4_4) rfl ?_
  refine XS.ifYes X21.here hx rfl (pc0 := 5) (pc' := 27) rfl (D d4_5) rfl ((if0 _ _).trans (feq ((by decide) : ¬ ((3 : Int32) = (0 : Int32)))).2) (by decide) (by decide) ?_
  exact kt
 refine own_getS X21 hx hZ hown (host := "") (Or.inl (Wd45 hw)) Via.refl e21 (O2.ext X00.2) (D d4_27) (fun T22 X22 e22 => ?_)
 refine oTo T22 (fr_ini4_3 m a1 a2 36 .unset [(iV 3), (iV 0), (.ref a2)]) (fun t kt => ?_) ?_
 ·refine XS.ifNo X22.here hx rfl (D d4_30) rfl ((if0 _ _).trans (feq P5).1) ?_
  refine XS.aloadN X22.here hx rfl (D d4_33) rfl rfl ?_
  refine XS.iloadN X22.here hx rfl (D d4_34) rfl ?_
  refine XS.iloadN X22.here hx rfl (D d4_35) rfl ?_
  exact kt
 obtain ⟨vv23, _, ⟨T23, L23, k23, n23⟩, -, X23, ⟨Lc23, hQ23, l23, y23, z23⟩, st23⟩ := Jvm.LawKit.callS X22 hx (y := yM9) hown (mvT hZ (Wd72 hw)) (mvT hZ (Wd73 hw)) (mvT hZ (Wd74 hw)) (mvT hZ (Wd75 hw)) (by decide) (backOf (W := 0) (c_cp3_3 l Z a0 hw [] a2 kC c0 c1 c2 h0 n0 Z0 A2 hc0 hc1 hc2 SA SHI SLO X00) hZ (Wd75 hw) (Wd74 hw) (by decide) (by decide)) (g := (fr_ini4_3 m a1 a2 36 .unset [(iV 3), (iV 0), (.ref a2)])) rfl (by rw [hml]; rfl) (argsL := [(.ref a2), (iV 0), (iV 3)]) (rest := []) (lenOf pd_8 rfl) rfl (by show 2 * 0 + _ ≤ _; exact Nat.le_of_eq rfl) (D d4_36) (fun _ _ => ⟨rfl, e22, (by decide : 0 + 2 ≤ _), (by decide : 0 + 9 ≤ _)⟩)
 dsimp only [Pt.U, Pt.locs, Pt.cells, Pt.slots] at X23 l23 y23 z23 st23 hQ23
 subst l23 y23 z23
 obtain ⟨t23, kb23, rfl, Nq23, Kq23, zq23, hB23⟩ := hQ23
 have ne24 : a1 ≠ t23 := Nat.ne_of_lt (Nat.lt_of_lt_of_le E1.lt zq23)
 have ne25 : a2 ≠ t23 := Nat.ne_of_lt (Nat.lt_of_lt_of_le A2.lt zq23)
 have g26 : n0 ≤ t23 := Nat.le_trans Z0 zq23
 have z27 : h0.size ≤ t23 := Nat.le_trans (Nat.le_refl h0.size) zq23
 rcases hB23 with ⟨hn23_0, hn23_1, hn23_2, Aq23⟩ | ⟨hg23, Aq23⟩
 ·skip
  have N28 := Fr.app N0 Nq23
  obtain ⟨Lh29, Xh29, Nh29⟩ := oHd 2 9 X23 N28 rfl rfl
  refine ownBy st23 ?_
  clear st23
  show oA p e below _ T23 (fr_ini4_3 m a1 a2 39 .unset [(.ref t23)])
  refine oTo T23 (fr_ini4_3 m a1 a2 45 (vR t23) [(iV 3), (.ref t23), (.ref a1)]) (fun t kt => ?_) ?_
  ·refine XS.astore Xh29.here hx rfl (D d4_39) rfl rfl (l' := #[vR a1, vR a2, vI 0, vI 3, .val .null, vR t23]) rfl ?_
   refine XS.aloadN Xh29.here hx rfl (D d4_41) rfl rfl ?_
   refine XS.aload Xh29.here hx rfl (D d4_42) rfl rfl ?_
   refine XS.iloadN Xh29.here hx rfl (D d4_44) rfl ?_
   exact kt
  have f30 := (Nat.le_trans Z0 Kq23.1)
  obtain ⟨vv31, _, ⟨T31, L31, k31, n31⟩, -, X31, ⟨Lc31, hQ31, l31, y31, z31⟩, st31⟩ := Jvm.LawKit.callS Xh29 hx (y := yM4) hown (mvT hZ (Wd79 hw)) (mvT hZ (Wd80 hw)) (mvT hZ (Wd74 hw)) (mvT hZ (Wd81 hw)) (by decide) (backOf (W := 1) (c_cfa l Z a0 hw [] t23 kb23 (3 : Int32) _ (3 : Int32) (0 : Int32) T23.heap n0 f30 Aq23 (by decide +kernel)) hZ (Wd81 hw) (Wd74 hw) (by decide) (by decide)) (g := (fr_ini4_3 m a1 a2 45 (vR t23) [(iV 3), (.ref t23), (.ref a1)])) rfl (by rw [hml]; rfl) (argsL := [(.ref t23), (iV 3)]) (rest := [(.ref a1)]) (lenOf pd_10 rfl) rfl (by show 2 * 0 + _ ≤ _; exact Nat.le_of_eq rfl) (D d4_45) (fun _ _ => ⟨rfl, rfl, (by decide : 2 + 0 ≤ _), (by decide : 9 + 0 ≤ _)⟩)
  dsimp only [Pt.U, Pt.locs, Pt.cells, Pt.slots] at X31 l31 y31 z31 st31 hQ31
  subst l31 y31 z31
  obtain ⟨rfl, Nq31, Eq31⟩ := hQ31
  have N32 := Fr.app Nh29 Nq31
  obtain ⟨Lh33, Xh33, Nh33⟩ := oHd 2 9 X31 N32 rfl rfl
  refine ownBy st31 ?_
  clear st31
  show oA p e below _ T31 (fr_ini4_3 m a1 a2 48 (vR t23) [(iV 0), (.ref a1)])
  have f35 := (F2.keep Kq23 nin0)
  have f36 := (E1.keep Kq23)
  obtain ⟨T34, h34, X34, e34, W34, st34⟩ := putFN Xh33 hx hZ hown (Wd28 hw) Via.refl Eq31 f35 f36 (Or.inr ⟨(Wd24 hw), rfl, hnm⟩) (Wd8 hw) (ty := .byte) (v' := (iV 0)) (by decide) rfl (fits_nar_byte (0 : Int32)) (g := (fr_ini4_3 m a1 a2 48 (vR t23) [(iV 0), (.ref a1)])) rfl rfl (D d4_48)
  have F37 := f35.same W34
  have N38 := Fr.snoc X34 Nh33 g1
  obtain ⟨Lh39, Xh39, Nh39⟩ := oHd 2 9 X34 N38 rfl rfl
  refine ownBy st34 ?_
  clear st34
  show oA p e below _ T34 (fr_ini4_3 m a1 a2 51 (vR t23) [])
  refine oTo T34 (fr_ini4_3 m a1 a2 54 (vR t23) [(.ref t23), (.ref a1)]) (fun t kt => ?_) ?_
  ·refine XS.aloadN Xh39.here hx rfl (D d4_51) rfl rfl ?_
   refine XS.aload Xh39.here hx rfl (D d4_52) rfl rfl ?_
   exact kt
  have f41 := ((F1.keep Kq23 nin0).other W34 (Or.inr (slot_ne (Or.inr (Wd23 hw)) (Or.inr (Wd24 hw)) (by decide) (t := (.array .byte)) (t' := .byte) (by decide) (by decide))))
  have f42 := (f36.wr W34)
  obtain ⟨T40, h40, X40, e40, W40, st40⟩ := putF Xh39 hx hZ hown (host := "") (Or.inl (Wd27 hw)) Via.refl e34 f41 f42 (Or.inr ⟨(Wd23 hw), rfl, hnm⟩) (Wd8 hw) (ty := (.array .byte)) (by decide) rfl rfl (g := (fr_ini4_3 m a1 a2 54 (vR t23) [(.ref t23), (.ref a1)])) rfl rfl (D d4_54)
  have F43 := f41.same W40
  have N44 := Fr.snoc X40 Nh39 g1
  obtain ⟨Lh45, Xh45, Nh45⟩ := oHd 2 9 X40 N44 rfl rfl
  refine ownBy st40 ?_
  clear st40
  show oA p e below _ T40 (fr_ini4_3 m a1 a2 57 (vR t23) [])
  have f46 := ((((Keep.refl h0 [a1]).trans Kq23 all0).wr W34 (Or.inl (List.mem_of_getElem? (i := 0) rfl))).wr W40 (Or.inl (List.mem_of_getElem? (i := 0) rfl)))
  have f47 := (f42.wr W40)
  have f48 := (F37.other W40 (Or.inr (slot_ne (Or.inr (Wd24 hw)) (Or.inr (Wd23 hw)) (by decide) (t := .byte) (t' := (.array .byte)) (by decide) (by decide))))
  have f49 := ((Aq23.other W34 (Ne.symm ne24)).other W40 (Ne.symm ne24))
  refine ownRet Xh45 Bd.notSynchronized (v := none) (fun _ => rfl) ?_ (oLe rfl) (oLe rfl) (fun fs hr => Xh45.returnOut hx Bd.returns (D d4_57) hr)
  show (Q_ini4_3 Z a1 a2 kC c0 c1 c2 c9 G1 h0 n0) (none) T40.heap _
  rw [e40]
  exact ⟨rfl, Nh45, f46, f47, t23, kb23, _, _, _, z27, F43, f48, f49, Or.inl ⟨rfl, rfl, rfl, hn23_0, hn23_1, hn23_2⟩⟩
 ·skip
  have N50 := Fr.app N0 Nq23
  obtain ⟨Lh51, Xh51, Nh51⟩ := oHd 2 9 X23 N50 rfl rfl
  refine ownBy st23 ?_
  clear st23
  show oA p e below _ T23 (fr_ini4_3 m a1 a2 39 .unset [(.ref t23)])
  refine oTo T23 (fr_ini4_3 m a1 a2 45 (vR t23) [(iV 3), (.ref t23), (.ref a1)]) (fun t kt => ?_) ?_
  ·refine XS.astore Xh51.here hx rfl (D d4_39) rfl rfl (l' := #[vR a1, vR a2, vI 0, vI 3, .val .null, vR t23]) rfl ?_
   refine XS.aloadN Xh51.here hx rfl (D d4_41) rfl rfl ?_
   refine XS.aload Xh51.here hx rfl (D d4_42) rfl rfl ?_
   refine XS.iloadN Xh51.here hx rfl (D d4_44) rfl ?_
   exact kt
  have f52 := (Nat.le_trans Z0 Kq23.1)
  obtain ⟨vv53, _, ⟨T53, L53, k53, n53⟩, -, X53, ⟨Lc53, hQ53, l53, y53, z53⟩, st53⟩ := Jvm.LawKit.callS Xh51 hx (y := yM4) hown (mvT hZ (Wd79 hw)) (mvT hZ (Wd80 hw)) (mvT hZ (Wd74 hw)) (mvT hZ (Wd81 hw)) (by decide) (backOf (W := 1) (c_cfa l Z a0 hw [] t23 kb23 (6 : Int32) _ (3 : Int32) (1 : Int32) T23.heap n0 f52 Aq23 (by decide +kernel)) hZ (Wd81 hw) (Wd74 hw) (by decide) (by decide)) (g := (fr_ini4_3 m a1 a2 45 (vR t23) [(iV 3), (.ref t23), (.ref a1)])) rfl (by rw [hml]; rfl) (argsL := [(.ref t23), (iV 3)]) (rest := [(.ref a1)]) (lenOf pd_10 rfl) rfl (by show 2 * 0 + _ ≤ _; exact Nat.le_of_eq rfl) (D d4_45) (fun _ _ => ⟨rfl, rfl, (by decide : 2 + 0 ≤ _), (by decide : 9 + 0 ≤ _)⟩)
  dsimp only [Pt.U, Pt.locs, Pt.cells, Pt.slots] at X53 l53 y53 z53 st53 hQ53
  subst l53 y53 z53
  obtain ⟨rfl, Nq53, Eq53⟩ := hQ53
  have N54 := Fr.app Nh51 Nq53
  obtain ⟨Lh55, Xh55, Nh55⟩ := oHd 2 9 X53 N54 rfl rfl
  refine ownBy st53 ?_
  clear st53
  show oA p e below _ T53 (fr_ini4_3 m a1 a2 48 (vR t23) [(iV 1), (.ref a1)])
  have f57 := (F2.keep Kq23 nin0)
  have f58 := (E1.keep Kq23)
  obtain ⟨T56, h56, X56, e56, W56, st56⟩ := putFN Xh55 hx hZ hown (Wd28 hw) Via.refl Eq53 f57 f58 (Or.inr ⟨(Wd24 hw), rfl, hnm⟩) (Wd8 hw) (ty := .byte) (v' := (iV 1)) (by decide) rfl (fits_nar_byte (1 : Int32)) (g := (fr_ini4_3 m a1 a2 48 (vR t23) [(iV 1), (.ref a1)])) rfl rfl (D d4_48)
  have F59 := f57.same W56
  have N60 := Fr.snoc X56 Nh55 g1
  obtain ⟨Lh61, Xh61, Nh61⟩ := oHd 2 9 X56 N60 rfl rfl
  refine ownBy st56 ?_
  clear st56
  show oA p e below _ T56 (fr_ini4_3 m a1 a2 51 (vR t23) [])
  refine oTo T56 (fr_ini4_3 m a1 a2 54 (vR t23) [(.ref t23), (.ref a1)]) (fun t kt => ?_) ?_
  ·refine XS.aloadN Xh61.here hx rfl (D d4_51) rfl rfl ?_
   refine XS.aload Xh61.here hx rfl (D d4_52) rfl rfl ?_
   exact kt
  have f63 := ((F1.keep Kq23 nin0).other W56 (Or.inr (slot_ne (Or.inr (Wd23 hw)) (Or.inr (Wd24 hw)) (by decide) (t := (.array .byte)) (t' := .byte) (by decide) (by decide))))
  have f64 := (f58.wr W56)
  obtain ⟨T62, h62, X62, e62, W62, st62⟩ := putF Xh61 hx hZ hown (host := "") (Or.inl (Wd27 hw)) Via.refl e56 f63 f64 (Or.inr ⟨(Wd23 hw), rfl, hnm⟩) (Wd8 hw) (ty := (.array .byte)) (by decide) rfl rfl (g := (fr_ini4_3 m a1 a2 54 (vR t23) [(.ref t23), (.ref a1)])) rfl rfl (D d4_54)
  have F65 := f63.same W62
  have N66 := Fr.snoc X62 Nh61 g1
  obtain ⟨Lh67, Xh67, Nh67⟩ := oHd 2 9 X62 N66 rfl rfl
  refine ownBy st62 ?_
  clear st62
  show oA p e below _ T62 (fr_ini4_3 m a1 a2 57 (vR t23) [])
  have f68 := ((((Keep.refl h0 [a1]).trans Kq23 all0).wr W56 (Or.inl (List.mem_of_getElem? (i := 0) rfl))).wr W62 (Or.inl (List.mem_of_getElem? (i := 0) rfl)))
  have f69 := (f64.wr W62)
  have f70 := (F59.other W62 (Or.inr (slot_ne (Or.inr (Wd24 hw)) (Or.inr (Wd23 hw)) (by decide) (t := .byte) (t' := (.array .byte)) (by decide) (by decide))))
  have f71 := ((Aq23.other W56 (Ne.symm ne24)).other W62 (Ne.symm ne24))
  refine ownRet Xh67 Bd.notSynchronized (v := none) (fun _ => rfl) ?_ (oLe rfl) (oLe rfl) (fun fs hr => Xh67.returnOut hx Bd.returns (D d4_57) hr)
  show (Q_ini4_3 Z a1 a2 kC c0 c1 c2 c9 G1 h0 n0) (none) T62.heap _
  rw [e62]
  exact ⟨rfl, Nh67, f68, f69, t23, kb23, _, _, _, z27, F65, f70, f71, Or.inr ⟨rfl, rfl, rfl, hg23⟩⟩
abbrev fr_inC_3 (m : MethodId) (a1 : Addr) (a2 : Addr) (pc : Nat)  (st : List Value) : JFrame := mkF m pc #[vR a1, vR a2] st
def Q_inC_3 (Z : State) (a1 : Addr) (a2 : Addr) (kC : ClassId) (c0 : Int32) (c1 : Int32) (c2 : Int32) (c9 : Value) (G1 : Int32) (h0 : Heap) (n0 : Nat) (v : Option Value) (h : Heap) (L : List Loc) : Prop := v = none ∧ Fr n0 L ∧ Keep h0 h [a1] ∧ Exa Z h a1 "java/lang/String" ∧ ∃ (ta : Addr) (kb : ClassId) (cd z : Int32) (vs : List Value), h0.size ≤ ta ∧ Fld Z h a1 "java/lang/String" "value" "[B" (.ref ta) ∧ Fld Z h a1 "java/lang/String" "coder" "B" (.int cd) ∧ Arv Z h ta kb .byte z vs (iV 0) ∧ ((cd = (0 : Int32) ∧ z = (3 : Int32) ∧ vs = [(.int (oL c0)), (.int (oL c1)), (.int (oL c2))] ∧ ¬ ((255 : Int32) < c0) ∧ ¬ ((255 : Int32) < c1) ∧ ¬ ((255 : Int32) < c2)) ∨ (cd = (1 : Int32) ∧ z = (6 : Int32) ∧ vs = [(.int (oW c0)), (.int (oH c0)), (.int (oW c1)), (.int (oH c1)), (.int (oW c2)), (.int (oH c2))] ∧ ((255 : Int32) < c0 ∨ (255 : Int32) < c1 ∨ (255 : Int32) < c2)))
theorem ef_inC_3 (m : MethodId) (x0 : Addr) (x1 : Addr)  : entryFrame m #[(.ref x0), (.ref x1)] 2 = mkF m 0 #[vR x0, vR x1] [] := by first | (simp [entryFrame, mkF, argsToLocals, Value.category]; done) | rfl
set_option maxRecDepth 65536 in
set_option maxHeartbeats 40000000 in
theorem c_inC_3 (l : Launch) (Z : State) (a0 : Array Value) (hw : HW a0 Z) (ws : List Jvm.Cond) (a1 : Addr) (a2 : Addr) (kC : ClassId) (c0 : Int32) (c1 : Int32) (c2 : Int32) (c9 : Value) (G1 : Int32) (h0 : Heap) (n0 : Nat) (Z0 : n0 ≤ h0.size) (E1 : Exa Z h0 a1 "java/lang/String") (F1 : Fld Z h0 a1 "java/lang/String" "value" "[B" .null) (F2 : Fld Z h0 a1 "java/lang/String" "coder" "B" c9) (g1 : n0 ≤ a1) (ne1 : a1 ≠ a2) (A2 : Arv Z h0 a2 kC .char (3 : Int32) [(.int c0), (.int c1), (.int c2)] (iV 0)) (hc0 : ¬ c0 < 0 ∧ ¬ (65535 : Int32) < c0) (hc1 : ¬ c1 < 0 ∧ ¬ (65535 : Int32) < c1) (hc2 : ¬ c2 < 0 ∧ ¬ (65535 : Int32) < c2) (O2 : Sta Z Z.heap "java/lang/String" "COMPACT_STRINGS" "Z" (.int G1)) (P5 : ¬ (G1 = (0 : Int32))) (SA : Sta Z Z.heap "java/lang/StringUTF16" "$assertionsDisabled" "Z" (iV 1)) (SHI : Sta Z Z.heap "java/lang/StringUTF16" "HI_BYTE_SHIFT" "I" (iV 0)) (SLO : Sta Z Z.heap "java/lang/StringUTF16" "LO_BYTE_SHIFT" "I" (iV 8)) (X00 : Old Z n0 h0) :
  MetFree l yM1 (head1 (Jvm.Cond.code yM1 jdk_42_method_3_code 2 none :: ws) ({ frames := 5, cells := 2, slots := 9, locals := 75 } : Room)) (fun a U => a = #[(.ref a1), (.ref a2)] ∧ Z.Warmed39 U.vm ∧ U.heap = h0) (fun _ _ _ _ _ => True) (fun _ U o U' => ∃ v L, o = .returned v ∧ (Q_inC_3 Z a1 a2 kC c0 c1 c2 c9 G1 h0 n0) v U'.heap L ∧ FrameEnd U o U' L ({ frames := 5, cells := 2, slots := 9, locals := 75 } : Room).cells ({ frames := 5, cells := 2, slots := 9, locals := 75 } : Room).slots) := by
 refine MetFree.of_bodySF (plainFor_of_name pn_1) hisR ?_
 intro p e s m args below meth c s₁ Bd hml0 hP hK
 obtain ⟨rfl, hZ, hHp⟩ := hP
 have hx := Bd.exec
 have D := fun {pc : Nat} {r} (h : decode _ pc = r) => hb Bd.bytes h
 have hml : c.maxLocals = 2 := hml0
 have hown : s.vm.findClass "java/lang/String" = some m.cls := findClass_of_methodNamed Bd.named
 have hnm := (name_of_methodNamed Bd.named Bd.method).1
 have X0 : Stand p l e ({ frames := 5, cells := 2, slots := 9, locals := 75 } : Room) s m #[(.ref a1), (.ref a2)] below meth c s₁ [] 0 0 := Stand.of_body Bd
 have e0 : s₁.heap = h0 := by rw [← hHp, Bd.state]; rfl
 have N0 := Fr.nil n0
 refine ownOut (P := (Q_inC_3 Z a1 a2 kC c0 c1 c2 c9 G1 h0 n0)) ?_
 refine ownBy (A := s₁.setTop (mkF m 0 #[vR a1, vR a2] [])) (fun t k => castTop (ef_inC_3 m a1 a2) k) ?_
 refine oTo s₁ (fr_inC_3 m a1 a2 4  [(.ref a2), (iV 0), (.ref a2), (.ref a1)]) (fun t kt => ?_) ?_
 ·refine XS.aloadN X0.here hx rfl (D d3_0) rfl rfl ?_
  refine XS.aloadN X0.here hx rfl (D d3_1) rfl rfl ?_
  refine XS.iconst X0.here hx rfl (D d3_2) ?_
  refine XS.aloadN X0.here hx rfl (D d3_3) rfl rfl ?_
  exact kt
 obtain ⟨cl21, Ar21, -, S21, N21, -, -⟩ := id A2
 have st21 := X0.arraylength hx (by rw [e0]; exact Ar21.1) (State.isArrayOf_alike hZ.alike Ar21.2.1) (g := (fr_inC_3 m a1 a2 4  [(.ref a2), (iV 0), (.ref a2), (.ref a1)])) rfl rfl (D d3_4)
 rw [len_of S21 N21] at st21
 refine ownBy st21 ?_
 show oA p e below _ s₁ (fr_inC_3 m a1 a2 5  [(iV 3), (iV 0), (.ref a2), (.ref a1)])
 refine oTo s₁ (fr_inC_3 m a1 a2 6  [.null, (iV 3), (iV 0), (.ref a2), (.ref a1)]) (fun t kt => ?_) ?_
 ·refine XS.aconstNull X0.here hx rfl (D d3_5) ?_
  exact kt
 obtain ⟨vv22, _, ⟨T22, L22, k22, n22⟩, -, X22, ⟨Lc22, hQ22, l22, y22, z22⟩, st22⟩ := X0.specialBack hx (y := yM0) rfl hown (mvT hZ (Wd14 hw)) (mvT hZ (Wd15 hw)) (mvT hZ (Wd17 hw)) (by decide) (backOf (W := 0) (c_ini4_3 l Z a0 hw [] a1 a2 kC c0 c1 c2 _ G1 h0 n0 Z0 E1 F1 F2 g1 ne1 A2 hc0 hc1 hc2 O2 P5 SA SHI SLO X00) hZ (Wd17 hw) (Wd9 hw) (by decide) (by decide)) (g := (fr_inC_3 m a1 a2 6  [.null, (iV 3), (iV 0), (.ref a2), (.ref a1)])) rfl (by rw [hml]; rfl) (Steps.refl _) (a := a1) (argsL := [(.ref a2), (iV 0), (iV 3), .null]) (rest := []) (lenOf pd_2 rfl) rfl (by show 2 * 0 + _ ≤ _; exact Nat.le_of_eq rfl) (D d3_6) (fun _ _ => ⟨rfl, e0, (by decide : 0 + 2 ≤ _), (by decide : 0 + 9 ≤ _)⟩)
 dsimp only [Pt.U, Pt.locs, Pt.cells, Pt.slots] at X22 l22 y22 z22 st22 hQ22
 subst l22 y22 z22
 obtain ⟨rfl, Nq22, Kq22, Eq22, t22, kb22, cd22, z22, vs22, zq22, Vq22, Cq22, Aq22, hrel22⟩ := hQ22
 have ne23 : a1 ≠ t22 := Nat.ne_of_lt (Nat.lt_of_lt_of_le E1.lt zq22)
 have ne24 : a2 ≠ t22 := Nat.ne_of_lt (Nat.lt_of_lt_of_le A2.lt zq22)
 have g25 : n0 ≤ t22 := Nat.le_trans Z0 zq22
 have z26 : h0.size ≤ t22 := Nat.le_trans (Nat.le_refl h0.size) zq22
 have N27 := Fr.app N0 Nq22
 obtain ⟨Lh28, Xh28, Nh28⟩ := oHd 2 9 X22 N27 rfl rfl
 refine ownSt st22 ?_
 clear st22
 show oA p e below _ T22 (fr_inC_3 m a1 a2 9  [])
 have f29 := ((Keep.refl h0 [a1]).trans Kq22 (allS (Or.inl (List.mem_of_getElem? (i := 0) rfl)) all0))
 have f30 := (E1.keep Kq22)
 refine ownRet Xh28 Bd.notSynchronized (v := none) (fun _ => rfl) ?_ (oLe rfl) (oLe rfl) (fun fs hr => Xh28.returnOut hx Bd.returns (D d3_9) hr)
 show (Q_inC_3 Z a1 a2 kC c0 c1 c2 c9 G1 h0 n0) (none) T22.heap _
 exact ⟨rfl, Nh28, f29, f30, t22, kb22, _, _, _, z26, Vq22, Cq22, Aq22, hrel22⟩
abbrev fr_nbf4 (m : MethodId)  (pc : Nat)  (st : List Value) : JFrame := mkF m pc #[vI 4] st
def Q_nbf4 (Z : State)  (h0 : Heap) (n0 : Nat) (v : Option Value) (h : Heap) (L : List Loc) : Prop := ∃ (ta : Addr) (kb : ClassId), v = some (.ref ta) ∧ Fr n0 L ∧ Keep h0 h [] ∧ h0.size ≤ ta ∧ Arv Z h ta kb .byte (8 : Int32) [(iV 0), (iV 0), (iV 0), (iV 0), (iV 0), (iV 0), (iV 0), (iV 0)] (iV 0)
theorem ef_nbf4 (m : MethodId) (x0 : Int32)  : entryFrame m #[(.int x0)] 1 = mkF m 0 #[vI x0] [] := by first | (simp [entryFrame, mkF, argsToLocals, Value.category]; done) | rfl
set_option maxRecDepth 65536 in
set_option maxHeartbeats 40000000 in
theorem c_nbf4 (l : Launch) (Z : State) (a0 : Array Value) (hw : HW a0 Z) (ws : List Jvm.Cond)  (h0 : Heap) (n0 : Nat) (Z0 : n0 ≤ h0.size) :
  MetFree l yM6 (head1 (Jvm.Cond.code yM6 jdk_52_method_2_code 1 (some (.array .byte)) :: ws) ({ frames := 1, cells := 1, slots := 8, locals := 12 } : Room)) (fun a U => a = #[(iV 4)] ∧ Z.Warmed39 U.vm ∧ U.heap = h0) (fun _ _ _ _ _ => True) (fun _ U o U' => ∃ v L, o = .returned v ∧ (Q_nbf4 Z  h0 n0) v U'.heap L ∧ FrameEnd U o U' L ({ frames := 1, cells := 1, slots := 8, locals := 12 } : Room).cells ({ frames := 1, cells := 1, slots := 8, locals := 12 } : Room).slots) := by
 refine MetFree.of_bodySF (plainFor_of_name pn_3) hisR ?_
 intro p e s m args below meth c s₁ Bd hml0 hP hK
 obtain ⟨rfl, hZ, hHp⟩ := hP
 have hx := Bd.exec
 have D := fun {pc : Nat} {r} (h : decode _ pc = r) => hb Bd.bytes h
 have hml : c.maxLocals = 1 := hml0
 have hown : s.vm.findClass "java/lang/StringUTF16" = some m.cls := findClass_of_methodNamed Bd.named
 have hnm := (name_of_methodNamed Bd.named Bd.method).1
 have X0 : Stand p l e ({ frames := 1, cells := 1, slots := 8, locals := 12 } : Room) s m #[(iV 4)] below meth c s₁ [] 0 0 := Stand.of_body Bd
 have e0 : s₁.heap = h0 := by rw [← hHp, Bd.state]; rfl
 have N0 := Fr.nil n0
 refine ownOut (P := (Q_nbf4 Z  h0 n0)) ?_
 refine ownBy (A := s₁.setTop (mkF m 0 #[vI 4] [])) (fun t k => castTop (ef_nbf4 m (4 : Int32)) k) ?_
 refine oTo s₁ (fr_nbf4 m  1  [(iV 4)]) (fun t kt => ?_) ?_
 ·refine XS.iloadN X0.here hx rfl (D d23_0) rfl ?_
  exact kt
 obtain ⟨vv21, _, ⟨T21, L21, k21, n21⟩, -, X21, ⟨Lc21, hQ21, l21, y21, z21⟩, st21⟩ := Jvm.LawKit.callS X0 hx (y := yM3) hown (mvT hZ (Wd137 hw)) (mvT hZ (Wd138 hw)) (mvT hZ (Wd74 hw)) (mvT hZ (Wd139 hw)) (by decide) (backOf (W := 0) (c_nbl l Z a0 hw [] (4 : Int32) (8 : Int32) h0 n0 Z0 (by decide) (by decide) (by decide +kernel)) hZ (Wd139 hw) (Wd74 hw) (by decide) (by decide)) (g := (fr_nbf4 m  1  [(iV 4)])) rfl (by rw [hml]; rfl) (argsL := [(iV 4)]) (rest := []) (lenOf pd_4 rfl) rfl (by show 2 * 0 + _ ≤ _; exact Nat.le_of_eq rfl) (D d23_1) (fun _ _ => ⟨rfl, e0, (by decide : 0 + 0 ≤ _), (by decide : 0 + 0 ≤ _)⟩)
 dsimp only [Pt.U, Pt.locs, Pt.cells, Pt.slots] at X21 l21 y21 z21 st21 hQ21
 subst l21 y21 z21
 obtain ⟨rfl, Nq21, Eq21⟩ := hQ21
 have N22 := Fr.app N0 Nq21
 obtain ⟨Lh23, Xh23, Nh23⟩ := oHd 0 0 X21 N22 rfl rfl
 refine ownBy st21 ?_
 clear st21
 show oA p e below _ T21 (fr_nbf4 m  4  [(iV 8)])
 obtain ⟨T24, h24, k24, X24, e24, E24, A24, st24⟩ := newP Xh23 hx hZ (aty := .byte) (Wd22 hw) Eq21 (g := (fr_nbf4 m  4  [(iV 8)])) rfl (D d23_4) rfl (by decide : ¬ ((8 : Int32) < (0 : Int32))) (cap := 8) (by decide) (by decide) (by decide) (by decide)
 obtain ⟨b24, g24⟩ : ∃ z, z = h0.size := ⟨_, rfl⟩
 rw [← g24] at A24 st24
 have g25 : n0 ≤ b24 := Nat.le_trans Z0 (Nat.le_of_eq g24.symm)
 have z26 : h0.size ≤ b24 := Nat.le_trans (Nat.le_refl h0.size) (Nat.le_of_eq g24.symm)
 have V27 : Arv Z h24 b24 k24 .byte (8 : Int32) [(iV 0), (iV 0), (iV 0), (iV 0), (iV 0), (iV 0), (iV 0), (iV 0)] (iV 0) := (Arv.new A24 (by decide)).pad (pad_rep [] (iV 0) 8)
 refine ownBy st24 ?_
 clear st24
 show oA p e below _ T24 (fr_nbf4 m  6  [(.ref b24)])
 have f28 := ((Keep.refl h0 []).ext E24)
 refine ownRet X24 Bd.notSynchronized (v := some (.ref b24)) (fun h => by rw [Bd.returns] at h; cases h) ?_ (oLe rfl) (oLe rfl) (fun fs hr => retOut X24 hx Bd.returns rfl (Or.inr (Or.inr (Or.inr (Or.inr ⟨rfl, rfl, rfl⟩)))) (D d23_6) hr)
 show (Q_nbf4 Z  h0 n0) (some (.ref b24)) T24.heap _
 rw [e24]
 exact ⟨b24, k24, rfl, Nh23, f28, z26, V27⟩
abbrev fr_tob4 (m : MethodId) (a2 : Addr) (pc : Nat) (x1_ x3_ x4_ : Slot) (st : List Value) : JFrame := mkF m pc #[vR a2, x1_, vI 4, x3_, x4_] st
def Q_tob4 (Z : State) (a2 : Addr) (kC : ClassId) (c0 : Int32) (c1 : Int32) (c2 : Int32) (c3 : Int32) (h0 : Heap) (n0 : Nat) (v : Option Value) (h : Heap) (L : List Loc) : Prop := ∃ (ta : Addr) (kb : ClassId), v = some (.ref ta) ∧ Fr n0 L ∧ Keep h0 h [] ∧ h0.size ≤ ta ∧ Arv Z h ta kb .byte (8 : Int32) [(.int (oW c0)), (.int (oH c0)), (.int (oW c1)), (.int (oH c1)), (.int (oW c2)), (.int (oH c2)), (.int (oW c3)), (.int (oH c3))] (iV 0)
theorem ef_tob4 (m : MethodId) (x0 : Addr) (x1 : Int32) (x2 : Int32)  : entryFrame m #[(.ref x0), (.int x1), (.int x2)] 5 = mkF m 0 #[vR x0, vI x1, vI x2, .unset, .unset] [] := by first | (simp [entryFrame, mkF, argsToLocals, Value.category]; done) | rfl
set_option maxRecDepth 65536 in
set_option maxHeartbeats 40000000 in
theorem c_tob4 (l : Launch) (Z : State) (a0 : Array Value) (hw : HW a0 Z) (ws : List Jvm.Cond) (a2 : Addr) (kC : ClassId) (c0 : Int32) (c1 : Int32) (c2 : Int32) (c3 : Int32) (h0 : Heap) (n0 : Nat) (Z0 : n0 ≤ h0.size) (A2 : Arv Z h0 a2 kC .char (4 : Int32) [(.int c0), (.int c1), (.int c2), (.int c3)] (iV 0)) (SA : Sta Z Z.heap "java/lang/StringUTF16" "$assertionsDisabled" "Z" (iV 1)) (SHI : Sta Z Z.heap "java/lang/StringUTF16" "HI_BYTE_SHIFT" "I" (iV 0)) (SLO : Sta Z Z.heap "java/lang/StringUTF16" "LO_BYTE_SHIFT" "I" (iV 8)) (X00 : Old Z n0 h0) :
  MetFree l yM7 (head1 (Jvm.Cond.code yM7 jdk_52_method_14_code 5 (some (.array .byte)) :: ws) ({ frames := 2, cells := 1, slots := 8, locals := 24 } : Room)) (fun a U => a = #[(.ref a2), (iV 0), (iV 4)] ∧ Z.Warmed39 U.vm ∧ U.heap = h0) (fun _ _ _ _ _ => True) (fun _ U o U' => ∃ v L, o = .returned v ∧ (Q_tob4 Z a2 kC c0 c1 c2 c3 h0 n0) v U'.heap L ∧ FrameEnd U o U' L ({ frames := 2, cells := 1, slots := 8, locals := 24 } : Room).cells ({ frames := 2, cells := 1, slots := 8, locals := 24 } : Room).slots) := by
 refine MetFree.of_bodySF (plainFor_of_name pn_3) hisR ?_
 intro p e s m args below meth c s₁ Bd hml0 hP hK
 obtain ⟨rfl, hZ, hHp⟩ := hP
 have hx := Bd.exec
 have D := fun {pc : Nat} {r} (h : decode _ pc = r) => hb Bd.bytes h
 have hml : c.maxLocals = 5 := hml0
 have hown : s.vm.findClass "java/lang/StringUTF16" = some m.cls := findClass_of_methodNamed Bd.named
 have hnm := (name_of_methodNamed Bd.named Bd.method).1
 have X0 : Stand p l e ({ frames := 2, cells := 1, slots := 8, locals := 24 } : Room) s m #[(.ref a2), (iV 0), (iV 4)] below meth c s₁ [] 0 0 := Stand.of_body Bd
 have e0 : s₁.heap = h0 := by rw [← hHp, Bd.state]; rfl
 have N0 := Fr.nil n0
 refine ownOut (P := (Q_tob4 Z a2 kC c0 c1 c2 c3 h0 n0)) ?_
 refine ownBy (A := s₁.setTop (mkF m 0 #[vR a2, vI 0, vI 4, .unset, .unset] [])) (fun t k => castTop (ef_tob4 m a2 (0 : Int32) (4 : Int32)) k) ?_
 refine oTo s₁ (fr_tob4 m a2 1 (vI 0) .unset .unset [(iV 4)]) (fun t kt => ?_) ?_
 ·refine XS.iloadN X0.here hx rfl (D d22_0) rfl ?_
  exact kt
 obtain ⟨vv21, _, ⟨T21, L21, k21, n21⟩, -, X21, ⟨Lc21, hQ21, l21, y21, z21⟩, st21⟩ := Jvm.LawKit.callS X0 hx (y := yM6) hown (mvT hZ (Wd134 hw)) (mvT hZ (Wd135 hw)) (mvT hZ (Wd74 hw)) (mvT hZ (Wd136 hw)) (by decide) (backOf (W := 0) (c_nbf4 l Z a0 hw []  h0 n0 Z0 ) hZ (Wd136 hw) (Wd74 hw) (by decide) (by decide)) (g := (fr_tob4 m a2 1 (vI 0) .unset .unset [(iV 4)])) rfl (by rw [hml]; rfl) (argsL := [(iV 4)]) (rest := []) (lenOf pd_5 rfl) rfl (by show 2 * 0 + _ ≤ _; exact Nat.le_of_eq rfl) (D d22_1) (fun _ _ => ⟨rfl, e0, (by decide : 0 + 1 ≤ _), (by decide : 0 + 8 ≤ _)⟩)
 dsimp only [Pt.U, Pt.locs, Pt.cells, Pt.slots] at X21 l21 y21 z21 st21 hQ21
 subst l21 y21 z21
 obtain ⟨t21, kb21, rfl, Nq21, Kq21, zq21, Aq21⟩ := hQ21
 have ne22 : a2 ≠ t21 := Nat.ne_of_lt (Nat.lt_of_lt_of_le A2.lt zq21)
 have g23 : n0 ≤ t21 := Nat.le_trans Z0 zq21
 have z24 : h0.size ≤ t21 := Nat.le_trans (Nat.le_refl h0.size) zq21
 have N25 := Fr.app N0 Nq21
 obtain ⟨Lh26, Xh26, Nh26⟩ := oHd 1 8 X21 N25 rfl rfl
 refine ownBy st21 ?_
 clear st21
 show oA p e below _ T21 (fr_tob4 m a2 4 (vI 0) .unset .unset [(.ref t21)])
 refine oTo T21 (fr_tob4 m a2 19 (vI 0) (vR t21) (vI 0) [(iV 0), (.ref a2), (iV 0), (.ref t21)]) (fun t kt => ?_) ?_
 ·refine XS.astoreN Xh26.here hx rfl (D d22_4) rfl rfl (l' := #[vR a2, vI 0, vI 4, vR t21, .unset]) rfl ?_
  refine XS.iconst Xh26.here hx rfl (D d22_5) ?_
  refine XS.istore Xh26.here hx rfl (D d22_6) rfl (l' := #[vR a2, vI 0, vI 4, vR t21, vI 0]) rfl ?_
  refine XS.iload Xh26.here hx rfl (D d22_8) rfl ?_
  show Steps p.tables e below (T21.setTop (fr_tob4 m a2 10 (vI 0) (vR t21) (vI 0) [(iV 0)])) t
  refine XS.iloadN Xh26.here hx rfl (D d22_10) rfl ?_
  refine XS.icmpNo Xh26.here hx rfl (D d22_11) rfl (tlt ((by decide) : (0 : Int32) < (4 : Int32))).2.1 ?_
  refine XS.aloadN Xh26.here hx rfl (D d22_14) rfl rfl ?_
  refine XS.iload Xh26.here hx rfl (D d22_15) rfl ?_
  show Steps p.tables e below (T21.setTop (fr_tob4 m a2 17 (vI 0) (vR t21) (vI 0) [(iV 0), (.ref t21)])) t
  refine XS.aloadN Xh26.here hx rfl (D d22_17) rfl rfl ?_
  refine XS.iloadN Xh26.here hx rfl (D d22_18) rfl ?_
  exact kt
 have f27 := (A2.keep Kq21 nin0)
 obtain ⟨cl28, Ar28, q28, S28, N28, H28, G28⟩ := id f27
 have hin28 : ¬ ((0 : Int32) < 0 ∨ cl28.slots.size ≤ ((0 : Int32)).toNatClampNeg) := inb_of S28 ⟨by decide, by decide⟩
 have hat28 : cl28.slots[((0 : Int32)).toNatClampNeg]? = some (.int c0) := H28.at hin28 rfl
 have st28 := Xh26.caload hx (j := (0 : Int32)) (v := (.int c0)) Ar28.1 (State.isArrayOf_alike hZ.alike Ar28.2.1) Ar28.2.2 hin28 hat28 (g := (fr_tob4 m a2 19 (vI 0) (vR t21) (vI 0) [(iV 0), (.ref a2), (iV 0), (.ref t21)])) rfl rfl (D d22_19)
 refine ownBy st28 ?_
 show oA p e below _ T21 (fr_tob4 m a2 20 (vI 0) (vR t21) (vI 0) [(.int c0), (iV 0), (.ref t21)])
 have f29 := (X00.keep Kq21 all0)
 have f30 := (Nat.le_trans Z0 Kq21.1)
 obtain ⟨vv31, _, ⟨T31, L31, k31, n31⟩, -, X31, ⟨Lc31, hQ31, l31, y31, z31⟩, st31⟩ := Jvm.LawKit.callS Xh26 hx (y := yM2) hown (mvT hZ (Wd141 hw)) (mvT hZ (Wd142 hw)) (mvT hZ (Wd74 hw)) (mvT hZ (Wd143 hw)) (by decide) (backOf (W := 0) (c_put l Z a0 hw [] t21 kb21 (8 : Int32) [(iV 0), (iV 0), (iV 0), (iV 0), (iV 0), (iV 0), (iV 0), (iV 0)] (0 : Int32) c0 0 T21.heap n0 f30 Aq21 g23 ⟨by decide +kernel, by decide +kernel⟩ ⟨by decide +kernel, by decide +kernel⟩ (by decide +kernel) (by decide +kernel) (oLe rfl) SA SHI SLO f29) hZ (Wd143 hw) (Wd74 hw) (by decide) (by decide)) (g := (fr_tob4 m a2 20 (vI 0) (vR t21) (vI 0) [(.int c0), (iV 0), (.ref t21)])) rfl (by rw [hml]; rfl) (argsL := [(.ref t21), (iV 0), (.int c0)]) (rest := []) (lenOf pd_6 rfl) rfl (by show 2 * 0 + _ ≤ _; exact Nat.le_of_eq rfl) (D d22_20) (fun _ _ => ⟨rfl, rfl, (by decide : 1 + 0 ≤ _), (by decide : 8 + 0 ≤ _)⟩)
 dsimp only [Pt.U, Pt.locs, Pt.cells, Pt.slots] at X31 l31 y31 z31 st31 hQ31
 subst l31 y31 z31
 obtain ⟨rfl, Nq31, Kq31, Ap31⟩ := hQ31
 have Aq31 : Arv Z T31.heap t21 kb21 .byte (8 : Int32) [(.int (oW c0)), (.int (oH c0)), (iV 0), (iV 0), (iV 0), (iV 0), (iV 0), (iV 0)] (iV 0) := Ap31
 have N32 := Fr.app Nh26 Nq31
 obtain ⟨Lh33, Xh33, Nh33⟩ := oHd 1 8 X31 N32 rfl rfl
 refine ownBy st31 ?_
 clear st31
 show oA p e below _ T31 (fr_tob4 m a2 23 (vI 0) (vR t21) (vI 0) [])
 refine oTo T31 (fr_tob4 m a2 19 (vI 1) (vR t21) (vI 1) [(iV 1), (.ref a2), (iV 1), (.ref t21)]) (fun t kt => ?_) ?_
 ·refine XS.iinc Xh33.here hx rfl (D d22_23) rfl (l' := #[vR a2, vI 1, vI 4, vR t21, vI 0]) rfl ?_
  refine XS.iinc Xh33.here hx rfl (D d22_26) rfl (l' := #[vR a2, vI 1, vI 4, vR t21, vI 1]) rfl ?_
  refine XS.goto Xh33.here hx rfl (pc0 := 29) (pc' := 8) rfl (D d22_29) (by decide) (by decide) ?_
  refine XS.iload Xh33.here hx rfl (D d22_8) rfl ?_
  show Steps p.tables e below (T31.setTop (fr_tob4 m a2 10 (vI 1) (vR t21) (vI 1) [(iV 1)])) t
  refine XS.iloadN Xh33.here hx rfl (D d22_10) rfl ?_
  refine XS.icmpNo Xh33.here hx rfl (D d22_11) rfl (tlt ((by decide) : (1 : Int32) < (4 : Int32))).2.1 ?_
  refine XS.aloadN Xh33.here hx rfl (D d22_14) rfl rfl ?_
  refine XS.iload Xh33.here hx rfl (D d22_15) rfl ?_
  show Steps p.tables e below (T31.setTop (fr_tob4 m a2 17 (vI 1) (vR t21) (vI 1) [(iV 1), (.ref t21)])) t
  refine XS.aloadN Xh33.here hx rfl (D d22_17) rfl rfl ?_
  refine XS.iloadN Xh33.here hx rfl (D d22_18) rfl ?_
  exact kt
 have f34 := (f27.keep Kq31 (ninS ne22 nin0))
 obtain ⟨cl35, Ar35, q35, S35, N35, H35, G35⟩ := id f34
 have hin35 : ¬ ((1 : Int32) < 0 ∨ cl35.slots.size ≤ ((1 : Int32)).toNatClampNeg) := inb_of S35 ⟨by decide, by decide⟩
 have hat35 : cl35.slots[((1 : Int32)).toNatClampNeg]? = some (.int c1) := H35.at hin35 rfl
 have st35 := Xh33.caload hx (j := (1 : Int32)) (v := (.int c1)) Ar35.1 (State.isArrayOf_alike hZ.alike Ar35.2.1) Ar35.2.2 hin35 hat35 (g := (fr_tob4 m a2 19 (vI 1) (vR t21) (vI 1) [(iV 1), (.ref a2), (iV 1), (.ref t21)])) rfl rfl (D d22_19)
 refine ownBy st35 ?_
 show oA p e below _ T31 (fr_tob4 m a2 20 (vI 1) (vR t21) (vI 1) [(.int c1), (iV 1), (.ref t21)])
 have f36 := (f29.keep Kq31 (allS g23 all0))
 have f37 := (Nat.le_trans f30 Kq31.1)
 obtain ⟨vv38, _, ⟨T38, L38, k38, n38⟩, -, X38, ⟨Lc38, hQ38, l38, y38, z38⟩, st38⟩ := Jvm.LawKit.callS Xh33 hx (y := yM2) hown (mvT hZ (Wd141 hw)) (mvT hZ (Wd142 hw)) (mvT hZ (Wd74 hw)) (mvT hZ (Wd143 hw)) (by decide) (backOf (W := 0) (c_put l Z a0 hw [] t21 kb21 (8 : Int32) [(.int (oW c0)), (.int (oH c0)), (iV 0), (iV 0), (iV 0), (iV 0), (iV 0), (iV 0)] (1 : Int32) c1 2 T31.heap n0 f37 Aq31 g23 ⟨by decide +kernel, by decide +kernel⟩ ⟨by decide +kernel, by decide +kernel⟩ (by decide +kernel) (by decide +kernel) (oLe rfl) SA SHI SLO f36) hZ (Wd143 hw) (Wd74 hw) (by decide) (by decide)) (g := (fr_tob4 m a2 20 (vI 1) (vR t21) (vI 1) [(.int c1), (iV 1), (.ref t21)])) rfl (by rw [hml]; rfl) (argsL := [(.ref t21), (iV 1), (.int c1)]) (rest := []) (lenOf pd_6 rfl) rfl (by show 2 * 0 + _ ≤ _; exact Nat.le_of_eq rfl) (D d22_20) (fun _ _ => ⟨rfl, rfl, (by decide : 1 + 0 ≤ _), (by decide : 8 + 0 ≤ _)⟩)
 dsimp only [Pt.U, Pt.locs, Pt.cells, Pt.slots] at X38 l38 y38 z38 st38 hQ38
 subst l38 y38 z38
 obtain ⟨rfl, Nq38, Kq38, Ap38⟩ := hQ38
 have Aq38 : Arv Z T38.heap t21 kb21 .byte (8 : Int32) [(.int (oW c0)), (.int (oH c0)), (.int (oW c1)), (.int (oH c1)), (iV 0), (iV 0), (iV 0), (iV 0)] (iV 0) := Ap38
 have N39 := Fr.app Nh33 Nq38
 obtain ⟨Lh40, Xh40, Nh40⟩ := oHd 1 8 X38 N39 rfl rfl
 refine ownBy st38 ?_
 clear st38
 show oA p e below _ T38 (fr_tob4 m a2 23 (vI 1) (vR t21) (vI 1) [])
 refine oTo T38 (fr_tob4 m a2 19 (vI 2) (vR t21) (vI 2) [(iV 2), (.ref a2), (iV 2), (.ref t21)]) (fun t kt => ?_) ?_
 ·refine XS.iinc Xh40.here hx rfl (D d22_23) rfl (l' := #[vR a2, vI 2, vI 4, vR t21, vI 1]) rfl ?_
  refine XS.iinc Xh40.here hx rfl (D d22_26) rfl (l' := #[vR a2, vI 2, vI 4, vR t21, vI 2]) rfl ?_
  refine XS.goto Xh40.here hx rfl (pc0 := 29) (pc' := 8) rfl (D d22_29) (by decide) (by decide) ?_
  refine XS.iload Xh40.here hx rfl (D d22_8) rfl ?_
  show Steps p.tables e below (T38.setTop (fr_tob4 m a2 10 (vI 2) (vR t21) (vI 2) [(iV 2)])) t
  refine XS.iloadN Xh40.here hx rfl (D d22_10) rfl ?_
  refine XS.icmpNo Xh40.here hx rfl (D d22_11) rfl (tlt ((by decide) : (2 : Int32) < (4 : Int32))).2.1 ?_
  refine XS.aloadN Xh40.here hx rfl (D d22_14) rfl rfl ?_
  refine XS.iload Xh40.here hx rfl (D d22_15) rfl ?_
  show Steps p.tables e below (T38.setTop (fr_tob4 m a2 17 (vI 2) (vR t21) (vI 2) [(iV 2), (.ref t21)])) t
  refine XS.aloadN Xh40.here hx rfl (D d22_17) rfl rfl ?_
  refine XS.iloadN Xh40.here hx rfl (D d22_18) rfl ?_
  exact kt
 have f41 := (f34.keep Kq38 (ninS ne22 nin0))
 obtain ⟨cl42, Ar42, q42, S42, N42, H42, G42⟩ := id f41
 have hin42 : ¬ ((2 : Int32) < 0 ∨ cl42.slots.size ≤ ((2 : Int32)).toNatClampNeg) := inb_of S42 ⟨by decide, by decide⟩
 have hat42 : cl42.slots[((2 : Int32)).toNatClampNeg]? = some (.int c2) := H42.at hin42 rfl
 have st42 := Xh40.caload hx (j := (2 : Int32)) (v := (.int c2)) Ar42.1 (State.isArrayOf_alike hZ.alike Ar42.2.1) Ar42.2.2 hin42 hat42 (g := (fr_tob4 m a2 19 (vI 2) (vR t21) (vI 2) [(iV 2), (.ref a2), (iV 2), (.ref t21)])) rfl rfl (D d22_19)
 refine ownBy st42 ?_
 show oA p e below _ T38 (fr_tob4 m a2 20 (vI 2) (vR t21) (vI 2) [(.int c2), (iV 2), (.ref t21)])
 have f43 := (f36.keep Kq38 (allS g23 all0))
 have f44 := (Nat.le_trans f37 Kq38.1)
 obtain ⟨vv45, _, ⟨T45, L45, k45, n45⟩, -, X45, ⟨Lc45, hQ45, l45, y45, z45⟩, st45⟩ := Jvm.LawKit.callS Xh40 hx (y := yM2) hown (mvT hZ (Wd141 hw)) (mvT hZ (Wd142 hw)) (mvT hZ (Wd74 hw)) (mvT hZ (Wd143 hw)) (by decide) (backOf (W := 0) (c_put l Z a0 hw [] t21 kb21 (8 : Int32) [(.int (oW c0)), (.int (oH c0)), (.int (oW c1)), (.int (oH c1)), (iV 0), (iV 0), (iV 0), (iV 0)] (2 : Int32) c2 4 T38.heap n0 f44 Aq38 g23 ⟨by decide +kernel, by decide +kernel⟩ ⟨by decide +kernel, by decide +kernel⟩ (by decide +kernel) (by decide +kernel) (oLe rfl) SA SHI SLO f43) hZ (Wd143 hw) (Wd74 hw) (by decide) (by decide)) (g := (fr_tob4 m a2 20 (vI 2) (vR t21) (vI 2) [(.int c2), (iV 2), (.ref t21)])) rfl (by rw [hml]; rfl) (argsL := [(.ref t21), (iV 2), (.int c2)]) (rest := []) (lenOf pd_6 rfl) rfl (by show 2 * 0 + _ ≤ _; exact Nat.le_of_eq rfl) (D d22_20) (fun _ _ => ⟨rfl, rfl, (by decide : 1 + 0 ≤ _), (by decide : 8 + 0 ≤ _)⟩)
 dsimp only [Pt.U, Pt.locs, Pt.cells, Pt.slots] at X45 l45 y45 z45 st45 hQ45
 subst l45 y45 z45
 obtain ⟨rfl, Nq45, Kq45, Ap45⟩ := hQ45
 have Aq45 : Arv Z T45.heap t21 kb21 .byte (8 : Int32) [(.int (oW c0)), (.int (oH c0)), (.int (oW c1)), (.int (oH c1)), (.int (oW c2)), (.int (oH c2)), (iV 0), (iV 0)] (iV 0) := Ap45
 have N46 := Fr.app Nh40 Nq45
 obtain ⟨Lh47, Xh47, Nh47⟩ := oHd 1 8 X45 N46 rfl rfl
 refine ownBy st45 ?_
 clear st45
 show oA p e below _ T45 (fr_tob4 m a2 23 (vI 2) (vR t21) (vI 2) [])
 refine oTo T45 (fr_tob4 m a2 19 (vI 3) (vR t21) (vI 3) [(iV 3), (.ref a2), (iV 3), (.ref t21)]) (fun t kt => ?_) ?_
 ·refine XS.iinc Xh47.here hx rfl (D d22_23) rfl (l' := #[vR a2, vI 3, vI 4, vR t21, vI 2]) rfl ?_
  refine XS.iinc Xh47.here hx rfl (D d22_26) rfl (l' := #[vR a2, vI 3, vI 4, vR t21, vI 3]) rfl ?_
  refine XS.goto Xh47.here hx rfl (pc0 := 29) (pc' := 8) rfl (D d22_29) (by decide) (by decide) ?_
  refine XS.iload Xh47.here hx rfl (D d22_8) rfl ?_
  show Steps p.tables e below (T45.setTop (fr_tob4 m a2 10 (vI 3) (vR t21) (vI 3) [(iV 3)])) t
  refine XS.iloadN Xh47.here hx rfl (D d22_10) rfl ?_
  refine XS.icmpNo Xh47.here hx rfl (D d22_11) rfl (tlt ((by decide) : (3 : Int32) < (4 : Int32))).2.1 ?_
  refine XS.aloadN Xh47.here hx rfl (D d22_14) rfl rfl ?_
  refine XS.iload Xh47.here hx rfl (D d22_15) rfl ?_
  show Steps p.tables e below (T45.setTop (fr_tob4 m a2 17 (vI 3) (vR t21) (vI 3) [(iV 3), (.ref t21)])) t
  refine XS.aloadN Xh47.here hx rfl (D d22_17) rfl rfl ?_
  refine XS.iloadN Xh47.here hx rfl (D d22_18) rfl ?_
  exact kt
 have f48 := (f41.keep Kq45 (ninS ne22 nin0))
 obtain ⟨cl49, Ar49, q49, S49, N49, H49, G49⟩ := id f48
 have hin49 : ¬ ((3 : Int32) < 0 ∨ cl49.slots.size ≤ ((3 : Int32)).toNatClampNeg) := inb_of S49 ⟨by decide, by decide⟩
 have hat49 : cl49.slots[((3 : Int32)).toNatClampNeg]? = some (.int c3) := H49.at hin49 rfl
 have st49 := Xh47.caload hx (j := (3 : Int32)) (v := (.int c3)) Ar49.1 (State.isArrayOf_alike hZ.alike Ar49.2.1) Ar49.2.2 hin49 hat49 (g := (fr_tob4 m a2 19 (vI 3) (vR t21) (vI 3) [(iV 3), (.ref a2), (iV 3), (.ref t21)])) rfl rfl (D d22_19)
 refine ownBy st49 ?_
 show oA p e below _ T45 (fr_tob4 m a2 20 (vI 3) (vR t21) (vI 3) [(.int c3), (iV 3), (.ref t21)])
 have f50 := (f43.keep Kq45 (allS g23 all0))
 have f51 := (Nat.le_trans f44 Kq45.1)
 obtain ⟨vv52, _, ⟨T52, L52, k52, n52⟩, -, X52, ⟨Lc52, hQ52, l52, y52, z52⟩, st52⟩ := Jvm.LawKit.callS Xh47 hx (y := yM2) hown (mvT hZ (Wd141 hw)) (mvT hZ (Wd142 hw)) (mvT hZ (Wd74 hw)) (mvT hZ (Wd143 hw)) (by decide) (backOf (W := 0) (c_put l Z a0 hw [] t21 kb21 (8 : Int32) [(.int (oW c0)), (.int (oH c0)), (.int (oW c1)), (.int (oH c1)), (.int (oW c2)), (.int (oH c2)), (iV 0), (iV 0)] (3 : Int32) c3 6 T45.heap n0 f51 Aq45 g23 ⟨by decide +kernel, by decide +kernel⟩ ⟨by decide +kernel, by decide +kernel⟩ (by decide +kernel) (by decide +kernel) (oLe rfl) SA SHI SLO f50) hZ (Wd143 hw) (Wd74 hw) (by decide) (by decide)) (g := (fr_tob4 m a2 20 (vI 3) (vR t21) (vI 3) [(.int c3), (iV 3), (.ref t21)])) rfl (by rw [hml]; rfl) (argsL := [(.ref t21), (iV 3), (.int c3)]) (rest := []) (lenOf pd_6 rfl) rfl (by show 2 * 0 + _ ≤ _; exact Nat.le_of_eq rfl) (D d22_20) (fun _ _ => ⟨rfl, rfl, (by decide : 1 + 0 ≤ _), (by decide : 8 + 0 ≤ _)⟩)
 dsimp only [Pt.U, Pt.locs, Pt.cells, Pt.slots] at X52 l52 y52 z52 st52 hQ52
 subst l52 y52 z52
 obtain ⟨rfl, Nq52, Kq52, Ap52⟩ := hQ52
 have Aq52 : Arv Z T52.heap t21 kb21 .byte (8 : Int32) [(.int (oW c0)), (.int (oH c0)), (.int (oW c1)), (.int (oH c1)), (.int (oW c2)), (.int (oH c2)), (.int (oW c3)), (.int (oH c3))] (iV 0) := Ap52
 have N53 := Fr.app Nh47 Nq52
 obtain ⟨Lh54, Xh54, Nh54⟩ := oHd 1 8 X52 N53 rfl rfl
 refine ownBy st52 ?_
 clear st52
 show oA p e below _ T52 (fr_tob4 m a2 23 (vI 3) (vR t21) (vI 3) [])
 refine oTo T52 (fr_tob4 m a2 33 (vI 4) (vR t21) (vI 4) [(.ref t21)]) (fun t kt => ?_) ?_
 ·refine XS.iinc Xh54.here hx rfl (D d22_23) rfl (l' := #[vR a2, vI 4, vI 4, vR t21, vI 3]) rfl ?_
  refine XS.iinc Xh54.here hx rfl (D d22_26) rfl (l' := #[vR a2, vI 4, vI 4, vR t21, vI 4]) rfl ?_
  refine XS.goto Xh54.here hx rfl (pc0 := 29) (pc' := 8) rfl (D d22_29) (by decide) (by decide) ?_
  refine XS.iload Xh54.here hx rfl (D d22_8) rfl ?_
  show Steps p.tables e below (T52.setTop (fr_tob4 m a2 10 (vI 4) (vR t21) (vI 4) [(iV 4)])) t
  refine XS.iloadN Xh54.here hx rfl (D d22_10) rfl ?_
  refine XS.icmpYes Xh54.here hx rfl (pc0 := 11) (pc' := 32) rfl (D d22_11) rfl (flt ((by decide) : ¬ ((4 : Int32) < (4 : Int32)))).2.1 (by decide) (by decide) ?_
  refine XS.aloadN Xh54.here hx rfl (D d22_32) rfl rfl ?_
  exact kt
 have f55 := ((((((Keep.refl h0 []).trans Kq21 all0).trans Kq31 (allS (Or.inr z24) all0)).trans Kq38 (allS (Or.inr z24) all0)).trans Kq45 (allS (Or.inr z24) all0)).trans Kq52 (allS (Or.inr z24) all0))
 refine ownRet Xh54 Bd.notSynchronized (v := some (.ref t21)) (fun h => by rw [Bd.returns] at h; cases h) ?_ (oLe rfl) (oLe rfl) (fun fs hr => retOut Xh54 hx Bd.returns rfl (Or.inr (Or.inr (Or.inr (Or.inr ⟨rfl, rfl, rfl⟩)))) (D d22_33) hr)
 show (Q_tob4 Z a2 kC c0 c1 c2 c3 h0 n0) (some (.ref t21)) T52.heap _
 exact ⟨t21, kb21, rfl, Nh54, f55, z24, Aq52⟩
abbrev fr_cp5_4 (m : MethodId) (a2 : Addr) (ta : Addr) (pc : Nat) (x1_ x3_ x5_ x6_ : Slot) (st : List Value) : JFrame := mkF m pc #[vR a2, x1_, vR ta, x3_, vI 4, x5_, x6_] st
def Q_cp5_4 (Z : State) (a2 : Addr) (kC : ClassId) (ta : Addr) (kb : ClassId) (c0 : Int32) (c1 : Int32) (c2 : Int32) (c3 : Int32) (h0 : Heap) (n0 : Nat) (v : Option Value) (h : Heap) (L : List Loc) : Prop := ∃ r : Int32, v = some (.int r) ∧ Fr n0 L ∧ Keep h0 h [ta] ∧ ((r = (4 : Int32) ∧ ¬ ((255 : Int32) < c0) ∧ ¬ ((255 : Int32) < c1) ∧ ¬ ((255 : Int32) < c2) ∧ ¬ ((255 : Int32) < c3) ∧ Arv Z h ta kb .byte (4 : Int32) [(.int (oL c0)), (.int (oL c1)), (.int (oL c2)), (.int (oL c3))] (iV 0)) ∨ (r = (0 : Int32) ∧ (255 : Int32) < c0) ∨ (r = (1 : Int32) ∧ (255 : Int32) < c1) ∨ (r = (2 : Int32) ∧ (255 : Int32) < c2) ∨ (r = (3 : Int32) ∧ (255 : Int32) < c3))
theorem ef_cp5_4 (m : MethodId) (x0 : Addr) (x1 : Int32) (x2 : Addr) (x3 : Int32) (x4 : Int32)  : entryFrame m #[(.ref x0), (.int x1), (.ref x2), (.int x3), (.int x4)] 7 = mkF m 0 #[vR x0, vI x1, vR x2, vI x3, vI x4, .unset, .unset] [] := by first | (simp [entryFrame, mkF, argsToLocals, Value.category]; done) | rfl
set_option maxRecDepth 65536 in
set_option maxHeartbeats 40000000 in
theorem c_cp5_4 (l : Launch) (Z : State) (a0 : Array Value) (hw : HW a0 Z) (ws : List Jvm.Cond) (a2 : Addr) (kC : ClassId) (ta : Addr) (kb : ClassId) (c0 : Int32) (c1 : Int32) (c2 : Int32) (c3 : Int32) (h0 : Heap) (n0 : Nat) (Z0 : n0 ≤ h0.size) (A2 : Arv Z h0 a2 kC .char (4 : Int32) [(.int c0), (.int c1), (.int c2), (.int c3)] (iV 0)) (At : Arv Z h0 ta kb .byte (4 : Int32) [(iV 0), (iV 0), (iV 0), (iV 0)] (iV 0)) (gt : n0 ≤ ta) (ne1 : a2 ≠ ta) :
  MetFree l yM8 (head1 (Jvm.Cond.code yM8 jdk_52_method_21_code 7 (some .int) :: ws) ({ frames := 0, cells := 0, slots := 0, locals := 0 } : Room)) (fun a U => a = #[(.ref a2), (iV 0), (.ref ta), (iV 0), (iV 4)] ∧ Z.Warmed39 U.vm ∧ U.heap = h0) (fun _ _ _ _ _ => True) (fun _ U o U' => ∃ v L, o = .returned v ∧ (Q_cp5_4 Z a2 kC ta kb c0 c1 c2 c3 h0 n0) v U'.heap L ∧ FrameEnd U o U' L ({ frames := 0, cells := 0, slots := 0, locals := 0 } : Room).cells ({ frames := 0, cells := 0, slots := 0, locals := 0 } : Room).slots) := by
 refine MetFree.of_bodySF (plainFor_of_name pn_3) hisR ?_
 intro p e s m args below meth c s₁ Bd hml0 hP hK
 obtain ⟨rfl, hZ, hHp⟩ := hP
 have hx := Bd.exec
 have D := fun {pc : Nat} {r} (h : decode _ pc = r) => hb Bd.bytes h
 have hml : c.maxLocals = 7 := hml0
 have hown : s.vm.findClass "java/lang/StringUTF16" = some m.cls := findClass_of_methodNamed Bd.named
 have hnm := (name_of_methodNamed Bd.named Bd.method).1
 have X0 : Stand p l e ({ frames := 0, cells := 0, slots := 0, locals := 0 } : Room) s m #[(.ref a2), (iV 0), (.ref ta), (iV 0), (iV 4)] below meth c s₁ [] 0 0 := Stand.of_body Bd
 have e0 : s₁.heap = h0 := by rw [← hHp, Bd.state]; rfl
 have N0 := Fr.nil n0
 refine ownOut (P := (Q_cp5_4 Z a2 kC ta kb c0 c1 c2 c3 h0 n0)) ?_
 refine ownBy (A := s₁.setTop (mkF m 0 #[vR a2, vI 0, vR ta, vI 0, vI 4, .unset, .unset] [])) (fun t k => castTop (ef_cp5_4 m a2 (0 : Int32) ta (0 : Int32) (4 : Int32)) k) ?_
 refine oTo s₁ (fr_cp5_4 m a2 ta 12 (vI 0) (vI 0) (vI 0) .unset [(iV 0), (.ref a2)]) (fun t kt => ?_) ?_
 ·refine XS.iconst X0.here hx rfl (D d12_0) ?_
  refine XS.istore X0.here hx rfl (D d12_1) rfl (l' := #[vR a2, vI 0, vR ta, vI 0, vI 4, vI 0, .unset]) rfl ?_
  refine XS.iload X0.here hx rfl (D d12_3) rfl ?_
  refine XS.iload X0.here hx rfl (D d12_5) rfl ?_
  show Steps p.tables e below (s₁.setTop (fr_cp5_4 m a2 ta 7 (vI 0) (vI 0) (vI 0) .unset [(iV 4), (iV 0)])) t
  refine XS.icmpNo X0.here hx rfl (D d12_7) rfl (tlt ((by decide) : (0 : Int32) < (4 : Int32))).2.1 ?_
  refine XS.aloadN X0.here hx rfl (D d12_10) rfl rfl ?_
  refine XS.iloadN X0.here hx rfl (D d12_11) rfl ?_
  exact kt
 obtain ⟨cl21, Ar21, q21, S21, N21, H21, G21⟩ := id A2
 have hin21 : ¬ ((0 : Int32) < 0 ∨ cl21.slots.size ≤ ((0 : Int32)).toNatClampNeg) := inb_of S21 ⟨by decide, by decide⟩
 have hat21 : cl21.slots[((0 : Int32)).toNatClampNeg]? = some (.int c0) := H21.at hin21 rfl
 have st21 := X0.caload hx (j := (0 : Int32)) (v := (.int c0)) (by rw [e0]; exact Ar21.1) (State.isArrayOf_alike hZ.alike Ar21.2.1) Ar21.2.2 hin21 hat21 (g := (fr_cp5_4 m a2 ta 12 (vI 0) (vI 0) (vI 0) .unset [(iV 0), (.ref a2)])) rfl rfl (D d12_12)
 refine ownBy st21 ?_
 show oA p e below _ s₁ (fr_cp5_4 m a2 ta 13 (vI 0) (vI 0) (vI 0) .unset [(.int c0)])
 refine oTo s₁ (fr_cp5_4 m a2 ta 20 (vI 0) (vI 0) (vI 0) (vI c0) [(iV 255), (.int c0)]) (fun t kt => ?_) ?_
 ·refine XS.istore X0.here hx rfl (D d12_13) rfl (l' := #[vR a2, vI 0, vR ta, vI 0, vI 4, vI 0, vI c0]) rfl ?_
  refine XS.iload X0.here hx rfl (D d12_15) rfl ?_
  refine XS.sipush X0.here hx rfl (D d12_17) ?_
  exact kt
 by_cases hc22 : (255 : Int32) < c0
 ·skip
  refine oTo s₁ (fr_cp5_4 m a2 ta 25 (vI 0) (vI 0) (vI 0) (vI c0) [(iV 0)]) (fun t kt => ?_) ?_
  ·refine XS.icmpNo X0.here hx rfl (D d12_20) rfl (tlt hc22).2.2.2 ?_
   refine XS.iload X0.here hx rfl (D d12_23) rfl ?_
   exact kt
  refine ownRet X0 Bd.notSynchronized (v := some (iV 0)) (fun h => by rw [Bd.returns] at h; cases h) ?_ (oLe rfl) (oLe rfl) (fun fs hr => retI X0 hx Bd.returns (D d12_25) hr)
  show (Q_cp5_4 Z a2 kC ta kb c0 c1 c2 c3 h0 n0) (some (iV 0)) s₁.heap _
  rw [e0]
  exact ⟨_, rfl, N0, (Keep.refl h0 [ta]), Or.inr (Or.inl ⟨rfl, hc22⟩)⟩
 ·skip
  refine oTo s₁ (fr_cp5_4 m a2 ta 31 (vI 0) (vI 0) (vI 0) (vI c0) [(.int (c0.toInt8.toInt32)), (iV 0), (.ref ta)]) (fun t kt => ?_) ?_
  ·refine XS.icmpYes X0.here hx rfl (pc0 := 20) (pc' := 26) rfl (D d12_20) rfl (flt hc22).2.2.2 (by decide) (by decide) ?_
   refine XS.aloadN X0.here hx rfl (D d12_26) rfl rfl ?_
   refine XS.iloadN X0.here hx rfl (D d12_27) rfl ?_
   refine XS.iload X0.here hx rfl (D d12_28) rfl ?_
   show Steps p.tables e below (s₁.setTop (fr_cp5_4 m a2 ta 30 (vI 0) (vI 0) (vI 0) (vI c0) [(.int c0), (iV 0), (.ref ta)])) t
   refine XS.i2b X0.here hx rfl (D d12_30) rfl ?_
   exact kt
  obtain ⟨cl23, Ar23, q23, S23, N23, H23, G23⟩ := id At
  have hin23 : ¬ ((0 : Int32) < 0 ∨ cl23.slots.size ≤ ((0 : Int32)).toNatClampNeg) := inb_of S23 ⟨by decide, by decide⟩
  obtain ⟨T23, h23, X23, e23, W23, st23⟩ := stB X0 hx hZ e0 Ar23 (j := (0 : Int32)) hin23 (g := (fr_cp5_4 m a2 ta 31 (vI 0) (vI 0) (vI 0) (vI c0) [(.int (c0.toInt8.toInt32)), (iV 0), (.ref ta)])) rfl rfl (D d12_31)
  have V24 : Arv Z h23 ta kb .byte (4 : Int32) [(.int (nar .byte (c0.toInt8.toInt32))), (iV 0), (iV 0), (iV 0)] (iV 0) := Arv.set Ar23 q23 S23 N23 H23 G23 (fits_nar_byte _) W23 0 rfl (oLe rfl)
  rw [own_nar_byte c0] at V24
  clear hin23 G23 H23 N23 S23 q23 Ar23 cl23
  have N25 := Fr.snoc X23 N0 gt
  obtain ⟨Lh26, Xh26, Nh26⟩ := oHd 0 0 X23 N25 rfl rfl
  refine ownBy st23 ?_
  clear st23
  show oA p e below _ T23 (fr_cp5_4 m a2 ta 32 (vI 0) (vI 0) (vI 0) (vI c0) [])
  refine oTo T23 (fr_cp5_4 m a2 ta 12 (vI 1) (vI 1) (vI 1) (vI c0) [(iV 1), (.ref a2)]) (fun t kt => ?_) ?_
  ·refine XS.iinc Xh26.here hx rfl (D d12_32) rfl (l' := #[vR a2, vI 1, vR ta, vI 0, vI 4, vI 0, vI c0]) rfl ?_
   refine XS.iinc Xh26.here hx rfl (D d12_35) rfl (l' := #[vR a2, vI 1, vR ta, vI 1, vI 4, vI 0, vI c0]) rfl ?_
   refine XS.iinc Xh26.here hx rfl (D d12_38) rfl (l' := #[vR a2, vI 1, vR ta, vI 1, vI 4, vI 1, vI c0]) rfl ?_
   refine XS.goto Xh26.here hx rfl (pc0 := 41) (pc' := 3) rfl (D d12_41) (by decide) (by decide) ?_
   show Steps p.tables e below (T23.setTop (fr_cp5_4 m a2 ta 3 (vI 1) (vI 1) (vI 1) (vI c0) [])) t
   refine XS.iload Xh26.here hx rfl (D d12_3) rfl ?_
   refine XS.iload Xh26.here hx rfl (D d12_5) rfl ?_
   refine XS.icmpNo Xh26.here hx rfl (D d12_7) rfl (tlt ((by decide) : (1 : Int32) < (4 : Int32))).2.1 ?_
   refine XS.aloadN Xh26.here hx rfl (D d12_10) rfl rfl ?_
   show Steps p.tables e below (T23.setTop (fr_cp5_4 m a2 ta 11 (vI 1) (vI 1) (vI 1) (vI c0) [(.ref a2)])) t
   refine XS.iloadN Xh26.here hx rfl (D d12_11) rfl ?_
   exact kt
  have f27 := (A2.other W23 ne1)
  obtain ⟨cl28, Ar28, q28, S28, N28, H28, G28⟩ := id f27
  have hin28 : ¬ ((1 : Int32) < 0 ∨ cl28.slots.size ≤ ((1 : Int32)).toNatClampNeg) := inb_of S28 ⟨by decide, by decide⟩
  have hat28 : cl28.slots[((1 : Int32)).toNatClampNeg]? = some (.int c1) := H28.at hin28 rfl
  have st28 := Xh26.caload hx (j := (1 : Int32)) (v := (.int c1)) (by rw [e23]; exact Ar28.1) (State.isArrayOf_alike hZ.alike Ar28.2.1) Ar28.2.2 hin28 hat28 (g := (fr_cp5_4 m a2 ta 12 (vI 1) (vI 1) (vI 1) (vI c0) [(iV 1), (.ref a2)])) rfl rfl (D d12_12)
  refine ownBy st28 ?_
  show oA p e below _ T23 (fr_cp5_4 m a2 ta 13 (vI 1) (vI 1) (vI 1) (vI c0) [(.int c1)])
  refine oTo T23 (fr_cp5_4 m a2 ta 20 (vI 1) (vI 1) (vI 1) (vI c1) [(iV 255), (.int c1)]) (fun t kt => ?_) ?_
  ·refine XS.istore Xh26.here hx rfl (D d12_13) rfl (l' := #[vR a2, vI 1, vR ta, vI 1, vI 4, vI 1, vI c1]) rfl ?_
   refine XS.iload Xh26.here hx rfl (D d12_15) rfl ?_
   refine XS.sipush Xh26.here hx rfl (D d12_17) ?_
   exact kt
  by_cases hc29 : (255 : Int32) < c1
  ·skip
   refine oTo T23 (fr_cp5_4 m a2 ta 25 (vI 1) (vI 1) (vI 1) (vI c1) [(iV 1)]) (fun t kt => ?_) ?_
   ·refine XS.icmpNo Xh26.here hx rfl (D d12_20) rfl (tlt hc29).2.2.2 ?_
    refine XS.iload Xh26.here hx rfl (D d12_23) rfl ?_
    exact kt
   have f30 := ((Keep.refl h0 [ta]).wr W23 (Or.inl (List.mem_of_getElem? (i := 0) rfl)))
   refine ownRet Xh26 Bd.notSynchronized (v := some (iV 1)) (fun h => by rw [Bd.returns] at h; cases h) ?_ (oLe rfl) (oLe rfl) (fun fs hr => retI Xh26 hx Bd.returns (D d12_25) hr)
   show (Q_cp5_4 Z a2 kC ta kb c0 c1 c2 c3 h0 n0) (some (iV 1)) T23.heap _
   rw [e23]
   exact ⟨_, rfl, Nh26, f30, Or.inr (Or.inr (Or.inl ⟨rfl, hc29⟩))⟩
  ·skip
   refine oTo T23 (fr_cp5_4 m a2 ta 31 (vI 1) (vI 1) (vI 1) (vI c1) [(.int (c1.toInt8.toInt32)), (iV 1), (.ref ta)]) (fun t kt => ?_) ?_
   ·refine XS.icmpYes Xh26.here hx rfl (pc0 := 20) (pc' := 26) rfl (D d12_20) rfl (flt hc29).2.2.2 (by decide) (by decide) ?_
    refine XS.aloadN Xh26.here hx rfl (D d12_26) rfl rfl ?_
    refine XS.iloadN Xh26.here hx rfl (D d12_27) rfl ?_
    refine XS.iload Xh26.here hx rfl (D d12_28) rfl ?_
    show Steps p.tables e below (T23.setTop (fr_cp5_4 m a2 ta 30 (vI 1) (vI 1) (vI 1) (vI c1) [(.int c1), (iV 1), (.ref ta)])) t
    refine XS.i2b Xh26.here hx rfl (D d12_30) rfl ?_
    exact kt
   obtain ⟨cl31, Ar31, q31, S31, N31, H31, G31⟩ := id V24
   have hin31 : ¬ ((1 : Int32) < 0 ∨ cl31.slots.size ≤ ((1 : Int32)).toNatClampNeg) := inb_of S31 ⟨by decide, by decide⟩
   obtain ⟨T31, h31, X31, e31, W31, st31⟩ := stB Xh26 hx hZ e23 Ar31 (j := (1 : Int32)) hin31 (g := (fr_cp5_4 m a2 ta 31 (vI 1) (vI 1) (vI 1) (vI c1) [(.int (c1.toInt8.toInt32)), (iV 1), (.ref ta)])) rfl rfl (D d12_31)
   have V32 : Arv Z h31 ta kb .byte (4 : Int32) [(.int (oL c0)), (.int (nar .byte (c1.toInt8.toInt32))), (iV 0), (iV 0)] (iV 0) := Arv.set Ar31 q31 S31 N31 H31 G31 (fits_nar_byte _) W31 1 rfl (oLe rfl)
   rw [own_nar_byte c1] at V32
   clear hin31 G31 H31 N31 S31 q31 Ar31 cl31 V24
   have N33 := Fr.snoc X31 Nh26 gt
   obtain ⟨Lh34, Xh34, Nh34⟩ := oHd 0 0 X31 N33 rfl rfl
   refine ownBy st31 ?_
   clear st31
   show oA p e below _ T31 (fr_cp5_4 m a2 ta 32 (vI 1) (vI 1) (vI 1) (vI c1) [])
   refine oTo T31 (fr_cp5_4 m a2 ta 12 (vI 2) (vI 2) (vI 2) (vI c1) [(iV 2), (.ref a2)]) (fun t kt => ?_) ?_
   ·refine XS.iinc Xh34.here hx rfl (D d12_32) rfl (l' := #[vR a2, vI 2, vR ta, vI 1, vI 4, vI 1, vI c1]) rfl ?_
    refine XS.iinc Xh34.here hx rfl (D d12_35) rfl (l' := #[vR a2, vI 2, vR ta, vI 2, vI 4, vI 1, vI c1]) rfl ?_
    refine XS.iinc Xh34.here hx rfl (D d12_38) rfl (l' := #[vR a2, vI 2, vR ta, vI 2, vI 4, vI 2, vI c1]) rfl ?_
    refine XS.goto Xh34.here hx rfl (pc0 := 41) (pc' := 3) rfl (D d12_41) (by decide) (by decide) ?_
    show Steps p.tables e below (T31.setTop (fr_cp5_4 m a2 ta 3 (vI 2) (vI 2) (vI 2) (vI c1) [])) t
    refine XS.iload Xh34.here hx rfl (D d12_3) rfl ?_
    refine XS.iload Xh34.here hx rfl (D d12_5) rfl ?_
    refine XS.icmpNo Xh34.here hx rfl (D d12_7) rfl (tlt ((by decide) : (2 : Int32) < (4 : Int32))).2.1 ?_
    refine XS.aloadN Xh34.here hx rfl (D d12_10) rfl rfl ?_
    show Steps p.tables e below (T31.setTop (fr_cp5_4 m a2 ta 11 (vI 2) (vI 2) (vI 2) (vI c1) [(.ref a2)])) t
    refine XS.iloadN Xh34.here hx rfl (D d12_11) rfl ?_
    exact kt
   have f35 := (f27.other W31 ne1)
   obtain ⟨cl36, Ar36, q36, S36, N36, H36, G36⟩ := id f35
   have hin36 : ¬ ((2 : Int32) < 0 ∨ cl36.slots.size ≤ ((2 : Int32)).toNatClampNeg) := inb_of S36 ⟨by decide, by decide⟩
   have hat36 : cl36.slots[((2 : Int32)).toNatClampNeg]? = some (.int c2) := H36.at hin36 rfl
   have st36 := Xh34.caload hx (j := (2 : Int32)) (v := (.int c2)) (by rw [e31]; exact Ar36.1) (State.isArrayOf_alike hZ.alike Ar36.2.1) Ar36.2.2 hin36 hat36 (g := (fr_cp5_4 m a2 ta 12 (vI 2) (vI 2) (vI 2) (vI c1) [(iV 2), (.ref a2)])) rfl rfl (D d12_12)
   refine ownBy st36 ?_
   show oA p e below _ T31 (fr_cp5_4 m a2 ta 13 (vI 2) (vI 2) (vI 2) (vI c1) [(.int c2)])
   refine oTo T31 (fr_cp5_4 m a2 ta 20 (vI 2) (vI 2) (vI 2) (vI c2) [(iV 255), (.int c2)]) (fun t kt => ?_) ?_
   ·refine XS.istore Xh34.here hx rfl (D d12_13) rfl (l' := #[vR a2, vI 2, vR ta, vI 2, vI 4, vI 2, vI c2]) rfl ?_
    refine XS.iload Xh34.here hx rfl (D d12_15) rfl ?_
    refine XS.sipush Xh34.here hx rfl (D d12_17) ?_
    exact kt
   by_cases hc37 : (255 : Int32) < c2
   ·skip
    refine oTo T31 (fr_cp5_4 m a2 ta 25 (vI 2) (vI 2) (vI 2) (vI c2) [(iV 2)]) (fun t kt => ?_) ?_
    ·refine XS.icmpNo Xh34.here hx rfl (D d12_20) rfl (tlt hc37).2.2.2 ?_
     refine XS.iload Xh34.here hx rfl (D d12_23) rfl ?_
     exact kt
    have f38 := (((Keep.refl h0 [ta]).wr W23 (Or.inl (List.mem_of_getElem? (i := 0) rfl))).wr W31 (Or.inl (List.mem_of_getElem? (i := 0) rfl)))
    refine ownRet Xh34 Bd.notSynchronized (v := some (iV 2)) (fun h => by rw [Bd.returns] at h; cases h) ?_ (oLe rfl) (oLe rfl) (fun fs hr => retI Xh34 hx Bd.returns (D d12_25) hr)
    show (Q_cp5_4 Z a2 kC ta kb c0 c1 c2 c3 h0 n0) (some (iV 2)) T31.heap _
    rw [e31]
    exact ⟨_, rfl, Nh34, f38, Or.inr (Or.inr (Or.inr (Or.inl ⟨rfl, hc37⟩)))⟩
   ·skip
    refine oTo T31 (fr_cp5_4 m a2 ta 31 (vI 2) (vI 2) (vI 2) (vI c2) [(.int (c2.toInt8.toInt32)), (iV 2), (.ref ta)]) (fun t kt => ?_) ?_
    ·refine XS.icmpYes Xh34.here hx rfl (pc0 := 20) (pc' := 26) rfl (D d12_20) rfl (flt hc37).2.2.2 (by decide) (by decide) ?_
     refine XS.aloadN Xh34.here hx rfl (D d12_26) rfl rfl ?_
     refine XS.iloadN Xh34.here hx rfl (D d12_27) rfl ?_
     refine XS.iload Xh34.here hx rfl (D d12_28) rfl ?_
     show Steps p.tables e below (T31.setTop (fr_cp5_4 m a2 ta 30 (vI 2) (vI 2) (vI 2) (vI c2) [(.int c2), (iV 2), (.ref ta)])) t
     refine XS.i2b Xh34.here hx rfl (D d12_30) rfl ?_
     exact kt
    obtain ⟨cl39, Ar39, q39, S39, N39, H39, G39⟩ := id V32
    have hin39 : ¬ ((2 : Int32) < 0 ∨ cl39.slots.size ≤ ((2 : Int32)).toNatClampNeg) := inb_of S39 ⟨by decide, by decide⟩
    obtain ⟨T39, h39, X39, e39, W39, st39⟩ := stB Xh34 hx hZ e31 Ar39 (j := (2 : Int32)) hin39 (g := (fr_cp5_4 m a2 ta 31 (vI 2) (vI 2) (vI 2) (vI c2) [(.int (c2.toInt8.toInt32)), (iV 2), (.ref ta)])) rfl rfl (D d12_31)
    have V40 : Arv Z h39 ta kb .byte (4 : Int32) [(.int (oL c0)), (.int (oL c1)), (.int (nar .byte (c2.toInt8.toInt32))), (iV 0)] (iV 0) := Arv.set Ar39 q39 S39 N39 H39 G39 (fits_nar_byte _) W39 2 rfl (oLe rfl)
    rw [own_nar_byte c2] at V40
    clear hin39 G39 H39 N39 S39 q39 Ar39 cl39 V32
    have N41 := Fr.snoc X39 Nh34 gt
    obtain ⟨Lh42, Xh42, Nh42⟩ := oHd 0 0 X39 N41 rfl rfl
    refine ownBy st39 ?_
    clear st39
    show oA p e below _ T39 (fr_cp5_4 m a2 ta 32 (vI 2) (vI 2) (vI 2) (vI c2) [])
    refine oTo T39 (fr_cp5_4 m a2 ta 12 (vI 3) (vI 3) (vI 3) (vI c2) [(iV 3), (.ref a2)]) (fun t kt => ?_) ?_
    ·refine XS.iinc Xh42.here hx rfl (D d12_32) rfl (l' := #[vR a2, vI 3, vR ta, vI 2, vI 4, vI 2, vI c2]) rfl ?_
     refine XS.iinc Xh42.here hx rfl (D d12_35) rfl (l' := #[vR a2, vI 3, vR ta, vI 3, vI 4, vI 2, vI c2]) rfl ?_
     refine XS.iinc Xh42.here hx rfl (D d12_38) rfl (l' := #[vR a2, vI 3, vR ta, vI 3, vI 4, vI 3, vI c2]) rfl ?_
     refine XS.goto Xh42.here hx rfl (pc0 := 41) (pc' := 3) rfl (D d12_41) (by decide) (by decide) ?_
     show Steps p.tables e below (T39.setTop (fr_cp5_4 m a2 ta 3 (vI 3) (vI 3) (vI 3) (vI c2) [])) t
     refine XS.iload Xh42.here hx rfl (D d12_3) rfl ?_
     refine XS.iload Xh42.here hx rfl (D d12_5) rfl ?_
     refine XS.icmpNo Xh42.here hx rfl (D d12_7) rfl (tlt ((by decide) : (3 : Int32) < (4 : Int32))).2.1 ?_
     refine XS.aloadN Xh42.here hx rfl (D d12_10) rfl rfl ?_
     show Steps p.tables e below (T39.setTop (fr_cp5_4 m a2 ta 11 (vI 3) (vI 3) (vI 3) (vI c2) [(.ref a2)])) t
     refine XS.iloadN Xh42.here hx rfl (D d12_11) rfl ?_
     exact kt
    have f43 := (f35.other W39 ne1)
    obtain ⟨cl44, Ar44, q44, S44, N44, H44, G44⟩ := id f43
    have hin44 : ¬ ((3 : Int32) < 0 ∨ cl44.slots.size ≤ ((3 : Int32)).toNatClampNeg) := inb_of S44 ⟨by decide, by decide⟩
    have hat44 : cl44.slots[((3 : Int32)).toNatClampNeg]? = some (.int c3) := H44.at hin44 rfl
    have st44 := Xh42.caload hx (j := (3 : Int32)) (v := (.int c3)) (by rw [e39]; exact Ar44.1) (State.isArrayOf_alike hZ.alike Ar44.2.1) Ar44.2.2 hin44 hat44 (g := (fr_cp5_4 m a2 ta 12 (vI 3) (vI 3) (vI 3) (vI c2) [(iV 3), (.ref a2)])) rfl rfl (D d12_12)
    refine ownBy st44 ?_
    show oA p e below _ T39 (fr_cp5_4 m a2 ta 13 (vI 3) (vI 3) (vI 3) (vI c2) [(.int c3)])
    refine oTo T39 (fr_cp5_4 m a2 ta 20 (vI 3) (vI 3) (vI 3) (vI c3) [(iV 255), (.int c3)]) (fun t kt => ?_) ?_
    ·refine XS.istore Xh42.here hx rfl (D d12_13) rfl (l' := #[vR a2, vI 3, vR ta, vI 3, vI 4, vI 3, vI c3]) rfl ?_
     refine XS.iload Xh42.here hx rfl (D d12_15) rfl ?_
     refine XS.sipush Xh42.here hx rfl (D d12_17) ?_
     exact kt
    by_cases hc45 : (255 : Int32) < c3
    ·skip
     refine oTo T39 (fr_cp5_4 m a2 ta 25 (vI 3) (vI 3) (vI 3) (vI c3) [(iV 3)]) (fun t kt => ?_) ?_
     ·refine XS.icmpNo Xh42.here hx rfl (D d12_20) rfl (tlt hc45).2.2.2 ?_
      refine XS.iload Xh42.here hx rfl (D d12_23) rfl ?_
      exact kt
     have f46 := ((((Keep.refl h0 [ta]).wr W23 (Or.inl (List.mem_of_getElem? (i := 0) rfl))).wr W31 (Or.inl (List.mem_of_getElem? (i := 0) rfl))).wr W39 (Or.inl (List.mem_of_getElem? (i := 0) rfl)))
     refine ownRet Xh42 Bd.notSynchronized (v := some (iV 3)) (fun h => by rw [Bd.returns] at h; cases h) ?_ (oLe rfl) (oLe rfl) (fun fs hr => retI Xh42 hx Bd.returns (D d12_25) hr)
     show (Q_cp5_4 Z a2 kC ta kb c0 c1 c2 c3 h0 n0) (some (iV 3)) T39.heap _
     rw [e39]
     exact ⟨_, rfl, Nh42, f46, Or.inr (Or.inr (Or.inr (Or.inr (⟨rfl, hc45⟩))))⟩
    ·skip
     refine oTo T39 (fr_cp5_4 m a2 ta 31 (vI 3) (vI 3) (vI 3) (vI c3) [(.int (c3.toInt8.toInt32)), (iV 3), (.ref ta)]) (fun t kt => ?_) ?_
     ·refine XS.icmpYes Xh42.here hx rfl (pc0 := 20) (pc' := 26) rfl (D d12_20) rfl (flt hc45).2.2.2 (by decide) (by decide) ?_
      refine XS.aloadN Xh42.here hx rfl (D d12_26) rfl rfl ?_
      refine XS.iloadN Xh42.here hx rfl (D d12_27) rfl ?_
      refine XS.iload Xh42.here hx rfl (D d12_28) rfl ?_
      show Steps p.tables e below (T39.setTop (fr_cp5_4 m a2 ta 30 (vI 3) (vI 3) (vI 3) (vI c3) [(.int c3), (iV 3), (.ref ta)])) t
      refine XS.i2b Xh42.here hx rfl (D d12_30) rfl ?_
      exact kt
     obtain ⟨cl47, Ar47, q47, S47, N47, H47, G47⟩ := id V40
     have hin47 : ¬ ((3 : Int32) < 0 ∨ cl47.slots.size ≤ ((3 : Int32)).toNatClampNeg) := inb_of S47 ⟨by decide, by decide⟩
     obtain ⟨T47, h47, X47, e47, W47, st47⟩ := stB Xh42 hx hZ e39 Ar47 (j := (3 : Int32)) hin47 (g := (fr_cp5_4 m a2 ta 31 (vI 3) (vI 3) (vI 3) (vI c3) [(.int (c3.toInt8.toInt32)), (iV 3), (.ref ta)])) rfl rfl (D d12_31)
     have V48 : Arv Z h47 ta kb .byte (4 : Int32) [(.int (oL c0)), (.int (oL c1)), (.int (oL c2)), (.int (nar .byte (c3.toInt8.toInt32)))] (iV 0) := Arv.set Ar47 q47 S47 N47 H47 G47 (fits_nar_byte _) W47 3 rfl (oLe rfl)
     rw [own_nar_byte c3] at V48
     clear hin47 G47 H47 N47 S47 q47 Ar47 cl47 V40
     have N49 := Fr.snoc X47 Nh42 gt
     obtain ⟨Lh50, Xh50, Nh50⟩ := oHd 0 0 X47 N49 rfl rfl
     refine ownBy st47 ?_
     clear st47
     show oA p e below _ T47 (fr_cp5_4 m a2 ta 32 (vI 3) (vI 3) (vI 3) (vI c3) [])
     refine oTo T47 (fr_cp5_4 m a2 ta 46 (vI 4) (vI 4) (vI 4) (vI c3) [(iV 4)]) (fun t kt => ?_) ?_
     ·refine XS.iinc Xh50.here hx rfl (D d12_32) rfl (l' := #[vR a2, vI 4, vR ta, vI 3, vI 4, vI 3, vI c3]) rfl ?_
      refine XS.iinc Xh50.here hx rfl (D d12_35) rfl (l' := #[vR a2, vI 4, vR ta, vI 4, vI 4, vI 3, vI c3]) rfl ?_
      refine XS.iinc Xh50.here hx rfl (D d12_38) rfl (l' := #[vR a2, vI 4, vR ta, vI 4, vI 4, vI 4, vI c3]) rfl ?_
      refine XS.goto Xh50.here hx rfl (pc0 := 41) (pc' := 3) rfl (D d12_41) (by decide) (by decide) ?_
      show Steps p.tables e below (T47.setTop (fr_cp5_4 m a2 ta 3 (vI 4) (vI 4) (vI 4) (vI c3) [])) t
      refine XS.iload Xh50.here hx rfl (D d12_3) rfl ?_
      refine XS.iload Xh50.here hx rfl (D d12_5) rfl ?_
      refine XS.icmpYes Xh50.here hx rfl (pc0 := 7) (pc' := 44) rfl (D d12_7) rfl (flt ((by decide) : ¬ ((4 : Int32) < (4 : Int32)))).2.1 (by decide) (by decide) ?_
      refine XS.iload Xh50.here hx rfl (D d12_44) rfl ?_
      exact kt
     have f51 := (((((Keep.refl h0 [ta]).wr W23 (Or.inl (List.mem_of_getElem? (i := 0) rfl))).wr W31 (Or.inl (List.mem_of_getElem? (i := 0) rfl))).wr W39 (Or.inl (List.mem_of_getElem? (i := 0) rfl))).wr W47 (Or.inl (List.mem_of_getElem? (i := 0) rfl)))
     refine ownRet Xh50 Bd.notSynchronized (v := some (iV 4)) (fun h => by rw [Bd.returns] at h; cases h) ?_ (oLe rfl) (oLe rfl) (fun fs hr => retI Xh50 hx Bd.returns (D d12_46) hr)
     show (Q_cp5_4 Z a2 kC ta kb c0 c1 c2 c3 h0 n0) (some (iV 4)) T47.heap _
     rw [e47]
     exact ⟨_, rfl, Nh50, f51, Or.inl ⟨rfl, hc22, hc29, hc37, hc45, V48⟩⟩
abbrev fr_cp3_4 (m : MethodId) (a2 : Addr) (pc : Nat) (x3_ x4_ x5_ : Slot) (st : List Value) : JFrame := mkF m pc #[vR a2, vI 0, vI 4, x3_, x4_, x5_] st
def Q_cp3_4 (Z : State) (a2 : Addr) (kC : ClassId) (c0 : Int32) (c1 : Int32) (c2 : Int32) (c3 : Int32) (h0 : Heap) (n0 : Nat) (v : Option Value) (h : Heap) (L : List Loc) : Prop := ∃ (ta : Addr) (kb : ClassId), v = some (.ref ta) ∧ Fr n0 L ∧ Keep h0 h [] ∧ h0.size ≤ ta ∧ ((¬ ((255 : Int32) < c0) ∧ ¬ ((255 : Int32) < c1) ∧ ¬ ((255 : Int32) < c2) ∧ ¬ ((255 : Int32) < c3) ∧ Arv Z h ta kb .byte (4 : Int32) [(.int (oL c0)), (.int (oL c1)), (.int (oL c2)), (.int (oL c3))] (iV 0)) ∨ (((255 : Int32) < c0 ∨ (255 : Int32) < c1 ∨ (255 : Int32) < c2 ∨ (255 : Int32) < c3) ∧ Arv Z h ta kb .byte (8 : Int32) [(.int (oW c0)), (.int (oH c0)), (.int (oW c1)), (.int (oH c1)), (.int (oW c2)), (.int (oH c2)), (.int (oW c3)), (.int (oH c3))] (iV 0)))
theorem ef_cp3_4 (m : MethodId) (x0 : Addr) (x1 : Int32) (x2 : Int32)  : entryFrame m #[(.ref x0), (.int x1), (.int x2)] 6 = mkF m 0 #[vR x0, vI x1, vI x2, .unset, .unset, .unset] [] := by first | (simp [entryFrame, mkF, argsToLocals, Value.category]; done) | rfl
set_option maxRecDepth 65536 in
set_option maxHeartbeats 40000000 in
theorem c_cp3_4 (l : Launch) (Z : State) (a0 : Array Value) (hw : HW a0 Z) (ws : List Jvm.Cond) (a2 : Addr) (kC : ClassId) (c0 : Int32) (c1 : Int32) (c2 : Int32) (c3 : Int32) (h0 : Heap) (n0 : Nat) (Z0 : n0 ≤ h0.size) (A2 : Arv Z h0 a2 kC .char (4 : Int32) [(.int c0), (.int c1), (.int c2), (.int c3)] (iV 0)) (hc0 : ¬ c0 < 0 ∧ ¬ (65535 : Int32) < c0) (hc1 : ¬ c1 < 0 ∧ ¬ (65535 : Int32) < c1) (hc2 : ¬ c2 < 0 ∧ ¬ (65535 : Int32) < c2) (hc3 : ¬ c3 < 0 ∧ ¬ (65535 : Int32) < c3) (SA : Sta Z Z.heap "java/lang/StringUTF16" "$assertionsDisabled" "Z" (iV 1)) (SHI : Sta Z Z.heap "java/lang/StringUTF16" "HI_BYTE_SHIFT" "I" (iV 0)) (SLO : Sta Z Z.heap "java/lang/StringUTF16" "LO_BYTE_SHIFT" "I" (iV 8)) (X00 : Old Z n0 h0) :
  MetFree l yM9 (head1 (Jvm.Cond.code yM9 jdk_52_method_16_code 6 (some (.array .byte)) :: ws) ({ frames := 3, cells := 2, slots := 12, locals := 40 } : Room)) (fun a U => a = #[(.ref a2), (iV 0), (iV 4)] ∧ Z.Warmed39 U.vm ∧ U.heap = h0) (fun _ _ _ _ _ => True) (fun _ U o U' => ∃ v L, o = .returned v ∧ (Q_cp3_4 Z a2 kC c0 c1 c2 c3 h0 n0) v U'.heap L ∧ FrameEnd U o U' L ({ frames := 3, cells := 2, slots := 12, locals := 40 } : Room).cells ({ frames := 3, cells := 2, slots := 12, locals := 40 } : Room).slots) := by
 refine MetFree.of_bodySF (plainFor_of_name pn_3) hisR ?_
 intro p e s m args below meth c s₁ Bd hml0 hP hK
 obtain ⟨rfl, hZ, hHp⟩ := hP
 have hx := Bd.exec
 have D := fun {pc : Nat} {r} (h : decode _ pc = r) => hb Bd.bytes h
 have hml : c.maxLocals = 6 := hml0
 have hown : s.vm.findClass "java/lang/StringUTF16" = some m.cls := findClass_of_methodNamed Bd.named
 have hnm := (name_of_methodNamed Bd.named Bd.method).1
 have X0 : Stand p l e ({ frames := 3, cells := 2, slots := 12, locals := 40 } : Room) s m #[(.ref a2), (iV 0), (iV 4)] below meth c s₁ [] 0 0 := Stand.of_body Bd
 have e0 : s₁.heap = h0 := by rw [← hHp, Bd.state]; rfl
 have N0 := Fr.nil n0
 refine ownOut (P := (Q_cp3_4 Z a2 kC c0 c1 c2 c3 h0 n0)) ?_
 refine ownBy (A := s₁.setTop (mkF m 0 #[vR a2, vI 0, vI 4, .unset, .unset, .unset] [])) (fun t k => castTop (ef_cp3_4 m a2 (0 : Int32) (4 : Int32)) k) ?_
 refine oTo s₁ (fr_cp3_4 m a2 1 .unset .unset .unset [(iV 4)]) (fun t kt => ?_) ?_
 ·refine XS.iloadN X0.here hx rfl (D d11_0) rfl ?_
  exact kt
 obtain ⟨T21, h21, k21, X21, e21, E21, A21, st21⟩ := newP X0 hx hZ (aty := .byte) (Wd22 hw) e0 (g := (fr_cp3_4 m a2 1 .unset .unset .unset [(iV 4)])) rfl (D d11_1) rfl (by decide : ¬ ((4 : Int32) < (0 : Int32))) (cap := 4) (by decide) (by decide) (by decide) (by decide)
 obtain ⟨b21, g21⟩ : ∃ z, z = h0.size := ⟨_, rfl⟩
 rw [← g21] at A21 st21
 have ne22 : a2 ≠ b21 := Nat.ne_of_lt (Nat.lt_of_lt_of_le A2.lt (Nat.le_of_eq g21.symm))
 have g23 : n0 ≤ b21 := Nat.le_trans Z0 (Nat.le_of_eq g21.symm)
 have z24 : h0.size ≤ b21 := Nat.le_trans (Nat.le_refl h0.size) (Nat.le_of_eq g21.symm)
 have V25 : Arv Z h21 b21 k21 .byte (4 : Int32) [(iV 0), (iV 0), (iV 0), (iV 0)] (iV 0) := (Arv.new A21 (by decide)).pad (pad_rep [] (iV 0) 4)
 refine ownBy st21 ?_
 clear st21
 show oA p e below _ T21 (fr_cp3_4 m a2 3 .unset .unset .unset [(.ref b21)])
 refine oTo T21 (fr_cp3_4 m a2 9 (vR b21) .unset .unset [(iV 4), (iV 0), (.ref b21), (iV 0), (.ref a2)]) (fun t kt => ?_) ?_
 ·refine XS.astoreN X21.here hx rfl (D d11_3) rfl rfl (l' := #[vR a2, vI 0, vI 4, vR b21, .unset, .unset]) rfl ?_
  refine XS.aloadN X21.here hx rfl (D d11_4) rfl rfl ?_
  refine XS.iloadN X21.here hx rfl (D d11_5) rfl ?_
  refine XS.aloadN X21.here hx rfl (D d11_6) rfl rfl ?_
  show Steps p.tables e below (T21.setTop (fr_cp3_4 m a2 7 (vR b21) .unset .unset [(.ref b21), (iV 0), (.ref a2)])) t
  refine XS.iconst X21.here hx rfl (D d11_7) ?_
  refine XS.iloadN X21.here hx rfl (D d11_8) rfl ?_
  exact kt
 have f26 := (A2.ext E21)
 have f27 := (Nat.le_trans Z0 E21.1)
 obtain ⟨vv28, _, ⟨T28, L28, k28, n28⟩, -, X28, ⟨Lc28, hQ28, l28, y28, z28⟩, st28⟩ := Jvm.LawKit.callS X21 hx (y := yM8) hown (mvT hZ (Wd76 hw)) (mvT hZ (Wd77 hw)) (mvT hZ (Wd74 hw)) (mvT hZ (Wd78 hw)) (by decide) (backOf (W := 0) (c_cp5_4 l Z a0 hw [] a2 kC b21 k21 c0 c1 c2 c3 h21 n0 f27 f26 V25 g23 ne22) hZ (Wd78 hw) (Wd74 hw) (by decide) (by decide)) (g := (fr_cp3_4 m a2 9 (vR b21) .unset .unset [(iV 4), (iV 0), (.ref b21), (iV 0), (.ref a2)])) rfl (by rw [hml]; rfl) (argsL := [(.ref a2), (iV 0), (.ref b21), (iV 0), (iV 4)]) (rest := []) (lenOf pd_7 rfl) rfl (by show 2 * 0 + _ ≤ _; exact Nat.le_of_eq rfl) (D d11_9) (fun _ _ => ⟨rfl, e21, (by decide : 1 + 0 ≤ _), (by decide : 4 + 0 ≤ _)⟩)
 dsimp only [Pt.U, Pt.locs, Pt.cells, Pt.slots] at X28 l28 y28 z28 st28 hQ28
 subst l28 y28 z28
 obtain ⟨r28, rfl, Nq28, Kq28, hB28⟩ := hQ28
 rcases hB28 with ⟨rfl, hn28_0, hn28_1, hn28_2, hn28_3, Aq28⟩ | hF
 ·skip
  have N29 := Fr.app N0 Nq28
  obtain ⟨Lh30, Xh30, Nh30⟩ := oHd 1 4 X28 N29 rfl rfl
  refine ownBy st28 ?_
  clear st28
  show oA p e below _ T28 (fr_cp3_4 m a2 12 (vR b21) .unset .unset [(iV 4)])
  refine oTo T28 (fr_cp3_4 m a2 58 (vR b21) (vI 4) .unset [(.ref b21)]) (fun t kt => ?_) ?_
  ·refine XS.istore Xh30.here hx rfl (D d11_12) rfl (l' := #[vR a2, vI 0, vI 4, vR b21, vI 4, .unset]) rfl ?_
   refine XS.iload Xh30.here hx rfl (D d11_14) rfl ?_
   refine XS.iloadN Xh30.here hx rfl (D d11_16) rfl ?_
   refine XS.icmpYes Xh30.here hx rfl (pc0 := 17) (pc' := 57) rfl (D d11_17) rfl (teq ((by decide) : (4 : Int32) = (4 : Int32))).1 (by decide) (by decide) ?_
   show Steps p.tables e below (T28.setTop (fr_cp3_4 m a2 57 (vR b21) (vI 4) .unset [])) t
   refine XS.aloadN Xh30.here hx rfl (D d11_57) rfl rfl ?_
   exact kt
  have f31 := (((Keep.refl h0 []).ext E21).trans Kq28 (allS (Or.inr z24) all0))
  refine ownRet Xh30 Bd.notSynchronized (v := some (.ref b21)) (fun h => by rw [Bd.returns] at h; cases h) ?_ (oLe rfl) (oLe rfl) (fun fs hr => retOut Xh30 hx Bd.returns rfl (Or.inr (Or.inr (Or.inr (Or.inr ⟨rfl, rfl, rfl⟩)))) (D d11_58) hr)
  show (Q_cp3_4 Z a2 kC c0 c1 c2 c3 h0 n0) (some (.ref b21)) T28.heap _
  exact ⟨b21, k21, rfl, Nh30, f31, z24, Or.inl ⟨hn28_0, hn28_1, hn28_2, hn28_3, Aq28⟩⟩
 ·skip
  have N32 := Fr.app N0 Nq28
  obtain ⟨Lh33, Xh33, Nh33⟩ := oHd 1 4 X28 N32 rfl rfl
  refine ownBy st28 ?_
  clear st28
  show oA p e below _ T28 (fr_cp3_4 m a2 12 (vR b21) .unset .unset [(.int r28)])
  have hr : ¬ (r28 = (4 : Int32)) := by
   rcases hF with ⟨rfl, -⟩ | ⟨rfl, -⟩ | ⟨rfl, -⟩ | ⟨rfl, -⟩ <;> decide
  refine oTo T28 (fr_cp3_4 m a2 23 (vR b21) (vI r28) .unset [(iV 4), (iV 0), (.ref a2)]) (fun t kt => ?_) ?_
  ·refine XS.istore Xh33.here hx rfl (D d11_12) rfl (l' := #[vR a2, vI 0, vI 4, vR b21, vI r28, .unset]) rfl ?_
   refine XS.iload Xh33.here hx rfl (D d11_14) rfl ?_
   refine XS.iloadN Xh33.here hx rfl (D d11_16) rfl ?_
   refine XS.icmpNo Xh33.here hx rfl (D d11_17) rfl (feq hr).1 ?_
   show Steps p.tables e below (T28.setTop (fr_cp3_4 m a2 20 (vR b21) (vI r28) .unset [])) t
   refine XS.aloadN Xh33.here hx rfl (D d11_20) rfl rfl ?_
   refine XS.iloadN Xh33.here hx rfl (D d11_21) rfl ?_
   refine XS.iloadN Xh33.here hx rfl (D d11_22) rfl ?_
   exact kt
  have f34 := (f26.keep Kq28 (ninS ne22 nin0))
  have f35 := ((X00.ext E21).keep Kq28 (allS g23 all0))
  have f36 := (Nat.le_trans f27 Kq28.1)
  obtain ⟨vv37, _, ⟨T37, L37, k37, n37⟩, -, X37, ⟨Lc37, hQ37, l37, y37, z37⟩, st37⟩ := Jvm.LawKit.callS Xh33 hx (y := yM7) hown (mvT hZ (Wd131 hw)) (mvT hZ (Wd132 hw)) (mvT hZ (Wd74 hw)) (mvT hZ (Wd133 hw)) (by decide) (backOf (W := 0) (c_tob4 l Z a0 hw [] a2 kC c0 c1 c2 c3 T28.heap n0 f36 f34 SA SHI SLO f35) hZ (Wd133 hw) (Wd74 hw) (by decide) (by decide)) (g := (fr_cp3_4 m a2 23 (vR b21) (vI r28) .unset [(iV 4), (iV 0), (.ref a2)])) rfl (by rw [hml]; rfl) (argsL := [(.ref a2), (iV 0), (iV 4)]) (rest := []) (lenOf pd_8 rfl) rfl (by show 2 * 0 + _ ≤ _; exact Nat.le_of_eq rfl) (D d11_23) (fun _ _ => ⟨rfl, rfl, (by decide : 1 + 1 ≤ _), (by decide : 4 + 8 ≤ _)⟩)
  dsimp only [Pt.U, Pt.locs, Pt.cells, Pt.slots] at X37 l37 y37 z37 st37 hQ37
  subst l37 y37 z37
  obtain ⟨t37, kb37, rfl, Nq37, Kq37, zq37, Aq37⟩ := hQ37
  have ne38 : a2 ≠ t37 := Nat.ne_of_lt (Nat.lt_of_lt_of_le f34.lt zq37)
  have g39 : n0 ≤ t37 := Nat.le_trans f36 zq37
  have f41 := (Nat.le_trans (Nat.le_trans (Nat.le_refl h0.size) E21.1) Kq28.1)
  have z40 : h0.size ≤ t37 := Nat.le_trans f41 zq37
  have N42 := Fr.app Nh33 Nq37
  obtain ⟨Lh43, Xh43, Nh43⟩ := oHd 2 12 X37 N42 rfl rfl
  refine ownBy st37 ?_
  clear st37
  show oA p e below _ T37 (fr_cp3_4 m a2 26 (vR b21) (vI r28) .unset [(.ref t37)])
  refine oTo T37 (fr_cp3_4 m a2 32 (vR b21) (vI r28) (vR t37) [(.int r28), (.ref t37)]) (fun t kt => ?_) ?_
  ·refine XS.astore Xh43.here hx rfl (D d11_26) rfl rfl (l' := #[vR a2, vI 0, vI 4, vR b21, vI r28, vR t37]) rfl ?_
   refine XS.aload Xh43.here hx rfl (D d11_28) rfl rfl ?_
   refine XS.iload Xh43.here hx rfl (D d11_30) rfl ?_
   exact kt
  obtain ⟨cM, kM, q0, q1, k0, k1, u0, u1, hcM, hgM⟩ : ∃ (cM : Int32) (kM : Nat), (¬ (r28 <<< ((1 : Int32) &&& 31)) < 0 ∧ (r28 <<< ((1 : Int32) &&& 31)) < (8 : Int32)) ∧ (¬ ((r28 <<< ((1 : Int32) &&& 31)) + (1 : Int32)) < 0 ∧ ((r28 <<< ((1 : Int32) &&& 31)) + (1 : Int32)) < (8 : Int32)) ∧ (r28 <<< ((1 : Int32) &&& 31)).toNatClampNeg = kM ∧ ((r28 <<< ((1 : Int32) &&& 31)) + (1 : Int32)).toNatClampNeg = kM + 1 ∧ ([(.int (oW c0)), (.int (oH c0)), (.int (oW c1)), (.int (oH c1)), (.int (oW c2)), (.int (oH c2)), (.int (oW c3)), (.int (oH c3))] : List Value).getD kM (iV 0) = .int (oW cM) ∧ ([(.int (oW c0)), (.int (oH c0)), (.int (oW c1)), (.int (oH c1)), (.int (oW c2)), (.int (oH c2)), (.int (oW c3)), (.int (oH c3))] : List Value).getD (kM + 1) (iV 0) = .int (oH cM) ∧ (¬ cM < 0 ∧ ¬ (65535 : Int32) < cM) ∧ (255 : Int32) < cM := by
   rcases hF with ⟨rfl, h⟩ | ⟨rfl, h⟩ | ⟨rfl, h⟩ | ⟨rfl, h⟩
   ·exact ⟨c0, 0, by decide +kernel, by decide +kernel, by decide +kernel, by decide +kernel, rfl, rfl, hc0, h⟩
   ·exact ⟨c1, 2, by decide +kernel, by decide +kernel, by decide +kernel, by decide +kernel, rfl, rfl, hc1, h⟩
   ·exact ⟨c2, 4, by decide +kernel, by decide +kernel, by decide +kernel, by decide +kernel, rfl, rfl, hc2, h⟩
   ·exact ⟨c3, 6, by decide +kernel, by decide +kernel, by decide +kernel, by decide +kernel, rfl, rfl, hc3, h⟩
  have f44 := (f35.keep Kq37 all0)
  have f45 := (Nat.le_trans f36 Kq37.1)
  obtain ⟨vv46, _, ⟨T46, L46, k46, n46⟩, -, X46, ⟨Lc46, hQ46, l46, y46, z46⟩, st46⟩ := Jvm.LawKit.callS Xh43 hx (y := yM5) hown (mvT hZ (Wd147 hw)) (mvT hZ (Wd148 hw)) (mvT hZ (Wd74 hw)) (mvT hZ (Wd149 hw)) (by decide) (backOf (W := 0) (c_getc l Z a0 hw [] t37 kb37 (8 : Int32) [(.int (oW c0)), (.int (oH c0)), (.int (oW c1)), (.int (oH c1)), (.int (oW c2)), (.int (oH c2)), (.int (oW c3)), (.int (oH c3))] r28 cM kM T37.heap n0 f45 Aq37 q0 q1 k0 k1 u0 u1 hcM SA SHI SLO f44) hZ (Wd149 hw) (Wd74 hw) (by decide) (by decide)) (g := (fr_cp3_4 m a2 32 (vR b21) (vI r28) (vR t37) [(.int r28), (.ref t37)])) rfl (by rw [hml]; rfl) (argsL := [(.ref t37), (.int r28)]) (rest := []) (lenOf pd_9 rfl) rfl (by show 2 * 0 + _ ≤ _; exact Nat.le_of_eq rfl) (D d11_32) (fun _ _ => ⟨rfl, rfl, (by decide : 2 + 0 ≤ _), (by decide : 12 + 0 ≤ _)⟩)
  dsimp only [Pt.U, Pt.locs, Pt.cells, Pt.slots] at X46 l46 y46 z46 st46 hQ46
  subst l46 y46 z46
  obtain ⟨rfl, Nq46, Eq46⟩ := hQ46
  have N47 := Fr.app Nh43 Nq46
  obtain ⟨Lh48, Xh48, Nh48⟩ := oHd 2 12 X46 N47 rfl rfl
  refine ownBy st46 ?_
  clear st46
  show oA p e below _ T46 (fr_cp3_4 m a2 35 (vR b21) (vI r28) (vR t37) [(.int cM)])
  refine oTo T46 (fr_cp3_4 m a2 56 (vR b21) (vI r28) (vR t37) [(.ref t37)]) (fun t kt => ?_) ?_
  ·refine XS.sipush Xh48.here hx rfl (D d11_35) ?_
   refine XS.icmpYes Xh48.here hx rfl (pc0 := 38) (pc' := 54) rfl (D d11_38) rfl (tlt hgM).2.2.1 (by decide) (by decide) ?_
   refine XS.aload Xh48.here hx rfl (D d11_54) rfl rfl ?_
   exact kt
  have hg3 : (255 : Int32) < c0 ∨ (255 : Int32) < c1 ∨ (255 : Int32) < c2 ∨ (255 : Int32) < c3 := by
   rcases hF with ⟨-, h⟩ | ⟨-, h⟩ | ⟨-, h⟩ | ⟨-, h⟩
   ·exact Or.inl h
   ·exact Or.inr (Or.inl h)
   ·exact Or.inr (Or.inr (Or.inl h))
   ·exact Or.inr (Or.inr (Or.inr (h)))
  have f49 := ((((Keep.refl h0 []).ext E21).trans Kq28 (allS (Or.inr z24) all0)).trans Kq37 all0)
  refine ownRet Xh48 Bd.notSynchronized (v := some (.ref t37)) (fun h => by rw [Bd.returns] at h; cases h) ?_ (oLe rfl) (oLe rfl) (fun fs hr => retOut Xh48 hx Bd.returns rfl (Or.inr (Or.inr (Or.inr (Or.inr ⟨rfl, rfl, rfl⟩)))) (D d11_56) hr)
  show (Q_cp3_4 Z a2 kC c0 c1 c2 c3 h0 n0) (some (.ref t37)) T46.heap _
  rw [Eq46]
  exact ⟨t37, kb37, rfl, Nh48, f49, z40, Or.inr ⟨hg3, Aq37⟩⟩
abbrev fr_ini4_4 (m : MethodId) (a1 : Addr) (a2 : Addr) (pc : Nat) (x5_ : Slot) (st : List Value) : JFrame := mkF m pc #[vR a1, vR a2, vI 0, vI 4, .val .null, x5_] st
def Q_ini4_4 (Z : State) (a1 : Addr) (a2 : Addr) (kC : ClassId) (c0 : Int32) (c1 : Int32) (c2 : Int32) (c3 : Int32) (c9 : Value) (G1 : Int32) (h0 : Heap) (n0 : Nat) (v : Option Value) (h : Heap) (L : List Loc) : Prop := v = none ∧ Fr n0 L ∧ Keep h0 h [a1] ∧ Exa Z h a1 "java/lang/String" ∧ ∃ (ta : Addr) (kb : ClassId) (cd z : Int32) (vs : List Value), h0.size ≤ ta ∧ Fld Z h a1 "java/lang/String" "value" "[B" (.ref ta) ∧ Fld Z h a1 "java/lang/String" "coder" "B" (.int cd) ∧ Arv Z h ta kb .byte z vs (iV 0) ∧ ((cd = (0 : Int32) ∧ z = (4 : Int32) ∧ vs = [(.int (oL c0)), (.int (oL c1)), (.int (oL c2)), (.int (oL c3))] ∧ ¬ ((255 : Int32) < c0) ∧ ¬ ((255 : Int32) < c1) ∧ ¬ ((255 : Int32) < c2) ∧ ¬ ((255 : Int32) < c3)) ∨ (cd = (1 : Int32) ∧ z = (8 : Int32) ∧ vs = [(.int (oW c0)), (.int (oH c0)), (.int (oW c1)), (.int (oH c1)), (.int (oW c2)), (.int (oH c2)), (.int (oW c3)), (.int (oH c3))] ∧ ((255 : Int32) < c0 ∨ (255 : Int32) < c1 ∨ (255 : Int32) < c2 ∨ (255 : Int32) < c3)))
theorem ef_ini4_4 (m : MethodId) (x0 : Addr) (x1 : Addr) (x2 : Int32) (x3 : Int32)  : entryFrame m #[(.ref x0), (.ref x1), (.int x2), (.int x3), .null] 6 = mkF m 0 #[vR x0, vR x1, vI x2, vI x3, .val .null, .unset] [] := by first | (simp [entryFrame, mkF, argsToLocals, Value.category]; done) | rfl
set_option maxRecDepth 65536 in
set_option maxHeartbeats 40000000 in
theorem c_ini4_4 (l : Launch) (Z : State) (a0 : Array Value) (hw : HW a0 Z) (ws : List Jvm.Cond) (a1 : Addr) (a2 : Addr) (kC : ClassId) (c0 : Int32) (c1 : Int32) (c2 : Int32) (c3 : Int32) (c9 : Value) (G1 : Int32) (h0 : Heap) (n0 : Nat) (Z0 : n0 ≤ h0.size) (E1 : Exa Z h0 a1 "java/lang/String") (F1 : Fld Z h0 a1 "java/lang/String" "value" "[B" .null) (F2 : Fld Z h0 a1 "java/lang/String" "coder" "B" c9) (g1 : n0 ≤ a1) (ne1 : a1 ≠ a2) (A2 : Arv Z h0 a2 kC .char (4 : Int32) [(.int c0), (.int c1), (.int c2), (.int c3)] (iV 0)) (hc0 : ¬ c0 < 0 ∧ ¬ (65535 : Int32) < c0) (hc1 : ¬ c1 < 0 ∧ ¬ (65535 : Int32) < c1) (hc2 : ¬ c2 < 0 ∧ ¬ (65535 : Int32) < c2) (hc3 : ¬ c3 < 0 ∧ ¬ (65535 : Int32) < c3) (O2 : Sta Z Z.heap "java/lang/String" "COMPACT_STRINGS" "Z" (.int G1)) (P5 : ¬ (G1 = (0 : Int32))) (SA : Sta Z Z.heap "java/lang/StringUTF16" "$assertionsDisabled" "Z" (iV 1)) (SHI : Sta Z Z.heap "java/lang/StringUTF16" "HI_BYTE_SHIFT" "I" (iV 0)) (SLO : Sta Z Z.heap "java/lang/StringUTF16" "LO_BYTE_SHIFT" "I" (iV 8)) (X00 : Old Z n0 h0) :
  MetFree l yM0 (head1 (Jvm.Cond.code yM0 jdk_42_method_149_code 6 none :: ws) ({ frames := 4, cells := 2, slots := 12, locals := 58 } : Room)) (fun a U => a = #[(.ref a1), (.ref a2), (iV 0), (iV 4), .null] ∧ Z.Warmed39 U.vm ∧ U.heap = h0) (fun _ _ _ _ _ => True) (fun _ U o U' => ∃ v L, o = .returned v ∧ (Q_ini4_4 Z a1 a2 kC c0 c1 c2 c3 c9 G1 h0 n0) v U'.heap L ∧ FrameEnd U o U' L ({ frames := 4, cells := 2, slots := 12, locals := 58 } : Room).cells ({ frames := 4, cells := 2, slots := 12, locals := 58 } : Room).slots) := by
 refine MetFree.of_bodySF (plainFor_of_name pn_1) hisR ?_
 intro p e s m args below meth c s₁ Bd hml0 hP hK
 obtain ⟨rfl, hZ, hHp⟩ := hP
 have hx := Bd.exec
 have D := fun {pc : Nat} {r} (h : decode _ pc = r) => hb Bd.bytes h
 have hml : c.maxLocals = 6 := hml0
 have hown : s.vm.findClass "java/lang/String" = some m.cls := findClass_of_methodNamed Bd.named
 have hnm := (name_of_methodNamed Bd.named Bd.method).1
 have X0 : Stand p l e ({ frames := 4, cells := 2, slots := 12, locals := 58 } : Room) s m #[(.ref a1), (.ref a2), (iV 0), (iV 4), .null] below meth c s₁ [] 0 0 := Stand.of_body Bd
 have e0 : s₁.heap = h0 := by rw [← hHp, Bd.state]; rfl
 have N0 := Fr.nil n0
 refine ownOut (P := (Q_ini4_4 Z a1 a2 kC c0 c1 c2 c3 c9 G1 h0 n0)) ?_
 refine ownBy (A := s₁.setTop (mkF m 0 #[vR a1, vR a2, vI 0, vI 4, .val .null, .unset] [])) (fun t k => castTop (ef_ini4_4 m a1 a2 (0 : Int32) (4 : Int32)) k) ?_
 refine oTo s₁ (fr_ini4_4 m a1 a2 1 .unset [(.ref a1)]) (fun t kt => ?_) ?_
 ·refine XS.aloadN X0.here hx rfl (D d4_0) rfl rfl ?_
  exact kt
 obtain ⟨T21, X21, e21, st21⟩ := initO X0 hx hZ hown (Wd18 hw) (Wd19 hw) (Wd20 hw) e0 (g := (fr_ini4_4 m a1 a2 1 .unset [(.ref a1)])) rfl (by rw [hml]; rfl) rfl (D d4_1) (by decide) (W := 0) (by show 2 * 0 + _ ≤ _; exact Nat.le_of_eq rfl) (by decide)
 refine ownBy st21 ?_
 clear st21
 show oA p e below _ T21 (fr_ini4_4 m a1 a2 4 .unset [])
 refine oTo T21 (fr_ini4_4 m a1 a2 27 .unset []) (fun t kt => ?_) ?_
 ·refine XS.iloadN X21.here hx rfl (D d4_4) rfl ?_
  refine XS.ifYes X21.here hx rfl (pc0 := 5) (pc' := 27) rfl (D d4_5) rfl ((if0 _ _).trans (feq ((by decide) : ¬ ((4 : Int32) = (0 : Int32)))).2) (by decide) (by decide) ?_
  exact kt
 refine own_getS X21 hx hZ hown (host := "") (Or.inl (Wd45 hw)) Via.refl e21 (O2.ext X00.2) (D d4_27) (fun T22 X22 e22 => ?_)
 refine oTo T22 (fr_ini4_4 m a1 a2 36 .unset [(iV 4), (iV 0), (.ref a2)]) (fun t kt => ?_) ?_
 ·refine XS.ifNo X22.here hx rfl (D d4_30) rfl ((if0 _ _).trans (feq P5).1) ?_
  refine XS.aloadN X22.here hx rfl (D d4_33) rfl rfl ?_
  refine XS.iloadN X22.here hx rfl (D d4_34) rfl ?_
  refine XS.iloadN X22.here hx rfl (D d4_35) rfl ?_
  exact kt
 obtain ⟨vv23, _, ⟨T23, L23, k23, n23⟩, -, X23, ⟨Lc23, hQ23, l23, y23, z23⟩, st23⟩ := Jvm.LawKit.callS X22 hx (y := yM9) hown (mvT hZ (Wd72 hw)) (mvT hZ (Wd73 hw)) (mvT hZ (Wd74 hw)) (mvT hZ (Wd75 hw)) (by decide) (backOf (W := 0) (c_cp3_4 l Z a0 hw [] a2 kC c0 c1 c2 c3 h0 n0 Z0 A2 hc0 hc1 hc2 hc3 SA SHI SLO X00) hZ (Wd75 hw) (Wd74 hw) (by decide) (by decide)) (g := (fr_ini4_4 m a1 a2 36 .unset [(iV 4), (iV 0), (.ref a2)])) rfl (by rw [hml]; rfl) (argsL := [(.ref a2), (iV 0), (iV 4)]) (rest := []) (lenOf pd_8 rfl) rfl (by show 2 * 0 + _ ≤ _; exact Nat.le_of_eq rfl) (D d4_36) (fun _ _ => ⟨rfl, e22, (by decide : 0 + 2 ≤ _), (by decide : 0 + 12 ≤ _)⟩)
 dsimp only [Pt.U, Pt.locs, Pt.cells, Pt.slots] at X23 l23 y23 z23 st23 hQ23
 subst l23 y23 z23
 obtain ⟨t23, kb23, rfl, Nq23, Kq23, zq23, hB23⟩ := hQ23
 have ne24 : a1 ≠ t23 := Nat.ne_of_lt (Nat.lt_of_lt_of_le E1.lt zq23)
 have ne25 : a2 ≠ t23 := Nat.ne_of_lt (Nat.lt_of_lt_of_le A2.lt zq23)
 have g26 : n0 ≤ t23 := Nat.le_trans Z0 zq23
 have z27 : h0.size ≤ t23 := Nat.le_trans (Nat.le_refl h0.size) zq23
 rcases hB23 with ⟨hn23_0, hn23_1, hn23_2, hn23_3, Aq23⟩ | ⟨hg23, Aq23⟩
 ·skip
  have N28 := Fr.app N0 Nq23
  obtain ⟨Lh29, Xh29, Nh29⟩ := oHd 2 12 X23 N28 rfl rfl
  refine ownBy st23 ?_
  clear st23
  show oA p e below _ T23 (fr_ini4_4 m a1 a2 39 .unset [(.ref t23)])
  refine oTo T23 (fr_ini4_4 m a1 a2 45 (vR t23) [(iV 4), (.ref t23), (.ref a1)]) (fun t kt => ?_) ?_
  ·refine XS.astore Xh29.here hx rfl (D d4_39) rfl rfl (l' := #[vR a1, vR a2, vI 0, vI 4, .val .null, vR t23]) rfl ?_
   refine XS.aloadN Xh29.here hx rfl (D d4_41) rfl rfl ?_
   refine XS.aload Xh29.here hx rfl (D d4_42) rfl rfl ?_
   refine XS.iloadN Xh29.here hx rfl (D d4_44) rfl ?_
   exact kt
  have f30 := (Nat.le_trans Z0 Kq23.1)
  obtain ⟨vv31, _, ⟨T31, L31, k31, n31⟩, -, X31, ⟨Lc31, hQ31, l31, y31, z31⟩, st31⟩ := Jvm.LawKit.callS Xh29 hx (y := yM4) hown (mvT hZ (Wd79 hw)) (mvT hZ (Wd80 hw)) (mvT hZ (Wd74 hw)) (mvT hZ (Wd81 hw)) (by decide) (backOf (W := 1) (c_cfa l Z a0 hw [] t23 kb23 (4 : Int32) _ (4 : Int32) (0 : Int32) T23.heap n0 f30 Aq23 (by decide +kernel)) hZ (Wd81 hw) (Wd74 hw) (by decide) (by decide)) (g := (fr_ini4_4 m a1 a2 45 (vR t23) [(iV 4), (.ref t23), (.ref a1)])) rfl (by rw [hml]; rfl) (argsL := [(.ref t23), (iV 4)]) (rest := [(.ref a1)]) (lenOf pd_10 rfl) rfl (by show 2 * 0 + _ ≤ _; exact Nat.le_of_eq rfl) (D d4_45) (fun _ _ => ⟨rfl, rfl, (by decide : 2 + 0 ≤ _), (by decide : 12 + 0 ≤ _)⟩)
  dsimp only [Pt.U, Pt.locs, Pt.cells, Pt.slots] at X31 l31 y31 z31 st31 hQ31
  subst l31 y31 z31
  obtain ⟨rfl, Nq31, Eq31⟩ := hQ31
  have N32 := Fr.app Nh29 Nq31
  obtain ⟨Lh33, Xh33, Nh33⟩ := oHd 2 12 X31 N32 rfl rfl
  refine ownBy st31 ?_
  clear st31
  show oA p e below _ T31 (fr_ini4_4 m a1 a2 48 (vR t23) [(iV 0), (.ref a1)])
  have f35 := (F2.keep Kq23 nin0)
  have f36 := (E1.keep Kq23)
  obtain ⟨T34, h34, X34, e34, W34, st34⟩ := putFN Xh33 hx hZ hown (Wd28 hw) Via.refl Eq31 f35 f36 (Or.inr ⟨(Wd24 hw), rfl, hnm⟩) (Wd8 hw) (ty := .byte) (v' := (iV 0)) (by decide) rfl (fits_nar_byte (0 : Int32)) (g := (fr_ini4_4 m a1 a2 48 (vR t23) [(iV 0), (.ref a1)])) rfl rfl (D d4_48)
  have F37 := f35.same W34
  have N38 := Fr.snoc X34 Nh33 g1
  obtain ⟨Lh39, Xh39, Nh39⟩ := oHd 2 12 X34 N38 rfl rfl
  refine ownBy st34 ?_
  clear st34
  show oA p e below _ T34 (fr_ini4_4 m a1 a2 51 (vR t23) [])
  refine oTo T34 (fr_ini4_4 m a1 a2 54 (vR t23) [(.ref t23), (.ref a1)]) (fun t kt => ?_) ?_
  ·refine XS.aloadN Xh39.here hx rfl (D d4_51) rfl rfl ?_
   refine XS.aload Xh39.here hx rfl (D d4_52) rfl rfl ?_
   exact kt
  have f41 := ((F1.keep Kq23 nin0).other W34 (Or.inr (slot_ne (Or.inr (Wd23 hw)) (Or.inr (Wd24 hw)) (by decide) (t := (.array .byte)) (t' := .byte) (by decide) (by decide))))
  have f42 := (f36.wr W34)
  obtain ⟨T40, h40, X40, e40, W40, st40⟩ := putF Xh39 hx hZ hown (host := "") (Or.inl (Wd27 hw)) Via.refl e34 f41 f42 (Or.inr ⟨(Wd23 hw), rfl, hnm⟩) (Wd8 hw) (ty := (.array .byte)) (by decide) rfl rfl (g := (fr_ini4_4 m a1 a2 54 (vR t23) [(.ref t23), (.ref a1)])) rfl rfl (D d4_54)
  have F43 := f41.same W40
  have N44 := Fr.snoc X40 Nh39 g1
  obtain ⟨Lh45, Xh45, Nh45⟩ := oHd 2 12 X40 N44 rfl rfl
  refine ownBy st40 ?_
  clear st40
  show oA p e below _ T40 (fr_ini4_4 m a1 a2 57 (vR t23) [])
  have f46 := ((((Keep.refl h0 [a1]).trans Kq23 all0).wr W34 (Or.inl (List.mem_of_getElem? (i := 0) rfl))).wr W40 (Or.inl (List.mem_of_getElem? (i := 0) rfl)))
  have f47 := (f42.wr W40)
  have f48 := (F37.other W40 (Or.inr (slot_ne (Or.inr (Wd24 hw)) (Or.inr (Wd23 hw)) (by decide) (t := .byte) (t' := (.array .byte)) (by decide) (by decide))))
  have f49 := ((Aq23.other W34 (Ne.symm ne24)).other W40 (Ne.symm ne24))
  refine ownRet Xh45 Bd.notSynchronized (v := none) (fun _ => rfl) ?_ (oLe rfl) (oLe rfl) (fun fs hr => Xh45.returnOut hx Bd.returns (D d4_57) hr)
  show (Q_ini4_4 Z a1 a2 kC c0 c1 c2 c3 c9 G1 h0 n0) (none) T40.heap _
  rw [e40]
  exact ⟨rfl, Nh45, f46, f47, t23, kb23, _, _, _, z27, F43, f48, f49, Or.inl ⟨rfl, rfl, rfl, hn23_0, hn23_1, hn23_2, hn23_3⟩⟩
 ·skip
  have N50 := Fr.app N0 Nq23
  obtain ⟨Lh51, Xh51, Nh51⟩ := oHd 2 12 X23 N50 rfl rfl
  refine ownBy st23 ?_
  clear st23
  show oA p e below _ T23 (fr_ini4_4 m a1 a2 39 .unset [(.ref t23)])
  refine oTo T23 (fr_ini4_4 m a1 a2 45 (vR t23) [(iV 4), (.ref t23), (.ref a1)]) (fun t kt => ?_) ?_
  ·refine XS.astore Xh51.here hx rfl (D d4_39) rfl rfl (l' := #[vR a1, vR a2, vI 0, vI 4, .val .null, vR t23]) rfl ?_
   refine XS.aloadN Xh51.here hx rfl (D d4_41) rfl rfl ?_
   refine XS.aload Xh51.here hx rfl (D d4_42) rfl rfl ?_
   refine XS.iloadN Xh51.here hx rfl (D d4_44) rfl ?_
   exact kt
  have f52 := (Nat.le_trans Z0 Kq23.1)
  obtain ⟨vv53, _, ⟨T53, L53, k53, n53⟩, -, X53, ⟨Lc53, hQ53, l53, y53, z53⟩, st53⟩ := Jvm.LawKit.callS Xh51 hx (y := yM4) hown (mvT hZ (Wd79 hw)) (mvT hZ (Wd80 hw)) (mvT hZ (Wd74 hw)) (mvT hZ (Wd81 hw)) (by decide) (backOf (W := 1) (c_cfa l Z a0 hw [] t23 kb23 (8 : Int32) _ (4 : Int32) (1 : Int32) T23.heap n0 f52 Aq23 (by decide +kernel)) hZ (Wd81 hw) (Wd74 hw) (by decide) (by decide)) (g := (fr_ini4_4 m a1 a2 45 (vR t23) [(iV 4), (.ref t23), (.ref a1)])) rfl (by rw [hml]; rfl) (argsL := [(.ref t23), (iV 4)]) (rest := [(.ref a1)]) (lenOf pd_10 rfl) rfl (by show 2 * 0 + _ ≤ _; exact Nat.le_of_eq rfl) (D d4_45) (fun _ _ => ⟨rfl, rfl, (by decide : 2 + 0 ≤ _), (by decide : 12 + 0 ≤ _)⟩)
  dsimp only [Pt.U, Pt.locs, Pt.cells, Pt.slots] at X53 l53 y53 z53 st53 hQ53
  subst l53 y53 z53
  obtain ⟨rfl, Nq53, Eq53⟩ := hQ53
  have N54 := Fr.app Nh51 Nq53
  obtain ⟨Lh55, Xh55, Nh55⟩ := oHd 2 12 X53 N54 rfl rfl
  refine ownBy st53 ?_
  clear st53
  show oA p e below _ T53 (fr_ini4_4 m a1 a2 48 (vR t23) [(iV 1), (.ref a1)])
  have f57 := (F2.keep Kq23 nin0)
  have f58 := (E1.keep Kq23)
  obtain ⟨T56, h56, X56, e56, W56, st56⟩ := putFN Xh55 hx hZ hown (Wd28 hw) Via.refl Eq53 f57 f58 (Or.inr ⟨(Wd24 hw), rfl, hnm⟩) (Wd8 hw) (ty := .byte) (v' := (iV 1)) (by decide) rfl (fits_nar_byte (1 : Int32)) (g := (fr_ini4_4 m a1 a2 48 (vR t23) [(iV 1), (.ref a1)])) rfl rfl (D d4_48)
  have F59 := f57.same W56
  have N60 := Fr.snoc X56 Nh55 g1
  obtain ⟨Lh61, Xh61, Nh61⟩ := oHd 2 12 X56 N60 rfl rfl
  refine ownBy st56 ?_
  clear st56
  show oA p e below _ T56 (fr_ini4_4 m a1 a2 51 (vR t23) [])
  refine oTo T56 (fr_ini4_4 m a1 a2 54 (vR t23) [(.ref t23), (.ref a1)]) (fun t kt => ?_) ?_
  ·refine XS.aloadN Xh61.here hx rfl (D d4_51) rfl rfl ?_
   refine XS.aload Xh61.here hx rfl (D d4_52) rfl rfl ?_
   exact kt
  have f63 := ((F1.keep Kq23 nin0).other W56 (Or.inr (slot_ne (Or.inr (Wd23 hw)) (Or.inr (Wd24 hw)) (by decide) (t := (.array .byte)) (t' := .byte) (by decide) (by decide))))
  have f64 := (f58.wr W56)
  obtain ⟨T62, h62, X62, e62, W62, st62⟩ := putF Xh61 hx hZ hown (host := "") (Or.inl (Wd27 hw)) Via.refl e56 f63 f64 (Or.inr ⟨(Wd23 hw), rfl, hnm⟩) (Wd8 hw) (ty := (.array .byte)) (by decide) rfl rfl (g := (fr_ini4_4 m a1 a2 54 (vR t23) [(.ref t23), (.ref a1)])) rfl rfl (D d4_54)
  have F65 := f63.same W62
  have N66 := Fr.snoc X62 Nh61 g1
  obtain ⟨Lh67, Xh67, Nh67⟩ := oHd 2 12 X62 N66 rfl rfl
  refine ownBy st62 ?_
  clear st62
  show oA p e below _ T62 (fr_ini4_4 m a1 a2 57 (vR t23) [])
  have f68 := ((((Keep.refl h0 [a1]).trans Kq23 all0).wr W56 (Or.inl (List.mem_of_getElem? (i := 0) rfl))).wr W62 (Or.inl (List.mem_of_getElem? (i := 0) rfl)))
  have f69 := (f64.wr W62)
  have f70 := (F59.other W62 (Or.inr (slot_ne (Or.inr (Wd24 hw)) (Or.inr (Wd23 hw)) (by decide) (t := .byte) (t' := (.array .byte)) (by decide) (by decide))))
  have f71 := ((Aq23.other W56 (Ne.symm ne24)).other W62 (Ne.symm ne24))
  refine ownRet Xh67 Bd.notSynchronized (v := none) (fun _ => rfl) ?_ (oLe rfl) (oLe rfl) (fun fs hr => Xh67.returnOut hx Bd.returns (D d4_57) hr)
  show (Q_ini4_4 Z a1 a2 kC c0 c1 c2 c3 c9 G1 h0 n0) (none) T62.heap _
  rw [e62]
  exact ⟨rfl, Nh67, f68, f69, t23, kb23, _, _, _, z27, F65, f70, f71, Or.inr ⟨rfl, rfl, rfl, hg23⟩⟩
abbrev fr_inC_4 (m : MethodId) (a1 : Addr) (a2 : Addr) (pc : Nat)  (st : List Value) : JFrame := mkF m pc #[vR a1, vR a2] st
def Q_inC_4 (Z : State) (a1 : Addr) (a2 : Addr) (kC : ClassId) (c0 : Int32) (c1 : Int32) (c2 : Int32) (c3 : Int32) (c9 : Value) (G1 : Int32) (h0 : Heap) (n0 : Nat) (v : Option Value) (h : Heap) (L : List Loc) : Prop := v = none ∧ Fr n0 L ∧ Keep h0 h [a1] ∧ Exa Z h a1 "java/lang/String" ∧ ∃ (ta : Addr) (kb : ClassId) (cd z : Int32) (vs : List Value), h0.size ≤ ta ∧ Fld Z h a1 "java/lang/String" "value" "[B" (.ref ta) ∧ Fld Z h a1 "java/lang/String" "coder" "B" (.int cd) ∧ Arv Z h ta kb .byte z vs (iV 0) ∧ ((cd = (0 : Int32) ∧ z = (4 : Int32) ∧ vs = [(.int (oL c0)), (.int (oL c1)), (.int (oL c2)), (.int (oL c3))] ∧ ¬ ((255 : Int32) < c0) ∧ ¬ ((255 : Int32) < c1) ∧ ¬ ((255 : Int32) < c2) ∧ ¬ ((255 : Int32) < c3)) ∨ (cd = (1 : Int32) ∧ z = (8 : Int32) ∧ vs = [(.int (oW c0)), (.int (oH c0)), (.int (oW c1)), (.int (oH c1)), (.int (oW c2)), (.int (oH c2)), (.int (oW c3)), (.int (oH c3))] ∧ ((255 : Int32) < c0 ∨ (255 : Int32) < c1 ∨ (255 : Int32) < c2 ∨ (255 : Int32) < c3)))
theorem ef_inC_4 (m : MethodId) (x0 : Addr) (x1 : Addr)  : entryFrame m #[(.ref x0), (.ref x1)] 2 = mkF m 0 #[vR x0, vR x1] [] := by first | (simp [entryFrame, mkF, argsToLocals, Value.category]; done) | rfl
set_option maxRecDepth 65536 in
set_option maxHeartbeats 40000000 in
theorem c_inC_4 (l : Launch) (Z : State) (a0 : Array Value) (hw : HW a0 Z) (ws : List Jvm.Cond) (a1 : Addr) (a2 : Addr) (kC : ClassId) (c0 : Int32) (c1 : Int32) (c2 : Int32) (c3 : Int32) (c9 : Value) (G1 : Int32) (h0 : Heap) (n0 : Nat) (Z0 : n0 ≤ h0.size) (E1 : Exa Z h0 a1 "java/lang/String") (F1 : Fld Z h0 a1 "java/lang/String" "value" "[B" .null) (F2 : Fld Z h0 a1 "java/lang/String" "coder" "B" c9) (g1 : n0 ≤ a1) (ne1 : a1 ≠ a2) (A2 : Arv Z h0 a2 kC .char (4 : Int32) [(.int c0), (.int c1), (.int c2), (.int c3)] (iV 0)) (hc0 : ¬ c0 < 0 ∧ ¬ (65535 : Int32) < c0) (hc1 : ¬ c1 < 0 ∧ ¬ (65535 : Int32) < c1) (hc2 : ¬ c2 < 0 ∧ ¬ (65535 : Int32) < c2) (hc3 : ¬ c3 < 0 ∧ ¬ (65535 : Int32) < c3) (O2 : Sta Z Z.heap "java/lang/String" "COMPACT_STRINGS" "Z" (.int G1)) (P5 : ¬ (G1 = (0 : Int32))) (SA : Sta Z Z.heap "java/lang/StringUTF16" "$assertionsDisabled" "Z" (iV 1)) (SHI : Sta Z Z.heap "java/lang/StringUTF16" "HI_BYTE_SHIFT" "I" (iV 0)) (SLO : Sta Z Z.heap "java/lang/StringUTF16" "LO_BYTE_SHIFT" "I" (iV 8)) (X00 : Old Z n0 h0) :
  MetFree l yM1 (head1 (Jvm.Cond.code yM1 jdk_42_method_3_code 2 none :: ws) ({ frames := 5, cells := 2, slots := 12, locals := 75 } : Room)) (fun a U => a = #[(.ref a1), (.ref a2)] ∧ Z.Warmed39 U.vm ∧ U.heap = h0) (fun _ _ _ _ _ => True) (fun _ U o U' => ∃ v L, o = .returned v ∧ (Q_inC_4 Z a1 a2 kC c0 c1 c2 c3 c9 G1 h0 n0) v U'.heap L ∧ FrameEnd U o U' L ({ frames := 5, cells := 2, slots := 12, locals := 75 } : Room).cells ({ frames := 5, cells := 2, slots := 12, locals := 75 } : Room).slots) := by
 refine MetFree.of_bodySF (plainFor_of_name pn_1) hisR ?_
 intro p e s m args below meth c s₁ Bd hml0 hP hK
 obtain ⟨rfl, hZ, hHp⟩ := hP
 have hx := Bd.exec
 have D := fun {pc : Nat} {r} (h : decode _ pc = r) => hb Bd.bytes h
 have hml : c.maxLocals = 2 := hml0
 have hown : s.vm.findClass "java/lang/String" = some m.cls := findClass_of_methodNamed Bd.named
 have hnm := (name_of_methodNamed Bd.named Bd.method).1
 have X0 : Stand p l e ({ frames := 5, cells := 2, slots := 12, locals := 75 } : Room) s m #[(.ref a1), (.ref a2)] below meth c s₁ [] 0 0 := Stand.of_body Bd
 have e0 : s₁.heap = h0 := by rw [← hHp, Bd.state]; rfl
 have N0 := Fr.nil n0
 refine ownOut (P := (Q_inC_4 Z a1 a2 kC c0 c1 c2 c3 c9 G1 h0 n0)) ?_
 refine ownBy (A := s₁.setTop (mkF m 0 #[vR a1, vR a2] [])) (fun t k => castTop (ef_inC_4 m a1 a2) k) ?_
 refine oTo s₁ (fr_inC_4 m a1 a2 4  [(.ref a2), (iV 0), (.ref a2), (.ref a1)]) (fun t kt => ?_) ?_
 ·refine XS.aloadN X0.here hx rfl (D d3_0) rfl rfl ?_
  refine XS.aloadN X0.here hx rfl (D d3_1) rfl rfl ?_
  refine XS.iconst X0.here hx rfl (D d3_2) ?_
  refine XS.aloadN X0.here hx rfl (D d3_3) rfl rfl ?_
  exact kt
 obtain ⟨cl21, Ar21, -, S21, N21, -, -⟩ := id A2
 have st21 := X0.arraylength hx (by rw [e0]; exact Ar21.1) (State.isArrayOf_alike hZ.alike Ar21.2.1) (g := (fr_inC_4 m a1 a2 4  [(.ref a2), (iV 0), (.ref a2), (.ref a1)])) rfl rfl (D d3_4)
 rw [len_of S21 N21] at st21
 refine ownBy st21 ?_
 show oA p e below _ s₁ (fr_inC_4 m a1 a2 5  [(iV 4), (iV 0), (.ref a2), (.ref a1)])
 refine oTo s₁ (fr_inC_4 m a1 a2 6  [.null, (iV 4), (iV 0), (.ref a2), (.ref a1)]) (fun t kt => ?_) ?_
 ·refine XS.aconstNull X0.here hx rfl (D d3_5) ?_
  exact kt
 obtain ⟨vv22, _, ⟨T22, L22, k22, n22⟩, -, X22, ⟨Lc22, hQ22, l22, y22, z22⟩, st22⟩ := X0.specialBack hx (y := yM0) rfl hown (mvT hZ (Wd14 hw)) (mvT hZ (Wd15 hw)) (mvT hZ (Wd17 hw)) (by decide) (backOf (W := 0) (c_ini4_4 l Z a0 hw [] a1 a2 kC c0 c1 c2 c3 _ G1 h0 n0 Z0 E1 F1 F2 g1 ne1 A2 hc0 hc1 hc2 hc3 O2 P5 SA SHI SLO X00) hZ (Wd17 hw) (Wd9 hw) (by decide) (by decide)) (g := (fr_inC_4 m a1 a2 6  [.null, (iV 4), (iV 0), (.ref a2), (.ref a1)])) rfl (by rw [hml]; rfl) (Steps.refl _) (a := a1) (argsL := [(.ref a2), (iV 0), (iV 4), .null]) (rest := []) (lenOf pd_2 rfl) rfl (by show 2 * 0 + _ ≤ _; exact Nat.le_of_eq rfl) (D d3_6) (fun _ _ => ⟨rfl, e0, (by decide : 0 + 2 ≤ _), (by decide : 0 + 12 ≤ _)⟩)
 dsimp only [Pt.U, Pt.locs, Pt.cells, Pt.slots] at X22 l22 y22 z22 st22 hQ22
 subst l22 y22 z22
 obtain ⟨rfl, Nq22, Kq22, Eq22, t22, kb22, cd22, z22, vs22, zq22, Vq22, Cq22, Aq22, hrel22⟩ := hQ22
 have ne23 : a1 ≠ t22 := Nat.ne_of_lt (Nat.lt_of_lt_of_le E1.lt zq22)
 have ne24 : a2 ≠ t22 := Nat.ne_of_lt (Nat.lt_of_lt_of_le A2.lt zq22)
 have g25 : n0 ≤ t22 := Nat.le_trans Z0 zq22
 have z26 : h0.size ≤ t22 := Nat.le_trans (Nat.le_refl h0.size) zq22
 have N27 := Fr.app N0 Nq22
 obtain ⟨Lh28, Xh28, Nh28⟩ := oHd 2 12 X22 N27 rfl rfl
 refine ownSt st22 ?_
 clear st22
 show oA p e below _ T22 (fr_inC_4 m a1 a2 9  [])
 have f29 := ((Keep.refl h0 [a1]).trans Kq22 (allS (Or.inl (List.mem_of_getElem? (i := 0) rfl)) all0))
 have f30 := (E1.keep Kq22)
 refine ownRet Xh28 Bd.notSynchronized (v := none) (fun _ => rfl) ?_ (oLe rfl) (oLe rfl) (fun fs hr => Xh28.returnOut hx Bd.returns (D d3_9) hr)
 show (Q_inC_4 Z a1 a2 kC c0 c1 c2 c3 c9 G1 h0 n0) (none) T22.heap _
 exact ⟨rfl, Nh28, f29, f30, t22, kb22, _, _, _, z26, Vq22, Cq22, Aq22, hrel22⟩
def Q_cod0 (Z : State) (x : Addr) (G1 : Int32) (h0 : Heap) (n0 : Nat) (v : Option Value) (h : Heap) (L : List Loc) : Prop := v = some (iV 0) ∧ Fr n0 L ∧ h = h0
theorem ef_cod0 (m : MethodId) (x0 : Addr)  : entryFrame m #[(.ref x0)] 1 = mkF m 0 #[vR x0] [] := by first | (simp [entryFrame, mkF, argsToLocals, Value.category]; done) | rfl
set_option maxRecDepth 65536 in
set_option maxHeartbeats 40000000 in
theorem c_cod0 (l : Launch) (Z : State) (a0 : Array Value) (hw : HW a0 Z) (ws : List Jvm.Cond) (x : Addr) (G1 : Int32) (h0 : Heap) (n0 : Nat) (Z0 : n0 ≤ h0.size) (Es : Exa Z h0 x "java/lang/String") (Cs : Fld Z h0 x "java/lang/String" "coder" "B" (iV 0)) (O2 : Sta Z Z.heap "java/lang/String" "COMPACT_STRINGS" "Z" (.int G1)) (P5 : ¬ (G1 = (0 : Int32))) (X00 : Old Z n0 h0) :
  MetFree l yM10 (head1 (Jvm.Cond.code yM10 jdk_42_method_152_code 1 (some .byte) :: ws) ({ frames := 0, cells := 0, slots := 0, locals := 0 } : Room)) (fun a U => a = #[(.ref x)] ∧ Z.Warmed39 U.vm ∧ U.heap = h0) (fun _ _ _ _ _ => True) (fun _ U o U' => ∃ v L, o = .returned v ∧ (Q_cod0 Z x G1 h0 n0) v U'.heap L ∧ FrameEnd U o U' L ({ frames := 0, cells := 0, slots := 0, locals := 0 } : Room).cells ({ frames := 0, cells := 0, slots := 0, locals := 0 } : Room).slots) := by
 refine MetFree.of_bodySF (plainFor_of_name pn_1) hisR ?_
 intro p e s m args below meth c s₁ Bd hml0 hP hK
 obtain ⟨rfl, hZ, hHp⟩ := hP
 have hx := Bd.exec
 have D := fun {pc : Nat} {r} (h : decode _ pc = r) => hb Bd.bytes h
 have hml : c.maxLocals = 1 := hml0
 have hown : s.vm.findClass "java/lang/String" = some m.cls := findClass_of_methodNamed Bd.named
 have hnm := (name_of_methodNamed Bd.named Bd.method).1
 have X0 : Stand p l e ({ frames := 0, cells := 0, slots := 0, locals := 0 } : Room) s m #[(.ref x)] below meth c s₁ [] 0 0 := Stand.of_body Bd
 have e0 : s₁.heap = h0 := by rw [← hHp, Bd.state]; rfl
 have N0 := Fr.nil n0
 refine ownOut (P := (Q_cod0 Z x G1 h0 n0)) ?_
 refine ownBy (A := s₁.setTop (mkF m 0 #[vR x] [])) (fun t k => castTop (ef_cod0 m x) k) ?_
 refine own_getS X0 hx hZ hown (host := "") (Or.inl (Wd45 hw)) Via.refl e0 (O2.ext X00.2) (D d8_0) (fun T21 X21 e21 => ?_)
 refine oTo T21 (mkF m 7 #[vR x] [(.ref x)]) (fun t kt => ?_) ?_
 ·refine XS.ifNo X21.here hx rfl (D d8_3) rfl ((if0 _ _).trans (feq P5).1) ?_
  refine XS.aloadN X21.here hx rfl (D d8_6) rfl rfl ?_
  exact kt
 refine own_getF X21 hx hZ hown (host := "") (Or.inl (Wd28 hw)) Via.refl e21 Cs (D d8_7) (fun T22 X22 e22 => ?_)
 refine oTo T22 (mkF m 14 #[vR x] [(iV 0)]) (fun t kt => ?_) ?_
 ·refine XS.goto X22.here hx rfl (pc0 := 10) (pc' := 14) rfl (D d8_10) (by decide) (by decide) ?_
  exact kt
 refine ownRet X22 Bd.notSynchronized (v := some (.int (nar .byte (0 : Int32)))) (fun h => by rw [Bd.returns] at h; cases h) ?_ (oLe rfl) (oLe rfl) (fun fs hr => retN X22 hx (t := .byte) Bd.returns (by simp) (D d8_14) hr)
 show (Q_cod0 Z x G1 h0 n0) (some (.int (nar .byte (0 : Int32)))) T22.heap _
 rw [e22]
 exact ⟨rfl, N0, rfl⟩
def Q_isl0 (Z : State) (x : Addr) (G1 : Int32) (h0 : Heap) (n0 : Nat) (v : Option Value) (h : Heap) (L : List Loc) : Prop := v = some (iV 1) ∧ Fr n0 L ∧ h = h0
theorem ef_isl0 (m : MethodId) (x0 : Addr)  : entryFrame m #[(.ref x0)] 1 = mkF m 0 #[vR x0] [] := by first | (simp [entryFrame, mkF, argsToLocals, Value.category]; done) | rfl
set_option maxRecDepth 65536 in
set_option maxHeartbeats 40000000 in
theorem c_isl0 (l : Launch) (Z : State) (a0 : Array Value) (hw : HW a0 Z) (ws : List Jvm.Cond) (x : Addr) (G1 : Int32) (h0 : Heap) (n0 : Nat) (Z0 : n0 ≤ h0.size) (Es : Exa Z h0 x "java/lang/String") (Cs : Fld Z h0 x "java/lang/String" "coder" "B" (iV 0)) (O2 : Sta Z Z.heap "java/lang/String" "COMPACT_STRINGS" "Z" (.int G1)) (P5 : ¬ (G1 = (0 : Int32))) (X00 : Old Z n0 h0) :
  MetFree l yM11 (head1 (Jvm.Cond.code yM11 jdk_42_method_154_code 1 (some .boolean) :: ws) ({ frames := 0, cells := 0, slots := 0, locals := 0 } : Room)) (fun a U => a = #[(.ref x)] ∧ Z.Warmed39 U.vm ∧ U.heap = h0) (fun _ _ _ _ _ => True) (fun _ U o U' => ∃ v L, o = .returned v ∧ (Q_isl0 Z x G1 h0 n0) v U'.heap L ∧ FrameEnd U o U' L ({ frames := 0, cells := 0, slots := 0, locals := 0 } : Room).cells ({ frames := 0, cells := 0, slots := 0, locals := 0 } : Room).slots) := by
 refine MetFree.of_bodySF (plainFor_of_name pn_1) hisR ?_
 intro p e s m args below meth c s₁ Bd hml0 hP hK
 obtain ⟨rfl, hZ, hHp⟩ := hP
 have hx := Bd.exec
 have D := fun {pc : Nat} {r} (h : decode _ pc = r) => hb Bd.bytes h
 have hml : c.maxLocals = 1 := hml0
 have hown : s.vm.findClass "java/lang/String" = some m.cls := findClass_of_methodNamed Bd.named
 have hnm := (name_of_methodNamed Bd.named Bd.method).1
 have X0 : Stand p l e ({ frames := 0, cells := 0, slots := 0, locals := 0 } : Room) s m #[(.ref x)] below meth c s₁ [] 0 0 := Stand.of_body Bd
 have e0 : s₁.heap = h0 := by rw [← hHp, Bd.state]; rfl
 have N0 := Fr.nil n0
 refine ownOut (P := (Q_isl0 Z x G1 h0 n0)) ?_
 refine ownBy (A := s₁.setTop (mkF m 0 #[vR x] [])) (fun t k => castTop (ef_isl0 m x) k) ?_
 refine own_getS X0 hx hZ hown (host := "") (Or.inl (Wd45 hw)) Via.refl e0 (O2.ext X00.2) (D d16_0) (fun T21 X21 e21 => ?_)
 refine oTo T21 (mkF m 7 #[vR x] [(.ref x)]) (fun t kt => ?_) ?_
 ·refine XS.ifNo X21.here hx rfl (D d16_3) rfl ((if0 _ _).trans (feq P5).1) ?_
  refine XS.aloadN X21.here hx rfl (D d16_6) rfl rfl ?_
  exact kt
 refine own_getF X21 hx hZ hown (host := "") (Or.inl (Wd28 hw)) Via.refl e21 Cs (D d16_7) (fun T22 X22 e22 => ?_)
 refine oTo T22 (mkF m 18 #[vR x] [(iV 1)]) (fun t kt => ?_) ?_
 ·refine XS.ifNo X22.here hx rfl (D d16_10) rfl ((if0 _ _).trans (teq ((by decide) : (0 : Int32) = (0 : Int32))).2) ?_
  refine XS.iconst X22.here hx rfl (D d16_13) ?_
  refine XS.goto X22.here hx rfl (pc0 := 14) (pc' := 18) rfl (D d16_14) (by decide) (by decide) ?_
  exact kt
 refine ownRet X22 Bd.notSynchronized (v := some (.int (nar .boolean (1 : Int32)))) (fun h => by rw [Bd.returns] at h; cases h) ?_ (oLe rfl) (oLe rfl) (fun fs hr => retN X22 hx (t := .boolean) Bd.returns (by simp) (D d16_18) hr)
 show (Q_isl0 Z x G1 h0 n0) (some (.int (nar .boolean (1 : Int32)))) T22.heap _
 rw [e22]
 exact ⟨rfl, N0, rfl⟩
def Q_cod1 (Z : State) (x : Addr) (G1 : Int32) (h0 : Heap) (n0 : Nat) (v : Option Value) (h : Heap) (L : List Loc) : Prop := v = some (iV 1) ∧ Fr n0 L ∧ h = h0
theorem ef_cod1 (m : MethodId) (x0 : Addr)  : entryFrame m #[(.ref x0)] 1 = mkF m 0 #[vR x0] [] := by first | (simp [entryFrame, mkF, argsToLocals, Value.category]; done) | rfl
set_option maxRecDepth 65536 in
set_option maxHeartbeats 40000000 in
theorem c_cod1 (l : Launch) (Z : State) (a0 : Array Value) (hw : HW a0 Z) (ws : List Jvm.Cond) (x : Addr) (G1 : Int32) (h0 : Heap) (n0 : Nat) (Z0 : n0 ≤ h0.size) (Es : Exa Z h0 x "java/lang/String") (Cs : Fld Z h0 x "java/lang/String" "coder" "B" (iV 1)) (O2 : Sta Z Z.heap "java/lang/String" "COMPACT_STRINGS" "Z" (.int G1)) (P5 : ¬ (G1 = (0 : Int32))) (X00 : Old Z n0 h0) :
  MetFree l yM10 (head1 (Jvm.Cond.code yM10 jdk_42_method_152_code 1 (some .byte) :: ws) ({ frames := 0, cells := 0, slots := 0, locals := 0 } : Room)) (fun a U => a = #[(.ref x)] ∧ Z.Warmed39 U.vm ∧ U.heap = h0) (fun _ _ _ _ _ => True) (fun _ U o U' => ∃ v L, o = .returned v ∧ (Q_cod1 Z x G1 h0 n0) v U'.heap L ∧ FrameEnd U o U' L ({ frames := 0, cells := 0, slots := 0, locals := 0 } : Room).cells ({ frames := 0, cells := 0, slots := 0, locals := 0 } : Room).slots) := by
 refine MetFree.of_bodySF (plainFor_of_name pn_1) hisR ?_
 intro p e s m args below meth c s₁ Bd hml0 hP hK
 obtain ⟨rfl, hZ, hHp⟩ := hP
 have hx := Bd.exec
 have D := fun {pc : Nat} {r} (h : decode _ pc = r) => hb Bd.bytes h
 have hml : c.maxLocals = 1 := hml0
 have hown : s.vm.findClass "java/lang/String" = some m.cls := findClass_of_methodNamed Bd.named
 have hnm := (name_of_methodNamed Bd.named Bd.method).1
 have X0 : Stand p l e ({ frames := 0, cells := 0, slots := 0, locals := 0 } : Room) s m #[(.ref x)] below meth c s₁ [] 0 0 := Stand.of_body Bd
 have e0 : s₁.heap = h0 := by rw [← hHp, Bd.state]; rfl
 have N0 := Fr.nil n0
 refine ownOut (P := (Q_cod1 Z x G1 h0 n0)) ?_
 refine ownBy (A := s₁.setTop (mkF m 0 #[vR x] [])) (fun t k => castTop (ef_cod1 m x) k) ?_
 refine own_getS X0 hx hZ hown (host := "") (Or.inl (Wd45 hw)) Via.refl e0 (O2.ext X00.2) (D d8_0) (fun T21 X21 e21 => ?_)
 refine oTo T21 (mkF m 7 #[vR x] [(.ref x)]) (fun t kt => ?_) ?_
 ·refine XS.ifNo X21.here hx rfl (D d8_3) rfl ((if0 _ _).trans (feq P5).1) ?_
  refine XS.aloadN X21.here hx rfl (D d8_6) rfl rfl ?_
  exact kt
 refine own_getF X21 hx hZ hown (host := "") (Or.inl (Wd28 hw)) Via.refl e21 Cs (D d8_7) (fun T22 X22 e22 => ?_)
 refine oTo T22 (mkF m 14 #[vR x] [(iV 1)]) (fun t kt => ?_) ?_
 ·refine XS.goto X22.here hx rfl (pc0 := 10) (pc' := 14) rfl (D d8_10) (by decide) (by decide) ?_
  exact kt
 refine ownRet X22 Bd.notSynchronized (v := some (.int (nar .byte (1 : Int32)))) (fun h => by rw [Bd.returns] at h; cases h) ?_ (oLe rfl) (oLe rfl) (fun fs hr => retN X22 hx (t := .byte) Bd.returns (by simp) (D d8_14) hr)
 show (Q_cod1 Z x G1 h0 n0) (some (.int (nar .byte (1 : Int32)))) T22.heap _
 rw [e22]
 exact ⟨rfl, N0, rfl⟩
def Q_isl1 (Z : State) (x : Addr) (G1 : Int32) (h0 : Heap) (n0 : Nat) (v : Option Value) (h : Heap) (L : List Loc) : Prop := v = some (iV 0) ∧ Fr n0 L ∧ h = h0
theorem ef_isl1 (m : MethodId) (x0 : Addr)  : entryFrame m #[(.ref x0)] 1 = mkF m 0 #[vR x0] [] := by first | (simp [entryFrame, mkF, argsToLocals, Value.category]; done) | rfl
set_option maxRecDepth 65536 in
set_option maxHeartbeats 40000000 in
theorem c_isl1 (l : Launch) (Z : State) (a0 : Array Value) (hw : HW a0 Z) (ws : List Jvm.Cond) (x : Addr) (G1 : Int32) (h0 : Heap) (n0 : Nat) (Z0 : n0 ≤ h0.size) (Es : Exa Z h0 x "java/lang/String") (Cs : Fld Z h0 x "java/lang/String" "coder" "B" (iV 1)) (O2 : Sta Z Z.heap "java/lang/String" "COMPACT_STRINGS" "Z" (.int G1)) (P5 : ¬ (G1 = (0 : Int32))) (X00 : Old Z n0 h0) :
  MetFree l yM11 (head1 (Jvm.Cond.code yM11 jdk_42_method_154_code 1 (some .boolean) :: ws) ({ frames := 0, cells := 0, slots := 0, locals := 0 } : Room)) (fun a U => a = #[(.ref x)] ∧ Z.Warmed39 U.vm ∧ U.heap = h0) (fun _ _ _ _ _ => True) (fun _ U o U' => ∃ v L, o = .returned v ∧ (Q_isl1 Z x G1 h0 n0) v U'.heap L ∧ FrameEnd U o U' L ({ frames := 0, cells := 0, slots := 0, locals := 0 } : Room).cells ({ frames := 0, cells := 0, slots := 0, locals := 0 } : Room).slots) := by
 refine MetFree.of_bodySF (plainFor_of_name pn_1) hisR ?_
 intro p e s m args below meth c s₁ Bd hml0 hP hK
 obtain ⟨rfl, hZ, hHp⟩ := hP
 have hx := Bd.exec
 have D := fun {pc : Nat} {r} (h : decode _ pc = r) => hb Bd.bytes h
 have hml : c.maxLocals = 1 := hml0
 have hown : s.vm.findClass "java/lang/String" = some m.cls := findClass_of_methodNamed Bd.named
 have hnm := (name_of_methodNamed Bd.named Bd.method).1
 have X0 : Stand p l e ({ frames := 0, cells := 0, slots := 0, locals := 0 } : Room) s m #[(.ref x)] below meth c s₁ [] 0 0 := Stand.of_body Bd
 have e0 : s₁.heap = h0 := by rw [← hHp, Bd.state]; rfl
 have N0 := Fr.nil n0
 refine ownOut (P := (Q_isl1 Z x G1 h0 n0)) ?_
 refine ownBy (A := s₁.setTop (mkF m 0 #[vR x] [])) (fun t k => castTop (ef_isl1 m x) k) ?_
 refine own_getS X0 hx hZ hown (host := "") (Or.inl (Wd45 hw)) Via.refl e0 (O2.ext X00.2) (D d16_0) (fun T21 X21 e21 => ?_)
 refine oTo T21 (mkF m 7 #[vR x] [(.ref x)]) (fun t kt => ?_) ?_
 ·refine XS.ifNo X21.here hx rfl (D d16_3) rfl ((if0 _ _).trans (feq P5).1) ?_
  refine XS.aloadN X21.here hx rfl (D d16_6) rfl rfl ?_
  exact kt
 refine own_getF X21 hx hZ hown (host := "") (Or.inl (Wd28 hw)) Via.refl e21 Cs (D d16_7) (fun T22 X22 e22 => ?_)
 refine oTo T22 (mkF m 18 #[vR x] [(iV 0)]) (fun t kt => ?_) ?_
 ·refine XS.ifYes X22.here hx rfl (pc0 := 10) (pc' := 17) rfl (D d16_10) rfl ((if0 _ _).trans (feq ((by decide) : ¬ ((1 : Int32) = (0 : Int32)))).2) (by decide) (by decide) ?_
  refine XS.iconst X22.here hx rfl (D d16_17) ?_
  exact kt
 refine ownRet X22 Bd.notSynchronized (v := some (.int (nar .boolean (0 : Int32)))) (fun h => by rw [Bd.returns] at h; cases h) ?_ (oLe rfl) (oLe rfl) (fun fs hr => retN X22 hx (t := .boolean) Bd.returns (by simp) (D d16_18) hr)
 show (Q_isl1 Z x G1 h0 n0) (some (.int (nar .boolean (0 : Int32)))) T22.heap _
 rw [e22]
 exact ⟨rfl, N0, rfl⟩
abbrev fr_leng (m : MethodId) (x : Addr) (pc : Nat)  (st : List Value) : JFrame := mkF m pc #[vR x] st
def Q_leng (Z : State) (x : Addr) (ta : Addr) (kb : ClassId) (cd : Int32) (z : Int32) (vs : List Value) (m1 : Int32) (G1 : Int32) (h0 : Heap) (n0 : Nat) (v : Option Value) (h : Heap) (L : List Loc) : Prop := v = some (.int m1) ∧ Fr n0 L ∧ h = h0
theorem ef_leng (m : MethodId) (x0 : Addr)  : entryFrame m #[(.ref x0)] 1 = mkF m 0 #[vR x0] [] := by first | (simp [entryFrame, mkF, argsToLocals, Value.category]; done) | rfl
set_option maxRecDepth 65536 in
set_option maxHeartbeats 40000000 in
theorem c_leng (l : Launch) (Z : State) (a0 : Array Value) (hw : HW a0 Z) (ws : List Jvm.Cond) (x : Addr) (ta : Addr) (kb : ClassId) (cd : Int32) (z : Int32) (vs : List Value) (m1 : Int32) (G1 : Int32) (h0 : Heap) (n0 : Nat) (Z0 : n0 ≤ h0.size) (Es : Exa Z h0 x "java/lang/String") (Vs : Fld Z h0 x "java/lang/String" "value" "[B" (.ref ta)) (Cs : Fld Z h0 x "java/lang/String" "coder" "B" (.int cd)) (Ks : Arv Z h0 ta kb .byte z vs (iV 0)) (hL : (cd = (0 : Int32) ∧ (z >>> ((0 : Int32) &&& 31)) = m1) ∨ (cd = (1 : Int32) ∧ (z >>> ((1 : Int32) &&& 31)) = m1)) (O2 : Sta Z Z.heap "java/lang/String" "COMPACT_STRINGS" "Z" (.int G1)) (P5 : ¬ (G1 = (0 : Int32))) (X00 : Old Z n0 h0) :
  MetFree l yM12 (head1 (Jvm.Cond.code yM12 jdk_42_method_54_code 1 (some .int) :: ws) ({ frames := 1, cells := 0, slots := 0, locals := 13 } : Room)) (fun a U => a = #[(.ref x)] ∧ Z.Warmed39 U.vm ∧ U.heap = h0) (fun _ _ _ _ _ => True) (fun _ U o U' => ∃ v L, o = .returned v ∧ (Q_leng Z x ta kb cd z vs m1 G1 h0 n0) v U'.heap L ∧ FrameEnd U o U' L ({ frames := 1, cells := 0, slots := 0, locals := 13 } : Room).cells ({ frames := 1, cells := 0, slots := 0, locals := 13 } : Room).slots) := by
 refine MetFree.of_bodySF (plainFor_of_name pn_1) hisR ?_
 intro p e s m args below meth c s₁ Bd hml0 hP hK
 obtain ⟨rfl, hZ, hHp⟩ := hP
 have hx := Bd.exec
 have D := fun {pc : Nat} {r} (h : decode _ pc = r) => hb Bd.bytes h
 have hml : c.maxLocals = 1 := hml0
 have hown : s.vm.findClass "java/lang/String" = some m.cls := findClass_of_methodNamed Bd.named
 have hnm := (name_of_methodNamed Bd.named Bd.method).1
 have X0 : Stand p l e ({ frames := 1, cells := 0, slots := 0, locals := 13 } : Room) s m #[(.ref x)] below meth c s₁ [] 0 0 := Stand.of_body Bd
 have e0 : s₁.heap = h0 := by rw [← hHp, Bd.state]; rfl
 have N0 := Fr.nil n0
 refine ownOut (P := (Q_leng Z x ta kb cd z vs m1 G1 h0 n0)) ?_
 refine ownBy (A := s₁.setTop (mkF m 0 #[vR x] [])) (fun t k => castTop (ef_leng m x) k) ?_
 rcases hL with ⟨ecd, hz⟩ | ⟨ecd, hz⟩
 ·rw [ecd] at Cs
  refine oTo s₁ (fr_leng m x 1  [(.ref x)]) (fun t kt => ?_) ?_
  ·refine XS.aloadN X0.here hx rfl (D d7_0) rfl rfl ?_
   exact kt
  refine own_getF X0 hx hZ hown (host := "") (Or.inl (Wd27 hw)) Via.refl e0 Vs (D d7_1) (fun T21 X21 e21 => ?_)
  obtain ⟨cl22, Ar22, -, S22, N22, -, -⟩ := id Ks
  have st22 := X21.arraylength hx (by rw [e21]; exact Ar22.1) (State.isArrayOf_alike hZ.alike Ar22.2.1) (g := (fr_leng m x 4  [(.ref ta)])) rfl rfl (D d7_4)
  rw [len_of S22 N22] at st22
  refine ownBy st22 ?_
  show oA p e below _ T21 (fr_leng m x 5  [(.int z)])
  refine oTo T21 (fr_leng m x 6  [(.ref x), (.int z)]) (fun t kt => ?_) ?_
  ·refine XS.aloadN X21.here hx rfl (D d7_5) rfl rfl ?_
   exact kt
  obtain ⟨cq23, kq23, q23a, q23b, q23c⟩ := isOf hZ e21 Es
  obtain ⟨vv23, _, ⟨T23, L23, k23, n23⟩, -, X23, ⟨Lc23, hQ23, l23, y23, z23⟩, st23⟩ := X21.virtualBack hx (y := yM10) (z := yM10) hown (mvT hZ (Wd40 hw)) (mvT hZ (Wd41 hw)) (notFace_of_selects (args := #[]) (mvT hZ (Wd43 hw))) (mvT hZ (Wd43 hw)) (mvT hZ (Wd42 hw)) (by decide) (backOf (W := 1) (c_cod0 l Z a0 hw [] x G1 h0 n0 Z0 Es Cs O2 P5 X00) hZ (Wd44 hw) (Wd9 hw) (by decide) (by decide)) q23a q23c (g := (fr_leng m x 6  [(.ref x), (.int z)])) rfl (by rw [hml]; rfl) (Steps.refl _) (argsL := []) (rest := [(.int z)]) (lenOf pd_11 rfl) rfl (by show 2 * 0 + _ ≤ _; exact Nat.le_of_eq rfl) (D d7_6) (fun _ _ => ⟨rfl, e21, (by decide : 0 + 0 ≤ _), (by decide : 0 + 0 ≤ _)⟩)
  dsimp only [Pt.U, Pt.locs, Pt.cells, Pt.slots] at X23 l23 y23 z23 st23 hQ23
  subst l23 y23 z23
  obtain ⟨rfl, Nq23, Eq23⟩ := hQ23
  have N24 := Fr.app N0 Nq23
  obtain ⟨Lh25, Xh25, Nh25⟩ := oHd 0 0 X23 N24 rfl rfl
  refine ownSt st23 ?_
  clear st23
  show oA p e below _ T23 (fr_leng m x 9  [(iV 0), (.int z)])
  refine oTo T23 (fr_leng m x 10  [(.int (z >>> ((0 : Int32) &&& 31)))]) (fun t kt => ?_) ?_
  ·refine XS.ishr Xh25.here hx rfl (D d7_9) rfl ?_
   exact kt
  refine ownRet Xh25 Bd.notSynchronized (v := some (.int (z >>> ((0 : Int32) &&& 31)))) (fun h => by rw [Bd.returns] at h; cases h) ?_ (oLe rfl) (oLe rfl) (fun fs hr => retI Xh25 hx Bd.returns (D d7_10) hr)
  show (Q_leng Z x ta kb cd z vs m1 G1 h0 n0) (some (.int (z >>> ((0 : Int32) &&& 31)))) T23.heap _
  rw [Eq23]
  refine ⟨?_, Nh25, rfl⟩
  rw [hz]
 ·rw [ecd] at Cs
  refine oTo s₁ (fr_leng m x 1  [(.ref x)]) (fun t kt => ?_) ?_
  ·refine XS.aloadN X0.here hx rfl (D d7_0) rfl rfl ?_
   exact kt
  refine own_getF X0 hx hZ hown (host := "") (Or.inl (Wd27 hw)) Via.refl e0 Vs (D d7_1) (fun T26 X26 e26 => ?_)
  obtain ⟨cl27, Ar27, -, S27, N27, -, -⟩ := id Ks
  have st27 := X26.arraylength hx (by rw [e26]; exact Ar27.1) (State.isArrayOf_alike hZ.alike Ar27.2.1) (g := (fr_leng m x 4  [(.ref ta)])) rfl rfl (D d7_4)
  rw [len_of S27 N27] at st27
  refine ownBy st27 ?_
  show oA p e below _ T26 (fr_leng m x 5  [(.int z)])
  refine oTo T26 (fr_leng m x 6  [(.ref x), (.int z)]) (fun t kt => ?_) ?_
  ·refine XS.aloadN X26.here hx rfl (D d7_5) rfl rfl ?_
   exact kt
  obtain ⟨cq28, kq28, q28a, q28b, q28c⟩ := isOf hZ e26 Es
  obtain ⟨vv28, _, ⟨T28, L28, k28, n28⟩, -, X28, ⟨Lc28, hQ28, l28, y28, z28⟩, st28⟩ := X26.virtualBack hx (y := yM10) (z := yM10) hown (mvT hZ (Wd40 hw)) (mvT hZ (Wd41 hw)) (notFace_of_selects (args := #[]) (mvT hZ (Wd43 hw))) (mvT hZ (Wd43 hw)) (mvT hZ (Wd42 hw)) (by decide) (backOf (W := 1) (c_cod1 l Z a0 hw [] x G1 h0 n0 Z0 Es Cs O2 P5 X00) hZ (Wd44 hw) (Wd9 hw) (by decide) (by decide)) q28a q28c (g := (fr_leng m x 6  [(.ref x), (.int z)])) rfl (by rw [hml]; rfl) (Steps.refl _) (argsL := []) (rest := [(.int z)]) (lenOf pd_11 rfl) rfl (by show 2 * 0 + _ ≤ _; exact Nat.le_of_eq rfl) (D d7_6) (fun _ _ => ⟨rfl, e26, (by decide : 0 + 0 ≤ _), (by decide : 0 + 0 ≤ _)⟩)
  dsimp only [Pt.U, Pt.locs, Pt.cells, Pt.slots] at X28 l28 y28 z28 st28 hQ28
  subst l28 y28 z28
  obtain ⟨rfl, Nq28, Eq28⟩ := hQ28
  have N29 := Fr.app N0 Nq28
  obtain ⟨Lh30, Xh30, Nh30⟩ := oHd 0 0 X28 N29 rfl rfl
  refine ownSt st28 ?_
  clear st28
  show oA p e below _ T28 (fr_leng m x 9  [(iV 1), (.int z)])
  refine oTo T28 (fr_leng m x 10  [(.int (z >>> ((1 : Int32) &&& 31)))]) (fun t kt => ?_) ?_
  ·refine XS.ishr Xh30.here hx rfl (D d7_9) rfl ?_
   exact kt
  refine ownRet Xh30 Bd.notSynchronized (v := some (.int (z >>> ((1 : Int32) &&& 31)))) (fun h => by rw [Bd.returns] at h; cases h) ?_ (oLe rfl) (oLe rfl) (fun fs hr => retI Xh30 hx Bd.returns (D d7_10) hr)
  show (Q_leng Z x ta kb cd z vs m1 G1 h0 n0) (some (.int (z >>> ((1 : Int32) &&& 31)))) T28.heap _
  rw [Eq28]
  refine ⟨?_, Nh30, rfl⟩
  rw [hz]
def Q_chi (Z : State) (i : Int32) (m1 : Int32) (G3 : Value) (h0 : Heap) (n0 : Nat) (v : Option Value) (h : Heap) (L : List Loc) : Prop := v = some (.int i) ∧ Fr n0 L ∧ h = h0
theorem ef_chi (m : MethodId) (x0 : Int32) (x1 : Int32) (x2 : Value) (r2 : x2.isRef = true) : entryFrame m #[(.int x0), (.int x1), x2] 3 = mkF m 0 #[vI x0, vI x1, .val x2] [] := by
 rcases ref_cases r2 with rfl | ⟨y2, rfl⟩ <;> first | (simp [entryFrame, mkF, argsToLocals, Value.category]; done) | rfl
set_option maxRecDepth 65536 in
set_option maxHeartbeats 40000000 in
theorem c_chi (l : Launch) (Z : State) (a0 : Array Value) (hw : HW a0 Z) (ws : List Jvm.Cond) (i : Int32) (m1 : Int32) (G3 : Value) (h0 : Heap) (n0 : Nat) (Z0 : n0 ≤ h0.size) (rG3 : G3.isRef = true) (qi : ¬ i < (0 : Int32) ∧ i < m1) :
  MetFree l yM13 (head1 (Jvm.Cond.code yM13 jdk_41_method_11_code 3 (some .int) :: ws) ({ frames := 0, cells := 0, slots := 0, locals := 0 } : Room)) (fun a U => a = #[(.int i), (.int m1), G3] ∧ Z.Warmed39 U.vm ∧ U.heap = h0) (fun _ _ _ _ _ => True) (fun _ U o U' => ∃ v L, o = .returned v ∧ (Q_chi Z i m1 G3 h0 n0) v U'.heap L ∧ FrameEnd U o U' L ({ frames := 0, cells := 0, slots := 0, locals := 0 } : Room).cells ({ frames := 0, cells := 0, slots := 0, locals := 0 } : Room).slots) := by
 refine MetFree.of_bodySF (plainFor_of_name pn_12) hisR ?_
 intro p e s m args below meth c s₁ Bd hml0 hP hK
 obtain ⟨rfl, hZ, hHp⟩ := hP
 have hx := Bd.exec
 have D := fun {pc : Nat} {r} (h : decode _ pc = r) => hb Bd.bytes h
 have hml : c.maxLocals = 3 := hml0
 have hown : s.vm.findClass "jdk/internal/util/Preconditions" = some m.cls := findClass_of_methodNamed Bd.named
 have hnm := (name_of_methodNamed Bd.named Bd.method).1
 have X0 : Stand p l e ({ frames := 0, cells := 0, slots := 0, locals := 0 } : Room) s m #[(.int i), (.int m1), G3] below meth c s₁ [] 0 0 := Stand.of_body Bd
 have e0 : s₁.heap = h0 := by rw [← hHp, Bd.state]; rfl
 have N0 := Fr.nil n0
 refine ownOut (P := (Q_chi Z i m1 G3 h0 n0)) ?_
 refine ownBy (A := s₁.setTop (mkF m 0 #[vI i, vI m1, .val G3] [])) (fun t k => castTop (ef_chi m i m1 G3 rG3) k) ?_
 refine oTo s₁ (mkF m 17 #[vI i, vI m1, .val G3] [(.int i)]) (fun t kt => ?_) ?_
 ·refine XS.iloadN X0.here hx rfl (D d19_0) rfl ?_
  refine XS.ifNo X0.here hx rfl (D d19_1) rfl ((if0 _ _).trans (flt qi.1).1) ?_
  refine XS.iloadN X0.here hx rfl (D d19_4) rfl ?_
  refine XS.iloadN X0.here hx rfl (D d19_5) rfl ?_
  show Steps p.tables e below (s₁.setTop (mkF m 6 #[vI i, vI m1, .val G3] [(.int m1), (.int i)])) t
  refine XS.icmpYes X0.here hx rfl (pc0 := 6) (pc' := 16) rfl (D d19_6) rfl (tlt qi.2).1 (by decide) (by decide) ?_
  refine XS.iloadN X0.here hx rfl (D d19_16) rfl ?_
  exact kt
 refine ownRet X0 Bd.notSynchronized (v := some (.int i)) (fun h => by rw [Bd.returns] at h; cases h) ?_ (oLe rfl) (oLe rfl) (fun fs hr => retI X0 hx Bd.returns (D d19_17) hr)
 show (Q_chi Z i m1 G3 h0 n0) (some (.int i)) s₁.heap _
 rw [e0]
 exact ⟨rfl, N0, rfl⟩
abbrev fr_sci (m : MethodId) (i : Int32) (m1 : Int32) (pc : Nat)  (st : List Value) : JFrame := mkF m pc #[vI i, vI m1] st
def Q_sci (Z : State) (i : Int32) (m1 : Int32) (G3 : Value) (h0 : Heap) (n0 : Nat) (v : Option Value) (h : Heap) (L : List Loc) : Prop := v = none ∧ Fr n0 L ∧ h = h0
theorem ef_sci (m : MethodId) (x0 : Int32) (x1 : Int32)  : entryFrame m #[(.int x0), (.int x1)] 2 = mkF m 0 #[vI x0, vI x1] [] := by first | (simp [entryFrame, mkF, argsToLocals, Value.category]; done) | rfl
set_option maxRecDepth 65536 in
set_option maxHeartbeats 40000000 in
theorem c_sci (l : Launch) (Z : State) (a0 : Array Value) (hw : HW a0 Z) (ws : List Jvm.Cond) (i : Int32) (m1 : Int32) (G3 : Value) (h0 : Heap) (n0 : Nat) (Z0 : n0 ≤ h0.size) (O4 : Sta Z Z.heap "jdk/internal/util/Preconditions" "SIOOBE_FORMATTER" "Ljava/util/function/BiFunction;" G3) (rG3 : G3.isRef = true) (qi : ¬ i < (0 : Int32) ∧ i < m1) (X00 : Old Z n0 h0) :
  MetFree l yM14 (head1 (Jvm.Cond.code yM14 jdk_42_method_155_code 2 none :: ws) ({ frames := 1, cells := 0, slots := 0, locals := 14 } : Room)) (fun a U => a = #[(.int i), (.int m1)] ∧ Z.Warmed39 U.vm ∧ U.heap = h0) (fun _ _ _ _ _ => True) (fun _ U o U' => ∃ v L, o = .returned v ∧ (Q_sci Z i m1 G3 h0 n0) v U'.heap L ∧ FrameEnd U o U' L ({ frames := 1, cells := 0, slots := 0, locals := 14 } : Room).cells ({ frames := 1, cells := 0, slots := 0, locals := 14 } : Room).slots) := by
 refine MetFree.of_bodySF (plainFor_of_name pn_1) hisR ?_
 intro p e s m args below meth c s₁ Bd hml0 hP hK
 obtain ⟨rfl, hZ, hHp⟩ := hP
 have hx := Bd.exec
 have D := fun {pc : Nat} {r} (h : decode _ pc = r) => hb Bd.bytes h
 have hml : c.maxLocals = 2 := hml0
 have hown : s.vm.findClass "java/lang/String" = some m.cls := findClass_of_methodNamed Bd.named
 have hnm := (name_of_methodNamed Bd.named Bd.method).1
 have X0 : Stand p l e ({ frames := 1, cells := 0, slots := 0, locals := 14 } : Room) s m #[(.int i), (.int m1)] below meth c s₁ [] 0 0 := Stand.of_body Bd
 have e0 : s₁.heap = h0 := by rw [← hHp, Bd.state]; rfl
 have N0 := Fr.nil n0
 refine ownOut (P := (Q_sci Z i m1 G3 h0 n0)) ?_
 refine ownBy (A := s₁.setTop (mkF m 0 #[vI i, vI m1] [])) (fun t k => castTop (ef_sci m i m1) k) ?_
 refine oTo s₁ (fr_sci m i m1 2  [(.int m1), (.int i)]) (fun t kt => ?_) ?_
 ·refine XS.iloadN X0.here hx rfl (D d18_0) rfl ?_
  refine XS.iloadN X0.here hx rfl (D d18_1) rfl ?_
  exact kt
 refine own_getS X0 hx hZ hown (host := "") (Or.inl (Wd102 hw)) Via.refl e0 (O4.ext X00.2) (D d18_2) (fun T21 X21 e21 => ?_)
 obtain ⟨vv22, _, ⟨T22, L22, k22, n22⟩, -, X22, ⟨Lc22, hQ22, l22, y22, z22⟩, st22⟩ := Jvm.LawKit.callS X21 hx (y := yM13) hown (mvT hZ (Wd104 hw)) (mvT hZ (Wd105 hw)) (mvT hZ (Wd103 hw)) (mvT hZ (Wd106 hw)) (by decide) (backOf (W := 0) (c_chi l Z a0 hw [] i m1 G3 h0 n0 Z0 rG3 qi) hZ (Wd106 hw) (Wd103 hw) (by decide) (by decide)) (g := (fr_sci m i m1 5  [G3, (.int m1), (.int i)])) rfl (by rw [hml]; rfl) (argsL := [(.int i), (.int m1), G3]) (rest := []) (lenOf pd_13 rfl) rfl (by show 2 * 0 + _ ≤ _; exact Nat.le_of_eq rfl) (D d18_5) (fun _ _ => ⟨rfl, e21, (by decide : 0 + 0 ≤ _), (by decide : 0 + 0 ≤ _)⟩)
 dsimp only [Pt.U, Pt.locs, Pt.cells, Pt.slots] at X22 l22 y22 z22 st22 hQ22
 subst l22 y22 z22
 obtain ⟨rfl, Nq22, Eq22⟩ := hQ22
 have N23 := Fr.app N0 Nq22
 obtain ⟨Lh24, Xh24, Nh24⟩ := oHd 0 0 X22 N23 rfl rfl
 refine ownBy st22 ?_
 clear st22
 show oA p e below _ T22 (fr_sci m i m1 8  [(.int i)])
 refine oTo T22 (fr_sci m i m1 9  []) (fun t kt => ?_) ?_
 ·refine XS.pop Xh24.here hx rfl (D d18_8) rfl rfl ?_
  exact kt
 refine ownRet Xh24 Bd.notSynchronized (v := none) (fun _ => rfl) ?_ (oLe rfl) (oLe rfl) (fun fs hr => Xh24.returnOut hx Bd.returns (D d18_9) hr)
 show (Q_sci Z i m1 G3 h0 n0) (none) T22.heap _
 rw [Eq22]
 exact ⟨rfl, Nh24, rfl⟩
abbrev fr_ul (m : MethodId) (ta : Addr) (pc : Nat)  (st : List Value) : JFrame := mkF m pc #[vR ta] st
def Q_ul (Z : State) (ta : Addr) (kb : ClassId) (z : Int32) (vs : List Value) (m1 : Int32) (h0 : Heap) (n0 : Nat) (v : Option Value) (h : Heap) (L : List Loc) : Prop := v = some (.int m1) ∧ Fr n0 L ∧ h = h0
theorem ef_ul (m : MethodId) (x0 : Addr)  : entryFrame m #[(.ref x0)] 1 = mkF m 0 #[vR x0] [] := by first | (simp [entryFrame, mkF, argsToLocals, Value.category]; done) | rfl
set_option maxRecDepth 65536 in
set_option maxHeartbeats 40000000 in
theorem c_ul (l : Launch) (Z : State) (a0 : Array Value) (hw : HW a0 Z) (ws : List Jvm.Cond) (ta : Addr) (kb : ClassId) (z : Int32) (vs : List Value) (m1 : Int32) (h0 : Heap) (n0 : Nat) (Z0 : n0 ≤ h0.size) (Ks : Arv Z h0 ta kb .byte z vs (iV 0)) (hz : (z >>> ((1 : Int32) &&& 31)) = m1) :
  MetFree l yM15 (head1 (Jvm.Cond.code yM15 jdk_52_method_6_code 1 (some .int) :: ws) ({ frames := 0, cells := 0, slots := 0, locals := 0 } : Room)) (fun a U => a = #[(.ref ta)] ∧ Z.Warmed39 U.vm ∧ U.heap = h0) (fun _ _ _ _ _ => True) (fun _ U o U' => ∃ v L, o = .returned v ∧ (Q_ul Z ta kb z vs m1 h0 n0) v U'.heap L ∧ FrameEnd U o U' L ({ frames := 0, cells := 0, slots := 0, locals := 0 } : Room).cells ({ frames := 0, cells := 0, slots := 0, locals := 0 } : Room).slots) := by
 refine MetFree.of_bodySF (plainFor_of_name pn_3) hisR ?_
 intro p e s m args below meth c s₁ Bd hml0 hP hK
 obtain ⟨rfl, hZ, hHp⟩ := hP
 have hx := Bd.exec
 have D := fun {pc : Nat} {r} (h : decode _ pc = r) => hb Bd.bytes h
 have hml : c.maxLocals = 1 := hml0
 have hown : s.vm.findClass "java/lang/StringUTF16" = some m.cls := findClass_of_methodNamed Bd.named
 have hnm := (name_of_methodNamed Bd.named Bd.method).1
 have X0 : Stand p l e ({ frames := 0, cells := 0, slots := 0, locals := 0 } : Room) s m #[(.ref ta)] below meth c s₁ [] 0 0 := Stand.of_body Bd
 have e0 : s₁.heap = h0 := by rw [← hHp, Bd.state]; rfl
 have N0 := Fr.nil n0
 refine ownOut (P := (Q_ul Z ta kb z vs m1 h0 n0)) ?_
 refine ownBy (A := s₁.setTop (mkF m 0 #[vR ta] [])) (fun t k => castTop (ef_ul m ta) k) ?_
 refine oTo s₁ (fr_ul m ta 1  [(.ref ta)]) (fun t kt => ?_) ?_
 ·refine XS.aloadN X0.here hx rfl (D d29_0) rfl rfl ?_
  exact kt
 obtain ⟨cl21, Ar21, -, S21, N21, -, -⟩ := id Ks
 have st21 := X0.arraylength hx (by rw [e0]; exact Ar21.1) (State.isArrayOf_alike hZ.alike Ar21.2.1) (g := (fr_ul m ta 1  [(.ref ta)])) rfl rfl (D d29_1)
 rw [len_of S21 N21] at st21
 refine ownBy st21 ?_
 show oA p e below _ s₁ (fr_ul m ta 2  [(.int z)])
 refine oTo s₁ (fr_ul m ta 4  [(.int (z >>> ((1 : Int32) &&& 31)))]) (fun t kt => ?_) ?_
 ·refine XS.iconst X0.here hx rfl (D d29_2) ?_
  refine XS.ishr X0.here hx rfl (D d29_3) rfl ?_
  exact kt
 refine ownRet X0 Bd.notSynchronized (v := some (.int (z >>> ((1 : Int32) &&& 31)))) (fun h => by rw [Bd.returns] at h; cases h) ?_ (oLe rfl) (oLe rfl) (fun fs hr => retI X0 hx Bd.returns (D d29_4) hr)
 show (Q_ul Z ta kb z vs m1 h0 n0) (some (.int (z >>> ((1 : Int32) &&& 31)))) s₁.heap _
 rw [e0]
 refine ⟨?_, N0, rfl⟩
 rw [hz]
abbrev fr_l1c (m : MethodId) (ta : Addr) (i : Int32) (pc : Nat)  (st : List Value) : JFrame := mkF m pc #[vR ta, vI i] st
def Q_l1c (Z : State) (ta : Addr) (kb : ClassId) (z : Int32) (vs : List Value) (i : Int32) (cc : Int32) (k : Nat) (G3 : Value) (h0 : Heap) (n0 : Nat) (v : Option Value) (h : Heap) (L : List Loc) : Prop := v = some (.int cc) ∧ Fr n0 L ∧ h = h0
theorem ef_l1c (m : MethodId) (x0 : Addr) (x1 : Int32)  : entryFrame m #[(.ref x0), (.int x1)] 2 = mkF m 0 #[vR x0, vI x1] [] := by first | (simp [entryFrame, mkF, argsToLocals, Value.category]; done) | rfl
set_option maxRecDepth 65536 in
set_option maxHeartbeats 40000000 in
theorem c_l1c (l : Launch) (Z : State) (a0 : Array Value) (hw : HW a0 Z) (ws : List Jvm.Cond) (ta : Addr) (kb : ClassId) (z : Int32) (vs : List Value) (i : Int32) (cc : Int32) (k : Nat) (G3 : Value) (h0 : Heap) (n0 : Nat) (Z0 : n0 ≤ h0.size) (Ks : Arv Z h0 ta kb .byte z vs (iV 0)) (qi : ¬ i < (0 : Int32) ∧ i < z) (k0 : i.toNatClampNeg = k) (u0 : vs.getD k (iV 0) = .int (oL cc)) (hnl : ¬ ((255 : Int32) < cc)) (hc : ¬ cc < 0 ∧ ¬ (65535 : Int32) < cc) (O4 : Sta Z Z.heap "jdk/internal/util/Preconditions" "SIOOBE_FORMATTER" "Ljava/util/function/BiFunction;" G3) (rG3 : G3.isRef = true) (X00 : Old Z n0 h0) :
  MetFree l yM16 (head1 (Jvm.Cond.code yM16 jdk_43_method_2_code 2 (some .char) :: ws) ({ frames := 2, cells := 0, slots := 0, locals := 27 } : Room)) (fun a U => a = #[(.ref ta), (.int i)] ∧ Z.Warmed39 U.vm ∧ U.heap = h0) (fun _ _ _ _ _ => True) (fun _ U o U' => ∃ v L, o = .returned v ∧ (Q_l1c Z ta kb z vs i cc k G3 h0 n0) v U'.heap L ∧ FrameEnd U o U' L ({ frames := 2, cells := 0, slots := 0, locals := 27 } : Room).cells ({ frames := 2, cells := 0, slots := 0, locals := 27 } : Room).slots) := by
 refine MetFree.of_bodySF (plainFor_of_name pn_14) hisR ?_
 intro p e s m args below meth c s₁ Bd hml0 hP hK
 obtain ⟨rfl, hZ, hHp⟩ := hP
 have hx := Bd.exec
 have D := fun {pc : Nat} {r} (h : decode _ pc = r) => hb Bd.bytes h
 have hml : c.maxLocals = 2 := hml0
 have hown : s.vm.findClass "java/lang/StringLatin1" = some m.cls := findClass_of_methodNamed Bd.named
 have hnm := (name_of_methodNamed Bd.named Bd.method).1
 have X0 : Stand p l e ({ frames := 2, cells := 0, slots := 0, locals := 27 } : Room) s m #[(.ref ta), (.int i)] below meth c s₁ [] 0 0 := Stand.of_body Bd
 have e0 : s₁.heap = h0 := by rw [← hHp, Bd.state]; rfl
 have N0 := Fr.nil n0
 refine ownOut (P := (Q_l1c Z ta kb z vs i cc k G3 h0 n0)) ?_
 refine ownBy (A := s₁.setTop (mkF m 0 #[vR ta, vI i] [])) (fun t k => castTop (ef_l1c m ta i) k) ?_
 refine oTo s₁ (fr_l1c m ta i 2  [(.ref ta), (.int i)]) (fun t kt => ?_) ?_
 ·refine XS.iloadN X0.here hx rfl (D d17_0) rfl ?_
  refine XS.aloadN X0.here hx rfl (D d17_1) rfl rfl ?_
  exact kt
 obtain ⟨cl21, Ar21, -, S21, N21, -, -⟩ := id Ks
 have st21 := X0.arraylength hx (by rw [e0]; exact Ar21.1) (State.isArrayOf_alike hZ.alike Ar21.2.1) (g := (fr_l1c m ta i 2  [(.ref ta), (.int i)])) rfl rfl (D d17_2)
 rw [len_of S21 N21] at st21
 refine ownBy st21 ?_
 show oA p e below _ s₁ (fr_l1c m ta i 3  [(.int z), (.int i)])
 obtain ⟨vv22, _, ⟨T22, L22, k22, n22⟩, -, X22, ⟨Lc22, hQ22, l22, y22, z22⟩, st22⟩ := Jvm.LawKit.callS X0 hx (y := yM14) hown (mvT hZ (Wd99 hw)) (mvT hZ (Wd100 hw)) (mvT hZ (Wd9 hw)) (mvT hZ (Wd101 hw)) (by decide) (backOf (W := 0) (c_sci l Z a0 hw [] i z G3 h0 n0 Z0 O4 rG3 qi X00) hZ (Wd101 hw) (Wd9 hw) (by decide) (by decide)) (g := (fr_l1c m ta i 3  [(.int z), (.int i)])) rfl (by rw [hml]; rfl) (argsL := [(.int i), (.int z)]) (rest := []) (lenOf pd_15 rfl) rfl (by show 2 * 0 + _ ≤ _; exact Nat.le_of_eq rfl) (D d17_3) (fun _ _ => ⟨rfl, e0, (by decide : 0 + 0 ≤ _), (by decide : 0 + 0 ≤ _)⟩)
 dsimp only [Pt.U, Pt.locs, Pt.cells, Pt.slots] at X22 l22 y22 z22 st22 hQ22
 subst l22 y22 z22
 obtain ⟨rfl, Nq22, Eq22⟩ := hQ22
 have N23 := Fr.app N0 Nq22
 obtain ⟨Lh24, Xh24, Nh24⟩ := oHd 0 0 X22 N23 rfl rfl
 refine ownBy st22 ?_
 clear st22
 show oA p e below _ T22 (fr_l1c m ta i 6  [])
 refine oTo T22 (fr_l1c m ta i 8  [(.int i), (.ref ta)]) (fun t kt => ?_) ?_
 ·refine XS.aloadN Xh24.here hx rfl (D d17_6) rfl rfl ?_
  refine XS.iloadN Xh24.here hx rfl (D d17_7) rfl ?_
  exact kt
 obtain ⟨cl25, Ar25, q25, S25, N25, H25, G25⟩ := id Ks
 have hin25 : ¬ (i < 0 ∨ cl25.slots.size ≤ (i).toNatClampNeg) := inb_of S25 qi
 have hat25 : cl25.slots[(i).toNatClampNeg]? = some (.int (oL cc)) := H25.at hin25 (by rw [k0]; exact u0)
 have st25 := Xh24.baloadBytes hx (j := i) (v := (.int (oL cc))) (by rw [Eq22]; exact Ar25.1) (State.isArrayOf_alike hZ.alike Ar25.2.1) Ar25.2.2 hin25 hat25 (g := (fr_l1c m ta i 8  [(.int i), (.ref ta)])) rfl rfl (D d17_8)
 refine ownBy st25 ?_
 show oA p e below _ T22 (fr_l1c m ta i 9  [(.int (oL cc))])
 refine oTo T22 (fr_l1c m ta i 14  [(.int (((oL cc) &&& (255 : Int32)).toUInt32.toUInt16.toUInt32.toInt32))]) (fun t kt => ?_) ?_
 ·refine XS.sipush Xh24.here hx rfl (D d17_9) ?_
  refine XS.iand Xh24.here hx rfl (D d17_12) rfl ?_
  refine XS.i2c Xh24.here hx rfl (D d17_13) rfl ?_
  exact kt
 refine ownRet Xh24 Bd.notSynchronized (v := some (.int (nar .char (((oL cc) &&& (255 : Int32)).toUInt32.toUInt16.toUInt32.toInt32)))) (fun h => by rw [Bd.returns] at h; cases h) ?_ (oLe rfl) (oLe rfl) (fun fs hr => retN Xh24 hx (t := .char) Bd.returns (by simp) (D d17_14) hr)
 show (Q_l1c Z ta kb z vs i cc k G3 h0 n0) (some (.int (nar .char (((oL cc) &&& (255 : Int32)).toUInt32.toUInt16.toUInt32.toInt32)))) T22.heap _
 rw [Eq22]
 refine ⟨?_, Nh24, rfl⟩
 rw [own_l1c hc hnl]
abbrev fr_uci (m : MethodId) (i : Int32) (ta : Addr) (pc : Nat)  (st : List Value) : JFrame := mkF m pc #[vI i, vR ta] st
def Q_uci (Z : State) (ta : Addr) (kb : ClassId) (z : Int32) (vs : List Value) (i : Int32) (m1 : Int32) (G3 : Value) (h0 : Heap) (n0 : Nat) (v : Option Value) (h : Heap) (L : List Loc) : Prop := v = none ∧ Fr n0 L ∧ h = h0
theorem ef_uci (m : MethodId) (x0 : Int32) (x1 : Addr)  : entryFrame m #[(.int x0), (.ref x1)] 2 = mkF m 0 #[vI x0, vR x1] [] := by first | (simp [entryFrame, mkF, argsToLocals, Value.category]; done) | rfl
set_option maxRecDepth 65536 in
set_option maxHeartbeats 40000000 in
theorem c_uci (l : Launch) (Z : State) (a0 : Array Value) (hw : HW a0 Z) (ws : List Jvm.Cond) (ta : Addr) (kb : ClassId) (z : Int32) (vs : List Value) (i : Int32) (m1 : Int32) (G3 : Value) (h0 : Heap) (n0 : Nat) (Z0 : n0 ≤ h0.size) (Ks : Arv Z h0 ta kb .byte z vs (iV 0)) (hz : (z >>> ((1 : Int32) &&& 31)) = m1) (qi : ¬ i < (0 : Int32) ∧ i < m1) (O4 : Sta Z Z.heap "jdk/internal/util/Preconditions" "SIOOBE_FORMATTER" "Ljava/util/function/BiFunction;" G3) (rG3 : G3.isRef = true) (X00 : Old Z n0 h0) :
  MetFree l yM17 (head1 (Jvm.Cond.code yM17 jdk_52_method_91_code 2 none :: ws) ({ frames := 2, cells := 0, slots := 0, locals := 27 } : Room)) (fun a U => a = #[(.int i), (.ref ta)] ∧ Z.Warmed39 U.vm ∧ U.heap = h0) (fun _ _ _ _ _ => True) (fun _ U o U' => ∃ v L, o = .returned v ∧ (Q_uci Z ta kb z vs i m1 G3 h0 n0) v U'.heap L ∧ FrameEnd U o U' L ({ frames := 2, cells := 0, slots := 0, locals := 27 } : Room).cells ({ frames := 2, cells := 0, slots := 0, locals := 27 } : Room).slots) := by
 refine MetFree.of_bodySF (plainFor_of_name pn_3) hisR ?_
 intro p e s m args below meth c s₁ Bd hml0 hP hK
 obtain ⟨rfl, hZ, hHp⟩ := hP
 have hx := Bd.exec
 have D := fun {pc : Nat} {r} (h : decode _ pc = r) => hb Bd.bytes h
 have hml : c.maxLocals = 2 := hml0
 have hown : s.vm.findClass "java/lang/StringUTF16" = some m.cls := findClass_of_methodNamed Bd.named
 have hnm := (name_of_methodNamed Bd.named Bd.method).1
 have X0 : Stand p l e ({ frames := 2, cells := 0, slots := 0, locals := 27 } : Room) s m #[(.int i), (.ref ta)] below meth c s₁ [] 0 0 := Stand.of_body Bd
 have e0 : s₁.heap = h0 := by rw [← hHp, Bd.state]; rfl
 have N0 := Fr.nil n0
 refine ownOut (P := (Q_uci Z ta kb z vs i m1 G3 h0 n0)) ?_
 refine ownBy (A := s₁.setTop (mkF m 0 #[vI i, vR ta] [])) (fun t k => castTop (ef_uci m i ta) k) ?_
 refine oTo s₁ (fr_uci m i ta 2  [(.ref ta), (.int i)]) (fun t kt => ?_) ?_
 ·refine XS.iloadN X0.here hx rfl (D d28_0) rfl ?_
  refine XS.aloadN X0.here hx rfl (D d28_1) rfl rfl ?_
  exact kt
 obtain ⟨vv21, _, ⟨T21, L21, k21, n21⟩, -, X21, ⟨Lc21, hQ21, l21, y21, z21⟩, st21⟩ := Jvm.LawKit.callS X0 hx (y := yM15) hown (mvT hZ (Wd156 hw)) (mvT hZ (Wd157 hw)) (mvT hZ (Wd74 hw)) (mvT hZ (Wd158 hw)) (by decide) (backOf (W := 1) (c_ul l Z a0 hw [] ta kb z vs m1 h0 n0 Z0 Ks hz) hZ (Wd158 hw) (Wd74 hw) (by decide) (by decide)) (g := (fr_uci m i ta 2  [(.ref ta), (.int i)])) rfl (by rw [hml]; rfl) (argsL := [(.ref ta)]) (rest := [(.int i)]) (lenOf pd_16 rfl) rfl (by show 2 * 0 + _ ≤ _; exact Nat.le_of_eq rfl) (D d28_2) (fun _ _ => ⟨rfl, e0, (by decide : 0 + 0 ≤ _), (by decide : 0 + 0 ≤ _)⟩)
 dsimp only [Pt.U, Pt.locs, Pt.cells, Pt.slots] at X21 l21 y21 z21 st21 hQ21
 subst l21 y21 z21
 obtain ⟨rfl, Nq21, Eq21⟩ := hQ21
 have N22 := Fr.app N0 Nq21
 obtain ⟨Lh23, Xh23, Nh23⟩ := oHd 0 0 X21 N22 rfl rfl
 refine ownBy st21 ?_
 clear st21
 show oA p e below _ T21 (fr_uci m i ta 5  [(.int m1), (.int i)])
 obtain ⟨vv24, _, ⟨T24, L24, k24, n24⟩, -, X24, ⟨Lc24, hQ24, l24, y24, z24⟩, st24⟩ := Jvm.LawKit.callS Xh23 hx (y := yM14) hown (mvT hZ (Wd159 hw)) (mvT hZ (Wd100 hw)) (mvT hZ (Wd9 hw)) (mvT hZ (Wd101 hw)) (by decide) (backOf (W := 0) (c_sci l Z a0 hw [] i m1 G3 h0 n0 Z0 O4 rG3 qi X00) hZ (Wd101 hw) (Wd9 hw) (by decide) (by decide)) (g := (fr_uci m i ta 5  [(.int m1), (.int i)])) rfl (by rw [hml]; rfl) (argsL := [(.int i), (.int m1)]) (rest := []) (lenOf pd_15 rfl) rfl (by show 2 * 0 + _ ≤ _; exact Nat.le_of_eq rfl) (D d28_5) (fun _ _ => ⟨rfl, Eq21, (by decide : 0 + 0 ≤ _), (by decide : 0 + 0 ≤ _)⟩)
 dsimp only [Pt.U, Pt.locs, Pt.cells, Pt.slots] at X24 l24 y24 z24 st24 hQ24
 subst l24 y24 z24
 obtain ⟨rfl, Nq24, Eq24⟩ := hQ24
 have N25 := Fr.app Nh23 Nq24
 obtain ⟨Lh26, Xh26, Nh26⟩ := oHd 0 0 X24 N25 rfl rfl
 refine ownBy st24 ?_
 clear st24
 show oA p e below _ T24 (fr_uci m i ta 8  [])
 refine ownRet Xh26 Bd.notSynchronized (v := none) (fun _ => rfl) ?_ (oLe rfl) (oLe rfl) (fun fs hr => Xh26.returnOut hx Bd.returns (D d28_8) hr)
 show (Q_uci Z ta kb z vs i m1 G3 h0 n0) (none) T24.heap _
 rw [Eq24]
 exact ⟨rfl, Nh26, rfl⟩
abbrev fr_u1c (m : MethodId) (ta : Addr) (i : Int32) (pc : Nat)  (st : List Value) : JFrame := mkF m pc #[vR ta, vI i] st
def Q_u1c (Z : State) (ta : Addr) (kb : ClassId) (z : Int32) (vs : List Value) (i : Int32) (cc : Int32) (k : Nat) (m1 : Int32) (G3 : Value) (h0 : Heap) (n0 : Nat) (v : Option Value) (h : Heap) (L : List Loc) : Prop := v = some (.int cc) ∧ Fr n0 L ∧ h = h0
theorem ef_u1c (m : MethodId) (x0 : Addr) (x1 : Int32)  : entryFrame m #[(.ref x0), (.int x1)] 2 = mkF m 0 #[vR x0, vI x1] [] := by first | (simp [entryFrame, mkF, argsToLocals, Value.category]; done) | rfl
set_option maxRecDepth 65536 in
set_option maxHeartbeats 40000000 in
theorem c_u1c (l : Launch) (Z : State) (a0 : Array Value) (hw : HW a0 Z) (ws : List Jvm.Cond) (ta : Addr) (kb : ClassId) (z : Int32) (vs : List Value) (i : Int32) (cc : Int32) (k : Nat) (m1 : Int32) (G3 : Value) (h0 : Heap) (n0 : Nat) (Z0 : n0 ≤ h0.size) (Ks : Arv Z h0 ta kb .byte z vs (iV 0)) (hz : (z >>> ((1 : Int32) &&& 31)) = m1) (qi : ¬ i < (0 : Int32) ∧ i < m1) (q0 : ¬ (i <<< ((1 : Int32) &&& 31)) < 0 ∧ (i <<< ((1 : Int32) &&& 31)) < z) (q1 : ¬ ((i <<< ((1 : Int32) &&& 31)) + (1 : Int32)) < 0 ∧ ((i <<< ((1 : Int32) &&& 31)) + (1 : Int32)) < z) (k0 : (i <<< ((1 : Int32) &&& 31)).toNatClampNeg = k) (k1 : ((i <<< ((1 : Int32) &&& 31)) + (1 : Int32)).toNatClampNeg = k + 1) (u0 : vs.getD k (iV 0) = .int (oW cc)) (u1 : vs.getD (k + 1) (iV 0) = .int (oH cc)) (hc : ¬ cc < 0 ∧ ¬ (65535 : Int32) < cc) (SA : Sta Z Z.heap "java/lang/StringUTF16" "$assertionsDisabled" "Z" (iV 1)) (SHI : Sta Z Z.heap "java/lang/StringUTF16" "HI_BYTE_SHIFT" "I" (iV 0)) (SLO : Sta Z Z.heap "java/lang/StringUTF16" "LO_BYTE_SHIFT" "I" (iV 8)) (O4 : Sta Z Z.heap "jdk/internal/util/Preconditions" "SIOOBE_FORMATTER" "Ljava/util/function/BiFunction;" G3) (rG3 : G3.isRef = true) (X00 : Old Z n0 h0) :
  MetFree l yM18 (head1 (Jvm.Cond.code yM18 jdk_52_method_83_code 2 (some .char) :: ws) ({ frames := 3, cells := 0, slots := 0, locals := 40 } : Room)) (fun a U => a = #[(.ref ta), (.int i)] ∧ Z.Warmed39 U.vm ∧ U.heap = h0) (fun _ _ _ _ _ => True) (fun _ U o U' => ∃ v L, o = .returned v ∧ (Q_u1c Z ta kb z vs i cc k m1 G3 h0 n0) v U'.heap L ∧ FrameEnd U o U' L ({ frames := 3, cells := 0, slots := 0, locals := 40 } : Room).cells ({ frames := 3, cells := 0, slots := 0, locals := 40 } : Room).slots) := by
 refine MetFree.of_bodySF (plainFor_of_name pn_3) hisR ?_
 intro p e s m args below meth c s₁ Bd hml0 hP hK
 obtain ⟨rfl, hZ, hHp⟩ := hP
 have hx := Bd.exec
 have D := fun {pc : Nat} {r} (h : decode _ pc = r) => hb Bd.bytes h
 have hml : c.maxLocals = 2 := hml0
 have hown : s.vm.findClass "java/lang/StringUTF16" = some m.cls := findClass_of_methodNamed Bd.named
 have hnm := (name_of_methodNamed Bd.named Bd.method).1
 have X0 : Stand p l e ({ frames := 3, cells := 0, slots := 0, locals := 40 } : Room) s m #[(.ref ta), (.int i)] below meth c s₁ [] 0 0 := Stand.of_body Bd
 have e0 : s₁.heap = h0 := by rw [← hHp, Bd.state]; rfl
 have N0 := Fr.nil n0
 refine ownOut (P := (Q_u1c Z ta kb z vs i cc k m1 G3 h0 n0)) ?_
 refine ownBy (A := s₁.setTop (mkF m 0 #[vR ta, vI i] [])) (fun t k => castTop (ef_u1c m ta i) k) ?_
 refine oTo s₁ (fr_u1c m ta i 2  [(.ref ta), (.int i)]) (fun t kt => ?_) ?_
 ·refine XS.iloadN X0.here hx rfl (D d27_0) rfl ?_
  refine XS.aloadN X0.here hx rfl (D d27_1) rfl rfl ?_
  exact kt
 obtain ⟨vv21, _, ⟨T21, L21, k21, n21⟩, -, X21, ⟨Lc21, hQ21, l21, y21, z21⟩, st21⟩ := Jvm.LawKit.callS X0 hx (y := yM17) hown (mvT hZ (Wd153 hw)) (mvT hZ (Wd154 hw)) (mvT hZ (Wd74 hw)) (mvT hZ (Wd155 hw)) (by decide) (backOf (W := 0) (c_uci l Z a0 hw [] ta kb z vs i m1 G3 h0 n0 Z0 Ks hz qi O4 rG3 X00) hZ (Wd155 hw) (Wd74 hw) (by decide) (by decide)) (g := (fr_u1c m ta i 2  [(.ref ta), (.int i)])) rfl (by rw [hml]; rfl) (argsL := [(.int i), (.ref ta)]) (rest := []) (lenOf pd_17 rfl) rfl (by show 2 * 0 + _ ≤ _; exact Nat.le_of_eq rfl) (D d27_2) (fun _ _ => ⟨rfl, e0, (by decide : 0 + 0 ≤ _), (by decide : 0 + 0 ≤ _)⟩)
 dsimp only [Pt.U, Pt.locs, Pt.cells, Pt.slots] at X21 l21 y21 z21 st21 hQ21
 subst l21 y21 z21
 obtain ⟨rfl, Nq21, Eq21⟩ := hQ21
 have N22 := Fr.app N0 Nq21
 obtain ⟨Lh23, Xh23, Nh23⟩ := oHd 0 0 X21 N22 rfl rfl
 refine ownBy st21 ?_
 clear st21
 show oA p e below _ T21 (fr_u1c m ta i 5  [])
 refine oTo T21 (fr_u1c m ta i 7  [(.int i), (.ref ta)]) (fun t kt => ?_) ?_
 ·refine XS.aloadN Xh23.here hx rfl (D d27_5) rfl rfl ?_
  refine XS.iloadN Xh23.here hx rfl (D d27_6) rfl ?_
  exact kt
 obtain ⟨vv24, _, ⟨T24, L24, k24, n24⟩, -, X24, ⟨Lc24, hQ24, l24, y24, z24⟩, st24⟩ := Jvm.LawKit.callS Xh23 hx (y := yM5) hown (mvT hZ (Wd147 hw)) (mvT hZ (Wd148 hw)) (mvT hZ (Wd74 hw)) (mvT hZ (Wd149 hw)) (by decide) (backOf (W := 0) (c_getc l Z a0 hw [] ta kb z vs i cc k h0 n0 Z0 Ks q0 q1 k0 k1 u0 u1 hc SA SHI SLO X00) hZ (Wd149 hw) (Wd74 hw) (by decide) (by decide)) (g := (fr_u1c m ta i 7  [(.int i), (.ref ta)])) rfl (by rw [hml]; rfl) (argsL := [(.ref ta), (.int i)]) (rest := []) (lenOf pd_9 rfl) rfl (by show 2 * 0 + _ ≤ _; exact Nat.le_of_eq rfl) (D d27_7) (fun _ _ => ⟨rfl, Eq21, (by decide : 0 + 0 ≤ _), (by decide : 0 + 0 ≤ _)⟩)
 dsimp only [Pt.U, Pt.locs, Pt.cells, Pt.slots] at X24 l24 y24 z24 st24 hQ24
 subst l24 y24 z24
 obtain ⟨rfl, Nq24, Eq24⟩ := hQ24
 have N25 := Fr.app Nh23 Nq24
 obtain ⟨Lh26, Xh26, Nh26⟩ := oHd 0 0 X24 N25 rfl rfl
 refine ownBy st24 ?_
 clear st24
 show oA p e below _ T24 (fr_u1c m ta i 10  [(.int cc)])
 refine ownRet Xh26 Bd.notSynchronized (v := some (.int (nar .char cc))) (fun h => by rw [Bd.returns] at h; cases h) ?_ (oLe rfl) (oLe rfl) (fun fs hr => retN Xh26 hx (t := .char) Bd.returns (by simp) (D d27_10) hr)
 show (Q_u1c Z ta kb z vs i cc k m1 G3 h0 n0) (some (.int (nar .char cc))) T24.heap _
 rw [Eq24]
 refine ⟨?_, Nh26, rfl⟩
 rw [own_c16 hc]
abbrev fr_chat (m : MethodId) (x : Addr) (i : Int32) (pc : Nat)  (st : List Value) : JFrame := mkF m pc #[vR x, vI i] st
def Q_chat (Z : State) (x : Addr) (ta : Addr) (kb : ClassId) (cd : Int32) (z : Int32) (vs : List Value) (i : Int32) (cc : Int32) (k : Nat) (k2 : Nat) (m1 : Int32) (G1 : Int32) (G3 : Value) (h0 : Heap) (n0 : Nat) (v : Option Value) (h : Heap) (L : List Loc) : Prop := v = some (.int cc) ∧ Fr n0 L ∧ h = h0
theorem ef_chat (m : MethodId) (x0 : Addr) (x1 : Int32)  : entryFrame m #[(.ref x0), (.int x1)] 2 = mkF m 0 #[vR x0, vI x1] [] := by first | (simp [entryFrame, mkF, argsToLocals, Value.category]; done) | rfl
set_option maxRecDepth 65536 in
set_option maxHeartbeats 40000000 in
theorem c_chat (l : Launch) (Z : State) (a0 : Array Value) (hw : HW a0 Z) (ws : List Jvm.Cond) (x : Addr) (ta : Addr) (kb : ClassId) (cd : Int32) (z : Int32) (vs : List Value) (i : Int32) (cc : Int32) (k : Nat) (k2 : Nat) (m1 : Int32) (G1 : Int32) (G3 : Value) (h0 : Heap) (n0 : Nat) (Z0 : n0 ≤ h0.size) (Es : Exa Z h0 x "java/lang/String") (Vs : Fld Z h0 x "java/lang/String" "value" "[B" (.ref ta)) (Cs : Fld Z h0 x "java/lang/String" "coder" "B" (.int cd)) (Ks : Arv Z h0 ta kb .byte z vs (iV 0)) (hc : ¬ cc < 0 ∧ ¬ (65535 : Int32) < cc) (hR : (cd = (0 : Int32) ∧ (¬ i < (0 : Int32) ∧ i < z) ∧ i.toNatClampNeg = k ∧ vs.getD k (iV 0) = .int (oL cc) ∧ ¬ ((255 : Int32) < cc)) ∨ (cd = (1 : Int32) ∧ (¬ i < (0 : Int32) ∧ i < m1) ∧ (z >>> ((1 : Int32) &&& 31)) = m1 ∧ (¬ (i <<< ((1 : Int32) &&& 31)) < 0 ∧ (i <<< ((1 : Int32) &&& 31)) < z) ∧ (¬ ((i <<< ((1 : Int32) &&& 31)) + (1 : Int32)) < 0 ∧ ((i <<< ((1 : Int32) &&& 31)) + (1 : Int32)) < z) ∧ (i <<< ((1 : Int32) &&& 31)).toNatClampNeg = k2 ∧ ((i <<< ((1 : Int32) &&& 31)) + (1 : Int32)).toNatClampNeg = k2 + 1 ∧ vs.getD k2 (iV 0) = .int (oW cc) ∧ vs.getD (k2 + 1) (iV 0) = .int (oH cc))) (O2 : Sta Z Z.heap "java/lang/String" "COMPACT_STRINGS" "Z" (.int G1)) (P5 : ¬ (G1 = (0 : Int32))) (SA : Sta Z Z.heap "java/lang/StringUTF16" "$assertionsDisabled" "Z" (iV 1)) (SHI : Sta Z Z.heap "java/lang/StringUTF16" "HI_BYTE_SHIFT" "I" (iV 0)) (SLO : Sta Z Z.heap "java/lang/StringUTF16" "LO_BYTE_SHIFT" "I" (iV 8)) (O4 : Sta Z Z.heap "jdk/internal/util/Preconditions" "SIOOBE_FORMATTER" "Ljava/util/function/BiFunction;" G3) (rG3 : G3.isRef = true) (X00 : Old Z n0 h0) :
  MetFree l yM19 (head1 (Jvm.Cond.code yM19 jdk_42_method_56_code 2 (some .char) :: ws) ({ frames := 4, cells := 0, slots := 0, locals := 53 } : Room)) (fun a U => a = #[(.ref x), (.int i)] ∧ Z.Warmed39 U.vm ∧ U.heap = h0) (fun _ _ _ _ _ => True) (fun _ U o U' => ∃ v L, o = .returned v ∧ (Q_chat Z x ta kb cd z vs i cc k k2 m1 G1 G3 h0 n0) v U'.heap L ∧ FrameEnd U o U' L ({ frames := 4, cells := 0, slots := 0, locals := 53 } : Room).cells ({ frames := 4, cells := 0, slots := 0, locals := 53 } : Room).slots) := by
 refine MetFree.of_bodySF (plainFor_of_name pn_1) hisR ?_
 intro p e s m args below meth c s₁ Bd hml0 hP hK
 obtain ⟨rfl, hZ, hHp⟩ := hP
 have hx := Bd.exec
 have D := fun {pc : Nat} {r} (h : decode _ pc = r) => hb Bd.bytes h
 have hml : c.maxLocals = 2 := hml0
 have hown : s.vm.findClass "java/lang/String" = some m.cls := findClass_of_methodNamed Bd.named
 have hnm := (name_of_methodNamed Bd.named Bd.method).1
 have X0 : Stand p l e ({ frames := 4, cells := 0, slots := 0, locals := 53 } : Room) s m #[(.ref x), (.int i)] below meth c s₁ [] 0 0 := Stand.of_body Bd
 have e0 : s₁.heap = h0 := by rw [← hHp, Bd.state]; rfl
 have N0 := Fr.nil n0
 refine ownOut (P := (Q_chat Z x ta kb cd z vs i cc k k2 m1 G1 G3 h0 n0)) ?_
 refine ownBy (A := s₁.setTop (mkF m 0 #[vR x, vI i] [])) (fun t k => castTop (ef_chat m x i) k) ?_
 rcases hR with ⟨ecd, qi, k0, u0, hnl⟩ | ⟨ecd, qi, hz, q0, q1, k0, k1, u0, u1⟩
 ·rw [ecd] at Cs
  refine oTo s₁ (fr_chat m x i 1  [(.ref x)]) (fun t kt => ?_) ?_
  ·refine XS.aloadN X0.here hx rfl (D d15_0) rfl rfl ?_
   exact kt
  obtain ⟨cq21, kq21, q21a, q21b, q21c⟩ := isOf hZ e0 Es
  obtain ⟨vv21, _, ⟨T21, L21, k21, n21⟩, -, X21, ⟨Lc21, hQ21, l21, y21, z21⟩, st21⟩ := X0.virtualBack hx (y := yM11) (z := yM11) hown (mvT hZ (Wd90 hw)) (mvT hZ (Wd91 hw)) (notFace_of_selects (args := #[]) (mvT hZ (Wd93 hw))) (mvT hZ (Wd93 hw)) (mvT hZ (Wd92 hw)) (by decide) (backOf (W := 0) (c_isl0 l Z a0 hw [] x G1 h0 n0 Z0 Es Cs O2 P5 X00) hZ (Wd94 hw) (Wd9 hw) (by decide) (by decide)) q21a q21c (g := (fr_chat m x i 1  [(.ref x)])) rfl (by rw [hml]; rfl) (Steps.refl _) (argsL := []) (rest := []) (lenOf pd_18 rfl) rfl (by show 2 * 0 + _ ≤ _; exact Nat.le_of_eq rfl) (D d15_1) (fun _ _ => ⟨rfl, e0, (by decide : 0 + 0 ≤ _), (by decide : 0 + 0 ≤ _)⟩)
  dsimp only [Pt.U, Pt.locs, Pt.cells, Pt.slots] at X21 l21 y21 z21 st21 hQ21
  subst l21 y21 z21
  obtain ⟨rfl, Nq21, Eq21⟩ := hQ21
  have N22 := Fr.app N0 Nq21
  obtain ⟨Lh23, Xh23, Nh23⟩ := oHd 0 0 X21 N22 rfl rfl
  refine ownSt st21 ?_
  clear st21
  show oA p e below _ T21 (fr_chat m x i 4  [(iV 1)])
  refine oTo T21 (fr_chat m x i 8  [(.ref x)]) (fun t kt => ?_) ?_
  ·refine XS.ifNo Xh23.here hx rfl (D d15_4) rfl ((if0 _ _).trans (feq ((by decide) : ¬ ((1 : Int32) = (0 : Int32)))).1) ?_
   refine XS.aloadN Xh23.here hx rfl (D d15_7) rfl rfl ?_
   exact kt
  refine own_getF Xh23 hx hZ hown (host := "") (Or.inl (Wd27 hw)) Via.refl Eq21 Vs (D d15_8) (fun T24 X24 e24 => ?_)
  refine oTo T24 (fr_chat m x i 12  [(.int i), (.ref ta)]) (fun t kt => ?_) ?_
  ·refine XS.iloadN X24.here hx rfl (D d15_11) rfl ?_
   exact kt
  obtain ⟨vv25, _, ⟨T25, L25, k25, n25⟩, -, X25, ⟨Lc25, hQ25, l25, y25, z25⟩, st25⟩ := Jvm.LawKit.callS X24 hx (y := yM16) hown (mvT hZ (Wd95 hw)) (mvT hZ (Wd96 hw)) (mvT hZ (Wd97 hw)) (mvT hZ (Wd98 hw)) (by decide) (backOf (W := 0) (c_l1c l Z a0 hw [] ta kb z vs i cc k G3 h0 n0 Z0 Ks qi k0 u0 hnl hc O4 rG3 X00) hZ (Wd98 hw) (Wd97 hw) (by decide) (by decide)) (g := (fr_chat m x i 12  [(.int i), (.ref ta)])) rfl (by rw [hml]; rfl) (argsL := [(.ref ta), (.int i)]) (rest := []) (lenOf pd_9 rfl) rfl (by show 2 * 0 + _ ≤ _; exact Nat.le_of_eq rfl) (D d15_12) (fun _ _ => ⟨rfl, e24, (by decide : 0 + 0 ≤ _), (by decide : 0 + 0 ≤ _)⟩)
  dsimp only [Pt.U, Pt.locs, Pt.cells, Pt.slots] at X25 l25 y25 z25 st25 hQ25
  subst l25 y25 z25
  obtain ⟨rfl, Nq25, Eq25⟩ := hQ25
  have N26 := Fr.app Nh23 Nq25
  obtain ⟨Lh27, Xh27, Nh27⟩ := oHd 0 0 X25 N26 rfl rfl
  refine ownBy st25 ?_
  clear st25
  show oA p e below _ T25 (fr_chat m x i 15  [(.int cc)])
  refine ownRet Xh27 Bd.notSynchronized (v := some (.int (nar .char cc))) (fun h => by rw [Bd.returns] at h; cases h) ?_ (oLe rfl) (oLe rfl) (fun fs hr => retN Xh27 hx (t := .char) Bd.returns (by simp) (D d15_15) hr)
  show (Q_chat Z x ta kb cd z vs i cc k k2 m1 G1 G3 h0 n0) (some (.int (nar .char cc))) T25.heap _
  rw [Eq25]
  refine ⟨?_, Nh27, rfl⟩
  rw [own_c16 hc]
 ·rw [ecd] at Cs
  refine oTo s₁ (fr_chat m x i 1  [(.ref x)]) (fun t kt => ?_) ?_
  ·refine XS.aloadN X0.here hx rfl (D d15_0) rfl rfl ?_
   exact kt
  obtain ⟨cq28, kq28, q28a, q28b, q28c⟩ := isOf hZ e0 Es
  obtain ⟨vv28, _, ⟨T28, L28, k28, n28⟩, -, X28, ⟨Lc28, hQ28, l28, y28, z28⟩, st28⟩ := X0.virtualBack hx (y := yM11) (z := yM11) hown (mvT hZ (Wd90 hw)) (mvT hZ (Wd91 hw)) (notFace_of_selects (args := #[]) (mvT hZ (Wd93 hw))) (mvT hZ (Wd93 hw)) (mvT hZ (Wd92 hw)) (by decide) (backOf (W := 0) (c_isl1 l Z a0 hw [] x G1 h0 n0 Z0 Es Cs O2 P5 X00) hZ (Wd94 hw) (Wd9 hw) (by decide) (by decide)) q28a q28c (g := (fr_chat m x i 1  [(.ref x)])) rfl (by rw [hml]; rfl) (Steps.refl _) (argsL := []) (rest := []) (lenOf pd_18 rfl) rfl (by show 2 * 0 + _ ≤ _; exact Nat.le_of_eq rfl) (D d15_1) (fun _ _ => ⟨rfl, e0, (by decide : 0 + 0 ≤ _), (by decide : 0 + 0 ≤ _)⟩)
  dsimp only [Pt.U, Pt.locs, Pt.cells, Pt.slots] at X28 l28 y28 z28 st28 hQ28
  subst l28 y28 z28
  obtain ⟨rfl, Nq28, Eq28⟩ := hQ28
  have N29 := Fr.app N0 Nq28
  obtain ⟨Lh30, Xh30, Nh30⟩ := oHd 0 0 X28 N29 rfl rfl
  refine ownSt st28 ?_
  clear st28
  show oA p e below _ T28 (fr_chat m x i 4  [(iV 0)])
  refine oTo T28 (fr_chat m x i 17  [(.ref x)]) (fun t kt => ?_) ?_
  ·refine XS.ifYes Xh30.here hx rfl (pc0 := 4) (pc' := 16) rfl (D d15_4) rfl ((if0 _ _).trans (teq ((by decide) : (0 : Int32) = (0 : Int32))).1) (by decide) (by decide) ?_
   refine XS.aloadN Xh30.here hx rfl (D d15_16) rfl rfl ?_
   exact kt
  refine own_getF Xh30 hx hZ hown (host := "") (Or.inl (Wd27 hw)) Via.refl Eq28 Vs (D d15_17) (fun T31 X31 e31 => ?_)
  refine oTo T31 (fr_chat m x i 21  [(.int i), (.ref ta)]) (fun t kt => ?_) ?_
  ·refine XS.iloadN X31.here hx rfl (D d15_20) rfl ?_
   exact kt
  obtain ⟨vv32, _, ⟨T32, L32, k32, n32⟩, -, X32, ⟨Lc32, hQ32, l32, y32, z32⟩, st32⟩ := Jvm.LawKit.callS X31 hx (y := yM18) hown (mvT hZ (Wd150 hw)) (mvT hZ (Wd151 hw)) (mvT hZ (Wd74 hw)) (mvT hZ (Wd152 hw)) (by decide) (backOf (W := 0) (c_u1c l Z a0 hw [] ta kb z vs i cc k2 m1 G3 h0 n0 Z0 Ks hz qi q0 q1 k0 k1 u0 u1 hc SA SHI SLO O4 rG3 X00) hZ (Wd152 hw) (Wd74 hw) (by decide) (by decide)) (g := (fr_chat m x i 21  [(.int i), (.ref ta)])) rfl (by rw [hml]; rfl) (argsL := [(.ref ta), (.int i)]) (rest := []) (lenOf pd_9 rfl) rfl (by show 2 * 0 + _ ≤ _; exact Nat.le_of_eq rfl) (D d15_21) (fun _ _ => ⟨rfl, e31, (by decide : 0 + 0 ≤ _), (by decide : 0 + 0 ≤ _)⟩)
  dsimp only [Pt.U, Pt.locs, Pt.cells, Pt.slots] at X32 l32 y32 z32 st32 hQ32
  subst l32 y32 z32
  obtain ⟨rfl, Nq32, Eq32⟩ := hQ32
  have N33 := Fr.app Nh30 Nq32
  obtain ⟨Lh34, Xh34, Nh34⟩ := oHd 0 0 X32 N33 rfl rfl
  refine ownBy st32 ?_
  clear st32
  show oA p e below _ T32 (fr_chat m x i 24  [(.int cc)])
  refine ownRet Xh34 Bd.notSynchronized (v := some (.int (nar .char cc))) (fun h => by rw [Bd.returns] at h; cases h) ?_ (oLe rfl) (oLe rfl) (fun fs hr => retN Xh34 hx (t := .char) Bd.returns (by simp) (D d15_24) hr)
  show (Q_chat Z x ta kb cd z vs i cc k k2 m1 G1 G3 h0 n0) (some (.int (nar .char cc))) T32.heap _
  rw [Eq32]
  refine ⟨?_, Nh34, rfl⟩
  rw [own_c16 hc]
abbrev fr_rd0 (m : MethodId) (x : Addr) (PA : Addr) (pc : Nat)  (st : List Value) : JFrame := mkF m pc #[vR x, vR PA, vI 0, .unset] st
def Q_rd0 (Z : State) (x : Addr) (ta : Addr) (kb : ClassId) (cd : Int32) (z : Int32) (vs : List Value) (PA : Addr) (AA : Addr) (MA : Addr) (HS : Addr) (H2 : Addr) (PG : Addr) (SQ : Addr) (EM : Addr) (EL : Addr) (kM : ClassId) (kE : ClassId) (ms : List Value) (G1 : Int32) (G3 : Value) (h0 : Heap) (n0 : Nat) (v : Option Value) (h : Heap) (L : List Loc) : Prop := Fr n0 L ∧ h = h0 ∧ (((False) ∧ v = some (.ref AA)) ∨ (¬ (False) ∧ v = some (.ref PA)))
theorem ef_rd0 (m : MethodId) (x0 : Addr)  : entryFrame m #[(.ref x0)] 4 = mkF m 0 #[vR x0, .unset, .unset, .unset] [] := by first | (simp [entryFrame, mkF, argsToLocals, Value.category]; done) | rfl
set_option maxRecDepth 65536 in
set_option maxHeartbeats 40000000 in
theorem c_rd0 (l : Launch) (Z : State) (a0 : Array Value) (hw : HW a0 Z) (ws : List Jvm.Cond) (x : Addr) (ta : Addr) (kb : ClassId) (cd : Int32) (z : Int32) (vs : List Value) (PA : Addr) (AA : Addr) (MA : Addr) (HS : Addr) (H2 : Addr) (PG : Addr) (SQ : Addr) (EM : Addr) (EL : Addr) (kM : ClassId) (kE : ClassId) (ms : List Value) (G1 : Int32) (G3 : Value) (h0 : Heap) (n0 : Nat) (Z0 : n0 ≤ h0.size) (Es : Exa Z h0 x "java/lang/String") (Vs : Fld Z h0 x "java/lang/String" "value" "[B" (.ref ta)) (Cs : Fld Z h0 x "java/lang/String" "coder" "B" (.int cd)) (Ks : Arv Z h0 ta kb .byte z vs (iV 0)) (hrel : cd = (0 : Int32) ∧ z = (0 : Int32) ∧ vs = []) (hWd : World Z PA AA MA HS H2 PG SQ EM EL kM kE ms) (O2 : Sta Z Z.heap "java/lang/String" "COMPACT_STRINGS" "Z" (.int G1)) (P5 : ¬ (G1 = (0 : Int32))) (SA : Sta Z Z.heap "java/lang/StringUTF16" "$assertionsDisabled" "Z" (iV 1)) (SHI : Sta Z Z.heap "java/lang/StringUTF16" "HI_BYTE_SHIFT" "I" (iV 0)) (SLO : Sta Z Z.heap "java/lang/StringUTF16" "LO_BYTE_SHIFT" "I" (iV 8)) (O4 : Sta Z Z.heap "jdk/internal/util/Preconditions" "SIOOBE_FORMATTER" "Ljava/util/function/BiFunction;" G3) (rG3 : G3.isRef = true) (X00 : Old Z n0 h0) :
  MetFree l yM20 (head1 (Jvm.Cond.code yM20 prog_14_method_4_code 4 (some (.object "java/util/List")) :: ws) ({ frames := 5, cells := 0, slots := 0, locals := 66 } : Room)) (fun a U => a = #[(.ref x)] ∧ Z.Warmed39 U.vm ∧ U.heap = h0) (fun _ _ _ _ _ => True) (fun _ U o U' => ∃ v L, o = .returned v ∧ (Q_rd0 Z x ta kb cd z vs PA AA MA HS H2 PG SQ EM EL kM kE ms G1 G3 h0 n0) v U'.heap L ∧ FrameEnd U o U' L ({ frames := 5, cells := 0, slots := 0, locals := 66 } : Room).cells ({ frames := 5, cells := 0, slots := 0, locals := 66 } : Room).slots) := by
 refine MetFree.of_bodySF (plainFor_of_name pn_19) hisR ?_
 intro p e s m args below meth c s₁ Bd hml0 hP hK
 obtain ⟨rfl, hZ, hHp⟩ := hP
 have hx := Bd.exec
 have D := fun {pc : Nat} {r} (h : decode _ pc = r) => hb Bd.bytes h
 have hml : c.maxLocals = 4 := hml0
 have hown : s.vm.findClass "com/example/savepoint/savepoint/SqlDialect" = some m.cls := findClass_of_methodNamed Bd.named
 have hnm := (name_of_methodNamed Bd.named Bd.method).1
 have X0 : Stand p l e ({ frames := 5, cells := 0, slots := 0, locals := 66 } : Room) s m #[(.ref x)] below meth c s₁ [] 0 0 := Stand.of_body Bd
 have e0 : s₁.heap = h0 := by rw [← hHp, Bd.state]; rfl
 have N0 := Fr.nil n0
 refine ownOut (P := (Q_rd0 Z x ta kb cd z vs PA AA MA HS H2 PG SQ EM EL kM kE ms G1 G3 h0 n0)) ?_
 refine ownBy (A := s₁.setTop (mkF m 0 #[vR x, .unset, .unset, .unset] [])) (fun t k => castTop (ef_rd0 m x) k) ?_
 have hWe := hWd
 obtain ⟨SPL, SAL, SMK, SHS, SH2, SPG, SSQ, SEM, EPA, EAA, FE1, FE0, FEL, KEL, KMA, hMA, hPA⟩ := hWe
 refine own_getS X0 hx hZ hown (host := "") (Or.inl (Wd33 hw)) Via.refl e0 (SPL.ext X00.2) (D d6_0) (fun T21 X21 e21 => ?_)
 refine oTo T21 (fr_rd0 m x PA 7  [(.ref PA)]) (fun t kt => ?_) ?_
 ·refine XS.astoreN X21.here hx rfl (D d6_3) rfl rfl (l' := #[vR x, vR PA, .unset, .unset]) rfl ?_
  refine XS.iconst X21.here hx rfl (D d6_4) ?_
  refine XS.istoreN X21.here hx rfl (D d6_5) rfl (l' := #[vR x, vR PA, vI 0, .unset]) rfl ?_
  refine XS.aloadN X21.here hx rfl (D d6_6) rfl rfl ?_
  exact kt
 refine own_getS X21 hx hZ hown (host := "") (Or.inl (Wd33 hw)) Via.refl e21 (SPL.ext X00.2) (D d6_7) (fun T22 X22 e22 => ?_)
 refine oTo T22 (fr_rd0 m x PA 15  [(.ref x), (iV 0)]) (fun t kt => ?_) ?_
 ·refine Jvm.RoadKit.acmp (g := (fr_rd0 m x PA 10  [(.ref PA), (.ref PA)])) X22 hx rfl rfl rfl (pc0 := 10) (pc' := 13) (same := true) rfl (D d6_10) rfl (decide_eq_true rfl) (by decide) (by decide) ?_
  refine XS.iloadN X22.here hx rfl (D d6_13) rfl ?_
  refine XS.aloadN X22.here hx rfl (D d6_14) rfl rfl ?_
  exact kt
 obtain ⟨cq23, kq23, q23a, q23b, q23c⟩ := isOf hZ e22 Es
 obtain ⟨vv23, _, ⟨T23, L23, k23, n23⟩, -, X23, ⟨Lc23, hQ23, l23, y23, z23⟩, st23⟩ := X22.virtualBack hx (y := yM12) (z := yM12) hown (mvT hZ (Wd35 hw)) (mvT hZ (Wd36 hw)) (notFace_of_selects (args := #[]) (mvT hZ (Wd38 hw))) (mvT hZ (Wd38 hw)) (mvT hZ (Wd37 hw)) (by decide) (backOf (W := 1) (c_leng l Z a0 hw [] x ta kb cd z vs (0 : Int32) G1 h0 n0 Z0 Es Vs Cs Ks (Or.inl ⟨hrel.1, by rw [hrel.2.1]; decide +kernel⟩) O2 P5 X00) hZ (Wd39 hw) (Wd9 hw) (by decide) (by decide)) q23a q23c (g := (fr_rd0 m x PA 15  [(.ref x), (iV 0)])) rfl (by rw [hml]; rfl) (Steps.refl _) (argsL := []) (rest := [(iV 0)]) (lenOf pd_20 rfl) rfl (by show 2 * 0 + _ ≤ _; exact Nat.le_of_eq rfl) (D d6_15) (fun _ _ => ⟨rfl, e22, (by decide : 0 + 0 ≤ _), (by decide : 0 + 0 ≤ _)⟩)
 dsimp only [Pt.U, Pt.locs, Pt.cells, Pt.slots] at X23 l23 y23 z23 st23 hQ23
 subst l23 y23 z23
 obtain ⟨rfl, Nq23, Eq23⟩ := hQ23
 have N24 := Fr.app N0 Nq23
 obtain ⟨Lh25, Xh25, Nh25⟩ := oHd 0 0 X23 N24 rfl rfl
 refine ownSt st23 ?_
 clear st23
 show oA p e below _ T23 (fr_rd0 m x PA 18  [(iV 0), (iV 0)])
 refine oTo T23 (fr_rd0 m x PA 54  [(.ref PA)]) (fun t kt => ?_) ?_
 ·refine XS.icmpYes Xh25.here hx rfl (pc0 := 18) (pc' := 53) rfl (D d6_18) rfl (flt ((by decide) : ¬ ((0 : Int32) < (0 : Int32)))).2.1 (by decide) (by decide) ?_
  refine XS.aloadN Xh25.here hx rfl (D d6_53) rfl rfl ?_
  exact kt
 refine ownRet Xh25 Bd.notSynchronized (v := some (.ref PA)) (fun h => by rw [Bd.returns] at h; cases h) ?_ (oLe rfl) (oLe rfl) (fun fs hr => retOut Xh25 hx Bd.returns rfl (Or.inr (Or.inr (Or.inr (Or.inr ⟨rfl, rfl, rfl⟩)))) (D d6_54) hr)
 show (Q_rd0 Z x ta kb cd z vs PA AA MA HS H2 PG SQ EM EL kM kE ms G1 G3 h0 n0) (some (.ref PA)) T23.heap _
 rw [Eq23]
 exact ⟨Nh25, rfl, Or.inr ⟨(fun q => q), rfl⟩⟩
abbrev fr_rd1 (m : MethodId) (x : Addr) (pc : Nat) (x1_ x2_ x3_ : Slot) (st : List Value) : JFrame := mkF m pc #[vR x, x1_, x2_, x3_] st
def Q_rd1 (Z : State) (x : Addr) (ta : Addr) (kb : ClassId) (cd : Int32) (z : Int32) (vs : List Value) (c0 : Int32) (PA : Addr) (AA : Addr) (MA : Addr) (HS : Addr) (H2 : Addr) (PG : Addr) (SQ : Addr) (EM : Addr) (EL : Addr) (kM : ClassId) (kE : ClassId) (ms : List Value) (G1 : Int32) (G3 : Value) (h0 : Heap) (n0 : Nat) (v : Option Value) (h : Heap) (L : List Loc) : Prop := Fr n0 L ∧ h = h0 ∧ ((((Mk c0)) ∧ v = some (.ref AA)) ∨ (¬ ((Mk c0)) ∧ v = some (.ref PA)))
theorem ef_rd1 (m : MethodId) (x0 : Addr)  : entryFrame m #[(.ref x0)] 4 = mkF m 0 #[vR x0, .unset, .unset, .unset] [] := by first | (simp [entryFrame, mkF, argsToLocals, Value.category]; done) | rfl
set_option maxRecDepth 65536 in
set_option maxHeartbeats 40000000 in
theorem c_rd1 (l : Launch) (Z : State) (a0 : Array Value) (hw : HW a0 Z) (ws : List Jvm.Cond) (x : Addr) (ta : Addr) (kb : ClassId) (cd : Int32) (z : Int32) (vs : List Value) (c0 : Int32) (PA : Addr) (AA : Addr) (MA : Addr) (HS : Addr) (H2 : Addr) (PG : Addr) (SQ : Addr) (EM : Addr) (EL : Addr) (kM : ClassId) (kE : ClassId) (ms : List Value) (G1 : Int32) (G3 : Value) (h0 : Heap) (n0 : Nat) (Z0 : n0 ≤ h0.size) (Es : Exa Z h0 x "java/lang/String") (Vs : Fld Z h0 x "java/lang/String" "value" "[B" (.ref ta)) (Cs : Fld Z h0 x "java/lang/String" "coder" "B" (.int cd)) (Ks : Arv Z h0 ta kb .byte z vs (iV 0)) (hrel : ((cd = (0 : Int32) ∧ z = (1 : Int32) ∧ vs = [(.int (oL c0))] ∧ ¬ ((255 : Int32) < c0)) ∨ (cd = (1 : Int32) ∧ z = (2 : Int32) ∧ vs = [(.int (oW c0)), (.int (oH c0))] ∧ ((255 : Int32) < c0)))) (hc0 : ¬ c0 < 0 ∧ ¬ (65535 : Int32) < c0) (hWd : World Z PA AA MA HS H2 PG SQ EM EL kM kE ms) (O2 : Sta Z Z.heap "java/lang/String" "COMPACT_STRINGS" "Z" (.int G1)) (P5 : ¬ (G1 = (0 : Int32))) (SA : Sta Z Z.heap "java/lang/StringUTF16" "$assertionsDisabled" "Z" (iV 1)) (SHI : Sta Z Z.heap "java/lang/StringUTF16" "HI_BYTE_SHIFT" "I" (iV 0)) (SLO : Sta Z Z.heap "java/lang/StringUTF16" "LO_BYTE_SHIFT" "I" (iV 8)) (O4 : Sta Z Z.heap "jdk/internal/util/Preconditions" "SIOOBE_FORMATTER" "Ljava/util/function/BiFunction;" G3) (rG3 : G3.isRef = true) (X00 : Old Z n0 h0) :
  MetFree l yM20 (head1 (Jvm.Cond.code yM20 prog_14_method_4_code 4 (some (.object "java/util/List")) :: ws) ({ frames := 5, cells := 0, slots := 0, locals := 66 } : Room)) (fun a U => a = #[(.ref x)] ∧ Z.Warmed39 U.vm ∧ U.heap = h0) (fun _ _ _ _ _ => True) (fun _ U o U' => ∃ v L, o = .returned v ∧ (Q_rd1 Z x ta kb cd z vs c0 PA AA MA HS H2 PG SQ EM EL kM kE ms G1 G3 h0 n0) v U'.heap L ∧ FrameEnd U o U' L ({ frames := 5, cells := 0, slots := 0, locals := 66 } : Room).cells ({ frames := 5, cells := 0, slots := 0, locals := 66 } : Room).slots) := by
 refine MetFree.of_bodySF (plainFor_of_name pn_19) hisR ?_
 intro p e s m args below meth c s₁ Bd hml0 hP hK
 obtain ⟨rfl, hZ, hHp⟩ := hP
 have hx := Bd.exec
 have D := fun {pc : Nat} {r} (h : decode _ pc = r) => hb Bd.bytes h
 have hml : c.maxLocals = 4 := hml0
 have hown : s.vm.findClass "com/example/savepoint/savepoint/SqlDialect" = some m.cls := findClass_of_methodNamed Bd.named
 have hnm := (name_of_methodNamed Bd.named Bd.method).1
 have X0 : Stand p l e ({ frames := 5, cells := 0, slots := 0, locals := 66 } : Room) s m #[(.ref x)] below meth c s₁ [] 0 0 := Stand.of_body Bd
 have e0 : s₁.heap = h0 := by rw [← hHp, Bd.state]; rfl
 have N0 := Fr.nil n0
 refine ownOut (P := (Q_rd1 Z x ta kb cd z vs c0 PA AA MA HS H2 PG SQ EM EL kM kE ms G1 G3 h0 n0)) ?_
 refine ownBy (A := s₁.setTop (mkF m 0 #[vR x, .unset, .unset, .unset] [])) (fun t k => castTop (ef_rd1 m x) k) ?_
 have hWe := hWd
 obtain ⟨SPL, SAL, SMK, SHS, SH2, SPG, SSQ, SEM, EPA, EAA, FE1, FE0, FEL, KEL, KMA, hMA, hPA⟩ := hWe
 refine own_getS X0 hx hZ hown (host := "") (Or.inl (Wd33 hw)) Via.refl e0 (SPL.ext X00.2) (D d6_0) (fun T21 X21 e21 => ?_)
 refine oTo T21 (fr_rd1 m x 7 (vR PA) (vI 0) .unset [(.ref PA)]) (fun t kt => ?_) ?_
 ·refine XS.astoreN X21.here hx rfl (D d6_3) rfl rfl (l' := #[vR x, vR PA, .unset, .unset]) rfl ?_
  refine XS.iconst X21.here hx rfl (D d6_4) ?_
  refine XS.istoreN X21.here hx rfl (D d6_5) rfl (l' := #[vR x, vR PA, vI 0, .unset]) rfl ?_
  refine XS.aloadN X21.here hx rfl (D d6_6) rfl rfl ?_
  exact kt
 refine own_getS X21 hx hZ hown (host := "") (Or.inl (Wd33 hw)) Via.refl e21 (SPL.ext X00.2) (D d6_7) (fun T22 X22 e22 => ?_)
 refine oTo T22 (fr_rd1 m x 15 (vR PA) (vI 0) .unset [(.ref x), (iV 0)]) (fun t kt => ?_) ?_
 ·refine Jvm.RoadKit.acmp (g := (fr_rd1 m x 10 (vR PA) (vI 0) .unset [(.ref PA), (.ref PA)])) X22 hx rfl rfl rfl (pc0 := 10) (pc' := 13) (same := true) rfl (D d6_10) rfl (decide_eq_true rfl) (by decide) (by decide) ?_
  refine XS.iloadN X22.here hx rfl (D d6_13) rfl ?_
  refine XS.aloadN X22.here hx rfl (D d6_14) rfl rfl ?_
  exact kt
 have hL23 : (cd = (0 : Int32) ∧ (z >>> ((0 : Int32) &&& 31)) = (1 : Int32)) ∨ (cd = (1 : Int32) ∧ (z >>> ((1 : Int32) &&& 31)) = (1 : Int32)) := by
  rcases hrel with ⟨h1, h2, -⟩ | ⟨h1, h2, -⟩
  ·exact Or.inl ⟨h1, by rw [h2]; decide +kernel⟩
  ·exact Or.inr ⟨h1, by rw [h2]; decide +kernel⟩
 obtain ⟨cq24, kq24, q24a, q24b, q24c⟩ := isOf hZ e22 Es
 obtain ⟨vv24, _, ⟨T24, L24, k24, n24⟩, -, X24, ⟨Lc24, hQ24, l24, y24, z24⟩, st24⟩ := X22.virtualBack hx (y := yM12) (z := yM12) hown (mvT hZ (Wd35 hw)) (mvT hZ (Wd36 hw)) (notFace_of_selects (args := #[]) (mvT hZ (Wd38 hw))) (mvT hZ (Wd38 hw)) (mvT hZ (Wd37 hw)) (by decide) (backOf (W := 1) (c_leng l Z a0 hw [] x ta kb cd z vs (1 : Int32) G1 h0 n0 Z0 Es Vs Cs Ks hL23 O2 P5 X00) hZ (Wd39 hw) (Wd9 hw) (by decide) (by decide)) q24a q24c (g := (fr_rd1 m x 15 (vR PA) (vI 0) .unset [(.ref x), (iV 0)])) rfl (by rw [hml]; rfl) (Steps.refl _) (argsL := []) (rest := [(iV 0)]) (lenOf pd_20 rfl) rfl (by show 2 * 0 + _ ≤ _; exact Nat.le_of_eq rfl) (D d6_15) (fun _ _ => ⟨rfl, e22, (by decide : 0 + 0 ≤ _), (by decide : 0 + 0 ≤ _)⟩)
 dsimp only [Pt.U, Pt.locs, Pt.cells, Pt.slots] at X24 l24 y24 z24 st24 hQ24
 subst l24 y24 z24
 obtain ⟨rfl, Nq24, Eq24⟩ := hQ24
 have N25 := Fr.app N0 Nq24
 obtain ⟨Lh26, Xh26, Nh26⟩ := oHd 0 0 X24 N25 rfl rfl
 refine ownSt st24 ?_
 clear st24
 show oA p e below _ T24 (fr_rd1 m x 18 (vR PA) (vI 0) .unset [(iV 1), (iV 0)])
 refine oTo T24 (fr_rd1 m x 23 (vR PA) (vI 0) .unset [(iV 0), (.ref x)]) (fun t kt => ?_) ?_
 ·refine XS.icmpNo Xh26.here hx rfl (D d6_18) rfl (tlt ((by decide) : (0 : Int32) < (1 : Int32))).2.1 ?_
  refine XS.aloadN Xh26.here hx rfl (D d6_21) rfl rfl ?_
  refine XS.iloadN Xh26.here hx rfl (D d6_22) rfl ?_
  exact kt
 have hR27 : (cd = (0 : Int32) ∧ (¬ (0 : Int32) < (0 : Int32) ∧ (0 : Int32) < z) ∧ (0 : Int32).toNatClampNeg = 0 ∧ vs.getD 0 (iV 0) = .int (oL c0) ∧ ¬ ((255 : Int32) < c0)) ∨ (cd = (1 : Int32) ∧ (¬ (0 : Int32) < (0 : Int32) ∧ (0 : Int32) < (1 : Int32)) ∧ (z >>> ((1 : Int32) &&& 31)) = (1 : Int32) ∧ (¬ ((0 : Int32) <<< ((1 : Int32) &&& 31)) < 0 ∧ ((0 : Int32) <<< ((1 : Int32) &&& 31)) < z) ∧ (¬ (((0 : Int32) <<< ((1 : Int32) &&& 31)) + (1 : Int32)) < 0 ∧ (((0 : Int32) <<< ((1 : Int32) &&& 31)) + (1 : Int32)) < z) ∧ ((0 : Int32) <<< ((1 : Int32) &&& 31)).toNatClampNeg = 0 ∧ (((0 : Int32) <<< ((1 : Int32) &&& 31)) + (1 : Int32)).toNatClampNeg = 0 + 1 ∧ vs.getD 0 (iV 0) = .int (oW c0) ∧ vs.getD (0 + 1) (iV 0) = .int (oH c0)) := by
  rcases hrel with ⟨h1, h2, h3, g0⟩ | ⟨h1, h2, h3, -⟩
  ·exact Or.inl ⟨h1, by rw [h2]; decide +kernel, rfl, by rw [h3]; rfl, g0⟩
  ·exact Or.inr ⟨h1, by decide +kernel, by rw [h2]; decide +kernel, by rw [h2]; decide +kernel, by rw [h2]; decide +kernel, by decide +kernel, by decide +kernel, by rw [h3]; rfl, by rw [h3]; rfl⟩
 obtain ⟨cq28, kq28, q28a, q28b, q28c⟩ := isOf hZ Eq24 Es
 obtain ⟨vv28, _, ⟨T28, L28, k28, n28⟩, -, X28, ⟨Lc28, hQ28, l28, y28, z28⟩, st28⟩ := Xh26.virtualBack hx (y := yM19) (z := yM19) hown (mvT hZ (Wd85 hw)) (mvT hZ (Wd86 hw)) (notFace_of_selects (args := #[]) (mvT hZ (Wd88 hw))) (mvT hZ (Wd88 hw)) (mvT hZ (Wd87 hw)) (by decide) (backOf (W := 0) (c_chat l Z a0 hw [] x ta kb cd z vs (0 : Int32) c0 0 0 (1 : Int32) G1 G3 h0 n0 Z0 Es Vs Cs Ks hc0 hR27 O2 P5 SA SHI SLO O4 rG3 X00) hZ (Wd89 hw) (Wd9 hw) (by decide) (by decide)) q28a q28c (g := (fr_rd1 m x 23 (vR PA) (vI 0) .unset [(iV 0), (.ref x)])) rfl (by rw [hml]; rfl) (Steps.refl _) (argsL := [(iV 0)]) (rest := []) (lenOf pd_21 rfl) rfl (by show 2 * 0 + _ ≤ _; exact Nat.le_of_eq rfl) (D d6_23) (fun _ _ => ⟨rfl, Eq24, (by decide : 0 + 0 ≤ _), (by decide : 0 + 0 ≤ _)⟩)
 dsimp only [Pt.U, Pt.locs, Pt.cells, Pt.slots] at X28 l28 y28 z28 st28 hQ28
 subst l28 y28 z28
 obtain ⟨rfl, Nq28, Eq28⟩ := hQ28
 have N29 := Fr.app Nh26 Nq28
 obtain ⟨Lh30, Xh30, Nh30⟩ := oHd 0 0 X28 N29 rfl rfl
 refine ownSt st28 ?_
 clear st28
 show oA p e below _ T28 (fr_rd1 m x 26 (vR PA) (vI 0) .unset [(.int c0)])
 refine oTo T28 (fr_rd1 m x 27 (vR PA) (vI 0) (vI c0) []) (fun t kt => ?_) ?_
 ·refine XS.istoreN Xh30.here hx rfl (D d6_26) rfl (l' := #[vR x, vR PA, vI 0, vI c0]) rfl ?_
  exact kt
 have rest0 : ∀ (T : State) (Lx : List Loc), Stand p l e ({ frames := 5, cells := 0, slots := 0, locals := 66 } : Room) s m #[(.ref x)] below meth c T Lx 0 0 → Fr n0 Lx → T.heap = h0 → ¬ (Mk c0) → ownG p.tables e below (ownE s below (Q_rd1 Z x ta kb cd z vs c0 PA AA MA HS H2 PG SQ EM EL kM kE ms G1 G3 h0 n0) ({ frames := 5, cells := 0, slots := 0, locals := 66 } : Room).cells ({ frames := 5, cells := 0, slots := 0, locals := 66 } : Room).slots) (T.setTop (fr_rd1 m x 47 (vR PA) (vI 0) (vI c0) [])) := by
  intro T31 L31 X31 N31 e31 hN0
  refine oTo T31 (fr_rd1 m x 7 (vR PA) (vI 1) (vI c0) [(.ref PA)]) (fun t kt => ?_) ?_
  ·refine XS.iinc X31.here hx rfl (D d6_47) rfl (l' := #[vR x, vR PA, vI 1, vI c0]) rfl ?_
   refine XS.goto X31.here hx rfl (pc0 := 50) (pc' := 6) rfl (D d6_50) (by decide) (by decide) ?_
   refine XS.aloadN X31.here hx rfl (D d6_6) rfl rfl ?_
   exact kt
  refine own_getS X31 hx hZ hown (host := "") (Or.inl (Wd33 hw)) Via.refl e31 (SPL.ext X00.2) (D d6_7) (fun T32 X32 e32 => ?_)
  refine oTo T32 (fr_rd1 m x 15 (vR PA) (vI 1) (vI c0) [(.ref x), (iV 1)]) (fun t kt => ?_) ?_
  ·refine Jvm.RoadKit.acmp (g := (fr_rd1 m x 10 (vR PA) (vI 1) (vI c0) [(.ref PA), (.ref PA)])) X32 hx rfl rfl rfl (pc0 := 10) (pc' := 13) (same := true) rfl (D d6_10) rfl (decide_eq_true rfl) (by decide) (by decide) ?_
   refine XS.iloadN X32.here hx rfl (D d6_13) rfl ?_
   refine XS.aloadN X32.here hx rfl (D d6_14) rfl rfl ?_
   exact kt
  have hL33 : (cd = (0 : Int32) ∧ (z >>> ((0 : Int32) &&& 31)) = (1 : Int32)) ∨ (cd = (1 : Int32) ∧ (z >>> ((1 : Int32) &&& 31)) = (1 : Int32)) := by
   rcases hrel with ⟨h1, h2, -⟩ | ⟨h1, h2, -⟩
   ·exact Or.inl ⟨h1, by rw [h2]; decide +kernel⟩
   ·exact Or.inr ⟨h1, by rw [h2]; decide +kernel⟩
  obtain ⟨cq34, kq34, q34a, q34b, q34c⟩ := isOf hZ e32 Es
  obtain ⟨vv34, _, ⟨T34, L34, k34, n34⟩, -, X34, ⟨Lc34, hQ34, l34, y34, z34⟩, st34⟩ := X32.virtualBack hx (y := yM12) (z := yM12) hown (mvT hZ (Wd35 hw)) (mvT hZ (Wd36 hw)) (notFace_of_selects (args := #[]) (mvT hZ (Wd38 hw))) (mvT hZ (Wd38 hw)) (mvT hZ (Wd37 hw)) (by decide) (backOf (W := 1) (c_leng l Z a0 hw [] x ta kb cd z vs (1 : Int32) G1 h0 n0 Z0 Es Vs Cs Ks hL33 O2 P5 X00) hZ (Wd39 hw) (Wd9 hw) (by decide) (by decide)) q34a q34c (g := (fr_rd1 m x 15 (vR PA) (vI 1) (vI c0) [(.ref x), (iV 1)])) rfl (by rw [hml]; rfl) (Steps.refl _) (argsL := []) (rest := [(iV 1)]) (lenOf pd_20 rfl) rfl (by show 2 * 0 + _ ≤ _; exact Nat.le_of_eq rfl) (D d6_15) (fun _ _ => ⟨rfl, e32, (by decide : 0 + 0 ≤ _), (by decide : 0 + 0 ≤ _)⟩)
  dsimp only [Pt.U, Pt.locs, Pt.cells, Pt.slots] at X34 l34 y34 z34 st34 hQ34
  subst l34 y34 z34
  obtain ⟨rfl, Nq34, Eq34⟩ := hQ34
  have N35 := Fr.app N31 Nq34
  obtain ⟨Lh36, Xh36, Nh36⟩ := oHd 0 0 X34 N35 rfl rfl
  refine ownSt st34 ?_
  clear st34
  show oA p e below _ T34 (fr_rd1 m x 18 (vR PA) (vI 1) (vI c0) [(iV 1), (iV 1)])
  refine oTo T34 (fr_rd1 m x 54 (vR PA) (vI 1) (vI c0) [(.ref PA)]) (fun t kt => ?_) ?_
  ·refine XS.icmpYes Xh36.here hx rfl (pc0 := 18) (pc' := 53) rfl (D d6_18) rfl (flt ((by decide) : ¬ ((1 : Int32) < (1 : Int32)))).2.1 (by decide) (by decide) ?_
   refine XS.aloadN Xh36.here hx rfl (D d6_53) rfl rfl ?_
   exact kt
  refine ownRet Xh36 Bd.notSynchronized (v := some (.ref PA)) (fun h => by rw [Bd.returns] at h; cases h) ?_ (oLe rfl) (oLe rfl) (fun fs hr => retOut Xh36 hx Bd.returns rfl (Or.inr (Or.inr (Or.inr (Or.inr ⟨rfl, rfl, rfl⟩)))) (D d6_54) hr)
  show (Q_rd1 Z x ta kb cd z vs c0 PA AA MA HS H2 PG SQ EM EL kM kE ms G1 G3 h0 n0) (some (.ref PA)) T34.heap _
  rw [Eq34]
  exact ⟨Nh36, rfl, Or.inr ⟨hN0, rfl⟩⟩
 by_cases hM0 : Mk c0
 ·skip
  have hl0 := own_mk_lt hM0
  refine oTo T28 (fr_rd1 m x 28 (vR PA) (vI 0) (vI c0) [(.int c0)]) (fun t kt => ?_) ?_
  ·refine XS.iloadN Xh30.here hx rfl (D d6_27) rfl ?_
   exact kt
  refine own_getS Xh30 hx hZ hown (host := "") (Or.inl (Wd107 hw)) Via.refl Eq28 (SMK.ext X00.2) (D d6_28) (fun T37 X37 e37 => ?_)
  have f38 := KMA.ext X00.2
  obtain ⟨cl39, Ar39, -, S39, N39, -, -⟩ := id f38
  have st39 := X37.arraylength hx (by rw [e37]; exact Ar39.1) (State.isArrayOf_alike hZ.alike Ar39.2.1) (g := (fr_rd1 m x 31 (vR PA) (vI 0) (vI c0) [(.ref MA), (.int c0)])) rfl rfl (D d6_31)
  rw [len_of S39 N39] at st39
  refine ownBy st39 ?_
  show oA p e below _ T37 (fr_rd1 m x 32 (vR PA) (vI 0) (vI c0) [(iV 128), (.int c0)])
  refine oTo T37 (fr_rd1 m x 35 (vR PA) (vI 0) (vI c0) []) (fun t kt => ?_) ?_
  ·refine XS.icmpNo X37.here hx rfl (D d6_32) rfl (tlt hl0).2.1 ?_
   exact kt
  refine own_getS X37 hx hZ hown (host := "") (Or.inl (Wd107 hw)) Via.refl e37 (SMK.ext X00.2) (D d6_35) (fun T40 X40 e40 => ?_)
  refine oTo T40 (fr_rd1 m x 39 (vR PA) (vI 0) (vI c0) [(.int c0), (.ref MA)]) (fun t kt => ?_) ?_
  ·refine XS.iloadN X40.here hx rfl (D d6_38) rfl ?_
   exact kt
  obtain ⟨cl41, Ar41, q41, S41, N41, H41, G41⟩ := id f38
  have hin41 : ¬ (c0 < 0 ∨ cl41.slots.size ≤ (c0).toNatClampNeg) := inb_of S41 ⟨hc0.1, hl0⟩
  have hat41 : cl41.slots[(c0).toNatClampNeg]? = some (.int (own_b (Mk c0))) := H41.at hin41 (hMA _ hc0.1 hl0)
  have st41 := X40.baloadBooleans hx (j := c0) (v := (.int (own_b (Mk c0)))) (by rw [e40]; exact Ar41.1) (State.isArrayOf_alike hZ.alike Ar41.2.1) Ar41.2.2 hin41 hat41 (g := (fr_rd1 m x 39 (vR PA) (vI 0) (vI c0) [(.int c0), (.ref MA)])) rfl rfl (D d6_39)
  refine ownBy st41 ?_
  show oA p e below _ T40 (fr_rd1 m x 40 (vR PA) (vI 0) (vI c0) [(.int (own_b (Mk c0)))])
  refine oTo T40 (fr_rd1 m x 43 (vR PA) (vI 0) (vI c0) []) (fun t kt => ?_) ?_
  ·refine XS.ifNo X40.here hx rfl (D d6_40) rfl ((if0 _ _).trans (feq (own_bt0 hM0)).1) ?_
   exact kt
  refine own_getS X40 hx hZ hown (host := "") (Or.inl (Wd109 hw)) Via.refl e40 (SAL.ext X00.2) (D d6_43) (fun T42 X42 e42 => ?_)
  refine oTo T42 (fr_rd1 m x 7 (vR AA) (vI 1) (vI c0) [(.ref AA)]) (fun t kt => ?_) ?_
  ·refine XS.astoreN X42.here hx rfl (D d6_46) rfl rfl (l' := #[vR x, vR AA, vI 0, vI c0]) rfl ?_
   refine XS.iinc X42.here hx rfl (D d6_47) rfl (l' := #[vR x, vR AA, vI 1, vI c0]) rfl ?_
   refine XS.goto X42.here hx rfl (pc0 := 50) (pc' := 6) rfl (D d6_50) (by decide) (by decide) ?_
   refine XS.aloadN X42.here hx rfl (D d6_6) rfl rfl ?_
   exact kt
  refine own_getS X42 hx hZ hown (host := "") (Or.inl (Wd33 hw)) Via.refl e42 (SPL.ext X00.2) (D d6_7) (fun T43 X43 e43 => ?_)
  refine oTo T43 (fr_rd1 m x 54 (vR AA) (vI 1) (vI c0) [(.ref AA)]) (fun t kt => ?_) ?_
  ·refine Jvm.RoadKit.acmp (g := (fr_rd1 m x 10 (vR AA) (vI 1) (vI c0) [(.ref PA), (.ref AA)])) X43 hx rfl rfl rfl (pc0 := 10) (pc' := 53) (same := false) rfl (D d6_10) rfl (decide_eq_false fun q => (Ne.symm hPA) (Value.ref.inj q)) (by decide) (by decide) ?_
   refine XS.aloadN X43.here hx rfl (D d6_53) rfl rfl ?_
   exact kt
  refine ownRet X43 Bd.notSynchronized (v := some (.ref AA)) (fun h => by rw [Bd.returns] at h; cases h) ?_ (oLe rfl) (oLe rfl) (fun fs hr => retOut X43 hx Bd.returns rfl (Or.inr (Or.inr (Or.inr (Or.inr ⟨rfl, rfl, rfl⟩)))) (D d6_54) hr)
  show (Q_rd1 Z x ta kb cd z vs c0 PA AA MA HS H2 PG SQ EM EL kM kE ms G1 G3 h0 n0) (some (.ref AA)) T43.heap _
  rw [e43]
  exact ⟨Nh30, rfl, Or.inl ⟨hM0, rfl⟩⟩
 ·skip
  by_cases hl0 : c0 < (128 : Int32)
  ·skip
   refine oTo T28 (fr_rd1 m x 28 (vR PA) (vI 0) (vI c0) [(.int c0)]) (fun t kt => ?_) ?_
   ·refine XS.iloadN Xh30.here hx rfl (D d6_27) rfl ?_
    exact kt
   refine own_getS Xh30 hx hZ hown (host := "") (Or.inl (Wd107 hw)) Via.refl Eq28 (SMK.ext X00.2) (D d6_28) (fun T44 X44 e44 => ?_)
   have f45 := KMA.ext X00.2
   obtain ⟨cl46, Ar46, -, S46, N46, -, -⟩ := id f45
   have st46 := X44.arraylength hx (by rw [e44]; exact Ar46.1) (State.isArrayOf_alike hZ.alike Ar46.2.1) (g := (fr_rd1 m x 31 (vR PA) (vI 0) (vI c0) [(.ref MA), (.int c0)])) rfl rfl (D d6_31)
   rw [len_of S46 N46] at st46
   refine ownBy st46 ?_
   show oA p e below _ T44 (fr_rd1 m x 32 (vR PA) (vI 0) (vI c0) [(iV 128), (.int c0)])
   refine oTo T44 (fr_rd1 m x 35 (vR PA) (vI 0) (vI c0) []) (fun t kt => ?_) ?_
   ·refine XS.icmpNo X44.here hx rfl (D d6_32) rfl (tlt hl0).2.1 ?_
    exact kt
   refine own_getS X44 hx hZ hown (host := "") (Or.inl (Wd107 hw)) Via.refl e44 (SMK.ext X00.2) (D d6_35) (fun T47 X47 e47 => ?_)
   refine oTo T47 (fr_rd1 m x 39 (vR PA) (vI 0) (vI c0) [(.int c0), (.ref MA)]) (fun t kt => ?_) ?_
   ·refine XS.iloadN X47.here hx rfl (D d6_38) rfl ?_
    exact kt
   obtain ⟨cl48, Ar48, q48, S48, N48, H48, G48⟩ := id f45
   have hin48 : ¬ (c0 < 0 ∨ cl48.slots.size ≤ (c0).toNatClampNeg) := inb_of S48 ⟨hc0.1, hl0⟩
   have hat48 : cl48.slots[(c0).toNatClampNeg]? = some (.int (own_b (Mk c0))) := H48.at hin48 (hMA _ hc0.1 hl0)
   have st48 := X47.baloadBooleans hx (j := c0) (v := (.int (own_b (Mk c0)))) (by rw [e47]; exact Ar48.1) (State.isArrayOf_alike hZ.alike Ar48.2.1) Ar48.2.2 hin48 hat48 (g := (fr_rd1 m x 39 (vR PA) (vI 0) (vI c0) [(.int c0), (.ref MA)])) rfl rfl (D d6_39)
   refine ownBy st48 ?_
   show oA p e below _ T47 (fr_rd1 m x 40 (vR PA) (vI 0) (vI c0) [(.int (own_b (Mk c0)))])
   refine oTo T47 (fr_rd1 m x 47 (vR PA) (vI 0) (vI c0) []) (fun t kt => ?_) ?_
   ·refine XS.ifYes X47.here hx rfl (pc0 := 40) (pc' := 47) rfl (D d6_40) rfl ((if0 _ _).trans (teq (own_bf0 hM0)).1) (by decide) (by decide) ?_
    exact kt
   exact rest0 _ _ X47 Nh30 e47 hM0
  ·skip
   refine oTo T28 (fr_rd1 m x 28 (vR PA) (vI 0) (vI c0) [(.int c0)]) (fun t kt => ?_) ?_
   ·refine XS.iloadN Xh30.here hx rfl (D d6_27) rfl ?_
    exact kt
   refine own_getS Xh30 hx hZ hown (host := "") (Or.inl (Wd107 hw)) Via.refl Eq28 (SMK.ext X00.2) (D d6_28) (fun T49 X49 e49 => ?_)
   have f50 := KMA.ext X00.2
   obtain ⟨cl51, Ar51, -, S51, N51, -, -⟩ := id f50
   have st51 := X49.arraylength hx (by rw [e49]; exact Ar51.1) (State.isArrayOf_alike hZ.alike Ar51.2.1) (g := (fr_rd1 m x 31 (vR PA) (vI 0) (vI c0) [(.ref MA), (.int c0)])) rfl rfl (D d6_31)
   rw [len_of S51 N51] at st51
   refine ownBy st51 ?_
   show oA p e below _ T49 (fr_rd1 m x 32 (vR PA) (vI 0) (vI c0) [(iV 128), (.int c0)])
   refine oTo T49 (fr_rd1 m x 47 (vR PA) (vI 0) (vI c0) []) (fun t kt => ?_) ?_
   ·refine XS.icmpYes X49.here hx rfl (pc0 := 32) (pc' := 47) rfl (D d6_32) rfl (flt hl0).2.1 (by decide) (by decide) ?_
    exact kt
   exact rest0 _ _ X49 Nh30 e49 hM0
abbrev fr_rd2 (m : MethodId) (x : Addr) (pc : Nat) (x1_ x2_ x3_ : Slot) (st : List Value) : JFrame := mkF m pc #[vR x, x1_, x2_, x3_] st
def Q_rd2 (Z : State) (x : Addr) (ta : Addr) (kb : ClassId) (cd : Int32) (z : Int32) (vs : List Value) (c0 : Int32) (c1 : Int32) (PA : Addr) (AA : Addr) (MA : Addr) (HS : Addr) (H2 : Addr) (PG : Addr) (SQ : Addr) (EM : Addr) (EL : Addr) (kM : ClassId) (kE : ClassId) (ms : List Value) (G1 : Int32) (G3 : Value) (h0 : Heap) (n0 : Nat) (v : Option Value) (h : Heap) (L : List Loc) : Prop := Fr n0 L ∧ h = h0 ∧ ((((Mk c0) ∨ (Mk c1)) ∧ v = some (.ref AA)) ∨ (¬ ((Mk c0) ∨ (Mk c1)) ∧ v = some (.ref PA)))
theorem ef_rd2 (m : MethodId) (x0 : Addr)  : entryFrame m #[(.ref x0)] 4 = mkF m 0 #[vR x0, .unset, .unset, .unset] [] := by first | (simp [entryFrame, mkF, argsToLocals, Value.category]; done) | rfl
set_option maxRecDepth 65536 in
set_option maxHeartbeats 40000000 in
theorem c_rd2 (l : Launch) (Z : State) (a0 : Array Value) (hw : HW a0 Z) (ws : List Jvm.Cond) (x : Addr) (ta : Addr) (kb : ClassId) (cd : Int32) (z : Int32) (vs : List Value) (c0 : Int32) (c1 : Int32) (PA : Addr) (AA : Addr) (MA : Addr) (HS : Addr) (H2 : Addr) (PG : Addr) (SQ : Addr) (EM : Addr) (EL : Addr) (kM : ClassId) (kE : ClassId) (ms : List Value) (G1 : Int32) (G3 : Value) (h0 : Heap) (n0 : Nat) (Z0 : n0 ≤ h0.size) (Es : Exa Z h0 x "java/lang/String") (Vs : Fld Z h0 x "java/lang/String" "value" "[B" (.ref ta)) (Cs : Fld Z h0 x "java/lang/String" "coder" "B" (.int cd)) (Ks : Arv Z h0 ta kb .byte z vs (iV 0)) (hrel : ((cd = (0 : Int32) ∧ z = (2 : Int32) ∧ vs = [(.int (oL c0)), (.int (oL c1))] ∧ ¬ ((255 : Int32) < c0) ∧ ¬ ((255 : Int32) < c1)) ∨ (cd = (1 : Int32) ∧ z = (4 : Int32) ∧ vs = [(.int (oW c0)), (.int (oH c0)), (.int (oW c1)), (.int (oH c1))] ∧ ((255 : Int32) < c0 ∨ (255 : Int32) < c1)))) (hc0 : ¬ c0 < 0 ∧ ¬ (65535 : Int32) < c0) (hc1 : ¬ c1 < 0 ∧ ¬ (65535 : Int32) < c1) (hWd : World Z PA AA MA HS H2 PG SQ EM EL kM kE ms) (O2 : Sta Z Z.heap "java/lang/String" "COMPACT_STRINGS" "Z" (.int G1)) (P5 : ¬ (G1 = (0 : Int32))) (SA : Sta Z Z.heap "java/lang/StringUTF16" "$assertionsDisabled" "Z" (iV 1)) (SHI : Sta Z Z.heap "java/lang/StringUTF16" "HI_BYTE_SHIFT" "I" (iV 0)) (SLO : Sta Z Z.heap "java/lang/StringUTF16" "LO_BYTE_SHIFT" "I" (iV 8)) (O4 : Sta Z Z.heap "jdk/internal/util/Preconditions" "SIOOBE_FORMATTER" "Ljava/util/function/BiFunction;" G3) (rG3 : G3.isRef = true) (X00 : Old Z n0 h0) :
  MetFree l yM20 (head1 (Jvm.Cond.code yM20 prog_14_method_4_code 4 (some (.object "java/util/List")) :: ws) ({ frames := 5, cells := 0, slots := 0, locals := 66 } : Room)) (fun a U => a = #[(.ref x)] ∧ Z.Warmed39 U.vm ∧ U.heap = h0) (fun _ _ _ _ _ => True) (fun _ U o U' => ∃ v L, o = .returned v ∧ (Q_rd2 Z x ta kb cd z vs c0 c1 PA AA MA HS H2 PG SQ EM EL kM kE ms G1 G3 h0 n0) v U'.heap L ∧ FrameEnd U o U' L ({ frames := 5, cells := 0, slots := 0, locals := 66 } : Room).cells ({ frames := 5, cells := 0, slots := 0, locals := 66 } : Room).slots) := by
 refine MetFree.of_bodySF (plainFor_of_name pn_19) hisR ?_
 intro p e s m args below meth c s₁ Bd hml0 hP hK
 obtain ⟨rfl, hZ, hHp⟩ := hP
 have hx := Bd.exec
 have D := fun {pc : Nat} {r} (h : decode _ pc = r) => hb Bd.bytes h
 have hml : c.maxLocals = 4 := hml0
 have hown : s.vm.findClass "com/example/savepoint/savepoint/SqlDialect" = some m.cls := findClass_of_methodNamed Bd.named
 have hnm := (name_of_methodNamed Bd.named Bd.method).1
 have X0 : Stand p l e ({ frames := 5, cells := 0, slots := 0, locals := 66 } : Room) s m #[(.ref x)] below meth c s₁ [] 0 0 := Stand.of_body Bd
 have e0 : s₁.heap = h0 := by rw [← hHp, Bd.state]; rfl
 have N0 := Fr.nil n0
 refine ownOut (P := (Q_rd2 Z x ta kb cd z vs c0 c1 PA AA MA HS H2 PG SQ EM EL kM kE ms G1 G3 h0 n0)) ?_
 refine ownBy (A := s₁.setTop (mkF m 0 #[vR x, .unset, .unset, .unset] [])) (fun t k => castTop (ef_rd2 m x) k) ?_
 have hWe := hWd
 obtain ⟨SPL, SAL, SMK, SHS, SH2, SPG, SSQ, SEM, EPA, EAA, FE1, FE0, FEL, KEL, KMA, hMA, hPA⟩ := hWe
 refine own_getS X0 hx hZ hown (host := "") (Or.inl (Wd33 hw)) Via.refl e0 (SPL.ext X00.2) (D d6_0) (fun T21 X21 e21 => ?_)
 refine oTo T21 (fr_rd2 m x 7 (vR PA) (vI 0) .unset [(.ref PA)]) (fun t kt => ?_) ?_
 ·refine XS.astoreN X21.here hx rfl (D d6_3) rfl rfl (l' := #[vR x, vR PA, .unset, .unset]) rfl ?_
  refine XS.iconst X21.here hx rfl (D d6_4) ?_
  refine XS.istoreN X21.here hx rfl (D d6_5) rfl (l' := #[vR x, vR PA, vI 0, .unset]) rfl ?_
  refine XS.aloadN X21.here hx rfl (D d6_6) rfl rfl ?_
  exact kt
 refine own_getS X21 hx hZ hown (host := "") (Or.inl (Wd33 hw)) Via.refl e21 (SPL.ext X00.2) (D d6_7) (fun T22 X22 e22 => ?_)
 refine oTo T22 (fr_rd2 m x 15 (vR PA) (vI 0) .unset [(.ref x), (iV 0)]) (fun t kt => ?_) ?_
 ·refine Jvm.RoadKit.acmp (g := (fr_rd2 m x 10 (vR PA) (vI 0) .unset [(.ref PA), (.ref PA)])) X22 hx rfl rfl rfl (pc0 := 10) (pc' := 13) (same := true) rfl (D d6_10) rfl (decide_eq_true rfl) (by decide) (by decide) ?_
  refine XS.iloadN X22.here hx rfl (D d6_13) rfl ?_
  refine XS.aloadN X22.here hx rfl (D d6_14) rfl rfl ?_
  exact kt
 have hL23 : (cd = (0 : Int32) ∧ (z >>> ((0 : Int32) &&& 31)) = (2 : Int32)) ∨ (cd = (1 : Int32) ∧ (z >>> ((1 : Int32) &&& 31)) = (2 : Int32)) := by
  rcases hrel with ⟨h1, h2, -⟩ | ⟨h1, h2, -⟩
  ·exact Or.inl ⟨h1, by rw [h2]; decide +kernel⟩
  ·exact Or.inr ⟨h1, by rw [h2]; decide +kernel⟩
 obtain ⟨cq24, kq24, q24a, q24b, q24c⟩ := isOf hZ e22 Es
 obtain ⟨vv24, _, ⟨T24, L24, k24, n24⟩, -, X24, ⟨Lc24, hQ24, l24, y24, z24⟩, st24⟩ := X22.virtualBack hx (y := yM12) (z := yM12) hown (mvT hZ (Wd35 hw)) (mvT hZ (Wd36 hw)) (notFace_of_selects (args := #[]) (mvT hZ (Wd38 hw))) (mvT hZ (Wd38 hw)) (mvT hZ (Wd37 hw)) (by decide) (backOf (W := 1) (c_leng l Z a0 hw [] x ta kb cd z vs (2 : Int32) G1 h0 n0 Z0 Es Vs Cs Ks hL23 O2 P5 X00) hZ (Wd39 hw) (Wd9 hw) (by decide) (by decide)) q24a q24c (g := (fr_rd2 m x 15 (vR PA) (vI 0) .unset [(.ref x), (iV 0)])) rfl (by rw [hml]; rfl) (Steps.refl _) (argsL := []) (rest := [(iV 0)]) (lenOf pd_20 rfl) rfl (by show 2 * 0 + _ ≤ _; exact Nat.le_of_eq rfl) (D d6_15) (fun _ _ => ⟨rfl, e22, (by decide : 0 + 0 ≤ _), (by decide : 0 + 0 ≤ _)⟩)
 dsimp only [Pt.U, Pt.locs, Pt.cells, Pt.slots] at X24 l24 y24 z24 st24 hQ24
 subst l24 y24 z24
 obtain ⟨rfl, Nq24, Eq24⟩ := hQ24
 have N25 := Fr.app N0 Nq24
 obtain ⟨Lh26, Xh26, Nh26⟩ := oHd 0 0 X24 N25 rfl rfl
 refine ownSt st24 ?_
 clear st24
 show oA p e below _ T24 (fr_rd2 m x 18 (vR PA) (vI 0) .unset [(iV 2), (iV 0)])
 refine oTo T24 (fr_rd2 m x 23 (vR PA) (vI 0) .unset [(iV 0), (.ref x)]) (fun t kt => ?_) ?_
 ·refine XS.icmpNo Xh26.here hx rfl (D d6_18) rfl (tlt ((by decide) : (0 : Int32) < (2 : Int32))).2.1 ?_
  refine XS.aloadN Xh26.here hx rfl (D d6_21) rfl rfl ?_
  refine XS.iloadN Xh26.here hx rfl (D d6_22) rfl ?_
  exact kt
 have hR27 : (cd = (0 : Int32) ∧ (¬ (0 : Int32) < (0 : Int32) ∧ (0 : Int32) < z) ∧ (0 : Int32).toNatClampNeg = 0 ∧ vs.getD 0 (iV 0) = .int (oL c0) ∧ ¬ ((255 : Int32) < c0)) ∨ (cd = (1 : Int32) ∧ (¬ (0 : Int32) < (0 : Int32) ∧ (0 : Int32) < (2 : Int32)) ∧ (z >>> ((1 : Int32) &&& 31)) = (2 : Int32) ∧ (¬ ((0 : Int32) <<< ((1 : Int32) &&& 31)) < 0 ∧ ((0 : Int32) <<< ((1 : Int32) &&& 31)) < z) ∧ (¬ (((0 : Int32) <<< ((1 : Int32) &&& 31)) + (1 : Int32)) < 0 ∧ (((0 : Int32) <<< ((1 : Int32) &&& 31)) + (1 : Int32)) < z) ∧ ((0 : Int32) <<< ((1 : Int32) &&& 31)).toNatClampNeg = 0 ∧ (((0 : Int32) <<< ((1 : Int32) &&& 31)) + (1 : Int32)).toNatClampNeg = 0 + 1 ∧ vs.getD 0 (iV 0) = .int (oW c0) ∧ vs.getD (0 + 1) (iV 0) = .int (oH c0)) := by
  rcases hrel with ⟨h1, h2, h3, g0, g1⟩ | ⟨h1, h2, h3, -⟩
  ·exact Or.inl ⟨h1, by rw [h2]; decide +kernel, rfl, by rw [h3]; rfl, g0⟩
  ·exact Or.inr ⟨h1, by decide +kernel, by rw [h2]; decide +kernel, by rw [h2]; decide +kernel, by rw [h2]; decide +kernel, by decide +kernel, by decide +kernel, by rw [h3]; rfl, by rw [h3]; rfl⟩
 obtain ⟨cq28, kq28, q28a, q28b, q28c⟩ := isOf hZ Eq24 Es
 obtain ⟨vv28, _, ⟨T28, L28, k28, n28⟩, -, X28, ⟨Lc28, hQ28, l28, y28, z28⟩, st28⟩ := Xh26.virtualBack hx (y := yM19) (z := yM19) hown (mvT hZ (Wd85 hw)) (mvT hZ (Wd86 hw)) (notFace_of_selects (args := #[]) (mvT hZ (Wd88 hw))) (mvT hZ (Wd88 hw)) (mvT hZ (Wd87 hw)) (by decide) (backOf (W := 0) (c_chat l Z a0 hw [] x ta kb cd z vs (0 : Int32) c0 0 0 (2 : Int32) G1 G3 h0 n0 Z0 Es Vs Cs Ks hc0 hR27 O2 P5 SA SHI SLO O4 rG3 X00) hZ (Wd89 hw) (Wd9 hw) (by decide) (by decide)) q28a q28c (g := (fr_rd2 m x 23 (vR PA) (vI 0) .unset [(iV 0), (.ref x)])) rfl (by rw [hml]; rfl) (Steps.refl _) (argsL := [(iV 0)]) (rest := []) (lenOf pd_21 rfl) rfl (by show 2 * 0 + _ ≤ _; exact Nat.le_of_eq rfl) (D d6_23) (fun _ _ => ⟨rfl, Eq24, (by decide : 0 + 0 ≤ _), (by decide : 0 + 0 ≤ _)⟩)
 dsimp only [Pt.U, Pt.locs, Pt.cells, Pt.slots] at X28 l28 y28 z28 st28 hQ28
 subst l28 y28 z28
 obtain ⟨rfl, Nq28, Eq28⟩ := hQ28
 have N29 := Fr.app Nh26 Nq28
 obtain ⟨Lh30, Xh30, Nh30⟩ := oHd 0 0 X28 N29 rfl rfl
 refine ownSt st28 ?_
 clear st28
 show oA p e below _ T28 (fr_rd2 m x 26 (vR PA) (vI 0) .unset [(.int c0)])
 refine oTo T28 (fr_rd2 m x 27 (vR PA) (vI 0) (vI c0) []) (fun t kt => ?_) ?_
 ·refine XS.istoreN Xh30.here hx rfl (D d6_26) rfl (l' := #[vR x, vR PA, vI 0, vI c0]) rfl ?_
  exact kt
 have rest0 : ∀ (T : State) (Lx : List Loc), Stand p l e ({ frames := 5, cells := 0, slots := 0, locals := 66 } : Room) s m #[(.ref x)] below meth c T Lx 0 0 → Fr n0 Lx → T.heap = h0 → ¬ (Mk c0) → ownG p.tables e below (ownE s below (Q_rd2 Z x ta kb cd z vs c0 c1 PA AA MA HS H2 PG SQ EM EL kM kE ms G1 G3 h0 n0) ({ frames := 5, cells := 0, slots := 0, locals := 66 } : Room).cells ({ frames := 5, cells := 0, slots := 0, locals := 66 } : Room).slots) (T.setTop (fr_rd2 m x 47 (vR PA) (vI 0) (vI c0) [])) := by
  intro T31 L31 X31 N31 e31 hN0
  refine oTo T31 (fr_rd2 m x 7 (vR PA) (vI 1) (vI c0) [(.ref PA)]) (fun t kt => ?_) ?_
  ·refine XS.iinc X31.here hx rfl (D d6_47) rfl (l' := #[vR x, vR PA, vI 1, vI c0]) rfl ?_
   refine XS.goto X31.here hx rfl (pc0 := 50) (pc' := 6) rfl (D d6_50) (by decide) (by decide) ?_
   refine XS.aloadN X31.here hx rfl (D d6_6) rfl rfl ?_
   exact kt
  refine own_getS X31 hx hZ hown (host := "") (Or.inl (Wd33 hw)) Via.refl e31 (SPL.ext X00.2) (D d6_7) (fun T32 X32 e32 => ?_)
  refine oTo T32 (fr_rd2 m x 15 (vR PA) (vI 1) (vI c0) [(.ref x), (iV 1)]) (fun t kt => ?_) ?_
  ·refine Jvm.RoadKit.acmp (g := (fr_rd2 m x 10 (vR PA) (vI 1) (vI c0) [(.ref PA), (.ref PA)])) X32 hx rfl rfl rfl (pc0 := 10) (pc' := 13) (same := true) rfl (D d6_10) rfl (decide_eq_true rfl) (by decide) (by decide) ?_
   refine XS.iloadN X32.here hx rfl (D d6_13) rfl ?_
   refine XS.aloadN X32.here hx rfl (D d6_14) rfl rfl ?_
   exact kt
  have hL33 : (cd = (0 : Int32) ∧ (z >>> ((0 : Int32) &&& 31)) = (2 : Int32)) ∨ (cd = (1 : Int32) ∧ (z >>> ((1 : Int32) &&& 31)) = (2 : Int32)) := by
   rcases hrel with ⟨h1, h2, -⟩ | ⟨h1, h2, -⟩
   ·exact Or.inl ⟨h1, by rw [h2]; decide +kernel⟩
   ·exact Or.inr ⟨h1, by rw [h2]; decide +kernel⟩
  obtain ⟨cq34, kq34, q34a, q34b, q34c⟩ := isOf hZ e32 Es
  obtain ⟨vv34, _, ⟨T34, L34, k34, n34⟩, -, X34, ⟨Lc34, hQ34, l34, y34, z34⟩, st34⟩ := X32.virtualBack hx (y := yM12) (z := yM12) hown (mvT hZ (Wd35 hw)) (mvT hZ (Wd36 hw)) (notFace_of_selects (args := #[]) (mvT hZ (Wd38 hw))) (mvT hZ (Wd38 hw)) (mvT hZ (Wd37 hw)) (by decide) (backOf (W := 1) (c_leng l Z a0 hw [] x ta kb cd z vs (2 : Int32) G1 h0 n0 Z0 Es Vs Cs Ks hL33 O2 P5 X00) hZ (Wd39 hw) (Wd9 hw) (by decide) (by decide)) q34a q34c (g := (fr_rd2 m x 15 (vR PA) (vI 1) (vI c0) [(.ref x), (iV 1)])) rfl (by rw [hml]; rfl) (Steps.refl _) (argsL := []) (rest := [(iV 1)]) (lenOf pd_20 rfl) rfl (by show 2 * 0 + _ ≤ _; exact Nat.le_of_eq rfl) (D d6_15) (fun _ _ => ⟨rfl, e32, (by decide : 0 + 0 ≤ _), (by decide : 0 + 0 ≤ _)⟩)
  dsimp only [Pt.U, Pt.locs, Pt.cells, Pt.slots] at X34 l34 y34 z34 st34 hQ34
  subst l34 y34 z34
  obtain ⟨rfl, Nq34, Eq34⟩ := hQ34
  have N35 := Fr.app N31 Nq34
  obtain ⟨Lh36, Xh36, Nh36⟩ := oHd 0 0 X34 N35 rfl rfl
  refine ownSt st34 ?_
  clear st34
  show oA p e below _ T34 (fr_rd2 m x 18 (vR PA) (vI 1) (vI c0) [(iV 2), (iV 1)])
  refine oTo T34 (fr_rd2 m x 23 (vR PA) (vI 1) (vI c0) [(iV 1), (.ref x)]) (fun t kt => ?_) ?_
  ·refine XS.icmpNo Xh36.here hx rfl (D d6_18) rfl (tlt ((by decide) : (1 : Int32) < (2 : Int32))).2.1 ?_
   refine XS.aloadN Xh36.here hx rfl (D d6_21) rfl rfl ?_
   refine XS.iloadN Xh36.here hx rfl (D d6_22) rfl ?_
   exact kt
  have hR37 : (cd = (0 : Int32) ∧ (¬ (1 : Int32) < (0 : Int32) ∧ (1 : Int32) < z) ∧ (1 : Int32).toNatClampNeg = 1 ∧ vs.getD 1 (iV 0) = .int (oL c1) ∧ ¬ ((255 : Int32) < c1)) ∨ (cd = (1 : Int32) ∧ (¬ (1 : Int32) < (0 : Int32) ∧ (1 : Int32) < (2 : Int32)) ∧ (z >>> ((1 : Int32) &&& 31)) = (2 : Int32) ∧ (¬ ((1 : Int32) <<< ((1 : Int32) &&& 31)) < 0 ∧ ((1 : Int32) <<< ((1 : Int32) &&& 31)) < z) ∧ (¬ (((1 : Int32) <<< ((1 : Int32) &&& 31)) + (1 : Int32)) < 0 ∧ (((1 : Int32) <<< ((1 : Int32) &&& 31)) + (1 : Int32)) < z) ∧ ((1 : Int32) <<< ((1 : Int32) &&& 31)).toNatClampNeg = 2 ∧ (((1 : Int32) <<< ((1 : Int32) &&& 31)) + (1 : Int32)).toNatClampNeg = 2 + 1 ∧ vs.getD 2 (iV 0) = .int (oW c1) ∧ vs.getD (2 + 1) (iV 0) = .int (oH c1)) := by
   rcases hrel with ⟨h1, h2, h3, g0, g1⟩ | ⟨h1, h2, h3, -⟩
   ·exact Or.inl ⟨h1, by rw [h2]; decide +kernel, rfl, by rw [h3]; rfl, g1⟩
   ·exact Or.inr ⟨h1, by decide +kernel, by rw [h2]; decide +kernel, by rw [h2]; decide +kernel, by rw [h2]; decide +kernel, by decide +kernel, by decide +kernel, by rw [h3]; rfl, by rw [h3]; rfl⟩
  obtain ⟨cq38, kq38, q38a, q38b, q38c⟩ := isOf hZ Eq34 Es
  obtain ⟨vv38, _, ⟨T38, L38, k38, n38⟩, -, X38, ⟨Lc38, hQ38, l38, y38, z38⟩, st38⟩ := Xh36.virtualBack hx (y := yM19) (z := yM19) hown (mvT hZ (Wd85 hw)) (mvT hZ (Wd86 hw)) (notFace_of_selects (args := #[]) (mvT hZ (Wd88 hw))) (mvT hZ (Wd88 hw)) (mvT hZ (Wd87 hw)) (by decide) (backOf (W := 0) (c_chat l Z a0 hw [] x ta kb cd z vs (1 : Int32) c1 1 2 (2 : Int32) G1 G3 h0 n0 Z0 Es Vs Cs Ks hc1 hR37 O2 P5 SA SHI SLO O4 rG3 X00) hZ (Wd89 hw) (Wd9 hw) (by decide) (by decide)) q38a q38c (g := (fr_rd2 m x 23 (vR PA) (vI 1) (vI c0) [(iV 1), (.ref x)])) rfl (by rw [hml]; rfl) (Steps.refl _) (argsL := [(iV 1)]) (rest := []) (lenOf pd_21 rfl) rfl (by show 2 * 0 + _ ≤ _; exact Nat.le_of_eq rfl) (D d6_23) (fun _ _ => ⟨rfl, Eq34, (by decide : 0 + 0 ≤ _), (by decide : 0 + 0 ≤ _)⟩)
  dsimp only [Pt.U, Pt.locs, Pt.cells, Pt.slots] at X38 l38 y38 z38 st38 hQ38
  subst l38 y38 z38
  obtain ⟨rfl, Nq38, Eq38⟩ := hQ38
  have N39 := Fr.app Nh36 Nq38
  obtain ⟨Lh40, Xh40, Nh40⟩ := oHd 0 0 X38 N39 rfl rfl
  refine ownSt st38 ?_
  clear st38
  show oA p e below _ T38 (fr_rd2 m x 26 (vR PA) (vI 1) (vI c0) [(.int c1)])
  refine oTo T38 (fr_rd2 m x 27 (vR PA) (vI 1) (vI c1) []) (fun t kt => ?_) ?_
  ·refine XS.istoreN Xh40.here hx rfl (D d6_26) rfl (l' := #[vR x, vR PA, vI 1, vI c1]) rfl ?_
   exact kt
  have rest1 : ∀ (T : State) (Lx : List Loc), Stand p l e ({ frames := 5, cells := 0, slots := 0, locals := 66 } : Room) s m #[(.ref x)] below meth c T Lx 0 0 → Fr n0 Lx → T.heap = h0 → ¬ (Mk c1) → ownG p.tables e below (ownE s below (Q_rd2 Z x ta kb cd z vs c0 c1 PA AA MA HS H2 PG SQ EM EL kM kE ms G1 G3 h0 n0) ({ frames := 5, cells := 0, slots := 0, locals := 66 } : Room).cells ({ frames := 5, cells := 0, slots := 0, locals := 66 } : Room).slots) (T.setTop (fr_rd2 m x 47 (vR PA) (vI 1) (vI c1) [])) := by
   intro T41 L41 X41 N41 e41 hN1
   refine oTo T41 (fr_rd2 m x 7 (vR PA) (vI 2) (vI c1) [(.ref PA)]) (fun t kt => ?_) ?_
   ·refine XS.iinc X41.here hx rfl (D d6_47) rfl (l' := #[vR x, vR PA, vI 2, vI c1]) rfl ?_
    refine XS.goto X41.here hx rfl (pc0 := 50) (pc' := 6) rfl (D d6_50) (by decide) (by decide) ?_
    refine XS.aloadN X41.here hx rfl (D d6_6) rfl rfl ?_
    exact kt
   refine own_getS X41 hx hZ hown (host := "") (Or.inl (Wd33 hw)) Via.refl e41 (SPL.ext X00.2) (D d6_7) (fun T42 X42 e42 => ?_)
   refine oTo T42 (fr_rd2 m x 15 (vR PA) (vI 2) (vI c1) [(.ref x), (iV 2)]) (fun t kt => ?_) ?_
   ·refine Jvm.RoadKit.acmp (g := (fr_rd2 m x 10 (vR PA) (vI 2) (vI c1) [(.ref PA), (.ref PA)])) X42 hx rfl rfl rfl (pc0 := 10) (pc' := 13) (same := true) rfl (D d6_10) rfl (decide_eq_true rfl) (by decide) (by decide) ?_
    refine XS.iloadN X42.here hx rfl (D d6_13) rfl ?_
    refine XS.aloadN X42.here hx rfl (D d6_14) rfl rfl ?_
    exact kt
   have hL43 : (cd = (0 : Int32) ∧ (z >>> ((0 : Int32) &&& 31)) = (2 : Int32)) ∨ (cd = (1 : Int32) ∧ (z >>> ((1 : Int32) &&& 31)) = (2 : Int32)) := by
    rcases hrel with ⟨h1, h2, -⟩ | ⟨h1, h2, -⟩
    ·exact Or.inl ⟨h1, by rw [h2]; decide +kernel⟩
    ·exact Or.inr ⟨h1, by rw [h2]; decide +kernel⟩
   obtain ⟨cq44, kq44, q44a, q44b, q44c⟩ := isOf hZ e42 Es
   obtain ⟨vv44, _, ⟨T44, L44, k44, n44⟩, -, X44, ⟨Lc44, hQ44, l44, y44, z44⟩, st44⟩ := X42.virtualBack hx (y := yM12) (z := yM12) hown (mvT hZ (Wd35 hw)) (mvT hZ (Wd36 hw)) (notFace_of_selects (args := #[]) (mvT hZ (Wd38 hw))) (mvT hZ (Wd38 hw)) (mvT hZ (Wd37 hw)) (by decide) (backOf (W := 1) (c_leng l Z a0 hw [] x ta kb cd z vs (2 : Int32) G1 h0 n0 Z0 Es Vs Cs Ks hL43 O2 P5 X00) hZ (Wd39 hw) (Wd9 hw) (by decide) (by decide)) q44a q44c (g := (fr_rd2 m x 15 (vR PA) (vI 2) (vI c1) [(.ref x), (iV 2)])) rfl (by rw [hml]; rfl) (Steps.refl _) (argsL := []) (rest := [(iV 2)]) (lenOf pd_20 rfl) rfl (by show 2 * 0 + _ ≤ _; exact Nat.le_of_eq rfl) (D d6_15) (fun _ _ => ⟨rfl, e42, (by decide : 0 + 0 ≤ _), (by decide : 0 + 0 ≤ _)⟩)
   dsimp only [Pt.U, Pt.locs, Pt.cells, Pt.slots] at X44 l44 y44 z44 st44 hQ44
   subst l44 y44 z44
   obtain ⟨rfl, Nq44, Eq44⟩ := hQ44
   have N45 := Fr.app N41 Nq44
   obtain ⟨Lh46, Xh46, Nh46⟩ := oHd 0 0 X44 N45 rfl rfl
   refine ownSt st44 ?_
   clear st44
   show oA p e below _ T44 (fr_rd2 m x 18 (vR PA) (vI 2) (vI c1) [(iV 2), (iV 2)])
   refine oTo T44 (fr_rd2 m x 54 (vR PA) (vI 2) (vI c1) [(.ref PA)]) (fun t kt => ?_) ?_
   ·refine XS.icmpYes Xh46.here hx rfl (pc0 := 18) (pc' := 53) rfl (D d6_18) rfl (flt ((by decide) : ¬ ((2 : Int32) < (2 : Int32)))).2.1 (by decide) (by decide) ?_
    refine XS.aloadN Xh46.here hx rfl (D d6_53) rfl rfl ?_
    exact kt
   refine ownRet Xh46 Bd.notSynchronized (v := some (.ref PA)) (fun h => by rw [Bd.returns] at h; cases h) ?_ (oLe rfl) (oLe rfl) (fun fs hr => retOut Xh46 hx Bd.returns rfl (Or.inr (Or.inr (Or.inr (Or.inr ⟨rfl, rfl, rfl⟩)))) (D d6_54) hr)
   show (Q_rd2 Z x ta kb cd z vs c0 c1 PA AA MA HS H2 PG SQ EM EL kM kE ms G1 G3 h0 n0) (some (.ref PA)) T44.heap _
   rw [Eq44]
   exact ⟨Nh46, rfl, Or.inr ⟨(fun q => q.elim hN0 hN1), rfl⟩⟩
  by_cases hM1 : Mk c1
  ·skip
   have hl1 := own_mk_lt hM1
   refine oTo T38 (fr_rd2 m x 28 (vR PA) (vI 1) (vI c1) [(.int c1)]) (fun t kt => ?_) ?_
   ·refine XS.iloadN Xh40.here hx rfl (D d6_27) rfl ?_
    exact kt
   refine own_getS Xh40 hx hZ hown (host := "") (Or.inl (Wd107 hw)) Via.refl Eq38 (SMK.ext X00.2) (D d6_28) (fun T47 X47 e47 => ?_)
   have f48 := KMA.ext X00.2
   obtain ⟨cl49, Ar49, -, S49, N49, -, -⟩ := id f48
   have st49 := X47.arraylength hx (by rw [e47]; exact Ar49.1) (State.isArrayOf_alike hZ.alike Ar49.2.1) (g := (fr_rd2 m x 31 (vR PA) (vI 1) (vI c1) [(.ref MA), (.int c1)])) rfl rfl (D d6_31)
   rw [len_of S49 N49] at st49
   refine ownBy st49 ?_
   show oA p e below _ T47 (fr_rd2 m x 32 (vR PA) (vI 1) (vI c1) [(iV 128), (.int c1)])
   refine oTo T47 (fr_rd2 m x 35 (vR PA) (vI 1) (vI c1) []) (fun t kt => ?_) ?_
   ·refine XS.icmpNo X47.here hx rfl (D d6_32) rfl (tlt hl1).2.1 ?_
    exact kt
   refine own_getS X47 hx hZ hown (host := "") (Or.inl (Wd107 hw)) Via.refl e47 (SMK.ext X00.2) (D d6_35) (fun T50 X50 e50 => ?_)
   refine oTo T50 (fr_rd2 m x 39 (vR PA) (vI 1) (vI c1) [(.int c1), (.ref MA)]) (fun t kt => ?_) ?_
   ·refine XS.iloadN X50.here hx rfl (D d6_38) rfl ?_
    exact kt
   obtain ⟨cl51, Ar51, q51, S51, N51, H51, G51⟩ := id f48
   have hin51 : ¬ (c1 < 0 ∨ cl51.slots.size ≤ (c1).toNatClampNeg) := inb_of S51 ⟨hc1.1, hl1⟩
   have hat51 : cl51.slots[(c1).toNatClampNeg]? = some (.int (own_b (Mk c1))) := H51.at hin51 (hMA _ hc1.1 hl1)
   have st51 := X50.baloadBooleans hx (j := c1) (v := (.int (own_b (Mk c1)))) (by rw [e50]; exact Ar51.1) (State.isArrayOf_alike hZ.alike Ar51.2.1) Ar51.2.2 hin51 hat51 (g := (fr_rd2 m x 39 (vR PA) (vI 1) (vI c1) [(.int c1), (.ref MA)])) rfl rfl (D d6_39)
   refine ownBy st51 ?_
   show oA p e below _ T50 (fr_rd2 m x 40 (vR PA) (vI 1) (vI c1) [(.int (own_b (Mk c1)))])
   refine oTo T50 (fr_rd2 m x 43 (vR PA) (vI 1) (vI c1) []) (fun t kt => ?_) ?_
   ·refine XS.ifNo X50.here hx rfl (D d6_40) rfl ((if0 _ _).trans (feq (own_bt0 hM1)).1) ?_
    exact kt
   refine own_getS X50 hx hZ hown (host := "") (Or.inl (Wd109 hw)) Via.refl e50 (SAL.ext X00.2) (D d6_43) (fun T52 X52 e52 => ?_)
   refine oTo T52 (fr_rd2 m x 7 (vR AA) (vI 2) (vI c1) [(.ref AA)]) (fun t kt => ?_) ?_
   ·refine XS.astoreN X52.here hx rfl (D d6_46) rfl rfl (l' := #[vR x, vR AA, vI 1, vI c1]) rfl ?_
    refine XS.iinc X52.here hx rfl (D d6_47) rfl (l' := #[vR x, vR AA, vI 2, vI c1]) rfl ?_
    refine XS.goto X52.here hx rfl (pc0 := 50) (pc' := 6) rfl (D d6_50) (by decide) (by decide) ?_
    refine XS.aloadN X52.here hx rfl (D d6_6) rfl rfl ?_
    exact kt
   refine own_getS X52 hx hZ hown (host := "") (Or.inl (Wd33 hw)) Via.refl e52 (SPL.ext X00.2) (D d6_7) (fun T53 X53 e53 => ?_)
   refine oTo T53 (fr_rd2 m x 54 (vR AA) (vI 2) (vI c1) [(.ref AA)]) (fun t kt => ?_) ?_
   ·refine Jvm.RoadKit.acmp (g := (fr_rd2 m x 10 (vR AA) (vI 2) (vI c1) [(.ref PA), (.ref AA)])) X53 hx rfl rfl rfl (pc0 := 10) (pc' := 53) (same := false) rfl (D d6_10) rfl (decide_eq_false fun q => (Ne.symm hPA) (Value.ref.inj q)) (by decide) (by decide) ?_
    refine XS.aloadN X53.here hx rfl (D d6_53) rfl rfl ?_
    exact kt
   refine ownRet X53 Bd.notSynchronized (v := some (.ref AA)) (fun h => by rw [Bd.returns] at h; cases h) ?_ (oLe rfl) (oLe rfl) (fun fs hr => retOut X53 hx Bd.returns rfl (Or.inr (Or.inr (Or.inr (Or.inr ⟨rfl, rfl, rfl⟩)))) (D d6_54) hr)
   show (Q_rd2 Z x ta kb cd z vs c0 c1 PA AA MA HS H2 PG SQ EM EL kM kE ms G1 G3 h0 n0) (some (.ref AA)) T53.heap _
   rw [e53]
   exact ⟨Nh40, rfl, Or.inl ⟨Or.inr (hM1), rfl⟩⟩
  ·skip
   by_cases hl1 : c1 < (128 : Int32)
   ·skip
    refine oTo T38 (fr_rd2 m x 28 (vR PA) (vI 1) (vI c1) [(.int c1)]) (fun t kt => ?_) ?_
    ·refine XS.iloadN Xh40.here hx rfl (D d6_27) rfl ?_
     exact kt
    refine own_getS Xh40 hx hZ hown (host := "") (Or.inl (Wd107 hw)) Via.refl Eq38 (SMK.ext X00.2) (D d6_28) (fun T54 X54 e54 => ?_)
    have f55 := KMA.ext X00.2
    obtain ⟨cl56, Ar56, -, S56, N56, -, -⟩ := id f55
    have st56 := X54.arraylength hx (by rw [e54]; exact Ar56.1) (State.isArrayOf_alike hZ.alike Ar56.2.1) (g := (fr_rd2 m x 31 (vR PA) (vI 1) (vI c1) [(.ref MA), (.int c1)])) rfl rfl (D d6_31)
    rw [len_of S56 N56] at st56
    refine ownBy st56 ?_
    show oA p e below _ T54 (fr_rd2 m x 32 (vR PA) (vI 1) (vI c1) [(iV 128), (.int c1)])
    refine oTo T54 (fr_rd2 m x 35 (vR PA) (vI 1) (vI c1) []) (fun t kt => ?_) ?_
    ·refine XS.icmpNo X54.here hx rfl (D d6_32) rfl (tlt hl1).2.1 ?_
     exact kt
    refine own_getS X54 hx hZ hown (host := "") (Or.inl (Wd107 hw)) Via.refl e54 (SMK.ext X00.2) (D d6_35) (fun T57 X57 e57 => ?_)
    refine oTo T57 (fr_rd2 m x 39 (vR PA) (vI 1) (vI c1) [(.int c1), (.ref MA)]) (fun t kt => ?_) ?_
    ·refine XS.iloadN X57.here hx rfl (D d6_38) rfl ?_
     exact kt
    obtain ⟨cl58, Ar58, q58, S58, N58, H58, G58⟩ := id f55
    have hin58 : ¬ (c1 < 0 ∨ cl58.slots.size ≤ (c1).toNatClampNeg) := inb_of S58 ⟨hc1.1, hl1⟩
    have hat58 : cl58.slots[(c1).toNatClampNeg]? = some (.int (own_b (Mk c1))) := H58.at hin58 (hMA _ hc1.1 hl1)
    have st58 := X57.baloadBooleans hx (j := c1) (v := (.int (own_b (Mk c1)))) (by rw [e57]; exact Ar58.1) (State.isArrayOf_alike hZ.alike Ar58.2.1) Ar58.2.2 hin58 hat58 (g := (fr_rd2 m x 39 (vR PA) (vI 1) (vI c1) [(.int c1), (.ref MA)])) rfl rfl (D d6_39)
    refine ownBy st58 ?_
    show oA p e below _ T57 (fr_rd2 m x 40 (vR PA) (vI 1) (vI c1) [(.int (own_b (Mk c1)))])
    refine oTo T57 (fr_rd2 m x 47 (vR PA) (vI 1) (vI c1) []) (fun t kt => ?_) ?_
    ·refine XS.ifYes X57.here hx rfl (pc0 := 40) (pc' := 47) rfl (D d6_40) rfl ((if0 _ _).trans (teq (own_bf0 hM1)).1) (by decide) (by decide) ?_
     exact kt
    exact rest1 _ _ X57 Nh40 e57 hM1
   ·skip
    refine oTo T38 (fr_rd2 m x 28 (vR PA) (vI 1) (vI c1) [(.int c1)]) (fun t kt => ?_) ?_
    ·refine XS.iloadN Xh40.here hx rfl (D d6_27) rfl ?_
     exact kt
    refine own_getS Xh40 hx hZ hown (host := "") (Or.inl (Wd107 hw)) Via.refl Eq38 (SMK.ext X00.2) (D d6_28) (fun T59 X59 e59 => ?_)
    have f60 := KMA.ext X00.2
    obtain ⟨cl61, Ar61, -, S61, N61, -, -⟩ := id f60
    have st61 := X59.arraylength hx (by rw [e59]; exact Ar61.1) (State.isArrayOf_alike hZ.alike Ar61.2.1) (g := (fr_rd2 m x 31 (vR PA) (vI 1) (vI c1) [(.ref MA), (.int c1)])) rfl rfl (D d6_31)
    rw [len_of S61 N61] at st61
    refine ownBy st61 ?_
    show oA p e below _ T59 (fr_rd2 m x 32 (vR PA) (vI 1) (vI c1) [(iV 128), (.int c1)])
    refine oTo T59 (fr_rd2 m x 47 (vR PA) (vI 1) (vI c1) []) (fun t kt => ?_) ?_
    ·refine XS.icmpYes X59.here hx rfl (pc0 := 32) (pc' := 47) rfl (D d6_32) rfl (flt hl1).2.1 (by decide) (by decide) ?_
     exact kt
    exact rest1 _ _ X59 Nh40 e59 hM1
 by_cases hM0 : Mk c0
 ·skip
  have hl0 := own_mk_lt hM0
  refine oTo T28 (fr_rd2 m x 28 (vR PA) (vI 0) (vI c0) [(.int c0)]) (fun t kt => ?_) ?_
  ·refine XS.iloadN Xh30.here hx rfl (D d6_27) rfl ?_
   exact kt
  refine own_getS Xh30 hx hZ hown (host := "") (Or.inl (Wd107 hw)) Via.refl Eq28 (SMK.ext X00.2) (D d6_28) (fun T62 X62 e62 => ?_)
  have f63 := KMA.ext X00.2
  obtain ⟨cl64, Ar64, -, S64, N64, -, -⟩ := id f63
  have st64 := X62.arraylength hx (by rw [e62]; exact Ar64.1) (State.isArrayOf_alike hZ.alike Ar64.2.1) (g := (fr_rd2 m x 31 (vR PA) (vI 0) (vI c0) [(.ref MA), (.int c0)])) rfl rfl (D d6_31)
  rw [len_of S64 N64] at st64
  refine ownBy st64 ?_
  show oA p e below _ T62 (fr_rd2 m x 32 (vR PA) (vI 0) (vI c0) [(iV 128), (.int c0)])
  refine oTo T62 (fr_rd2 m x 35 (vR PA) (vI 0) (vI c0) []) (fun t kt => ?_) ?_
  ·refine XS.icmpNo X62.here hx rfl (D d6_32) rfl (tlt hl0).2.1 ?_
   exact kt
  refine own_getS X62 hx hZ hown (host := "") (Or.inl (Wd107 hw)) Via.refl e62 (SMK.ext X00.2) (D d6_35) (fun T65 X65 e65 => ?_)
  refine oTo T65 (fr_rd2 m x 39 (vR PA) (vI 0) (vI c0) [(.int c0), (.ref MA)]) (fun t kt => ?_) ?_
  ·refine XS.iloadN X65.here hx rfl (D d6_38) rfl ?_
   exact kt
  obtain ⟨cl66, Ar66, q66, S66, N66, H66, G66⟩ := id f63
  have hin66 : ¬ (c0 < 0 ∨ cl66.slots.size ≤ (c0).toNatClampNeg) := inb_of S66 ⟨hc0.1, hl0⟩
  have hat66 : cl66.slots[(c0).toNatClampNeg]? = some (.int (own_b (Mk c0))) := H66.at hin66 (hMA _ hc0.1 hl0)
  have st66 := X65.baloadBooleans hx (j := c0) (v := (.int (own_b (Mk c0)))) (by rw [e65]; exact Ar66.1) (State.isArrayOf_alike hZ.alike Ar66.2.1) Ar66.2.2 hin66 hat66 (g := (fr_rd2 m x 39 (vR PA) (vI 0) (vI c0) [(.int c0), (.ref MA)])) rfl rfl (D d6_39)
  refine ownBy st66 ?_
  show oA p e below _ T65 (fr_rd2 m x 40 (vR PA) (vI 0) (vI c0) [(.int (own_b (Mk c0)))])
  refine oTo T65 (fr_rd2 m x 43 (vR PA) (vI 0) (vI c0) []) (fun t kt => ?_) ?_
  ·refine XS.ifNo X65.here hx rfl (D d6_40) rfl ((if0 _ _).trans (feq (own_bt0 hM0)).1) ?_
   exact kt
  refine own_getS X65 hx hZ hown (host := "") (Or.inl (Wd109 hw)) Via.refl e65 (SAL.ext X00.2) (D d6_43) (fun T67 X67 e67 => ?_)
  refine oTo T67 (fr_rd2 m x 7 (vR AA) (vI 1) (vI c0) [(.ref AA)]) (fun t kt => ?_) ?_
  ·refine XS.astoreN X67.here hx rfl (D d6_46) rfl rfl (l' := #[vR x, vR AA, vI 0, vI c0]) rfl ?_
   refine XS.iinc X67.here hx rfl (D d6_47) rfl (l' := #[vR x, vR AA, vI 1, vI c0]) rfl ?_
   refine XS.goto X67.here hx rfl (pc0 := 50) (pc' := 6) rfl (D d6_50) (by decide) (by decide) ?_
   refine XS.aloadN X67.here hx rfl (D d6_6) rfl rfl ?_
   exact kt
  refine own_getS X67 hx hZ hown (host := "") (Or.inl (Wd33 hw)) Via.refl e67 (SPL.ext X00.2) (D d6_7) (fun T68 X68 e68 => ?_)
  refine oTo T68 (fr_rd2 m x 54 (vR AA) (vI 1) (vI c0) [(.ref AA)]) (fun t kt => ?_) ?_
  ·refine Jvm.RoadKit.acmp (g := (fr_rd2 m x 10 (vR AA) (vI 1) (vI c0) [(.ref PA), (.ref AA)])) X68 hx rfl rfl rfl (pc0 := 10) (pc' := 53) (same := false) rfl (D d6_10) rfl (decide_eq_false fun q => (Ne.symm hPA) (Value.ref.inj q)) (by decide) (by decide) ?_
   refine XS.aloadN X68.here hx rfl (D d6_53) rfl rfl ?_
   exact kt
  refine ownRet X68 Bd.notSynchronized (v := some (.ref AA)) (fun h => by rw [Bd.returns] at h; cases h) ?_ (oLe rfl) (oLe rfl) (fun fs hr => retOut X68 hx Bd.returns rfl (Or.inr (Or.inr (Or.inr (Or.inr ⟨rfl, rfl, rfl⟩)))) (D d6_54) hr)
  show (Q_rd2 Z x ta kb cd z vs c0 c1 PA AA MA HS H2 PG SQ EM EL kM kE ms G1 G3 h0 n0) (some (.ref AA)) T68.heap _
  rw [e68]
  exact ⟨Nh30, rfl, Or.inl ⟨Or.inl hM0, rfl⟩⟩
 ·skip
  by_cases hl0 : c0 < (128 : Int32)
  ·skip
   refine oTo T28 (fr_rd2 m x 28 (vR PA) (vI 0) (vI c0) [(.int c0)]) (fun t kt => ?_) ?_
   ·refine XS.iloadN Xh30.here hx rfl (D d6_27) rfl ?_
    exact kt
   refine own_getS Xh30 hx hZ hown (host := "") (Or.inl (Wd107 hw)) Via.refl Eq28 (SMK.ext X00.2) (D d6_28) (fun T69 X69 e69 => ?_)
   have f70 := KMA.ext X00.2
   obtain ⟨cl71, Ar71, -, S71, N71, -, -⟩ := id f70
   have st71 := X69.arraylength hx (by rw [e69]; exact Ar71.1) (State.isArrayOf_alike hZ.alike Ar71.2.1) (g := (fr_rd2 m x 31 (vR PA) (vI 0) (vI c0) [(.ref MA), (.int c0)])) rfl rfl (D d6_31)
   rw [len_of S71 N71] at st71
   refine ownBy st71 ?_
   show oA p e below _ T69 (fr_rd2 m x 32 (vR PA) (vI 0) (vI c0) [(iV 128), (.int c0)])
   refine oTo T69 (fr_rd2 m x 35 (vR PA) (vI 0) (vI c0) []) (fun t kt => ?_) ?_
   ·refine XS.icmpNo X69.here hx rfl (D d6_32) rfl (tlt hl0).2.1 ?_
    exact kt
   refine own_getS X69 hx hZ hown (host := "") (Or.inl (Wd107 hw)) Via.refl e69 (SMK.ext X00.2) (D d6_35) (fun T72 X72 e72 => ?_)
   refine oTo T72 (fr_rd2 m x 39 (vR PA) (vI 0) (vI c0) [(.int c0), (.ref MA)]) (fun t kt => ?_) ?_
   ·refine XS.iloadN X72.here hx rfl (D d6_38) rfl ?_
    exact kt
   obtain ⟨cl73, Ar73, q73, S73, N73, H73, G73⟩ := id f70
   have hin73 : ¬ (c0 < 0 ∨ cl73.slots.size ≤ (c0).toNatClampNeg) := inb_of S73 ⟨hc0.1, hl0⟩
   have hat73 : cl73.slots[(c0).toNatClampNeg]? = some (.int (own_b (Mk c0))) := H73.at hin73 (hMA _ hc0.1 hl0)
   have st73 := X72.baloadBooleans hx (j := c0) (v := (.int (own_b (Mk c0)))) (by rw [e72]; exact Ar73.1) (State.isArrayOf_alike hZ.alike Ar73.2.1) Ar73.2.2 hin73 hat73 (g := (fr_rd2 m x 39 (vR PA) (vI 0) (vI c0) [(.int c0), (.ref MA)])) rfl rfl (D d6_39)
   refine ownBy st73 ?_
   show oA p e below _ T72 (fr_rd2 m x 40 (vR PA) (vI 0) (vI c0) [(.int (own_b (Mk c0)))])
   refine oTo T72 (fr_rd2 m x 47 (vR PA) (vI 0) (vI c0) []) (fun t kt => ?_) ?_
   ·refine XS.ifYes X72.here hx rfl (pc0 := 40) (pc' := 47) rfl (D d6_40) rfl ((if0 _ _).trans (teq (own_bf0 hM0)).1) (by decide) (by decide) ?_
    exact kt
   exact rest0 _ _ X72 Nh30 e72 hM0
  ·skip
   refine oTo T28 (fr_rd2 m x 28 (vR PA) (vI 0) (vI c0) [(.int c0)]) (fun t kt => ?_) ?_
   ·refine XS.iloadN Xh30.here hx rfl (D d6_27) rfl ?_
    exact kt
   refine own_getS Xh30 hx hZ hown (host := "") (Or.inl (Wd107 hw)) Via.refl Eq28 (SMK.ext X00.2) (D d6_28) (fun T74 X74 e74 => ?_)
   have f75 := KMA.ext X00.2
   obtain ⟨cl76, Ar76, -, S76, N76, -, -⟩ := id f75
   have st76 := X74.arraylength hx (by rw [e74]; exact Ar76.1) (State.isArrayOf_alike hZ.alike Ar76.2.1) (g := (fr_rd2 m x 31 (vR PA) (vI 0) (vI c0) [(.ref MA), (.int c0)])) rfl rfl (D d6_31)
   rw [len_of S76 N76] at st76
   refine ownBy st76 ?_
   show oA p e below _ T74 (fr_rd2 m x 32 (vR PA) (vI 0) (vI c0) [(iV 128), (.int c0)])
   refine oTo T74 (fr_rd2 m x 47 (vR PA) (vI 0) (vI c0) []) (fun t kt => ?_) ?_
   ·refine XS.icmpYes X74.here hx rfl (pc0 := 32) (pc' := 47) rfl (D d6_32) rfl (flt hl0).2.1 (by decide) (by decide) ?_
    exact kt
   exact rest0 _ _ X74 Nh30 e74 hM0
abbrev fr_rd3 (m : MethodId) (x : Addr) (pc : Nat) (x1_ x2_ x3_ : Slot) (st : List Value) : JFrame := mkF m pc #[vR x, x1_, x2_, x3_] st
def Q_rd3 (Z : State) (x : Addr) (ta : Addr) (kb : ClassId) (cd : Int32) (z : Int32) (vs : List Value) (c0 : Int32) (c1 : Int32) (c2 : Int32) (PA : Addr) (AA : Addr) (MA : Addr) (HS : Addr) (H2 : Addr) (PG : Addr) (SQ : Addr) (EM : Addr) (EL : Addr) (kM : ClassId) (kE : ClassId) (ms : List Value) (G1 : Int32) (G3 : Value) (h0 : Heap) (n0 : Nat) (v : Option Value) (h : Heap) (L : List Loc) : Prop := Fr n0 L ∧ h = h0 ∧ ((((Mk c0) ∨ (Mk c1) ∨ (Mk c2)) ∧ v = some (.ref AA)) ∨ (¬ ((Mk c0) ∨ (Mk c1) ∨ (Mk c2)) ∧ v = some (.ref PA)))
theorem ef_rd3 (m : MethodId) (x0 : Addr)  : entryFrame m #[(.ref x0)] 4 = mkF m 0 #[vR x0, .unset, .unset, .unset] [] := by first | (simp [entryFrame, mkF, argsToLocals, Value.category]; done) | rfl
set_option maxRecDepth 65536 in
set_option maxHeartbeats 40000000 in
theorem c_rd3 (l : Launch) (Z : State) (a0 : Array Value) (hw : HW a0 Z) (ws : List Jvm.Cond) (x : Addr) (ta : Addr) (kb : ClassId) (cd : Int32) (z : Int32) (vs : List Value) (c0 : Int32) (c1 : Int32) (c2 : Int32) (PA : Addr) (AA : Addr) (MA : Addr) (HS : Addr) (H2 : Addr) (PG : Addr) (SQ : Addr) (EM : Addr) (EL : Addr) (kM : ClassId) (kE : ClassId) (ms : List Value) (G1 : Int32) (G3 : Value) (h0 : Heap) (n0 : Nat) (Z0 : n0 ≤ h0.size) (Es : Exa Z h0 x "java/lang/String") (Vs : Fld Z h0 x "java/lang/String" "value" "[B" (.ref ta)) (Cs : Fld Z h0 x "java/lang/String" "coder" "B" (.int cd)) (Ks : Arv Z h0 ta kb .byte z vs (iV 0)) (hrel : ((cd = (0 : Int32) ∧ z = (3 : Int32) ∧ vs = [(.int (oL c0)), (.int (oL c1)), (.int (oL c2))] ∧ ¬ ((255 : Int32) < c0) ∧ ¬ ((255 : Int32) < c1) ∧ ¬ ((255 : Int32) < c2)) ∨ (cd = (1 : Int32) ∧ z = (6 : Int32) ∧ vs = [(.int (oW c0)), (.int (oH c0)), (.int (oW c1)), (.int (oH c1)), (.int (oW c2)), (.int (oH c2))] ∧ ((255 : Int32) < c0 ∨ (255 : Int32) < c1 ∨ (255 : Int32) < c2)))) (hc0 : ¬ c0 < 0 ∧ ¬ (65535 : Int32) < c0) (hc1 : ¬ c1 < 0 ∧ ¬ (65535 : Int32) < c1) (hc2 : ¬ c2 < 0 ∧ ¬ (65535 : Int32) < c2) (hWd : World Z PA AA MA HS H2 PG SQ EM EL kM kE ms) (O2 : Sta Z Z.heap "java/lang/String" "COMPACT_STRINGS" "Z" (.int G1)) (P5 : ¬ (G1 = (0 : Int32))) (SA : Sta Z Z.heap "java/lang/StringUTF16" "$assertionsDisabled" "Z" (iV 1)) (SHI : Sta Z Z.heap "java/lang/StringUTF16" "HI_BYTE_SHIFT" "I" (iV 0)) (SLO : Sta Z Z.heap "java/lang/StringUTF16" "LO_BYTE_SHIFT" "I" (iV 8)) (O4 : Sta Z Z.heap "jdk/internal/util/Preconditions" "SIOOBE_FORMATTER" "Ljava/util/function/BiFunction;" G3) (rG3 : G3.isRef = true) (X00 : Old Z n0 h0) :
  MetFree l yM20 (head1 (Jvm.Cond.code yM20 prog_14_method_4_code 4 (some (.object "java/util/List")) :: ws) ({ frames := 5, cells := 0, slots := 0, locals := 66 } : Room)) (fun a U => a = #[(.ref x)] ∧ Z.Warmed39 U.vm ∧ U.heap = h0) (fun _ _ _ _ _ => True) (fun _ U o U' => ∃ v L, o = .returned v ∧ (Q_rd3 Z x ta kb cd z vs c0 c1 c2 PA AA MA HS H2 PG SQ EM EL kM kE ms G1 G3 h0 n0) v U'.heap L ∧ FrameEnd U o U' L ({ frames := 5, cells := 0, slots := 0, locals := 66 } : Room).cells ({ frames := 5, cells := 0, slots := 0, locals := 66 } : Room).slots) := by
 refine MetFree.of_bodySF (plainFor_of_name pn_19) hisR ?_
 intro p e s m args below meth c s₁ Bd hml0 hP hK
 obtain ⟨rfl, hZ, hHp⟩ := hP
 have hx := Bd.exec
 have D := fun {pc : Nat} {r} (h : decode _ pc = r) => hb Bd.bytes h
 have hml : c.maxLocals = 4 := hml0
 have hown : s.vm.findClass "com/example/savepoint/savepoint/SqlDialect" = some m.cls := findClass_of_methodNamed Bd.named
 have hnm := (name_of_methodNamed Bd.named Bd.method).1
 have X0 : Stand p l e ({ frames := 5, cells := 0, slots := 0, locals := 66 } : Room) s m #[(.ref x)] below meth c s₁ [] 0 0 := Stand.of_body Bd
 have e0 : s₁.heap = h0 := by rw [← hHp, Bd.state]; rfl
 have N0 := Fr.nil n0
 refine ownOut (P := (Q_rd3 Z x ta kb cd z vs c0 c1 c2 PA AA MA HS H2 PG SQ EM EL kM kE ms G1 G3 h0 n0)) ?_
 refine ownBy (A := s₁.setTop (mkF m 0 #[vR x, .unset, .unset, .unset] [])) (fun t k => castTop (ef_rd3 m x) k) ?_
 have hWe := hWd
 obtain ⟨SPL, SAL, SMK, SHS, SH2, SPG, SSQ, SEM, EPA, EAA, FE1, FE0, FEL, KEL, KMA, hMA, hPA⟩ := hWe
 refine own_getS X0 hx hZ hown (host := "") (Or.inl (Wd33 hw)) Via.refl e0 (SPL.ext X00.2) (D d6_0) (fun T21 X21 e21 => ?_)
 refine oTo T21 (fr_rd3 m x 7 (vR PA) (vI 0) .unset [(.ref PA)]) (fun t kt => ?_) ?_
 ·refine XS.astoreN X21.here hx rfl (D d6_3) rfl rfl (l' := #[vR x, vR PA, .unset, .unset]) rfl ?_
  refine XS.iconst X21.here hx rfl (D d6_4) ?_
  refine XS.istoreN X21.here hx rfl (D d6_5) rfl (l' := #[vR x, vR PA, vI 0, .unset]) rfl ?_
  refine XS.aloadN X21.here hx rfl (D d6_6) rfl rfl ?_
  exact kt
 refine own_getS X21 hx hZ hown (host := "") (Or.inl (Wd33 hw)) Via.refl e21 (SPL.ext X00.2) (D d6_7) (fun T22 X22 e22 => ?_)
 refine oTo T22 (fr_rd3 m x 15 (vR PA) (vI 0) .unset [(.ref x), (iV 0)]) (fun t kt => ?_) ?_
 ·refine Jvm.RoadKit.acmp (g := (fr_rd3 m x 10 (vR PA) (vI 0) .unset [(.ref PA), (.ref PA)])) X22 hx rfl rfl rfl (pc0 := 10) (pc' := 13) (same := true) rfl (D d6_10) rfl (decide_eq_true rfl) (by decide) (by decide) ?_
  refine XS.iloadN X22.here hx rfl (D d6_13) rfl ?_
  refine XS.aloadN X22.here hx rfl (D d6_14) rfl rfl ?_
  exact kt
 have hL23 : (cd = (0 : Int32) ∧ (z >>> ((0 : Int32) &&& 31)) = (3 : Int32)) ∨ (cd = (1 : Int32) ∧ (z >>> ((1 : Int32) &&& 31)) = (3 : Int32)) := by
  rcases hrel with ⟨h1, h2, -⟩ | ⟨h1, h2, -⟩
  ·exact Or.inl ⟨h1, by rw [h2]; decide +kernel⟩
  ·exact Or.inr ⟨h1, by rw [h2]; decide +kernel⟩
 obtain ⟨cq24, kq24, q24a, q24b, q24c⟩ := isOf hZ e22 Es
 obtain ⟨vv24, _, ⟨T24, L24, k24, n24⟩, -, X24, ⟨Lc24, hQ24, l24, y24, z24⟩, st24⟩ := X22.virtualBack hx (y := yM12) (z := yM12) hown (mvT hZ (Wd35 hw)) (mvT hZ (Wd36 hw)) (notFace_of_selects (args := #[]) (mvT hZ (Wd38 hw))) (mvT hZ (Wd38 hw)) (mvT hZ (Wd37 hw)) (by decide) (backOf (W := 1) (c_leng l Z a0 hw [] x ta kb cd z vs (3 : Int32) G1 h0 n0 Z0 Es Vs Cs Ks hL23 O2 P5 X00) hZ (Wd39 hw) (Wd9 hw) (by decide) (by decide)) q24a q24c (g := (fr_rd3 m x 15 (vR PA) (vI 0) .unset [(.ref x), (iV 0)])) rfl (by rw [hml]; rfl) (Steps.refl _) (argsL := []) (rest := [(iV 0)]) (lenOf pd_20 rfl) rfl (by show 2 * 0 + _ ≤ _; exact Nat.le_of_eq rfl) (D d6_15) (fun _ _ => ⟨rfl, e22, (by decide : 0 + 0 ≤ _), (by decide : 0 + 0 ≤ _)⟩)
 dsimp only [Pt.U, Pt.locs, Pt.cells, Pt.slots] at X24 l24 y24 z24 st24 hQ24
 subst l24 y24 z24
 obtain ⟨rfl, Nq24, Eq24⟩ := hQ24
 have N25 := Fr.app N0 Nq24
 obtain ⟨Lh26, Xh26, Nh26⟩ := oHd 0 0 X24 N25 rfl rfl
 refine ownSt st24 ?_
 clear st24
 show oA p e below _ T24 (fr_rd3 m x 18 (vR PA) (vI 0) .unset [(iV 3), (iV 0)])
 refine oTo T24 (fr_rd3 m x 23 (vR PA) (vI 0) .unset [(iV 0), (.ref x)]) (fun t kt => ?_) ?_
 ·refine XS.icmpNo Xh26.here hx rfl (D d6_18) rfl (tlt ((by decide) : (0 : Int32) < (3 : Int32))).2.1 ?_
  refine XS.aloadN Xh26.here hx rfl (D d6_21) rfl rfl ?_
  refine XS.iloadN Xh26.here hx rfl (D d6_22) rfl ?_
  exact kt
 have hR27 : (cd = (0 : Int32) ∧ (¬ (0 : Int32) < (0 : Int32) ∧ (0 : Int32) < z) ∧ (0 : Int32).toNatClampNeg = 0 ∧ vs.getD 0 (iV 0) = .int (oL c0) ∧ ¬ ((255 : Int32) < c0)) ∨ (cd = (1 : Int32) ∧ (¬ (0 : Int32) < (0 : Int32) ∧ (0 : Int32) < (3 : Int32)) ∧ (z >>> ((1 : Int32) &&& 31)) = (3 : Int32) ∧ (¬ ((0 : Int32) <<< ((1 : Int32) &&& 31)) < 0 ∧ ((0 : Int32) <<< ((1 : Int32) &&& 31)) < z) ∧ (¬ (((0 : Int32) <<< ((1 : Int32) &&& 31)) + (1 : Int32)) < 0 ∧ (((0 : Int32) <<< ((1 : Int32) &&& 31)) + (1 : Int32)) < z) ∧ ((0 : Int32) <<< ((1 : Int32) &&& 31)).toNatClampNeg = 0 ∧ (((0 : Int32) <<< ((1 : Int32) &&& 31)) + (1 : Int32)).toNatClampNeg = 0 + 1 ∧ vs.getD 0 (iV 0) = .int (oW c0) ∧ vs.getD (0 + 1) (iV 0) = .int (oH c0)) := by
  rcases hrel with ⟨h1, h2, h3, g0, g1, g2⟩ | ⟨h1, h2, h3, -⟩
  ·exact Or.inl ⟨h1, by rw [h2]; decide +kernel, rfl, by rw [h3]; rfl, g0⟩
  ·exact Or.inr ⟨h1, by decide +kernel, by rw [h2]; decide +kernel, by rw [h2]; decide +kernel, by rw [h2]; decide +kernel, by decide +kernel, by decide +kernel, by rw [h3]; rfl, by rw [h3]; rfl⟩
 obtain ⟨cq28, kq28, q28a, q28b, q28c⟩ := isOf hZ Eq24 Es
 obtain ⟨vv28, _, ⟨T28, L28, k28, n28⟩, -, X28, ⟨Lc28, hQ28, l28, y28, z28⟩, st28⟩ := Xh26.virtualBack hx (y := yM19) (z := yM19) hown (mvT hZ (Wd85 hw)) (mvT hZ (Wd86 hw)) (notFace_of_selects (args := #[]) (mvT hZ (Wd88 hw))) (mvT hZ (Wd88 hw)) (mvT hZ (Wd87 hw)) (by decide) (backOf (W := 0) (c_chat l Z a0 hw [] x ta kb cd z vs (0 : Int32) c0 0 0 (3 : Int32) G1 G3 h0 n0 Z0 Es Vs Cs Ks hc0 hR27 O2 P5 SA SHI SLO O4 rG3 X00) hZ (Wd89 hw) (Wd9 hw) (by decide) (by decide)) q28a q28c (g := (fr_rd3 m x 23 (vR PA) (vI 0) .unset [(iV 0), (.ref x)])) rfl (by rw [hml]; rfl) (Steps.refl _) (argsL := [(iV 0)]) (rest := []) (lenOf pd_21 rfl) rfl (by show 2 * 0 + _ ≤ _; exact Nat.le_of_eq rfl) (D d6_23) (fun _ _ => ⟨rfl, Eq24, (by decide : 0 + 0 ≤ _), (by decide : 0 + 0 ≤ _)⟩)
 dsimp only [Pt.U, Pt.locs, Pt.cells, Pt.slots] at X28 l28 y28 z28 st28 hQ28
 subst l28 y28 z28
 obtain ⟨rfl, Nq28, Eq28⟩ := hQ28
 have N29 := Fr.app Nh26 Nq28
 obtain ⟨Lh30, Xh30, Nh30⟩ := oHd 0 0 X28 N29 rfl rfl
 refine ownSt st28 ?_
 clear st28
 show oA p e below _ T28 (fr_rd3 m x 26 (vR PA) (vI 0) .unset [(.int c0)])
 refine oTo T28 (fr_rd3 m x 27 (vR PA) (vI 0) (vI c0) []) (fun t kt => ?_) ?_
 ·refine XS.istoreN Xh30.here hx rfl (D d6_26) rfl (l' := #[vR x, vR PA, vI 0, vI c0]) rfl ?_
  exact kt
 have rest0 : ∀ (T : State) (Lx : List Loc), Stand p l e ({ frames := 5, cells := 0, slots := 0, locals := 66 } : Room) s m #[(.ref x)] below meth c T Lx 0 0 → Fr n0 Lx → T.heap = h0 → ¬ (Mk c0) → ownG p.tables e below (ownE s below (Q_rd3 Z x ta kb cd z vs c0 c1 c2 PA AA MA HS H2 PG SQ EM EL kM kE ms G1 G3 h0 n0) ({ frames := 5, cells := 0, slots := 0, locals := 66 } : Room).cells ({ frames := 5, cells := 0, slots := 0, locals := 66 } : Room).slots) (T.setTop (fr_rd3 m x 47 (vR PA) (vI 0) (vI c0) [])) := by
  intro T31 L31 X31 N31 e31 hN0
  refine oTo T31 (fr_rd3 m x 7 (vR PA) (vI 1) (vI c0) [(.ref PA)]) (fun t kt => ?_) ?_
  ·refine XS.iinc X31.here hx rfl (D d6_47) rfl (l' := #[vR x, vR PA, vI 1, vI c0]) rfl ?_
   refine XS.goto X31.here hx rfl (pc0 := 50) (pc' := 6) rfl (D d6_50) (by decide) (by decide) ?_
   refine XS.aloadN X31.here hx rfl (D d6_6) rfl rfl ?_
   exact kt
  refine own_getS X31 hx hZ hown (host := "") (Or.inl (Wd33 hw)) Via.refl e31 (SPL.ext X00.2) (D d6_7) (fun T32 X32 e32 => ?_)
  refine oTo T32 (fr_rd3 m x 15 (vR PA) (vI 1) (vI c0) [(.ref x), (iV 1)]) (fun t kt => ?_) ?_
  ·refine Jvm.RoadKit.acmp (g := (fr_rd3 m x 10 (vR PA) (vI 1) (vI c0) [(.ref PA), (.ref PA)])) X32 hx rfl rfl rfl (pc0 := 10) (pc' := 13) (same := true) rfl (D d6_10) rfl (decide_eq_true rfl) (by decide) (by decide) ?_
   refine XS.iloadN X32.here hx rfl (D d6_13) rfl ?_
   refine XS.aloadN X32.here hx rfl (D d6_14) rfl rfl ?_
   exact kt
  have hL33 : (cd = (0 : Int32) ∧ (z >>> ((0 : Int32) &&& 31)) = (3 : Int32)) ∨ (cd = (1 : Int32) ∧ (z >>> ((1 : Int32) &&& 31)) = (3 : Int32)) := by
   rcases hrel with ⟨h1, h2, -⟩ | ⟨h1, h2, -⟩
   ·exact Or.inl ⟨h1, by rw [h2]; decide +kernel⟩
   ·exact Or.inr ⟨h1, by rw [h2]; decide +kernel⟩
  obtain ⟨cq34, kq34, q34a, q34b, q34c⟩ := isOf hZ e32 Es
  obtain ⟨vv34, _, ⟨T34, L34, k34, n34⟩, -, X34, ⟨Lc34, hQ34, l34, y34, z34⟩, st34⟩ := X32.virtualBack hx (y := yM12) (z := yM12) hown (mvT hZ (Wd35 hw)) (mvT hZ (Wd36 hw)) (notFace_of_selects (args := #[]) (mvT hZ (Wd38 hw))) (mvT hZ (Wd38 hw)) (mvT hZ (Wd37 hw)) (by decide) (backOf (W := 1) (c_leng l Z a0 hw [] x ta kb cd z vs (3 : Int32) G1 h0 n0 Z0 Es Vs Cs Ks hL33 O2 P5 X00) hZ (Wd39 hw) (Wd9 hw) (by decide) (by decide)) q34a q34c (g := (fr_rd3 m x 15 (vR PA) (vI 1) (vI c0) [(.ref x), (iV 1)])) rfl (by rw [hml]; rfl) (Steps.refl _) (argsL := []) (rest := [(iV 1)]) (lenOf pd_20 rfl) rfl (by show 2 * 0 + _ ≤ _; exact Nat.le_of_eq rfl) (D d6_15) (fun _ _ => ⟨rfl, e32, (by decide : 0 + 0 ≤ _), (by decide : 0 + 0 ≤ _)⟩)
  dsimp only [Pt.U, Pt.locs, Pt.cells, Pt.slots] at X34 l34 y34 z34 st34 hQ34
  subst l34 y34 z34
  obtain ⟨rfl, Nq34, Eq34⟩ := hQ34
  have N35 := Fr.app N31 Nq34
  obtain ⟨Lh36, Xh36, Nh36⟩ := oHd 0 0 X34 N35 rfl rfl
  refine ownSt st34 ?_
  clear st34
  show oA p e below _ T34 (fr_rd3 m x 18 (vR PA) (vI 1) (vI c0) [(iV 3), (iV 1)])
  refine oTo T34 (fr_rd3 m x 23 (vR PA) (vI 1) (vI c0) [(iV 1), (.ref x)]) (fun t kt => ?_) ?_
  ·refine XS.icmpNo Xh36.here hx rfl (D d6_18) rfl (tlt ((by decide) : (1 : Int32) < (3 : Int32))).2.1 ?_
   refine XS.aloadN Xh36.here hx rfl (D d6_21) rfl rfl ?_
   refine XS.iloadN Xh36.here hx rfl (D d6_22) rfl ?_
   exact kt
  have hR37 : (cd = (0 : Int32) ∧ (¬ (1 : Int32) < (0 : Int32) ∧ (1 : Int32) < z) ∧ (1 : Int32).toNatClampNeg = 1 ∧ vs.getD 1 (iV 0) = .int (oL c1) ∧ ¬ ((255 : Int32) < c1)) ∨ (cd = (1 : Int32) ∧ (¬ (1 : Int32) < (0 : Int32) ∧ (1 : Int32) < (3 : Int32)) ∧ (z >>> ((1 : Int32) &&& 31)) = (3 : Int32) ∧ (¬ ((1 : Int32) <<< ((1 : Int32) &&& 31)) < 0 ∧ ((1 : Int32) <<< ((1 : Int32) &&& 31)) < z) ∧ (¬ (((1 : Int32) <<< ((1 : Int32) &&& 31)) + (1 : Int32)) < 0 ∧ (((1 : Int32) <<< ((1 : Int32) &&& 31)) + (1 : Int32)) < z) ∧ ((1 : Int32) <<< ((1 : Int32) &&& 31)).toNatClampNeg = 2 ∧ (((1 : Int32) <<< ((1 : Int32) &&& 31)) + (1 : Int32)).toNatClampNeg = 2 + 1 ∧ vs.getD 2 (iV 0) = .int (oW c1) ∧ vs.getD (2 + 1) (iV 0) = .int (oH c1)) := by
   rcases hrel with ⟨h1, h2, h3, g0, g1, g2⟩ | ⟨h1, h2, h3, -⟩
   ·exact Or.inl ⟨h1, by rw [h2]; decide +kernel, rfl, by rw [h3]; rfl, g1⟩
   ·exact Or.inr ⟨h1, by decide +kernel, by rw [h2]; decide +kernel, by rw [h2]; decide +kernel, by rw [h2]; decide +kernel, by decide +kernel, by decide +kernel, by rw [h3]; rfl, by rw [h3]; rfl⟩
  obtain ⟨cq38, kq38, q38a, q38b, q38c⟩ := isOf hZ Eq34 Es
  obtain ⟨vv38, _, ⟨T38, L38, k38, n38⟩, -, X38, ⟨Lc38, hQ38, l38, y38, z38⟩, st38⟩ := Xh36.virtualBack hx (y := yM19) (z := yM19) hown (mvT hZ (Wd85 hw)) (mvT hZ (Wd86 hw)) (notFace_of_selects (args := #[]) (mvT hZ (Wd88 hw))) (mvT hZ (Wd88 hw)) (mvT hZ (Wd87 hw)) (by decide) (backOf (W := 0) (c_chat l Z a0 hw [] x ta kb cd z vs (1 : Int32) c1 1 2 (3 : Int32) G1 G3 h0 n0 Z0 Es Vs Cs Ks hc1 hR37 O2 P5 SA SHI SLO O4 rG3 X00) hZ (Wd89 hw) (Wd9 hw) (by decide) (by decide)) q38a q38c (g := (fr_rd3 m x 23 (vR PA) (vI 1) (vI c0) [(iV 1), (.ref x)])) rfl (by rw [hml]; rfl) (Steps.refl _) (argsL := [(iV 1)]) (rest := []) (lenOf pd_21 rfl) rfl (by show 2 * 0 + _ ≤ _; exact Nat.le_of_eq rfl) (D d6_23) (fun _ _ => ⟨rfl, Eq34, (by decide : 0 + 0 ≤ _), (by decide : 0 + 0 ≤ _)⟩)
  dsimp only [Pt.U, Pt.locs, Pt.cells, Pt.slots] at X38 l38 y38 z38 st38 hQ38
  subst l38 y38 z38
  obtain ⟨rfl, Nq38, Eq38⟩ := hQ38
  have N39 := Fr.app Nh36 Nq38
  obtain ⟨Lh40, Xh40, Nh40⟩ := oHd 0 0 X38 N39 rfl rfl
  refine ownSt st38 ?_
  clear st38
  show oA p e below _ T38 (fr_rd3 m x 26 (vR PA) (vI 1) (vI c0) [(.int c1)])
  refine oTo T38 (fr_rd3 m x 27 (vR PA) (vI 1) (vI c1) []) (fun t kt => ?_) ?_
  ·refine XS.istoreN Xh40.here hx rfl (D d6_26) rfl (l' := #[vR x, vR PA, vI 1, vI c1]) rfl ?_
   exact kt
  have rest1 : ∀ (T : State) (Lx : List Loc), Stand p l e ({ frames := 5, cells := 0, slots := 0, locals := 66 } : Room) s m #[(.ref x)] below meth c T Lx 0 0 → Fr n0 Lx → T.heap = h0 → ¬ (Mk c1) → ownG p.tables e below (ownE s below (Q_rd3 Z x ta kb cd z vs c0 c1 c2 PA AA MA HS H2 PG SQ EM EL kM kE ms G1 G3 h0 n0) ({ frames := 5, cells := 0, slots := 0, locals := 66 } : Room).cells ({ frames := 5, cells := 0, slots := 0, locals := 66 } : Room).slots) (T.setTop (fr_rd3 m x 47 (vR PA) (vI 1) (vI c1) [])) := by
   intro T41 L41 X41 N41 e41 hN1
   refine oTo T41 (fr_rd3 m x 7 (vR PA) (vI 2) (vI c1) [(.ref PA)]) (fun t kt => ?_) ?_
   ·refine XS.iinc X41.here hx rfl (D d6_47) rfl (l' := #[vR x, vR PA, vI 2, vI c1]) rfl ?_
    refine XS.goto X41.here hx rfl (pc0 := 50) (pc' := 6) rfl (D d6_50) (by decide) (by decide) ?_
    refine XS.aloadN X41.here hx rfl (D d6_6) rfl rfl ?_
    exact kt
   refine own_getS X41 hx hZ hown (host := "") (Or.inl (Wd33 hw)) Via.refl e41 (SPL.ext X00.2) (D d6_7) (fun T42 X42 e42 => ?_)
   refine oTo T42 (fr_rd3 m x 15 (vR PA) (vI 2) (vI c1) [(.ref x), (iV 2)]) (fun t kt => ?_) ?_
   ·refine Jvm.RoadKit.acmp (g := (fr_rd3 m x 10 (vR PA) (vI 2) (vI c1) [(.ref PA), (.ref PA)])) X42 hx rfl rfl rfl (pc0 := 10) (pc' := 13) (same := true) rfl (D d6_10) rfl (decide_eq_true rfl) (by decide) (by decide) ?_
    refine XS.iloadN X42.here hx rfl (D d6_13) rfl ?_
    refine XS.aloadN X42.here hx rfl (D d6_14) rfl rfl ?_
    exact kt
   have hL43 : (cd = (0 : Int32) ∧ (z >>> ((0 : Int32) &&& 31)) = (3 : Int32)) ∨ (cd = (1 : Int32) ∧ (z >>> ((1 : Int32) &&& 31)) = (3 : Int32)) := by
    rcases hrel with ⟨h1, h2, -⟩ | ⟨h1, h2, -⟩
    ·exact Or.inl ⟨h1, by rw [h2]; decide +kernel⟩
    ·exact Or.inr ⟨h1, by rw [h2]; decide +kernel⟩
   obtain ⟨cq44, kq44, q44a, q44b, q44c⟩ := isOf hZ e42 Es
   obtain ⟨vv44, _, ⟨T44, L44, k44, n44⟩, -, X44, ⟨Lc44, hQ44, l44, y44, z44⟩, st44⟩ := X42.virtualBack hx (y := yM12) (z := yM12) hown (mvT hZ (Wd35 hw)) (mvT hZ (Wd36 hw)) (notFace_of_selects (args := #[]) (mvT hZ (Wd38 hw))) (mvT hZ (Wd38 hw)) (mvT hZ (Wd37 hw)) (by decide) (backOf (W := 1) (c_leng l Z a0 hw [] x ta kb cd z vs (3 : Int32) G1 h0 n0 Z0 Es Vs Cs Ks hL43 O2 P5 X00) hZ (Wd39 hw) (Wd9 hw) (by decide) (by decide)) q44a q44c (g := (fr_rd3 m x 15 (vR PA) (vI 2) (vI c1) [(.ref x), (iV 2)])) rfl (by rw [hml]; rfl) (Steps.refl _) (argsL := []) (rest := [(iV 2)]) (lenOf pd_20 rfl) rfl (by show 2 * 0 + _ ≤ _; exact Nat.le_of_eq rfl) (D d6_15) (fun _ _ => ⟨rfl, e42, (by decide : 0 + 0 ≤ _), (by decide : 0 + 0 ≤ _)⟩)
   dsimp only [Pt.U, Pt.locs, Pt.cells, Pt.slots] at X44 l44 y44 z44 st44 hQ44
   subst l44 y44 z44
   obtain ⟨rfl, Nq44, Eq44⟩ := hQ44
   have N45 := Fr.app N41 Nq44
   obtain ⟨Lh46, Xh46, Nh46⟩ := oHd 0 0 X44 N45 rfl rfl
   refine ownSt st44 ?_
   clear st44
   show oA p e below _ T44 (fr_rd3 m x 18 (vR PA) (vI 2) (vI c1) [(iV 3), (iV 2)])
   refine oTo T44 (fr_rd3 m x 23 (vR PA) (vI 2) (vI c1) [(iV 2), (.ref x)]) (fun t kt => ?_) ?_
   ·refine XS.icmpNo Xh46.here hx rfl (D d6_18) rfl (tlt ((by decide) : (2 : Int32) < (3 : Int32))).2.1 ?_
    refine XS.aloadN Xh46.here hx rfl (D d6_21) rfl rfl ?_
    refine XS.iloadN Xh46.here hx rfl (D d6_22) rfl ?_
    exact kt
   have hR47 : (cd = (0 : Int32) ∧ (¬ (2 : Int32) < (0 : Int32) ∧ (2 : Int32) < z) ∧ (2 : Int32).toNatClampNeg = 2 ∧ vs.getD 2 (iV 0) = .int (oL c2) ∧ ¬ ((255 : Int32) < c2)) ∨ (cd = (1 : Int32) ∧ (¬ (2 : Int32) < (0 : Int32) ∧ (2 : Int32) < (3 : Int32)) ∧ (z >>> ((1 : Int32) &&& 31)) = (3 : Int32) ∧ (¬ ((2 : Int32) <<< ((1 : Int32) &&& 31)) < 0 ∧ ((2 : Int32) <<< ((1 : Int32) &&& 31)) < z) ∧ (¬ (((2 : Int32) <<< ((1 : Int32) &&& 31)) + (1 : Int32)) < 0 ∧ (((2 : Int32) <<< ((1 : Int32) &&& 31)) + (1 : Int32)) < z) ∧ ((2 : Int32) <<< ((1 : Int32) &&& 31)).toNatClampNeg = 4 ∧ (((2 : Int32) <<< ((1 : Int32) &&& 31)) + (1 : Int32)).toNatClampNeg = 4 + 1 ∧ vs.getD 4 (iV 0) = .int (oW c2) ∧ vs.getD (4 + 1) (iV 0) = .int (oH c2)) := by
    rcases hrel with ⟨h1, h2, h3, g0, g1, g2⟩ | ⟨h1, h2, h3, -⟩
    ·exact Or.inl ⟨h1, by rw [h2]; decide +kernel, rfl, by rw [h3]; rfl, g2⟩
    ·exact Or.inr ⟨h1, by decide +kernel, by rw [h2]; decide +kernel, by rw [h2]; decide +kernel, by rw [h2]; decide +kernel, by decide +kernel, by decide +kernel, by rw [h3]; rfl, by rw [h3]; rfl⟩
   obtain ⟨cq48, kq48, q48a, q48b, q48c⟩ := isOf hZ Eq44 Es
   obtain ⟨vv48, _, ⟨T48, L48, k48, n48⟩, -, X48, ⟨Lc48, hQ48, l48, y48, z48⟩, st48⟩ := Xh46.virtualBack hx (y := yM19) (z := yM19) hown (mvT hZ (Wd85 hw)) (mvT hZ (Wd86 hw)) (notFace_of_selects (args := #[]) (mvT hZ (Wd88 hw))) (mvT hZ (Wd88 hw)) (mvT hZ (Wd87 hw)) (by decide) (backOf (W := 0) (c_chat l Z a0 hw [] x ta kb cd z vs (2 : Int32) c2 2 4 (3 : Int32) G1 G3 h0 n0 Z0 Es Vs Cs Ks hc2 hR47 O2 P5 SA SHI SLO O4 rG3 X00) hZ (Wd89 hw) (Wd9 hw) (by decide) (by decide)) q48a q48c (g := (fr_rd3 m x 23 (vR PA) (vI 2) (vI c1) [(iV 2), (.ref x)])) rfl (by rw [hml]; rfl) (Steps.refl _) (argsL := [(iV 2)]) (rest := []) (lenOf pd_21 rfl) rfl (by show 2 * 0 + _ ≤ _; exact Nat.le_of_eq rfl) (D d6_23) (fun _ _ => ⟨rfl, Eq44, (by decide : 0 + 0 ≤ _), (by decide : 0 + 0 ≤ _)⟩)
   dsimp only [Pt.U, Pt.locs, Pt.cells, Pt.slots] at X48 l48 y48 z48 st48 hQ48
   subst l48 y48 z48
   obtain ⟨rfl, Nq48, Eq48⟩ := hQ48
   have N49 := Fr.app Nh46 Nq48
   obtain ⟨Lh50, Xh50, Nh50⟩ := oHd 0 0 X48 N49 rfl rfl
   refine ownSt st48 ?_
   clear st48
   show oA p e below _ T48 (fr_rd3 m x 26 (vR PA) (vI 2) (vI c1) [(.int c2)])
   refine oTo T48 (fr_rd3 m x 27 (vR PA) (vI 2) (vI c2) []) (fun t kt => ?_) ?_
   ·refine XS.istoreN Xh50.here hx rfl (D d6_26) rfl (l' := #[vR x, vR PA, vI 2, vI c2]) rfl ?_
    exact kt
   have rest2 : ∀ (T : State) (Lx : List Loc), Stand p l e ({ frames := 5, cells := 0, slots := 0, locals := 66 } : Room) s m #[(.ref x)] below meth c T Lx 0 0 → Fr n0 Lx → T.heap = h0 → ¬ (Mk c2) → ownG p.tables e below (ownE s below (Q_rd3 Z x ta kb cd z vs c0 c1 c2 PA AA MA HS H2 PG SQ EM EL kM kE ms G1 G3 h0 n0) ({ frames := 5, cells := 0, slots := 0, locals := 66 } : Room).cells ({ frames := 5, cells := 0, slots := 0, locals := 66 } : Room).slots) (T.setTop (fr_rd3 m x 47 (vR PA) (vI 2) (vI c2) [])) := by
    intro T51 L51 X51 N51 e51 hN2
    refine oTo T51 (fr_rd3 m x 7 (vR PA) (vI 3) (vI c2) [(.ref PA)]) (fun t kt => ?_) ?_
    ·refine XS.iinc X51.here hx rfl (D d6_47) rfl (l' := #[vR x, vR PA, vI 3, vI c2]) rfl ?_
     refine XS.goto X51.here hx rfl (pc0 := 50) (pc' := 6) rfl (D d6_50) (by decide) (by decide) ?_
     refine XS.aloadN X51.here hx rfl (D d6_6) rfl rfl ?_
     exact kt
    refine own_getS X51 hx hZ hown (host := "") (Or.inl (Wd33 hw)) Via.refl e51 (SPL.ext X00.2) (D d6_7) (fun T52 X52 e52 => ?_)
    refine oTo T52 (fr_rd3 m x 15 (vR PA) (vI 3) (vI c2) [(.ref x), (iV 3)]) (fun t kt => ?_) ?_
    ·refine Jvm.RoadKit.acmp (g := (fr_rd3 m x 10 (vR PA) (vI 3) (vI c2) [(.ref PA), (.ref PA)])) X52 hx rfl rfl rfl (pc0 := 10) (pc' := 13) (same := true) rfl (D d6_10) rfl (decide_eq_true rfl) (by decide) (by decide) ?_
     refine XS.iloadN X52.here hx rfl (D d6_13) rfl ?_
     refine XS.aloadN X52.here hx rfl (D d6_14) rfl rfl ?_
     exact kt
    have hL53 : (cd = (0 : Int32) ∧ (z >>> ((0 : Int32) &&& 31)) = (3 : Int32)) ∨ (cd = (1 : Int32) ∧ (z >>> ((1 : Int32) &&& 31)) = (3 : Int32)) := by
     rcases hrel with ⟨h1, h2, -⟩ | ⟨h1, h2, -⟩
     ·exact Or.inl ⟨h1, by rw [h2]; decide +kernel⟩
     ·exact Or.inr ⟨h1, by rw [h2]; decide +kernel⟩
    obtain ⟨cq54, kq54, q54a, q54b, q54c⟩ := isOf hZ e52 Es
    obtain ⟨vv54, _, ⟨T54, L54, k54, n54⟩, -, X54, ⟨Lc54, hQ54, l54, y54, z54⟩, st54⟩ := X52.virtualBack hx (y := yM12) (z := yM12) hown (mvT hZ (Wd35 hw)) (mvT hZ (Wd36 hw)) (notFace_of_selects (args := #[]) (mvT hZ (Wd38 hw))) (mvT hZ (Wd38 hw)) (mvT hZ (Wd37 hw)) (by decide) (backOf (W := 1) (c_leng l Z a0 hw [] x ta kb cd z vs (3 : Int32) G1 h0 n0 Z0 Es Vs Cs Ks hL53 O2 P5 X00) hZ (Wd39 hw) (Wd9 hw) (by decide) (by decide)) q54a q54c (g := (fr_rd3 m x 15 (vR PA) (vI 3) (vI c2) [(.ref x), (iV 3)])) rfl (by rw [hml]; rfl) (Steps.refl _) (argsL := []) (rest := [(iV 3)]) (lenOf pd_20 rfl) rfl (by show 2 * 0 + _ ≤ _; exact Nat.le_of_eq rfl) (D d6_15) (fun _ _ => ⟨rfl, e52, (by decide : 0 + 0 ≤ _), (by decide : 0 + 0 ≤ _)⟩)
    dsimp only [Pt.U, Pt.locs, Pt.cells, Pt.slots] at X54 l54 y54 z54 st54 hQ54
    subst l54 y54 z54
    obtain ⟨rfl, Nq54, Eq54⟩ := hQ54
    have N55 := Fr.app N51 Nq54
    obtain ⟨Lh56, Xh56, Nh56⟩ := oHd 0 0 X54 N55 rfl rfl
    refine ownSt st54 ?_
    clear st54
    show oA p e below _ T54 (fr_rd3 m x 18 (vR PA) (vI 3) (vI c2) [(iV 3), (iV 3)])
    refine oTo T54 (fr_rd3 m x 54 (vR PA) (vI 3) (vI c2) [(.ref PA)]) (fun t kt => ?_) ?_
    ·refine XS.icmpYes Xh56.here hx rfl (pc0 := 18) (pc' := 53) rfl (D d6_18) rfl (flt ((by decide) : ¬ ((3 : Int32) < (3 : Int32)))).2.1 (by decide) (by decide) ?_
     refine XS.aloadN Xh56.here hx rfl (D d6_53) rfl rfl ?_
     exact kt
    refine ownRet Xh56 Bd.notSynchronized (v := some (.ref PA)) (fun h => by rw [Bd.returns] at h; cases h) ?_ (oLe rfl) (oLe rfl) (fun fs hr => retOut Xh56 hx Bd.returns rfl (Or.inr (Or.inr (Or.inr (Or.inr ⟨rfl, rfl, rfl⟩)))) (D d6_54) hr)
    show (Q_rd3 Z x ta kb cd z vs c0 c1 c2 PA AA MA HS H2 PG SQ EM EL kM kE ms G1 G3 h0 n0) (some (.ref PA)) T54.heap _
    rw [Eq54]
    exact ⟨Nh56, rfl, Or.inr ⟨(fun q => q.elim hN0 (fun q => q.elim hN1 hN2)), rfl⟩⟩
   by_cases hM2 : Mk c2
   ·skip
    have hl2 := own_mk_lt hM2
    refine oTo T48 (fr_rd3 m x 28 (vR PA) (vI 2) (vI c2) [(.int c2)]) (fun t kt => ?_) ?_
    ·refine XS.iloadN Xh50.here hx rfl (D d6_27) rfl ?_
     exact kt
    refine own_getS Xh50 hx hZ hown (host := "") (Or.inl (Wd107 hw)) Via.refl Eq48 (SMK.ext X00.2) (D d6_28) (fun T57 X57 e57 => ?_)
    have f58 := KMA.ext X00.2
    obtain ⟨cl59, Ar59, -, S59, N59, -, -⟩ := id f58
    have st59 := X57.arraylength hx (by rw [e57]; exact Ar59.1) (State.isArrayOf_alike hZ.alike Ar59.2.1) (g := (fr_rd3 m x 31 (vR PA) (vI 2) (vI c2) [(.ref MA), (.int c2)])) rfl rfl (D d6_31)
    rw [len_of S59 N59] at st59
    refine ownBy st59 ?_
    show oA p e below _ T57 (fr_rd3 m x 32 (vR PA) (vI 2) (vI c2) [(iV 128), (.int c2)])
    refine oTo T57 (fr_rd3 m x 35 (vR PA) (vI 2) (vI c2) []) (fun t kt => ?_) ?_
    ·refine XS.icmpNo X57.here hx rfl (D d6_32) rfl (tlt hl2).2.1 ?_
     exact kt
    refine own_getS X57 hx hZ hown (host := "") (Or.inl (Wd107 hw)) Via.refl e57 (SMK.ext X00.2) (D d6_35) (fun T60 X60 e60 => ?_)
    refine oTo T60 (fr_rd3 m x 39 (vR PA) (vI 2) (vI c2) [(.int c2), (.ref MA)]) (fun t kt => ?_) ?_
    ·refine XS.iloadN X60.here hx rfl (D d6_38) rfl ?_
     exact kt
    obtain ⟨cl61, Ar61, q61, S61, N61, H61, G61⟩ := id f58
    have hin61 : ¬ (c2 < 0 ∨ cl61.slots.size ≤ (c2).toNatClampNeg) := inb_of S61 ⟨hc2.1, hl2⟩
    have hat61 : cl61.slots[(c2).toNatClampNeg]? = some (.int (own_b (Mk c2))) := H61.at hin61 (hMA _ hc2.1 hl2)
    have st61 := X60.baloadBooleans hx (j := c2) (v := (.int (own_b (Mk c2)))) (by rw [e60]; exact Ar61.1) (State.isArrayOf_alike hZ.alike Ar61.2.1) Ar61.2.2 hin61 hat61 (g := (fr_rd3 m x 39 (vR PA) (vI 2) (vI c2) [(.int c2), (.ref MA)])) rfl rfl (D d6_39)
    refine ownBy st61 ?_
    show oA p e below _ T60 (fr_rd3 m x 40 (vR PA) (vI 2) (vI c2) [(.int (own_b (Mk c2)))])
    refine oTo T60 (fr_rd3 m x 43 (vR PA) (vI 2) (vI c2) []) (fun t kt => ?_) ?_
    ·refine XS.ifNo X60.here hx rfl (D d6_40) rfl ((if0 _ _).trans (feq (own_bt0 hM2)).1) ?_
     exact kt
    refine own_getS X60 hx hZ hown (host := "") (Or.inl (Wd109 hw)) Via.refl e60 (SAL.ext X00.2) (D d6_43) (fun T62 X62 e62 => ?_)
    refine oTo T62 (fr_rd3 m x 7 (vR AA) (vI 3) (vI c2) [(.ref AA)]) (fun t kt => ?_) ?_
    ·refine XS.astoreN X62.here hx rfl (D d6_46) rfl rfl (l' := #[vR x, vR AA, vI 2, vI c2]) rfl ?_
     refine XS.iinc X62.here hx rfl (D d6_47) rfl (l' := #[vR x, vR AA, vI 3, vI c2]) rfl ?_
     refine XS.goto X62.here hx rfl (pc0 := 50) (pc' := 6) rfl (D d6_50) (by decide) (by decide) ?_
     refine XS.aloadN X62.here hx rfl (D d6_6) rfl rfl ?_
     exact kt
    refine own_getS X62 hx hZ hown (host := "") (Or.inl (Wd33 hw)) Via.refl e62 (SPL.ext X00.2) (D d6_7) (fun T63 X63 e63 => ?_)
    refine oTo T63 (fr_rd3 m x 54 (vR AA) (vI 3) (vI c2) [(.ref AA)]) (fun t kt => ?_) ?_
    ·refine Jvm.RoadKit.acmp (g := (fr_rd3 m x 10 (vR AA) (vI 3) (vI c2) [(.ref PA), (.ref AA)])) X63 hx rfl rfl rfl (pc0 := 10) (pc' := 53) (same := false) rfl (D d6_10) rfl (decide_eq_false fun q => (Ne.symm hPA) (Value.ref.inj q)) (by decide) (by decide) ?_
     refine XS.aloadN X63.here hx rfl (D d6_53) rfl rfl ?_
     exact kt
    refine ownRet X63 Bd.notSynchronized (v := some (.ref AA)) (fun h => by rw [Bd.returns] at h; cases h) ?_ (oLe rfl) (oLe rfl) (fun fs hr => retOut X63 hx Bd.returns rfl (Or.inr (Or.inr (Or.inr (Or.inr ⟨rfl, rfl, rfl⟩)))) (D d6_54) hr)
    show (Q_rd3 Z x ta kb cd z vs c0 c1 c2 PA AA MA HS H2 PG SQ EM EL kM kE ms G1 G3 h0 n0) (some (.ref AA)) T63.heap _
    rw [e63]
    exact ⟨Nh50, rfl, Or.inl ⟨Or.inr (Or.inr (hM2)), rfl⟩⟩
   ·skip
    by_cases hl2 : c2 < (128 : Int32)
    ·skip
     refine oTo T48 (fr_rd3 m x 28 (vR PA) (vI 2) (vI c2) [(.int c2)]) (fun t kt => ?_) ?_
     ·refine XS.iloadN Xh50.here hx rfl (D d6_27) rfl ?_
      exact kt
     refine own_getS Xh50 hx hZ hown (host := "") (Or.inl (Wd107 hw)) Via.refl Eq48 (SMK.ext X00.2) (D d6_28) (fun T64 X64 e64 => ?_)
     have f65 := KMA.ext X00.2
     obtain ⟨cl66, Ar66, -, S66, N66, -, -⟩ := id f65
     have st66 := X64.arraylength hx (by rw [e64]; exact Ar66.1) (State.isArrayOf_alike hZ.alike Ar66.2.1) (g := (fr_rd3 m x 31 (vR PA) (vI 2) (vI c2) [(.ref MA), (.int c2)])) rfl rfl (D d6_31)
     rw [len_of S66 N66] at st66
     refine ownBy st66 ?_
     show oA p e below _ T64 (fr_rd3 m x 32 (vR PA) (vI 2) (vI c2) [(iV 128), (.int c2)])
     refine oTo T64 (fr_rd3 m x 35 (vR PA) (vI 2) (vI c2) []) (fun t kt => ?_) ?_
     ·refine XS.icmpNo X64.here hx rfl (D d6_32) rfl (tlt hl2).2.1 ?_
      exact kt
     refine own_getS X64 hx hZ hown (host := "") (Or.inl (Wd107 hw)) Via.refl e64 (SMK.ext X00.2) (D d6_35) (fun T67 X67 e67 => ?_)
     refine oTo T67 (fr_rd3 m x 39 (vR PA) (vI 2) (vI c2) [(.int c2), (.ref MA)]) (fun t kt => ?_) ?_
     ·refine XS.iloadN X67.here hx rfl (D d6_38) rfl ?_
      exact kt
     obtain ⟨cl68, Ar68, q68, S68, N68, H68, G68⟩ := id f65
     have hin68 : ¬ (c2 < 0 ∨ cl68.slots.size ≤ (c2).toNatClampNeg) := inb_of S68 ⟨hc2.1, hl2⟩
     have hat68 : cl68.slots[(c2).toNatClampNeg]? = some (.int (own_b (Mk c2))) := H68.at hin68 (hMA _ hc2.1 hl2)
     have st68 := X67.baloadBooleans hx (j := c2) (v := (.int (own_b (Mk c2)))) (by rw [e67]; exact Ar68.1) (State.isArrayOf_alike hZ.alike Ar68.2.1) Ar68.2.2 hin68 hat68 (g := (fr_rd3 m x 39 (vR PA) (vI 2) (vI c2) [(.int c2), (.ref MA)])) rfl rfl (D d6_39)
     refine ownBy st68 ?_
     show oA p e below _ T67 (fr_rd3 m x 40 (vR PA) (vI 2) (vI c2) [(.int (own_b (Mk c2)))])
     refine oTo T67 (fr_rd3 m x 47 (vR PA) (vI 2) (vI c2) []) (fun t kt => ?_) ?_
     ·refine XS.ifYes X67.here hx rfl (pc0 := 40) (pc' := 47) rfl (D d6_40) rfl ((if0 _ _).trans (teq (own_bf0 hM2)).1) (by decide) (by decide) ?_
      exact kt
     exact rest2 _ _ X67 Nh50 e67 hM2
    ·skip
     refine oTo T48 (fr_rd3 m x 28 (vR PA) (vI 2) (vI c2) [(.int c2)]) (fun t kt => ?_) ?_
     ·refine XS.iloadN Xh50.here hx rfl (D d6_27) rfl ?_
      exact kt
     refine own_getS Xh50 hx hZ hown (host := "") (Or.inl (Wd107 hw)) Via.refl Eq48 (SMK.ext X00.2) (D d6_28) (fun T69 X69 e69 => ?_)
     have f70 := KMA.ext X00.2
     obtain ⟨cl71, Ar71, -, S71, N71, -, -⟩ := id f70
     have st71 := X69.arraylength hx (by rw [e69]; exact Ar71.1) (State.isArrayOf_alike hZ.alike Ar71.2.1) (g := (fr_rd3 m x 31 (vR PA) (vI 2) (vI c2) [(.ref MA), (.int c2)])) rfl rfl (D d6_31)
     rw [len_of S71 N71] at st71
     refine ownBy st71 ?_
     show oA p e below _ T69 (fr_rd3 m x 32 (vR PA) (vI 2) (vI c2) [(iV 128), (.int c2)])
     refine oTo T69 (fr_rd3 m x 47 (vR PA) (vI 2) (vI c2) []) (fun t kt => ?_) ?_
     ·refine XS.icmpYes X69.here hx rfl (pc0 := 32) (pc' := 47) rfl (D d6_32) rfl (flt hl2).2.1 (by decide) (by decide) ?_
      exact kt
     exact rest2 _ _ X69 Nh50 e69 hM2
  by_cases hM1 : Mk c1
  ·skip
   have hl1 := own_mk_lt hM1
   refine oTo T38 (fr_rd3 m x 28 (vR PA) (vI 1) (vI c1) [(.int c1)]) (fun t kt => ?_) ?_
   ·refine XS.iloadN Xh40.here hx rfl (D d6_27) rfl ?_
    exact kt
   refine own_getS Xh40 hx hZ hown (host := "") (Or.inl (Wd107 hw)) Via.refl Eq38 (SMK.ext X00.2) (D d6_28) (fun T72 X72 e72 => ?_)
   have f73 := KMA.ext X00.2
   obtain ⟨cl74, Ar74, -, S74, N74, -, -⟩ := id f73
   have st74 := X72.arraylength hx (by rw [e72]; exact Ar74.1) (State.isArrayOf_alike hZ.alike Ar74.2.1) (g := (fr_rd3 m x 31 (vR PA) (vI 1) (vI c1) [(.ref MA), (.int c1)])) rfl rfl (D d6_31)
   rw [len_of S74 N74] at st74
   refine ownBy st74 ?_
   show oA p e below _ T72 (fr_rd3 m x 32 (vR PA) (vI 1) (vI c1) [(iV 128), (.int c1)])
   refine oTo T72 (fr_rd3 m x 35 (vR PA) (vI 1) (vI c1) []) (fun t kt => ?_) ?_
   ·refine XS.icmpNo X72.here hx rfl (D d6_32) rfl (tlt hl1).2.1 ?_
    exact kt
   refine own_getS X72 hx hZ hown (host := "") (Or.inl (Wd107 hw)) Via.refl e72 (SMK.ext X00.2) (D d6_35) (fun T75 X75 e75 => ?_)
   refine oTo T75 (fr_rd3 m x 39 (vR PA) (vI 1) (vI c1) [(.int c1), (.ref MA)]) (fun t kt => ?_) ?_
   ·refine XS.iloadN X75.here hx rfl (D d6_38) rfl ?_
    exact kt
   obtain ⟨cl76, Ar76, q76, S76, N76, H76, G76⟩ := id f73
   have hin76 : ¬ (c1 < 0 ∨ cl76.slots.size ≤ (c1).toNatClampNeg) := inb_of S76 ⟨hc1.1, hl1⟩
   have hat76 : cl76.slots[(c1).toNatClampNeg]? = some (.int (own_b (Mk c1))) := H76.at hin76 (hMA _ hc1.1 hl1)
   have st76 := X75.baloadBooleans hx (j := c1) (v := (.int (own_b (Mk c1)))) (by rw [e75]; exact Ar76.1) (State.isArrayOf_alike hZ.alike Ar76.2.1) Ar76.2.2 hin76 hat76 (g := (fr_rd3 m x 39 (vR PA) (vI 1) (vI c1) [(.int c1), (.ref MA)])) rfl rfl (D d6_39)
   refine ownBy st76 ?_
   show oA p e below _ T75 (fr_rd3 m x 40 (vR PA) (vI 1) (vI c1) [(.int (own_b (Mk c1)))])
   refine oTo T75 (fr_rd3 m x 43 (vR PA) (vI 1) (vI c1) []) (fun t kt => ?_) ?_
   ·refine XS.ifNo X75.here hx rfl (D d6_40) rfl ((if0 _ _).trans (feq (own_bt0 hM1)).1) ?_
    exact kt
   refine own_getS X75 hx hZ hown (host := "") (Or.inl (Wd109 hw)) Via.refl e75 (SAL.ext X00.2) (D d6_43) (fun T77 X77 e77 => ?_)
   refine oTo T77 (fr_rd3 m x 7 (vR AA) (vI 2) (vI c1) [(.ref AA)]) (fun t kt => ?_) ?_
   ·refine XS.astoreN X77.here hx rfl (D d6_46) rfl rfl (l' := #[vR x, vR AA, vI 1, vI c1]) rfl ?_
    refine XS.iinc X77.here hx rfl (D d6_47) rfl (l' := #[vR x, vR AA, vI 2, vI c1]) rfl ?_
    refine XS.goto X77.here hx rfl (pc0 := 50) (pc' := 6) rfl (D d6_50) (by decide) (by decide) ?_
    refine XS.aloadN X77.here hx rfl (D d6_6) rfl rfl ?_
    exact kt
   refine own_getS X77 hx hZ hown (host := "") (Or.inl (Wd33 hw)) Via.refl e77 (SPL.ext X00.2) (D d6_7) (fun T78 X78 e78 => ?_)
   refine oTo T78 (fr_rd3 m x 54 (vR AA) (vI 2) (vI c1) [(.ref AA)]) (fun t kt => ?_) ?_
   ·refine Jvm.RoadKit.acmp (g := (fr_rd3 m x 10 (vR AA) (vI 2) (vI c1) [(.ref PA), (.ref AA)])) X78 hx rfl rfl rfl (pc0 := 10) (pc' := 53) (same := false) rfl (D d6_10) rfl (decide_eq_false fun q => (Ne.symm hPA) (Value.ref.inj q)) (by decide) (by decide) ?_
    refine XS.aloadN X78.here hx rfl (D d6_53) rfl rfl ?_
    exact kt
   refine ownRet X78 Bd.notSynchronized (v := some (.ref AA)) (fun h => by rw [Bd.returns] at h; cases h) ?_ (oLe rfl) (oLe rfl) (fun fs hr => retOut X78 hx Bd.returns rfl (Or.inr (Or.inr (Or.inr (Or.inr ⟨rfl, rfl, rfl⟩)))) (D d6_54) hr)
   show (Q_rd3 Z x ta kb cd z vs c0 c1 c2 PA AA MA HS H2 PG SQ EM EL kM kE ms G1 G3 h0 n0) (some (.ref AA)) T78.heap _
   rw [e78]
   exact ⟨Nh40, rfl, Or.inl ⟨Or.inr (Or.inl hM1), rfl⟩⟩
  ·skip
   by_cases hl1 : c1 < (128 : Int32)
   ·skip
    refine oTo T38 (fr_rd3 m x 28 (vR PA) (vI 1) (vI c1) [(.int c1)]) (fun t kt => ?_) ?_
    ·refine XS.iloadN Xh40.here hx rfl (D d6_27) rfl ?_
     exact kt
    refine own_getS Xh40 hx hZ hown (host := "") (Or.inl (Wd107 hw)) Via.refl Eq38 (SMK.ext X00.2) (D d6_28) (fun T79 X79 e79 => ?_)
    have f80 := KMA.ext X00.2
    obtain ⟨cl81, Ar81, -, S81, N81, -, -⟩ := id f80
    have st81 := X79.arraylength hx (by rw [e79]; exact Ar81.1) (State.isArrayOf_alike hZ.alike Ar81.2.1) (g := (fr_rd3 m x 31 (vR PA) (vI 1) (vI c1) [(.ref MA), (.int c1)])) rfl rfl (D d6_31)
    rw [len_of S81 N81] at st81
    refine ownBy st81 ?_
    show oA p e below _ T79 (fr_rd3 m x 32 (vR PA) (vI 1) (vI c1) [(iV 128), (.int c1)])
    refine oTo T79 (fr_rd3 m x 35 (vR PA) (vI 1) (vI c1) []) (fun t kt => ?_) ?_
    ·refine XS.icmpNo X79.here hx rfl (D d6_32) rfl (tlt hl1).2.1 ?_
     exact kt
    refine own_getS X79 hx hZ hown (host := "") (Or.inl (Wd107 hw)) Via.refl e79 (SMK.ext X00.2) (D d6_35) (fun T82 X82 e82 => ?_)
    refine oTo T82 (fr_rd3 m x 39 (vR PA) (vI 1) (vI c1) [(.int c1), (.ref MA)]) (fun t kt => ?_) ?_
    ·refine XS.iloadN X82.here hx rfl (D d6_38) rfl ?_
     exact kt
    obtain ⟨cl83, Ar83, q83, S83, N83, H83, G83⟩ := id f80
    have hin83 : ¬ (c1 < 0 ∨ cl83.slots.size ≤ (c1).toNatClampNeg) := inb_of S83 ⟨hc1.1, hl1⟩
    have hat83 : cl83.slots[(c1).toNatClampNeg]? = some (.int (own_b (Mk c1))) := H83.at hin83 (hMA _ hc1.1 hl1)
    have st83 := X82.baloadBooleans hx (j := c1) (v := (.int (own_b (Mk c1)))) (by rw [e82]; exact Ar83.1) (State.isArrayOf_alike hZ.alike Ar83.2.1) Ar83.2.2 hin83 hat83 (g := (fr_rd3 m x 39 (vR PA) (vI 1) (vI c1) [(.int c1), (.ref MA)])) rfl rfl (D d6_39)
    refine ownBy st83 ?_
    show oA p e below _ T82 (fr_rd3 m x 40 (vR PA) (vI 1) (vI c1) [(.int (own_b (Mk c1)))])
    refine oTo T82 (fr_rd3 m x 47 (vR PA) (vI 1) (vI c1) []) (fun t kt => ?_) ?_
    ·refine XS.ifYes X82.here hx rfl (pc0 := 40) (pc' := 47) rfl (D d6_40) rfl ((if0 _ _).trans (teq (own_bf0 hM1)).1) (by decide) (by decide) ?_
     exact kt
    exact rest1 _ _ X82 Nh40 e82 hM1
   ·skip
    refine oTo T38 (fr_rd3 m x 28 (vR PA) (vI 1) (vI c1) [(.int c1)]) (fun t kt => ?_) ?_
    ·refine XS.iloadN Xh40.here hx rfl (D d6_27) rfl ?_
     exact kt
    refine own_getS Xh40 hx hZ hown (host := "") (Or.inl (Wd107 hw)) Via.refl Eq38 (SMK.ext X00.2) (D d6_28) (fun T84 X84 e84 => ?_)
    have f85 := KMA.ext X00.2
    obtain ⟨cl86, Ar86, -, S86, N86, -, -⟩ := id f85
    have st86 := X84.arraylength hx (by rw [e84]; exact Ar86.1) (State.isArrayOf_alike hZ.alike Ar86.2.1) (g := (fr_rd3 m x 31 (vR PA) (vI 1) (vI c1) [(.ref MA), (.int c1)])) rfl rfl (D d6_31)
    rw [len_of S86 N86] at st86
    refine ownBy st86 ?_
    show oA p e below _ T84 (fr_rd3 m x 32 (vR PA) (vI 1) (vI c1) [(iV 128), (.int c1)])
    refine oTo T84 (fr_rd3 m x 47 (vR PA) (vI 1) (vI c1) []) (fun t kt => ?_) ?_
    ·refine XS.icmpYes X84.here hx rfl (pc0 := 32) (pc' := 47) rfl (D d6_32) rfl (flt hl1).2.1 (by decide) (by decide) ?_
     exact kt
    exact rest1 _ _ X84 Nh40 e84 hM1
 by_cases hM0 : Mk c0
 ·skip
  have hl0 := own_mk_lt hM0
  refine oTo T28 (fr_rd3 m x 28 (vR PA) (vI 0) (vI c0) [(.int c0)]) (fun t kt => ?_) ?_
  ·refine XS.iloadN Xh30.here hx rfl (D d6_27) rfl ?_
   exact kt
  refine own_getS Xh30 hx hZ hown (host := "") (Or.inl (Wd107 hw)) Via.refl Eq28 (SMK.ext X00.2) (D d6_28) (fun T87 X87 e87 => ?_)
  have f88 := KMA.ext X00.2
  obtain ⟨cl89, Ar89, -, S89, N89, -, -⟩ := id f88
  have st89 := X87.arraylength hx (by rw [e87]; exact Ar89.1) (State.isArrayOf_alike hZ.alike Ar89.2.1) (g := (fr_rd3 m x 31 (vR PA) (vI 0) (vI c0) [(.ref MA), (.int c0)])) rfl rfl (D d6_31)
  rw [len_of S89 N89] at st89
  refine ownBy st89 ?_
  show oA p e below _ T87 (fr_rd3 m x 32 (vR PA) (vI 0) (vI c0) [(iV 128), (.int c0)])
  refine oTo T87 (fr_rd3 m x 35 (vR PA) (vI 0) (vI c0) []) (fun t kt => ?_) ?_
  ·refine XS.icmpNo X87.here hx rfl (D d6_32) rfl (tlt hl0).2.1 ?_
   exact kt
  refine own_getS X87 hx hZ hown (host := "") (Or.inl (Wd107 hw)) Via.refl e87 (SMK.ext X00.2) (D d6_35) (fun T90 X90 e90 => ?_)
  refine oTo T90 (fr_rd3 m x 39 (vR PA) (vI 0) (vI c0) [(.int c0), (.ref MA)]) (fun t kt => ?_) ?_
  ·refine XS.iloadN X90.here hx rfl (D d6_38) rfl ?_
   exact kt
  obtain ⟨cl91, Ar91, q91, S91, N91, H91, G91⟩ := id f88
  have hin91 : ¬ (c0 < 0 ∨ cl91.slots.size ≤ (c0).toNatClampNeg) := inb_of S91 ⟨hc0.1, hl0⟩
  have hat91 : cl91.slots[(c0).toNatClampNeg]? = some (.int (own_b (Mk c0))) := H91.at hin91 (hMA _ hc0.1 hl0)
  have st91 := X90.baloadBooleans hx (j := c0) (v := (.int (own_b (Mk c0)))) (by rw [e90]; exact Ar91.1) (State.isArrayOf_alike hZ.alike Ar91.2.1) Ar91.2.2 hin91 hat91 (g := (fr_rd3 m x 39 (vR PA) (vI 0) (vI c0) [(.int c0), (.ref MA)])) rfl rfl (D d6_39)
  refine ownBy st91 ?_
  show oA p e below _ T90 (fr_rd3 m x 40 (vR PA) (vI 0) (vI c0) [(.int (own_b (Mk c0)))])
  refine oTo T90 (fr_rd3 m x 43 (vR PA) (vI 0) (vI c0) []) (fun t kt => ?_) ?_
  ·refine XS.ifNo X90.here hx rfl (D d6_40) rfl ((if0 _ _).trans (feq (own_bt0 hM0)).1) ?_
   exact kt
  refine own_getS X90 hx hZ hown (host := "") (Or.inl (Wd109 hw)) Via.refl e90 (SAL.ext X00.2) (D d6_43) (fun T92 X92 e92 => ?_)
  refine oTo T92 (fr_rd3 m x 7 (vR AA) (vI 1) (vI c0) [(.ref AA)]) (fun t kt => ?_) ?_
  ·refine XS.astoreN X92.here hx rfl (D d6_46) rfl rfl (l' := #[vR x, vR AA, vI 0, vI c0]) rfl ?_
   refine XS.iinc X92.here hx rfl (D d6_47) rfl (l' := #[vR x, vR AA, vI 1, vI c0]) rfl ?_
   refine XS.goto X92.here hx rfl (pc0 := 50) (pc' := 6) rfl (D d6_50) (by decide) (by decide) ?_
   refine XS.aloadN X92.here hx rfl (D d6_6) rfl rfl ?_
   exact kt
  refine own_getS X92 hx hZ hown (host := "") (Or.inl (Wd33 hw)) Via.refl e92 (SPL.ext X00.2) (D d6_7) (fun T93 X93 e93 => ?_)
  refine oTo T93 (fr_rd3 m x 54 (vR AA) (vI 1) (vI c0) [(.ref AA)]) (fun t kt => ?_) ?_
  ·refine Jvm.RoadKit.acmp (g := (fr_rd3 m x 10 (vR AA) (vI 1) (vI c0) [(.ref PA), (.ref AA)])) X93 hx rfl rfl rfl (pc0 := 10) (pc' := 53) (same := false) rfl (D d6_10) rfl (decide_eq_false fun q => (Ne.symm hPA) (Value.ref.inj q)) (by decide) (by decide) ?_
   refine XS.aloadN X93.here hx rfl (D d6_53) rfl rfl ?_
   exact kt
  refine ownRet X93 Bd.notSynchronized (v := some (.ref AA)) (fun h => by rw [Bd.returns] at h; cases h) ?_ (oLe rfl) (oLe rfl) (fun fs hr => retOut X93 hx Bd.returns rfl (Or.inr (Or.inr (Or.inr (Or.inr ⟨rfl, rfl, rfl⟩)))) (D d6_54) hr)
  show (Q_rd3 Z x ta kb cd z vs c0 c1 c2 PA AA MA HS H2 PG SQ EM EL kM kE ms G1 G3 h0 n0) (some (.ref AA)) T93.heap _
  rw [e93]
  exact ⟨Nh30, rfl, Or.inl ⟨Or.inl hM0, rfl⟩⟩
 ·skip
  by_cases hl0 : c0 < (128 : Int32)
  ·skip
   refine oTo T28 (fr_rd3 m x 28 (vR PA) (vI 0) (vI c0) [(.int c0)]) (fun t kt => ?_) ?_
   ·refine XS.iloadN Xh30.here hx rfl (D d6_27) rfl ?_
    exact kt
   refine own_getS Xh30 hx hZ hown (host := "") (Or.inl (Wd107 hw)) Via.refl Eq28 (SMK.ext X00.2) (D d6_28) (fun T94 X94 e94 => ?_)
   have f95 := KMA.ext X00.2
   obtain ⟨cl96, Ar96, -, S96, N96, -, -⟩ := id f95
   have st96 := X94.arraylength hx (by rw [e94]; exact Ar96.1) (State.isArrayOf_alike hZ.alike Ar96.2.1) (g := (fr_rd3 m x 31 (vR PA) (vI 0) (vI c0) [(.ref MA), (.int c0)])) rfl rfl (D d6_31)
   rw [len_of S96 N96] at st96
   refine ownBy st96 ?_
   show oA p e below _ T94 (fr_rd3 m x 32 (vR PA) (vI 0) (vI c0) [(iV 128), (.int c0)])
   refine oTo T94 (fr_rd3 m x 35 (vR PA) (vI 0) (vI c0) []) (fun t kt => ?_) ?_
   ·refine XS.icmpNo X94.here hx rfl (D d6_32) rfl (tlt hl0).2.1 ?_
    exact kt
   refine own_getS X94 hx hZ hown (host := "") (Or.inl (Wd107 hw)) Via.refl e94 (SMK.ext X00.2) (D d6_35) (fun T97 X97 e97 => ?_)
   refine oTo T97 (fr_rd3 m x 39 (vR PA) (vI 0) (vI c0) [(.int c0), (.ref MA)]) (fun t kt => ?_) ?_
   ·refine XS.iloadN X97.here hx rfl (D d6_38) rfl ?_
    exact kt
   obtain ⟨cl98, Ar98, q98, S98, N98, H98, G98⟩ := id f95
   have hin98 : ¬ (c0 < 0 ∨ cl98.slots.size ≤ (c0).toNatClampNeg) := inb_of S98 ⟨hc0.1, hl0⟩
   have hat98 : cl98.slots[(c0).toNatClampNeg]? = some (.int (own_b (Mk c0))) := H98.at hin98 (hMA _ hc0.1 hl0)
   have st98 := X97.baloadBooleans hx (j := c0) (v := (.int (own_b (Mk c0)))) (by rw [e97]; exact Ar98.1) (State.isArrayOf_alike hZ.alike Ar98.2.1) Ar98.2.2 hin98 hat98 (g := (fr_rd3 m x 39 (vR PA) (vI 0) (vI c0) [(.int c0), (.ref MA)])) rfl rfl (D d6_39)
   refine ownBy st98 ?_
   show oA p e below _ T97 (fr_rd3 m x 40 (vR PA) (vI 0) (vI c0) [(.int (own_b (Mk c0)))])
   refine oTo T97 (fr_rd3 m x 47 (vR PA) (vI 0) (vI c0) []) (fun t kt => ?_) ?_
   ·refine XS.ifYes X97.here hx rfl (pc0 := 40) (pc' := 47) rfl (D d6_40) rfl ((if0 _ _).trans (teq (own_bf0 hM0)).1) (by decide) (by decide) ?_
    exact kt
   exact rest0 _ _ X97 Nh30 e97 hM0
  ·skip
   refine oTo T28 (fr_rd3 m x 28 (vR PA) (vI 0) (vI c0) [(.int c0)]) (fun t kt => ?_) ?_
   ·refine XS.iloadN Xh30.here hx rfl (D d6_27) rfl ?_
    exact kt
   refine own_getS Xh30 hx hZ hown (host := "") (Or.inl (Wd107 hw)) Via.refl Eq28 (SMK.ext X00.2) (D d6_28) (fun T99 X99 e99 => ?_)
   have f100 := KMA.ext X00.2
   obtain ⟨cl101, Ar101, -, S101, N101, -, -⟩ := id f100
   have st101 := X99.arraylength hx (by rw [e99]; exact Ar101.1) (State.isArrayOf_alike hZ.alike Ar101.2.1) (g := (fr_rd3 m x 31 (vR PA) (vI 0) (vI c0) [(.ref MA), (.int c0)])) rfl rfl (D d6_31)
   rw [len_of S101 N101] at st101
   refine ownBy st101 ?_
   show oA p e below _ T99 (fr_rd3 m x 32 (vR PA) (vI 0) (vI c0) [(iV 128), (.int c0)])
   refine oTo T99 (fr_rd3 m x 47 (vR PA) (vI 0) (vI c0) []) (fun t kt => ?_) ?_
   ·refine XS.icmpYes X99.here hx rfl (pc0 := 32) (pc' := 47) rfl (D d6_32) rfl (flt hl0).2.1 (by decide) (by decide) ?_
    exact kt
   exact rest0 _ _ X99 Nh30 e99 hM0
abbrev fr_rd4 (m : MethodId) (x : Addr) (pc : Nat) (x1_ x2_ x3_ : Slot) (st : List Value) : JFrame := mkF m pc #[vR x, x1_, x2_, x3_] st
def Q_rd4 (Z : State) (x : Addr) (ta : Addr) (kb : ClassId) (cd : Int32) (z : Int32) (vs : List Value) (c0 : Int32) (c1 : Int32) (c2 : Int32) (c3 : Int32) (PA : Addr) (AA : Addr) (MA : Addr) (HS : Addr) (H2 : Addr) (PG : Addr) (SQ : Addr) (EM : Addr) (EL : Addr) (kM : ClassId) (kE : ClassId) (ms : List Value) (G1 : Int32) (G3 : Value) (h0 : Heap) (n0 : Nat) (v : Option Value) (h : Heap) (L : List Loc) : Prop := Fr n0 L ∧ h = h0 ∧ ((((Mk c0) ∨ (Mk c1) ∨ (Mk c2) ∨ (Mk c3)) ∧ v = some (.ref AA)) ∨ (¬ ((Mk c0) ∨ (Mk c1) ∨ (Mk c2) ∨ (Mk c3)) ∧ v = some (.ref PA)))
theorem ef_rd4 (m : MethodId) (x0 : Addr)  : entryFrame m #[(.ref x0)] 4 = mkF m 0 #[vR x0, .unset, .unset, .unset] [] := by first | (simp [entryFrame, mkF, argsToLocals, Value.category]; done) | rfl
set_option maxRecDepth 65536 in
set_option maxHeartbeats 40000000 in
theorem c_rd4 (l : Launch) (Z : State) (a0 : Array Value) (hw : HW a0 Z) (ws : List Jvm.Cond) (x : Addr) (ta : Addr) (kb : ClassId) (cd : Int32) (z : Int32) (vs : List Value) (c0 : Int32) (c1 : Int32) (c2 : Int32) (c3 : Int32) (PA : Addr) (AA : Addr) (MA : Addr) (HS : Addr) (H2 : Addr) (PG : Addr) (SQ : Addr) (EM : Addr) (EL : Addr) (kM : ClassId) (kE : ClassId) (ms : List Value) (G1 : Int32) (G3 : Value) (h0 : Heap) (n0 : Nat) (Z0 : n0 ≤ h0.size) (Es : Exa Z h0 x "java/lang/String") (Vs : Fld Z h0 x "java/lang/String" "value" "[B" (.ref ta)) (Cs : Fld Z h0 x "java/lang/String" "coder" "B" (.int cd)) (Ks : Arv Z h0 ta kb .byte z vs (iV 0)) (hrel : ((cd = (0 : Int32) ∧ z = (4 : Int32) ∧ vs = [(.int (oL c0)), (.int (oL c1)), (.int (oL c2)), (.int (oL c3))] ∧ ¬ ((255 : Int32) < c0) ∧ ¬ ((255 : Int32) < c1) ∧ ¬ ((255 : Int32) < c2) ∧ ¬ ((255 : Int32) < c3)) ∨ (cd = (1 : Int32) ∧ z = (8 : Int32) ∧ vs = [(.int (oW c0)), (.int (oH c0)), (.int (oW c1)), (.int (oH c1)), (.int (oW c2)), (.int (oH c2)), (.int (oW c3)), (.int (oH c3))] ∧ ((255 : Int32) < c0 ∨ (255 : Int32) < c1 ∨ (255 : Int32) < c2 ∨ (255 : Int32) < c3)))) (hc0 : ¬ c0 < 0 ∧ ¬ (65535 : Int32) < c0) (hc1 : ¬ c1 < 0 ∧ ¬ (65535 : Int32) < c1) (hc2 : ¬ c2 < 0 ∧ ¬ (65535 : Int32) < c2) (hc3 : ¬ c3 < 0 ∧ ¬ (65535 : Int32) < c3) (hWd : World Z PA AA MA HS H2 PG SQ EM EL kM kE ms) (O2 : Sta Z Z.heap "java/lang/String" "COMPACT_STRINGS" "Z" (.int G1)) (P5 : ¬ (G1 = (0 : Int32))) (SA : Sta Z Z.heap "java/lang/StringUTF16" "$assertionsDisabled" "Z" (iV 1)) (SHI : Sta Z Z.heap "java/lang/StringUTF16" "HI_BYTE_SHIFT" "I" (iV 0)) (SLO : Sta Z Z.heap "java/lang/StringUTF16" "LO_BYTE_SHIFT" "I" (iV 8)) (O4 : Sta Z Z.heap "jdk/internal/util/Preconditions" "SIOOBE_FORMATTER" "Ljava/util/function/BiFunction;" G3) (rG3 : G3.isRef = true) (X00 : Old Z n0 h0) :
  MetFree l yM20 (head1 (Jvm.Cond.code yM20 prog_14_method_4_code 4 (some (.object "java/util/List")) :: ws) ({ frames := 5, cells := 0, slots := 0, locals := 66 } : Room)) (fun a U => a = #[(.ref x)] ∧ Z.Warmed39 U.vm ∧ U.heap = h0) (fun _ _ _ _ _ => True) (fun _ U o U' => ∃ v L, o = .returned v ∧ (Q_rd4 Z x ta kb cd z vs c0 c1 c2 c3 PA AA MA HS H2 PG SQ EM EL kM kE ms G1 G3 h0 n0) v U'.heap L ∧ FrameEnd U o U' L ({ frames := 5, cells := 0, slots := 0, locals := 66 } : Room).cells ({ frames := 5, cells := 0, slots := 0, locals := 66 } : Room).slots) := by
 refine MetFree.of_bodySF (plainFor_of_name pn_19) hisR ?_
 intro p e s m args below meth c s₁ Bd hml0 hP hK
 obtain ⟨rfl, hZ, hHp⟩ := hP
 have hx := Bd.exec
 have D := fun {pc : Nat} {r} (h : decode _ pc = r) => hb Bd.bytes h
 have hml : c.maxLocals = 4 := hml0
 have hown : s.vm.findClass "com/example/savepoint/savepoint/SqlDialect" = some m.cls := findClass_of_methodNamed Bd.named
 have hnm := (name_of_methodNamed Bd.named Bd.method).1
 have X0 : Stand p l e ({ frames := 5, cells := 0, slots := 0, locals := 66 } : Room) s m #[(.ref x)] below meth c s₁ [] 0 0 := Stand.of_body Bd
 have e0 : s₁.heap = h0 := by rw [← hHp, Bd.state]; rfl
 have N0 := Fr.nil n0
 refine ownOut (P := (Q_rd4 Z x ta kb cd z vs c0 c1 c2 c3 PA AA MA HS H2 PG SQ EM EL kM kE ms G1 G3 h0 n0)) ?_
 refine ownBy (A := s₁.setTop (mkF m 0 #[vR x, .unset, .unset, .unset] [])) (fun t k => castTop (ef_rd4 m x) k) ?_
 have hWe := hWd
 obtain ⟨SPL, SAL, SMK, SHS, SH2, SPG, SSQ, SEM, EPA, EAA, FE1, FE0, FEL, KEL, KMA, hMA, hPA⟩ := hWe
 refine own_getS X0 hx hZ hown (host := "") (Or.inl (Wd33 hw)) Via.refl e0 (SPL.ext X00.2) (D d6_0) (fun T21 X21 e21 => ?_)
 refine oTo T21 (fr_rd4 m x 7 (vR PA) (vI 0) .unset [(.ref PA)]) (fun t kt => ?_) ?_
 ·refine XS.astoreN X21.here hx rfl (D d6_3) rfl rfl (l' := #[vR x, vR PA, .unset, .unset]) rfl ?_
  refine XS.iconst X21.here hx rfl (D d6_4) ?_
  refine XS.istoreN X21.here hx rfl (D d6_5) rfl (l' := #[vR x, vR PA, vI 0, .unset]) rfl ?_
  refine XS.aloadN X21.here hx rfl (D d6_6) rfl rfl ?_
  exact kt
 refine own_getS X21 hx hZ hown (host := "") (Or.inl (Wd33 hw)) Via.refl e21 (SPL.ext X00.2) (D d6_7) (fun T22 X22 e22 => ?_)
 refine oTo T22 (fr_rd4 m x 15 (vR PA) (vI 0) .unset [(.ref x), (iV 0)]) (fun t kt => ?_) ?_
 ·refine Jvm.RoadKit.acmp (g := (fr_rd4 m x 10 (vR PA) (vI 0) .unset [(.ref PA), (.ref PA)])) X22 hx rfl rfl rfl (pc0 := 10) (pc' := 13) (same := true) rfl (D d6_10) rfl (decide_eq_true rfl) (by decide) (by decide) ?_
  refine XS.iloadN X22.here hx rfl (D d6_13) rfl ?_
  refine XS.aloadN X22.here hx rfl (D d6_14) rfl rfl ?_
  exact kt
 have hL23 : (cd = (0 : Int32) ∧ (z >>> ((0 : Int32) &&& 31)) = (4 : Int32)) ∨ (cd = (1 : Int32) ∧ (z >>> ((1 : Int32) &&& 31)) = (4 : Int32)) := by
  rcases hrel with ⟨h1, h2, -⟩ | ⟨h1, h2, -⟩
  ·exact Or.inl ⟨h1, by rw [h2]; decide +kernel⟩
  ·exact Or.inr ⟨h1, by rw [h2]; decide +kernel⟩
 obtain ⟨cq24, kq24, q24a, q24b, q24c⟩ := isOf hZ e22 Es
 obtain ⟨vv24, _, ⟨T24, L24, k24, n24⟩, -, X24, ⟨Lc24, hQ24, l24, y24, z24⟩, st24⟩ := X22.virtualBack hx (y := yM12) (z := yM12) hown (mvT hZ (Wd35 hw)) (mvT hZ (Wd36 hw)) (notFace_of_selects (args := #[]) (mvT hZ (Wd38 hw))) (mvT hZ (Wd38 hw)) (mvT hZ (Wd37 hw)) (by decide) (backOf (W := 1) (c_leng l Z a0 hw [] x ta kb cd z vs (4 : Int32) G1 h0 n0 Z0 Es Vs Cs Ks hL23 O2 P5 X00) hZ (Wd39 hw) (Wd9 hw) (by decide) (by decide)) q24a q24c (g := (fr_rd4 m x 15 (vR PA) (vI 0) .unset [(.ref x), (iV 0)])) rfl (by rw [hml]; rfl) (Steps.refl _) (argsL := []) (rest := [(iV 0)]) (lenOf pd_20 rfl) rfl (by show 2 * 0 + _ ≤ _; exact Nat.le_of_eq rfl) (D d6_15) (fun _ _ => ⟨rfl, e22, (by decide : 0 + 0 ≤ _), (by decide : 0 + 0 ≤ _)⟩)
 dsimp only [Pt.U, Pt.locs, Pt.cells, Pt.slots] at X24 l24 y24 z24 st24 hQ24
 subst l24 y24 z24
 obtain ⟨rfl, Nq24, Eq24⟩ := hQ24
 have N25 := Fr.app N0 Nq24
 obtain ⟨Lh26, Xh26, Nh26⟩ := oHd 0 0 X24 N25 rfl rfl
 refine ownSt st24 ?_
 clear st24
 show oA p e below _ T24 (fr_rd4 m x 18 (vR PA) (vI 0) .unset [(iV 4), (iV 0)])
 refine oTo T24 (fr_rd4 m x 23 (vR PA) (vI 0) .unset [(iV 0), (.ref x)]) (fun t kt => ?_) ?_
 ·refine XS.icmpNo Xh26.here hx rfl (D d6_18) rfl (tlt ((by decide) : (0 : Int32) < (4 : Int32))).2.1 ?_
  refine XS.aloadN Xh26.here hx rfl (D d6_21) rfl rfl ?_
  refine XS.iloadN Xh26.here hx rfl (D d6_22) rfl ?_
  exact kt
 have hR27 : (cd = (0 : Int32) ∧ (¬ (0 : Int32) < (0 : Int32) ∧ (0 : Int32) < z) ∧ (0 : Int32).toNatClampNeg = 0 ∧ vs.getD 0 (iV 0) = .int (oL c0) ∧ ¬ ((255 : Int32) < c0)) ∨ (cd = (1 : Int32) ∧ (¬ (0 : Int32) < (0 : Int32) ∧ (0 : Int32) < (4 : Int32)) ∧ (z >>> ((1 : Int32) &&& 31)) = (4 : Int32) ∧ (¬ ((0 : Int32) <<< ((1 : Int32) &&& 31)) < 0 ∧ ((0 : Int32) <<< ((1 : Int32) &&& 31)) < z) ∧ (¬ (((0 : Int32) <<< ((1 : Int32) &&& 31)) + (1 : Int32)) < 0 ∧ (((0 : Int32) <<< ((1 : Int32) &&& 31)) + (1 : Int32)) < z) ∧ ((0 : Int32) <<< ((1 : Int32) &&& 31)).toNatClampNeg = 0 ∧ (((0 : Int32) <<< ((1 : Int32) &&& 31)) + (1 : Int32)).toNatClampNeg = 0 + 1 ∧ vs.getD 0 (iV 0) = .int (oW c0) ∧ vs.getD (0 + 1) (iV 0) = .int (oH c0)) := by
  rcases hrel with ⟨h1, h2, h3, g0, g1, g2, g3⟩ | ⟨h1, h2, h3, -⟩
  ·exact Or.inl ⟨h1, by rw [h2]; decide +kernel, rfl, by rw [h3]; rfl, g0⟩
  ·exact Or.inr ⟨h1, by decide +kernel, by rw [h2]; decide +kernel, by rw [h2]; decide +kernel, by rw [h2]; decide +kernel, by decide +kernel, by decide +kernel, by rw [h3]; rfl, by rw [h3]; rfl⟩
 obtain ⟨cq28, kq28, q28a, q28b, q28c⟩ := isOf hZ Eq24 Es
 obtain ⟨vv28, _, ⟨T28, L28, k28, n28⟩, -, X28, ⟨Lc28, hQ28, l28, y28, z28⟩, st28⟩ := Xh26.virtualBack hx (y := yM19) (z := yM19) hown (mvT hZ (Wd85 hw)) (mvT hZ (Wd86 hw)) (notFace_of_selects (args := #[]) (mvT hZ (Wd88 hw))) (mvT hZ (Wd88 hw)) (mvT hZ (Wd87 hw)) (by decide) (backOf (W := 0) (c_chat l Z a0 hw [] x ta kb cd z vs (0 : Int32) c0 0 0 (4 : Int32) G1 G3 h0 n0 Z0 Es Vs Cs Ks hc0 hR27 O2 P5 SA SHI SLO O4 rG3 X00) hZ (Wd89 hw) (Wd9 hw) (by decide) (by decide)) q28a q28c (g := (fr_rd4 m x 23 (vR PA) (vI 0) .unset [(iV 0), (.ref x)])) rfl (by rw [hml]; rfl) (Steps.refl _) (argsL := [(iV 0)]) (rest := []) (lenOf pd_21 rfl) rfl (by show 2 * 0 + _ ≤ _; exact Nat.le_of_eq rfl) (D d6_23) (fun _ _ => ⟨rfl, Eq24, (by decide : 0 + 0 ≤ _), (by decide : 0 + 0 ≤ _)⟩)
 dsimp only [Pt.U, Pt.locs, Pt.cells, Pt.slots] at X28 l28 y28 z28 st28 hQ28
 subst l28 y28 z28
 obtain ⟨rfl, Nq28, Eq28⟩ := hQ28
 have N29 := Fr.app Nh26 Nq28
 obtain ⟨Lh30, Xh30, Nh30⟩ := oHd 0 0 X28 N29 rfl rfl
 refine ownSt st28 ?_
 clear st28
 show oA p e below _ T28 (fr_rd4 m x 26 (vR PA) (vI 0) .unset [(.int c0)])
 refine oTo T28 (fr_rd4 m x 27 (vR PA) (vI 0) (vI c0) []) (fun t kt => ?_) ?_
 ·refine XS.istoreN Xh30.here hx rfl (D d6_26) rfl (l' := #[vR x, vR PA, vI 0, vI c0]) rfl ?_
  exact kt
 have rest0 : ∀ (T : State) (Lx : List Loc), Stand p l e ({ frames := 5, cells := 0, slots := 0, locals := 66 } : Room) s m #[(.ref x)] below meth c T Lx 0 0 → Fr n0 Lx → T.heap = h0 → ¬ (Mk c0) → ownG p.tables e below (ownE s below (Q_rd4 Z x ta kb cd z vs c0 c1 c2 c3 PA AA MA HS H2 PG SQ EM EL kM kE ms G1 G3 h0 n0) ({ frames := 5, cells := 0, slots := 0, locals := 66 } : Room).cells ({ frames := 5, cells := 0, slots := 0, locals := 66 } : Room).slots) (T.setTop (fr_rd4 m x 47 (vR PA) (vI 0) (vI c0) [])) := by
  intro T31 L31 X31 N31 e31 hN0
  refine oTo T31 (fr_rd4 m x 7 (vR PA) (vI 1) (vI c0) [(.ref PA)]) (fun t kt => ?_) ?_
  ·refine XS.iinc X31.here hx rfl (D d6_47) rfl (l' := #[vR x, vR PA, vI 1, vI c0]) rfl ?_
   refine XS.goto X31.here hx rfl (pc0 := 50) (pc' := 6) rfl (D d6_50) (by decide) (by decide) ?_
   refine XS.aloadN X31.here hx rfl (D d6_6) rfl rfl ?_
   exact kt
  refine own_getS X31 hx hZ hown (host := "") (Or.inl (Wd33 hw)) Via.refl e31 (SPL.ext X00.2) (D d6_7) (fun T32 X32 e32 => ?_)
  refine oTo T32 (fr_rd4 m x 15 (vR PA) (vI 1) (vI c0) [(.ref x), (iV 1)]) (fun t kt => ?_) ?_
  ·refine Jvm.RoadKit.acmp (g := (fr_rd4 m x 10 (vR PA) (vI 1) (vI c0) [(.ref PA), (.ref PA)])) X32 hx rfl rfl rfl (pc0 := 10) (pc' := 13) (same := true) rfl (D d6_10) rfl (decide_eq_true rfl) (by decide) (by decide) ?_
   refine XS.iloadN X32.here hx rfl (D d6_13) rfl ?_
   refine XS.aloadN X32.here hx rfl (D d6_14) rfl rfl ?_
   exact kt
  have hL33 : (cd = (0 : Int32) ∧ (z >>> ((0 : Int32) &&& 31)) = (4 : Int32)) ∨ (cd = (1 : Int32) ∧ (z >>> ((1 : Int32) &&& 31)) = (4 : Int32)) := by
   rcases hrel with ⟨h1, h2, -⟩ | ⟨h1, h2, -⟩
   ·exact Or.inl ⟨h1, by rw [h2]; decide +kernel⟩
   ·exact Or.inr ⟨h1, by rw [h2]; decide +kernel⟩
  obtain ⟨cq34, kq34, q34a, q34b, q34c⟩ := isOf hZ e32 Es
  obtain ⟨vv34, _, ⟨T34, L34, k34, n34⟩, -, X34, ⟨Lc34, hQ34, l34, y34, z34⟩, st34⟩ := X32.virtualBack hx (y := yM12) (z := yM12) hown (mvT hZ (Wd35 hw)) (mvT hZ (Wd36 hw)) (notFace_of_selects (args := #[]) (mvT hZ (Wd38 hw))) (mvT hZ (Wd38 hw)) (mvT hZ (Wd37 hw)) (by decide) (backOf (W := 1) (c_leng l Z a0 hw [] x ta kb cd z vs (4 : Int32) G1 h0 n0 Z0 Es Vs Cs Ks hL33 O2 P5 X00) hZ (Wd39 hw) (Wd9 hw) (by decide) (by decide)) q34a q34c (g := (fr_rd4 m x 15 (vR PA) (vI 1) (vI c0) [(.ref x), (iV 1)])) rfl (by rw [hml]; rfl) (Steps.refl _) (argsL := []) (rest := [(iV 1)]) (lenOf pd_20 rfl) rfl (by show 2 * 0 + _ ≤ _; exact Nat.le_of_eq rfl) (D d6_15) (fun _ _ => ⟨rfl, e32, (by decide : 0 + 0 ≤ _), (by decide : 0 + 0 ≤ _)⟩)
  dsimp only [Pt.U, Pt.locs, Pt.cells, Pt.slots] at X34 l34 y34 z34 st34 hQ34
  subst l34 y34 z34
  obtain ⟨rfl, Nq34, Eq34⟩ := hQ34
  have N35 := Fr.app N31 Nq34
  obtain ⟨Lh36, Xh36, Nh36⟩ := oHd 0 0 X34 N35 rfl rfl
  refine ownSt st34 ?_
  clear st34
  show oA p e below _ T34 (fr_rd4 m x 18 (vR PA) (vI 1) (vI c0) [(iV 4), (iV 1)])
  refine oTo T34 (fr_rd4 m x 23 (vR PA) (vI 1) (vI c0) [(iV 1), (.ref x)]) (fun t kt => ?_) ?_
  ·refine XS.icmpNo Xh36.here hx rfl (D d6_18) rfl (tlt ((by decide) : (1 : Int32) < (4 : Int32))).2.1 ?_
   refine XS.aloadN Xh36.here hx rfl (D d6_21) rfl rfl ?_
   refine XS.iloadN Xh36.here hx rfl (D d6_22) rfl ?_
   exact kt
  have hR37 : (cd = (0 : Int32) ∧ (¬ (1 : Int32) < (0 : Int32) ∧ (1 : Int32) < z) ∧ (1 : Int32).toNatClampNeg = 1 ∧ vs.getD 1 (iV 0) = .int (oL c1) ∧ ¬ ((255 : Int32) < c1)) ∨ (cd = (1 : Int32) ∧ (¬ (1 : Int32) < (0 : Int32) ∧ (1 : Int32) < (4 : Int32)) ∧ (z >>> ((1 : Int32) &&& 31)) = (4 : Int32) ∧ (¬ ((1 : Int32) <<< ((1 : Int32) &&& 31)) < 0 ∧ ((1 : Int32) <<< ((1 : Int32) &&& 31)) < z) ∧ (¬ (((1 : Int32) <<< ((1 : Int32) &&& 31)) + (1 : Int32)) < 0 ∧ (((1 : Int32) <<< ((1 : Int32) &&& 31)) + (1 : Int32)) < z) ∧ ((1 : Int32) <<< ((1 : Int32) &&& 31)).toNatClampNeg = 2 ∧ (((1 : Int32) <<< ((1 : Int32) &&& 31)) + (1 : Int32)).toNatClampNeg = 2 + 1 ∧ vs.getD 2 (iV 0) = .int (oW c1) ∧ vs.getD (2 + 1) (iV 0) = .int (oH c1)) := by
   rcases hrel with ⟨h1, h2, h3, g0, g1, g2, g3⟩ | ⟨h1, h2, h3, -⟩
   ·exact Or.inl ⟨h1, by rw [h2]; decide +kernel, rfl, by rw [h3]; rfl, g1⟩
   ·exact Or.inr ⟨h1, by decide +kernel, by rw [h2]; decide +kernel, by rw [h2]; decide +kernel, by rw [h2]; decide +kernel, by decide +kernel, by decide +kernel, by rw [h3]; rfl, by rw [h3]; rfl⟩
  obtain ⟨cq38, kq38, q38a, q38b, q38c⟩ := isOf hZ Eq34 Es
  obtain ⟨vv38, _, ⟨T38, L38, k38, n38⟩, -, X38, ⟨Lc38, hQ38, l38, y38, z38⟩, st38⟩ := Xh36.virtualBack hx (y := yM19) (z := yM19) hown (mvT hZ (Wd85 hw)) (mvT hZ (Wd86 hw)) (notFace_of_selects (args := #[]) (mvT hZ (Wd88 hw))) (mvT hZ (Wd88 hw)) (mvT hZ (Wd87 hw)) (by decide) (backOf (W := 0) (c_chat l Z a0 hw [] x ta kb cd z vs (1 : Int32) c1 1 2 (4 : Int32) G1 G3 h0 n0 Z0 Es Vs Cs Ks hc1 hR37 O2 P5 SA SHI SLO O4 rG3 X00) hZ (Wd89 hw) (Wd9 hw) (by decide) (by decide)) q38a q38c (g := (fr_rd4 m x 23 (vR PA) (vI 1) (vI c0) [(iV 1), (.ref x)])) rfl (by rw [hml]; rfl) (Steps.refl _) (argsL := [(iV 1)]) (rest := []) (lenOf pd_21 rfl) rfl (by show 2 * 0 + _ ≤ _; exact Nat.le_of_eq rfl) (D d6_23) (fun _ _ => ⟨rfl, Eq34, (by decide : 0 + 0 ≤ _), (by decide : 0 + 0 ≤ _)⟩)
  dsimp only [Pt.U, Pt.locs, Pt.cells, Pt.slots] at X38 l38 y38 z38 st38 hQ38
  subst l38 y38 z38
  obtain ⟨rfl, Nq38, Eq38⟩ := hQ38
  have N39 := Fr.app Nh36 Nq38
  obtain ⟨Lh40, Xh40, Nh40⟩ := oHd 0 0 X38 N39 rfl rfl
  refine ownSt st38 ?_
  clear st38
  show oA p e below _ T38 (fr_rd4 m x 26 (vR PA) (vI 1) (vI c0) [(.int c1)])
  refine oTo T38 (fr_rd4 m x 27 (vR PA) (vI 1) (vI c1) []) (fun t kt => ?_) ?_
  ·refine XS.istoreN Xh40.here hx rfl (D d6_26) rfl (l' := #[vR x, vR PA, vI 1, vI c1]) rfl ?_
   exact kt
  have rest1 : ∀ (T : State) (Lx : List Loc), Stand p l e ({ frames := 5, cells := 0, slots := 0, locals := 66 } : Room) s m #[(.ref x)] below meth c T Lx 0 0 → Fr n0 Lx → T.heap = h0 → ¬ (Mk c1) → ownG p.tables e below (ownE s below (Q_rd4 Z x ta kb cd z vs c0 c1 c2 c3 PA AA MA HS H2 PG SQ EM EL kM kE ms G1 G3 h0 n0) ({ frames := 5, cells := 0, slots := 0, locals := 66 } : Room).cells ({ frames := 5, cells := 0, slots := 0, locals := 66 } : Room).slots) (T.setTop (fr_rd4 m x 47 (vR PA) (vI 1) (vI c1) [])) := by
   intro T41 L41 X41 N41 e41 hN1
   refine oTo T41 (fr_rd4 m x 7 (vR PA) (vI 2) (vI c1) [(.ref PA)]) (fun t kt => ?_) ?_
   ·refine XS.iinc X41.here hx rfl (D d6_47) rfl (l' := #[vR x, vR PA, vI 2, vI c1]) rfl ?_
    refine XS.goto X41.here hx rfl (pc0 := 50) (pc' := 6) rfl (D d6_50) (by decide) (by decide) ?_
    refine XS.aloadN X41.here hx rfl (D d6_6) rfl rfl ?_
    exact kt
   refine own_getS X41 hx hZ hown (host := "") (Or.inl (Wd33 hw)) Via.refl e41 (SPL.ext X00.2) (D d6_7) (fun T42 X42 e42 => ?_)
   refine oTo T42 (fr_rd4 m x 15 (vR PA) (vI 2) (vI c1) [(.ref x), (iV 2)]) (fun t kt => ?_) ?_
   ·refine Jvm.RoadKit.acmp (g := (fr_rd4 m x 10 (vR PA) (vI 2) (vI c1) [(.ref PA), (.ref PA)])) X42 hx rfl rfl rfl (pc0 := 10) (pc' := 13) (same := true) rfl (D d6_10) rfl (decide_eq_true rfl) (by decide) (by decide) ?_
    refine XS.iloadN X42.here hx rfl (D d6_13) rfl ?_
    refine XS.aloadN X42.here hx rfl (D d6_14) rfl rfl ?_
    exact kt
   have hL43 : (cd = (0 : Int32) ∧ (z >>> ((0 : Int32) &&& 31)) = (4 : Int32)) ∨ (cd = (1 : Int32) ∧ (z >>> ((1 : Int32) &&& 31)) = (4 : Int32)) := by
    rcases hrel with ⟨h1, h2, -⟩ | ⟨h1, h2, -⟩
    ·exact Or.inl ⟨h1, by rw [h2]; decide +kernel⟩
    ·exact Or.inr ⟨h1, by rw [h2]; decide +kernel⟩
   obtain ⟨cq44, kq44, q44a, q44b, q44c⟩ := isOf hZ e42 Es
   obtain ⟨vv44, _, ⟨T44, L44, k44, n44⟩, -, X44, ⟨Lc44, hQ44, l44, y44, z44⟩, st44⟩ := X42.virtualBack hx (y := yM12) (z := yM12) hown (mvT hZ (Wd35 hw)) (mvT hZ (Wd36 hw)) (notFace_of_selects (args := #[]) (mvT hZ (Wd38 hw))) (mvT hZ (Wd38 hw)) (mvT hZ (Wd37 hw)) (by decide) (backOf (W := 1) (c_leng l Z a0 hw [] x ta kb cd z vs (4 : Int32) G1 h0 n0 Z0 Es Vs Cs Ks hL43 O2 P5 X00) hZ (Wd39 hw) (Wd9 hw) (by decide) (by decide)) q44a q44c (g := (fr_rd4 m x 15 (vR PA) (vI 2) (vI c1) [(.ref x), (iV 2)])) rfl (by rw [hml]; rfl) (Steps.refl _) (argsL := []) (rest := [(iV 2)]) (lenOf pd_20 rfl) rfl (by show 2 * 0 + _ ≤ _; exact Nat.le_of_eq rfl) (D d6_15) (fun _ _ => ⟨rfl, e42, (by decide : 0 + 0 ≤ _), (by decide : 0 + 0 ≤ _)⟩)
   dsimp only [Pt.U, Pt.locs, Pt.cells, Pt.slots] at X44 l44 y44 z44 st44 hQ44
   subst l44 y44 z44
   obtain ⟨rfl, Nq44, Eq44⟩ := hQ44
   have N45 := Fr.app N41 Nq44
   obtain ⟨Lh46, Xh46, Nh46⟩ := oHd 0 0 X44 N45 rfl rfl
   refine ownSt st44 ?_
   clear st44
   show oA p e below _ T44 (fr_rd4 m x 18 (vR PA) (vI 2) (vI c1) [(iV 4), (iV 2)])
   refine oTo T44 (fr_rd4 m x 23 (vR PA) (vI 2) (vI c1) [(iV 2), (.ref x)]) (fun t kt => ?_) ?_
   ·refine XS.icmpNo Xh46.here hx rfl (D d6_18) rfl (tlt ((by decide) : (2 : Int32) < (4 : Int32))).2.1 ?_
    refine XS.aloadN Xh46.here hx rfl (D d6_21) rfl rfl ?_
    refine XS.iloadN Xh46.here hx rfl (D d6_22) rfl ?_
    exact kt
   have hR47 : (cd = (0 : Int32) ∧ (¬ (2 : Int32) < (0 : Int32) ∧ (2 : Int32) < z) ∧ (2 : Int32).toNatClampNeg = 2 ∧ vs.getD 2 (iV 0) = .int (oL c2) ∧ ¬ ((255 : Int32) < c2)) ∨ (cd = (1 : Int32) ∧ (¬ (2 : Int32) < (0 : Int32) ∧ (2 : Int32) < (4 : Int32)) ∧ (z >>> ((1 : Int32) &&& 31)) = (4 : Int32) ∧ (¬ ((2 : Int32) <<< ((1 : Int32) &&& 31)) < 0 ∧ ((2 : Int32) <<< ((1 : Int32) &&& 31)) < z) ∧ (¬ (((2 : Int32) <<< ((1 : Int32) &&& 31)) + (1 : Int32)) < 0 ∧ (((2 : Int32) <<< ((1 : Int32) &&& 31)) + (1 : Int32)) < z) ∧ ((2 : Int32) <<< ((1 : Int32) &&& 31)).toNatClampNeg = 4 ∧ (((2 : Int32) <<< ((1 : Int32) &&& 31)) + (1 : Int32)).toNatClampNeg = 4 + 1 ∧ vs.getD 4 (iV 0) = .int (oW c2) ∧ vs.getD (4 + 1) (iV 0) = .int (oH c2)) := by
    rcases hrel with ⟨h1, h2, h3, g0, g1, g2, g3⟩ | ⟨h1, h2, h3, -⟩
    ·exact Or.inl ⟨h1, by rw [h2]; decide +kernel, rfl, by rw [h3]; rfl, g2⟩
    ·exact Or.inr ⟨h1, by decide +kernel, by rw [h2]; decide +kernel, by rw [h2]; decide +kernel, by rw [h2]; decide +kernel, by decide +kernel, by decide +kernel, by rw [h3]; rfl, by rw [h3]; rfl⟩
   obtain ⟨cq48, kq48, q48a, q48b, q48c⟩ := isOf hZ Eq44 Es
   obtain ⟨vv48, _, ⟨T48, L48, k48, n48⟩, -, X48, ⟨Lc48, hQ48, l48, y48, z48⟩, st48⟩ := Xh46.virtualBack hx (y := yM19) (z := yM19) hown (mvT hZ (Wd85 hw)) (mvT hZ (Wd86 hw)) (notFace_of_selects (args := #[]) (mvT hZ (Wd88 hw))) (mvT hZ (Wd88 hw)) (mvT hZ (Wd87 hw)) (by decide) (backOf (W := 0) (c_chat l Z a0 hw [] x ta kb cd z vs (2 : Int32) c2 2 4 (4 : Int32) G1 G3 h0 n0 Z0 Es Vs Cs Ks hc2 hR47 O2 P5 SA SHI SLO O4 rG3 X00) hZ (Wd89 hw) (Wd9 hw) (by decide) (by decide)) q48a q48c (g := (fr_rd4 m x 23 (vR PA) (vI 2) (vI c1) [(iV 2), (.ref x)])) rfl (by rw [hml]; rfl) (Steps.refl _) (argsL := [(iV 2)]) (rest := []) (lenOf pd_21 rfl) rfl (by show 2 * 0 + _ ≤ _; exact Nat.le_of_eq rfl) (D d6_23) (fun _ _ => ⟨rfl, Eq44, (by decide : 0 + 0 ≤ _), (by decide : 0 + 0 ≤ _)⟩)
   dsimp only [Pt.U, Pt.locs, Pt.cells, Pt.slots] at X48 l48 y48 z48 st48 hQ48
   subst l48 y48 z48
   obtain ⟨rfl, Nq48, Eq48⟩ := hQ48
   have N49 := Fr.app Nh46 Nq48
   obtain ⟨Lh50, Xh50, Nh50⟩ := oHd 0 0 X48 N49 rfl rfl
   refine ownSt st48 ?_
   clear st48
   show oA p e below _ T48 (fr_rd4 m x 26 (vR PA) (vI 2) (vI c1) [(.int c2)])
   refine oTo T48 (fr_rd4 m x 27 (vR PA) (vI 2) (vI c2) []) (fun t kt => ?_) ?_
   ·refine XS.istoreN Xh50.here hx rfl (D d6_26) rfl (l' := #[vR x, vR PA, vI 2, vI c2]) rfl ?_
    exact kt
   have rest2 : ∀ (T : State) (Lx : List Loc), Stand p l e ({ frames := 5, cells := 0, slots := 0, locals := 66 } : Room) s m #[(.ref x)] below meth c T Lx 0 0 → Fr n0 Lx → T.heap = h0 → ¬ (Mk c2) → ownG p.tables e below (ownE s below (Q_rd4 Z x ta kb cd z vs c0 c1 c2 c3 PA AA MA HS H2 PG SQ EM EL kM kE ms G1 G3 h0 n0) ({ frames := 5, cells := 0, slots := 0, locals := 66 } : Room).cells ({ frames := 5, cells := 0, slots := 0, locals := 66 } : Room).slots) (T.setTop (fr_rd4 m x 47 (vR PA) (vI 2) (vI c2) [])) := by
    intro T51 L51 X51 N51 e51 hN2
    refine oTo T51 (fr_rd4 m x 7 (vR PA) (vI 3) (vI c2) [(.ref PA)]) (fun t kt => ?_) ?_
    ·refine XS.iinc X51.here hx rfl (D d6_47) rfl (l' := #[vR x, vR PA, vI 3, vI c2]) rfl ?_
     refine XS.goto X51.here hx rfl (pc0 := 50) (pc' := 6) rfl (D d6_50) (by decide) (by decide) ?_
     refine XS.aloadN X51.here hx rfl (D d6_6) rfl rfl ?_
     exact kt
    refine own_getS X51 hx hZ hown (host := "") (Or.inl (Wd33 hw)) Via.refl e51 (SPL.ext X00.2) (D d6_7) (fun T52 X52 e52 => ?_)
    refine oTo T52 (fr_rd4 m x 15 (vR PA) (vI 3) (vI c2) [(.ref x), (iV 3)]) (fun t kt => ?_) ?_
    ·refine Jvm.RoadKit.acmp (g := (fr_rd4 m x 10 (vR PA) (vI 3) (vI c2) [(.ref PA), (.ref PA)])) X52 hx rfl rfl rfl (pc0 := 10) (pc' := 13) (same := true) rfl (D d6_10) rfl (decide_eq_true rfl) (by decide) (by decide) ?_
     refine XS.iloadN X52.here hx rfl (D d6_13) rfl ?_
     refine XS.aloadN X52.here hx rfl (D d6_14) rfl rfl ?_
     exact kt
    have hL53 : (cd = (0 : Int32) ∧ (z >>> ((0 : Int32) &&& 31)) = (4 : Int32)) ∨ (cd = (1 : Int32) ∧ (z >>> ((1 : Int32) &&& 31)) = (4 : Int32)) := by
     rcases hrel with ⟨h1, h2, -⟩ | ⟨h1, h2, -⟩
     ·exact Or.inl ⟨h1, by rw [h2]; decide +kernel⟩
     ·exact Or.inr ⟨h1, by rw [h2]; decide +kernel⟩
    obtain ⟨cq54, kq54, q54a, q54b, q54c⟩ := isOf hZ e52 Es
    obtain ⟨vv54, _, ⟨T54, L54, k54, n54⟩, -, X54, ⟨Lc54, hQ54, l54, y54, z54⟩, st54⟩ := X52.virtualBack hx (y := yM12) (z := yM12) hown (mvT hZ (Wd35 hw)) (mvT hZ (Wd36 hw)) (notFace_of_selects (args := #[]) (mvT hZ (Wd38 hw))) (mvT hZ (Wd38 hw)) (mvT hZ (Wd37 hw)) (by decide) (backOf (W := 1) (c_leng l Z a0 hw [] x ta kb cd z vs (4 : Int32) G1 h0 n0 Z0 Es Vs Cs Ks hL53 O2 P5 X00) hZ (Wd39 hw) (Wd9 hw) (by decide) (by decide)) q54a q54c (g := (fr_rd4 m x 15 (vR PA) (vI 3) (vI c2) [(.ref x), (iV 3)])) rfl (by rw [hml]; rfl) (Steps.refl _) (argsL := []) (rest := [(iV 3)]) (lenOf pd_20 rfl) rfl (by show 2 * 0 + _ ≤ _; exact Nat.le_of_eq rfl) (D d6_15) (fun _ _ => ⟨rfl, e52, (by decide : 0 + 0 ≤ _), (by decide : 0 + 0 ≤ _)⟩)
    dsimp only [Pt.U, Pt.locs, Pt.cells, Pt.slots] at X54 l54 y54 z54 st54 hQ54
    subst l54 y54 z54
    obtain ⟨rfl, Nq54, Eq54⟩ := hQ54
    have N55 := Fr.app N51 Nq54
    obtain ⟨Lh56, Xh56, Nh56⟩ := oHd 0 0 X54 N55 rfl rfl
    refine ownSt st54 ?_
    clear st54
    show oA p e below _ T54 (fr_rd4 m x 18 (vR PA) (vI 3) (vI c2) [(iV 4), (iV 3)])
    refine oTo T54 (fr_rd4 m x 23 (vR PA) (vI 3) (vI c2) [(iV 3), (.ref x)]) (fun t kt => ?_) ?_
    ·refine XS.icmpNo Xh56.here hx rfl (D d6_18) rfl (tlt ((by decide) : (3 : Int32) < (4 : Int32))).2.1 ?_
     refine XS.aloadN Xh56.here hx rfl (D d6_21) rfl rfl ?_
     refine XS.iloadN Xh56.here hx rfl (D d6_22) rfl ?_
     exact kt
    have hR57 : (cd = (0 : Int32) ∧ (¬ (3 : Int32) < (0 : Int32) ∧ (3 : Int32) < z) ∧ (3 : Int32).toNatClampNeg = 3 ∧ vs.getD 3 (iV 0) = .int (oL c3) ∧ ¬ ((255 : Int32) < c3)) ∨ (cd = (1 : Int32) ∧ (¬ (3 : Int32) < (0 : Int32) ∧ (3 : Int32) < (4 : Int32)) ∧ (z >>> ((1 : Int32) &&& 31)) = (4 : Int32) ∧ (¬ ((3 : Int32) <<< ((1 : Int32) &&& 31)) < 0 ∧ ((3 : Int32) <<< ((1 : Int32) &&& 31)) < z) ∧ (¬ (((3 : Int32) <<< ((1 : Int32) &&& 31)) + (1 : Int32)) < 0 ∧ (((3 : Int32) <<< ((1 : Int32) &&& 31)) + (1 : Int32)) < z) ∧ ((3 : Int32) <<< ((1 : Int32) &&& 31)).toNatClampNeg = 6 ∧ (((3 : Int32) <<< ((1 : Int32) &&& 31)) + (1 : Int32)).toNatClampNeg = 6 + 1 ∧ vs.getD 6 (iV 0) = .int (oW c3) ∧ vs.getD (6 + 1) (iV 0) = .int (oH c3)) := by
     rcases hrel with ⟨h1, h2, h3, g0, g1, g2, g3⟩ | ⟨h1, h2, h3, -⟩
     ·exact Or.inl ⟨h1, by rw [h2]; decide +kernel, rfl, by rw [h3]; rfl, g3⟩
     ·exact Or.inr ⟨h1, by decide +kernel, by rw [h2]; decide +kernel, by rw [h2]; decide +kernel, by rw [h2]; decide +kernel, by decide +kernel, by decide +kernel, by rw [h3]; rfl, by rw [h3]; rfl⟩
    obtain ⟨cq58, kq58, q58a, q58b, q58c⟩ := isOf hZ Eq54 Es
    obtain ⟨vv58, _, ⟨T58, L58, k58, n58⟩, -, X58, ⟨Lc58, hQ58, l58, y58, z58⟩, st58⟩ := Xh56.virtualBack hx (y := yM19) (z := yM19) hown (mvT hZ (Wd85 hw)) (mvT hZ (Wd86 hw)) (notFace_of_selects (args := #[]) (mvT hZ (Wd88 hw))) (mvT hZ (Wd88 hw)) (mvT hZ (Wd87 hw)) (by decide) (backOf (W := 0) (c_chat l Z a0 hw [] x ta kb cd z vs (3 : Int32) c3 3 6 (4 : Int32) G1 G3 h0 n0 Z0 Es Vs Cs Ks hc3 hR57 O2 P5 SA SHI SLO O4 rG3 X00) hZ (Wd89 hw) (Wd9 hw) (by decide) (by decide)) q58a q58c (g := (fr_rd4 m x 23 (vR PA) (vI 3) (vI c2) [(iV 3), (.ref x)])) rfl (by rw [hml]; rfl) (Steps.refl _) (argsL := [(iV 3)]) (rest := []) (lenOf pd_21 rfl) rfl (by show 2 * 0 + _ ≤ _; exact Nat.le_of_eq rfl) (D d6_23) (fun _ _ => ⟨rfl, Eq54, (by decide : 0 + 0 ≤ _), (by decide : 0 + 0 ≤ _)⟩)
    dsimp only [Pt.U, Pt.locs, Pt.cells, Pt.slots] at X58 l58 y58 z58 st58 hQ58
    subst l58 y58 z58
    obtain ⟨rfl, Nq58, Eq58⟩ := hQ58
    have N59 := Fr.app Nh56 Nq58
    obtain ⟨Lh60, Xh60, Nh60⟩ := oHd 0 0 X58 N59 rfl rfl
    refine ownSt st58 ?_
    clear st58
    show oA p e below _ T58 (fr_rd4 m x 26 (vR PA) (vI 3) (vI c2) [(.int c3)])
    refine oTo T58 (fr_rd4 m x 27 (vR PA) (vI 3) (vI c3) []) (fun t kt => ?_) ?_
    ·refine XS.istoreN Xh60.here hx rfl (D d6_26) rfl (l' := #[vR x, vR PA, vI 3, vI c3]) rfl ?_
     exact kt
    have rest3 : ∀ (T : State) (Lx : List Loc), Stand p l e ({ frames := 5, cells := 0, slots := 0, locals := 66 } : Room) s m #[(.ref x)] below meth c T Lx 0 0 → Fr n0 Lx → T.heap = h0 → ¬ (Mk c3) → ownG p.tables e below (ownE s below (Q_rd4 Z x ta kb cd z vs c0 c1 c2 c3 PA AA MA HS H2 PG SQ EM EL kM kE ms G1 G3 h0 n0) ({ frames := 5, cells := 0, slots := 0, locals := 66 } : Room).cells ({ frames := 5, cells := 0, slots := 0, locals := 66 } : Room).slots) (T.setTop (fr_rd4 m x 47 (vR PA) (vI 3) (vI c3) [])) := by
     intro T61 L61 X61 N61 e61 hN3
     refine oTo T61 (fr_rd4 m x 7 (vR PA) (vI 4) (vI c3) [(.ref PA)]) (fun t kt => ?_) ?_
     ·refine XS.iinc X61.here hx rfl (D d6_47) rfl (l' := #[vR x, vR PA, vI 4, vI c3]) rfl ?_
      refine XS.goto X61.here hx rfl (pc0 := 50) (pc' := 6) rfl (D d6_50) (by decide) (by decide) ?_
      refine XS.aloadN X61.here hx rfl (D d6_6) rfl rfl ?_
      exact kt
     refine own_getS X61 hx hZ hown (host := "") (Or.inl (Wd33 hw)) Via.refl e61 (SPL.ext X00.2) (D d6_7) (fun T62 X62 e62 => ?_)
     refine oTo T62 (fr_rd4 m x 15 (vR PA) (vI 4) (vI c3) [(.ref x), (iV 4)]) (fun t kt => ?_) ?_
     ·refine Jvm.RoadKit.acmp (g := (fr_rd4 m x 10 (vR PA) (vI 4) (vI c3) [(.ref PA), (.ref PA)])) X62 hx rfl rfl rfl (pc0 := 10) (pc' := 13) (same := true) rfl (D d6_10) rfl (decide_eq_true rfl) (by decide) (by decide) ?_
      refine XS.iloadN X62.here hx rfl (D d6_13) rfl ?_
      refine XS.aloadN X62.here hx rfl (D d6_14) rfl rfl ?_
      exact kt
     have hL63 : (cd = (0 : Int32) ∧ (z >>> ((0 : Int32) &&& 31)) = (4 : Int32)) ∨ (cd = (1 : Int32) ∧ (z >>> ((1 : Int32) &&& 31)) = (4 : Int32)) := by
      rcases hrel with ⟨h1, h2, -⟩ | ⟨h1, h2, -⟩
      ·exact Or.inl ⟨h1, by rw [h2]; decide +kernel⟩
      ·exact Or.inr ⟨h1, by rw [h2]; decide +kernel⟩
     obtain ⟨cq64, kq64, q64a, q64b, q64c⟩ := isOf hZ e62 Es
     obtain ⟨vv64, _, ⟨T64, L64, k64, n64⟩, -, X64, ⟨Lc64, hQ64, l64, y64, z64⟩, st64⟩ := X62.virtualBack hx (y := yM12) (z := yM12) hown (mvT hZ (Wd35 hw)) (mvT hZ (Wd36 hw)) (notFace_of_selects (args := #[]) (mvT hZ (Wd38 hw))) (mvT hZ (Wd38 hw)) (mvT hZ (Wd37 hw)) (by decide) (backOf (W := 1) (c_leng l Z a0 hw [] x ta kb cd z vs (4 : Int32) G1 h0 n0 Z0 Es Vs Cs Ks hL63 O2 P5 X00) hZ (Wd39 hw) (Wd9 hw) (by decide) (by decide)) q64a q64c (g := (fr_rd4 m x 15 (vR PA) (vI 4) (vI c3) [(.ref x), (iV 4)])) rfl (by rw [hml]; rfl) (Steps.refl _) (argsL := []) (rest := [(iV 4)]) (lenOf pd_20 rfl) rfl (by show 2 * 0 + _ ≤ _; exact Nat.le_of_eq rfl) (D d6_15) (fun _ _ => ⟨rfl, e62, (by decide : 0 + 0 ≤ _), (by decide : 0 + 0 ≤ _)⟩)
     dsimp only [Pt.U, Pt.locs, Pt.cells, Pt.slots] at X64 l64 y64 z64 st64 hQ64
     subst l64 y64 z64
     obtain ⟨rfl, Nq64, Eq64⟩ := hQ64
     have N65 := Fr.app N61 Nq64
     obtain ⟨Lh66, Xh66, Nh66⟩ := oHd 0 0 X64 N65 rfl rfl
     refine ownSt st64 ?_
     clear st64
     show oA p e below _ T64 (fr_rd4 m x 18 (vR PA) (vI 4) (vI c3) [(iV 4), (iV 4)])
     refine oTo T64 (fr_rd4 m x 54 (vR PA) (vI 4) (vI c3) [(.ref PA)]) (fun t kt => ?_) ?_
     ·refine XS.icmpYes Xh66.here hx rfl (pc0 := 18) (pc' := 53) rfl (D d6_18) rfl (flt ((by decide) : ¬ ((4 : Int32) < (4 : Int32)))).2.1 (by decide) (by decide) ?_
      refine XS.aloadN Xh66.here hx rfl (D d6_53) rfl rfl ?_
      exact kt
     refine ownRet Xh66 Bd.notSynchronized (v := some (.ref PA)) (fun h => by rw [Bd.returns] at h; cases h) ?_ (oLe rfl) (oLe rfl) (fun fs hr => retOut Xh66 hx Bd.returns rfl (Or.inr (Or.inr (Or.inr (Or.inr ⟨rfl, rfl, rfl⟩)))) (D d6_54) hr)
     show (Q_rd4 Z x ta kb cd z vs c0 c1 c2 c3 PA AA MA HS H2 PG SQ EM EL kM kE ms G1 G3 h0 n0) (some (.ref PA)) T64.heap _
     rw [Eq64]
     exact ⟨Nh66, rfl, Or.inr ⟨(fun q => q.elim hN0 (fun q => q.elim hN1 (fun q => q.elim hN2 hN3))), rfl⟩⟩
    by_cases hM3 : Mk c3
    ·skip
     have hl3 := own_mk_lt hM3
     refine oTo T58 (fr_rd4 m x 28 (vR PA) (vI 3) (vI c3) [(.int c3)]) (fun t kt => ?_) ?_
     ·refine XS.iloadN Xh60.here hx rfl (D d6_27) rfl ?_
      exact kt
     refine own_getS Xh60 hx hZ hown (host := "") (Or.inl (Wd107 hw)) Via.refl Eq58 (SMK.ext X00.2) (D d6_28) (fun T67 X67 e67 => ?_)
     have f68 := KMA.ext X00.2
     obtain ⟨cl69, Ar69, -, S69, N69, -, -⟩ := id f68
     have st69 := X67.arraylength hx (by rw [e67]; exact Ar69.1) (State.isArrayOf_alike hZ.alike Ar69.2.1) (g := (fr_rd4 m x 31 (vR PA) (vI 3) (vI c3) [(.ref MA), (.int c3)])) rfl rfl (D d6_31)
     rw [len_of S69 N69] at st69
     refine ownBy st69 ?_
     show oA p e below _ T67 (fr_rd4 m x 32 (vR PA) (vI 3) (vI c3) [(iV 128), (.int c3)])
     refine oTo T67 (fr_rd4 m x 35 (vR PA) (vI 3) (vI c3) []) (fun t kt => ?_) ?_
     ·refine XS.icmpNo X67.here hx rfl (D d6_32) rfl (tlt hl3).2.1 ?_
      exact kt
     refine own_getS X67 hx hZ hown (host := "") (Or.inl (Wd107 hw)) Via.refl e67 (SMK.ext X00.2) (D d6_35) (fun T70 X70 e70 => ?_)
     refine oTo T70 (fr_rd4 m x 39 (vR PA) (vI 3) (vI c3) [(.int c3), (.ref MA)]) (fun t kt => ?_) ?_
     ·refine XS.iloadN X70.here hx rfl (D d6_38) rfl ?_
      exact kt
     obtain ⟨cl71, Ar71, q71, S71, N71, H71, G71⟩ := id f68
     have hin71 : ¬ (c3 < 0 ∨ cl71.slots.size ≤ (c3).toNatClampNeg) := inb_of S71 ⟨hc3.1, hl3⟩
     have hat71 : cl71.slots[(c3).toNatClampNeg]? = some (.int (own_b (Mk c3))) := H71.at hin71 (hMA _ hc3.1 hl3)
     have st71 := X70.baloadBooleans hx (j := c3) (v := (.int (own_b (Mk c3)))) (by rw [e70]; exact Ar71.1) (State.isArrayOf_alike hZ.alike Ar71.2.1) Ar71.2.2 hin71 hat71 (g := (fr_rd4 m x 39 (vR PA) (vI 3) (vI c3) [(.int c3), (.ref MA)])) rfl rfl (D d6_39)
     refine ownBy st71 ?_
     show oA p e below _ T70 (fr_rd4 m x 40 (vR PA) (vI 3) (vI c3) [(.int (own_b (Mk c3)))])
     refine oTo T70 (fr_rd4 m x 43 (vR PA) (vI 3) (vI c3) []) (fun t kt => ?_) ?_
     ·refine XS.ifNo X70.here hx rfl (D d6_40) rfl ((if0 _ _).trans (feq (own_bt0 hM3)).1) ?_
      exact kt
     refine own_getS X70 hx hZ hown (host := "") (Or.inl (Wd109 hw)) Via.refl e70 (SAL.ext X00.2) (D d6_43) (fun T72 X72 e72 => ?_)
     refine oTo T72 (fr_rd4 m x 7 (vR AA) (vI 4) (vI c3) [(.ref AA)]) (fun t kt => ?_) ?_
     ·refine XS.astoreN X72.here hx rfl (D d6_46) rfl rfl (l' := #[vR x, vR AA, vI 3, vI c3]) rfl ?_
      refine XS.iinc X72.here hx rfl (D d6_47) rfl (l' := #[vR x, vR AA, vI 4, vI c3]) rfl ?_
      refine XS.goto X72.here hx rfl (pc0 := 50) (pc' := 6) rfl (D d6_50) (by decide) (by decide) ?_
      refine XS.aloadN X72.here hx rfl (D d6_6) rfl rfl ?_
      exact kt
     refine own_getS X72 hx hZ hown (host := "") (Or.inl (Wd33 hw)) Via.refl e72 (SPL.ext X00.2) (D d6_7) (fun T73 X73 e73 => ?_)
     refine oTo T73 (fr_rd4 m x 54 (vR AA) (vI 4) (vI c3) [(.ref AA)]) (fun t kt => ?_) ?_
     ·refine Jvm.RoadKit.acmp (g := (fr_rd4 m x 10 (vR AA) (vI 4) (vI c3) [(.ref PA), (.ref AA)])) X73 hx rfl rfl rfl (pc0 := 10) (pc' := 53) (same := false) rfl (D d6_10) rfl (decide_eq_false fun q => (Ne.symm hPA) (Value.ref.inj q)) (by decide) (by decide) ?_
      refine XS.aloadN X73.here hx rfl (D d6_53) rfl rfl ?_
      exact kt
     refine ownRet X73 Bd.notSynchronized (v := some (.ref AA)) (fun h => by rw [Bd.returns] at h; cases h) ?_ (oLe rfl) (oLe rfl) (fun fs hr => retOut X73 hx Bd.returns rfl (Or.inr (Or.inr (Or.inr (Or.inr ⟨rfl, rfl, rfl⟩)))) (D d6_54) hr)
     show (Q_rd4 Z x ta kb cd z vs c0 c1 c2 c3 PA AA MA HS H2 PG SQ EM EL kM kE ms G1 G3 h0 n0) (some (.ref AA)) T73.heap _
     rw [e73]
     exact ⟨Nh60, rfl, Or.inl ⟨Or.inr (Or.inr (Or.inr (hM3))), rfl⟩⟩
    ·skip
     by_cases hl3 : c3 < (128 : Int32)
     ·skip
      refine oTo T58 (fr_rd4 m x 28 (vR PA) (vI 3) (vI c3) [(.int c3)]) (fun t kt => ?_) ?_
      ·refine XS.iloadN Xh60.here hx rfl (D d6_27) rfl ?_
       exact kt
      refine own_getS Xh60 hx hZ hown (host := "") (Or.inl (Wd107 hw)) Via.refl Eq58 (SMK.ext X00.2) (D d6_28) (fun T74 X74 e74 => ?_)
      have f75 := KMA.ext X00.2
      obtain ⟨cl76, Ar76, -, S76, N76, -, -⟩ := id f75
      have st76 := X74.arraylength hx (by rw [e74]; exact Ar76.1) (State.isArrayOf_alike hZ.alike Ar76.2.1) (g := (fr_rd4 m x 31 (vR PA) (vI 3) (vI c3) [(.ref MA), (.int c3)])) rfl rfl (D d6_31)
      rw [len_of S76 N76] at st76
      refine ownBy st76 ?_
      show oA p e below _ T74 (fr_rd4 m x 32 (vR PA) (vI 3) (vI c3) [(iV 128), (.int c3)])
      refine oTo T74 (fr_rd4 m x 35 (vR PA) (vI 3) (vI c3) []) (fun t kt => ?_) ?_
      ·refine XS.icmpNo X74.here hx rfl (D d6_32) rfl (tlt hl3).2.1 ?_
       exact kt
      refine own_getS X74 hx hZ hown (host := "") (Or.inl (Wd107 hw)) Via.refl e74 (SMK.ext X00.2) (D d6_35) (fun T77 X77 e77 => ?_)
      refine oTo T77 (fr_rd4 m x 39 (vR PA) (vI 3) (vI c3) [(.int c3), (.ref MA)]) (fun t kt => ?_) ?_
      ·refine XS.iloadN X77.here hx rfl (D d6_38) rfl ?_
       exact kt
      obtain ⟨cl78, Ar78, q78, S78, N78, H78, G78⟩ := id f75
      have hin78 : ¬ (c3 < 0 ∨ cl78.slots.size ≤ (c3).toNatClampNeg) := inb_of S78 ⟨hc3.1, hl3⟩
      have hat78 : cl78.slots[(c3).toNatClampNeg]? = some (.int (own_b (Mk c3))) := H78.at hin78 (hMA _ hc3.1 hl3)
      have st78 := X77.baloadBooleans hx (j := c3) (v := (.int (own_b (Mk c3)))) (by rw [e77]; exact Ar78.1) (State.isArrayOf_alike hZ.alike Ar78.2.1) Ar78.2.2 hin78 hat78 (g := (fr_rd4 m x 39 (vR PA) (vI 3) (vI c3) [(.int c3), (.ref MA)])) rfl rfl (D d6_39)
      refine ownBy st78 ?_
      show oA p e below _ T77 (fr_rd4 m x 40 (vR PA) (vI 3) (vI c3) [(.int (own_b (Mk c3)))])
      refine oTo T77 (fr_rd4 m x 47 (vR PA) (vI 3) (vI c3) []) (fun t kt => ?_) ?_
      ·refine XS.ifYes X77.here hx rfl (pc0 := 40) (pc' := 47) rfl (D d6_40) rfl ((if0 _ _).trans (teq (own_bf0 hM3)).1) (by decide) (by decide) ?_
       exact kt
      exact rest3 _ _ X77 Nh60 e77 hM3
     ·skip
      refine oTo T58 (fr_rd4 m x 28 (vR PA) (vI 3) (vI c3) [(.int c3)]) (fun t kt => ?_) ?_
      ·refine XS.iloadN Xh60.here hx rfl (D d6_27) rfl ?_
       exact kt
      refine own_getS Xh60 hx hZ hown (host := "") (Or.inl (Wd107 hw)) Via.refl Eq58 (SMK.ext X00.2) (D d6_28) (fun T79 X79 e79 => ?_)
      have f80 := KMA.ext X00.2
      obtain ⟨cl81, Ar81, -, S81, N81, -, -⟩ := id f80
      have st81 := X79.arraylength hx (by rw [e79]; exact Ar81.1) (State.isArrayOf_alike hZ.alike Ar81.2.1) (g := (fr_rd4 m x 31 (vR PA) (vI 3) (vI c3) [(.ref MA), (.int c3)])) rfl rfl (D d6_31)
      rw [len_of S81 N81] at st81
      refine ownBy st81 ?_
      show oA p e below _ T79 (fr_rd4 m x 32 (vR PA) (vI 3) (vI c3) [(iV 128), (.int c3)])
      refine oTo T79 (fr_rd4 m x 47 (vR PA) (vI 3) (vI c3) []) (fun t kt => ?_) ?_
      ·refine XS.icmpYes X79.here hx rfl (pc0 := 32) (pc' := 47) rfl (D d6_32) rfl (flt hl3).2.1 (by decide) (by decide) ?_
       exact kt
      exact rest3 _ _ X79 Nh60 e79 hM3
   by_cases hM2 : Mk c2
   ·skip
    have hl2 := own_mk_lt hM2
    refine oTo T48 (fr_rd4 m x 28 (vR PA) (vI 2) (vI c2) [(.int c2)]) (fun t kt => ?_) ?_
    ·refine XS.iloadN Xh50.here hx rfl (D d6_27) rfl ?_
     exact kt
    refine own_getS Xh50 hx hZ hown (host := "") (Or.inl (Wd107 hw)) Via.refl Eq48 (SMK.ext X00.2) (D d6_28) (fun T82 X82 e82 => ?_)
    have f83 := KMA.ext X00.2
    obtain ⟨cl84, Ar84, -, S84, N84, -, -⟩ := id f83
    have st84 := X82.arraylength hx (by rw [e82]; exact Ar84.1) (State.isArrayOf_alike hZ.alike Ar84.2.1) (g := (fr_rd4 m x 31 (vR PA) (vI 2) (vI c2) [(.ref MA), (.int c2)])) rfl rfl (D d6_31)
    rw [len_of S84 N84] at st84
    refine ownBy st84 ?_
    show oA p e below _ T82 (fr_rd4 m x 32 (vR PA) (vI 2) (vI c2) [(iV 128), (.int c2)])
    refine oTo T82 (fr_rd4 m x 35 (vR PA) (vI 2) (vI c2) []) (fun t kt => ?_) ?_
    ·refine XS.icmpNo X82.here hx rfl (D d6_32) rfl (tlt hl2).2.1 ?_
     exact kt
    refine own_getS X82 hx hZ hown (host := "") (Or.inl (Wd107 hw)) Via.refl e82 (SMK.ext X00.2) (D d6_35) (fun T85 X85 e85 => ?_)
    refine oTo T85 (fr_rd4 m x 39 (vR PA) (vI 2) (vI c2) [(.int c2), (.ref MA)]) (fun t kt => ?_) ?_
    ·refine XS.iloadN X85.here hx rfl (D d6_38) rfl ?_
     exact kt
    obtain ⟨cl86, Ar86, q86, S86, N86, H86, G86⟩ := id f83
    have hin86 : ¬ (c2 < 0 ∨ cl86.slots.size ≤ (c2).toNatClampNeg) := inb_of S86 ⟨hc2.1, hl2⟩
    have hat86 : cl86.slots[(c2).toNatClampNeg]? = some (.int (own_b (Mk c2))) := H86.at hin86 (hMA _ hc2.1 hl2)
    have st86 := X85.baloadBooleans hx (j := c2) (v := (.int (own_b (Mk c2)))) (by rw [e85]; exact Ar86.1) (State.isArrayOf_alike hZ.alike Ar86.2.1) Ar86.2.2 hin86 hat86 (g := (fr_rd4 m x 39 (vR PA) (vI 2) (vI c2) [(.int c2), (.ref MA)])) rfl rfl (D d6_39)
    refine ownBy st86 ?_
    show oA p e below _ T85 (fr_rd4 m x 40 (vR PA) (vI 2) (vI c2) [(.int (own_b (Mk c2)))])
    refine oTo T85 (fr_rd4 m x 43 (vR PA) (vI 2) (vI c2) []) (fun t kt => ?_) ?_
    ·refine XS.ifNo X85.here hx rfl (D d6_40) rfl ((if0 _ _).trans (feq (own_bt0 hM2)).1) ?_
     exact kt
    refine own_getS X85 hx hZ hown (host := "") (Or.inl (Wd109 hw)) Via.refl e85 (SAL.ext X00.2) (D d6_43) (fun T87 X87 e87 => ?_)
    refine oTo T87 (fr_rd4 m x 7 (vR AA) (vI 3) (vI c2) [(.ref AA)]) (fun t kt => ?_) ?_
    ·refine XS.astoreN X87.here hx rfl (D d6_46) rfl rfl (l' := #[vR x, vR AA, vI 2, vI c2]) rfl ?_
     refine XS.iinc X87.here hx rfl (D d6_47) rfl (l' := #[vR x, vR AA, vI 3, vI c2]) rfl ?_
     refine XS.goto X87.here hx rfl (pc0 := 50) (pc' := 6) rfl (D d6_50) (by decide) (by decide) ?_
     refine XS.aloadN X87.here hx rfl (D d6_6) rfl rfl ?_
     exact kt
    refine own_getS X87 hx hZ hown (host := "") (Or.inl (Wd33 hw)) Via.refl e87 (SPL.ext X00.2) (D d6_7) (fun T88 X88 e88 => ?_)
    refine oTo T88 (fr_rd4 m x 54 (vR AA) (vI 3) (vI c2) [(.ref AA)]) (fun t kt => ?_) ?_
    ·refine Jvm.RoadKit.acmp (g := (fr_rd4 m x 10 (vR AA) (vI 3) (vI c2) [(.ref PA), (.ref AA)])) X88 hx rfl rfl rfl (pc0 := 10) (pc' := 53) (same := false) rfl (D d6_10) rfl (decide_eq_false fun q => (Ne.symm hPA) (Value.ref.inj q)) (by decide) (by decide) ?_
     refine XS.aloadN X88.here hx rfl (D d6_53) rfl rfl ?_
     exact kt
    refine ownRet X88 Bd.notSynchronized (v := some (.ref AA)) (fun h => by rw [Bd.returns] at h; cases h) ?_ (oLe rfl) (oLe rfl) (fun fs hr => retOut X88 hx Bd.returns rfl (Or.inr (Or.inr (Or.inr (Or.inr ⟨rfl, rfl, rfl⟩)))) (D d6_54) hr)
    show (Q_rd4 Z x ta kb cd z vs c0 c1 c2 c3 PA AA MA HS H2 PG SQ EM EL kM kE ms G1 G3 h0 n0) (some (.ref AA)) T88.heap _
    rw [e88]
    exact ⟨Nh50, rfl, Or.inl ⟨Or.inr (Or.inr (Or.inl hM2)), rfl⟩⟩
   ·skip
    by_cases hl2 : c2 < (128 : Int32)
    ·skip
     refine oTo T48 (fr_rd4 m x 28 (vR PA) (vI 2) (vI c2) [(.int c2)]) (fun t kt => ?_) ?_
     ·refine XS.iloadN Xh50.here hx rfl (D d6_27) rfl ?_
      exact kt
     refine own_getS Xh50 hx hZ hown (host := "") (Or.inl (Wd107 hw)) Via.refl Eq48 (SMK.ext X00.2) (D d6_28) (fun T89 X89 e89 => ?_)
     have f90 := KMA.ext X00.2
     obtain ⟨cl91, Ar91, -, S91, N91, -, -⟩ := id f90
     have st91 := X89.arraylength hx (by rw [e89]; exact Ar91.1) (State.isArrayOf_alike hZ.alike Ar91.2.1) (g := (fr_rd4 m x 31 (vR PA) (vI 2) (vI c2) [(.ref MA), (.int c2)])) rfl rfl (D d6_31)
     rw [len_of S91 N91] at st91
     refine ownBy st91 ?_
     show oA p e below _ T89 (fr_rd4 m x 32 (vR PA) (vI 2) (vI c2) [(iV 128), (.int c2)])
     refine oTo T89 (fr_rd4 m x 35 (vR PA) (vI 2) (vI c2) []) (fun t kt => ?_) ?_
     ·refine XS.icmpNo X89.here hx rfl (D d6_32) rfl (tlt hl2).2.1 ?_
      exact kt
     refine own_getS X89 hx hZ hown (host := "") (Or.inl (Wd107 hw)) Via.refl e89 (SMK.ext X00.2) (D d6_35) (fun T92 X92 e92 => ?_)
     refine oTo T92 (fr_rd4 m x 39 (vR PA) (vI 2) (vI c2) [(.int c2), (.ref MA)]) (fun t kt => ?_) ?_
     ·refine XS.iloadN X92.here hx rfl (D d6_38) rfl ?_
      exact kt
     obtain ⟨cl93, Ar93, q93, S93, N93, H93, G93⟩ := id f90
     have hin93 : ¬ (c2 < 0 ∨ cl93.slots.size ≤ (c2).toNatClampNeg) := inb_of S93 ⟨hc2.1, hl2⟩
     have hat93 : cl93.slots[(c2).toNatClampNeg]? = some (.int (own_b (Mk c2))) := H93.at hin93 (hMA _ hc2.1 hl2)
     have st93 := X92.baloadBooleans hx (j := c2) (v := (.int (own_b (Mk c2)))) (by rw [e92]; exact Ar93.1) (State.isArrayOf_alike hZ.alike Ar93.2.1) Ar93.2.2 hin93 hat93 (g := (fr_rd4 m x 39 (vR PA) (vI 2) (vI c2) [(.int c2), (.ref MA)])) rfl rfl (D d6_39)
     refine ownBy st93 ?_
     show oA p e below _ T92 (fr_rd4 m x 40 (vR PA) (vI 2) (vI c2) [(.int (own_b (Mk c2)))])
     refine oTo T92 (fr_rd4 m x 47 (vR PA) (vI 2) (vI c2) []) (fun t kt => ?_) ?_
     ·refine XS.ifYes X92.here hx rfl (pc0 := 40) (pc' := 47) rfl (D d6_40) rfl ((if0 _ _).trans (teq (own_bf0 hM2)).1) (by decide) (by decide) ?_
      exact kt
     exact rest2 _ _ X92 Nh50 e92 hM2
    ·skip
     refine oTo T48 (fr_rd4 m x 28 (vR PA) (vI 2) (vI c2) [(.int c2)]) (fun t kt => ?_) ?_
     ·refine XS.iloadN Xh50.here hx rfl (D d6_27) rfl ?_
      exact kt
     refine own_getS Xh50 hx hZ hown (host := "") (Or.inl (Wd107 hw)) Via.refl Eq48 (SMK.ext X00.2) (D d6_28) (fun T94 X94 e94 => ?_)
     have f95 := KMA.ext X00.2
     obtain ⟨cl96, Ar96, -, S96, N96, -, -⟩ := id f95
     have st96 := X94.arraylength hx (by rw [e94]; exact Ar96.1) (State.isArrayOf_alike hZ.alike Ar96.2.1) (g := (fr_rd4 m x 31 (vR PA) (vI 2) (vI c2) [(.ref MA), (.int c2)])) rfl rfl (D d6_31)
     rw [len_of S96 N96] at st96
     refine ownBy st96 ?_
     show oA p e below _ T94 (fr_rd4 m x 32 (vR PA) (vI 2) (vI c2) [(iV 128), (.int c2)])
     refine oTo T94 (fr_rd4 m x 47 (vR PA) (vI 2) (vI c2) []) (fun t kt => ?_) ?_
     ·refine XS.icmpYes X94.here hx rfl (pc0 := 32) (pc' := 47) rfl (D d6_32) rfl (flt hl2).2.1 (by decide) (by decide) ?_
      exact kt
     exact rest2 _ _ X94 Nh50 e94 hM2
  by_cases hM1 : Mk c1
  ·skip
   have hl1 := own_mk_lt hM1
   refine oTo T38 (fr_rd4 m x 28 (vR PA) (vI 1) (vI c1) [(.int c1)]) (fun t kt => ?_) ?_
   ·refine XS.iloadN Xh40.here hx rfl (D d6_27) rfl ?_
    exact kt
   refine own_getS Xh40 hx hZ hown (host := "") (Or.inl (Wd107 hw)) Via.refl Eq38 (SMK.ext X00.2) (D d6_28) (fun T97 X97 e97 => ?_)
   have f98 := KMA.ext X00.2
   obtain ⟨cl99, Ar99, -, S99, N99, -, -⟩ := id f98
   have st99 := X97.arraylength hx (by rw [e97]; exact Ar99.1) (State.isArrayOf_alike hZ.alike Ar99.2.1) (g := (fr_rd4 m x 31 (vR PA) (vI 1) (vI c1) [(.ref MA), (.int c1)])) rfl rfl (D d6_31)
   rw [len_of S99 N99] at st99
   refine ownBy st99 ?_
   show oA p e below _ T97 (fr_rd4 m x 32 (vR PA) (vI 1) (vI c1) [(iV 128), (.int c1)])
   refine oTo T97 (fr_rd4 m x 35 (vR PA) (vI 1) (vI c1) []) (fun t kt => ?_) ?_
   ·refine XS.icmpNo X97.here hx rfl (D d6_32) rfl (tlt hl1).2.1 ?_
    exact kt
   refine own_getS X97 hx hZ hown (host := "") (Or.inl (Wd107 hw)) Via.refl e97 (SMK.ext X00.2) (D d6_35) (fun T100 X100 e100 => ?_)
   refine oTo T100 (fr_rd4 m x 39 (vR PA) (vI 1) (vI c1) [(.int c1), (.ref MA)]) (fun t kt => ?_) ?_
   ·refine XS.iloadN X100.here hx rfl (D d6_38) rfl ?_
    exact kt
   obtain ⟨cl101, Ar101, q101, S101, N101, H101, G101⟩ := id f98
   have hin101 : ¬ (c1 < 0 ∨ cl101.slots.size ≤ (c1).toNatClampNeg) := inb_of S101 ⟨hc1.1, hl1⟩
   have hat101 : cl101.slots[(c1).toNatClampNeg]? = some (.int (own_b (Mk c1))) := H101.at hin101 (hMA _ hc1.1 hl1)
   have st101 := X100.baloadBooleans hx (j := c1) (v := (.int (own_b (Mk c1)))) (by rw [e100]; exact Ar101.1) (State.isArrayOf_alike hZ.alike Ar101.2.1) Ar101.2.2 hin101 hat101 (g := (fr_rd4 m x 39 (vR PA) (vI 1) (vI c1) [(.int c1), (.ref MA)])) rfl rfl (D d6_39)
   refine ownBy st101 ?_
   show oA p e below _ T100 (fr_rd4 m x 40 (vR PA) (vI 1) (vI c1) [(.int (own_b (Mk c1)))])
   refine oTo T100 (fr_rd4 m x 43 (vR PA) (vI 1) (vI c1) []) (fun t kt => ?_) ?_
   ·refine XS.ifNo X100.here hx rfl (D d6_40) rfl ((if0 _ _).trans (feq (own_bt0 hM1)).1) ?_
    exact kt
   refine own_getS X100 hx hZ hown (host := "") (Or.inl (Wd109 hw)) Via.refl e100 (SAL.ext X00.2) (D d6_43) (fun T102 X102 e102 => ?_)
   refine oTo T102 (fr_rd4 m x 7 (vR AA) (vI 2) (vI c1) [(.ref AA)]) (fun t kt => ?_) ?_
   ·refine XS.astoreN X102.here hx rfl (D d6_46) rfl rfl (l' := #[vR x, vR AA, vI 1, vI c1]) rfl ?_
    refine XS.iinc X102.here hx rfl (D d6_47) rfl (l' := #[vR x, vR AA, vI 2, vI c1]) rfl ?_
    refine XS.goto X102.here hx rfl (pc0 := 50) (pc' := 6) rfl (D d6_50) (by decide) (by decide) ?_
    refine XS.aloadN X102.here hx rfl (D d6_6) rfl rfl ?_
    exact kt
   refine own_getS X102 hx hZ hown (host := "") (Or.inl (Wd33 hw)) Via.refl e102 (SPL.ext X00.2) (D d6_7) (fun T103 X103 e103 => ?_)
   refine oTo T103 (fr_rd4 m x 54 (vR AA) (vI 2) (vI c1) [(.ref AA)]) (fun t kt => ?_) ?_
   ·refine Jvm.RoadKit.acmp (g := (fr_rd4 m x 10 (vR AA) (vI 2) (vI c1) [(.ref PA), (.ref AA)])) X103 hx rfl rfl rfl (pc0 := 10) (pc' := 53) (same := false) rfl (D d6_10) rfl (decide_eq_false fun q => (Ne.symm hPA) (Value.ref.inj q)) (by decide) (by decide) ?_
    refine XS.aloadN X103.here hx rfl (D d6_53) rfl rfl ?_
    exact kt
   refine ownRet X103 Bd.notSynchronized (v := some (.ref AA)) (fun h => by rw [Bd.returns] at h; cases h) ?_ (oLe rfl) (oLe rfl) (fun fs hr => retOut X103 hx Bd.returns rfl (Or.inr (Or.inr (Or.inr (Or.inr ⟨rfl, rfl, rfl⟩)))) (D d6_54) hr)
   show (Q_rd4 Z x ta kb cd z vs c0 c1 c2 c3 PA AA MA HS H2 PG SQ EM EL kM kE ms G1 G3 h0 n0) (some (.ref AA)) T103.heap _
   rw [e103]
   exact ⟨Nh40, rfl, Or.inl ⟨Or.inr (Or.inl hM1), rfl⟩⟩
  ·skip
   by_cases hl1 : c1 < (128 : Int32)
   ·skip
    refine oTo T38 (fr_rd4 m x 28 (vR PA) (vI 1) (vI c1) [(.int c1)]) (fun t kt => ?_) ?_
    ·refine XS.iloadN Xh40.here hx rfl (D d6_27) rfl ?_
     exact kt
    refine own_getS Xh40 hx hZ hown (host := "") (Or.inl (Wd107 hw)) Via.refl Eq38 (SMK.ext X00.2) (D d6_28) (fun T104 X104 e104 => ?_)
    have f105 := KMA.ext X00.2
    obtain ⟨cl106, Ar106, -, S106, N106, -, -⟩ := id f105
    have st106 := X104.arraylength hx (by rw [e104]; exact Ar106.1) (State.isArrayOf_alike hZ.alike Ar106.2.1) (g := (fr_rd4 m x 31 (vR PA) (vI 1) (vI c1) [(.ref MA), (.int c1)])) rfl rfl (D d6_31)
    rw [len_of S106 N106] at st106
    refine ownBy st106 ?_
    show oA p e below _ T104 (fr_rd4 m x 32 (vR PA) (vI 1) (vI c1) [(iV 128), (.int c1)])
    refine oTo T104 (fr_rd4 m x 35 (vR PA) (vI 1) (vI c1) []) (fun t kt => ?_) ?_
    ·refine XS.icmpNo X104.here hx rfl (D d6_32) rfl (tlt hl1).2.1 ?_
     exact kt
    refine own_getS X104 hx hZ hown (host := "") (Or.inl (Wd107 hw)) Via.refl e104 (SMK.ext X00.2) (D d6_35) (fun T107 X107 e107 => ?_)
    refine oTo T107 (fr_rd4 m x 39 (vR PA) (vI 1) (vI c1) [(.int c1), (.ref MA)]) (fun t kt => ?_) ?_
    ·refine XS.iloadN X107.here hx rfl (D d6_38) rfl ?_
     exact kt
    obtain ⟨cl108, Ar108, q108, S108, N108, H108, G108⟩ := id f105
    have hin108 : ¬ (c1 < 0 ∨ cl108.slots.size ≤ (c1).toNatClampNeg) := inb_of S108 ⟨hc1.1, hl1⟩
    have hat108 : cl108.slots[(c1).toNatClampNeg]? = some (.int (own_b (Mk c1))) := H108.at hin108 (hMA _ hc1.1 hl1)
    have st108 := X107.baloadBooleans hx (j := c1) (v := (.int (own_b (Mk c1)))) (by rw [e107]; exact Ar108.1) (State.isArrayOf_alike hZ.alike Ar108.2.1) Ar108.2.2 hin108 hat108 (g := (fr_rd4 m x 39 (vR PA) (vI 1) (vI c1) [(.int c1), (.ref MA)])) rfl rfl (D d6_39)
    refine ownBy st108 ?_
    show oA p e below _ T107 (fr_rd4 m x 40 (vR PA) (vI 1) (vI c1) [(.int (own_b (Mk c1)))])
    refine oTo T107 (fr_rd4 m x 47 (vR PA) (vI 1) (vI c1) []) (fun t kt => ?_) ?_
    ·refine XS.ifYes X107.here hx rfl (pc0 := 40) (pc' := 47) rfl (D d6_40) rfl ((if0 _ _).trans (teq (own_bf0 hM1)).1) (by decide) (by decide) ?_
     exact kt
    exact rest1 _ _ X107 Nh40 e107 hM1
   ·skip
    refine oTo T38 (fr_rd4 m x 28 (vR PA) (vI 1) (vI c1) [(.int c1)]) (fun t kt => ?_) ?_
    ·refine XS.iloadN Xh40.here hx rfl (D d6_27) rfl ?_
     exact kt
    refine own_getS Xh40 hx hZ hown (host := "") (Or.inl (Wd107 hw)) Via.refl Eq38 (SMK.ext X00.2) (D d6_28) (fun T109 X109 e109 => ?_)
    have f110 := KMA.ext X00.2
    obtain ⟨cl111, Ar111, -, S111, N111, -, -⟩ := id f110
    have st111 := X109.arraylength hx (by rw [e109]; exact Ar111.1) (State.isArrayOf_alike hZ.alike Ar111.2.1) (g := (fr_rd4 m x 31 (vR PA) (vI 1) (vI c1) [(.ref MA), (.int c1)])) rfl rfl (D d6_31)
    rw [len_of S111 N111] at st111
    refine ownBy st111 ?_
    show oA p e below _ T109 (fr_rd4 m x 32 (vR PA) (vI 1) (vI c1) [(iV 128), (.int c1)])
    refine oTo T109 (fr_rd4 m x 47 (vR PA) (vI 1) (vI c1) []) (fun t kt => ?_) ?_
    ·refine XS.icmpYes X109.here hx rfl (pc0 := 32) (pc' := 47) rfl (D d6_32) rfl (flt hl1).2.1 (by decide) (by decide) ?_
     exact kt
    exact rest1 _ _ X109 Nh40 e109 hM1
 by_cases hM0 : Mk c0
 ·skip
  have hl0 := own_mk_lt hM0
  refine oTo T28 (fr_rd4 m x 28 (vR PA) (vI 0) (vI c0) [(.int c0)]) (fun t kt => ?_) ?_
  ·refine XS.iloadN Xh30.here hx rfl (D d6_27) rfl ?_
   exact kt
  refine own_getS Xh30 hx hZ hown (host := "") (Or.inl (Wd107 hw)) Via.refl Eq28 (SMK.ext X00.2) (D d6_28) (fun T112 X112 e112 => ?_)
  have f113 := KMA.ext X00.2
  obtain ⟨cl114, Ar114, -, S114, N114, -, -⟩ := id f113
  have st114 := X112.arraylength hx (by rw [e112]; exact Ar114.1) (State.isArrayOf_alike hZ.alike Ar114.2.1) (g := (fr_rd4 m x 31 (vR PA) (vI 0) (vI c0) [(.ref MA), (.int c0)])) rfl rfl (D d6_31)
  rw [len_of S114 N114] at st114
  refine ownBy st114 ?_
  show oA p e below _ T112 (fr_rd4 m x 32 (vR PA) (vI 0) (vI c0) [(iV 128), (.int c0)])
  refine oTo T112 (fr_rd4 m x 35 (vR PA) (vI 0) (vI c0) []) (fun t kt => ?_) ?_
  ·refine XS.icmpNo X112.here hx rfl (D d6_32) rfl (tlt hl0).2.1 ?_
   exact kt
  refine own_getS X112 hx hZ hown (host := "") (Or.inl (Wd107 hw)) Via.refl e112 (SMK.ext X00.2) (D d6_35) (fun T115 X115 e115 => ?_)
  refine oTo T115 (fr_rd4 m x 39 (vR PA) (vI 0) (vI c0) [(.int c0), (.ref MA)]) (fun t kt => ?_) ?_
  ·refine XS.iloadN X115.here hx rfl (D d6_38) rfl ?_
   exact kt
  obtain ⟨cl116, Ar116, q116, S116, N116, H116, G116⟩ := id f113
  have hin116 : ¬ (c0 < 0 ∨ cl116.slots.size ≤ (c0).toNatClampNeg) := inb_of S116 ⟨hc0.1, hl0⟩
  have hat116 : cl116.slots[(c0).toNatClampNeg]? = some (.int (own_b (Mk c0))) := H116.at hin116 (hMA _ hc0.1 hl0)
  have st116 := X115.baloadBooleans hx (j := c0) (v := (.int (own_b (Mk c0)))) (by rw [e115]; exact Ar116.1) (State.isArrayOf_alike hZ.alike Ar116.2.1) Ar116.2.2 hin116 hat116 (g := (fr_rd4 m x 39 (vR PA) (vI 0) (vI c0) [(.int c0), (.ref MA)])) rfl rfl (D d6_39)
  refine ownBy st116 ?_
  show oA p e below _ T115 (fr_rd4 m x 40 (vR PA) (vI 0) (vI c0) [(.int (own_b (Mk c0)))])
  refine oTo T115 (fr_rd4 m x 43 (vR PA) (vI 0) (vI c0) []) (fun t kt => ?_) ?_
  ·refine XS.ifNo X115.here hx rfl (D d6_40) rfl ((if0 _ _).trans (feq (own_bt0 hM0)).1) ?_
   exact kt
  refine own_getS X115 hx hZ hown (host := "") (Or.inl (Wd109 hw)) Via.refl e115 (SAL.ext X00.2) (D d6_43) (fun T117 X117 e117 => ?_)
  refine oTo T117 (fr_rd4 m x 7 (vR AA) (vI 1) (vI c0) [(.ref AA)]) (fun t kt => ?_) ?_
  ·refine XS.astoreN X117.here hx rfl (D d6_46) rfl rfl (l' := #[vR x, vR AA, vI 0, vI c0]) rfl ?_
   refine XS.iinc X117.here hx rfl (D d6_47) rfl (l' := #[vR x, vR AA, vI 1, vI c0]) rfl ?_
   refine XS.goto X117.here hx rfl (pc0 := 50) (pc' := 6) rfl (D d6_50) (by decide) (by decide) ?_
   refine XS.aloadN X117.here hx rfl (D d6_6) rfl rfl ?_
   exact kt
  refine own_getS X117 hx hZ hown (host := "") (Or.inl (Wd33 hw)) Via.refl e117 (SPL.ext X00.2) (D d6_7) (fun T118 X118 e118 => ?_)
  refine oTo T118 (fr_rd4 m x 54 (vR AA) (vI 1) (vI c0) [(.ref AA)]) (fun t kt => ?_) ?_
  ·refine Jvm.RoadKit.acmp (g := (fr_rd4 m x 10 (vR AA) (vI 1) (vI c0) [(.ref PA), (.ref AA)])) X118 hx rfl rfl rfl (pc0 := 10) (pc' := 53) (same := false) rfl (D d6_10) rfl (decide_eq_false fun q => (Ne.symm hPA) (Value.ref.inj q)) (by decide) (by decide) ?_
   refine XS.aloadN X118.here hx rfl (D d6_53) rfl rfl ?_
   exact kt
  refine ownRet X118 Bd.notSynchronized (v := some (.ref AA)) (fun h => by rw [Bd.returns] at h; cases h) ?_ (oLe rfl) (oLe rfl) (fun fs hr => retOut X118 hx Bd.returns rfl (Or.inr (Or.inr (Or.inr (Or.inr ⟨rfl, rfl, rfl⟩)))) (D d6_54) hr)
  show (Q_rd4 Z x ta kb cd z vs c0 c1 c2 c3 PA AA MA HS H2 PG SQ EM EL kM kE ms G1 G3 h0 n0) (some (.ref AA)) T118.heap _
  rw [e118]
  exact ⟨Nh30, rfl, Or.inl ⟨Or.inl hM0, rfl⟩⟩
 ·skip
  by_cases hl0 : c0 < (128 : Int32)
  ·skip
   refine oTo T28 (fr_rd4 m x 28 (vR PA) (vI 0) (vI c0) [(.int c0)]) (fun t kt => ?_) ?_
   ·refine XS.iloadN Xh30.here hx rfl (D d6_27) rfl ?_
    exact kt
   refine own_getS Xh30 hx hZ hown (host := "") (Or.inl (Wd107 hw)) Via.refl Eq28 (SMK.ext X00.2) (D d6_28) (fun T119 X119 e119 => ?_)
   have f120 := KMA.ext X00.2
   obtain ⟨cl121, Ar121, -, S121, N121, -, -⟩ := id f120
   have st121 := X119.arraylength hx (by rw [e119]; exact Ar121.1) (State.isArrayOf_alike hZ.alike Ar121.2.1) (g := (fr_rd4 m x 31 (vR PA) (vI 0) (vI c0) [(.ref MA), (.int c0)])) rfl rfl (D d6_31)
   rw [len_of S121 N121] at st121
   refine ownBy st121 ?_
   show oA p e below _ T119 (fr_rd4 m x 32 (vR PA) (vI 0) (vI c0) [(iV 128), (.int c0)])
   refine oTo T119 (fr_rd4 m x 35 (vR PA) (vI 0) (vI c0) []) (fun t kt => ?_) ?_
   ·refine XS.icmpNo X119.here hx rfl (D d6_32) rfl (tlt hl0).2.1 ?_
    exact kt
   refine own_getS X119 hx hZ hown (host := "") (Or.inl (Wd107 hw)) Via.refl e119 (SMK.ext X00.2) (D d6_35) (fun T122 X122 e122 => ?_)
   refine oTo T122 (fr_rd4 m x 39 (vR PA) (vI 0) (vI c0) [(.int c0), (.ref MA)]) (fun t kt => ?_) ?_
   ·refine XS.iloadN X122.here hx rfl (D d6_38) rfl ?_
    exact kt
   obtain ⟨cl123, Ar123, q123, S123, N123, H123, G123⟩ := id f120
   have hin123 : ¬ (c0 < 0 ∨ cl123.slots.size ≤ (c0).toNatClampNeg) := inb_of S123 ⟨hc0.1, hl0⟩
   have hat123 : cl123.slots[(c0).toNatClampNeg]? = some (.int (own_b (Mk c0))) := H123.at hin123 (hMA _ hc0.1 hl0)
   have st123 := X122.baloadBooleans hx (j := c0) (v := (.int (own_b (Mk c0)))) (by rw [e122]; exact Ar123.1) (State.isArrayOf_alike hZ.alike Ar123.2.1) Ar123.2.2 hin123 hat123 (g := (fr_rd4 m x 39 (vR PA) (vI 0) (vI c0) [(.int c0), (.ref MA)])) rfl rfl (D d6_39)
   refine ownBy st123 ?_
   show oA p e below _ T122 (fr_rd4 m x 40 (vR PA) (vI 0) (vI c0) [(.int (own_b (Mk c0)))])
   refine oTo T122 (fr_rd4 m x 47 (vR PA) (vI 0) (vI c0) []) (fun t kt => ?_) ?_
   ·refine XS.ifYes X122.here hx rfl (pc0 := 40) (pc' := 47) rfl (D d6_40) rfl ((if0 _ _).trans (teq (own_bf0 hM0)).1) (by decide) (by decide) ?_
    exact kt
   exact rest0 _ _ X122 Nh30 e122 hM0
  ·skip
   refine oTo T28 (fr_rd4 m x 28 (vR PA) (vI 0) (vI c0) [(.int c0)]) (fun t kt => ?_) ?_
   ·refine XS.iloadN Xh30.here hx rfl (D d6_27) rfl ?_
    exact kt
   refine own_getS Xh30 hx hZ hown (host := "") (Or.inl (Wd107 hw)) Via.refl Eq28 (SMK.ext X00.2) (D d6_28) (fun T124 X124 e124 => ?_)
   have f125 := KMA.ext X00.2
   obtain ⟨cl126, Ar126, -, S126, N126, -, -⟩ := id f125
   have st126 := X124.arraylength hx (by rw [e124]; exact Ar126.1) (State.isArrayOf_alike hZ.alike Ar126.2.1) (g := (fr_rd4 m x 31 (vR PA) (vI 0) (vI c0) [(.ref MA), (.int c0)])) rfl rfl (D d6_31)
   rw [len_of S126 N126] at st126
   refine ownBy st126 ?_
   show oA p e below _ T124 (fr_rd4 m x 32 (vR PA) (vI 0) (vI c0) [(iV 128), (.int c0)])
   refine oTo T124 (fr_rd4 m x 47 (vR PA) (vI 0) (vI c0) []) (fun t kt => ?_) ?_
   ·refine XS.icmpYes X124.here hx rfl (pc0 := 32) (pc' := 47) rfl (D d6_32) rfl (flt hl0).2.1 (by decide) (by decide) ?_
    exact kt
   exact rest0 _ _ X124 Nh30 e124 hM0
def Q_l12s (Z : State) (PA : Addr) (AA : Addr) (MA : Addr) (HS : Addr) (H2 : Addr) (PG : Addr) (SQ : Addr) (EM : Addr) (EL : Addr) (kM : ClassId) (kE : ClassId) (ms : List Value) (h0 : Heap) (n0 : Nat) (v : Option Value) (h : Heap) (L : List Loc) : Prop := v = some (iV 1) ∧ Fr n0 L ∧ h = h0
theorem ef_l12s (m : MethodId) (x0 : Addr)  : entryFrame m #[(.ref x0)] 1 = mkF m 0 #[vR x0] [] := by first | (simp [entryFrame, mkF, argsToLocals, Value.category]; done) | rfl
set_option maxRecDepth 65536 in
set_option maxHeartbeats 40000000 in
theorem c_l12s (l : Launch) (Z : State) (a0 : Array Value) (hw : HW a0 Z) (ws : List Jvm.Cond) (PA : Addr) (AA : Addr) (MA : Addr) (HS : Addr) (H2 : Addr) (PG : Addr) (SQ : Addr) (EM : Addr) (EL : Addr) (kM : ClassId) (kE : ClassId) (ms : List Value) (h0 : Heap) (n0 : Nat) (Z0 : n0 ≤ h0.size) (hWd : World Z PA AA MA HS H2 PG SQ EM EL kM kE ms) (X00 : Old Z n0 h0) :
  MetFree l yM21 (head1 (Jvm.Cond.code yM21 jdk_44_method_3_code 1 (some .int) :: ws) ({ frames := 0, cells := 0, slots := 0, locals := 0 } : Room)) (fun a U => a = #[(.ref PA)] ∧ Z.Warmed39 U.vm ∧ U.heap = h0) (fun _ _ _ _ _ => True) (fun _ U o U' => ∃ v L, o = .returned v ∧ (Q_l12s Z PA AA MA HS H2 PG SQ EM EL kM kE ms h0 n0) v U'.heap L ∧ FrameEnd U o U' L ({ frames := 0, cells := 0, slots := 0, locals := 0 } : Room).cells ({ frames := 0, cells := 0, slots := 0, locals := 0 } : Room).slots) := by
 refine MetFree.of_bodySF (plainFor_of_name pn_22) hisR ?_
 intro p e s m args below meth c s₁ Bd hml0 hP hK
 obtain ⟨rfl, hZ, hHp⟩ := hP
 have hx := Bd.exec
 have D := fun {pc : Nat} {r} (h : decode _ pc = r) => hb Bd.bytes h
 have hml : c.maxLocals = 1 := hml0
 have hown : s.vm.findClass "java/util/ImmutableCollections$List12" = some m.cls := findClass_of_methodNamed Bd.named
 have hnm := (name_of_methodNamed Bd.named Bd.method).1
 have X0 : Stand p l e ({ frames := 0, cells := 0, slots := 0, locals := 0 } : Room) s m #[(.ref PA)] below meth c s₁ [] 0 0 := Stand.of_body Bd
 have e0 : s₁.heap = h0 := by rw [← hHp, Bd.state]; rfl
 have N0 := Fr.nil n0
 refine ownOut (P := (Q_l12s Z PA AA MA HS H2 PG SQ EM EL kM kE ms h0 n0)) ?_
 refine ownBy (A := s₁.setTop (mkF m 0 #[vR PA] [])) (fun t k => castTop (ef_l12s m PA) k) ?_
 have hWe := hWd
 obtain ⟨SPL, SAL, SMK, SHS, SH2, SPG, SSQ, SEM, EPA, EAA, FE1, FE0, FEL, KEL, KMA, hMA, hPA⟩ := hWe
 refine oTo s₁ (mkF m 1 #[vR PA] [(.ref PA)]) (fun t kt => ?_) ?_
 ·refine XS.aloadN X0.here hx rfl (D d9_0) rfl rfl ?_
  exact kt
 have f22 := FE1.ext X00.2
 refine own_getF X0 hx hZ hown (host := "") (Or.inl (Wd56 hw)) Via.refl e0 f22 (D d9_1) (fun T21 X21 e21 => ?_)
 refine own_getS X21 hx hZ hown (Or.inr (Wd58 hw)) Via.refl e21 (SEM.ext X00.2) (D d9_4) (fun T23 X23 e23 => ?_)
 refine oTo T23 (mkF m 15 #[vR PA] [(iV 1)]) (fun t kt => ?_) ?_
 ·refine Jvm.RoadKit.acmp (g := (mkF m 7 #[vR PA] [(.ref EM), (.ref EM)])) X23 hx rfl rfl rfl (pc0 := 7) (pc' := 14) (same := true) rfl (D d9_7) rfl (decide_eq_true rfl) (by decide) (by decide) ?_
  refine XS.iconst X23.here hx rfl (D d9_14) ?_
  exact kt
 refine ownRet X23 Bd.notSynchronized (v := some (iV 1)) (fun h => by rw [Bd.returns] at h; cases h) ?_ (oLe rfl) (oLe rfl) (fun fs hr => retI X23 hx Bd.returns (D d9_15) hr)
 show (Q_l12s Z PA AA MA HS H2 PG SQ EM EL kM kE ms h0 n0) (some (iV 1)) T23.heap _
 rw [e23]
 exact ⟨rfl, N0, rfl⟩
def Q_l12g (Z : State) (PA : Addr) (AA : Addr) (MA : Addr) (HS : Addr) (H2 : Addr) (PG : Addr) (SQ : Addr) (EM : Addr) (EL : Addr) (kM : ClassId) (kE : ClassId) (ms : List Value) (h0 : Heap) (n0 : Nat) (v : Option Value) (h : Heap) (L : List Loc) : Prop := v = some (.ref HS) ∧ Fr n0 L ∧ h = h0
theorem ef_l12g (m : MethodId) (x0 : Addr) (x1 : Int32)  : entryFrame m #[(.ref x0), (.int x1)] 2 = mkF m 0 #[vR x0, vI x1] [] := by first | (simp [entryFrame, mkF, argsToLocals, Value.category]; done) | rfl
set_option maxRecDepth 65536 in
set_option maxHeartbeats 40000000 in
theorem c_l12g (l : Launch) (Z : State) (a0 : Array Value) (hw : HW a0 Z) (ws : List Jvm.Cond) (PA : Addr) (AA : Addr) (MA : Addr) (HS : Addr) (H2 : Addr) (PG : Addr) (SQ : Addr) (EM : Addr) (EL : Addr) (kM : ClassId) (kE : ClassId) (ms : List Value) (h0 : Heap) (n0 : Nat) (Z0 : n0 ≤ h0.size) (hWd : World Z PA AA MA HS H2 PG SQ EM EL kM kE ms) (X00 : Old Z n0 h0) :
  MetFree l yM22 (head1 (Jvm.Cond.code yM22 jdk_44_method_5_code 2 (some (.object "java/lang/Object")) :: ws) ({ frames := 0, cells := 0, slots := 0, locals := 0 } : Room)) (fun a U => a = #[(.ref PA), (iV 0)] ∧ Z.Warmed39 U.vm ∧ U.heap = h0) (fun _ _ _ _ _ => True) (fun _ U o U' => ∃ v L, o = .returned v ∧ (Q_l12g Z PA AA MA HS H2 PG SQ EM EL kM kE ms h0 n0) v U'.heap L ∧ FrameEnd U o U' L ({ frames := 0, cells := 0, slots := 0, locals := 0 } : Room).cells ({ frames := 0, cells := 0, slots := 0, locals := 0 } : Room).slots) := by
 refine MetFree.of_bodySF (plainFor_of_name pn_22) hisR ?_
 intro p e s m args below meth c s₁ Bd hml0 hP hK
 obtain ⟨rfl, hZ, hHp⟩ := hP
 have hx := Bd.exec
 have D := fun {pc : Nat} {r} (h : decode _ pc = r) => hb Bd.bytes h
 have hml : c.maxLocals = 2 := hml0
 have hown : s.vm.findClass "java/util/ImmutableCollections$List12" = some m.cls := findClass_of_methodNamed Bd.named
 have hnm := (name_of_methodNamed Bd.named Bd.method).1
 have X0 : Stand p l e ({ frames := 0, cells := 0, slots := 0, locals := 0 } : Room) s m #[(.ref PA), (iV 0)] below meth c s₁ [] 0 0 := Stand.of_body Bd
 have e0 : s₁.heap = h0 := by rw [← hHp, Bd.state]; rfl
 have N0 := Fr.nil n0
 refine ownOut (P := (Q_l12g Z PA AA MA HS H2 PG SQ EM EL kM kE ms h0 n0)) ?_
 refine ownBy (A := s₁.setTop (mkF m 0 #[vR PA, vI 0] [])) (fun t k => castTop (ef_l12g m PA (0 : Int32)) k) ?_
 have hWe := hWd
 obtain ⟨SPL, SAL, SMK, SHS, SH2, SPG, SSQ, SEM, EPA, EAA, FE1, FE0, FEL, KEL, KMA, hMA, hPA⟩ := hWe
 refine oTo s₁ (mkF m 5 #[vR PA, vI 0] [(.ref PA)]) (fun t kt => ?_) ?_
 ·refine XS.iloadN X0.here hx rfl (D d10_0) rfl ?_
  refine XS.ifNo X0.here hx rfl (D d10_1) rfl ((if0 _ _).trans (teq ((by decide) : (0 : Int32) = (0 : Int32))).2) ?_
  refine XS.aloadN X0.here hx rfl (D d10_4) rfl rfl ?_
  exact kt
 have f22 := FE0.ext X00.2
 refine own_getF X0 hx hZ hown (host := "") (Or.inl (Wd68 hw)) Via.refl e0 f22 (D d10_5) (fun T21 X21 e21 => ?_)
 refine ownRet X21 Bd.notSynchronized (v := some (.ref HS)) (fun h => by rw [Bd.returns] at h; cases h) ?_ (oLe rfl) (oLe rfl) (fun fs hr => retOut X21 hx Bd.returns rfl (Or.inr (Or.inr (Or.inr (Or.inr ⟨rfl, rfl, rfl⟩)))) (D d10_8) hr)
 show (Q_l12g Z PA AA MA HS H2 PG SQ EM EL kM kE ms h0 n0) (some (.ref HS)) T21.heap _
 rw [e21]
 exact ⟨rfl, N0, rfl⟩
def Q_lns (Z : State) (PA : Addr) (AA : Addr) (MA : Addr) (HS : Addr) (H2 : Addr) (PG : Addr) (SQ : Addr) (EM : Addr) (EL : Addr) (kM : ClassId) (kE : ClassId) (ms : List Value) (h0 : Heap) (n0 : Nat) (v : Option Value) (h : Heap) (L : List Loc) : Prop := v = some (iV 4) ∧ Fr n0 L ∧ h = h0
theorem ef_lns (m : MethodId) (x0 : Addr)  : entryFrame m #[(.ref x0)] 1 = mkF m 0 #[vR x0] [] := by first | (simp [entryFrame, mkF, argsToLocals, Value.category]; done) | rfl
set_option maxRecDepth 65536 in
set_option maxHeartbeats 40000000 in
theorem c_lns (l : Launch) (Z : State) (a0 : Array Value) (hw : HW a0 Z) (ws : List Jvm.Cond) (PA : Addr) (AA : Addr) (MA : Addr) (HS : Addr) (H2 : Addr) (PG : Addr) (SQ : Addr) (EM : Addr) (EL : Addr) (kM : ClassId) (kE : ClassId) (ms : List Value) (h0 : Heap) (n0 : Nat) (Z0 : n0 ≤ h0.size) (hWd : World Z PA AA MA HS H2 PG SQ EM EL kM kE ms) (X00 : Old Z n0 h0) :
  MetFree l yM23 (head1 (Jvm.Cond.code yM23 jdk_45_method_3_code 1 (some .int) :: ws) ({ frames := 0, cells := 0, slots := 0, locals := 0 } : Room)) (fun a U => a = #[(.ref AA)] ∧ Z.Warmed39 U.vm ∧ U.heap = h0) (fun _ _ _ _ _ => True) (fun _ U o U' => ∃ v L, o = .returned v ∧ (Q_lns Z PA AA MA HS H2 PG SQ EM EL kM kE ms h0 n0) v U'.heap L ∧ FrameEnd U o U' L ({ frames := 0, cells := 0, slots := 0, locals := 0 } : Room).cells ({ frames := 0, cells := 0, slots := 0, locals := 0 } : Room).slots) := by
 refine MetFree.of_bodySF (plainFor_of_name pn_23) hisR ?_
 intro p e s m args below meth c s₁ Bd hml0 hP hK
 obtain ⟨rfl, hZ, hHp⟩ := hP
 have hx := Bd.exec
 have D := fun {pc : Nat} {r} (h : decode _ pc = r) => hb Bd.bytes h
 have hml : c.maxLocals = 1 := hml0
 have hown : s.vm.findClass "java/util/ImmutableCollections$ListN" = some m.cls := findClass_of_methodNamed Bd.named
 have hnm := (name_of_methodNamed Bd.named Bd.method).1
 have X0 : Stand p l e ({ frames := 0, cells := 0, slots := 0, locals := 0 } : Room) s m #[(.ref AA)] below meth c s₁ [] 0 0 := Stand.of_body Bd
 have e0 : s₁.heap = h0 := by rw [← hHp, Bd.state]; rfl
 have N0 := Fr.nil n0
 refine ownOut (P := (Q_lns Z PA AA MA HS H2 PG SQ EM EL kM kE ms h0 n0)) ?_
 refine ownBy (A := s₁.setTop (mkF m 0 #[vR AA] [])) (fun t k => castTop (ef_lns m AA) k) ?_
 have hWe := hWd
 obtain ⟨SPL, SAL, SMK, SHS, SH2, SPG, SSQ, SEM, EPA, EAA, FE1, FE0, FEL, KEL, KMA, hMA, hPA⟩ := hWe
 refine oTo s₁ (mkF m 1 #[vR AA] [(.ref AA)]) (fun t kt => ?_) ?_
 ·refine XS.aloadN X0.here hx rfl (D d20_0) rfl rfl ?_
  exact kt
 have f22 := FEL.ext X00.2
 refine own_getF X0 hx hZ hown (host := "") (Or.inl (Wd118 hw)) Via.refl e0 f22 (D d20_1) (fun T21 X21 e21 => ?_)
 have f23 := KEL.ext X00.2
 obtain ⟨cl24, Ar24, -, S24, N24, -, -⟩ := id f23
 have st24 := X21.arraylength hx (by rw [e21]; exact Ar24.1) (State.isArrayOf_alike hZ.alike Ar24.2.1) (g := (mkF m 4 #[vR AA] [(.ref EL)])) rfl rfl (D d20_4)
 rw [len_of S24 N24] at st24
 refine ownBy st24 ?_
 show oA p e below _ T21 (mkF m 5 #[vR AA] [(iV 4)])
 refine ownRet X21 Bd.notSynchronized (v := some (iV 4)) (fun h => by rw [Bd.returns] at h; cases h) ?_ (oLe rfl) (oLe rfl) (fun fs hr => retI X21 hx Bd.returns (D d20_5) hr)
 show (Q_lns Z PA AA MA HS H2 PG SQ EM EL kM kE ms h0 n0) (some (iV 4)) T21.heap _
 rw [e21]
 exact ⟨rfl, N0, rfl⟩
abbrev fr_lng0 (m : MethodId) (AA : Addr) (pc : Nat)  (st : List Value) : JFrame := mkF m pc #[vR AA, vI 0] st
def Q_lng0 (Z : State) (PA : Addr) (AA : Addr) (MA : Addr) (HS : Addr) (H2 : Addr) (PG : Addr) (SQ : Addr) (EM : Addr) (EL : Addr) (kM : ClassId) (kE : ClassId) (ms : List Value) (h0 : Heap) (n0 : Nat) (v : Option Value) (h : Heap) (L : List Loc) : Prop := v = some (.ref HS) ∧ Fr n0 L ∧ h = h0
theorem ef_lng0 (m : MethodId) (x0 : Addr) (x1 : Int32)  : entryFrame m #[(.ref x0), (.int x1)] 2 = mkF m 0 #[vR x0, vI x1] [] := by first | (simp [entryFrame, mkF, argsToLocals, Value.category]; done) | rfl
set_option maxRecDepth 65536 in
set_option maxHeartbeats 40000000 in
theorem c_lng0 (l : Launch) (Z : State) (a0 : Array Value) (hw : HW a0 Z) (ws : List Jvm.Cond) (PA : Addr) (AA : Addr) (MA : Addr) (HS : Addr) (H2 : Addr) (PG : Addr) (SQ : Addr) (EM : Addr) (EL : Addr) (kM : ClassId) (kE : ClassId) (ms : List Value) (h0 : Heap) (n0 : Nat) (Z0 : n0 ≤ h0.size) (hWd : World Z PA AA MA HS H2 PG SQ EM EL kM kE ms) (X00 : Old Z n0 h0) :
  MetFree l yM24 (head1 (Jvm.Cond.code yM24 jdk_45_method_4_code 2 (some (.object "java/lang/Object")) :: ws) ({ frames := 0, cells := 0, slots := 0, locals := 0 } : Room)) (fun a U => a = #[(.ref AA), (iV 0)] ∧ Z.Warmed39 U.vm ∧ U.heap = h0) (fun _ _ _ _ _ => True) (fun _ U o U' => ∃ v L, o = .returned v ∧ (Q_lng0 Z PA AA MA HS H2 PG SQ EM EL kM kE ms h0 n0) v U'.heap L ∧ FrameEnd U o U' L ({ frames := 0, cells := 0, slots := 0, locals := 0 } : Room).cells ({ frames := 0, cells := 0, slots := 0, locals := 0 } : Room).slots) := by
 refine MetFree.of_bodySF (plainFor_of_name pn_23) hisR ?_
 intro p e s m args below meth c s₁ Bd hml0 hP hK
 obtain ⟨rfl, hZ, hHp⟩ := hP
 have hx := Bd.exec
 have D := fun {pc : Nat} {r} (h : decode _ pc = r) => hb Bd.bytes h
 have hml : c.maxLocals = 2 := hml0
 have hown : s.vm.findClass "java/util/ImmutableCollections$ListN" = some m.cls := findClass_of_methodNamed Bd.named
 have hnm := (name_of_methodNamed Bd.named Bd.method).1
 have X0 : Stand p l e ({ frames := 0, cells := 0, slots := 0, locals := 0 } : Room) s m #[(.ref AA), (iV 0)] below meth c s₁ [] 0 0 := Stand.of_body Bd
 have e0 : s₁.heap = h0 := by rw [← hHp, Bd.state]; rfl
 have N0 := Fr.nil n0
 refine ownOut (P := (Q_lng0 Z PA AA MA HS H2 PG SQ EM EL kM kE ms h0 n0)) ?_
 refine ownBy (A := s₁.setTop (mkF m 0 #[vR AA, vI 0] [])) (fun t k => castTop (ef_lng0 m AA (0 : Int32)) k) ?_
 have hWe := hWd
 obtain ⟨SPL, SAL, SMK, SHS, SH2, SPG, SSQ, SEM, EPA, EAA, FE1, FE0, FEL, KEL, KMA, hMA, hPA⟩ := hWe
 refine oTo s₁ (fr_lng0 m AA 1  [(.ref AA)]) (fun t kt => ?_) ?_
 ·refine XS.aloadN X0.here hx rfl (D d21_0) rfl rfl ?_
  exact kt
 have f22 := FEL.ext X00.2
 refine own_getF X0 hx hZ hown (host := "") (Or.inl (Wd118 hw)) Via.refl e0 f22 (D d21_1) (fun T21 X21 e21 => ?_)
 refine oTo T21 (fr_lng0 m AA 5  [(iV 0), (.ref EL)]) (fun t kt => ?_) ?_
 ·refine XS.iloadN X21.here hx rfl (D d21_4) rfl ?_
  exact kt
 have f23 := KEL.ext X00.2
 obtain ⟨cl24, Ar24, q24, S24, N24, H24, G24⟩ := id f23
 have hin24 : ¬ ((0 : Int32) < 0 ∨ cl24.slots.size ≤ ((0 : Int32)).toNatClampNeg) := inb_of S24 ⟨by decide, by decide⟩
 have hat24 : cl24.slots[((0 : Int32)).toNatClampNeg]? = some (.ref HS) := H24.at hin24 rfl
 have st24 := X21.aaload hx (j := (0 : Int32)) (v := (.ref HS)) (by rw [e21]; exact Ar24.1) (State.isArrayOf_alike hZ.alike Ar24.2.1) rfl Ar24.2.2 hin24 hat24 (g := (fr_lng0 m AA 5  [(iV 0), (.ref EL)])) rfl rfl (D d21_5)
 refine ownBy st24 ?_
 show oA p e below _ T21 (fr_lng0 m AA 6  [(.ref HS)])
 refine ownRet X21 Bd.notSynchronized (v := some (.ref HS)) (fun h => by rw [Bd.returns] at h; cases h) ?_ (oLe rfl) (oLe rfl) (fun fs hr => retOut X21 hx Bd.returns rfl (Or.inr (Or.inr (Or.inr (Or.inr ⟨rfl, rfl, rfl⟩)))) (D d21_6) hr)
 show (Q_lng0 Z PA AA MA HS H2 PG SQ EM EL kM kE ms h0 n0) (some (.ref HS)) T21.heap _
 rw [e21]
 exact ⟨rfl, N0, rfl⟩
abbrev fr_lng1 (m : MethodId) (AA : Addr) (pc : Nat)  (st : List Value) : JFrame := mkF m pc #[vR AA, vI 1] st
def Q_lng1 (Z : State) (PA : Addr) (AA : Addr) (MA : Addr) (HS : Addr) (H2 : Addr) (PG : Addr) (SQ : Addr) (EM : Addr) (EL : Addr) (kM : ClassId) (kE : ClassId) (ms : List Value) (h0 : Heap) (n0 : Nat) (v : Option Value) (h : Heap) (L : List Loc) : Prop := v = some (.ref H2) ∧ Fr n0 L ∧ h = h0
theorem ef_lng1 (m : MethodId) (x0 : Addr) (x1 : Int32)  : entryFrame m #[(.ref x0), (.int x1)] 2 = mkF m 0 #[vR x0, vI x1] [] := by first | (simp [entryFrame, mkF, argsToLocals, Value.category]; done) | rfl
set_option maxRecDepth 65536 in
set_option maxHeartbeats 40000000 in
theorem c_lng1 (l : Launch) (Z : State) (a0 : Array Value) (hw : HW a0 Z) (ws : List Jvm.Cond) (PA : Addr) (AA : Addr) (MA : Addr) (HS : Addr) (H2 : Addr) (PG : Addr) (SQ : Addr) (EM : Addr) (EL : Addr) (kM : ClassId) (kE : ClassId) (ms : List Value) (h0 : Heap) (n0 : Nat) (Z0 : n0 ≤ h0.size) (hWd : World Z PA AA MA HS H2 PG SQ EM EL kM kE ms) (X00 : Old Z n0 h0) :
  MetFree l yM24 (head1 (Jvm.Cond.code yM24 jdk_45_method_4_code 2 (some (.object "java/lang/Object")) :: ws) ({ frames := 0, cells := 0, slots := 0, locals := 0 } : Room)) (fun a U => a = #[(.ref AA), (iV 1)] ∧ Z.Warmed39 U.vm ∧ U.heap = h0) (fun _ _ _ _ _ => True) (fun _ U o U' => ∃ v L, o = .returned v ∧ (Q_lng1 Z PA AA MA HS H2 PG SQ EM EL kM kE ms h0 n0) v U'.heap L ∧ FrameEnd U o U' L ({ frames := 0, cells := 0, slots := 0, locals := 0 } : Room).cells ({ frames := 0, cells := 0, slots := 0, locals := 0 } : Room).slots) := by
 refine MetFree.of_bodySF (plainFor_of_name pn_23) hisR ?_
 intro p e s m args below meth c s₁ Bd hml0 hP hK
 obtain ⟨rfl, hZ, hHp⟩ := hP
 have hx := Bd.exec
 have D := fun {pc : Nat} {r} (h : decode _ pc = r) => hb Bd.bytes h
 have hml : c.maxLocals = 2 := hml0
 have hown : s.vm.findClass "java/util/ImmutableCollections$ListN" = some m.cls := findClass_of_methodNamed Bd.named
 have hnm := (name_of_methodNamed Bd.named Bd.method).1
 have X0 : Stand p l e ({ frames := 0, cells := 0, slots := 0, locals := 0 } : Room) s m #[(.ref AA), (iV 1)] below meth c s₁ [] 0 0 := Stand.of_body Bd
 have e0 : s₁.heap = h0 := by rw [← hHp, Bd.state]; rfl
 have N0 := Fr.nil n0
 refine ownOut (P := (Q_lng1 Z PA AA MA HS H2 PG SQ EM EL kM kE ms h0 n0)) ?_
 refine ownBy (A := s₁.setTop (mkF m 0 #[vR AA, vI 1] [])) (fun t k => castTop (ef_lng1 m AA (1 : Int32)) k) ?_
 have hWe := hWd
 obtain ⟨SPL, SAL, SMK, SHS, SH2, SPG, SSQ, SEM, EPA, EAA, FE1, FE0, FEL, KEL, KMA, hMA, hPA⟩ := hWe
 refine oTo s₁ (fr_lng1 m AA 1  [(.ref AA)]) (fun t kt => ?_) ?_
 ·refine XS.aloadN X0.here hx rfl (D d21_0) rfl rfl ?_
  exact kt
 have f22 := FEL.ext X00.2
 refine own_getF X0 hx hZ hown (host := "") (Or.inl (Wd118 hw)) Via.refl e0 f22 (D d21_1) (fun T21 X21 e21 => ?_)
 refine oTo T21 (fr_lng1 m AA 5  [(iV 1), (.ref EL)]) (fun t kt => ?_) ?_
 ·refine XS.iloadN X21.here hx rfl (D d21_4) rfl ?_
  exact kt
 have f23 := KEL.ext X00.2
 obtain ⟨cl24, Ar24, q24, S24, N24, H24, G24⟩ := id f23
 have hin24 : ¬ ((1 : Int32) < 0 ∨ cl24.slots.size ≤ ((1 : Int32)).toNatClampNeg) := inb_of S24 ⟨by decide, by decide⟩
 have hat24 : cl24.slots[((1 : Int32)).toNatClampNeg]? = some (.ref H2) := H24.at hin24 rfl
 have st24 := X21.aaload hx (j := (1 : Int32)) (v := (.ref H2)) (by rw [e21]; exact Ar24.1) (State.isArrayOf_alike hZ.alike Ar24.2.1) rfl Ar24.2.2 hin24 hat24 (g := (fr_lng1 m AA 5  [(iV 1), (.ref EL)])) rfl rfl (D d21_5)
 refine ownBy st24 ?_
 show oA p e below _ T21 (fr_lng1 m AA 6  [(.ref H2)])
 refine ownRet X21 Bd.notSynchronized (v := some (.ref H2)) (fun h => by rw [Bd.returns] at h; cases h) ?_ (oLe rfl) (oLe rfl) (fun fs hr => retOut X21 hx Bd.returns rfl (Or.inr (Or.inr (Or.inr (Or.inr ⟨rfl, rfl, rfl⟩)))) (D d21_6) hr)
 show (Q_lng1 Z PA AA MA HS H2 PG SQ EM EL kM kE ms h0 n0) (some (.ref H2)) T21.heap _
 rw [e21]
 exact ⟨rfl, N0, rfl⟩
abbrev fr_lng2 (m : MethodId) (AA : Addr) (pc : Nat)  (st : List Value) : JFrame := mkF m pc #[vR AA, vI 2] st
def Q_lng2 (Z : State) (PA : Addr) (AA : Addr) (MA : Addr) (HS : Addr) (H2 : Addr) (PG : Addr) (SQ : Addr) (EM : Addr) (EL : Addr) (kM : ClassId) (kE : ClassId) (ms : List Value) (h0 : Heap) (n0 : Nat) (v : Option Value) (h : Heap) (L : List Loc) : Prop := v = some (.ref PG) ∧ Fr n0 L ∧ h = h0
theorem ef_lng2 (m : MethodId) (x0 : Addr) (x1 : Int32)  : entryFrame m #[(.ref x0), (.int x1)] 2 = mkF m 0 #[vR x0, vI x1] [] := by first | (simp [entryFrame, mkF, argsToLocals, Value.category]; done) | rfl
set_option maxRecDepth 65536 in
set_option maxHeartbeats 40000000 in
theorem c_lng2 (l : Launch) (Z : State) (a0 : Array Value) (hw : HW a0 Z) (ws : List Jvm.Cond) (PA : Addr) (AA : Addr) (MA : Addr) (HS : Addr) (H2 : Addr) (PG : Addr) (SQ : Addr) (EM : Addr) (EL : Addr) (kM : ClassId) (kE : ClassId) (ms : List Value) (h0 : Heap) (n0 : Nat) (Z0 : n0 ≤ h0.size) (hWd : World Z PA AA MA HS H2 PG SQ EM EL kM kE ms) (X00 : Old Z n0 h0) :
  MetFree l yM24 (head1 (Jvm.Cond.code yM24 jdk_45_method_4_code 2 (some (.object "java/lang/Object")) :: ws) ({ frames := 0, cells := 0, slots := 0, locals := 0 } : Room)) (fun a U => a = #[(.ref AA), (iV 2)] ∧ Z.Warmed39 U.vm ∧ U.heap = h0) (fun _ _ _ _ _ => True) (fun _ U o U' => ∃ v L, o = .returned v ∧ (Q_lng2 Z PA AA MA HS H2 PG SQ EM EL kM kE ms h0 n0) v U'.heap L ∧ FrameEnd U o U' L ({ frames := 0, cells := 0, slots := 0, locals := 0 } : Room).cells ({ frames := 0, cells := 0, slots := 0, locals := 0 } : Room).slots) := by
 refine MetFree.of_bodySF (plainFor_of_name pn_23) hisR ?_
 intro p e s m args below meth c s₁ Bd hml0 hP hK
 obtain ⟨rfl, hZ, hHp⟩ := hP
 have hx := Bd.exec
 have D := fun {pc : Nat} {r} (h : decode _ pc = r) => hb Bd.bytes h
 have hml : c.maxLocals = 2 := hml0
 have hown : s.vm.findClass "java/util/ImmutableCollections$ListN" = some m.cls := findClass_of_methodNamed Bd.named
 have hnm := (name_of_methodNamed Bd.named Bd.method).1
 have X0 : Stand p l e ({ frames := 0, cells := 0, slots := 0, locals := 0 } : Room) s m #[(.ref AA), (iV 2)] below meth c s₁ [] 0 0 := Stand.of_body Bd
 have e0 : s₁.heap = h0 := by rw [← hHp, Bd.state]; rfl
 have N0 := Fr.nil n0
 refine ownOut (P := (Q_lng2 Z PA AA MA HS H2 PG SQ EM EL kM kE ms h0 n0)) ?_
 refine ownBy (A := s₁.setTop (mkF m 0 #[vR AA, vI 2] [])) (fun t k => castTop (ef_lng2 m AA (2 : Int32)) k) ?_
 have hWe := hWd
 obtain ⟨SPL, SAL, SMK, SHS, SH2, SPG, SSQ, SEM, EPA, EAA, FE1, FE0, FEL, KEL, KMA, hMA, hPA⟩ := hWe
 refine oTo s₁ (fr_lng2 m AA 1  [(.ref AA)]) (fun t kt => ?_) ?_
 ·refine XS.aloadN X0.here hx rfl (D d21_0) rfl rfl ?_
  exact kt
 have f22 := FEL.ext X00.2
 refine own_getF X0 hx hZ hown (host := "") (Or.inl (Wd118 hw)) Via.refl e0 f22 (D d21_1) (fun T21 X21 e21 => ?_)
 refine oTo T21 (fr_lng2 m AA 5  [(iV 2), (.ref EL)]) (fun t kt => ?_) ?_
 ·refine XS.iloadN X21.here hx rfl (D d21_4) rfl ?_
  exact kt
 have f23 := KEL.ext X00.2
 obtain ⟨cl24, Ar24, q24, S24, N24, H24, G24⟩ := id f23
 have hin24 : ¬ ((2 : Int32) < 0 ∨ cl24.slots.size ≤ ((2 : Int32)).toNatClampNeg) := inb_of S24 ⟨by decide, by decide⟩
 have hat24 : cl24.slots[((2 : Int32)).toNatClampNeg]? = some (.ref PG) := H24.at hin24 rfl
 have st24 := X21.aaload hx (j := (2 : Int32)) (v := (.ref PG)) (by rw [e21]; exact Ar24.1) (State.isArrayOf_alike hZ.alike Ar24.2.1) rfl Ar24.2.2 hin24 hat24 (g := (fr_lng2 m AA 5  [(iV 2), (.ref EL)])) rfl rfl (D d21_5)
 refine ownBy st24 ?_
 show oA p e below _ T21 (fr_lng2 m AA 6  [(.ref PG)])
 refine ownRet X21 Bd.notSynchronized (v := some (.ref PG)) (fun h => by rw [Bd.returns] at h; cases h) ?_ (oLe rfl) (oLe rfl) (fun fs hr => retOut X21 hx Bd.returns rfl (Or.inr (Or.inr (Or.inr (Or.inr ⟨rfl, rfl, rfl⟩)))) (D d21_6) hr)
 show (Q_lng2 Z PA AA MA HS H2 PG SQ EM EL kM kE ms h0 n0) (some (.ref PG)) T21.heap _
 rw [e21]
 exact ⟨rfl, N0, rfl⟩
abbrev fr_lng3 (m : MethodId) (AA : Addr) (pc : Nat)  (st : List Value) : JFrame := mkF m pc #[vR AA, vI 3] st
def Q_lng3 (Z : State) (PA : Addr) (AA : Addr) (MA : Addr) (HS : Addr) (H2 : Addr) (PG : Addr) (SQ : Addr) (EM : Addr) (EL : Addr) (kM : ClassId) (kE : ClassId) (ms : List Value) (h0 : Heap) (n0 : Nat) (v : Option Value) (h : Heap) (L : List Loc) : Prop := v = some (.ref SQ) ∧ Fr n0 L ∧ h = h0
theorem ef_lng3 (m : MethodId) (x0 : Addr) (x1 : Int32)  : entryFrame m #[(.ref x0), (.int x1)] 2 = mkF m 0 #[vR x0, vI x1] [] := by first | (simp [entryFrame, mkF, argsToLocals, Value.category]; done) | rfl
set_option maxRecDepth 65536 in
set_option maxHeartbeats 40000000 in
theorem c_lng3 (l : Launch) (Z : State) (a0 : Array Value) (hw : HW a0 Z) (ws : List Jvm.Cond) (PA : Addr) (AA : Addr) (MA : Addr) (HS : Addr) (H2 : Addr) (PG : Addr) (SQ : Addr) (EM : Addr) (EL : Addr) (kM : ClassId) (kE : ClassId) (ms : List Value) (h0 : Heap) (n0 : Nat) (Z0 : n0 ≤ h0.size) (hWd : World Z PA AA MA HS H2 PG SQ EM EL kM kE ms) (X00 : Old Z n0 h0) :
  MetFree l yM24 (head1 (Jvm.Cond.code yM24 jdk_45_method_4_code 2 (some (.object "java/lang/Object")) :: ws) ({ frames := 0, cells := 0, slots := 0, locals := 0 } : Room)) (fun a U => a = #[(.ref AA), (iV 3)] ∧ Z.Warmed39 U.vm ∧ U.heap = h0) (fun _ _ _ _ _ => True) (fun _ U o U' => ∃ v L, o = .returned v ∧ (Q_lng3 Z PA AA MA HS H2 PG SQ EM EL kM kE ms h0 n0) v U'.heap L ∧ FrameEnd U o U' L ({ frames := 0, cells := 0, slots := 0, locals := 0 } : Room).cells ({ frames := 0, cells := 0, slots := 0, locals := 0 } : Room).slots) := by
 refine MetFree.of_bodySF (plainFor_of_name pn_23) hisR ?_
 intro p e s m args below meth c s₁ Bd hml0 hP hK
 obtain ⟨rfl, hZ, hHp⟩ := hP
 have hx := Bd.exec
 have D := fun {pc : Nat} {r} (h : decode _ pc = r) => hb Bd.bytes h
 have hml : c.maxLocals = 2 := hml0
 have hown : s.vm.findClass "java/util/ImmutableCollections$ListN" = some m.cls := findClass_of_methodNamed Bd.named
 have hnm := (name_of_methodNamed Bd.named Bd.method).1
 have X0 : Stand p l e ({ frames := 0, cells := 0, slots := 0, locals := 0 } : Room) s m #[(.ref AA), (iV 3)] below meth c s₁ [] 0 0 := Stand.of_body Bd
 have e0 : s₁.heap = h0 := by rw [← hHp, Bd.state]; rfl
 have N0 := Fr.nil n0
 refine ownOut (P := (Q_lng3 Z PA AA MA HS H2 PG SQ EM EL kM kE ms h0 n0)) ?_
 refine ownBy (A := s₁.setTop (mkF m 0 #[vR AA, vI 3] [])) (fun t k => castTop (ef_lng3 m AA (3 : Int32)) k) ?_
 have hWe := hWd
 obtain ⟨SPL, SAL, SMK, SHS, SH2, SPG, SSQ, SEM, EPA, EAA, FE1, FE0, FEL, KEL, KMA, hMA, hPA⟩ := hWe
 refine oTo s₁ (fr_lng3 m AA 1  [(.ref AA)]) (fun t kt => ?_) ?_
 ·refine XS.aloadN X0.here hx rfl (D d21_0) rfl rfl ?_
  exact kt
 have f22 := FEL.ext X00.2
 refine own_getF X0 hx hZ hown (host := "") (Or.inl (Wd118 hw)) Via.refl e0 f22 (D d21_1) (fun T21 X21 e21 => ?_)
 refine oTo T21 (fr_lng3 m AA 5  [(iV 3), (.ref EL)]) (fun t kt => ?_) ?_
 ·refine XS.iloadN X21.here hx rfl (D d21_4) rfl ?_
  exact kt
 have f23 := KEL.ext X00.2
 obtain ⟨cl24, Ar24, q24, S24, N24, H24, G24⟩ := id f23
 have hin24 : ¬ ((3 : Int32) < 0 ∨ cl24.slots.size ≤ ((3 : Int32)).toNatClampNeg) := inb_of S24 ⟨by decide, by decide⟩
 have hat24 : cl24.slots[((3 : Int32)).toNatClampNeg]? = some (.ref SQ) := H24.at hin24 rfl
 have st24 := X21.aaload hx (j := (3 : Int32)) (v := (.ref SQ)) (by rw [e21]; exact Ar24.1) (State.isArrayOf_alike hZ.alike Ar24.2.1) rfl Ar24.2.2 hin24 hat24 (g := (fr_lng3 m AA 5  [(iV 3), (.ref EL)])) rfl rfl (D d21_5)
 refine ownBy st24 ?_
 show oA p e below _ T21 (fr_lng3 m AA 6  [(.ref SQ)])
 refine ownRet X21 Bd.notSynchronized (v := some (.ref SQ)) (fun h => by rw [Bd.returns] at h; cases h) ?_ (oLe rfl) (oLe rfl) (fun fs hr => retOut X21 hx Bd.returns rfl (Or.inr (Or.inr (Or.inr (Or.inr ⟨rfl, rfl, rfl⟩)))) (D d21_6) hr)
 show (Q_lng3 Z PA AA MA HS H2 PG SQ EM EL kM kE ms h0 n0) (some (.ref SQ)) T21.heap _
 rw [e21]
 exact ⟨rfl, N0, rfl⟩
abbrev fr_pick (m : MethodId) (p1 : Int32) (pc : Nat) (x1_ : Slot) (st : List Value) : JFrame := mkF m pc #[vI p1, x1_] st
def Q_pick (Z : State) (p1 : Int32) (h0 : Heap) (n0 : Nat) (v : Option Value) (h : Heap) (L : List Loc) : Prop := ∃ r : Int32, v = some (.int r) ∧ Fr n0 L ∧ h = h0 ∧ (¬ r < 0 ∧ ¬ (65535 : Int32) < r)
theorem ef_pick (m : MethodId) (x0 : Int32)  : entryFrame m #[(.int x0)] 2 = mkF m 0 #[vI x0, .unset] [] := by first | (simp [entryFrame, mkF, argsToLocals, Value.category]; done) | rfl
set_option maxRecDepth 65536 in
set_option maxHeartbeats 40000000 in
theorem c_pick (l : Launch) (Z : State) (a0 : Array Value) (hw : HW a0 Z) (ws : List Jvm.Cond) (p1 : Int32) (h0 : Heap) (n0 : Nat) (Z0 : n0 ≤ h0.size) :
  MetFree l yM25 (head1 (Jvm.Cond.code yM25 method_4_code 2 (some .char) :: ws) ({ frames := 0, cells := 0, slots := 0, locals := 0 } : Room)) (fun a U => a = #[(.int p1)] ∧ Z.Warmed39 U.vm ∧ U.heap = h0) (fun _ _ _ _ _ => True) (fun _ U o U' => ∃ v L, o = .returned v ∧ (Q_pick Z p1 h0 n0) v U'.heap L ∧ FrameEnd U o U' L ({ frames := 0, cells := 0, slots := 0, locals := 0 } : Room).cells ({ frames := 0, cells := 0, slots := 0, locals := 0 } : Room).slots) := by
 refine MetFree.of_bodySF (plainFor_of_name pn_24) hisR ?_
 intro p e s m args below meth c s₁ Bd hml0 hP hK
 obtain ⟨rfl, hZ, hHp⟩ := hP
 have hx := Bd.exec
 have D := fun {pc : Nat} {r} (h : decode _ pc = r) => hb Bd.bytes h
 have hml : c.maxLocals = 2 := hml0
 have hown : s.vm.findClass "com/example/savepoint/savepoint/SqlDialectReadingsOfPinLaw" = some m.cls := findClass_of_methodNamed Bd.named
 have hnm := (name_of_methodNamed Bd.named Bd.method).1
 have X0 : Stand p l e ({ frames := 0, cells := 0, slots := 0, locals := 0 } : Room) s m #[(.int p1)] below meth c s₁ [] 0 0 := Stand.of_body Bd
 have e0 : s₁.heap = h0 := by rw [← hHp, Bd.state]; rfl
 have N0 := Fr.nil n0
 refine ownOut (P := (Q_pick Z p1 h0 n0)) ?_
 refine ownBy (A := s₁.setTop (mkF m 0 #[vI p1, .unset] [])) (fun t k => castTop (ef_pick m p1) k) ?_
 refine oTo s₁ (fr_pick m p1 9 (.val (.int (((p1.toUInt32 >>> ((16 : Int32) &&& 31).toUInt32).toInt32) &&& (15 : Int32)))) [(.int (((p1.toUInt32 >>> ((16 : Int32) &&& 31).toUInt32).toInt32) &&& (15 : Int32)))]) (fun t kt => ?_) ?_
 ·refine XS.iloadN X0.here hx rfl (D d1_0) rfl ?_
  refine XS.bipush X0.here hx rfl (D d1_1) ?_
  refine XS.iushr X0.here hx rfl (D d1_3) rfl ?_
  refine XS.bipush X0.here hx rfl (D d1_4) ?_
  show Steps p.tables e below (s₁.setTop (fr_pick m p1 6 .unset [(iV 15), (.int ((p1.toUInt32 >>> ((16 : Int32) &&& 31).toUInt32).toInt32))])) t
  refine XS.iand X0.here hx rfl (D d1_6) rfl ?_
  refine XS.istoreN X0.here hx rfl (D d1_7) rfl (l' := #[vI p1, .val (.int (((p1.toUInt32 >>> ((16 : Int32) &&& 31).toUInt32).toInt32) &&& (15 : Int32)))]) rfl ?_
  refine XS.iloadN X0.here hx rfl (D d1_8) rfl ?_
  exact kt
 by_cases hc21 : (((p1.toUInt32 >>> ((16 : Int32) &&& 31).toUInt32).toInt32) &&& (15 : Int32)) = (0 : Int32)
 ·skip
  refine oTo s₁ (fr_pick m p1 14 (.val (.int (((p1.toUInt32 >>> ((16 : Int32) &&& 31).toUInt32).toInt32) &&& (15 : Int32)))) [(iV 47)]) (fun t kt => ?_) ?_
  ·refine XS.ifNo X0.here hx rfl (D d1_9) rfl ((if0 _ _).trans (teq hc21).2) ?_
   refine XS.bipush X0.here hx rfl (D d1_12) ?_
   exact kt
  refine ownRet X0 Bd.notSynchronized (v := some (.int (nar .char (47 : Int32)))) (fun h => by rw [Bd.returns] at h; cases h) ?_ (oLe rfl) (oLe rfl) (fun fs hr => retN X0 hx (t := .char) Bd.returns (by simp) (D d1_14) hr)
  show (Q_pick Z p1 h0 n0) (some (.int (nar .char (47 : Int32)))) s₁.heap _
  rw [e0]
  exact ⟨_, rfl, N0, rfl, own_n16 _⟩
 ·skip
  refine oTo s₁ (fr_pick m p1 17 (.val (.int (((p1.toUInt32 >>> ((16 : Int32) &&& 31).toUInt32).toInt32) &&& (15 : Int32)))) [(iV 1), (.int (((p1.toUInt32 >>> ((16 : Int32) &&& 31).toUInt32).toInt32) &&& (15 : Int32)))]) (fun t kt => ?_) ?_
  ·refine XS.ifYes X0.here hx rfl (pc0 := 9) (pc' := 15) rfl (D d1_9) rfl ((if0 _ _).trans (feq hc21).2) (by decide) (by decide) ?_
   refine XS.iloadN X0.here hx rfl (D d1_15) rfl ?_
   refine XS.iconst X0.here hx rfl (D d1_16) ?_
   exact kt
  by_cases hc22 : (((p1.toUInt32 >>> ((16 : Int32) &&& 31).toUInt32).toInt32) &&& (15 : Int32)) = (1 : Int32)
  ·skip
   refine oTo s₁ (fr_pick m p1 22 (.val (.int (((p1.toUInt32 >>> ((16 : Int32) &&& 31).toUInt32).toInt32) &&& (15 : Int32)))) [(iV 92)]) (fun t kt => ?_) ?_
   ·refine XS.icmpNo X0.here hx rfl (D d1_17) rfl (teq hc22).2 ?_
    refine XS.bipush X0.here hx rfl (D d1_20) ?_
    exact kt
   refine ownRet X0 Bd.notSynchronized (v := some (.int (nar .char (92 : Int32)))) (fun h => by rw [Bd.returns] at h; cases h) ?_ (oLe rfl) (oLe rfl) (fun fs hr => retN X0 hx (t := .char) Bd.returns (by simp) (D d1_22) hr)
   show (Q_pick Z p1 h0 n0) (some (.int (nar .char (92 : Int32)))) s₁.heap _
   rw [e0]
   exact ⟨_, rfl, N0, rfl, own_n16 _⟩
  ·skip
   refine oTo s₁ (fr_pick m p1 25 (.val (.int (((p1.toUInt32 >>> ((16 : Int32) &&& 31).toUInt32).toInt32) &&& (15 : Int32)))) [(iV 2), (.int (((p1.toUInt32 >>> ((16 : Int32) &&& 31).toUInt32).toInt32) &&& (15 : Int32)))]) (fun t kt => ?_) ?_
   ·refine XS.icmpYes X0.here hx rfl (pc0 := 17) (pc' := 23) rfl (D d1_17) rfl (feq hc22).2 (by decide) (by decide) ?_
    refine XS.iloadN X0.here hx rfl (D d1_23) rfl ?_
    refine XS.iconst X0.here hx rfl (D d1_24) ?_
    exact kt
   by_cases hc23 : (((p1.toUInt32 >>> ((16 : Int32) &&& 31).toUInt32).toInt32) &&& (15 : Int32)) = (2 : Int32)
   ·skip
    refine oTo s₁ (fr_pick m p1 30 (.val (.int (((p1.toUInt32 >>> ((16 : Int32) &&& 31).toUInt32).toInt32) &&& (15 : Int32)))) [(iV 36)]) (fun t kt => ?_) ?_
    ·refine XS.icmpNo X0.here hx rfl (D d1_25) rfl (teq hc23).2 ?_
     refine XS.bipush X0.here hx rfl (D d1_28) ?_
     exact kt
    refine ownRet X0 Bd.notSynchronized (v := some (.int (nar .char (36 : Int32)))) (fun h => by rw [Bd.returns] at h; cases h) ?_ (oLe rfl) (oLe rfl) (fun fs hr => retN X0 hx (t := .char) Bd.returns (by simp) (D d1_30) hr)
    show (Q_pick Z p1 h0 n0) (some (.int (nar .char (36 : Int32)))) s₁.heap _
    rw [e0]
    exact ⟨_, rfl, N0, rfl, own_n16 _⟩
   ·skip
    refine oTo s₁ (fr_pick m p1 33 (.val (.int (((p1.toUInt32 >>> ((16 : Int32) &&& 31).toUInt32).toInt32) &&& (15 : Int32)))) [(iV 3), (.int (((p1.toUInt32 >>> ((16 : Int32) &&& 31).toUInt32).toInt32) &&& (15 : Int32)))]) (fun t kt => ?_) ?_
    ·refine XS.icmpYes X0.here hx rfl (pc0 := 25) (pc' := 31) rfl (D d1_25) rfl (feq hc23).2 (by decide) (by decide) ?_
     refine XS.iloadN X0.here hx rfl (D d1_31) rfl ?_
     refine XS.iconst X0.here hx rfl (D d1_32) ?_
     exact kt
    by_cases hc24 : (((p1.toUInt32 >>> ((16 : Int32) &&& 31).toUInt32).toInt32) &&& (15 : Int32)) = (3 : Int32)
    ·skip
     refine oTo s₁ (fr_pick m p1 38 (.val (.int (((p1.toUInt32 >>> ((16 : Int32) &&& 31).toUInt32).toInt32) &&& (15 : Int32)))) [(iV 96)]) (fun t kt => ?_) ?_
     ·refine XS.icmpNo X0.here hx rfl (D d1_33) rfl (teq hc24).2 ?_
      refine XS.bipush X0.here hx rfl (D d1_36) ?_
      exact kt
     refine ownRet X0 Bd.notSynchronized (v := some (.int (nar .char (96 : Int32)))) (fun h => by rw [Bd.returns] at h; cases h) ?_ (oLe rfl) (oLe rfl) (fun fs hr => retN X0 hx (t := .char) Bd.returns (by simp) (D d1_38) hr)
     show (Q_pick Z p1 h0 n0) (some (.int (nar .char (96 : Int32)))) s₁.heap _
     rw [e0]
     exact ⟨_, rfl, N0, rfl, own_n16 _⟩
    ·skip
     refine oTo s₁ (fr_pick m p1 41 (.val (.int (((p1.toUInt32 >>> ((16 : Int32) &&& 31).toUInt32).toInt32) &&& (15 : Int32)))) [(iV 4), (.int (((p1.toUInt32 >>> ((16 : Int32) &&& 31).toUInt32).toInt32) &&& (15 : Int32)))]) (fun t kt => ?_) ?_
     ·refine XS.icmpYes X0.here hx rfl (pc0 := 33) (pc' := 39) rfl (D d1_33) rfl (feq hc24).2 (by decide) (by decide) ?_
      refine XS.iloadN X0.here hx rfl (D d1_39) rfl ?_
      refine XS.iconst X0.here hx rfl (D d1_40) ?_
      exact kt
     by_cases hc25 : (((p1.toUInt32 >>> ((16 : Int32) &&& 31).toUInt32).toInt32) &&& (15 : Int32)) = (4 : Int32)
     ·skip
      refine oTo s₁ (fr_pick m p1 46 (.val (.int (((p1.toUInt32 >>> ((16 : Int32) &&& 31).toUInt32).toInt32) &&& (15 : Int32)))) [(iV 91)]) (fun t kt => ?_) ?_
      ·refine XS.icmpNo X0.here hx rfl (D d1_41) rfl (teq hc25).2 ?_
       refine XS.bipush X0.here hx rfl (D d1_44) ?_
       exact kt
      refine ownRet X0 Bd.notSynchronized (v := some (.int (nar .char (91 : Int32)))) (fun h => by rw [Bd.returns] at h; cases h) ?_ (oLe rfl) (oLe rfl) (fun fs hr => retN X0 hx (t := .char) Bd.returns (by simp) (D d1_46) hr)
      show (Q_pick Z p1 h0 n0) (some (.int (nar .char (91 : Int32)))) s₁.heap _
      rw [e0]
      exact ⟨_, rfl, N0, rfl, own_n16 _⟩
     ·skip
      refine oTo s₁ (fr_pick m p1 49 (.val (.int (((p1.toUInt32 >>> ((16 : Int32) &&& 31).toUInt32).toInt32) &&& (15 : Int32)))) [(.int (p1.toUInt32.toUInt16.toUInt32.toInt32))]) (fun t kt => ?_) ?_
      ·refine XS.icmpYes X0.here hx rfl (pc0 := 41) (pc' := 47) rfl (D d1_41) rfl (feq hc25).2 (by decide) (by decide) ?_
       refine XS.iloadN X0.here hx rfl (D d1_47) rfl ?_
       refine XS.i2c X0.here hx rfl (D d1_48) rfl ?_
       exact kt
      refine ownRet X0 Bd.notSynchronized (v := some (.int (nar .char (p1.toUInt32.toUInt16.toUInt32.toInt32)))) (fun h => by rw [Bd.returns] at h; cases h) ?_ (oLe rfl) (oLe rfl) (fun fs hr => retN X0 hx (t := .char) Bd.returns (by simp) (D d1_49) hr)
      show (Q_pick Z p1 h0 n0) (some (.int (nar .char (p1.toUInt32.toUInt16.toUInt32.toInt32)))) s₁.heap _
      rw [e0]
      exact ⟨_, rfl, N0, rfl, own_n16 _⟩
abbrev fr_ism (m : MethodId) (p1 : Int32) (pc : Nat)  (st : List Value) : JFrame := mkF m pc #[vI p1] st
def Q_ism (Z : State) (p1 : Int32) (h0 : Heap) (n0 : Nat) (v : Option Value) (h : Heap) (L : List Loc) : Prop := v = some (.int (own_b (Mk p1))) ∧ Fr n0 L ∧ h = h0
theorem ef_ism (m : MethodId) (x0 : Int32)  : entryFrame m #[(.int x0)] 1 = mkF m 0 #[vI x0] [] := by first | (simp [entryFrame, mkF, argsToLocals, Value.category]; done) | rfl
set_option maxRecDepth 65536 in
set_option maxHeartbeats 40000000 in
theorem c_ism (l : Launch) (Z : State) (a0 : Array Value) (hw : HW a0 Z) (ws : List Jvm.Cond) (p1 : Int32) (h0 : Heap) (n0 : Nat) (Z0 : n0 ≤ h0.size) :
  MetFree l yM26 (head1 (Jvm.Cond.code yM26 method_3_code 1 (some .boolean) :: ws) ({ frames := 0, cells := 0, slots := 0, locals := 0 } : Room)) (fun a U => a = #[(.int p1)] ∧ Z.Warmed39 U.vm ∧ U.heap = h0) (fun _ _ _ _ _ => True) (fun _ U o U' => ∃ v L, o = .returned v ∧ (Q_ism Z p1 h0 n0) v U'.heap L ∧ FrameEnd U o U' L ({ frames := 0, cells := 0, slots := 0, locals := 0 } : Room).cells ({ frames := 0, cells := 0, slots := 0, locals := 0 } : Room).slots) := by
 refine MetFree.of_bodySF (plainFor_of_name pn_24) hisR ?_
 intro p e s m args below meth c s₁ Bd hml0 hP hK
 obtain ⟨rfl, hZ, hHp⟩ := hP
 have hx := Bd.exec
 have D := fun {pc : Nat} {r} (h : decode _ pc = r) => hb Bd.bytes h
 have hml : c.maxLocals = 1 := hml0
 have hown : s.vm.findClass "com/example/savepoint/savepoint/SqlDialectReadingsOfPinLaw" = some m.cls := findClass_of_methodNamed Bd.named
 have hnm := (name_of_methodNamed Bd.named Bd.method).1
 have X0 : Stand p l e ({ frames := 0, cells := 0, slots := 0, locals := 0 } : Room) s m #[(.int p1)] below meth c s₁ [] 0 0 := Stand.of_body Bd
 have e0 : s₁.heap = h0 := by rw [← hHp, Bd.state]; rfl
 have N0 := Fr.nil n0
 refine ownOut (P := (Q_ism Z p1 h0 n0)) ?_
 refine ownBy (A := s₁.setTop (mkF m 0 #[vI p1] [])) (fun t k => castTop (ef_ism m p1) k) ?_
 refine oTo s₁ (fr_ism m p1 3  [(iV 47), (.int p1)]) (fun t kt => ?_) ?_
 ·refine XS.iloadN X0.here hx rfl (D d14_0) rfl ?_
  refine XS.bipush X0.here hx rfl (D d14_1) ?_
  exact kt
 by_cases hc21 : p1 = (47 : Int32)
 ·skip
  refine oTo s₁ (fr_ism m p1 35  [(iV 1)]) (fun t kt => ?_) ?_
  ·refine XS.icmpYes X0.here hx rfl (pc0 := 3) (pc' := 30) rfl (D d14_3) rfl (teq hc21).1 (by decide) (by decide) ?_
   refine XS.iconst X0.here hx rfl (D d14_30) ?_
   refine XS.goto X0.here hx rfl (pc0 := 31) (pc' := 35) rfl (D d14_31) (by decide) (by decide) ?_
   exact kt
  refine ownRet X0 Bd.notSynchronized (v := some (.int (nar .boolean (1 : Int32)))) (fun h => by rw [Bd.returns] at h; cases h) ?_ (oLe rfl) (oLe rfl) (fun fs hr => retN X0 hx (t := .boolean) Bd.returns (by simp) (D d14_35) hr)
  show (Q_ism Z p1 h0 n0) (some (.int (nar .boolean (1 : Int32)))) s₁.heap _
  rw [e0]
  refine ⟨?_, N0, rfl⟩
  rw [own_bt1 (show Mk p1 from Or.inl hc21)]
  rfl
 ·skip
  refine oTo s₁ (fr_ism m p1 9  [(iV 92), (.int p1)]) (fun t kt => ?_) ?_
  ·refine XS.icmpNo X0.here hx rfl (D d14_3) rfl (feq hc21).1 ?_
   refine XS.iloadN X0.here hx rfl (D d14_6) rfl ?_
   refine XS.bipush X0.here hx rfl (D d14_7) ?_
   exact kt
  by_cases hc22 : p1 = (92 : Int32)
  ·skip
   refine oTo s₁ (fr_ism m p1 35  [(iV 1)]) (fun t kt => ?_) ?_
   ·refine XS.icmpYes X0.here hx rfl (pc0 := 9) (pc' := 30) rfl (D d14_9) rfl (teq hc22).1 (by decide) (by decide) ?_
    refine XS.iconst X0.here hx rfl (D d14_30) ?_
    refine XS.goto X0.here hx rfl (pc0 := 31) (pc' := 35) rfl (D d14_31) (by decide) (by decide) ?_
    exact kt
   refine ownRet X0 Bd.notSynchronized (v := some (.int (nar .boolean (1 : Int32)))) (fun h => by rw [Bd.returns] at h; cases h) ?_ (oLe rfl) (oLe rfl) (fun fs hr => retN X0 hx (t := .boolean) Bd.returns (by simp) (D d14_35) hr)
   show (Q_ism Z p1 h0 n0) (some (.int (nar .boolean (1 : Int32)))) s₁.heap _
   rw [e0]
   refine ⟨?_, N0, rfl⟩
   rw [own_bt1 (show Mk p1 from Or.inr (Or.inl hc22))]
   rfl
  ·skip
   refine oTo s₁ (fr_ism m p1 15  [(iV 36), (.int p1)]) (fun t kt => ?_) ?_
   ·refine XS.icmpNo X0.here hx rfl (D d14_9) rfl (feq hc22).1 ?_
    refine XS.iloadN X0.here hx rfl (D d14_12) rfl ?_
    refine XS.bipush X0.here hx rfl (D d14_13) ?_
    exact kt
   by_cases hc23 : p1 = (36 : Int32)
   ·skip
    refine oTo s₁ (fr_ism m p1 35  [(iV 1)]) (fun t kt => ?_) ?_
    ·refine XS.icmpYes X0.here hx rfl (pc0 := 15) (pc' := 30) rfl (D d14_15) rfl (teq hc23).1 (by decide) (by decide) ?_
     refine XS.iconst X0.here hx rfl (D d14_30) ?_
     refine XS.goto X0.here hx rfl (pc0 := 31) (pc' := 35) rfl (D d14_31) (by decide) (by decide) ?_
     exact kt
    refine ownRet X0 Bd.notSynchronized (v := some (.int (nar .boolean (1 : Int32)))) (fun h => by rw [Bd.returns] at h; cases h) ?_ (oLe rfl) (oLe rfl) (fun fs hr => retN X0 hx (t := .boolean) Bd.returns (by simp) (D d14_35) hr)
    show (Q_ism Z p1 h0 n0) (some (.int (nar .boolean (1 : Int32)))) s₁.heap _
    rw [e0]
    refine ⟨?_, N0, rfl⟩
    rw [own_bt1 (show Mk p1 from Or.inr (Or.inr (Or.inl hc23)))]
    rfl
   ·skip
    refine oTo s₁ (fr_ism m p1 21  [(iV 96), (.int p1)]) (fun t kt => ?_) ?_
    ·refine XS.icmpNo X0.here hx rfl (D d14_15) rfl (feq hc23).1 ?_
     refine XS.iloadN X0.here hx rfl (D d14_18) rfl ?_
     refine XS.bipush X0.here hx rfl (D d14_19) ?_
     exact kt
    by_cases hc24 : p1 = (96 : Int32)
    ·skip
     refine oTo s₁ (fr_ism m p1 35  [(iV 1)]) (fun t kt => ?_) ?_
     ·refine XS.icmpYes X0.here hx rfl (pc0 := 21) (pc' := 30) rfl (D d14_21) rfl (teq hc24).1 (by decide) (by decide) ?_
      refine XS.iconst X0.here hx rfl (D d14_30) ?_
      refine XS.goto X0.here hx rfl (pc0 := 31) (pc' := 35) rfl (D d14_31) (by decide) (by decide) ?_
      exact kt
     refine ownRet X0 Bd.notSynchronized (v := some (.int (nar .boolean (1 : Int32)))) (fun h => by rw [Bd.returns] at h; cases h) ?_ (oLe rfl) (oLe rfl) (fun fs hr => retN X0 hx (t := .boolean) Bd.returns (by simp) (D d14_35) hr)
     show (Q_ism Z p1 h0 n0) (some (.int (nar .boolean (1 : Int32)))) s₁.heap _
     rw [e0]
     refine ⟨?_, N0, rfl⟩
     rw [own_bt1 (show Mk p1 from Or.inr (Or.inr (Or.inr (Or.inl hc24))))]
     rfl
    ·skip
     refine oTo s₁ (fr_ism m p1 27  [(iV 91), (.int p1)]) (fun t kt => ?_) ?_
     ·refine XS.icmpNo X0.here hx rfl (D d14_21) rfl (feq hc24).1 ?_
      refine XS.iloadN X0.here hx rfl (D d14_24) rfl ?_
      refine XS.bipush X0.here hx rfl (D d14_25) ?_
      exact kt
     by_cases hc25 : p1 = (91 : Int32)
     ·skip
      refine oTo s₁ (fr_ism m p1 35  [(iV 1)]) (fun t kt => ?_) ?_
      ·refine XS.icmpNo X0.here hx rfl (D d14_27) rfl (teq hc25).2 ?_
       refine XS.iconst X0.here hx rfl (D d14_30) ?_
       refine XS.goto X0.here hx rfl (pc0 := 31) (pc' := 35) rfl (D d14_31) (by decide) (by decide) ?_
       exact kt
      refine ownRet X0 Bd.notSynchronized (v := some (.int (nar .boolean (1 : Int32)))) (fun h => by rw [Bd.returns] at h; cases h) ?_ (oLe rfl) (oLe rfl) (fun fs hr => retN X0 hx (t := .boolean) Bd.returns (by simp) (D d14_35) hr)
      show (Q_ism Z p1 h0 n0) (some (.int (nar .boolean (1 : Int32)))) s₁.heap _
      rw [e0]
      refine ⟨?_, N0, rfl⟩
      rw [own_bt1 (show Mk p1 from Or.inr (Or.inr (Or.inr (Or.inr (hc25)))))]
      rfl
     ·skip
      refine oTo s₁ (fr_ism m p1 35  [(iV 0)]) (fun t kt => ?_) ?_
      ·refine XS.icmpYes X0.here hx rfl (pc0 := 27) (pc' := 34) rfl (D d14_27) rfl (feq hc25).2 (by decide) (by decide) ?_
       refine XS.iconst X0.here hx rfl (D d14_34) ?_
       exact kt
      refine ownRet X0 Bd.notSynchronized (v := some (.int (nar .boolean (0 : Int32)))) (fun h => by rw [Bd.returns] at h; cases h) ?_ (oLe rfl) (oLe rfl) (fun fs hr => retN X0 hx (t := .boolean) Bd.returns (by simp) (D d14_35) hr)
      show (Q_ism Z p1 h0 n0) (some (.int (nar .boolean (0 : Int32)))) s₁.heap _
      rw [e0]
      refine ⟨?_, N0, rfl⟩
      rw [own_bf0 (show ¬ Mk p1 from (fun q => q.elim hc21 (fun q => q.elim hc22 (fun q => q.elim hc23 (fun q => q.elim hc24 hc25)))))]
      rfl
abbrev fr_mk0 (m : MethodId) (c0 : Int32) (c1 : Int32) (c2 : Int32) (c3 : Int32) (pc : Nat)  (st : List Value) : JFrame := mkF m pc #[vI 0, vI c0, vI c1, vI c2, vI c3] st
def Q_mk0 (Z : State) (c0 : Int32) (c1 : Int32) (c2 : Int32) (c3 : Int32) (h0 : Heap) (n0 : Nat) (v : Option Value) (h : Heap) (L : List Loc) : Prop := ∃ (x ta : Addr) (kb : ClassId), v = some (.ref x) ∧ Fr n0 L ∧ Keep h0 h [] ∧ h0.size ≤ x ∧ Exa Z h x "java/lang/String" ∧ Fld Z h x "java/lang/String" "value" "[B" (.ref ta) ∧ Fld Z h x "java/lang/String" "coder" "B" (iV 0) ∧ Arv Z h ta kb .byte (0 : Int32) [] (iV 0)
theorem ef_mk0 (m : MethodId) (x0 : Int32) (x1 : Int32) (x2 : Int32) (x3 : Int32) (x4 : Int32)  : entryFrame m #[(.int x0), (.int x1), (.int x2), (.int x3), (.int x4)] 5 = mkF m 0 #[vI x0, vI x1, vI x2, vI x3, vI x4] [] := by first | (simp [entryFrame, mkF, argsToLocals, Value.category]; done) | rfl
set_option maxRecDepth 65536 in
set_option maxHeartbeats 40000000 in
theorem c_mk0 (l : Launch) (Z : State) (a0 : Array Value) (hw : HW a0 Z) (ws : List Jvm.Cond) (c0 : Int32) (c1 : Int32) (c2 : Int32) (c3 : Int32) (h0 : Heap) (n0 : Nat) (Z0 : n0 ≤ h0.size) (hc0 : ¬ c0 < 0 ∧ ¬ (65535 : Int32) < c0) (hc1 : ¬ c1 < 0 ∧ ¬ (65535 : Int32) < c1) (hc2 : ¬ c2 < 0 ∧ ¬ (65535 : Int32) < c2) (hc3 : ¬ c3 < 0 ∧ ¬ (65535 : Int32) < c3) :
  MetFree l yM27 (head1 (Jvm.Cond.code yM27 method_5_code 5 (some (.object "java/lang/String")) :: ws) ({ frames := 3, cells := 6, slots := 12, locals := 44 } : Room)) (fun a U => a = #[(iV 0), (.int c0), (.int c1), (.int c2), (.int c3)] ∧ Z.Warmed39 U.vm ∧ U.heap = h0 ∧ CHv Z ownEL U.vm h0) (fun _ _ _ _ _ => True) (fun _ U o U' => ∃ v L, o = .returned v ∧ (Q_mk0 Z c0 c1 c2 c3 h0 n0) v U'.heap L ∧ CHr Z ownEL U.vm U.heap U'.vm U'.heap ∧ ReturnedEndW U o U' L ({ frames := 3, cells := 6, slots := 12, locals := 44 } : Room).cells ({ frames := 3, cells := 6, slots := 12, locals := 44 } : Room).slots) := by
 refine MetFree.of_bodySF (plainFor_of_name pn_24) hisR ?_
 intro p e s m args below meth c s₁ Bd hml0 hP hK
 obtain ⟨rfl, hZ, hHp, hCH⟩ := hP
 have hx := Bd.exec
 have D := fun {pc : Nat} {r} (h : decode _ pc = r) => hb Bd.bytes h
 have hml : c.maxLocals = 5 := hml0
 have hown : s.vm.findClass "com/example/savepoint/savepoint/SqlDialectReadingsOfPinLaw" = some m.cls := findClass_of_methodNamed Bd.named
 have hnm := (name_of_methodNamed Bd.named Bd.method).1
 have X0 : Stand p l e ({ frames := 3, cells := 6, slots := 12, locals := 44 } : Room) (s.setVm s.vm) m #[(iV 0), (.int c0), (.int c1), (.int c2), (.int c3)] below meth c s₁ [] 0 0 := Stand.of_body Bd
 have e0 : s₁.heap = h0 := by rw [← hHp, Bd.state]; rfl
 have N0 := Fr.nil n0
 refine ownOutH hHp (P := (Q_mk0 Z c0 c1 c2 c3 h0 n0)) ?_
 refine ownBy (A := s₁.setTop (mkF m 0 #[vI 0, vI c0, vI c1, vI c2, vI c3] [])) (fun t k => castTop (ef_mk0 m (0 : Int32) c0 c1 c2 c3) k) ?_
 have hS0 : s.Since s.vm h0.size := own_since
 have hEL := own_EW hw
 have R0 := CHr.refl hCH
 have wS := own_wS hw
 refine oTo s₁ (fr_mk0 m c0 c1 c2 c3 4  []) (fun t kt => ?_) ?_
 ·refine XS.iloadN X0.here hx rfl (D d2_0) rfl ?_
  refine XS.ifNo X0.here hx rfl (D d2_1) rfl ((if0 _ _).trans (teq ((by decide) : (0 : Int32) = (0 : Int32))).2) ?_
  exact kt
 obtain ⟨T21, h21, X21, e21, E21, A21, D21, -, st21⟩ := newO X0 hx hZ hown (Wd7 hw) (Wd8 hw) (Wd9 hw) e0 (g := (fr_mk0 m c0 c1 c2 c3 4  [])) rfl (D d2_4) (by decide) (by decide)
 obtain ⟨b21, g21⟩ : ∃ z, z = h0.size := ⟨_, rfl⟩
 rw [← g21] at A21 D21 st21
 have g22 : n0 ≤ b21 := Nat.le_trans Z0 (Nat.le_of_eq g21.symm)
 have sf23 : Safe Z ownEL s.vm h0 b21 := Safe.new (Nat.le_of_eq g21.symm)
 have z24 : h0.size ≤ b21 := Nat.le_trans (Nat.le_refl h0.size) (Nat.le_of_eq g21.symm)
 have R25 := R0.trans (CHr.ext E21 R0.1)
 have sf26 := Safe.ext E21 R0.1 sf23
 have F27 : Fld Z h21 b21 "java/lang/String" "value" "[B" .null := D21 (Or.inr (Wd23 hw)) (ty := (.array .byte)) (by decide)
 have F28 : Fld Z h21 b21 "java/lang/String" "coder" "B" (iV 0) := D21 (Or.inr (Wd24 hw)) (ty := .byte) (by decide)
 refine ownBy st21 ?_
 clear st21
 show oA p e below _ T21 (fr_mk0 m c0 c1 c2 c3 7  [(.ref b21)])
 refine oTo T21 (fr_mk0 m c0 c1 c2 c3 9  [(iV 0), (.ref b21), (.ref b21)]) (fun t kt => ?_) ?_
 ·refine XS.dup X21.here hx rfl (D d2_7) rfl rfl ?_
  refine XS.iconst X21.here hx rfl (D d2_8) ?_
  exact kt
 obtain ⟨T29, h29, k29, X29, e29, E29, A29, st29⟩ := newP X21 hx hZ (aty := .char) (Wd10 hw) e21 (g := (fr_mk0 m c0 c1 c2 c3 9  [(iV 0), (.ref b21), (.ref b21)])) rfl (D d2_9) rfl (by decide : ¬ ((0 : Int32) < (0 : Int32))) (cap := 0) (by decide) (by decide) (by decide) (by decide)
 obtain ⟨b29, g29⟩ : ∃ z, z = h21.size := ⟨_, rfl⟩
 rw [← g29] at A29 st29
 have ne30 : b21 ≠ b29 := Nat.ne_of_lt (Nat.lt_of_lt_of_le A21.lt (Nat.le_of_eq g29.symm))
 have f32 := (Nat.le_trans Z0 E21.1)
 have g31 : n0 ≤ b29 := Nat.le_trans f32 (Nat.le_of_eq g29.symm)
 have sf33 : Safe Z ownEL s.vm h21 b29 := Safe.new (Nat.le_of_eq g29.symm)
 have f35 := (Nat.le_trans (Nat.le_refl h0.size) E21.1)
 have z34 : h0.size ≤ b29 := Nat.le_trans f35 (Nat.le_of_eq g29.symm)
 have R36 := R25.trans (CHr.ext E29 R25.1)
 have sf37 := Safe.ext E29 R25.1 sf26
 have sf38 := Safe.ext E29 R25.1 sf33
 have V39 : Arv Z h29 b29 k29 .char (0 : Int32) [] (iV 0) := Arv.new A29 (by decide)
 refine ownBy st29 ?_
 clear st29
 show oA p e below _ T29 (fr_mk0 m c0 c1 c2 c3 11  [(.ref b29), (.ref b21), (.ref b21)])
 have f40 := (A21.ext E29)
 have f41 := (F27.ext E29)
 have f42 := (F28.ext E29)
 have f43 := (Nat.le_trans f32 E29.1)
 obtain ⟨vv44, _, ⟨T44, L44, k44, n44⟩, -, X44, hS44, hg44, ⟨Lc44, hQ44, l44, y44, z44, hC44⟩, st44⟩ := X29.specialBackS hx (y := yM1) rfl hown (mvT hZ (Wd11 hw)) (mvT hZ (Wd12 hw)) (mvT hZ (Wd13 hw)) (by decide) (backOfSH (W := 1) (s := s) (EL := ownEL) (c_ini0 l Z a0 hw [] b21 b29 _ k29 h29 n0 f43 f40 f41 f42 g22 V39 ne30) hZ (Wd13 hw) (Wd9 hw) (by decide) (by decide) hEL R36.1) (g := (fr_mk0 m c0 c1 c2 c3 11  [(.ref b29), (.ref b21), (.ref b21)])) rfl (by rw [hml]; rfl) (Steps.refl _) (a := b21) (argsL := [(.ref b29)]) (rest := [(.ref b21)]) (lenOf pd_25 rfl) rfl (by show 2 * 0 + _ ≤ _; exact Nat.le_of_eq rfl) (D d2_11) (fun _ _ => ⟨rfl, e29, (by decide : 2 + 4 ≤ _), (by decide : 4 + 8 ≤ _)⟩)
 dsimp only [Pt.U, Pt.locs, Pt.cells, Pt.slots] at X44 l44 y44 z44 st44 hQ44 hS44 hg44 hC44
 subst l44 y44 z44
 obtain ⟨rfl, Nq44, Kq44, Eq44, Cq44, t44, kb44, Vq44, Aq44⟩ := hQ44
 have N45 := Fr.app N0 Nq44
 have R47 := R36.trans hC44
 have sf48 := CHr.safe hC44 f40.lt sf37
 have sf49 := CHr.safe hC44 V39.lt sf38
 obtain ⟨XR50, hSR50, hZ50, hown50⟩ := rebS hS0 (by rw [e29]; exact (Nat.le_trans (Nat.le_trans (Nat.le_refl _) E21.1) E29.1)) X44 hS44 hg44 hZ hown
 obtain ⟨Lh51, Xh51, Nh51⟩ := oHd 6 12 XR50 N45 rfl rfl
 refine ownSt st44 ?_
 clear st44
 show oA p e below _ T44 (fr_mk0 m c0 c1 c2 c3 14  [(.ref b21)])
 have f52 := ((((Keep.refl h0 []).ext E21).ext E29).trans Kq44 (allS (Or.inr z24) all0))
 have f53 := (f40.keep Kq44)
 refine ownRetH Xh51 hSR50 (Nat.le_refl _) Bd.notSynchronized (v := some (.ref b21)) (fun h => by rw [Bd.returns] at h; cases h) ?_ (R47.trans (CHv.at Xh51 hZ50 hEL R47.1)) (oLe rfl) (oLe rfl) (fun fs hr => retOut Xh51 hx Bd.returns rfl (Or.inr (Or.inr (Or.inr (Or.inr ⟨rfl, rfl, rfl⟩)))) (D d2_14) hr)
 show (Q_mk0 Z c0 c1 c2 c3 h0 n0) (some (.ref b21)) T44.heap _
 exact ⟨b21, t44, kb44, rfl, Nh51, f52, z24, f53, Vq44, Cq44, Aq44⟩
abbrev fr_mk1 (m : MethodId) (c0 : Int32) (c1 : Int32) (c2 : Int32) (c3 : Int32) (pc : Nat)  (st : List Value) : JFrame := mkF m pc #[vI 1, vI c0, vI c1, vI c2, vI c3] st
def Q_mk1 (Z : State) (c0 : Int32) (c1 : Int32) (c2 : Int32) (c3 : Int32) (G1 : Int32) (h0 : Heap) (n0 : Nat) (v : Option Value) (h : Heap) (L : List Loc) : Prop := ∃ (x ta : Addr) (kb : ClassId) (cd z : Int32) (vs : List Value), v = some (.ref x) ∧ Fr n0 L ∧ Keep h0 h [] ∧ h0.size ≤ x ∧ Exa Z h x "java/lang/String" ∧ Fld Z h x "java/lang/String" "value" "[B" (.ref ta) ∧ Fld Z h x "java/lang/String" "coder" "B" (.int cd) ∧ Arv Z h ta kb .byte z vs (iV 0) ∧ ((cd = (0 : Int32) ∧ z = (1 : Int32) ∧ vs = [(.int (oL c0))] ∧ ¬ ((255 : Int32) < c0)) ∨ (cd = (1 : Int32) ∧ z = (2 : Int32) ∧ vs = [(.int (oW c0)), (.int (oH c0))] ∧ ((255 : Int32) < c0)))
theorem ef_mk1 (m : MethodId) (x0 : Int32) (x1 : Int32) (x2 : Int32) (x3 : Int32) (x4 : Int32)  : entryFrame m #[(.int x0), (.int x1), (.int x2), (.int x3), (.int x4)] 5 = mkF m 0 #[vI x0, vI x1, vI x2, vI x3, vI x4] [] := by first | (simp [entryFrame, mkF, argsToLocals, Value.category]; done) | rfl
set_option maxRecDepth 65536 in
set_option maxHeartbeats 40000000 in
theorem c_mk1 (l : Launch) (Z : State) (a0 : Array Value) (hw : HW a0 Z) (ws : List Jvm.Cond) (c0 : Int32) (c1 : Int32) (c2 : Int32) (c3 : Int32) (G1 : Int32) (h0 : Heap) (n0 : Nat) (Z0 : n0 ≤ h0.size) (hc0 : ¬ c0 < 0 ∧ ¬ (65535 : Int32) < c0) (hc1 : ¬ c1 < 0 ∧ ¬ (65535 : Int32) < c1) (hc2 : ¬ c2 < 0 ∧ ¬ (65535 : Int32) < c2) (hc3 : ¬ c3 < 0 ∧ ¬ (65535 : Int32) < c3) (O2 : Sta Z Z.heap "java/lang/String" "COMPACT_STRINGS" "Z" (.int G1)) (P5 : ¬ (G1 = (0 : Int32))) (SA : Sta Z Z.heap "java/lang/StringUTF16" "$assertionsDisabled" "Z" (iV 1)) (SHI : Sta Z Z.heap "java/lang/StringUTF16" "HI_BYTE_SHIFT" "I" (iV 0)) (SLO : Sta Z Z.heap "java/lang/StringUTF16" "LO_BYTE_SHIFT" "I" (iV 8)) (X00 : Old Z n0 h0) :
  MetFree l yM27 (head1 (Jvm.Cond.code yM27 method_5_code 5 (some (.object "java/lang/String")) :: ws) ({ frames := 6, cells := 4, slots := 8, locals := 90 } : Room)) (fun a U => a = #[(iV 1), (.int c0), (.int c1), (.int c2), (.int c3)] ∧ Z.Warmed39 U.vm ∧ U.heap = h0) (fun _ _ _ _ _ => True) (fun _ U o U' => ∃ v L, o = .returned v ∧ (Q_mk1 Z c0 c1 c2 c3 G1 h0 n0) v U'.heap L ∧ FrameEnd U o U' L ({ frames := 6, cells := 4, slots := 8, locals := 90 } : Room).cells ({ frames := 6, cells := 4, slots := 8, locals := 90 } : Room).slots) := by
 refine MetFree.of_bodySF (plainFor_of_name pn_24) hisR ?_
 intro p e s m args below meth c s₁ Bd hml0 hP hK
 obtain ⟨rfl, hZ, hHp⟩ := hP
 have hx := Bd.exec
 have D := fun {pc : Nat} {r} (h : decode _ pc = r) => hb Bd.bytes h
 have hml : c.maxLocals = 5 := hml0
 have hown : s.vm.findClass "com/example/savepoint/savepoint/SqlDialectReadingsOfPinLaw" = some m.cls := findClass_of_methodNamed Bd.named
 have hnm := (name_of_methodNamed Bd.named Bd.method).1
 have X0 : Stand p l e ({ frames := 6, cells := 4, slots := 8, locals := 90 } : Room) s m #[(iV 1), (.int c0), (.int c1), (.int c2), (.int c3)] below meth c s₁ [] 0 0 := Stand.of_body Bd
 have e0 : s₁.heap = h0 := by rw [← hHp, Bd.state]; rfl
 have N0 := Fr.nil n0
 refine ownOut (P := (Q_mk1 Z c0 c1 c2 c3 G1 h0 n0)) ?_
 refine ownBy (A := s₁.setTop (mkF m 0 #[vI 1, vI c0, vI c1, vI c2, vI c3] [])) (fun t k => castTop (ef_mk1 m (1 : Int32) c0 c1 c2 c3) k) ?_
 refine oTo s₁ (fr_mk1 m c0 c1 c2 c3 20  []) (fun t kt => ?_) ?_
 ·refine XS.iloadN X0.here hx rfl (D d2_0) rfl ?_
  refine XS.ifYes X0.here hx rfl (pc0 := 1) (pc' := 15) rfl (D d2_1) rfl ((if0 _ _).trans (feq ((by decide) : ¬ ((1 : Int32) = (0 : Int32)))).2) (by decide) (by decide) ?_
  refine XS.iloadN X0.here hx rfl (D d2_15) rfl ?_
  refine XS.iconst X0.here hx rfl (D d2_16) ?_
  show Steps p.tables e below (s₁.setTop (fr_mk1 m c0 c1 c2 c3 17  [(iV 1), (iV 1)])) t
  refine XS.icmpNo X0.here hx rfl (D d2_17) rfl (teq ((by decide) : (1 : Int32) = (1 : Int32))).2 ?_
  exact kt
 obtain ⟨T21, h21, X21, e21, E21, A21, D21, -, st21⟩ := newO X0 hx hZ hown (Wd7 hw) (Wd8 hw) (Wd9 hw) e0 (g := (fr_mk1 m c0 c1 c2 c3 20  [])) rfl (D d2_20) (by decide) (by decide)
 obtain ⟨b21, g21⟩ : ∃ z, z = h0.size := ⟨_, rfl⟩
 rw [← g21] at A21 D21 st21
 have g22 : n0 ≤ b21 := Nat.le_trans Z0 (Nat.le_of_eq g21.symm)
 have z23 : h0.size ≤ b21 := Nat.le_trans (Nat.le_refl h0.size) (Nat.le_of_eq g21.symm)
 have F24 : Fld Z h21 b21 "java/lang/String" "value" "[B" .null := D21 (Or.inr (Wd23 hw)) (ty := (.array .byte)) (by decide)
 have F25 : Fld Z h21 b21 "java/lang/String" "coder" "B" (iV 0) := D21 (Or.inr (Wd24 hw)) (ty := .byte) (by decide)
 refine ownBy st21 ?_
 clear st21
 show oA p e below _ T21 (fr_mk1 m c0 c1 c2 c3 23  [(.ref b21)])
 refine oTo T21 (fr_mk1 m c0 c1 c2 c3 25  [(iV 1), (.ref b21), (.ref b21)]) (fun t kt => ?_) ?_
 ·refine XS.dup X21.here hx rfl (D d2_23) rfl rfl ?_
  refine XS.iconst X21.here hx rfl (D d2_24) ?_
  exact kt
 obtain ⟨T26, h26, k26, X26, e26, E26, A26, st26⟩ := newP X21 hx hZ (aty := .char) (Wd10 hw) e21 (g := (fr_mk1 m c0 c1 c2 c3 25  [(iV 1), (.ref b21), (.ref b21)])) rfl (D d2_25) rfl (by decide : ¬ ((1 : Int32) < (0 : Int32))) (cap := 1) (by decide) (by decide) (by decide) (by decide)
 obtain ⟨b26, g26⟩ : ∃ z, z = h21.size := ⟨_, rfl⟩
 rw [← g26] at A26 st26
 have ne27 : b21 ≠ b26 := Nat.ne_of_lt (Nat.lt_of_lt_of_le A21.lt (Nat.le_of_eq g26.symm))
 have f29 := (Nat.le_trans Z0 E21.1)
 have g28 : n0 ≤ b26 := Nat.le_trans f29 (Nat.le_of_eq g26.symm)
 have f31 := (Nat.le_trans (Nat.le_refl h0.size) E21.1)
 have z30 : h0.size ≤ b26 := Nat.le_trans f31 (Nat.le_of_eq g26.symm)
 have V32 : Arv Z h26 b26 k26 .char (1 : Int32) [(iV 0)] (iV 0) := (Arv.new A26 (by decide)).pad (pad_rep [] (iV 0) 1)
 refine ownBy st26 ?_
 clear st26
 show oA p e below _ T26 (fr_mk1 m c0 c1 c2 c3 27  [(.ref b26), (.ref b21), (.ref b21)])
 refine oTo T26 (fr_mk1 m c0 c1 c2 c3 30  [(.int c0), (iV 0), (.ref b26), (.ref b26), (.ref b21), (.ref b21)]) (fun t kt => ?_) ?_
 ·refine XS.dup X26.here hx rfl (D d2_27) rfl rfl ?_
  refine XS.iconst X26.here hx rfl (D d2_28) ?_
  refine XS.iloadN X26.here hx rfl (D d2_29) rfl ?_
  exact kt
 obtain ⟨cl33, Ar33, q33, S33, N33, H33, G33⟩ := id V32
 have hin33 : ¬ ((0 : Int32) < 0 ∨ cl33.slots.size ≤ ((0 : Int32)).toNatClampNeg) := inb_of S33 ⟨by decide, by decide⟩
 obtain ⟨T33, h33, X33, e33, W33, st33⟩ := stC X26 hx hZ e26 Ar33 (j := (0 : Int32)) hin33 (g := (fr_mk1 m c0 c1 c2 c3 30  [(.int c0), (iV 0), (.ref b26), (.ref b26), (.ref b21), (.ref b21)])) rfl rfl (D d2_30)
 have V34 : Arv Z h33 b26 k26 .char (1 : Int32) [(.int (nar .char c0))] (iV 0) := Arv.set Ar33 q33 S33 N33 H33 G33 (fits_nar_char _) W33 0 rfl (oLe rfl)
 rw [own_c16 hc0] at V34
 clear hin33 G33 H33 N33 S33 q33 Ar33 cl33 V32
 have N35 := Fr.snoc X33 N0 g28
 obtain ⟨Lh36, Xh36, Nh36⟩ := oHd 2 5 X33 N35 rfl rfl
 refine ownBy st33 ?_
 clear st33
 show oA p e below _ T33 (fr_mk1 m c0 c1 c2 c3 31  [(.ref b26), (.ref b21), (.ref b21)])
 have f37 := ((A21.ext E26).wr W33)
 have f38 := ((F24.ext E26).other W33 (Or.inl ne27))
 have f39 := ((F25.ext E26).other W33 (Or.inl ne27))
 have f40 := (((X00.ext E21).ext E26).wr W33 g28)
 have f41 := (Nat.le_trans (Nat.le_trans f29 E26.1) (Keep.of_wr W33).1)
 obtain ⟨vv42, _, ⟨T42, L42, k42, n42⟩, -, X42, ⟨Lc42, hQ42, l42, y42, z42⟩, st42⟩ := Xh36.specialBack hx (y := yM1) rfl hown (mvT hZ (Wd11 hw)) (mvT hZ (Wd12 hw)) (mvT hZ (Wd13 hw)) (by decide) (backOf (W := 1) (c_inC_1 l Z a0 hw [] b21 b26 k26 c0 _ G1 h33 n0 f41 f37 f38 f39 g22 ne27 V34 hc0 O2 P5 SA SHI SLO f40) hZ (Wd13 hw) (Wd9 hw) (by decide) (by decide)) (g := (fr_mk1 m c0 c1 c2 c3 31  [(.ref b26), (.ref b21), (.ref b21)])) rfl (by rw [hml]; rfl) (Steps.refl _) (a := b21) (argsL := [(.ref b26)]) (rest := [(.ref b21)]) (lenOf pd_25 rfl) rfl (by show 2 * 0 + _ ≤ _; exact Nat.le_of_eq rfl) (D d2_31) (fun _ _ => ⟨rfl, e33, (by decide : 2 + 2 ≤ _), (by decide : 5 + 3 ≤ _)⟩)
 dsimp only [Pt.U, Pt.locs, Pt.cells, Pt.slots] at X42 l42 y42 z42 st42 hQ42
 subst l42 y42 z42
 obtain ⟨rfl, Nq42, Kq42, Eq42, t42, kb42, cd42, z42, vs42, zq42, Vq42, Cq42, Aq42, hrel42⟩ := hQ42
 have ne43 : b21 ≠ t42 := Nat.ne_of_lt (Nat.lt_of_lt_of_le f37.lt zq42)
 have ne44 : b26 ≠ t42 := Nat.ne_of_lt (Nat.lt_of_lt_of_le V34.lt zq42)
 have g45 : n0 ≤ t42 := Nat.le_trans f41 zq42
 have f47 := (Nat.le_trans (Nat.le_trans f31 E26.1) (Keep.of_wr W33).1)
 have z46 : h0.size ≤ t42 := Nat.le_trans f47 zq42
 have N48 := Fr.app Nh36 Nq42
 obtain ⟨Lh49, Xh49, Nh49⟩ := oHd 4 8 X42 N48 rfl rfl
 refine ownSt st42 ?_
 clear st42
 show oA p e below _ T42 (fr_mk1 m c0 c1 c2 c3 34  [(.ref b21)])
 have f50 := (((((Keep.refl h0 []).ext E21).ext E26).wr W33 (Or.inr z30)).trans Kq42 (allS (Or.inr z23) all0))
 have f51 := (f37.keep Kq42)
 refine ownRet Xh49 Bd.notSynchronized (v := some (.ref b21)) (fun h => by rw [Bd.returns] at h; cases h) ?_ (oLe rfl) (oLe rfl) (fun fs hr => retOut Xh49 hx Bd.returns rfl (Or.inr (Or.inr (Or.inr (Or.inr ⟨rfl, rfl, rfl⟩)))) (D d2_34) hr)
 show (Q_mk1 Z c0 c1 c2 c3 G1 h0 n0) (some (.ref b21)) T42.heap _
 exact ⟨b21, t42, kb42, _, _, _, rfl, Nh49, f50, z23, f51, Vq42, Cq42, Aq42, hrel42⟩
abbrev fr_mk2 (m : MethodId) (c0 : Int32) (c1 : Int32) (c2 : Int32) (c3 : Int32) (pc : Nat)  (st : List Value) : JFrame := mkF m pc #[vI 2, vI c0, vI c1, vI c2, vI c3] st
def Q_mk2 (Z : State) (c0 : Int32) (c1 : Int32) (c2 : Int32) (c3 : Int32) (G1 : Int32) (h0 : Heap) (n0 : Nat) (v : Option Value) (h : Heap) (L : List Loc) : Prop := ∃ (x ta : Addr) (kb : ClassId) (cd z : Int32) (vs : List Value), v = some (.ref x) ∧ Fr n0 L ∧ Keep h0 h [] ∧ h0.size ≤ x ∧ Exa Z h x "java/lang/String" ∧ Fld Z h x "java/lang/String" "value" "[B" (.ref ta) ∧ Fld Z h x "java/lang/String" "coder" "B" (.int cd) ∧ Arv Z h ta kb .byte z vs (iV 0) ∧ ((cd = (0 : Int32) ∧ z = (2 : Int32) ∧ vs = [(.int (oL c0)), (.int (oL c1))] ∧ ¬ ((255 : Int32) < c0) ∧ ¬ ((255 : Int32) < c1)) ∨ (cd = (1 : Int32) ∧ z = (4 : Int32) ∧ vs = [(.int (oW c0)), (.int (oH c0)), (.int (oW c1)), (.int (oH c1))] ∧ ((255 : Int32) < c0 ∨ (255 : Int32) < c1)))
theorem ef_mk2 (m : MethodId) (x0 : Int32) (x1 : Int32) (x2 : Int32) (x3 : Int32) (x4 : Int32)  : entryFrame m #[(.int x0), (.int x1), (.int x2), (.int x3), (.int x4)] 5 = mkF m 0 #[vI x0, vI x1, vI x2, vI x3, vI x4] [] := by first | (simp [entryFrame, mkF, argsToLocals, Value.category]; done) | rfl
set_option maxRecDepth 65536 in
set_option maxHeartbeats 40000000 in
theorem c_mk2 (l : Launch) (Z : State) (a0 : Array Value) (hw : HW a0 Z) (ws : List Jvm.Cond) (c0 : Int32) (c1 : Int32) (c2 : Int32) (c3 : Int32) (G1 : Int32) (h0 : Heap) (n0 : Nat) (Z0 : n0 ≤ h0.size) (hc0 : ¬ c0 < 0 ∧ ¬ (65535 : Int32) < c0) (hc1 : ¬ c1 < 0 ∧ ¬ (65535 : Int32) < c1) (hc2 : ¬ c2 < 0 ∧ ¬ (65535 : Int32) < c2) (hc3 : ¬ c3 < 0 ∧ ¬ (65535 : Int32) < c3) (O2 : Sta Z Z.heap "java/lang/String" "COMPACT_STRINGS" "Z" (.int G1)) (P5 : ¬ (G1 = (0 : Int32))) (SA : Sta Z Z.heap "java/lang/StringUTF16" "$assertionsDisabled" "Z" (iV 1)) (SHI : Sta Z Z.heap "java/lang/StringUTF16" "HI_BYTE_SHIFT" "I" (iV 0)) (SLO : Sta Z Z.heap "java/lang/StringUTF16" "LO_BYTE_SHIFT" "I" (iV 8)) (X00 : Old Z n0 h0) :
  MetFree l yM27 (head1 (Jvm.Cond.code yM27 method_5_code 5 (some (.object "java/lang/String")) :: ws) ({ frames := 6, cells := 4, slots := 12, locals := 90 } : Room)) (fun a U => a = #[(iV 2), (.int c0), (.int c1), (.int c2), (.int c3)] ∧ Z.Warmed39 U.vm ∧ U.heap = h0) (fun _ _ _ _ _ => True) (fun _ U o U' => ∃ v L, o = .returned v ∧ (Q_mk2 Z c0 c1 c2 c3 G1 h0 n0) v U'.heap L ∧ FrameEnd U o U' L ({ frames := 6, cells := 4, slots := 12, locals := 90 } : Room).cells ({ frames := 6, cells := 4, slots := 12, locals := 90 } : Room).slots) := by
 refine MetFree.of_bodySF (plainFor_of_name pn_24) hisR ?_
 intro p e s m args below meth c s₁ Bd hml0 hP hK
 obtain ⟨rfl, hZ, hHp⟩ := hP
 have hx := Bd.exec
 have D := fun {pc : Nat} {r} (h : decode _ pc = r) => hb Bd.bytes h
 have hml : c.maxLocals = 5 := hml0
 have hown : s.vm.findClass "com/example/savepoint/savepoint/SqlDialectReadingsOfPinLaw" = some m.cls := findClass_of_methodNamed Bd.named
 have hnm := (name_of_methodNamed Bd.named Bd.method).1
 have X0 : Stand p l e ({ frames := 6, cells := 4, slots := 12, locals := 90 } : Room) s m #[(iV 2), (.int c0), (.int c1), (.int c2), (.int c3)] below meth c s₁ [] 0 0 := Stand.of_body Bd
 have e0 : s₁.heap = h0 := by rw [← hHp, Bd.state]; rfl
 have N0 := Fr.nil n0
 refine ownOut (P := (Q_mk2 Z c0 c1 c2 c3 G1 h0 n0)) ?_
 refine ownBy (A := s₁.setTop (mkF m 0 #[vI 2, vI c0, vI c1, vI c2, vI c3] [])) (fun t k => castTop (ef_mk2 m (2 : Int32) c0 c1 c2 c3) k) ?_
 refine oTo s₁ (fr_mk2 m c0 c1 c2 c3 40  []) (fun t kt => ?_) ?_
 ·refine XS.iloadN X0.here hx rfl (D d2_0) rfl ?_
  refine XS.ifYes X0.here hx rfl (pc0 := 1) (pc' := 15) rfl (D d2_1) rfl ((if0 _ _).trans (feq ((by decide) : ¬ ((2 : Int32) = (0 : Int32)))).2) (by decide) (by decide) ?_
  refine XS.iloadN X0.here hx rfl (D d2_15) rfl ?_
  refine XS.iconst X0.here hx rfl (D d2_16) ?_
  show Steps p.tables e below (s₁.setTop (fr_mk2 m c0 c1 c2 c3 17  [(iV 1), (iV 2)])) t
  refine XS.icmpYes X0.here hx rfl (pc0 := 17) (pc' := 35) rfl (D d2_17) rfl (feq ((by decide) : ¬ ((2 : Int32) = (1 : Int32)))).2 (by decide) (by decide) ?_
  refine XS.iloadN X0.here hx rfl (D d2_35) rfl ?_
  refine XS.iconst X0.here hx rfl (D d2_36) ?_
  refine XS.icmpNo X0.here hx rfl (D d2_37) rfl (teq ((by decide) : (2 : Int32) = (2 : Int32))).2 ?_
  exact kt
 obtain ⟨T21, h21, X21, e21, E21, A21, D21, -, st21⟩ := newO X0 hx hZ hown (Wd7 hw) (Wd8 hw) (Wd9 hw) e0 (g := (fr_mk2 m c0 c1 c2 c3 40  [])) rfl (D d2_40) (by decide) (by decide)
 obtain ⟨b21, g21⟩ : ∃ z, z = h0.size := ⟨_, rfl⟩
 rw [← g21] at A21 D21 st21
 have g22 : n0 ≤ b21 := Nat.le_trans Z0 (Nat.le_of_eq g21.symm)
 have z23 : h0.size ≤ b21 := Nat.le_trans (Nat.le_refl h0.size) (Nat.le_of_eq g21.symm)
 have F24 : Fld Z h21 b21 "java/lang/String" "value" "[B" .null := D21 (Or.inr (Wd23 hw)) (ty := (.array .byte)) (by decide)
 have F25 : Fld Z h21 b21 "java/lang/String" "coder" "B" (iV 0) := D21 (Or.inr (Wd24 hw)) (ty := .byte) (by decide)
 refine ownBy st21 ?_
 clear st21
 show oA p e below _ T21 (fr_mk2 m c0 c1 c2 c3 43  [(.ref b21)])
 refine oTo T21 (fr_mk2 m c0 c1 c2 c3 45  [(iV 2), (.ref b21), (.ref b21)]) (fun t kt => ?_) ?_
 ·refine XS.dup X21.here hx rfl (D d2_43) rfl rfl ?_
  refine XS.iconst X21.here hx rfl (D d2_44) ?_
  exact kt
 obtain ⟨T26, h26, k26, X26, e26, E26, A26, st26⟩ := newP X21 hx hZ (aty := .char) (Wd10 hw) e21 (g := (fr_mk2 m c0 c1 c2 c3 45  [(iV 2), (.ref b21), (.ref b21)])) rfl (D d2_45) rfl (by decide : ¬ ((2 : Int32) < (0 : Int32))) (cap := 2) (by decide) (by decide) (by decide) (by decide)
 obtain ⟨b26, g26⟩ : ∃ z, z = h21.size := ⟨_, rfl⟩
 rw [← g26] at A26 st26
 have ne27 : b21 ≠ b26 := Nat.ne_of_lt (Nat.lt_of_lt_of_le A21.lt (Nat.le_of_eq g26.symm))
 have f29 := (Nat.le_trans Z0 E21.1)
 have g28 : n0 ≤ b26 := Nat.le_trans f29 (Nat.le_of_eq g26.symm)
 have f31 := (Nat.le_trans (Nat.le_refl h0.size) E21.1)
 have z30 : h0.size ≤ b26 := Nat.le_trans f31 (Nat.le_of_eq g26.symm)
 have V32 : Arv Z h26 b26 k26 .char (2 : Int32) [(iV 0), (iV 0)] (iV 0) := (Arv.new A26 (by decide)).pad (pad_rep [] (iV 0) 2)
 refine ownBy st26 ?_
 clear st26
 show oA p e below _ T26 (fr_mk2 m c0 c1 c2 c3 47  [(.ref b26), (.ref b21), (.ref b21)])
 refine oTo T26 (fr_mk2 m c0 c1 c2 c3 50  [(.int c0), (iV 0), (.ref b26), (.ref b26), (.ref b21), (.ref b21)]) (fun t kt => ?_) ?_
 ·refine XS.dup X26.here hx rfl (D d2_47) rfl rfl ?_
  refine XS.iconst X26.here hx rfl (D d2_48) ?_
  refine XS.iloadN X26.here hx rfl (D d2_49) rfl ?_
  exact kt
 obtain ⟨cl33, Ar33, q33, S33, N33, H33, G33⟩ := id V32
 have hin33 : ¬ ((0 : Int32) < 0 ∨ cl33.slots.size ≤ ((0 : Int32)).toNatClampNeg) := inb_of S33 ⟨by decide, by decide⟩
 obtain ⟨T33, h33, X33, e33, W33, st33⟩ := stC X26 hx hZ e26 Ar33 (j := (0 : Int32)) hin33 (g := (fr_mk2 m c0 c1 c2 c3 50  [(.int c0), (iV 0), (.ref b26), (.ref b26), (.ref b21), (.ref b21)])) rfl rfl (D d2_50)
 have V34 : Arv Z h33 b26 k26 .char (2 : Int32) [(.int (nar .char c0)), (iV 0)] (iV 0) := Arv.set Ar33 q33 S33 N33 H33 G33 (fits_nar_char _) W33 0 rfl (oLe rfl)
 rw [own_c16 hc0] at V34
 clear hin33 G33 H33 N33 S33 q33 Ar33 cl33 V32
 have N35 := Fr.snoc X33 N0 g28
 obtain ⟨Lh36, Xh36, Nh36⟩ := oHd 2 6 X33 N35 rfl rfl
 refine ownBy st33 ?_
 clear st33
 show oA p e below _ T33 (fr_mk2 m c0 c1 c2 c3 51  [(.ref b26), (.ref b21), (.ref b21)])
 refine oTo T33 (fr_mk2 m c0 c1 c2 c3 54  [(.int c1), (iV 1), (.ref b26), (.ref b26), (.ref b21), (.ref b21)]) (fun t kt => ?_) ?_
 ·refine XS.dup Xh36.here hx rfl (D d2_51) rfl rfl ?_
  refine XS.iconst Xh36.here hx rfl (D d2_52) ?_
  refine XS.iloadN Xh36.here hx rfl (D d2_53) rfl ?_
  exact kt
 obtain ⟨cl37, Ar37, q37, S37, N37, H37, G37⟩ := id V34
 have hin37 : ¬ ((1 : Int32) < 0 ∨ cl37.slots.size ≤ ((1 : Int32)).toNatClampNeg) := inb_of S37 ⟨by decide, by decide⟩
 obtain ⟨T37, h37, X37, e37, W37, st37⟩ := stC Xh36 hx hZ e33 Ar37 (j := (1 : Int32)) hin37 (g := (fr_mk2 m c0 c1 c2 c3 54  [(.int c1), (iV 1), (.ref b26), (.ref b26), (.ref b21), (.ref b21)])) rfl rfl (D d2_54)
 have V38 : Arv Z h37 b26 k26 .char (2 : Int32) [(.int c0), (.int (nar .char c1))] (iV 0) := Arv.set Ar37 q37 S37 N37 H37 G37 (fits_nar_char _) W37 1 rfl (oLe rfl)
 rw [own_c16 hc1] at V38
 clear hin37 G37 H37 N37 S37 q37 Ar37 cl37 V34
 have N39 := Fr.snoc X37 Nh36 g28
 obtain ⟨Lh40, Xh40, Nh40⟩ := oHd 2 6 X37 N39 rfl rfl
 refine ownBy st37 ?_
 clear st37
 show oA p e below _ T37 (fr_mk2 m c0 c1 c2 c3 55  [(.ref b26), (.ref b21), (.ref b21)])
 have f41 := (((A21.ext E26).wr W33).wr W37)
 have f42 := (((F24.ext E26).other W33 (Or.inl ne27)).other W37 (Or.inl ne27))
 have f43 := (((F25.ext E26).other W33 (Or.inl ne27)).other W37 (Or.inl ne27))
 have f44 := ((((X00.ext E21).ext E26).wr W33 g28).wr W37 g28)
 have f45 := (Nat.le_trans (Nat.le_trans (Nat.le_trans f29 E26.1) (Keep.of_wr W33).1) (Keep.of_wr W37).1)
 obtain ⟨vv46, _, ⟨T46, L46, k46, n46⟩, -, X46, ⟨Lc46, hQ46, l46, y46, z46⟩, st46⟩ := Xh40.specialBack hx (y := yM1) rfl hown (mvT hZ (Wd11 hw)) (mvT hZ (Wd12 hw)) (mvT hZ (Wd13 hw)) (by decide) (backOf (W := 1) (c_inC_2 l Z a0 hw [] b21 b26 k26 c0 c1 _ G1 h37 n0 f45 f41 f42 f43 g22 ne27 V38 hc0 hc1 O2 P5 SA SHI SLO f44) hZ (Wd13 hw) (Wd9 hw) (by decide) (by decide)) (g := (fr_mk2 m c0 c1 c2 c3 55  [(.ref b26), (.ref b21), (.ref b21)])) rfl (by rw [hml]; rfl) (Steps.refl _) (a := b21) (argsL := [(.ref b26)]) (rest := [(.ref b21)]) (lenOf pd_25 rfl) rfl (by show 2 * 0 + _ ≤ _; exact Nat.le_of_eq rfl) (D d2_55) (fun _ _ => ⟨rfl, e37, (by decide : 2 + 2 ≤ _), (by decide : 6 + 6 ≤ _)⟩)
 dsimp only [Pt.U, Pt.locs, Pt.cells, Pt.slots] at X46 l46 y46 z46 st46 hQ46
 subst l46 y46 z46
 obtain ⟨rfl, Nq46, Kq46, Eq46, t46, kb46, cd46, z46, vs46, zq46, Vq46, Cq46, Aq46, hrel46⟩ := hQ46
 have ne47 : b21 ≠ t46 := Nat.ne_of_lt (Nat.lt_of_lt_of_le f41.lt zq46)
 have ne48 : b26 ≠ t46 := Nat.ne_of_lt (Nat.lt_of_lt_of_le V38.lt zq46)
 have g49 : n0 ≤ t46 := Nat.le_trans f45 zq46
 have f51 := (Nat.le_trans (Nat.le_trans (Nat.le_trans f31 E26.1) (Keep.of_wr W33).1) (Keep.of_wr W37).1)
 have z50 : h0.size ≤ t46 := Nat.le_trans f51 zq46
 have N52 := Fr.app Nh40 Nq46
 obtain ⟨Lh53, Xh53, Nh53⟩ := oHd 4 12 X46 N52 rfl rfl
 refine ownSt st46 ?_
 clear st46
 show oA p e below _ T46 (fr_mk2 m c0 c1 c2 c3 58  [(.ref b21)])
 have f54 := ((((((Keep.refl h0 []).ext E21).ext E26).wr W33 (Or.inr z30)).wr W37 (Or.inr z30)).trans Kq46 (allS (Or.inr z23) all0))
 have f55 := (f41.keep Kq46)
 refine ownRet Xh53 Bd.notSynchronized (v := some (.ref b21)) (fun h => by rw [Bd.returns] at h; cases h) ?_ (oLe rfl) (oLe rfl) (fun fs hr => retOut Xh53 hx Bd.returns rfl (Or.inr (Or.inr (Or.inr (Or.inr ⟨rfl, rfl, rfl⟩)))) (D d2_58) hr)
 show (Q_mk2 Z c0 c1 c2 c3 G1 h0 n0) (some (.ref b21)) T46.heap _
 exact ⟨b21, t46, kb46, _, _, _, rfl, Nh53, f54, z23, f55, Vq46, Cq46, Aq46, hrel46⟩
abbrev fr_mk3 (m : MethodId) (c0 : Int32) (c1 : Int32) (c2 : Int32) (c3 : Int32) (pc : Nat)  (st : List Value) : JFrame := mkF m pc #[vI 3, vI c0, vI c1, vI c2, vI c3] st
def Q_mk3 (Z : State) (c0 : Int32) (c1 : Int32) (c2 : Int32) (c3 : Int32) (G1 : Int32) (h0 : Heap) (n0 : Nat) (v : Option Value) (h : Heap) (L : List Loc) : Prop := ∃ (x ta : Addr) (kb : ClassId) (cd z : Int32) (vs : List Value), v = some (.ref x) ∧ Fr n0 L ∧ Keep h0 h [] ∧ h0.size ≤ x ∧ Exa Z h x "java/lang/String" ∧ Fld Z h x "java/lang/String" "value" "[B" (.ref ta) ∧ Fld Z h x "java/lang/String" "coder" "B" (.int cd) ∧ Arv Z h ta kb .byte z vs (iV 0) ∧ ((cd = (0 : Int32) ∧ z = (3 : Int32) ∧ vs = [(.int (oL c0)), (.int (oL c1)), (.int (oL c2))] ∧ ¬ ((255 : Int32) < c0) ∧ ¬ ((255 : Int32) < c1) ∧ ¬ ((255 : Int32) < c2)) ∨ (cd = (1 : Int32) ∧ z = (6 : Int32) ∧ vs = [(.int (oW c0)), (.int (oH c0)), (.int (oW c1)), (.int (oH c1)), (.int (oW c2)), (.int (oH c2))] ∧ ((255 : Int32) < c0 ∨ (255 : Int32) < c1 ∨ (255 : Int32) < c2)))
theorem ef_mk3 (m : MethodId) (x0 : Int32) (x1 : Int32) (x2 : Int32) (x3 : Int32) (x4 : Int32)  : entryFrame m #[(.int x0), (.int x1), (.int x2), (.int x3), (.int x4)] 5 = mkF m 0 #[vI x0, vI x1, vI x2, vI x3, vI x4] [] := by first | (simp [entryFrame, mkF, argsToLocals, Value.category]; done) | rfl
set_option maxRecDepth 65536 in
set_option maxHeartbeats 40000000 in
theorem c_mk3 (l : Launch) (Z : State) (a0 : Array Value) (hw : HW a0 Z) (ws : List Jvm.Cond) (c0 : Int32) (c1 : Int32) (c2 : Int32) (c3 : Int32) (G1 : Int32) (h0 : Heap) (n0 : Nat) (Z0 : n0 ≤ h0.size) (hc0 : ¬ c0 < 0 ∧ ¬ (65535 : Int32) < c0) (hc1 : ¬ c1 < 0 ∧ ¬ (65535 : Int32) < c1) (hc2 : ¬ c2 < 0 ∧ ¬ (65535 : Int32) < c2) (hc3 : ¬ c3 < 0 ∧ ¬ (65535 : Int32) < c3) (O2 : Sta Z Z.heap "java/lang/String" "COMPACT_STRINGS" "Z" (.int G1)) (P5 : ¬ (G1 = (0 : Int32))) (SA : Sta Z Z.heap "java/lang/StringUTF16" "$assertionsDisabled" "Z" (iV 1)) (SHI : Sta Z Z.heap "java/lang/StringUTF16" "HI_BYTE_SHIFT" "I" (iV 0)) (SLO : Sta Z Z.heap "java/lang/StringUTF16" "LO_BYTE_SHIFT" "I" (iV 8)) (X00 : Old Z n0 h0) :
  MetFree l yM27 (head1 (Jvm.Cond.code yM27 method_5_code 5 (some (.object "java/lang/String")) :: ws) ({ frames := 6, cells := 4, slots := 16, locals := 90 } : Room)) (fun a U => a = #[(iV 3), (.int c0), (.int c1), (.int c2), (.int c3)] ∧ Z.Warmed39 U.vm ∧ U.heap = h0) (fun _ _ _ _ _ => True) (fun _ U o U' => ∃ v L, o = .returned v ∧ (Q_mk3 Z c0 c1 c2 c3 G1 h0 n0) v U'.heap L ∧ FrameEnd U o U' L ({ frames := 6, cells := 4, slots := 16, locals := 90 } : Room).cells ({ frames := 6, cells := 4, slots := 16, locals := 90 } : Room).slots) := by
 refine MetFree.of_bodySF (plainFor_of_name pn_24) hisR ?_
 intro p e s m args below meth c s₁ Bd hml0 hP hK
 obtain ⟨rfl, hZ, hHp⟩ := hP
 have hx := Bd.exec
 have D := fun {pc : Nat} {r} (h : decode _ pc = r) => hb Bd.bytes h
 have hml : c.maxLocals = 5 := hml0
 have hown : s.vm.findClass "com/example/savepoint/savepoint/SqlDialectReadingsOfPinLaw" = some m.cls := findClass_of_methodNamed Bd.named
 have hnm := (name_of_methodNamed Bd.named Bd.method).1
 have X0 : Stand p l e ({ frames := 6, cells := 4, slots := 16, locals := 90 } : Room) s m #[(iV 3), (.int c0), (.int c1), (.int c2), (.int c3)] below meth c s₁ [] 0 0 := Stand.of_body Bd
 have e0 : s₁.heap = h0 := by rw [← hHp, Bd.state]; rfl
 have N0 := Fr.nil n0
 refine ownOut (P := (Q_mk3 Z c0 c1 c2 c3 G1 h0 n0)) ?_
 refine ownBy (A := s₁.setTop (mkF m 0 #[vI 3, vI c0, vI c1, vI c2, vI c3] [])) (fun t k => castTop (ef_mk3 m (3 : Int32) c0 c1 c2 c3) k) ?_
 refine oTo s₁ (fr_mk3 m c0 c1 c2 c3 64  []) (fun t kt => ?_) ?_
 ·refine XS.iloadN X0.here hx rfl (D d2_0) rfl ?_
  refine XS.ifYes X0.here hx rfl (pc0 := 1) (pc' := 15) rfl (D d2_1) rfl ((if0 _ _).trans (feq ((by decide) : ¬ ((3 : Int32) = (0 : Int32)))).2) (by decide) (by decide) ?_
  refine XS.iloadN X0.here hx rfl (D d2_15) rfl ?_
  refine XS.iconst X0.here hx rfl (D d2_16) ?_
  show Steps p.tables e below (s₁.setTop (fr_mk3 m c0 c1 c2 c3 17  [(iV 1), (iV 3)])) t
  refine XS.icmpYes X0.here hx rfl (pc0 := 17) (pc' := 35) rfl (D d2_17) rfl (feq ((by decide) : ¬ ((3 : Int32) = (1 : Int32)))).2 (by decide) (by decide) ?_
  refine XS.iloadN X0.here hx rfl (D d2_35) rfl ?_
  refine XS.iconst X0.here hx rfl (D d2_36) ?_
  refine XS.icmpYes X0.here hx rfl (pc0 := 37) (pc' := 59) rfl (D d2_37) rfl (feq ((by decide) : ¬ ((3 : Int32) = (2 : Int32)))).2 (by decide) (by decide) ?_
  show Steps p.tables e below (s₁.setTop (fr_mk3 m c0 c1 c2 c3 59  [])) t
  refine XS.iloadN X0.here hx rfl (D d2_59) rfl ?_
  refine XS.iconst X0.here hx rfl (D d2_60) ?_
  refine XS.icmpNo X0.here hx rfl (D d2_61) rfl (teq ((by decide) : (3 : Int32) = (3 : Int32))).2 ?_
  exact kt
 obtain ⟨T21, h21, X21, e21, E21, A21, D21, -, st21⟩ := newO X0 hx hZ hown (Wd7 hw) (Wd8 hw) (Wd9 hw) e0 (g := (fr_mk3 m c0 c1 c2 c3 64  [])) rfl (D d2_64) (by decide) (by decide)
 obtain ⟨b21, g21⟩ : ∃ z, z = h0.size := ⟨_, rfl⟩
 rw [← g21] at A21 D21 st21
 have g22 : n0 ≤ b21 := Nat.le_trans Z0 (Nat.le_of_eq g21.symm)
 have z23 : h0.size ≤ b21 := Nat.le_trans (Nat.le_refl h0.size) (Nat.le_of_eq g21.symm)
 have F24 : Fld Z h21 b21 "java/lang/String" "value" "[B" .null := D21 (Or.inr (Wd23 hw)) (ty := (.array .byte)) (by decide)
 have F25 : Fld Z h21 b21 "java/lang/String" "coder" "B" (iV 0) := D21 (Or.inr (Wd24 hw)) (ty := .byte) (by decide)
 refine ownBy st21 ?_
 clear st21
 show oA p e below _ T21 (fr_mk3 m c0 c1 c2 c3 67  [(.ref b21)])
 refine oTo T21 (fr_mk3 m c0 c1 c2 c3 69  [(iV 3), (.ref b21), (.ref b21)]) (fun t kt => ?_) ?_
 ·refine XS.dup X21.here hx rfl (D d2_67) rfl rfl ?_
  refine XS.iconst X21.here hx rfl (D d2_68) ?_
  exact kt
 obtain ⟨T26, h26, k26, X26, e26, E26, A26, st26⟩ := newP X21 hx hZ (aty := .char) (Wd10 hw) e21 (g := (fr_mk3 m c0 c1 c2 c3 69  [(iV 3), (.ref b21), (.ref b21)])) rfl (D d2_69) rfl (by decide : ¬ ((3 : Int32) < (0 : Int32))) (cap := 3) (by decide) (by decide) (by decide) (by decide)
 obtain ⟨b26, g26⟩ : ∃ z, z = h21.size := ⟨_, rfl⟩
 rw [← g26] at A26 st26
 have ne27 : b21 ≠ b26 := Nat.ne_of_lt (Nat.lt_of_lt_of_le A21.lt (Nat.le_of_eq g26.symm))
 have f29 := (Nat.le_trans Z0 E21.1)
 have g28 : n0 ≤ b26 := Nat.le_trans f29 (Nat.le_of_eq g26.symm)
 have f31 := (Nat.le_trans (Nat.le_refl h0.size) E21.1)
 have z30 : h0.size ≤ b26 := Nat.le_trans f31 (Nat.le_of_eq g26.symm)
 have V32 : Arv Z h26 b26 k26 .char (3 : Int32) [(iV 0), (iV 0), (iV 0)] (iV 0) := (Arv.new A26 (by decide)).pad (pad_rep [] (iV 0) 3)
 refine ownBy st26 ?_
 clear st26
 show oA p e below _ T26 (fr_mk3 m c0 c1 c2 c3 71  [(.ref b26), (.ref b21), (.ref b21)])
 refine oTo T26 (fr_mk3 m c0 c1 c2 c3 74  [(.int c0), (iV 0), (.ref b26), (.ref b26), (.ref b21), (.ref b21)]) (fun t kt => ?_) ?_
 ·refine XS.dup X26.here hx rfl (D d2_71) rfl rfl ?_
  refine XS.iconst X26.here hx rfl (D d2_72) ?_
  refine XS.iloadN X26.here hx rfl (D d2_73) rfl ?_
  exact kt
 obtain ⟨cl33, Ar33, q33, S33, N33, H33, G33⟩ := id V32
 have hin33 : ¬ ((0 : Int32) < 0 ∨ cl33.slots.size ≤ ((0 : Int32)).toNatClampNeg) := inb_of S33 ⟨by decide, by decide⟩
 obtain ⟨T33, h33, X33, e33, W33, st33⟩ := stC X26 hx hZ e26 Ar33 (j := (0 : Int32)) hin33 (g := (fr_mk3 m c0 c1 c2 c3 74  [(.int c0), (iV 0), (.ref b26), (.ref b26), (.ref b21), (.ref b21)])) rfl rfl (D d2_74)
 have V34 : Arv Z h33 b26 k26 .char (3 : Int32) [(.int (nar .char c0)), (iV 0), (iV 0)] (iV 0) := Arv.set Ar33 q33 S33 N33 H33 G33 (fits_nar_char _) W33 0 rfl (oLe rfl)
 rw [own_c16 hc0] at V34
 clear hin33 G33 H33 N33 S33 q33 Ar33 cl33 V32
 have N35 := Fr.snoc X33 N0 g28
 obtain ⟨Lh36, Xh36, Nh36⟩ := oHd 2 7 X33 N35 rfl rfl
 refine ownBy st33 ?_
 clear st33
 show oA p e below _ T33 (fr_mk3 m c0 c1 c2 c3 75  [(.ref b26), (.ref b21), (.ref b21)])
 refine oTo T33 (fr_mk3 m c0 c1 c2 c3 78  [(.int c1), (iV 1), (.ref b26), (.ref b26), (.ref b21), (.ref b21)]) (fun t kt => ?_) ?_
 ·refine XS.dup Xh36.here hx rfl (D d2_75) rfl rfl ?_
  refine XS.iconst Xh36.here hx rfl (D d2_76) ?_
  refine XS.iloadN Xh36.here hx rfl (D d2_77) rfl ?_
  exact kt
 obtain ⟨cl37, Ar37, q37, S37, N37, H37, G37⟩ := id V34
 have hin37 : ¬ ((1 : Int32) < 0 ∨ cl37.slots.size ≤ ((1 : Int32)).toNatClampNeg) := inb_of S37 ⟨by decide, by decide⟩
 obtain ⟨T37, h37, X37, e37, W37, st37⟩ := stC Xh36 hx hZ e33 Ar37 (j := (1 : Int32)) hin37 (g := (fr_mk3 m c0 c1 c2 c3 78  [(.int c1), (iV 1), (.ref b26), (.ref b26), (.ref b21), (.ref b21)])) rfl rfl (D d2_78)
 have V38 : Arv Z h37 b26 k26 .char (3 : Int32) [(.int c0), (.int (nar .char c1)), (iV 0)] (iV 0) := Arv.set Ar37 q37 S37 N37 H37 G37 (fits_nar_char _) W37 1 rfl (oLe rfl)
 rw [own_c16 hc1] at V38
 clear hin37 G37 H37 N37 S37 q37 Ar37 cl37 V34
 have N39 := Fr.snoc X37 Nh36 g28
 obtain ⟨Lh40, Xh40, Nh40⟩ := oHd 2 7 X37 N39 rfl rfl
 refine ownBy st37 ?_
 clear st37
 show oA p e below _ T37 (fr_mk3 m c0 c1 c2 c3 79  [(.ref b26), (.ref b21), (.ref b21)])
 refine oTo T37 (fr_mk3 m c0 c1 c2 c3 82  [(.int c2), (iV 2), (.ref b26), (.ref b26), (.ref b21), (.ref b21)]) (fun t kt => ?_) ?_
 ·refine XS.dup Xh40.here hx rfl (D d2_79) rfl rfl ?_
  refine XS.iconst Xh40.here hx rfl (D d2_80) ?_
  refine XS.iloadN Xh40.here hx rfl (D d2_81) rfl ?_
  exact kt
 obtain ⟨cl41, Ar41, q41, S41, N41, H41, G41⟩ := id V38
 have hin41 : ¬ ((2 : Int32) < 0 ∨ cl41.slots.size ≤ ((2 : Int32)).toNatClampNeg) := inb_of S41 ⟨by decide, by decide⟩
 obtain ⟨T41, h41, X41, e41, W41, st41⟩ := stC Xh40 hx hZ e37 Ar41 (j := (2 : Int32)) hin41 (g := (fr_mk3 m c0 c1 c2 c3 82  [(.int c2), (iV 2), (.ref b26), (.ref b26), (.ref b21), (.ref b21)])) rfl rfl (D d2_82)
 have V42 : Arv Z h41 b26 k26 .char (3 : Int32) [(.int c0), (.int c1), (.int (nar .char c2))] (iV 0) := Arv.set Ar41 q41 S41 N41 H41 G41 (fits_nar_char _) W41 2 rfl (oLe rfl)
 rw [own_c16 hc2] at V42
 clear hin41 G41 H41 N41 S41 q41 Ar41 cl41 V38
 have N43 := Fr.snoc X41 Nh40 g28
 obtain ⟨Lh44, Xh44, Nh44⟩ := oHd 2 7 X41 N43 rfl rfl
 refine ownBy st41 ?_
 clear st41
 show oA p e below _ T41 (fr_mk3 m c0 c1 c2 c3 83  [(.ref b26), (.ref b21), (.ref b21)])
 have f45 := ((((A21.ext E26).wr W33).wr W37).wr W41)
 have f46 := ((((F24.ext E26).other W33 (Or.inl ne27)).other W37 (Or.inl ne27)).other W41 (Or.inl ne27))
 have f47 := ((((F25.ext E26).other W33 (Or.inl ne27)).other W37 (Or.inl ne27)).other W41 (Or.inl ne27))
 have f48 := (((((X00.ext E21).ext E26).wr W33 g28).wr W37 g28).wr W41 g28)
 have f49 := (Nat.le_trans (Nat.le_trans (Nat.le_trans (Nat.le_trans f29 E26.1) (Keep.of_wr W33).1) (Keep.of_wr W37).1) (Keep.of_wr W41).1)
 obtain ⟨vv50, _, ⟨T50, L50, k50, n50⟩, -, X50, ⟨Lc50, hQ50, l50, y50, z50⟩, st50⟩ := Xh44.specialBack hx (y := yM1) rfl hown (mvT hZ (Wd11 hw)) (mvT hZ (Wd12 hw)) (mvT hZ (Wd13 hw)) (by decide) (backOf (W := 1) (c_inC_3 l Z a0 hw [] b21 b26 k26 c0 c1 c2 _ G1 h41 n0 f49 f45 f46 f47 g22 ne27 V42 hc0 hc1 hc2 O2 P5 SA SHI SLO f48) hZ (Wd13 hw) (Wd9 hw) (by decide) (by decide)) (g := (fr_mk3 m c0 c1 c2 c3 83  [(.ref b26), (.ref b21), (.ref b21)])) rfl (by rw [hml]; rfl) (Steps.refl _) (a := b21) (argsL := [(.ref b26)]) (rest := [(.ref b21)]) (lenOf pd_25 rfl) rfl (by show 2 * 0 + _ ≤ _; exact Nat.le_of_eq rfl) (D d2_83) (fun _ _ => ⟨rfl, e41, (by decide : 2 + 2 ≤ _), (by decide : 7 + 9 ≤ _)⟩)
 dsimp only [Pt.U, Pt.locs, Pt.cells, Pt.slots] at X50 l50 y50 z50 st50 hQ50
 subst l50 y50 z50
 obtain ⟨rfl, Nq50, Kq50, Eq50, t50, kb50, cd50, z50, vs50, zq50, Vq50, Cq50, Aq50, hrel50⟩ := hQ50
 have ne51 : b21 ≠ t50 := Nat.ne_of_lt (Nat.lt_of_lt_of_le f45.lt zq50)
 have ne52 : b26 ≠ t50 := Nat.ne_of_lt (Nat.lt_of_lt_of_le V42.lt zq50)
 have g53 : n0 ≤ t50 := Nat.le_trans f49 zq50
 have f55 := (Nat.le_trans (Nat.le_trans (Nat.le_trans (Nat.le_trans f31 E26.1) (Keep.of_wr W33).1) (Keep.of_wr W37).1) (Keep.of_wr W41).1)
 have z54 : h0.size ≤ t50 := Nat.le_trans f55 zq50
 have N56 := Fr.app Nh44 Nq50
 obtain ⟨Lh57, Xh57, Nh57⟩ := oHd 4 16 X50 N56 rfl rfl
 refine ownSt st50 ?_
 clear st50
 show oA p e below _ T50 (fr_mk3 m c0 c1 c2 c3 86  [(.ref b21)])
 have f58 := (((((((Keep.refl h0 []).ext E21).ext E26).wr W33 (Or.inr z30)).wr W37 (Or.inr z30)).wr W41 (Or.inr z30)).trans Kq50 (allS (Or.inr z23) all0))
 have f59 := (f45.keep Kq50)
 refine ownRet Xh57 Bd.notSynchronized (v := some (.ref b21)) (fun h => by rw [Bd.returns] at h; cases h) ?_ (oLe rfl) (oLe rfl) (fun fs hr => retOut Xh57 hx Bd.returns rfl (Or.inr (Or.inr (Or.inr (Or.inr ⟨rfl, rfl, rfl⟩)))) (D d2_86) hr)
 show (Q_mk3 Z c0 c1 c2 c3 G1 h0 n0) (some (.ref b21)) T50.heap _
 exact ⟨b21, t50, kb50, _, _, _, rfl, Nh57, f58, z23, f59, Vq50, Cq50, Aq50, hrel50⟩
abbrev fr_mk4 (m : MethodId) (c0 : Int32) (c1 : Int32) (c2 : Int32) (c3 : Int32) (pc : Nat)  (st : List Value) : JFrame := mkF m pc #[vI 4, vI c0, vI c1, vI c2, vI c3] st
def Q_mk4 (Z : State) (c0 : Int32) (c1 : Int32) (c2 : Int32) (c3 : Int32) (G1 : Int32) (h0 : Heap) (n0 : Nat) (v : Option Value) (h : Heap) (L : List Loc) : Prop := ∃ (x ta : Addr) (kb : ClassId) (cd z : Int32) (vs : List Value), v = some (.ref x) ∧ Fr n0 L ∧ Keep h0 h [] ∧ h0.size ≤ x ∧ Exa Z h x "java/lang/String" ∧ Fld Z h x "java/lang/String" "value" "[B" (.ref ta) ∧ Fld Z h x "java/lang/String" "coder" "B" (.int cd) ∧ Arv Z h ta kb .byte z vs (iV 0) ∧ ((cd = (0 : Int32) ∧ z = (4 : Int32) ∧ vs = [(.int (oL c0)), (.int (oL c1)), (.int (oL c2)), (.int (oL c3))] ∧ ¬ ((255 : Int32) < c0) ∧ ¬ ((255 : Int32) < c1) ∧ ¬ ((255 : Int32) < c2) ∧ ¬ ((255 : Int32) < c3)) ∨ (cd = (1 : Int32) ∧ z = (8 : Int32) ∧ vs = [(.int (oW c0)), (.int (oH c0)), (.int (oW c1)), (.int (oH c1)), (.int (oW c2)), (.int (oH c2)), (.int (oW c3)), (.int (oH c3))] ∧ ((255 : Int32) < c0 ∨ (255 : Int32) < c1 ∨ (255 : Int32) < c2 ∨ (255 : Int32) < c3)))
theorem ef_mk4 (m : MethodId) (x0 : Int32) (x1 : Int32) (x2 : Int32) (x3 : Int32) (x4 : Int32)  : entryFrame m #[(.int x0), (.int x1), (.int x2), (.int x3), (.int x4)] 5 = mkF m 0 #[vI x0, vI x1, vI x2, vI x3, vI x4] [] := by first | (simp [entryFrame, mkF, argsToLocals, Value.category]; done) | rfl
set_option maxRecDepth 65536 in
set_option maxHeartbeats 40000000 in
theorem c_mk4 (l : Launch) (Z : State) (a0 : Array Value) (hw : HW a0 Z) (ws : List Jvm.Cond) (c0 : Int32) (c1 : Int32) (c2 : Int32) (c3 : Int32) (G1 : Int32) (h0 : Heap) (n0 : Nat) (Z0 : n0 ≤ h0.size) (hc0 : ¬ c0 < 0 ∧ ¬ (65535 : Int32) < c0) (hc1 : ¬ c1 < 0 ∧ ¬ (65535 : Int32) < c1) (hc2 : ¬ c2 < 0 ∧ ¬ (65535 : Int32) < c2) (hc3 : ¬ c3 < 0 ∧ ¬ (65535 : Int32) < c3) (O2 : Sta Z Z.heap "java/lang/String" "COMPACT_STRINGS" "Z" (.int G1)) (P5 : ¬ (G1 = (0 : Int32))) (SA : Sta Z Z.heap "java/lang/StringUTF16" "$assertionsDisabled" "Z" (iV 1)) (SHI : Sta Z Z.heap "java/lang/StringUTF16" "HI_BYTE_SHIFT" "I" (iV 0)) (SLO : Sta Z Z.heap "java/lang/StringUTF16" "LO_BYTE_SHIFT" "I" (iV 8)) (X00 : Old Z n0 h0) :
  MetFree l yM27 (head1 (Jvm.Cond.code yM27 method_5_code 5 (some (.object "java/lang/String")) :: ws) ({ frames := 6, cells := 4, slots := 20, locals := 90 } : Room)) (fun a U => a = #[(iV 4), (.int c0), (.int c1), (.int c2), (.int c3)] ∧ Z.Warmed39 U.vm ∧ U.heap = h0) (fun _ _ _ _ _ => True) (fun _ U o U' => ∃ v L, o = .returned v ∧ (Q_mk4 Z c0 c1 c2 c3 G1 h0 n0) v U'.heap L ∧ FrameEnd U o U' L ({ frames := 6, cells := 4, slots := 20, locals := 90 } : Room).cells ({ frames := 6, cells := 4, slots := 20, locals := 90 } : Room).slots) := by
 refine MetFree.of_bodySF (plainFor_of_name pn_24) hisR ?_
 intro p e s m args below meth c s₁ Bd hml0 hP hK
 obtain ⟨rfl, hZ, hHp⟩ := hP
 have hx := Bd.exec
 have D := fun {pc : Nat} {r} (h : decode _ pc = r) => hb Bd.bytes h
 have hml : c.maxLocals = 5 := hml0
 have hown : s.vm.findClass "com/example/savepoint/savepoint/SqlDialectReadingsOfPinLaw" = some m.cls := findClass_of_methodNamed Bd.named
 have hnm := (name_of_methodNamed Bd.named Bd.method).1
 have X0 : Stand p l e ({ frames := 6, cells := 4, slots := 20, locals := 90 } : Room) s m #[(iV 4), (.int c0), (.int c1), (.int c2), (.int c3)] below meth c s₁ [] 0 0 := Stand.of_body Bd
 have e0 : s₁.heap = h0 := by rw [← hHp, Bd.state]; rfl
 have N0 := Fr.nil n0
 refine ownOut (P := (Q_mk4 Z c0 c1 c2 c3 G1 h0 n0)) ?_
 refine ownBy (A := s₁.setTop (mkF m 0 #[vI 4, vI c0, vI c1, vI c2, vI c3] [])) (fun t k => castTop (ef_mk4 m (4 : Int32) c0 c1 c2 c3) k) ?_
 refine oTo s₁ (fr_mk4 m c0 c1 c2 c3 87  []) (fun t kt => ?_) ?_
 ·refine XS.iloadN X0.here hx rfl (D d2_0) rfl ?_
  refine XS.ifYes X0.here hx rfl (pc0 := 1) (pc' := 15) rfl (D d2_1) rfl ((if0 _ _).trans (feq ((by decide) : ¬ ((4 : Int32) = (0 : Int32)))).2) (by decide) (by decide) ?_
  refine XS.iloadN X0.here hx rfl (D d2_15) rfl ?_
  refine XS.iconst X0.here hx rfl (D d2_16) ?_
  show Steps p.tables e below (s₁.setTop (fr_mk4 m c0 c1 c2 c3 17  [(iV 1), (iV 4)])) t
  refine XS.icmpYes X0.here hx rfl (pc0 := 17) (pc' := 35) rfl (D d2_17) rfl (feq ((by decide) : ¬ ((4 : Int32) = (1 : Int32)))).2 (by decide) (by decide) ?_
  refine XS.iloadN X0.here hx rfl (D d2_35) rfl ?_
  refine XS.iconst X0.here hx rfl (D d2_36) ?_
  refine XS.icmpYes X0.here hx rfl (pc0 := 37) (pc' := 59) rfl (D d2_37) rfl (feq ((by decide) : ¬ ((4 : Int32) = (2 : Int32)))).2 (by decide) (by decide) ?_
  show Steps p.tables e below (s₁.setTop (fr_mk4 m c0 c1 c2 c3 59  [])) t
  refine XS.iloadN X0.here hx rfl (D d2_59) rfl ?_
  refine XS.iconst X0.here hx rfl (D d2_60) ?_
  refine XS.icmpYes X0.here hx rfl (pc0 := 61) (pc' := 87) rfl (D d2_61) rfl (feq ((by decide) : ¬ ((4 : Int32) = (3 : Int32)))).2 (by decide) (by decide) ?_
  exact kt
 obtain ⟨T21, h21, X21, e21, E21, A21, D21, -, st21⟩ := newO X0 hx hZ hown (Wd7 hw) (Wd8 hw) (Wd9 hw) e0 (g := (fr_mk4 m c0 c1 c2 c3 87  [])) rfl (D d2_87) (by decide) (by decide)
 obtain ⟨b21, g21⟩ : ∃ z, z = h0.size := ⟨_, rfl⟩
 rw [← g21] at A21 D21 st21
 have g22 : n0 ≤ b21 := Nat.le_trans Z0 (Nat.le_of_eq g21.symm)
 have z23 : h0.size ≤ b21 := Nat.le_trans (Nat.le_refl h0.size) (Nat.le_of_eq g21.symm)
 have F24 : Fld Z h21 b21 "java/lang/String" "value" "[B" .null := D21 (Or.inr (Wd23 hw)) (ty := (.array .byte)) (by decide)
 have F25 : Fld Z h21 b21 "java/lang/String" "coder" "B" (iV 0) := D21 (Or.inr (Wd24 hw)) (ty := .byte) (by decide)
 refine ownBy st21 ?_
 clear st21
 show oA p e below _ T21 (fr_mk4 m c0 c1 c2 c3 90  [(.ref b21)])
 refine oTo T21 (fr_mk4 m c0 c1 c2 c3 92  [(iV 4), (.ref b21), (.ref b21)]) (fun t kt => ?_) ?_
 ·refine XS.dup X21.here hx rfl (D d2_90) rfl rfl ?_
  refine XS.iconst X21.here hx rfl (D d2_91) ?_
  exact kt
 obtain ⟨T26, h26, k26, X26, e26, E26, A26, st26⟩ := newP X21 hx hZ (aty := .char) (Wd10 hw) e21 (g := (fr_mk4 m c0 c1 c2 c3 92  [(iV 4), (.ref b21), (.ref b21)])) rfl (D d2_92) rfl (by decide : ¬ ((4 : Int32) < (0 : Int32))) (cap := 4) (by decide) (by decide) (by decide) (by decide)
 obtain ⟨b26, g26⟩ : ∃ z, z = h21.size := ⟨_, rfl⟩
 rw [← g26] at A26 st26
 have ne27 : b21 ≠ b26 := Nat.ne_of_lt (Nat.lt_of_lt_of_le A21.lt (Nat.le_of_eq g26.symm))
 have f29 := (Nat.le_trans Z0 E21.1)
 have g28 : n0 ≤ b26 := Nat.le_trans f29 (Nat.le_of_eq g26.symm)
 have f31 := (Nat.le_trans (Nat.le_refl h0.size) E21.1)
 have z30 : h0.size ≤ b26 := Nat.le_trans f31 (Nat.le_of_eq g26.symm)
 have V32 : Arv Z h26 b26 k26 .char (4 : Int32) [(iV 0), (iV 0), (iV 0), (iV 0)] (iV 0) := (Arv.new A26 (by decide)).pad (pad_rep [] (iV 0) 4)
 refine ownBy st26 ?_
 clear st26
 show oA p e below _ T26 (fr_mk4 m c0 c1 c2 c3 94  [(.ref b26), (.ref b21), (.ref b21)])
 refine oTo T26 (fr_mk4 m c0 c1 c2 c3 97  [(.int c0), (iV 0), (.ref b26), (.ref b26), (.ref b21), (.ref b21)]) (fun t kt => ?_) ?_
 ·refine XS.dup X26.here hx rfl (D d2_94) rfl rfl ?_
  refine XS.iconst X26.here hx rfl (D d2_95) ?_
  refine XS.iloadN X26.here hx rfl (D d2_96) rfl ?_
  exact kt
 obtain ⟨cl33, Ar33, q33, S33, N33, H33, G33⟩ := id V32
 have hin33 : ¬ ((0 : Int32) < 0 ∨ cl33.slots.size ≤ ((0 : Int32)).toNatClampNeg) := inb_of S33 ⟨by decide, by decide⟩
 obtain ⟨T33, h33, X33, e33, W33, st33⟩ := stC X26 hx hZ e26 Ar33 (j := (0 : Int32)) hin33 (g := (fr_mk4 m c0 c1 c2 c3 97  [(.int c0), (iV 0), (.ref b26), (.ref b26), (.ref b21), (.ref b21)])) rfl rfl (D d2_97)
 have V34 : Arv Z h33 b26 k26 .char (4 : Int32) [(.int (nar .char c0)), (iV 0), (iV 0), (iV 0)] (iV 0) := Arv.set Ar33 q33 S33 N33 H33 G33 (fits_nar_char _) W33 0 rfl (oLe rfl)
 rw [own_c16 hc0] at V34
 clear hin33 G33 H33 N33 S33 q33 Ar33 cl33 V32
 have N35 := Fr.snoc X33 N0 g28
 obtain ⟨Lh36, Xh36, Nh36⟩ := oHd 2 8 X33 N35 rfl rfl
 refine ownBy st33 ?_
 clear st33
 show oA p e below _ T33 (fr_mk4 m c0 c1 c2 c3 98  [(.ref b26), (.ref b21), (.ref b21)])
 refine oTo T33 (fr_mk4 m c0 c1 c2 c3 101  [(.int c1), (iV 1), (.ref b26), (.ref b26), (.ref b21), (.ref b21)]) (fun t kt => ?_) ?_
 ·refine XS.dup Xh36.here hx rfl (D d2_98) rfl rfl ?_
  refine XS.iconst Xh36.here hx rfl (D d2_99) ?_
  refine XS.iloadN Xh36.here hx rfl (D d2_100) rfl ?_
  exact kt
 obtain ⟨cl37, Ar37, q37, S37, N37, H37, G37⟩ := id V34
 have hin37 : ¬ ((1 : Int32) < 0 ∨ cl37.slots.size ≤ ((1 : Int32)).toNatClampNeg) := inb_of S37 ⟨by decide, by decide⟩
 obtain ⟨T37, h37, X37, e37, W37, st37⟩ := stC Xh36 hx hZ e33 Ar37 (j := (1 : Int32)) hin37 (g := (fr_mk4 m c0 c1 c2 c3 101  [(.int c1), (iV 1), (.ref b26), (.ref b26), (.ref b21), (.ref b21)])) rfl rfl (D d2_101)
 have V38 : Arv Z h37 b26 k26 .char (4 : Int32) [(.int c0), (.int (nar .char c1)), (iV 0), (iV 0)] (iV 0) := Arv.set Ar37 q37 S37 N37 H37 G37 (fits_nar_char _) W37 1 rfl (oLe rfl)
 rw [own_c16 hc1] at V38
 clear hin37 G37 H37 N37 S37 q37 Ar37 cl37 V34
 have N39 := Fr.snoc X37 Nh36 g28
 obtain ⟨Lh40, Xh40, Nh40⟩ := oHd 2 8 X37 N39 rfl rfl
 refine ownBy st37 ?_
 clear st37
 show oA p e below _ T37 (fr_mk4 m c0 c1 c2 c3 102  [(.ref b26), (.ref b21), (.ref b21)])
 refine oTo T37 (fr_mk4 m c0 c1 c2 c3 105  [(.int c2), (iV 2), (.ref b26), (.ref b26), (.ref b21), (.ref b21)]) (fun t kt => ?_) ?_
 ·refine XS.dup Xh40.here hx rfl (D d2_102) rfl rfl ?_
  refine XS.iconst Xh40.here hx rfl (D d2_103) ?_
  refine XS.iloadN Xh40.here hx rfl (D d2_104) rfl ?_
  exact kt
 obtain ⟨cl41, Ar41, q41, S41, N41, H41, G41⟩ := id V38
 have hin41 : ¬ ((2 : Int32) < 0 ∨ cl41.slots.size ≤ ((2 : Int32)).toNatClampNeg) := inb_of S41 ⟨by decide, by decide⟩
 obtain ⟨T41, h41, X41, e41, W41, st41⟩ := stC Xh40 hx hZ e37 Ar41 (j := (2 : Int32)) hin41 (g := (fr_mk4 m c0 c1 c2 c3 105  [(.int c2), (iV 2), (.ref b26), (.ref b26), (.ref b21), (.ref b21)])) rfl rfl (D d2_105)
 have V42 : Arv Z h41 b26 k26 .char (4 : Int32) [(.int c0), (.int c1), (.int (nar .char c2)), (iV 0)] (iV 0) := Arv.set Ar41 q41 S41 N41 H41 G41 (fits_nar_char _) W41 2 rfl (oLe rfl)
 rw [own_c16 hc2] at V42
 clear hin41 G41 H41 N41 S41 q41 Ar41 cl41 V38
 have N43 := Fr.snoc X41 Nh40 g28
 obtain ⟨Lh44, Xh44, Nh44⟩ := oHd 2 8 X41 N43 rfl rfl
 refine ownBy st41 ?_
 clear st41
 show oA p e below _ T41 (fr_mk4 m c0 c1 c2 c3 106  [(.ref b26), (.ref b21), (.ref b21)])
 refine oTo T41 (fr_mk4 m c0 c1 c2 c3 110  [(.int c3), (iV 3), (.ref b26), (.ref b26), (.ref b21), (.ref b21)]) (fun t kt => ?_) ?_
 ·refine XS.dup Xh44.here hx rfl (D d2_106) rfl rfl ?_
  refine XS.iconst Xh44.here hx rfl (D d2_107) ?_
  refine XS.iload Xh44.here hx rfl (D d2_108) rfl ?_
  exact kt
 obtain ⟨cl45, Ar45, q45, S45, N45, H45, G45⟩ := id V42
 have hin45 : ¬ ((3 : Int32) < 0 ∨ cl45.slots.size ≤ ((3 : Int32)).toNatClampNeg) := inb_of S45 ⟨by decide, by decide⟩
 obtain ⟨T45, h45, X45, e45, W45, st45⟩ := stC Xh44 hx hZ e41 Ar45 (j := (3 : Int32)) hin45 (g := (fr_mk4 m c0 c1 c2 c3 110  [(.int c3), (iV 3), (.ref b26), (.ref b26), (.ref b21), (.ref b21)])) rfl rfl (D d2_110)
 have V46 : Arv Z h45 b26 k26 .char (4 : Int32) [(.int c0), (.int c1), (.int c2), (.int (nar .char c3))] (iV 0) := Arv.set Ar45 q45 S45 N45 H45 G45 (fits_nar_char _) W45 3 rfl (oLe rfl)
 rw [own_c16 hc3] at V46
 clear hin45 G45 H45 N45 S45 q45 Ar45 cl45 V42
 have N47 := Fr.snoc X45 Nh44 g28
 obtain ⟨Lh48, Xh48, Nh48⟩ := oHd 2 8 X45 N47 rfl rfl
 refine ownBy st45 ?_
 clear st45
 show oA p e below _ T45 (fr_mk4 m c0 c1 c2 c3 111  [(.ref b26), (.ref b21), (.ref b21)])
 have f49 := (((((A21.ext E26).wr W33).wr W37).wr W41).wr W45)
 have f50 := (((((F24.ext E26).other W33 (Or.inl ne27)).other W37 (Or.inl ne27)).other W41 (Or.inl ne27)).other W45 (Or.inl ne27))
 have f51 := (((((F25.ext E26).other W33 (Or.inl ne27)).other W37 (Or.inl ne27)).other W41 (Or.inl ne27)).other W45 (Or.inl ne27))
 have f52 := ((((((X00.ext E21).ext E26).wr W33 g28).wr W37 g28).wr W41 g28).wr W45 g28)
 have f53 := (Nat.le_trans (Nat.le_trans (Nat.le_trans (Nat.le_trans (Nat.le_trans f29 E26.1) (Keep.of_wr W33).1) (Keep.of_wr W37).1) (Keep.of_wr W41).1) (Keep.of_wr W45).1)
 obtain ⟨vv54, _, ⟨T54, L54, k54, n54⟩, -, X54, ⟨Lc54, hQ54, l54, y54, z54⟩, st54⟩ := Xh48.specialBack hx (y := yM1) rfl hown (mvT hZ (Wd11 hw)) (mvT hZ (Wd12 hw)) (mvT hZ (Wd13 hw)) (by decide) (backOf (W := 1) (c_inC_4 l Z a0 hw [] b21 b26 k26 c0 c1 c2 c3 _ G1 h45 n0 f53 f49 f50 f51 g22 ne27 V46 hc0 hc1 hc2 hc3 O2 P5 SA SHI SLO f52) hZ (Wd13 hw) (Wd9 hw) (by decide) (by decide)) (g := (fr_mk4 m c0 c1 c2 c3 111  [(.ref b26), (.ref b21), (.ref b21)])) rfl (by rw [hml]; rfl) (Steps.refl _) (a := b21) (argsL := [(.ref b26)]) (rest := [(.ref b21)]) (lenOf pd_25 rfl) rfl (by show 2 * 0 + _ ≤ _; exact Nat.le_of_eq rfl) (D d2_111) (fun _ _ => ⟨rfl, e45, (by decide : 2 + 2 ≤ _), (by decide : 8 + 12 ≤ _)⟩)
 dsimp only [Pt.U, Pt.locs, Pt.cells, Pt.slots] at X54 l54 y54 z54 st54 hQ54
 subst l54 y54 z54
 obtain ⟨rfl, Nq54, Kq54, Eq54, t54, kb54, cd54, z54, vs54, zq54, Vq54, Cq54, Aq54, hrel54⟩ := hQ54
 have ne55 : b21 ≠ t54 := Nat.ne_of_lt (Nat.lt_of_lt_of_le f49.lt zq54)
 have ne56 : b26 ≠ t54 := Nat.ne_of_lt (Nat.lt_of_lt_of_le V46.lt zq54)
 have g57 : n0 ≤ t54 := Nat.le_trans f53 zq54
 have f59 := (Nat.le_trans (Nat.le_trans (Nat.le_trans (Nat.le_trans (Nat.le_trans f31 E26.1) (Keep.of_wr W33).1) (Keep.of_wr W37).1) (Keep.of_wr W41).1) (Keep.of_wr W45).1)
 have z58 : h0.size ≤ t54 := Nat.le_trans f59 zq54
 have N60 := Fr.app Nh48 Nq54
 obtain ⟨Lh61, Xh61, Nh61⟩ := oHd 4 20 X54 N60 rfl rfl
 refine ownSt st54 ?_
 clear st54
 show oA p e below _ T54 (fr_mk4 m c0 c1 c2 c3 114  [(.ref b21)])
 have f62 := ((((((((Keep.refl h0 []).ext E21).ext E26).wr W33 (Or.inr z30)).wr W37 (Or.inr z30)).wr W41 (Or.inr z30)).wr W45 (Or.inr z30)).trans Kq54 (allS (Or.inr z23) all0))
 have f63 := (f49.keep Kq54)
 refine ownRet Xh61 Bd.notSynchronized (v := some (.ref b21)) (fun h => by rw [Bd.returns] at h; cases h) ?_ (oLe rfl) (oLe rfl) (fun fs hr => retOut Xh61 hx Bd.returns rfl (Or.inr (Or.inr (Or.inr (Or.inr ⟨rfl, rfl, rfl⟩)))) (D d2_114) hr)
 show (Q_mk4 Z c0 c1 c2 c3 G1 h0 n0) (some (.ref b21)) T54.heap _
 exact ⟨b21, t54, kb54, _, _, _, rfl, Nh61, f62, z23, f63, Vq54, Cq54, Aq54, hrel54⟩
abbrev fr_law (m : MethodId) (p1 : Int32) (p2 : Int32) (p3 : Int32) (p4 : Int32) (p5 : Int32) (pc : Nat) (x5_ x6_ x7_ x8_ x9_ x10_ x11_ x12_ : Slot) (st : List Value) : JFrame := mkF m pc #[vI p1, vI p2, vI p3, vI p4, vI p5, x5_, x6_, x7_, x8_, x9_, x10_, x11_, x12_] st
def Q_law (Z : State) (p1 : Int32) (p2 : Int32) (p3 : Int32) (p4 : Int32) (p5 : Int32) (PA : Addr) (AA : Addr) (MA : Addr) (HS : Addr) (H2 : Addr) (PG : Addr) (SQ : Addr) (EM : Addr) (EL : Addr) (kM : ClassId) (kE : ClassId) (ms : List Value) (G1 : Int32) (G3 : Value) (h0 : Heap) (n0 : Nat) (v : Option Value) (h : Heap) (L : List Loc) : Prop := v = some (.int 1) ∧ Fr n0 L
theorem ef_law (m : MethodId) (x0 : Int32) (x1 : Int32) (x2 : Int32) (x3 : Int32) (x4 : Int32)  : entryFrame m #[(.int x0), (.int x1), (.int x2), (.int x3), (.int x4)] maxLocals = mkF m 0 #[vI x0, vI x1, vI x2, vI x3, vI x4, .unset, .unset, .unset, .unset, .unset, .unset, .unset, .unset] [] := by first | (simp [entryFrame, mkF, argsToLocals, Value.category, maxLocals]; done) | rfl
set_option maxRecDepth 65536 in
set_option maxHeartbeats 40000000 in
theorem c_law (l : Launch) (Z : State) (a0 : Array Value) (hw : HW a0 Z) (ws : List Jvm.Cond) (p1 : Int32) (p2 : Int32) (p3 : Int32) (p4 : Int32) (p5 : Int32) (PA : Addr) (AA : Addr) (MA : Addr) (HS : Addr) (H2 : Addr) (PG : Addr) (SQ : Addr) (EM : Addr) (EL : Addr) (kM : ClassId) (kE : ClassId) (ms : List Value) (G1 : Int32) (G3 : Value) (h0 : Heap) (n0 : Nat) (Z0 : n0 ≤ h0.size) (hWd : World Z PA AA MA HS H2 PG SQ EM EL kM kE ms) (O2 : Sta Z Z.heap "java/lang/String" "COMPACT_STRINGS" "Z" (.int G1)) (P5 : ¬ (G1 = (0 : Int32))) (SA : Sta Z Z.heap "java/lang/StringUTF16" "$assertionsDisabled" "Z" (iV 1)) (SHI : Sta Z Z.heap "java/lang/StringUTF16" "HI_BYTE_SHIFT" "I" (iV 0)) (SLO : Sta Z Z.heap "java/lang/StringUTF16" "LO_BYTE_SHIFT" "I" (iV 8)) (O4 : Sta Z Z.heap "jdk/internal/util/Preconditions" "SIOOBE_FORMATTER" "Ljava/util/function/BiFunction;" G3) (rG3 : G3.isRef = true) (X00 : Old Z n0 h0) :
  MetFree l x (head1 (Jvm.Cond.code x code maxLocals ret :: ws) room_1) (fun a U => a = #[(.int p1), (.int p2), (.int p3), (.int p4), (.int p5)] ∧ Z.Warmed39 U.vm ∧ U.heap = h0 ∧ CHv Z ownEL U.vm h0) (fun _ _ _ _ _ => True) (fun _ U o U' => ∃ v L, o = .returned v ∧ (Q_law Z p1 p2 p3 p4 p5 PA AA MA HS H2 PG SQ EM EL kM kE ms G1 G3 h0 n0) v U'.heap L ∧ CHr Z ownEL U.vm U.heap U'.vm U'.heap ∧ ReturnedEndW U o U' L 24 1152) := by
 refine MetFree.of_bodySF (plainFor_of_name pn_24) hisR ?_
 intro p e s m args below meth c s₁ Bd hml0 hP hK
 obtain ⟨rfl, hZ, hHp, hCH⟩ := hP
 have hx := Bd.exec
 have D := fun {pc : Nat} {r} (h : decode _ pc = r) => hb Bd.bytes h
 have hml : c.maxLocals = 13 := hml0
 have hown : s.vm.findClass "com/example/savepoint/savepoint/SqlDialectReadingsOfPinLaw" = some m.cls := findClass_of_methodNamed Bd.named
 have hnm := (name_of_methodNamed Bd.named Bd.method).1
 have X0 : Stand p l e room_1 (s.setVm s.vm) m #[(.int p1), (.int p2), (.int p3), (.int p4), (.int p5)] below meth c s₁ [] 0 0 := Stand.of_body Bd
 have e0 : s₁.heap = h0 := by rw [← hHp, Bd.state]; rfl
 have N0 := Fr.nil n0
 refine ownOutH hHp (P := (Q_law Z p1 p2 p3 p4 p5 PA AA MA HS H2 PG SQ EM EL kM kE ms G1 G3 h0 n0)) ?_
 refine ownBy (A := s₁.setTop (mkF m 0 #[vI p1, vI p2, vI p3, vI p4, vI p5, .unset, .unset, .unset, .unset, .unset, .unset, .unset, .unset] [])) (fun t k => castTop (ef_law m p1 p2 p3 p4 p5) k) ?_
 have hS0 : s.Since s.vm h0.size := own_since
 have hEL := own_EW hw
 have R0 := CHr.refl hCH
 have wS := own_wS hw
 have hWe := hWd
 obtain ⟨SPL, SAL, SMK, SHS, SH2, SPG, SSQ, SEM, EPA, EAA, FE1, FE0, FEL, KEL, KMA, hMA, hPA⟩ := hWe
 refine oTo s₁ (fr_law m p1 p2 p3 p4 p5 8 (.val (.int ((p1 &&& (7 : Int32)) % (5 : Int32)))) .unset .unset .unset .unset .unset .unset .unset []) (fun t kt => ?_) ?_
 ·refine XS.iloadN X0.here hx rfl (D at_0) rfl ?_
  refine XS.bipush X0.here hx rfl (D at_1) ?_
  refine XS.iand X0.here hx rfl (D at_3) rfl ?_
  refine XS.iconst X0.here hx rfl (D at_4) ?_
  refine iremM X0 hx rfl (D at_5) rfl (by decide) ?_
  refine XS.istore X0.here hx rfl (D at_6) rfl (l' := #[vI p1, vI p2, vI p3, vI p4, vI p5, .val (.int ((p1 &&& (7 : Int32)) % (5 : Int32))), .unset, .unset, .unset, .unset, .unset, .unset, .unset]) rfl ?_
  exact kt
 show oA p e below _ s₁ (fr_law m p1 p2 p3 p4 p5 8 (.val (.int ((p1 &&& (7 : Int32)) % (5 : Int32)))) .unset .unset .unset .unset .unset .unset .unset [])
 generalize hd_nn : ((p1 &&& (7 : Int32)) % (5 : Int32)) = nn
 have hnn := own_five p1
 rw [hd_nn] at hnn
 clear hd_nn
 refine oTo s₁ (fr_law m p1 p2 p3 p4 p5 9 (vI nn) .unset .unset .unset .unset .unset .unset .unset [(.int p2)]) (fun t kt => ?_) ?_
 ·refine XS.iloadN X0.here hx rfl (D at_8) rfl ?_
  exact kt
 obtain ⟨vv21, _, ⟨T21, L21, k21, n21⟩, -, X21, ⟨Lc21, hQ21, l21, y21, z21⟩, st21⟩ := Jvm.LawKit.callS X0 hx (y := yM25) hown (mvT hZ (Wd0 hw)) (mvT hZ (Wd1 hw)) (mvT hZ (Wd2 hw)) (mvT hZ (Wd3 hw)) (by decide) (backOf (W := 0) (c_pick l Z a0 hw [] p2 h0 n0 Z0 ) hZ (Wd3 hw) (Wd2 hw) (by decide) (by decide)) (g := (fr_law m p1 p2 p3 p4 p5 9 (vI nn) .unset .unset .unset .unset .unset .unset .unset [(.int p2)])) rfl (by rw [hml]; rfl) (argsL := [(.int p2)]) (rest := []) (lenOf pd_21 rfl) rfl (by show 2 * 0 + _ ≤ _; exact Nat.le_of_eq rfl) (D at_9) (fun _ _ => ⟨rfl, e0, (by decide : 0 + 0 ≤ _), (by decide : 0 + 0 ≤ _)⟩)
 dsimp only [Pt.U, Pt.locs, Pt.cells, Pt.slots] at X21 l21 y21 z21 st21 hQ21
 subst l21 y21 z21
 obtain ⟨r21, rfl, Nq21, Eq21, hR21⟩ := hQ21
 have N22 := Fr.app N0 Nq21
 obtain ⟨Lh23, Xh23, Nh23⟩ := oHd 0 0 X21 N22 rfl rfl
 refine ownBy st21 ?_
 clear st21
 show oA p e below _ T21 (fr_law m p1 p2 p3 p4 p5 12 (vI nn) .unset .unset .unset .unset .unset .unset .unset [(.int r21)])
 refine oTo T21 (fr_law m p1 p2 p3 p4 p5 15 (vI nn) (vI r21) .unset .unset .unset .unset .unset .unset [(.int p3)]) (fun t kt => ?_) ?_
 ·refine XS.istore Xh23.here hx rfl (D at_12) rfl (l' := #[vI p1, vI p2, vI p3, vI p4, vI p5, vI nn, vI r21, .unset, .unset, .unset, .unset, .unset, .unset]) rfl ?_
  refine XS.iloadN Xh23.here hx rfl (D at_14) rfl ?_
  exact kt
 obtain ⟨vv24, _, ⟨T24, L24, k24, n24⟩, -, X24, ⟨Lc24, hQ24, l24, y24, z24⟩, st24⟩ := Jvm.LawKit.callS Xh23 hx (y := yM25) hown (mvT hZ (Wd0 hw)) (mvT hZ (Wd1 hw)) (mvT hZ (Wd2 hw)) (mvT hZ (Wd3 hw)) (by decide) (backOf (W := 0) (c_pick l Z a0 hw [] p3 h0 n0 Z0 ) hZ (Wd3 hw) (Wd2 hw) (by decide) (by decide)) (g := (fr_law m p1 p2 p3 p4 p5 15 (vI nn) (vI r21) .unset .unset .unset .unset .unset .unset [(.int p3)])) rfl (by rw [hml]; rfl) (argsL := [(.int p3)]) (rest := []) (lenOf pd_21 rfl) rfl (by show 2 * 0 + _ ≤ _; exact Nat.le_of_eq rfl) (D at_15) (fun _ _ => ⟨rfl, Eq21, (by decide : 0 + 0 ≤ _), (by decide : 0 + 0 ≤ _)⟩)
 dsimp only [Pt.U, Pt.locs, Pt.cells, Pt.slots] at X24 l24 y24 z24 st24 hQ24
 subst l24 y24 z24
 obtain ⟨r24, rfl, Nq24, Eq24, hR24⟩ := hQ24
 have N25 := Fr.app Nh23 Nq24
 obtain ⟨Lh26, Xh26, Nh26⟩ := oHd 0 0 X24 N25 rfl rfl
 refine ownBy st24 ?_
 clear st24
 show oA p e below _ T24 (fr_law m p1 p2 p3 p4 p5 18 (vI nn) (vI r21) .unset .unset .unset .unset .unset .unset [(.int r24)])
 refine oTo T24 (fr_law m p1 p2 p3 p4 p5 21 (vI nn) (vI r21) (vI r24) .unset .unset .unset .unset .unset [(.int p4)]) (fun t kt => ?_) ?_
 ·refine XS.istore Xh26.here hx rfl (D at_18) rfl (l' := #[vI p1, vI p2, vI p3, vI p4, vI p5, vI nn, vI r21, vI r24, .unset, .unset, .unset, .unset, .unset]) rfl ?_
  refine XS.iloadN Xh26.here hx rfl (D at_20) rfl ?_
  exact kt
 obtain ⟨vv27, _, ⟨T27, L27, k27, n27⟩, -, X27, ⟨Lc27, hQ27, l27, y27, z27⟩, st27⟩ := Jvm.LawKit.callS Xh26 hx (y := yM25) hown (mvT hZ (Wd0 hw)) (mvT hZ (Wd1 hw)) (mvT hZ (Wd2 hw)) (mvT hZ (Wd3 hw)) (by decide) (backOf (W := 0) (c_pick l Z a0 hw [] p4 h0 n0 Z0 ) hZ (Wd3 hw) (Wd2 hw) (by decide) (by decide)) (g := (fr_law m p1 p2 p3 p4 p5 21 (vI nn) (vI r21) (vI r24) .unset .unset .unset .unset .unset [(.int p4)])) rfl (by rw [hml]; rfl) (argsL := [(.int p4)]) (rest := []) (lenOf pd_21 rfl) rfl (by show 2 * 0 + _ ≤ _; exact Nat.le_of_eq rfl) (D at_21) (fun _ _ => ⟨rfl, Eq24, (by decide : 0 + 0 ≤ _), (by decide : 0 + 0 ≤ _)⟩)
 dsimp only [Pt.U, Pt.locs, Pt.cells, Pt.slots] at X27 l27 y27 z27 st27 hQ27
 subst l27 y27 z27
 obtain ⟨r27, rfl, Nq27, Eq27, hR27⟩ := hQ27
 have N28 := Fr.app Nh26 Nq27
 obtain ⟨Lh29, Xh29, Nh29⟩ := oHd 0 0 X27 N28 rfl rfl
 refine ownBy st27 ?_
 clear st27
 show oA p e below _ T27 (fr_law m p1 p2 p3 p4 p5 24 (vI nn) (vI r21) (vI r24) .unset .unset .unset .unset .unset [(.int r27)])
 refine oTo T27 (fr_law m p1 p2 p3 p4 p5 28 (vI nn) (vI r21) (vI r24) (vI r27) .unset .unset .unset .unset [(.int p5)]) (fun t kt => ?_) ?_
 ·refine XS.istore Xh29.here hx rfl (D at_24) rfl (l' := #[vI p1, vI p2, vI p3, vI p4, vI p5, vI nn, vI r21, vI r24, vI r27, .unset, .unset, .unset, .unset]) rfl ?_
  refine XS.iload Xh29.here hx rfl (D at_26) rfl ?_
  exact kt
 obtain ⟨vv30, _, ⟨T30, L30, k30, n30⟩, -, X30, ⟨Lc30, hQ30, l30, y30, z30⟩, st30⟩ := Jvm.LawKit.callS Xh29 hx (y := yM25) hown (mvT hZ (Wd0 hw)) (mvT hZ (Wd1 hw)) (mvT hZ (Wd2 hw)) (mvT hZ (Wd3 hw)) (by decide) (backOf (W := 0) (c_pick l Z a0 hw [] p5 h0 n0 Z0 ) hZ (Wd3 hw) (Wd2 hw) (by decide) (by decide)) (g := (fr_law m p1 p2 p3 p4 p5 28 (vI nn) (vI r21) (vI r24) (vI r27) .unset .unset .unset .unset [(.int p5)])) rfl (by rw [hml]; rfl) (argsL := [(.int p5)]) (rest := []) (lenOf pd_21 rfl) rfl (by show 2 * 0 + _ ≤ _; exact Nat.le_of_eq rfl) (D at_28) (fun _ _ => ⟨rfl, Eq27, (by decide : 0 + 0 ≤ _), (by decide : 0 + 0 ≤ _)⟩)
 dsimp only [Pt.U, Pt.locs, Pt.cells, Pt.slots] at X30 l30 y30 z30 st30 hQ30
 subst l30 y30 z30
 obtain ⟨r30, rfl, Nq30, Eq30, hR30⟩ := hQ30
 have N31 := Fr.app Nh29 Nq30
 obtain ⟨Lh32, Xh32, Nh32⟩ := oHd 0 0 X30 N31 rfl rfl
 refine ownBy st30 ?_
 clear st30
 show oA p e below _ T30 (fr_law m p1 p2 p3 p4 p5 31 (vI nn) (vI r21) (vI r24) (vI r27) .unset .unset .unset .unset [(.int r30)])
 refine oTo T30 (fr_law m p1 p2 p3 p4 p5 33 (vI nn) (vI r21) (vI r24) (vI r27) (vI r30) .unset .unset .unset []) (fun t kt => ?_) ?_
 ·refine XS.istore Xh32.here hx rfl (D at_31) rfl (l' := #[vI p1, vI p2, vI p3, vI p4, vI p5, vI nn, vI r21, vI r24, vI r27, vI r30, .unset, .unset, .unset]) rfl ?_
  exact kt
 rcases hnn with rfl | rfl | rfl | rfl | rfl
 ·skip
  show oA p e below _ T30 (fr_law m p1 p2 p3 p4 p5 33 (vI 0) (vI r21) (vI r24) (vI r27) (vI r30) .unset .unset .unset [])
  refine oTo T30 (fr_law m p1 p2 p3 p4 p5 43 (vI 0) (vI r21) (vI r24) (vI r27) (vI r30) .unset .unset .unset [(.int r30), (.int r27), (.int r24), (.int r21), (iV 0)]) (fun t kt => ?_) ?_
  ·refine XS.iload Xh32.here hx rfl (D at_33) rfl ?_
   refine XS.iload Xh32.here hx rfl (D at_35) rfl ?_
   refine XS.iload Xh32.here hx rfl (D at_37) rfl ?_
   refine XS.iload Xh32.here hx rfl (D at_39) rfl ?_
   refine XS.iload Xh32.here hx rfl (D at_41) rfl ?_
   exact kt
  obtain ⟨vv33, _, ⟨T33, L33, k33, n33⟩, -, X33, hS33, hg33, ⟨Lc33, hQ33, l33, y33, z33, hC33⟩, st33⟩ := callSS Xh32 hx (y := yM27) hown (mvT hZ (Wd4 hw)) (mvT hZ (Wd5 hw)) (mvT hZ (Wd2 hw)) (mvT hZ (Wd6 hw)) (by decide) (backOfSH (W := 0) (s := s) (EL := ownEL) (c_mk0 l Z a0 hw [] r21 r24 r27 r30 h0 n0 Z0 hR21 hR24 hR27 hR30) hZ (Wd6 hw) (Wd2 hw) (by decide) (by decide) hEL R0.1) (g := (fr_law m p1 p2 p3 p4 p5 43 (vI 0) (vI r21) (vI r24) (vI r27) (vI r30) .unset .unset .unset [(.int r30), (.int r27), (.int r24), (.int r21), (iV 0)])) rfl (by rw [hml]; rfl) (argsL := [(iV 0), (.int r21), (.int r24), (.int r27), (.int r30)]) (rest := []) (lenOf pd_26 rfl) rfl (by show 2 * 0 + _ ≤ _; exact Nat.le_of_eq rfl) (D at_43) (fun _ _ => ⟨rfl, Eq30, (by decide : 0 + 6 ≤ _), (by decide : 0 + 12 ≤ _)⟩)
  dsimp only [Pt.U, Pt.locs, Pt.cells, Pt.slots] at X33 l33 y33 z33 st33 hQ33 hS33 hg33 hC33
  subst l33 y33 z33
  obtain ⟨x33, t33, kb33, rfl, Nq33, Kq33, zq33, Eq33, Vq33, Cq33, Aq33⟩ := hQ33
  have g34 : n0 ≤ x33 := Nat.le_trans Z0 zq33
  have z35 : h0.size ≤ x33 := Nat.le_trans (Nat.le_refl h0.size) zq33
  have N36 := Fr.app Nh32 Nq33
  have R38 := R0.trans hC33
  obtain ⟨XR39, hSR39, hZ39, hown39⟩ := rebS hS0 (by rw [Eq30]; exact (Nat.le_refl _)) X33 hS33 hg33 hZ hown
  obtain ⟨Lh40, Xh40, Nh40⟩ := oHd 6 12 XR39 N36 rfl rfl
  refine ownSt st33 ?_
  clear st33
  show oA p e below _ T33 (fr_law m p1 p2 p3 p4 p5 46 (vI 0) (vI r21) (vI r24) (vI r27) (vI r30) .unset .unset .unset [(.ref x33)])
  refine oTo T33 (fr_law m p1 p2 p3 p4 p5 48 (vI 0) (vI r21) (vI r24) (vI r27) (vI r30) (vR x33) .unset .unset []) (fun t kt => ?_) ?_
  ·refine XS.astore Xh40.here hx rfl (D at_46) rfl rfl (l' := #[vI p1, vI p2, vI p3, vI p4, vI p5, vI 0, vI r21, vI r24, vI r27, vI r30, vR x33, .unset, .unset]) rfl ?_
   exact kt
  have f41 := (X00.keep Kq33 all0)
  have f42 := (Nat.le_trans Z0 Kq33.1)
  refine own_cut (C := fun P => ∀ (T : State) (Lx : List Loc), Stand p l e room_1 (s.setVm T33.vm) m #[(.int p1), (.int p2), (.int p3), (.int p4), (.int p5)] below meth c T Lx 6 12 → Fr n0 Lx → T.heap = T33.heap → ownG p.tables e below P (T.setTop (fr_law m p1 p2 p3 p4 p5 108 (vI 0) (vI r21) (vI r24) (vI r27) (vI r30) (vR x33) .unset .unset [(.int (own_b (False)))]))) ?_ (fun rest => ?_)
  ·intro T43 L43 X43 N43 e43
   refine oTo T43 (fr_law m p1 p2 p3 p4 p5 112 (vI 0) (vI r21) (vI r24) (vI r27) (vI r30) (vR x33) (.val (.int (own_b (False)))) .unset [(.ref x33)]) (fun t kt => ?_) ?_
   ·refine XS.istore X43.here hx rfl (D at_108) rfl (l' := #[vI p1, vI p2, vI p3, vI p4, vI p5, vI 0, vI r21, vI r24, vI r27, vI r30, vR x33, .val (.int (own_b (False))), .unset]) rfl ?_
    refine XS.aload X43.here hx rfl (D at_110) rfl rfl ?_
    exact kt
   obtain ⟨vv44, _, ⟨T44, L44, k44, n44⟩, -, X44, ⟨Lc44, hQ44, l44, y44, z44⟩, st44⟩ := Jvm.LawKit.callS X43 hx (y := yM20) hown39 (mvT hZ39 (Wd29 hw)) (mvT hZ39 (Wd30 hw)) (mvT hZ39 (Wd31 hw)) (mvT hZ39 (Wd32 hw)) (by decide) (backOf (W := 0) (c_rd0 l Z a0 hw [] x33 t33 kb33 (0 : Int32) (0 : Int32) [] PA AA MA HS H2 PG SQ EM EL kM kE ms G1 G3 T33.heap n0 f42 Eq33 Vq33 Cq33 Aq33 ⟨rfl, rfl, rfl⟩ hWd O2 P5 SA SHI SLO O4 rG3 f41) hZ39 (Wd32 hw) (Wd31 hw) (by decide) (by decide)) (g := (fr_law m p1 p2 p3 p4 p5 112 (vI 0) (vI r21) (vI r24) (vI r27) (vI r30) (vR x33) (.val (.int (own_b (False)))) .unset [(.ref x33)])) rfl (by rw [hml]; rfl) (argsL := [(.ref x33)]) (rest := []) (lenOf pd_27 rfl) rfl (by show 2 * 0 + _ ≤ _; exact Nat.le_of_eq rfl) (D at_112) (fun _ _ => ⟨rfl, e43, (by decide : 6 + 0 ≤ _), (by decide : 12 + 0 ≤ _)⟩)
   dsimp only [Pt.U, Pt.locs, Pt.cells, Pt.slots] at X44 l44 y44 z44 st44 hQ44
   subst l44 y44 z44
   obtain ⟨Nq44, Eq44, hB44⟩ := hQ44
   rcases hB44 with ⟨hMr, rfl⟩ | ⟨hMr, rfl⟩
   ·skip
    have N45 := Fr.app N43 Nq44
    obtain ⟨Lh46, Xh46, Nh46⟩ := oHd 6 12 X44 N45 rfl rfl
    refine ownBy st44 ?_
    clear st44
    show oA p e below _ T44 (fr_law m p1 p2 p3 p4 p5 115 (vI 0) (vI r21) (vI r24) (vI r27) (vI r30) (vR x33) (.val (.int (own_b (False)))) .unset [(.ref AA)])
    refine oTo T44 (fr_law m p1 p2 p3 p4 p5 131 (vI 0) (vI r21) (vI r24) (vI r27) (vI r30) (vR x33) (.val (.int (own_b (False)))) (vR AA) [(.ref AA)]) (fun t kt => ?_) ?_
    ·refine XS.astore Xh46.here hx rfl (D at_115) rfl rfl (l' := #[vI p1, vI p2, vI p3, vI p4, vI p5, vI 0, vI r21, vI r24, vI r27, vI r30, vR x33, .val (.int (own_b (False))), vR AA]) rfl ?_
     refine XS.aload Xh46.here hx rfl (D at_117) rfl rfl ?_
     refine XS.ifnonnullYes Xh46.here hx rfl (pc0 := 119) (pc' := 124) rfl (D at_119) rfl (by decide) (by decide) ?_
     refine XS.iload Xh46.here hx rfl (D at_124) rfl ?_
     refine XS.ifNo Xh46.here hx rfl (D at_126) rfl ((if0 _ _).trans (feq (own_bt0 hMr)).1) ?_
     refine XS.aload Xh46.here hx rfl (D at_129) rfl rfl ?_
     exact kt
    have f48 := EAA.ext f41.2
    obtain ⟨cq47, kq47, q47a, q47b, q47c⟩ := isOf hZ39 Eq44 f48
    obtain ⟨vv47, _, ⟨T47, L47, k47, n47⟩, -, X47, ⟨Lc47, hQ47, l47, y47, z47⟩, st47⟩ := Xh46.interfaceBack hx (xi := yM28) (y := yM23) hown39 (mvT hZ39 (Wd46 hw)) (mvT hZ39 (Wd47 hw)) (mvT hZ39 (Wd48 hw)) (mvT hZ39 (Wd111 hw)) (mvT hZ39 (Wd112 hw)) (mvT hZ39 (Wd113 hw)) (mvT hZ39 (Wd114 hw)) (mvT hZ39 (Wd115 hw)) (by decide) (backOf (W := 0) (c_lns l Z a0 hw [] PA AA MA HS H2 PG SQ EM EL kM kE ms T33.heap n0 f42 hWd f41) hZ39 (Wd117 hw) (Wd116 hw) (by decide) (by decide)) q47a q47b q47c (g := (fr_law m p1 p2 p3 p4 p5 131 (vI 0) (vI r21) (vI r24) (vI r27) (vI r30) (vR x33) (.val (.int (own_b (False)))) (vR AA) [(.ref AA)])) rfl (by rw [hml]; rfl) (Steps.refl _) (argsL := []) (rest := []) (lenOf pd_20 rfl) rfl (by show 2 * 0 + _ ≤ _; exact Nat.le_of_eq rfl) (D at_131) (fun _ _ => ⟨rfl, Eq44, (by decide : 6 + 0 ≤ _), (by decide : 12 + 0 ≤ _)⟩)
    dsimp only [Pt.U, Pt.locs, Pt.cells, Pt.slots] at X47 l47 y47 z47 st47 hQ47
    subst l47 y47 z47
    obtain ⟨rfl, Nq47, Eq47⟩ := hQ47
    have N49 := Fr.app Nh46 Nq47
    obtain ⟨Lh50, Xh50, Nh50⟩ := oHd 6 12 X47 N49 rfl rfl
    refine ownSt st47 ?_
    clear st47
    show oA p e below _ T47 (fr_law m p1 p2 p3 p4 p5 136 (vI 0) (vI r21) (vI r24) (vI r27) (vI r30) (vR x33) (.val (.int (own_b (False)))) (vR AA) [(iV 4)])
    refine oTo T47 (fr_law m p1 p2 p3 p4 p5 143 (vI 0) (vI r21) (vI r24) (vI r27) (vI r30) (vR x33) (.val (.int (own_b (False)))) (vR AA) [(iV 0), (.ref AA)]) (fun t kt => ?_) ?_
    ·refine XS.iconst Xh50.here hx rfl (D at_136) ?_
     refine XS.icmpNo Xh50.here hx rfl (D at_137) rfl (teq ((by decide) : (4 : Int32) = (4 : Int32))).2 ?_
     refine XS.aload Xh50.here hx rfl (D at_140) rfl rfl ?_
     refine XS.iconst Xh50.here hx rfl (D at_142) ?_
     exact kt
    obtain ⟨cq51, kq51, q51a, q51b, q51c⟩ := isOf hZ39 Eq47 f48
    obtain ⟨vv51, _, ⟨T51, L51, k51, n51⟩, -, X51, ⟨Lc51, hQ51, l51, y51, z51⟩, st51⟩ := Xh50.interfaceBack hx (xi := yM29) (y := yM24) hown39 (mvT hZ39 (Wd60 hw)) (mvT hZ39 (Wd61 hw)) (mvT hZ39 (Wd62 hw)) (mvT hZ39 (Wd120 hw)) (mvT hZ39 (Wd121 hw)) (mvT hZ39 (Wd122 hw)) (mvT hZ39 (Wd123 hw)) (mvT hZ39 (Wd115 hw)) (by decide) (backOf (W := 0) (c_lng0 l Z a0 hw [] PA AA MA HS H2 PG SQ EM EL kM kE ms T33.heap n0 f42 hWd f41) hZ39 (Wd124 hw) (Wd116 hw) (by decide) (by decide)) q51a q51b q51c (g := (fr_law m p1 p2 p3 p4 p5 143 (vI 0) (vI r21) (vI r24) (vI r27) (vI r30) (vR x33) (.val (.int (own_b (False)))) (vR AA) [(iV 0), (.ref AA)])) rfl (by rw [hml]; rfl) (Steps.refl _) (argsL := [(iV 0)]) (rest := []) (lenOf pd_28 rfl) rfl (by show 2 * 0 + _ ≤ _; exact Nat.le_of_eq rfl) (D at_143) (fun _ _ => ⟨rfl, Eq47, (by decide : 6 + 0 ≤ _), (by decide : 12 + 0 ≤ _)⟩)
    dsimp only [Pt.U, Pt.locs, Pt.cells, Pt.slots] at X51 l51 y51 z51 st51 hQ51
    subst l51 y51 z51
    obtain ⟨rfl, Nq51, Eq51⟩ := hQ51
    have N52 := Fr.app Nh50 Nq51
    obtain ⟨Lh53, Xh53, Nh53⟩ := oHd 6 12 X51 N52 rfl rfl
    refine ownSt st51 ?_
    clear st51
    show oA p e below _ T51 (fr_law m p1 p2 p3 p4 p5 148 (vI 0) (vI r21) (vI r24) (vI r27) (vI r30) (vR x33) (.val (.int (own_b (False)))) (vR AA) [(.ref HS)])
    refine own_getS Xh53 hx hZ39 hown39 (host := "") (Or.inl (Wd71 hw)) Via.refl Eq51 (SHS.ext f41.2) (D at_148) (fun T54 X54 e54 => ?_)
    refine oTo T54 (fr_law m p1 p2 p3 p4 p5 157 (vI 0) (vI r21) (vI r24) (vI r27) (vI r30) (vR x33) (.val (.int (own_b (False)))) (vR AA) [(iV 1), (.ref AA)]) (fun t kt => ?_) ?_
    ·refine Jvm.RoadKit.acmp (g := (fr_law m p1 p2 p3 p4 p5 151 (vI 0) (vI r21) (vI r24) (vI r27) (vI r30) (vR x33) (.val (.int (own_b (False)))) (vR AA) [(.ref HS), (.ref HS)])) X54 hx rfl rfl rfl (pc0 := 151) (pc' := 154) (same := true) rfl (D at_151) rfl (decide_eq_true rfl) (by decide) (by decide) ?_
     refine XS.aload X54.here hx rfl (D at_154) rfl rfl ?_
     refine XS.iconst X54.here hx rfl (D at_156) ?_
     exact kt
    obtain ⟨cq55, kq55, q55a, q55b, q55c⟩ := isOf hZ39 e54 f48
    obtain ⟨vv55, _, ⟨T55, L55, k55, n55⟩, -, X55, ⟨Lc55, hQ55, l55, y55, z55⟩, st55⟩ := X54.interfaceBack hx (xi := yM29) (y := yM24) hown39 (mvT hZ39 (Wd60 hw)) (mvT hZ39 (Wd61 hw)) (mvT hZ39 (Wd62 hw)) (mvT hZ39 (Wd120 hw)) (mvT hZ39 (Wd121 hw)) (mvT hZ39 (Wd122 hw)) (mvT hZ39 (Wd123 hw)) (mvT hZ39 (Wd115 hw)) (by decide) (backOf (W := 0) (c_lng1 l Z a0 hw [] PA AA MA HS H2 PG SQ EM EL kM kE ms T33.heap n0 f42 hWd f41) hZ39 (Wd124 hw) (Wd116 hw) (by decide) (by decide)) q55a q55b q55c (g := (fr_law m p1 p2 p3 p4 p5 157 (vI 0) (vI r21) (vI r24) (vI r27) (vI r30) (vR x33) (.val (.int (own_b (False)))) (vR AA) [(iV 1), (.ref AA)])) rfl (by rw [hml]; rfl) (Steps.refl _) (argsL := [(iV 1)]) (rest := []) (lenOf pd_28 rfl) rfl (by show 2 * 0 + _ ≤ _; exact Nat.le_of_eq rfl) (D at_157) (fun _ _ => ⟨rfl, e54, (by decide : 6 + 0 ≤ _), (by decide : 12 + 0 ≤ _)⟩)
    dsimp only [Pt.U, Pt.locs, Pt.cells, Pt.slots] at X55 l55 y55 z55 st55 hQ55
    subst l55 y55 z55
    obtain ⟨rfl, Nq55, Eq55⟩ := hQ55
    have N56 := Fr.app Nh53 Nq55
    obtain ⟨Lh57, Xh57, Nh57⟩ := oHd 6 12 X55 N56 rfl rfl
    refine ownSt st55 ?_
    clear st55
    show oA p e below _ T55 (fr_law m p1 p2 p3 p4 p5 162 (vI 0) (vI r21) (vI r24) (vI r27) (vI r30) (vR x33) (.val (.int (own_b (False)))) (vR AA) [(.ref H2)])
    refine own_getS Xh57 hx hZ39 hown39 (host := "") (Or.inl (Wd126 hw)) Via.refl Eq55 (SH2.ext f41.2) (D at_162) (fun T58 X58 e58 => ?_)
    refine oTo T58 (fr_law m p1 p2 p3 p4 p5 171 (vI 0) (vI r21) (vI r24) (vI r27) (vI r30) (vR x33) (.val (.int (own_b (False)))) (vR AA) [(iV 2), (.ref AA)]) (fun t kt => ?_) ?_
    ·refine Jvm.RoadKit.acmp (g := (fr_law m p1 p2 p3 p4 p5 165 (vI 0) (vI r21) (vI r24) (vI r27) (vI r30) (vR x33) (.val (.int (own_b (False)))) (vR AA) [(.ref H2), (.ref H2)])) X58 hx rfl rfl rfl (pc0 := 165) (pc' := 168) (same := true) rfl (D at_165) rfl (decide_eq_true rfl) (by decide) (by decide) ?_
     refine XS.aload X58.here hx rfl (D at_168) rfl rfl ?_
     refine XS.iconst X58.here hx rfl (D at_170) ?_
     exact kt
    obtain ⟨cq59, kq59, q59a, q59b, q59c⟩ := isOf hZ39 e58 f48
    obtain ⟨vv59, _, ⟨T59, L59, k59, n59⟩, -, X59, ⟨Lc59, hQ59, l59, y59, z59⟩, st59⟩ := X58.interfaceBack hx (xi := yM29) (y := yM24) hown39 (mvT hZ39 (Wd60 hw)) (mvT hZ39 (Wd61 hw)) (mvT hZ39 (Wd62 hw)) (mvT hZ39 (Wd120 hw)) (mvT hZ39 (Wd121 hw)) (mvT hZ39 (Wd122 hw)) (mvT hZ39 (Wd123 hw)) (mvT hZ39 (Wd115 hw)) (by decide) (backOf (W := 0) (c_lng2 l Z a0 hw [] PA AA MA HS H2 PG SQ EM EL kM kE ms T33.heap n0 f42 hWd f41) hZ39 (Wd124 hw) (Wd116 hw) (by decide) (by decide)) q59a q59b q59c (g := (fr_law m p1 p2 p3 p4 p5 171 (vI 0) (vI r21) (vI r24) (vI r27) (vI r30) (vR x33) (.val (.int (own_b (False)))) (vR AA) [(iV 2), (.ref AA)])) rfl (by rw [hml]; rfl) (Steps.refl _) (argsL := [(iV 2)]) (rest := []) (lenOf pd_28 rfl) rfl (by show 2 * 0 + _ ≤ _; exact Nat.le_of_eq rfl) (D at_171) (fun _ _ => ⟨rfl, e58, (by decide : 6 + 0 ≤ _), (by decide : 12 + 0 ≤ _)⟩)
    dsimp only [Pt.U, Pt.locs, Pt.cells, Pt.slots] at X59 l59 y59 z59 st59 hQ59
    subst l59 y59 z59
    obtain ⟨rfl, Nq59, Eq59⟩ := hQ59
    have N60 := Fr.app Nh57 Nq59
    obtain ⟨Lh61, Xh61, Nh61⟩ := oHd 6 12 X59 N60 rfl rfl
    refine ownSt st59 ?_
    clear st59
    show oA p e below _ T59 (fr_law m p1 p2 p3 p4 p5 176 (vI 0) (vI r21) (vI r24) (vI r27) (vI r30) (vR x33) (.val (.int (own_b (False)))) (vR AA) [(.ref PG)])
    refine own_getS Xh61 hx hZ39 hown39 (host := "") (Or.inl (Wd128 hw)) Via.refl Eq59 (SPG.ext f41.2) (D at_176) (fun T62 X62 e62 => ?_)
    refine oTo T62 (fr_law m p1 p2 p3 p4 p5 185 (vI 0) (vI r21) (vI r24) (vI r27) (vI r30) (vR x33) (.val (.int (own_b (False)))) (vR AA) [(iV 3), (.ref AA)]) (fun t kt => ?_) ?_
    ·refine Jvm.RoadKit.acmp (g := (fr_law m p1 p2 p3 p4 p5 179 (vI 0) (vI r21) (vI r24) (vI r27) (vI r30) (vR x33) (.val (.int (own_b (False)))) (vR AA) [(.ref PG), (.ref PG)])) X62 hx rfl rfl rfl (pc0 := 179) (pc' := 182) (same := true) rfl (D at_179) rfl (decide_eq_true rfl) (by decide) (by decide) ?_
     refine XS.aload X62.here hx rfl (D at_182) rfl rfl ?_
     refine XS.iconst X62.here hx rfl (D at_184) ?_
     exact kt
    obtain ⟨cq63, kq63, q63a, q63b, q63c⟩ := isOf hZ39 e62 f48
    obtain ⟨vv63, _, ⟨T63, L63, k63, n63⟩, -, X63, ⟨Lc63, hQ63, l63, y63, z63⟩, st63⟩ := X62.interfaceBack hx (xi := yM29) (y := yM24) hown39 (mvT hZ39 (Wd60 hw)) (mvT hZ39 (Wd61 hw)) (mvT hZ39 (Wd62 hw)) (mvT hZ39 (Wd120 hw)) (mvT hZ39 (Wd121 hw)) (mvT hZ39 (Wd122 hw)) (mvT hZ39 (Wd123 hw)) (mvT hZ39 (Wd115 hw)) (by decide) (backOf (W := 0) (c_lng3 l Z a0 hw [] PA AA MA HS H2 PG SQ EM EL kM kE ms T33.heap n0 f42 hWd f41) hZ39 (Wd124 hw) (Wd116 hw) (by decide) (by decide)) q63a q63b q63c (g := (fr_law m p1 p2 p3 p4 p5 185 (vI 0) (vI r21) (vI r24) (vI r27) (vI r30) (vR x33) (.val (.int (own_b (False)))) (vR AA) [(iV 3), (.ref AA)])) rfl (by rw [hml]; rfl) (Steps.refl _) (argsL := [(iV 3)]) (rest := []) (lenOf pd_28 rfl) rfl (by show 2 * 0 + _ ≤ _; exact Nat.le_of_eq rfl) (D at_185) (fun _ _ => ⟨rfl, e62, (by decide : 6 + 0 ≤ _), (by decide : 12 + 0 ≤ _)⟩)
    dsimp only [Pt.U, Pt.locs, Pt.cells, Pt.slots] at X63 l63 y63 z63 st63 hQ63
    subst l63 y63 z63
    obtain ⟨rfl, Nq63, Eq63⟩ := hQ63
    have N64 := Fr.app Nh61 Nq63
    obtain ⟨Lh65, Xh65, Nh65⟩ := oHd 6 12 X63 N64 rfl rfl
    refine ownSt st63 ?_
    clear st63
    show oA p e below _ T63 (fr_law m p1 p2 p3 p4 p5 190 (vI 0) (vI r21) (vI r24) (vI r27) (vI r30) (vR x33) (.val (.int (own_b (False)))) (vR AA) [(.ref SQ)])
    refine own_getS Xh65 hx hZ39 hown39 (host := "") (Or.inl (Wd130 hw)) Via.refl Eq63 (SSQ.ext f41.2) (D at_190) (fun T66 X66 e66 => ?_)
    refine oTo T66 (fr_law m p1 p2 p3 p4 p5 201 (vI 0) (vI r21) (vI r24) (vI r27) (vI r30) (vR x33) (.val (.int (own_b (False)))) (vR AA) [(iV 1)]) (fun t kt => ?_) ?_
    ·refine Jvm.RoadKit.acmp (g := (fr_law m p1 p2 p3 p4 p5 193 (vI 0) (vI r21) (vI r24) (vI r27) (vI r30) (vR x33) (.val (.int (own_b (False)))) (vR AA) [(.ref SQ), (.ref SQ)])) X66 hx rfl rfl rfl (pc0 := 193) (pc' := 196) (same := true) rfl (D at_193) rfl (decide_eq_true rfl) (by decide) (by decide) ?_
     refine XS.iconst X66.here hx rfl (D at_196) ?_
     refine XS.goto X66.here hx rfl (pc0 := 197) (pc' := 201) rfl (D at_197) (by decide) (by decide) ?_
     exact kt
    refine ownRetH X66 hSR39 (by rw [e66]; exact (Nat.le_refl _)) Bd.notSynchronized (v := some (.int (nar .boolean (1 : Int32)))) (fun h => by rw [Bd.returns] at h; cases h) ?_ (R38.trans ((by rw [e66]; exact CHv.at X66 hZ39 hEL R38.1))) (oLe rfl) (oLe rfl) (fun fs hr => retN X66 hx (t := .boolean) Bd.returns (by simp) (D at_201) hr)
    show (Q_law Z p1 p2 p3 p4 p5 PA AA MA HS H2 PG SQ EM EL kM kE ms G1 G3 h0 n0) (some (.int (nar .boolean (1 : Int32)))) T66.heap _
    rw [e66]
    exact ⟨rfl, Nh65⟩
   ·skip
    have N68 := Fr.app N43 Nq44
    obtain ⟨Lh69, Xh69, Nh69⟩ := oHd 6 12 X44 N68 rfl rfl
    refine ownBy st44 ?_
    clear st44
    show oA p e below _ T44 (fr_law m p1 p2 p3 p4 p5 115 (vI 0) (vI r21) (vI r24) (vI r27) (vI r30) (vR x33) (.val (.int (own_b (False)))) .unset [(.ref PA)])
    refine oTo T44 (fr_law m p1 p2 p3 p4 p5 204 (vI 0) (vI r21) (vI r24) (vI r27) (vI r30) (vR x33) (.val (.int (own_b (False)))) (vR PA) [(.ref PA)]) (fun t kt => ?_) ?_
    ·refine XS.astore Xh69.here hx rfl (D at_115) rfl rfl (l' := #[vI p1, vI p2, vI p3, vI p4, vI p5, vI 0, vI r21, vI r24, vI r27, vI r30, vR x33, .val (.int (own_b (False))), vR PA]) rfl ?_
     refine XS.aload Xh69.here hx rfl (D at_117) rfl rfl ?_
     refine XS.ifnonnullYes Xh69.here hx rfl (pc0 := 119) (pc' := 124) rfl (D at_119) rfl (by decide) (by decide) ?_
     refine XS.iload Xh69.here hx rfl (D at_124) rfl ?_
     refine XS.ifYes Xh69.here hx rfl (pc0 := 126) (pc' := 202) rfl (D at_126) rfl ((if0 _ _).trans (teq (own_bf0 hMr)).1) (by decide) (by decide) ?_
     refine XS.aload Xh69.here hx rfl (D at_202) rfl rfl ?_
     exact kt
    have f71 := EPA.ext f41.2
    obtain ⟨cq70, kq70, q70a, q70b, q70c⟩ := isOf hZ39 Eq44 f71
    obtain ⟨vv70, _, ⟨T70, L70, k70, n70⟩, -, X70, ⟨Lc70, hQ70, l70, y70, z70⟩, st70⟩ := Xh69.interfaceBack hx (xi := yM28) (y := yM21) hown39 (mvT hZ39 (Wd46 hw)) (mvT hZ39 (Wd47 hw)) (mvT hZ39 (Wd48 hw)) (mvT hZ39 (Wd49 hw)) (mvT hZ39 (Wd50 hw)) (mvT hZ39 (Wd51 hw)) (mvT hZ39 (Wd52 hw)) (mvT hZ39 (Wd53 hw)) (by decide) (backOf (W := 0) (c_l12s l Z a0 hw [] PA AA MA HS H2 PG SQ EM EL kM kE ms T33.heap n0 f42 hWd f41) hZ39 (Wd55 hw) (Wd54 hw) (by decide) (by decide)) q70a q70b q70c (g := (fr_law m p1 p2 p3 p4 p5 204 (vI 0) (vI r21) (vI r24) (vI r27) (vI r30) (vR x33) (.val (.int (own_b (False)))) (vR PA) [(.ref PA)])) rfl (by rw [hml]; rfl) (Steps.refl _) (argsL := []) (rest := []) (lenOf pd_20 rfl) rfl (by show 2 * 0 + _ ≤ _; exact Nat.le_of_eq rfl) (D at_204) (fun _ _ => ⟨rfl, Eq44, (by decide : 6 + 0 ≤ _), (by decide : 12 + 0 ≤ _)⟩)
    dsimp only [Pt.U, Pt.locs, Pt.cells, Pt.slots] at X70 l70 y70 z70 st70 hQ70
    subst l70 y70 z70
    obtain ⟨rfl, Nq70, Eq70⟩ := hQ70
    have N72 := Fr.app Nh69 Nq70
    obtain ⟨Lh73, Xh73, Nh73⟩ := oHd 6 12 X70 N72 rfl rfl
    refine ownSt st70 ?_
    clear st70
    show oA p e below _ T70 (fr_law m p1 p2 p3 p4 p5 209 (vI 0) (vI r21) (vI r24) (vI r27) (vI r30) (vR x33) (.val (.int (own_b (False)))) (vR PA) [(iV 1)])
    refine oTo T70 (fr_law m p1 p2 p3 p4 p5 216 (vI 0) (vI r21) (vI r24) (vI r27) (vI r30) (vR x33) (.val (.int (own_b (False)))) (vR PA) [(iV 0), (.ref PA)]) (fun t kt => ?_) ?_
    ·refine XS.iconst Xh73.here hx rfl (D at_209) ?_
     refine XS.icmpNo Xh73.here hx rfl (D at_210) rfl (teq ((by decide) : (1 : Int32) = (1 : Int32))).2 ?_
     refine XS.aload Xh73.here hx rfl (D at_213) rfl rfl ?_
     refine XS.iconst Xh73.here hx rfl (D at_215) ?_
     exact kt
    obtain ⟨cq74, kq74, q74a, q74b, q74c⟩ := isOf hZ39 Eq70 f71
    obtain ⟨vv74, _, ⟨T74, L74, k74, n74⟩, -, X74, ⟨Lc74, hQ74, l74, y74, z74⟩, st74⟩ := Xh73.interfaceBack hx (xi := yM29) (y := yM22) hown39 (mvT hZ39 (Wd60 hw)) (mvT hZ39 (Wd61 hw)) (mvT hZ39 (Wd62 hw)) (mvT hZ39 (Wd63 hw)) (mvT hZ39 (Wd64 hw)) (mvT hZ39 (Wd65 hw)) (mvT hZ39 (Wd66 hw)) (mvT hZ39 (Wd53 hw)) (by decide) (backOf (W := 0) (c_l12g l Z a0 hw [] PA AA MA HS H2 PG SQ EM EL kM kE ms T33.heap n0 f42 hWd f41) hZ39 (Wd67 hw) (Wd54 hw) (by decide) (by decide)) q74a q74b q74c (g := (fr_law m p1 p2 p3 p4 p5 216 (vI 0) (vI r21) (vI r24) (vI r27) (vI r30) (vR x33) (.val (.int (own_b (False)))) (vR PA) [(iV 0), (.ref PA)])) rfl (by rw [hml]; rfl) (Steps.refl _) (argsL := [(iV 0)]) (rest := []) (lenOf pd_28 rfl) rfl (by show 2 * 0 + _ ≤ _; exact Nat.le_of_eq rfl) (D at_216) (fun _ _ => ⟨rfl, Eq70, (by decide : 6 + 0 ≤ _), (by decide : 12 + 0 ≤ _)⟩)
    dsimp only [Pt.U, Pt.locs, Pt.cells, Pt.slots] at X74 l74 y74 z74 st74 hQ74
    subst l74 y74 z74
    obtain ⟨rfl, Nq74, Eq74⟩ := hQ74
    have N75 := Fr.app Nh73 Nq74
    obtain ⟨Lh76, Xh76, Nh76⟩ := oHd 6 12 X74 N75 rfl rfl
    refine ownSt st74 ?_
    clear st74
    show oA p e below _ T74 (fr_law m p1 p2 p3 p4 p5 221 (vI 0) (vI r21) (vI r24) (vI r27) (vI r30) (vR x33) (.val (.int (own_b (False)))) (vR PA) [(.ref HS)])
    refine own_getS Xh76 hx hZ39 hown39 (host := "") (Or.inl (Wd71 hw)) Via.refl Eq74 (SHS.ext f41.2) (D at_221) (fun T77 X77 e77 => ?_)
    refine oTo T77 (fr_law m p1 p2 p3 p4 p5 232 (vI 0) (vI r21) (vI r24) (vI r27) (vI r30) (vR x33) (.val (.int (own_b (False)))) (vR PA) [(iV 1)]) (fun t kt => ?_) ?_
    ·refine Jvm.RoadKit.acmp (g := (fr_law m p1 p2 p3 p4 p5 224 (vI 0) (vI r21) (vI r24) (vI r27) (vI r30) (vR x33) (.val (.int (own_b (False)))) (vR PA) [(.ref HS), (.ref HS)])) X77 hx rfl rfl rfl (pc0 := 224) (pc' := 227) (same := true) rfl (D at_224) rfl (decide_eq_true rfl) (by decide) (by decide) ?_
     refine XS.iconst X77.here hx rfl (D at_227) ?_
     refine XS.goto X77.here hx rfl (pc0 := 228) (pc' := 232) rfl (D at_228) (by decide) (by decide) ?_
     exact kt
    refine ownRetH X77 hSR39 (by rw [e77]; exact (Nat.le_refl _)) Bd.notSynchronized (v := some (.int (nar .boolean (1 : Int32)))) (fun h => by rw [Bd.returns] at h; cases h) ?_ (R38.trans ((by rw [e77]; exact CHv.at X77 hZ39 hEL R38.1))) (oLe rfl) (oLe rfl) (fun fs hr => retN X77 hx (t := .boolean) Bd.returns (by simp) (D at_232) hr)
    show (Q_law Z p1 p2 p3 p4 p5 PA AA MA HS H2 PG SQ EM EL kM kE ms G1 G3 h0 n0) (some (.int (nar .boolean (1 : Int32)))) T77.heap _
    rw [e77]
    exact ⟨rfl, Nh76⟩
  refine oTo T33 (fr_law m p1 p2 p3 p4 p5 108 (vI 0) (vI r21) (vI r24) (vI r27) (vI r30) (vR x33) .unset .unset [(iV 0)]) (fun t kt => ?_) ?_
  ·refine XS.iload Xh40.here hx rfl (D at_48) rfl ?_
   refine XS.ifYes Xh40.here hx rfl (pc0 := 50) (pc' := 61) rfl (D at_50) rfl ((if0 _ _).trans (flt ((by decide) : ¬ ((0 : Int32) < (0 : Int32)))).2.2.2) (by decide) (by decide) ?_
   refine XS.iload Xh40.here hx rfl (D at_61) rfl ?_
   refine XS.iconst Xh40.here hx rfl (D at_63) ?_
   refine XS.icmpYes Xh40.here hx rfl (pc0 := 64) (pc' := 75) rfl (D at_64) rfl (flt ((by decide) : ¬ ((1 : Int32) < (0 : Int32)))).2.2.2 (by decide) (by decide) ?_
   refine XS.iload Xh40.here hx rfl (D at_75) rfl ?_
   refine XS.iconst Xh40.here hx rfl (D at_77) ?_
   refine XS.icmpYes Xh40.here hx rfl (pc0 := 78) (pc' := 89) rfl (D at_78) rfl (flt ((by decide) : ¬ ((2 : Int32) < (0 : Int32)))).2.2.2 (by decide) (by decide) ?_
   refine XS.iload Xh40.here hx rfl (D at_89) rfl ?_
   refine XS.iconst Xh40.here hx rfl (D at_91) ?_
   refine XS.icmpYes Xh40.here hx rfl (pc0 := 92) (pc' := 107) rfl (D at_92) rfl (flt ((by decide) : ¬ ((3 : Int32) < (0 : Int32)))).2.2.2 (by decide) (by decide) ?_
   refine XS.iconst Xh40.here hx rfl (D at_107) ?_
   exact kt
  have q := rest _ _ Xh40 Nh40 rfl
  rw [own_bf0 (p := False) (fun q => q)] at q
  exact q
 ·skip
  show oA p e below _ T30 (fr_law m p1 p2 p3 p4 p5 33 (vI 1) (vI r21) (vI r24) (vI r27) (vI r30) .unset .unset .unset [])
  refine oTo T30 (fr_law m p1 p2 p3 p4 p5 43 (vI 1) (vI r21) (vI r24) (vI r27) (vI r30) .unset .unset .unset [(.int r30), (.int r27), (.int r24), (.int r21), (iV 1)]) (fun t kt => ?_) ?_
  ·refine XS.iload Xh32.here hx rfl (D at_33) rfl ?_
   refine XS.iload Xh32.here hx rfl (D at_35) rfl ?_
   refine XS.iload Xh32.here hx rfl (D at_37) rfl ?_
   refine XS.iload Xh32.here hx rfl (D at_39) rfl ?_
   refine XS.iload Xh32.here hx rfl (D at_41) rfl ?_
   exact kt
  obtain ⟨vv79, _, ⟨T79, L79, k79, n79⟩, -, X79, ⟨Lc79, hQ79, l79, y79, z79⟩, st79⟩ := Jvm.LawKit.callS Xh32 hx (y := yM27) hown (mvT hZ (Wd4 hw)) (mvT hZ (Wd5 hw)) (mvT hZ (Wd2 hw)) (mvT hZ (Wd6 hw)) (by decide) (backOf (W := 0) (c_mk1 l Z a0 hw [] r21 r24 r27 r30 G1 h0 n0 Z0 hR21 hR24 hR27 hR30 O2 P5 SA SHI SLO X00) hZ (Wd6 hw) (Wd2 hw) (by decide) (by decide)) (g := (fr_law m p1 p2 p3 p4 p5 43 (vI 1) (vI r21) (vI r24) (vI r27) (vI r30) .unset .unset .unset [(.int r30), (.int r27), (.int r24), (.int r21), (iV 1)])) rfl (by rw [hml]; rfl) (argsL := [(iV 1), (.int r21), (.int r24), (.int r27), (.int r30)]) (rest := []) (lenOf pd_26 rfl) rfl (by show 2 * 0 + _ ≤ _; exact Nat.le_of_eq rfl) (D at_43) (fun _ _ => ⟨rfl, Eq30, (by decide : 0 + 4 ≤ _), (by decide : 0 + 8 ≤ _)⟩)
  dsimp only [Pt.U, Pt.locs, Pt.cells, Pt.slots] at X79 l79 y79 z79 st79 hQ79
  subst l79 y79 z79
  obtain ⟨x79, t79, kb79, cd79, z79, vs79, rfl, Nq79, Kq79, zq79, Eq79, Vq79, Cq79, Aq79, hrel79⟩ := hQ79
  have g80 : n0 ≤ x79 := Nat.le_trans Z0 zq79
  have z81 : h0.size ≤ x79 := Nat.le_trans (Nat.le_refl h0.size) zq79
  have N82 := Fr.app Nh32 Nq79
  have R83 := R0.trans (CHr.keep Kq79 sf0 R0.1)
  obtain ⟨Lh84, Xh84, Nh84⟩ := oHd 4 8 X79 N82 rfl rfl
  refine ownBy st79 ?_
  clear st79
  show oA p e below _ T79 (fr_law m p1 p2 p3 p4 p5 46 (vI 1) (vI r21) (vI r24) (vI r27) (vI r30) .unset .unset .unset [(.ref x79)])
  refine oTo T79 (fr_law m p1 p2 p3 p4 p5 48 (vI 1) (vI r21) (vI r24) (vI r27) (vI r30) (vR x79) .unset .unset []) (fun t kt => ?_) ?_
  ·refine XS.astore Xh84.here hx rfl (D at_46) rfl rfl (l' := #[vI p1, vI p2, vI p3, vI p4, vI p5, vI 1, vI r21, vI r24, vI r27, vI r30, vR x79, .unset, .unset]) rfl ?_
   exact kt
  have f85 := (X00.keep Kq79 all0)
  have f86 := (Nat.le_trans Z0 Kq79.1)
  refine own_cut (C := fun P => ∀ (T : State) (Lx : List Loc), Stand p l e room_1 (s.setVm s.vm) m #[(.int p1), (.int p2), (.int p3), (.int p4), (.int p5)] below meth c T Lx 4 8 → Fr n0 Lx → T.heap = T79.heap → ownG p.tables e below P (T.setTop (fr_law m p1 p2 p3 p4 p5 108 (vI 1) (vI r21) (vI r24) (vI r27) (vI r30) (vR x79) .unset .unset [(.int (own_b ((Mk r21))))]))) ?_ (fun rest => ?_)
  ·intro T87 L87 X87 N87 e87
   refine oTo T87 (fr_law m p1 p2 p3 p4 p5 112 (vI 1) (vI r21) (vI r24) (vI r27) (vI r30) (vR x79) (.val (.int (own_b ((Mk r21))))) .unset [(.ref x79)]) (fun t kt => ?_) ?_
   ·refine XS.istore X87.here hx rfl (D at_108) rfl (l' := #[vI p1, vI p2, vI p3, vI p4, vI p5, vI 1, vI r21, vI r24, vI r27, vI r30, vR x79, .val (.int (own_b ((Mk r21)))), .unset]) rfl ?_
    refine XS.aload X87.here hx rfl (D at_110) rfl rfl ?_
    exact kt
   obtain ⟨vv88, _, ⟨T88, L88, k88, n88⟩, -, X88, ⟨Lc88, hQ88, l88, y88, z88⟩, st88⟩ := Jvm.LawKit.callS X87 hx (y := yM20) hown (mvT hZ (Wd29 hw)) (mvT hZ (Wd30 hw)) (mvT hZ (Wd31 hw)) (mvT hZ (Wd32 hw)) (by decide) (backOf (W := 0) (c_rd1 l Z a0 hw [] x79 t79 kb79 cd79 z79 vs79 r21 PA AA MA HS H2 PG SQ EM EL kM kE ms G1 G3 T79.heap n0 f86 Eq79 Vq79 Cq79 Aq79 hrel79 hR21 hWd O2 P5 SA SHI SLO O4 rG3 f85) hZ (Wd32 hw) (Wd31 hw) (by decide) (by decide)) (g := (fr_law m p1 p2 p3 p4 p5 112 (vI 1) (vI r21) (vI r24) (vI r27) (vI r30) (vR x79) (.val (.int (own_b ((Mk r21))))) .unset [(.ref x79)])) rfl (by rw [hml]; rfl) (argsL := [(.ref x79)]) (rest := []) (lenOf pd_27 rfl) rfl (by show 2 * 0 + _ ≤ _; exact Nat.le_of_eq rfl) (D at_112) (fun _ _ => ⟨rfl, e87, (by decide : 4 + 0 ≤ _), (by decide : 8 + 0 ≤ _)⟩)
   dsimp only [Pt.U, Pt.locs, Pt.cells, Pt.slots] at X88 l88 y88 z88 st88 hQ88
   subst l88 y88 z88
   obtain ⟨Nq88, Eq88, hB88⟩ := hQ88
   rcases hB88 with ⟨hMr, rfl⟩ | ⟨hMr, rfl⟩
   ·skip
    have N89 := Fr.app N87 Nq88
    obtain ⟨Lh90, Xh90, Nh90⟩ := oHd 4 8 X88 N89 rfl rfl
    refine ownBy st88 ?_
    clear st88
    show oA p e below _ T88 (fr_law m p1 p2 p3 p4 p5 115 (vI 1) (vI r21) (vI r24) (vI r27) (vI r30) (vR x79) (.val (.int (own_b ((Mk r21))))) .unset [(.ref AA)])
    refine oTo T88 (fr_law m p1 p2 p3 p4 p5 131 (vI 1) (vI r21) (vI r24) (vI r27) (vI r30) (vR x79) (.val (.int (own_b ((Mk r21))))) (vR AA) [(.ref AA)]) (fun t kt => ?_) ?_
    ·refine XS.astore Xh90.here hx rfl (D at_115) rfl rfl (l' := #[vI p1, vI p2, vI p3, vI p4, vI p5, vI 1, vI r21, vI r24, vI r27, vI r30, vR x79, .val (.int (own_b ((Mk r21)))), vR AA]) rfl ?_
     refine XS.aload Xh90.here hx rfl (D at_117) rfl rfl ?_
     refine XS.ifnonnullYes Xh90.here hx rfl (pc0 := 119) (pc' := 124) rfl (D at_119) rfl (by decide) (by decide) ?_
     refine XS.iload Xh90.here hx rfl (D at_124) rfl ?_
     refine XS.ifNo Xh90.here hx rfl (D at_126) rfl ((if0 _ _).trans (feq (own_bt0 hMr)).1) ?_
     refine XS.aload Xh90.here hx rfl (D at_129) rfl rfl ?_
     exact kt
    have f92 := EAA.ext f85.2
    obtain ⟨cq91, kq91, q91a, q91b, q91c⟩ := isOf hZ Eq88 f92
    obtain ⟨vv91, _, ⟨T91, L91, k91, n91⟩, -, X91, ⟨Lc91, hQ91, l91, y91, z91⟩, st91⟩ := Xh90.interfaceBack hx (xi := yM28) (y := yM23) hown (mvT hZ (Wd46 hw)) (mvT hZ (Wd47 hw)) (mvT hZ (Wd48 hw)) (mvT hZ (Wd111 hw)) (mvT hZ (Wd112 hw)) (mvT hZ (Wd113 hw)) (mvT hZ (Wd114 hw)) (mvT hZ (Wd115 hw)) (by decide) (backOf (W := 0) (c_lns l Z a0 hw [] PA AA MA HS H2 PG SQ EM EL kM kE ms T79.heap n0 f86 hWd f85) hZ (Wd117 hw) (Wd116 hw) (by decide) (by decide)) q91a q91b q91c (g := (fr_law m p1 p2 p3 p4 p5 131 (vI 1) (vI r21) (vI r24) (vI r27) (vI r30) (vR x79) (.val (.int (own_b ((Mk r21))))) (vR AA) [(.ref AA)])) rfl (by rw [hml]; rfl) (Steps.refl _) (argsL := []) (rest := []) (lenOf pd_20 rfl) rfl (by show 2 * 0 + _ ≤ _; exact Nat.le_of_eq rfl) (D at_131) (fun _ _ => ⟨rfl, Eq88, (by decide : 4 + 0 ≤ _), (by decide : 8 + 0 ≤ _)⟩)
    dsimp only [Pt.U, Pt.locs, Pt.cells, Pt.slots] at X91 l91 y91 z91 st91 hQ91
    subst l91 y91 z91
    obtain ⟨rfl, Nq91, Eq91⟩ := hQ91
    have N93 := Fr.app Nh90 Nq91
    obtain ⟨Lh94, Xh94, Nh94⟩ := oHd 4 8 X91 N93 rfl rfl
    refine ownSt st91 ?_
    clear st91
    show oA p e below _ T91 (fr_law m p1 p2 p3 p4 p5 136 (vI 1) (vI r21) (vI r24) (vI r27) (vI r30) (vR x79) (.val (.int (own_b ((Mk r21))))) (vR AA) [(iV 4)])
    refine oTo T91 (fr_law m p1 p2 p3 p4 p5 143 (vI 1) (vI r21) (vI r24) (vI r27) (vI r30) (vR x79) (.val (.int (own_b ((Mk r21))))) (vR AA) [(iV 0), (.ref AA)]) (fun t kt => ?_) ?_
    ·refine XS.iconst Xh94.here hx rfl (D at_136) ?_
     refine XS.icmpNo Xh94.here hx rfl (D at_137) rfl (teq ((by decide) : (4 : Int32) = (4 : Int32))).2 ?_
     refine XS.aload Xh94.here hx rfl (D at_140) rfl rfl ?_
     refine XS.iconst Xh94.here hx rfl (D at_142) ?_
     exact kt
    obtain ⟨cq95, kq95, q95a, q95b, q95c⟩ := isOf hZ Eq91 f92
    obtain ⟨vv95, _, ⟨T95, L95, k95, n95⟩, -, X95, ⟨Lc95, hQ95, l95, y95, z95⟩, st95⟩ := Xh94.interfaceBack hx (xi := yM29) (y := yM24) hown (mvT hZ (Wd60 hw)) (mvT hZ (Wd61 hw)) (mvT hZ (Wd62 hw)) (mvT hZ (Wd120 hw)) (mvT hZ (Wd121 hw)) (mvT hZ (Wd122 hw)) (mvT hZ (Wd123 hw)) (mvT hZ (Wd115 hw)) (by decide) (backOf (W := 0) (c_lng0 l Z a0 hw [] PA AA MA HS H2 PG SQ EM EL kM kE ms T79.heap n0 f86 hWd f85) hZ (Wd124 hw) (Wd116 hw) (by decide) (by decide)) q95a q95b q95c (g := (fr_law m p1 p2 p3 p4 p5 143 (vI 1) (vI r21) (vI r24) (vI r27) (vI r30) (vR x79) (.val (.int (own_b ((Mk r21))))) (vR AA) [(iV 0), (.ref AA)])) rfl (by rw [hml]; rfl) (Steps.refl _) (argsL := [(iV 0)]) (rest := []) (lenOf pd_28 rfl) rfl (by show 2 * 0 + _ ≤ _; exact Nat.le_of_eq rfl) (D at_143) (fun _ _ => ⟨rfl, Eq91, (by decide : 4 + 0 ≤ _), (by decide : 8 + 0 ≤ _)⟩)
    dsimp only [Pt.U, Pt.locs, Pt.cells, Pt.slots] at X95 l95 y95 z95 st95 hQ95
    subst l95 y95 z95
    obtain ⟨rfl, Nq95, Eq95⟩ := hQ95
    have N96 := Fr.app Nh94 Nq95
    obtain ⟨Lh97, Xh97, Nh97⟩ := oHd 4 8 X95 N96 rfl rfl
    refine ownSt st95 ?_
    clear st95
    show oA p e below _ T95 (fr_law m p1 p2 p3 p4 p5 148 (vI 1) (vI r21) (vI r24) (vI r27) (vI r30) (vR x79) (.val (.int (own_b ((Mk r21))))) (vR AA) [(.ref HS)])
    refine own_getS Xh97 hx hZ hown (host := "") (Or.inl (Wd71 hw)) Via.refl Eq95 (SHS.ext f85.2) (D at_148) (fun T98 X98 e98 => ?_)
    refine oTo T98 (fr_law m p1 p2 p3 p4 p5 157 (vI 1) (vI r21) (vI r24) (vI r27) (vI r30) (vR x79) (.val (.int (own_b ((Mk r21))))) (vR AA) [(iV 1), (.ref AA)]) (fun t kt => ?_) ?_
    ·refine Jvm.RoadKit.acmp (g := (fr_law m p1 p2 p3 p4 p5 151 (vI 1) (vI r21) (vI r24) (vI r27) (vI r30) (vR x79) (.val (.int (own_b ((Mk r21))))) (vR AA) [(.ref HS), (.ref HS)])) X98 hx rfl rfl rfl (pc0 := 151) (pc' := 154) (same := true) rfl (D at_151) rfl (decide_eq_true rfl) (by decide) (by decide) ?_
     refine XS.aload X98.here hx rfl (D at_154) rfl rfl ?_
     refine XS.iconst X98.here hx rfl (D at_156) ?_
     exact kt
    obtain ⟨cq99, kq99, q99a, q99b, q99c⟩ := isOf hZ e98 f92
    obtain ⟨vv99, _, ⟨T99, L99, k99, n99⟩, -, X99, ⟨Lc99, hQ99, l99, y99, z99⟩, st99⟩ := X98.interfaceBack hx (xi := yM29) (y := yM24) hown (mvT hZ (Wd60 hw)) (mvT hZ (Wd61 hw)) (mvT hZ (Wd62 hw)) (mvT hZ (Wd120 hw)) (mvT hZ (Wd121 hw)) (mvT hZ (Wd122 hw)) (mvT hZ (Wd123 hw)) (mvT hZ (Wd115 hw)) (by decide) (backOf (W := 0) (c_lng1 l Z a0 hw [] PA AA MA HS H2 PG SQ EM EL kM kE ms T79.heap n0 f86 hWd f85) hZ (Wd124 hw) (Wd116 hw) (by decide) (by decide)) q99a q99b q99c (g := (fr_law m p1 p2 p3 p4 p5 157 (vI 1) (vI r21) (vI r24) (vI r27) (vI r30) (vR x79) (.val (.int (own_b ((Mk r21))))) (vR AA) [(iV 1), (.ref AA)])) rfl (by rw [hml]; rfl) (Steps.refl _) (argsL := [(iV 1)]) (rest := []) (lenOf pd_28 rfl) rfl (by show 2 * 0 + _ ≤ _; exact Nat.le_of_eq rfl) (D at_157) (fun _ _ => ⟨rfl, e98, (by decide : 4 + 0 ≤ _), (by decide : 8 + 0 ≤ _)⟩)
    dsimp only [Pt.U, Pt.locs, Pt.cells, Pt.slots] at X99 l99 y99 z99 st99 hQ99
    subst l99 y99 z99
    obtain ⟨rfl, Nq99, Eq99⟩ := hQ99
    have N100 := Fr.app Nh97 Nq99
    obtain ⟨Lh101, Xh101, Nh101⟩ := oHd 4 8 X99 N100 rfl rfl
    refine ownSt st99 ?_
    clear st99
    show oA p e below _ T99 (fr_law m p1 p2 p3 p4 p5 162 (vI 1) (vI r21) (vI r24) (vI r27) (vI r30) (vR x79) (.val (.int (own_b ((Mk r21))))) (vR AA) [(.ref H2)])
    refine own_getS Xh101 hx hZ hown (host := "") (Or.inl (Wd126 hw)) Via.refl Eq99 (SH2.ext f85.2) (D at_162) (fun T102 X102 e102 => ?_)
    refine oTo T102 (fr_law m p1 p2 p3 p4 p5 171 (vI 1) (vI r21) (vI r24) (vI r27) (vI r30) (vR x79) (.val (.int (own_b ((Mk r21))))) (vR AA) [(iV 2), (.ref AA)]) (fun t kt => ?_) ?_
    ·refine Jvm.RoadKit.acmp (g := (fr_law m p1 p2 p3 p4 p5 165 (vI 1) (vI r21) (vI r24) (vI r27) (vI r30) (vR x79) (.val (.int (own_b ((Mk r21))))) (vR AA) [(.ref H2), (.ref H2)])) X102 hx rfl rfl rfl (pc0 := 165) (pc' := 168) (same := true) rfl (D at_165) rfl (decide_eq_true rfl) (by decide) (by decide) ?_
     refine XS.aload X102.here hx rfl (D at_168) rfl rfl ?_
     refine XS.iconst X102.here hx rfl (D at_170) ?_
     exact kt
    obtain ⟨cq103, kq103, q103a, q103b, q103c⟩ := isOf hZ e102 f92
    obtain ⟨vv103, _, ⟨T103, L103, k103, n103⟩, -, X103, ⟨Lc103, hQ103, l103, y103, z103⟩, st103⟩ := X102.interfaceBack hx (xi := yM29) (y := yM24) hown (mvT hZ (Wd60 hw)) (mvT hZ (Wd61 hw)) (mvT hZ (Wd62 hw)) (mvT hZ (Wd120 hw)) (mvT hZ (Wd121 hw)) (mvT hZ (Wd122 hw)) (mvT hZ (Wd123 hw)) (mvT hZ (Wd115 hw)) (by decide) (backOf (W := 0) (c_lng2 l Z a0 hw [] PA AA MA HS H2 PG SQ EM EL kM kE ms T79.heap n0 f86 hWd f85) hZ (Wd124 hw) (Wd116 hw) (by decide) (by decide)) q103a q103b q103c (g := (fr_law m p1 p2 p3 p4 p5 171 (vI 1) (vI r21) (vI r24) (vI r27) (vI r30) (vR x79) (.val (.int (own_b ((Mk r21))))) (vR AA) [(iV 2), (.ref AA)])) rfl (by rw [hml]; rfl) (Steps.refl _) (argsL := [(iV 2)]) (rest := []) (lenOf pd_28 rfl) rfl (by show 2 * 0 + _ ≤ _; exact Nat.le_of_eq rfl) (D at_171) (fun _ _ => ⟨rfl, e102, (by decide : 4 + 0 ≤ _), (by decide : 8 + 0 ≤ _)⟩)
    dsimp only [Pt.U, Pt.locs, Pt.cells, Pt.slots] at X103 l103 y103 z103 st103 hQ103
    subst l103 y103 z103
    obtain ⟨rfl, Nq103, Eq103⟩ := hQ103
    have N104 := Fr.app Nh101 Nq103
    obtain ⟨Lh105, Xh105, Nh105⟩ := oHd 4 8 X103 N104 rfl rfl
    refine ownSt st103 ?_
    clear st103
    show oA p e below _ T103 (fr_law m p1 p2 p3 p4 p5 176 (vI 1) (vI r21) (vI r24) (vI r27) (vI r30) (vR x79) (.val (.int (own_b ((Mk r21))))) (vR AA) [(.ref PG)])
    refine own_getS Xh105 hx hZ hown (host := "") (Or.inl (Wd128 hw)) Via.refl Eq103 (SPG.ext f85.2) (D at_176) (fun T106 X106 e106 => ?_)
    refine oTo T106 (fr_law m p1 p2 p3 p4 p5 185 (vI 1) (vI r21) (vI r24) (vI r27) (vI r30) (vR x79) (.val (.int (own_b ((Mk r21))))) (vR AA) [(iV 3), (.ref AA)]) (fun t kt => ?_) ?_
    ·refine Jvm.RoadKit.acmp (g := (fr_law m p1 p2 p3 p4 p5 179 (vI 1) (vI r21) (vI r24) (vI r27) (vI r30) (vR x79) (.val (.int (own_b ((Mk r21))))) (vR AA) [(.ref PG), (.ref PG)])) X106 hx rfl rfl rfl (pc0 := 179) (pc' := 182) (same := true) rfl (D at_179) rfl (decide_eq_true rfl) (by decide) (by decide) ?_
     refine XS.aload X106.here hx rfl (D at_182) rfl rfl ?_
     refine XS.iconst X106.here hx rfl (D at_184) ?_
     exact kt
    obtain ⟨cq107, kq107, q107a, q107b, q107c⟩ := isOf hZ e106 f92
    obtain ⟨vv107, _, ⟨T107, L107, k107, n107⟩, -, X107, ⟨Lc107, hQ107, l107, y107, z107⟩, st107⟩ := X106.interfaceBack hx (xi := yM29) (y := yM24) hown (mvT hZ (Wd60 hw)) (mvT hZ (Wd61 hw)) (mvT hZ (Wd62 hw)) (mvT hZ (Wd120 hw)) (mvT hZ (Wd121 hw)) (mvT hZ (Wd122 hw)) (mvT hZ (Wd123 hw)) (mvT hZ (Wd115 hw)) (by decide) (backOf (W := 0) (c_lng3 l Z a0 hw [] PA AA MA HS H2 PG SQ EM EL kM kE ms T79.heap n0 f86 hWd f85) hZ (Wd124 hw) (Wd116 hw) (by decide) (by decide)) q107a q107b q107c (g := (fr_law m p1 p2 p3 p4 p5 185 (vI 1) (vI r21) (vI r24) (vI r27) (vI r30) (vR x79) (.val (.int (own_b ((Mk r21))))) (vR AA) [(iV 3), (.ref AA)])) rfl (by rw [hml]; rfl) (Steps.refl _) (argsL := [(iV 3)]) (rest := []) (lenOf pd_28 rfl) rfl (by show 2 * 0 + _ ≤ _; exact Nat.le_of_eq rfl) (D at_185) (fun _ _ => ⟨rfl, e106, (by decide : 4 + 0 ≤ _), (by decide : 8 + 0 ≤ _)⟩)
    dsimp only [Pt.U, Pt.locs, Pt.cells, Pt.slots] at X107 l107 y107 z107 st107 hQ107
    subst l107 y107 z107
    obtain ⟨rfl, Nq107, Eq107⟩ := hQ107
    have N108 := Fr.app Nh105 Nq107
    obtain ⟨Lh109, Xh109, Nh109⟩ := oHd 4 8 X107 N108 rfl rfl
    refine ownSt st107 ?_
    clear st107
    show oA p e below _ T107 (fr_law m p1 p2 p3 p4 p5 190 (vI 1) (vI r21) (vI r24) (vI r27) (vI r30) (vR x79) (.val (.int (own_b ((Mk r21))))) (vR AA) [(.ref SQ)])
    refine own_getS Xh109 hx hZ hown (host := "") (Or.inl (Wd130 hw)) Via.refl Eq107 (SSQ.ext f85.2) (D at_190) (fun T110 X110 e110 => ?_)
    refine oTo T110 (fr_law m p1 p2 p3 p4 p5 201 (vI 1) (vI r21) (vI r24) (vI r27) (vI r30) (vR x79) (.val (.int (own_b ((Mk r21))))) (vR AA) [(iV 1)]) (fun t kt => ?_) ?_
    ·refine Jvm.RoadKit.acmp (g := (fr_law m p1 p2 p3 p4 p5 193 (vI 1) (vI r21) (vI r24) (vI r27) (vI r30) (vR x79) (.val (.int (own_b ((Mk r21))))) (vR AA) [(.ref SQ), (.ref SQ)])) X110 hx rfl rfl rfl (pc0 := 193) (pc' := 196) (same := true) rfl (D at_193) rfl (decide_eq_true rfl) (by decide) (by decide) ?_
     refine XS.iconst X110.here hx rfl (D at_196) ?_
     refine XS.goto X110.here hx rfl (pc0 := 197) (pc' := 201) rfl (D at_197) (by decide) (by decide) ?_
     exact kt
    refine ownRetH X110 hS0 (by rw [e110]; exact (Nat.le_trans (Nat.le_refl _) Kq79.1)) Bd.notSynchronized (v := some (.int (nar .boolean (1 : Int32)))) (fun h => by rw [Bd.returns] at h; cases h) ?_ (R83.trans ((by rw [e110]; exact CHv.at X110 hZ hEL R83.1))) (oLe rfl) (oLe rfl) (fun fs hr => retN X110 hx (t := .boolean) Bd.returns (by simp) (D at_201) hr)
    show (Q_law Z p1 p2 p3 p4 p5 PA AA MA HS H2 PG SQ EM EL kM kE ms G1 G3 h0 n0) (some (.int (nar .boolean (1 : Int32)))) T110.heap _
    rw [e110]
    exact ⟨rfl, Nh109⟩
   ·skip
    have N112 := Fr.app N87 Nq88
    obtain ⟨Lh113, Xh113, Nh113⟩ := oHd 4 8 X88 N112 rfl rfl
    refine ownBy st88 ?_
    clear st88
    show oA p e below _ T88 (fr_law m p1 p2 p3 p4 p5 115 (vI 1) (vI r21) (vI r24) (vI r27) (vI r30) (vR x79) (.val (.int (own_b ((Mk r21))))) .unset [(.ref PA)])
    refine oTo T88 (fr_law m p1 p2 p3 p4 p5 204 (vI 1) (vI r21) (vI r24) (vI r27) (vI r30) (vR x79) (.val (.int (own_b ((Mk r21))))) (vR PA) [(.ref PA)]) (fun t kt => ?_) ?_
    ·refine XS.astore Xh113.here hx rfl (D at_115) rfl rfl (l' := #[vI p1, vI p2, vI p3, vI p4, vI p5, vI 1, vI r21, vI r24, vI r27, vI r30, vR x79, .val (.int (own_b ((Mk r21)))), vR PA]) rfl ?_
     refine XS.aload Xh113.here hx rfl (D at_117) rfl rfl ?_
     refine XS.ifnonnullYes Xh113.here hx rfl (pc0 := 119) (pc' := 124) rfl (D at_119) rfl (by decide) (by decide) ?_
     refine XS.iload Xh113.here hx rfl (D at_124) rfl ?_
     refine XS.ifYes Xh113.here hx rfl (pc0 := 126) (pc' := 202) rfl (D at_126) rfl ((if0 _ _).trans (teq (own_bf0 hMr)).1) (by decide) (by decide) ?_
     refine XS.aload Xh113.here hx rfl (D at_202) rfl rfl ?_
     exact kt
    have f115 := EPA.ext f85.2
    obtain ⟨cq114, kq114, q114a, q114b, q114c⟩ := isOf hZ Eq88 f115
    obtain ⟨vv114, _, ⟨T114, L114, k114, n114⟩, -, X114, ⟨Lc114, hQ114, l114, y114, z114⟩, st114⟩ := Xh113.interfaceBack hx (xi := yM28) (y := yM21) hown (mvT hZ (Wd46 hw)) (mvT hZ (Wd47 hw)) (mvT hZ (Wd48 hw)) (mvT hZ (Wd49 hw)) (mvT hZ (Wd50 hw)) (mvT hZ (Wd51 hw)) (mvT hZ (Wd52 hw)) (mvT hZ (Wd53 hw)) (by decide) (backOf (W := 0) (c_l12s l Z a0 hw [] PA AA MA HS H2 PG SQ EM EL kM kE ms T79.heap n0 f86 hWd f85) hZ (Wd55 hw) (Wd54 hw) (by decide) (by decide)) q114a q114b q114c (g := (fr_law m p1 p2 p3 p4 p5 204 (vI 1) (vI r21) (vI r24) (vI r27) (vI r30) (vR x79) (.val (.int (own_b ((Mk r21))))) (vR PA) [(.ref PA)])) rfl (by rw [hml]; rfl) (Steps.refl _) (argsL := []) (rest := []) (lenOf pd_20 rfl) rfl (by show 2 * 0 + _ ≤ _; exact Nat.le_of_eq rfl) (D at_204) (fun _ _ => ⟨rfl, Eq88, (by decide : 4 + 0 ≤ _), (by decide : 8 + 0 ≤ _)⟩)
    dsimp only [Pt.U, Pt.locs, Pt.cells, Pt.slots] at X114 l114 y114 z114 st114 hQ114
    subst l114 y114 z114
    obtain ⟨rfl, Nq114, Eq114⟩ := hQ114
    have N116 := Fr.app Nh113 Nq114
    obtain ⟨Lh117, Xh117, Nh117⟩ := oHd 4 8 X114 N116 rfl rfl
    refine ownSt st114 ?_
    clear st114
    show oA p e below _ T114 (fr_law m p1 p2 p3 p4 p5 209 (vI 1) (vI r21) (vI r24) (vI r27) (vI r30) (vR x79) (.val (.int (own_b ((Mk r21))))) (vR PA) [(iV 1)])
    refine oTo T114 (fr_law m p1 p2 p3 p4 p5 216 (vI 1) (vI r21) (vI r24) (vI r27) (vI r30) (vR x79) (.val (.int (own_b ((Mk r21))))) (vR PA) [(iV 0), (.ref PA)]) (fun t kt => ?_) ?_
    ·refine XS.iconst Xh117.here hx rfl (D at_209) ?_
     refine XS.icmpNo Xh117.here hx rfl (D at_210) rfl (teq ((by decide) : (1 : Int32) = (1 : Int32))).2 ?_
     refine XS.aload Xh117.here hx rfl (D at_213) rfl rfl ?_
     refine XS.iconst Xh117.here hx rfl (D at_215) ?_
     exact kt
    obtain ⟨cq118, kq118, q118a, q118b, q118c⟩ := isOf hZ Eq114 f115
    obtain ⟨vv118, _, ⟨T118, L118, k118, n118⟩, -, X118, ⟨Lc118, hQ118, l118, y118, z118⟩, st118⟩ := Xh117.interfaceBack hx (xi := yM29) (y := yM22) hown (mvT hZ (Wd60 hw)) (mvT hZ (Wd61 hw)) (mvT hZ (Wd62 hw)) (mvT hZ (Wd63 hw)) (mvT hZ (Wd64 hw)) (mvT hZ (Wd65 hw)) (mvT hZ (Wd66 hw)) (mvT hZ (Wd53 hw)) (by decide) (backOf (W := 0) (c_l12g l Z a0 hw [] PA AA MA HS H2 PG SQ EM EL kM kE ms T79.heap n0 f86 hWd f85) hZ (Wd67 hw) (Wd54 hw) (by decide) (by decide)) q118a q118b q118c (g := (fr_law m p1 p2 p3 p4 p5 216 (vI 1) (vI r21) (vI r24) (vI r27) (vI r30) (vR x79) (.val (.int (own_b ((Mk r21))))) (vR PA) [(iV 0), (.ref PA)])) rfl (by rw [hml]; rfl) (Steps.refl _) (argsL := [(iV 0)]) (rest := []) (lenOf pd_28 rfl) rfl (by show 2 * 0 + _ ≤ _; exact Nat.le_of_eq rfl) (D at_216) (fun _ _ => ⟨rfl, Eq114, (by decide : 4 + 0 ≤ _), (by decide : 8 + 0 ≤ _)⟩)
    dsimp only [Pt.U, Pt.locs, Pt.cells, Pt.slots] at X118 l118 y118 z118 st118 hQ118
    subst l118 y118 z118
    obtain ⟨rfl, Nq118, Eq118⟩ := hQ118
    have N119 := Fr.app Nh117 Nq118
    obtain ⟨Lh120, Xh120, Nh120⟩ := oHd 4 8 X118 N119 rfl rfl
    refine ownSt st118 ?_
    clear st118
    show oA p e below _ T118 (fr_law m p1 p2 p3 p4 p5 221 (vI 1) (vI r21) (vI r24) (vI r27) (vI r30) (vR x79) (.val (.int (own_b ((Mk r21))))) (vR PA) [(.ref HS)])
    refine own_getS Xh120 hx hZ hown (host := "") (Or.inl (Wd71 hw)) Via.refl Eq118 (SHS.ext f85.2) (D at_221) (fun T121 X121 e121 => ?_)
    refine oTo T121 (fr_law m p1 p2 p3 p4 p5 232 (vI 1) (vI r21) (vI r24) (vI r27) (vI r30) (vR x79) (.val (.int (own_b ((Mk r21))))) (vR PA) [(iV 1)]) (fun t kt => ?_) ?_
    ·refine Jvm.RoadKit.acmp (g := (fr_law m p1 p2 p3 p4 p5 224 (vI 1) (vI r21) (vI r24) (vI r27) (vI r30) (vR x79) (.val (.int (own_b ((Mk r21))))) (vR PA) [(.ref HS), (.ref HS)])) X121 hx rfl rfl rfl (pc0 := 224) (pc' := 227) (same := true) rfl (D at_224) rfl (decide_eq_true rfl) (by decide) (by decide) ?_
     refine XS.iconst X121.here hx rfl (D at_227) ?_
     refine XS.goto X121.here hx rfl (pc0 := 228) (pc' := 232) rfl (D at_228) (by decide) (by decide) ?_
     exact kt
    refine ownRetH X121 hS0 (by rw [e121]; exact (Nat.le_trans (Nat.le_refl _) Kq79.1)) Bd.notSynchronized (v := some (.int (nar .boolean (1 : Int32)))) (fun h => by rw [Bd.returns] at h; cases h) ?_ (R83.trans ((by rw [e121]; exact CHv.at X121 hZ hEL R83.1))) (oLe rfl) (oLe rfl) (fun fs hr => retN X121 hx (t := .boolean) Bd.returns (by simp) (D at_232) hr)
    show (Q_law Z p1 p2 p3 p4 p5 PA AA MA HS H2 PG SQ EM EL kM kE ms G1 G3 h0 n0) (some (.int (nar .boolean (1 : Int32)))) T121.heap _
    rw [e121]
    exact ⟨rfl, Nh120⟩
  refine oTo T79 (fr_law m p1 p2 p3 p4 p5 55 (vI 1) (vI r21) (vI r24) (vI r27) (vI r30) (vR x79) .unset .unset [(.int r21)]) (fun t kt => ?_) ?_
  ·refine XS.iload Xh84.here hx rfl (D at_48) rfl ?_
   refine XS.ifNo Xh84.here hx rfl (D at_50) rfl ((if0 _ _).trans (tlt ((by decide) : (0 : Int32) < (1 : Int32))).2.2.2) ?_
   refine XS.iload Xh84.here hx rfl (D at_53) rfl ?_
   exact kt
  obtain ⟨vv123, _, ⟨T123, L123, k123, n123⟩, -, X123, ⟨Lc123, hQ123, l123, y123, z123⟩, st123⟩ := Jvm.LawKit.callS Xh84 hx (y := yM26) hown (mvT hZ (Wd82 hw)) (mvT hZ (Wd83 hw)) (mvT hZ (Wd2 hw)) (mvT hZ (Wd84 hw)) (by decide) (backOf (W := 0) (c_ism l Z a0 hw [] r21 T79.heap n0 f86 ) hZ (Wd84 hw) (Wd2 hw) (by decide) (by decide)) (g := (fr_law m p1 p2 p3 p4 p5 55 (vI 1) (vI r21) (vI r24) (vI r27) (vI r30) (vR x79) .unset .unset [(.int r21)])) rfl (by rw [hml]; rfl) (argsL := [(.int r21)]) (rest := []) (lenOf pd_29 rfl) rfl (by show 2 * 0 + _ ≤ _; exact Nat.le_of_eq rfl) (D at_55) (fun _ _ => ⟨rfl, rfl, (by decide : 4 + 0 ≤ _), (by decide : 8 + 0 ≤ _)⟩)
  dsimp only [Pt.U, Pt.locs, Pt.cells, Pt.slots] at X123 l123 y123 z123 st123 hQ123
  subst l123 y123 z123
  obtain ⟨rfl, Nq123, Eq123⟩ := hQ123
  have N124 := Fr.app Nh84 Nq123
  obtain ⟨Lh125, Xh125, Nh125⟩ := oHd 4 8 X123 N124 rfl rfl
  refine ownBy st123 ?_
  clear st123
  show oA p e below _ T123 (fr_law m p1 p2 p3 p4 p5 58 (vI 1) (vI r21) (vI r24) (vI r27) (vI r30) (vR x79) .unset .unset [(.int (own_b (Mk r21)))])
  by_cases hc126 : Mk r21
  ·skip
   refine oTo T123 (fr_law m p1 p2 p3 p4 p5 108 (vI 1) (vI r21) (vI r24) (vI r27) (vI r30) (vR x79) .unset .unset [(iV 1)]) (fun t kt => ?_) ?_
   ·refine XS.ifYes Xh125.here hx rfl (pc0 := 58) (pc' := 103) rfl (D at_58) rfl ((if0 _ _).trans (feq (own_bt0 hc126)).2) (by decide) (by decide) ?_
    refine XS.iconst Xh125.here hx rfl (D at_103) ?_
    refine XS.goto Xh125.here hx rfl (pc0 := 104) (pc' := 108) rfl (D at_104) (by decide) (by decide) ?_
    exact kt
   have q := rest _ _ Xh125 Nh125 Eq123
   rw [own_bt1 (p := (Mk r21)) (hc126)] at q
   exact q
  ·skip
   refine oTo T123 (fr_law m p1 p2 p3 p4 p5 108 (vI 1) (vI r21) (vI r24) (vI r27) (vI r30) (vR x79) .unset .unset [(iV 0)]) (fun t kt => ?_) ?_
   ·refine XS.ifNo Xh125.here hx rfl (D at_58) rfl ((if0 _ _).trans (teq (own_bf0 hc126)).2) ?_
    refine XS.iload Xh125.here hx rfl (D at_61) rfl ?_
    refine XS.iconst Xh125.here hx rfl (D at_63) ?_
    refine XS.icmpYes Xh125.here hx rfl (pc0 := 64) (pc' := 75) rfl (D at_64) rfl (flt ((by decide) : ¬ ((1 : Int32) < (1 : Int32)))).2.2.2 (by decide) (by decide) ?_
    refine XS.iload Xh125.here hx rfl (D at_75) rfl ?_
    refine XS.iconst Xh125.here hx rfl (D at_77) ?_
    refine XS.icmpYes Xh125.here hx rfl (pc0 := 78) (pc' := 89) rfl (D at_78) rfl (flt ((by decide) : ¬ ((2 : Int32) < (1 : Int32)))).2.2.2 (by decide) (by decide) ?_
    refine XS.iload Xh125.here hx rfl (D at_89) rfl ?_
    refine XS.iconst Xh125.here hx rfl (D at_91) ?_
    refine XS.icmpYes Xh125.here hx rfl (pc0 := 92) (pc' := 107) rfl (D at_92) rfl (flt ((by decide) : ¬ ((3 : Int32) < (1 : Int32)))).2.2.2 (by decide) (by decide) ?_
    refine XS.iconst Xh125.here hx rfl (D at_107) ?_
    exact kt
   have q := rest _ _ Xh125 Nh125 Eq123
   rw [own_bf0 (p := (Mk r21)) (hc126)] at q
   exact q
 ·skip
  show oA p e below _ T30 (fr_law m p1 p2 p3 p4 p5 33 (vI 2) (vI r21) (vI r24) (vI r27) (vI r30) .unset .unset .unset [])
  refine oTo T30 (fr_law m p1 p2 p3 p4 p5 43 (vI 2) (vI r21) (vI r24) (vI r27) (vI r30) .unset .unset .unset [(.int r30), (.int r27), (.int r24), (.int r21), (iV 2)]) (fun t kt => ?_) ?_
  ·refine XS.iload Xh32.here hx rfl (D at_33) rfl ?_
   refine XS.iload Xh32.here hx rfl (D at_35) rfl ?_
   refine XS.iload Xh32.here hx rfl (D at_37) rfl ?_
   refine XS.iload Xh32.here hx rfl (D at_39) rfl ?_
   refine XS.iload Xh32.here hx rfl (D at_41) rfl ?_
   exact kt
  obtain ⟨vv127, _, ⟨T127, L127, k127, n127⟩, -, X127, ⟨Lc127, hQ127, l127, y127, z127⟩, st127⟩ := Jvm.LawKit.callS Xh32 hx (y := yM27) hown (mvT hZ (Wd4 hw)) (mvT hZ (Wd5 hw)) (mvT hZ (Wd2 hw)) (mvT hZ (Wd6 hw)) (by decide) (backOf (W := 0) (c_mk2 l Z a0 hw [] r21 r24 r27 r30 G1 h0 n0 Z0 hR21 hR24 hR27 hR30 O2 P5 SA SHI SLO X00) hZ (Wd6 hw) (Wd2 hw) (by decide) (by decide)) (g := (fr_law m p1 p2 p3 p4 p5 43 (vI 2) (vI r21) (vI r24) (vI r27) (vI r30) .unset .unset .unset [(.int r30), (.int r27), (.int r24), (.int r21), (iV 2)])) rfl (by rw [hml]; rfl) (argsL := [(iV 2), (.int r21), (.int r24), (.int r27), (.int r30)]) (rest := []) (lenOf pd_26 rfl) rfl (by show 2 * 0 + _ ≤ _; exact Nat.le_of_eq rfl) (D at_43) (fun _ _ => ⟨rfl, Eq30, (by decide : 0 + 4 ≤ _), (by decide : 0 + 12 ≤ _)⟩)
  dsimp only [Pt.U, Pt.locs, Pt.cells, Pt.slots] at X127 l127 y127 z127 st127 hQ127
  subst l127 y127 z127
  obtain ⟨x127, t127, kb127, cd127, z127, vs127, rfl, Nq127, Kq127, zq127, Eq127, Vq127, Cq127, Aq127, hrel127⟩ := hQ127
  have g128 : n0 ≤ x127 := Nat.le_trans Z0 zq127
  have z129 : h0.size ≤ x127 := Nat.le_trans (Nat.le_refl h0.size) zq127
  have N130 := Fr.app Nh32 Nq127
  have R131 := R0.trans (CHr.keep Kq127 sf0 R0.1)
  obtain ⟨Lh132, Xh132, Nh132⟩ := oHd 4 12 X127 N130 rfl rfl
  refine ownBy st127 ?_
  clear st127
  show oA p e below _ T127 (fr_law m p1 p2 p3 p4 p5 46 (vI 2) (vI r21) (vI r24) (vI r27) (vI r30) .unset .unset .unset [(.ref x127)])
  refine oTo T127 (fr_law m p1 p2 p3 p4 p5 48 (vI 2) (vI r21) (vI r24) (vI r27) (vI r30) (vR x127) .unset .unset []) (fun t kt => ?_) ?_
  ·refine XS.astore Xh132.here hx rfl (D at_46) rfl rfl (l' := #[vI p1, vI p2, vI p3, vI p4, vI p5, vI 2, vI r21, vI r24, vI r27, vI r30, vR x127, .unset, .unset]) rfl ?_
   exact kt
  have f133 := (X00.keep Kq127 all0)
  have f134 := (Nat.le_trans Z0 Kq127.1)
  refine own_cut (C := fun P => ∀ (T : State) (Lx : List Loc), Stand p l e room_1 (s.setVm s.vm) m #[(.int p1), (.int p2), (.int p3), (.int p4), (.int p5)] below meth c T Lx 4 12 → Fr n0 Lx → T.heap = T127.heap → ownG p.tables e below P (T.setTop (fr_law m p1 p2 p3 p4 p5 108 (vI 2) (vI r21) (vI r24) (vI r27) (vI r30) (vR x127) .unset .unset [(.int (own_b ((Mk r21) ∨ (Mk r24))))]))) ?_ (fun rest => ?_)
  ·intro T135 L135 X135 N135 e135
   refine oTo T135 (fr_law m p1 p2 p3 p4 p5 112 (vI 2) (vI r21) (vI r24) (vI r27) (vI r30) (vR x127) (.val (.int (own_b ((Mk r21) ∨ (Mk r24))))) .unset [(.ref x127)]) (fun t kt => ?_) ?_
   ·refine XS.istore X135.here hx rfl (D at_108) rfl (l' := #[vI p1, vI p2, vI p3, vI p4, vI p5, vI 2, vI r21, vI r24, vI r27, vI r30, vR x127, .val (.int (own_b ((Mk r21) ∨ (Mk r24)))), .unset]) rfl ?_
    refine XS.aload X135.here hx rfl (D at_110) rfl rfl ?_
    exact kt
   obtain ⟨vv136, _, ⟨T136, L136, k136, n136⟩, -, X136, ⟨Lc136, hQ136, l136, y136, z136⟩, st136⟩ := Jvm.LawKit.callS X135 hx (y := yM20) hown (mvT hZ (Wd29 hw)) (mvT hZ (Wd30 hw)) (mvT hZ (Wd31 hw)) (mvT hZ (Wd32 hw)) (by decide) (backOf (W := 0) (c_rd2 l Z a0 hw [] x127 t127 kb127 cd127 z127 vs127 r21 r24 PA AA MA HS H2 PG SQ EM EL kM kE ms G1 G3 T127.heap n0 f134 Eq127 Vq127 Cq127 Aq127 hrel127 hR21 hR24 hWd O2 P5 SA SHI SLO O4 rG3 f133) hZ (Wd32 hw) (Wd31 hw) (by decide) (by decide)) (g := (fr_law m p1 p2 p3 p4 p5 112 (vI 2) (vI r21) (vI r24) (vI r27) (vI r30) (vR x127) (.val (.int (own_b ((Mk r21) ∨ (Mk r24))))) .unset [(.ref x127)])) rfl (by rw [hml]; rfl) (argsL := [(.ref x127)]) (rest := []) (lenOf pd_27 rfl) rfl (by show 2 * 0 + _ ≤ _; exact Nat.le_of_eq rfl) (D at_112) (fun _ _ => ⟨rfl, e135, (by decide : 4 + 0 ≤ _), (by decide : 12 + 0 ≤ _)⟩)
   dsimp only [Pt.U, Pt.locs, Pt.cells, Pt.slots] at X136 l136 y136 z136 st136 hQ136
   subst l136 y136 z136
   obtain ⟨Nq136, Eq136, hB136⟩ := hQ136
   rcases hB136 with ⟨hMr, rfl⟩ | ⟨hMr, rfl⟩
   ·skip
    have N137 := Fr.app N135 Nq136
    obtain ⟨Lh138, Xh138, Nh138⟩ := oHd 4 12 X136 N137 rfl rfl
    refine ownBy st136 ?_
    clear st136
    show oA p e below _ T136 (fr_law m p1 p2 p3 p4 p5 115 (vI 2) (vI r21) (vI r24) (vI r27) (vI r30) (vR x127) (.val (.int (own_b ((Mk r21) ∨ (Mk r24))))) .unset [(.ref AA)])
    refine oTo T136 (fr_law m p1 p2 p3 p4 p5 131 (vI 2) (vI r21) (vI r24) (vI r27) (vI r30) (vR x127) (.val (.int (own_b ((Mk r21) ∨ (Mk r24))))) (vR AA) [(.ref AA)]) (fun t kt => ?_) ?_
    ·refine XS.astore Xh138.here hx rfl (D at_115) rfl rfl (l' := #[vI p1, vI p2, vI p3, vI p4, vI p5, vI 2, vI r21, vI r24, vI r27, vI r30, vR x127, .val (.int (own_b ((Mk r21) ∨ (Mk r24)))), vR AA]) rfl ?_
     refine XS.aload Xh138.here hx rfl (D at_117) rfl rfl ?_
     refine XS.ifnonnullYes Xh138.here hx rfl (pc0 := 119) (pc' := 124) rfl (D at_119) rfl (by decide) (by decide) ?_
     refine XS.iload Xh138.here hx rfl (D at_124) rfl ?_
     refine XS.ifNo Xh138.here hx rfl (D at_126) rfl ((if0 _ _).trans (feq (own_bt0 hMr)).1) ?_
     refine XS.aload Xh138.here hx rfl (D at_129) rfl rfl ?_
     exact kt
    have f140 := EAA.ext f133.2
    obtain ⟨cq139, kq139, q139a, q139b, q139c⟩ := isOf hZ Eq136 f140
    obtain ⟨vv139, _, ⟨T139, L139, k139, n139⟩, -, X139, ⟨Lc139, hQ139, l139, y139, z139⟩, st139⟩ := Xh138.interfaceBack hx (xi := yM28) (y := yM23) hown (mvT hZ (Wd46 hw)) (mvT hZ (Wd47 hw)) (mvT hZ (Wd48 hw)) (mvT hZ (Wd111 hw)) (mvT hZ (Wd112 hw)) (mvT hZ (Wd113 hw)) (mvT hZ (Wd114 hw)) (mvT hZ (Wd115 hw)) (by decide) (backOf (W := 0) (c_lns l Z a0 hw [] PA AA MA HS H2 PG SQ EM EL kM kE ms T127.heap n0 f134 hWd f133) hZ (Wd117 hw) (Wd116 hw) (by decide) (by decide)) q139a q139b q139c (g := (fr_law m p1 p2 p3 p4 p5 131 (vI 2) (vI r21) (vI r24) (vI r27) (vI r30) (vR x127) (.val (.int (own_b ((Mk r21) ∨ (Mk r24))))) (vR AA) [(.ref AA)])) rfl (by rw [hml]; rfl) (Steps.refl _) (argsL := []) (rest := []) (lenOf pd_20 rfl) rfl (by show 2 * 0 + _ ≤ _; exact Nat.le_of_eq rfl) (D at_131) (fun _ _ => ⟨rfl, Eq136, (by decide : 4 + 0 ≤ _), (by decide : 12 + 0 ≤ _)⟩)
    dsimp only [Pt.U, Pt.locs, Pt.cells, Pt.slots] at X139 l139 y139 z139 st139 hQ139
    subst l139 y139 z139
    obtain ⟨rfl, Nq139, Eq139⟩ := hQ139
    have N141 := Fr.app Nh138 Nq139
    obtain ⟨Lh142, Xh142, Nh142⟩ := oHd 4 12 X139 N141 rfl rfl
    refine ownSt st139 ?_
    clear st139
    show oA p e below _ T139 (fr_law m p1 p2 p3 p4 p5 136 (vI 2) (vI r21) (vI r24) (vI r27) (vI r30) (vR x127) (.val (.int (own_b ((Mk r21) ∨ (Mk r24))))) (vR AA) [(iV 4)])
    refine oTo T139 (fr_law m p1 p2 p3 p4 p5 143 (vI 2) (vI r21) (vI r24) (vI r27) (vI r30) (vR x127) (.val (.int (own_b ((Mk r21) ∨ (Mk r24))))) (vR AA) [(iV 0), (.ref AA)]) (fun t kt => ?_) ?_
    ·refine XS.iconst Xh142.here hx rfl (D at_136) ?_
     refine XS.icmpNo Xh142.here hx rfl (D at_137) rfl (teq ((by decide) : (4 : Int32) = (4 : Int32))).2 ?_
     refine XS.aload Xh142.here hx rfl (D at_140) rfl rfl ?_
     refine XS.iconst Xh142.here hx rfl (D at_142) ?_
     exact kt
    obtain ⟨cq143, kq143, q143a, q143b, q143c⟩ := isOf hZ Eq139 f140
    obtain ⟨vv143, _, ⟨T143, L143, k143, n143⟩, -, X143, ⟨Lc143, hQ143, l143, y143, z143⟩, st143⟩ := Xh142.interfaceBack hx (xi := yM29) (y := yM24) hown (mvT hZ (Wd60 hw)) (mvT hZ (Wd61 hw)) (mvT hZ (Wd62 hw)) (mvT hZ (Wd120 hw)) (mvT hZ (Wd121 hw)) (mvT hZ (Wd122 hw)) (mvT hZ (Wd123 hw)) (mvT hZ (Wd115 hw)) (by decide) (backOf (W := 0) (c_lng0 l Z a0 hw [] PA AA MA HS H2 PG SQ EM EL kM kE ms T127.heap n0 f134 hWd f133) hZ (Wd124 hw) (Wd116 hw) (by decide) (by decide)) q143a q143b q143c (g := (fr_law m p1 p2 p3 p4 p5 143 (vI 2) (vI r21) (vI r24) (vI r27) (vI r30) (vR x127) (.val (.int (own_b ((Mk r21) ∨ (Mk r24))))) (vR AA) [(iV 0), (.ref AA)])) rfl (by rw [hml]; rfl) (Steps.refl _) (argsL := [(iV 0)]) (rest := []) (lenOf pd_28 rfl) rfl (by show 2 * 0 + _ ≤ _; exact Nat.le_of_eq rfl) (D at_143) (fun _ _ => ⟨rfl, Eq139, (by decide : 4 + 0 ≤ _), (by decide : 12 + 0 ≤ _)⟩)
    dsimp only [Pt.U, Pt.locs, Pt.cells, Pt.slots] at X143 l143 y143 z143 st143 hQ143
    subst l143 y143 z143
    obtain ⟨rfl, Nq143, Eq143⟩ := hQ143
    have N144 := Fr.app Nh142 Nq143
    obtain ⟨Lh145, Xh145, Nh145⟩ := oHd 4 12 X143 N144 rfl rfl
    refine ownSt st143 ?_
    clear st143
    show oA p e below _ T143 (fr_law m p1 p2 p3 p4 p5 148 (vI 2) (vI r21) (vI r24) (vI r27) (vI r30) (vR x127) (.val (.int (own_b ((Mk r21) ∨ (Mk r24))))) (vR AA) [(.ref HS)])
    refine own_getS Xh145 hx hZ hown (host := "") (Or.inl (Wd71 hw)) Via.refl Eq143 (SHS.ext f133.2) (D at_148) (fun T146 X146 e146 => ?_)
    refine oTo T146 (fr_law m p1 p2 p3 p4 p5 157 (vI 2) (vI r21) (vI r24) (vI r27) (vI r30) (vR x127) (.val (.int (own_b ((Mk r21) ∨ (Mk r24))))) (vR AA) [(iV 1), (.ref AA)]) (fun t kt => ?_) ?_
    ·refine Jvm.RoadKit.acmp (g := (fr_law m p1 p2 p3 p4 p5 151 (vI 2) (vI r21) (vI r24) (vI r27) (vI r30) (vR x127) (.val (.int (own_b ((Mk r21) ∨ (Mk r24))))) (vR AA) [(.ref HS), (.ref HS)])) X146 hx rfl rfl rfl (pc0 := 151) (pc' := 154) (same := true) rfl (D at_151) rfl (decide_eq_true rfl) (by decide) (by decide) ?_
     refine XS.aload X146.here hx rfl (D at_154) rfl rfl ?_
     refine XS.iconst X146.here hx rfl (D at_156) ?_
     exact kt
    obtain ⟨cq147, kq147, q147a, q147b, q147c⟩ := isOf hZ e146 f140
    obtain ⟨vv147, _, ⟨T147, L147, k147, n147⟩, -, X147, ⟨Lc147, hQ147, l147, y147, z147⟩, st147⟩ := X146.interfaceBack hx (xi := yM29) (y := yM24) hown (mvT hZ (Wd60 hw)) (mvT hZ (Wd61 hw)) (mvT hZ (Wd62 hw)) (mvT hZ (Wd120 hw)) (mvT hZ (Wd121 hw)) (mvT hZ (Wd122 hw)) (mvT hZ (Wd123 hw)) (mvT hZ (Wd115 hw)) (by decide) (backOf (W := 0) (c_lng1 l Z a0 hw [] PA AA MA HS H2 PG SQ EM EL kM kE ms T127.heap n0 f134 hWd f133) hZ (Wd124 hw) (Wd116 hw) (by decide) (by decide)) q147a q147b q147c (g := (fr_law m p1 p2 p3 p4 p5 157 (vI 2) (vI r21) (vI r24) (vI r27) (vI r30) (vR x127) (.val (.int (own_b ((Mk r21) ∨ (Mk r24))))) (vR AA) [(iV 1), (.ref AA)])) rfl (by rw [hml]; rfl) (Steps.refl _) (argsL := [(iV 1)]) (rest := []) (lenOf pd_28 rfl) rfl (by show 2 * 0 + _ ≤ _; exact Nat.le_of_eq rfl) (D at_157) (fun _ _ => ⟨rfl, e146, (by decide : 4 + 0 ≤ _), (by decide : 12 + 0 ≤ _)⟩)
    dsimp only [Pt.U, Pt.locs, Pt.cells, Pt.slots] at X147 l147 y147 z147 st147 hQ147
    subst l147 y147 z147
    obtain ⟨rfl, Nq147, Eq147⟩ := hQ147
    have N148 := Fr.app Nh145 Nq147
    obtain ⟨Lh149, Xh149, Nh149⟩ := oHd 4 12 X147 N148 rfl rfl
    refine ownSt st147 ?_
    clear st147
    show oA p e below _ T147 (fr_law m p1 p2 p3 p4 p5 162 (vI 2) (vI r21) (vI r24) (vI r27) (vI r30) (vR x127) (.val (.int (own_b ((Mk r21) ∨ (Mk r24))))) (vR AA) [(.ref H2)])
    refine own_getS Xh149 hx hZ hown (host := "") (Or.inl (Wd126 hw)) Via.refl Eq147 (SH2.ext f133.2) (D at_162) (fun T150 X150 e150 => ?_)
    refine oTo T150 (fr_law m p1 p2 p3 p4 p5 171 (vI 2) (vI r21) (vI r24) (vI r27) (vI r30) (vR x127) (.val (.int (own_b ((Mk r21) ∨ (Mk r24))))) (vR AA) [(iV 2), (.ref AA)]) (fun t kt => ?_) ?_
    ·refine Jvm.RoadKit.acmp (g := (fr_law m p1 p2 p3 p4 p5 165 (vI 2) (vI r21) (vI r24) (vI r27) (vI r30) (vR x127) (.val (.int (own_b ((Mk r21) ∨ (Mk r24))))) (vR AA) [(.ref H2), (.ref H2)])) X150 hx rfl rfl rfl (pc0 := 165) (pc' := 168) (same := true) rfl (D at_165) rfl (decide_eq_true rfl) (by decide) (by decide) ?_
     refine XS.aload X150.here hx rfl (D at_168) rfl rfl ?_
     refine XS.iconst X150.here hx rfl (D at_170) ?_
     exact kt
    obtain ⟨cq151, kq151, q151a, q151b, q151c⟩ := isOf hZ e150 f140
    obtain ⟨vv151, _, ⟨T151, L151, k151, n151⟩, -, X151, ⟨Lc151, hQ151, l151, y151, z151⟩, st151⟩ := X150.interfaceBack hx (xi := yM29) (y := yM24) hown (mvT hZ (Wd60 hw)) (mvT hZ (Wd61 hw)) (mvT hZ (Wd62 hw)) (mvT hZ (Wd120 hw)) (mvT hZ (Wd121 hw)) (mvT hZ (Wd122 hw)) (mvT hZ (Wd123 hw)) (mvT hZ (Wd115 hw)) (by decide) (backOf (W := 0) (c_lng2 l Z a0 hw [] PA AA MA HS H2 PG SQ EM EL kM kE ms T127.heap n0 f134 hWd f133) hZ (Wd124 hw) (Wd116 hw) (by decide) (by decide)) q151a q151b q151c (g := (fr_law m p1 p2 p3 p4 p5 171 (vI 2) (vI r21) (vI r24) (vI r27) (vI r30) (vR x127) (.val (.int (own_b ((Mk r21) ∨ (Mk r24))))) (vR AA) [(iV 2), (.ref AA)])) rfl (by rw [hml]; rfl) (Steps.refl _) (argsL := [(iV 2)]) (rest := []) (lenOf pd_28 rfl) rfl (by show 2 * 0 + _ ≤ _; exact Nat.le_of_eq rfl) (D at_171) (fun _ _ => ⟨rfl, e150, (by decide : 4 + 0 ≤ _), (by decide : 12 + 0 ≤ _)⟩)
    dsimp only [Pt.U, Pt.locs, Pt.cells, Pt.slots] at X151 l151 y151 z151 st151 hQ151
    subst l151 y151 z151
    obtain ⟨rfl, Nq151, Eq151⟩ := hQ151
    have N152 := Fr.app Nh149 Nq151
    obtain ⟨Lh153, Xh153, Nh153⟩ := oHd 4 12 X151 N152 rfl rfl
    refine ownSt st151 ?_
    clear st151
    show oA p e below _ T151 (fr_law m p1 p2 p3 p4 p5 176 (vI 2) (vI r21) (vI r24) (vI r27) (vI r30) (vR x127) (.val (.int (own_b ((Mk r21) ∨ (Mk r24))))) (vR AA) [(.ref PG)])
    refine own_getS Xh153 hx hZ hown (host := "") (Or.inl (Wd128 hw)) Via.refl Eq151 (SPG.ext f133.2) (D at_176) (fun T154 X154 e154 => ?_)
    refine oTo T154 (fr_law m p1 p2 p3 p4 p5 185 (vI 2) (vI r21) (vI r24) (vI r27) (vI r30) (vR x127) (.val (.int (own_b ((Mk r21) ∨ (Mk r24))))) (vR AA) [(iV 3), (.ref AA)]) (fun t kt => ?_) ?_
    ·refine Jvm.RoadKit.acmp (g := (fr_law m p1 p2 p3 p4 p5 179 (vI 2) (vI r21) (vI r24) (vI r27) (vI r30) (vR x127) (.val (.int (own_b ((Mk r21) ∨ (Mk r24))))) (vR AA) [(.ref PG), (.ref PG)])) X154 hx rfl rfl rfl (pc0 := 179) (pc' := 182) (same := true) rfl (D at_179) rfl (decide_eq_true rfl) (by decide) (by decide) ?_
     refine XS.aload X154.here hx rfl (D at_182) rfl rfl ?_
     refine XS.iconst X154.here hx rfl (D at_184) ?_
     exact kt
    obtain ⟨cq155, kq155, q155a, q155b, q155c⟩ := isOf hZ e154 f140
    obtain ⟨vv155, _, ⟨T155, L155, k155, n155⟩, -, X155, ⟨Lc155, hQ155, l155, y155, z155⟩, st155⟩ := X154.interfaceBack hx (xi := yM29) (y := yM24) hown (mvT hZ (Wd60 hw)) (mvT hZ (Wd61 hw)) (mvT hZ (Wd62 hw)) (mvT hZ (Wd120 hw)) (mvT hZ (Wd121 hw)) (mvT hZ (Wd122 hw)) (mvT hZ (Wd123 hw)) (mvT hZ (Wd115 hw)) (by decide) (backOf (W := 0) (c_lng3 l Z a0 hw [] PA AA MA HS H2 PG SQ EM EL kM kE ms T127.heap n0 f134 hWd f133) hZ (Wd124 hw) (Wd116 hw) (by decide) (by decide)) q155a q155b q155c (g := (fr_law m p1 p2 p3 p4 p5 185 (vI 2) (vI r21) (vI r24) (vI r27) (vI r30) (vR x127) (.val (.int (own_b ((Mk r21) ∨ (Mk r24))))) (vR AA) [(iV 3), (.ref AA)])) rfl (by rw [hml]; rfl) (Steps.refl _) (argsL := [(iV 3)]) (rest := []) (lenOf pd_28 rfl) rfl (by show 2 * 0 + _ ≤ _; exact Nat.le_of_eq rfl) (D at_185) (fun _ _ => ⟨rfl, e154, (by decide : 4 + 0 ≤ _), (by decide : 12 + 0 ≤ _)⟩)
    dsimp only [Pt.U, Pt.locs, Pt.cells, Pt.slots] at X155 l155 y155 z155 st155 hQ155
    subst l155 y155 z155
    obtain ⟨rfl, Nq155, Eq155⟩ := hQ155
    have N156 := Fr.app Nh153 Nq155
    obtain ⟨Lh157, Xh157, Nh157⟩ := oHd 4 12 X155 N156 rfl rfl
    refine ownSt st155 ?_
    clear st155
    show oA p e below _ T155 (fr_law m p1 p2 p3 p4 p5 190 (vI 2) (vI r21) (vI r24) (vI r27) (vI r30) (vR x127) (.val (.int (own_b ((Mk r21) ∨ (Mk r24))))) (vR AA) [(.ref SQ)])
    refine own_getS Xh157 hx hZ hown (host := "") (Or.inl (Wd130 hw)) Via.refl Eq155 (SSQ.ext f133.2) (D at_190) (fun T158 X158 e158 => ?_)
    refine oTo T158 (fr_law m p1 p2 p3 p4 p5 201 (vI 2) (vI r21) (vI r24) (vI r27) (vI r30) (vR x127) (.val (.int (own_b ((Mk r21) ∨ (Mk r24))))) (vR AA) [(iV 1)]) (fun t kt => ?_) ?_
    ·refine Jvm.RoadKit.acmp (g := (fr_law m p1 p2 p3 p4 p5 193 (vI 2) (vI r21) (vI r24) (vI r27) (vI r30) (vR x127) (.val (.int (own_b ((Mk r21) ∨ (Mk r24))))) (vR AA) [(.ref SQ), (.ref SQ)])) X158 hx rfl rfl rfl (pc0 := 193) (pc' := 196) (same := true) rfl (D at_193) rfl (decide_eq_true rfl) (by decide) (by decide) ?_
     refine XS.iconst X158.here hx rfl (D at_196) ?_
     refine XS.goto X158.here hx rfl (pc0 := 197) (pc' := 201) rfl (D at_197) (by decide) (by decide) ?_
     exact kt
    refine ownRetH X158 hS0 (by rw [e158]; exact (Nat.le_trans (Nat.le_refl _) Kq127.1)) Bd.notSynchronized (v := some (.int (nar .boolean (1 : Int32)))) (fun h => by rw [Bd.returns] at h; cases h) ?_ (R131.trans ((by rw [e158]; exact CHv.at X158 hZ hEL R131.1))) (oLe rfl) (oLe rfl) (fun fs hr => retN X158 hx (t := .boolean) Bd.returns (by simp) (D at_201) hr)
    show (Q_law Z p1 p2 p3 p4 p5 PA AA MA HS H2 PG SQ EM EL kM kE ms G1 G3 h0 n0) (some (.int (nar .boolean (1 : Int32)))) T158.heap _
    rw [e158]
    exact ⟨rfl, Nh157⟩
   ·skip
    have N160 := Fr.app N135 Nq136
    obtain ⟨Lh161, Xh161, Nh161⟩ := oHd 4 12 X136 N160 rfl rfl
    refine ownBy st136 ?_
    clear st136
    show oA p e below _ T136 (fr_law m p1 p2 p3 p4 p5 115 (vI 2) (vI r21) (vI r24) (vI r27) (vI r30) (vR x127) (.val (.int (own_b ((Mk r21) ∨ (Mk r24))))) .unset [(.ref PA)])
    refine oTo T136 (fr_law m p1 p2 p3 p4 p5 204 (vI 2) (vI r21) (vI r24) (vI r27) (vI r30) (vR x127) (.val (.int (own_b ((Mk r21) ∨ (Mk r24))))) (vR PA) [(.ref PA)]) (fun t kt => ?_) ?_
    ·refine XS.astore Xh161.here hx rfl (D at_115) rfl rfl (l' := #[vI p1, vI p2, vI p3, vI p4, vI p5, vI 2, vI r21, vI r24, vI r27, vI r30, vR x127, .val (.int (own_b ((Mk r21) ∨ (Mk r24)))), vR PA]) rfl ?_
     refine XS.aload Xh161.here hx rfl (D at_117) rfl rfl ?_
     refine XS.ifnonnullYes Xh161.here hx rfl (pc0 := 119) (pc' := 124) rfl (D at_119) rfl (by decide) (by decide) ?_
     refine XS.iload Xh161.here hx rfl (D at_124) rfl ?_
     refine XS.ifYes Xh161.here hx rfl (pc0 := 126) (pc' := 202) rfl (D at_126) rfl ((if0 _ _).trans (teq (own_bf0 hMr)).1) (by decide) (by decide) ?_
     refine XS.aload Xh161.here hx rfl (D at_202) rfl rfl ?_
     exact kt
    have f163 := EPA.ext f133.2
    obtain ⟨cq162, kq162, q162a, q162b, q162c⟩ := isOf hZ Eq136 f163
    obtain ⟨vv162, _, ⟨T162, L162, k162, n162⟩, -, X162, ⟨Lc162, hQ162, l162, y162, z162⟩, st162⟩ := Xh161.interfaceBack hx (xi := yM28) (y := yM21) hown (mvT hZ (Wd46 hw)) (mvT hZ (Wd47 hw)) (mvT hZ (Wd48 hw)) (mvT hZ (Wd49 hw)) (mvT hZ (Wd50 hw)) (mvT hZ (Wd51 hw)) (mvT hZ (Wd52 hw)) (mvT hZ (Wd53 hw)) (by decide) (backOf (W := 0) (c_l12s l Z a0 hw [] PA AA MA HS H2 PG SQ EM EL kM kE ms T127.heap n0 f134 hWd f133) hZ (Wd55 hw) (Wd54 hw) (by decide) (by decide)) q162a q162b q162c (g := (fr_law m p1 p2 p3 p4 p5 204 (vI 2) (vI r21) (vI r24) (vI r27) (vI r30) (vR x127) (.val (.int (own_b ((Mk r21) ∨ (Mk r24))))) (vR PA) [(.ref PA)])) rfl (by rw [hml]; rfl) (Steps.refl _) (argsL := []) (rest := []) (lenOf pd_20 rfl) rfl (by show 2 * 0 + _ ≤ _; exact Nat.le_of_eq rfl) (D at_204) (fun _ _ => ⟨rfl, Eq136, (by decide : 4 + 0 ≤ _), (by decide : 12 + 0 ≤ _)⟩)
    dsimp only [Pt.U, Pt.locs, Pt.cells, Pt.slots] at X162 l162 y162 z162 st162 hQ162
    subst l162 y162 z162
    obtain ⟨rfl, Nq162, Eq162⟩ := hQ162
    have N164 := Fr.app Nh161 Nq162
    obtain ⟨Lh165, Xh165, Nh165⟩ := oHd 4 12 X162 N164 rfl rfl
    refine ownSt st162 ?_
    clear st162
    show oA p e below _ T162 (fr_law m p1 p2 p3 p4 p5 209 (vI 2) (vI r21) (vI r24) (vI r27) (vI r30) (vR x127) (.val (.int (own_b ((Mk r21) ∨ (Mk r24))))) (vR PA) [(iV 1)])
    refine oTo T162 (fr_law m p1 p2 p3 p4 p5 216 (vI 2) (vI r21) (vI r24) (vI r27) (vI r30) (vR x127) (.val (.int (own_b ((Mk r21) ∨ (Mk r24))))) (vR PA) [(iV 0), (.ref PA)]) (fun t kt => ?_) ?_
    ·refine XS.iconst Xh165.here hx rfl (D at_209) ?_
     refine XS.icmpNo Xh165.here hx rfl (D at_210) rfl (teq ((by decide) : (1 : Int32) = (1 : Int32))).2 ?_
     refine XS.aload Xh165.here hx rfl (D at_213) rfl rfl ?_
     refine XS.iconst Xh165.here hx rfl (D at_215) ?_
     exact kt
    obtain ⟨cq166, kq166, q166a, q166b, q166c⟩ := isOf hZ Eq162 f163
    obtain ⟨vv166, _, ⟨T166, L166, k166, n166⟩, -, X166, ⟨Lc166, hQ166, l166, y166, z166⟩, st166⟩ := Xh165.interfaceBack hx (xi := yM29) (y := yM22) hown (mvT hZ (Wd60 hw)) (mvT hZ (Wd61 hw)) (mvT hZ (Wd62 hw)) (mvT hZ (Wd63 hw)) (mvT hZ (Wd64 hw)) (mvT hZ (Wd65 hw)) (mvT hZ (Wd66 hw)) (mvT hZ (Wd53 hw)) (by decide) (backOf (W := 0) (c_l12g l Z a0 hw [] PA AA MA HS H2 PG SQ EM EL kM kE ms T127.heap n0 f134 hWd f133) hZ (Wd67 hw) (Wd54 hw) (by decide) (by decide)) q166a q166b q166c (g := (fr_law m p1 p2 p3 p4 p5 216 (vI 2) (vI r21) (vI r24) (vI r27) (vI r30) (vR x127) (.val (.int (own_b ((Mk r21) ∨ (Mk r24))))) (vR PA) [(iV 0), (.ref PA)])) rfl (by rw [hml]; rfl) (Steps.refl _) (argsL := [(iV 0)]) (rest := []) (lenOf pd_28 rfl) rfl (by show 2 * 0 + _ ≤ _; exact Nat.le_of_eq rfl) (D at_216) (fun _ _ => ⟨rfl, Eq162, (by decide : 4 + 0 ≤ _), (by decide : 12 + 0 ≤ _)⟩)
    dsimp only [Pt.U, Pt.locs, Pt.cells, Pt.slots] at X166 l166 y166 z166 st166 hQ166
    subst l166 y166 z166
    obtain ⟨rfl, Nq166, Eq166⟩ := hQ166
    have N167 := Fr.app Nh165 Nq166
    obtain ⟨Lh168, Xh168, Nh168⟩ := oHd 4 12 X166 N167 rfl rfl
    refine ownSt st166 ?_
    clear st166
    show oA p e below _ T166 (fr_law m p1 p2 p3 p4 p5 221 (vI 2) (vI r21) (vI r24) (vI r27) (vI r30) (vR x127) (.val (.int (own_b ((Mk r21) ∨ (Mk r24))))) (vR PA) [(.ref HS)])
    refine own_getS Xh168 hx hZ hown (host := "") (Or.inl (Wd71 hw)) Via.refl Eq166 (SHS.ext f133.2) (D at_221) (fun T169 X169 e169 => ?_)
    refine oTo T169 (fr_law m p1 p2 p3 p4 p5 232 (vI 2) (vI r21) (vI r24) (vI r27) (vI r30) (vR x127) (.val (.int (own_b ((Mk r21) ∨ (Mk r24))))) (vR PA) [(iV 1)]) (fun t kt => ?_) ?_
    ·refine Jvm.RoadKit.acmp (g := (fr_law m p1 p2 p3 p4 p5 224 (vI 2) (vI r21) (vI r24) (vI r27) (vI r30) (vR x127) (.val (.int (own_b ((Mk r21) ∨ (Mk r24))))) (vR PA) [(.ref HS), (.ref HS)])) X169 hx rfl rfl rfl (pc0 := 224) (pc' := 227) (same := true) rfl (D at_224) rfl (decide_eq_true rfl) (by decide) (by decide) ?_
     refine XS.iconst X169.here hx rfl (D at_227) ?_
     refine XS.goto X169.here hx rfl (pc0 := 228) (pc' := 232) rfl (D at_228) (by decide) (by decide) ?_
     exact kt
    refine ownRetH X169 hS0 (by rw [e169]; exact (Nat.le_trans (Nat.le_refl _) Kq127.1)) Bd.notSynchronized (v := some (.int (nar .boolean (1 : Int32)))) (fun h => by rw [Bd.returns] at h; cases h) ?_ (R131.trans ((by rw [e169]; exact CHv.at X169 hZ hEL R131.1))) (oLe rfl) (oLe rfl) (fun fs hr => retN X169 hx (t := .boolean) Bd.returns (by simp) (D at_232) hr)
    show (Q_law Z p1 p2 p3 p4 p5 PA AA MA HS H2 PG SQ EM EL kM kE ms G1 G3 h0 n0) (some (.int (nar .boolean (1 : Int32)))) T169.heap _
    rw [e169]
    exact ⟨rfl, Nh168⟩
  refine oTo T127 (fr_law m p1 p2 p3 p4 p5 55 (vI 2) (vI r21) (vI r24) (vI r27) (vI r30) (vR x127) .unset .unset [(.int r21)]) (fun t kt => ?_) ?_
  ·refine XS.iload Xh132.here hx rfl (D at_48) rfl ?_
   refine XS.ifNo Xh132.here hx rfl (D at_50) rfl ((if0 _ _).trans (tlt ((by decide) : (0 : Int32) < (2 : Int32))).2.2.2) ?_
   refine XS.iload Xh132.here hx rfl (D at_53) rfl ?_
   exact kt
  obtain ⟨vv171, _, ⟨T171, L171, k171, n171⟩, -, X171, ⟨Lc171, hQ171, l171, y171, z171⟩, st171⟩ := Jvm.LawKit.callS Xh132 hx (y := yM26) hown (mvT hZ (Wd82 hw)) (mvT hZ (Wd83 hw)) (mvT hZ (Wd2 hw)) (mvT hZ (Wd84 hw)) (by decide) (backOf (W := 0) (c_ism l Z a0 hw [] r21 T127.heap n0 f134 ) hZ (Wd84 hw) (Wd2 hw) (by decide) (by decide)) (g := (fr_law m p1 p2 p3 p4 p5 55 (vI 2) (vI r21) (vI r24) (vI r27) (vI r30) (vR x127) .unset .unset [(.int r21)])) rfl (by rw [hml]; rfl) (argsL := [(.int r21)]) (rest := []) (lenOf pd_29 rfl) rfl (by show 2 * 0 + _ ≤ _; exact Nat.le_of_eq rfl) (D at_55) (fun _ _ => ⟨rfl, rfl, (by decide : 4 + 0 ≤ _), (by decide : 12 + 0 ≤ _)⟩)
  dsimp only [Pt.U, Pt.locs, Pt.cells, Pt.slots] at X171 l171 y171 z171 st171 hQ171
  subst l171 y171 z171
  obtain ⟨rfl, Nq171, Eq171⟩ := hQ171
  have N172 := Fr.app Nh132 Nq171
  obtain ⟨Lh173, Xh173, Nh173⟩ := oHd 4 12 X171 N172 rfl rfl
  refine ownBy st171 ?_
  clear st171
  show oA p e below _ T171 (fr_law m p1 p2 p3 p4 p5 58 (vI 2) (vI r21) (vI r24) (vI r27) (vI r30) (vR x127) .unset .unset [(.int (own_b (Mk r21)))])
  by_cases hc174 : Mk r21
  ·skip
   refine oTo T171 (fr_law m p1 p2 p3 p4 p5 108 (vI 2) (vI r21) (vI r24) (vI r27) (vI r30) (vR x127) .unset .unset [(iV 1)]) (fun t kt => ?_) ?_
   ·refine XS.ifYes Xh173.here hx rfl (pc0 := 58) (pc' := 103) rfl (D at_58) rfl ((if0 _ _).trans (feq (own_bt0 hc174)).2) (by decide) (by decide) ?_
    refine XS.iconst Xh173.here hx rfl (D at_103) ?_
    refine XS.goto Xh173.here hx rfl (pc0 := 104) (pc' := 108) rfl (D at_104) (by decide) (by decide) ?_
    exact kt
   have q := rest _ _ Xh173 Nh173 Eq171
   rw [own_bt1 (p := (Mk r21) ∨ (Mk r24)) (Or.inl hc174)] at q
   exact q
  ·skip
   refine oTo T171 (fr_law m p1 p2 p3 p4 p5 69 (vI 2) (vI r21) (vI r24) (vI r27) (vI r30) (vR x127) .unset .unset [(.int r24)]) (fun t kt => ?_) ?_
   ·refine XS.ifNo Xh173.here hx rfl (D at_58) rfl ((if0 _ _).trans (teq (own_bf0 hc174)).2) ?_
    refine XS.iload Xh173.here hx rfl (D at_61) rfl ?_
    refine XS.iconst Xh173.here hx rfl (D at_63) ?_
    refine XS.icmpNo Xh173.here hx rfl (D at_64) rfl (tlt ((by decide) : (1 : Int32) < (2 : Int32))).2.2.2 ?_
    refine XS.iload Xh173.here hx rfl (D at_67) rfl ?_
    exact kt
   obtain ⟨vv175, _, ⟨T175, L175, k175, n175⟩, -, X175, ⟨Lc175, hQ175, l175, y175, z175⟩, st175⟩ := Jvm.LawKit.callS Xh173 hx (y := yM26) hown (mvT hZ (Wd82 hw)) (mvT hZ (Wd83 hw)) (mvT hZ (Wd2 hw)) (mvT hZ (Wd84 hw)) (by decide) (backOf (W := 0) (c_ism l Z a0 hw [] r24 T127.heap n0 f134 ) hZ (Wd84 hw) (Wd2 hw) (by decide) (by decide)) (g := (fr_law m p1 p2 p3 p4 p5 69 (vI 2) (vI r21) (vI r24) (vI r27) (vI r30) (vR x127) .unset .unset [(.int r24)])) rfl (by rw [hml]; rfl) (argsL := [(.int r24)]) (rest := []) (lenOf pd_29 rfl) rfl (by show 2 * 0 + _ ≤ _; exact Nat.le_of_eq rfl) (D at_69) (fun _ _ => ⟨rfl, Eq171, (by decide : 4 + 0 ≤ _), (by decide : 12 + 0 ≤ _)⟩)
   dsimp only [Pt.U, Pt.locs, Pt.cells, Pt.slots] at X175 l175 y175 z175 st175 hQ175
   subst l175 y175 z175
   obtain ⟨rfl, Nq175, Eq175⟩ := hQ175
   have N176 := Fr.app Nh173 Nq175
   obtain ⟨Lh177, Xh177, Nh177⟩ := oHd 4 12 X175 N176 rfl rfl
   refine ownBy st175 ?_
   clear st175
   show oA p e below _ T175 (fr_law m p1 p2 p3 p4 p5 72 (vI 2) (vI r21) (vI r24) (vI r27) (vI r30) (vR x127) .unset .unset [(.int (own_b (Mk r24)))])
   by_cases hc178 : Mk r24
   ·skip
    refine oTo T175 (fr_law m p1 p2 p3 p4 p5 108 (vI 2) (vI r21) (vI r24) (vI r27) (vI r30) (vR x127) .unset .unset [(iV 1)]) (fun t kt => ?_) ?_
    ·refine XS.ifYes Xh177.here hx rfl (pc0 := 72) (pc' := 103) rfl (D at_72) rfl ((if0 _ _).trans (feq (own_bt0 hc178)).2) (by decide) (by decide) ?_
     refine XS.iconst Xh177.here hx rfl (D at_103) ?_
     refine XS.goto Xh177.here hx rfl (pc0 := 104) (pc' := 108) rfl (D at_104) (by decide) (by decide) ?_
     exact kt
    have q := rest _ _ Xh177 Nh177 Eq175
    rw [own_bt1 (p := (Mk r21) ∨ (Mk r24)) (Or.inr (hc178))] at q
    exact q
   ·skip
    refine oTo T175 (fr_law m p1 p2 p3 p4 p5 108 (vI 2) (vI r21) (vI r24) (vI r27) (vI r30) (vR x127) .unset .unset [(iV 0)]) (fun t kt => ?_) ?_
    ·refine XS.ifNo Xh177.here hx rfl (D at_72) rfl ((if0 _ _).trans (teq (own_bf0 hc178)).2) ?_
     refine XS.iload Xh177.here hx rfl (D at_75) rfl ?_
     refine XS.iconst Xh177.here hx rfl (D at_77) ?_
     refine XS.icmpYes Xh177.here hx rfl (pc0 := 78) (pc' := 89) rfl (D at_78) rfl (flt ((by decide) : ¬ ((2 : Int32) < (2 : Int32)))).2.2.2 (by decide) (by decide) ?_
     refine XS.iload Xh177.here hx rfl (D at_89) rfl ?_
     refine XS.iconst Xh177.here hx rfl (D at_91) ?_
     refine XS.icmpYes Xh177.here hx rfl (pc0 := 92) (pc' := 107) rfl (D at_92) rfl (flt ((by decide) : ¬ ((3 : Int32) < (2 : Int32)))).2.2.2 (by decide) (by decide) ?_
     refine XS.iconst Xh177.here hx rfl (D at_107) ?_
     exact kt
    have q := rest _ _ Xh177 Nh177 Eq175
    rw [own_bf0 (p := (Mk r21) ∨ (Mk r24)) ((fun q => q.elim hc174 hc178))] at q
    exact q
 ·skip
  show oA p e below _ T30 (fr_law m p1 p2 p3 p4 p5 33 (vI 3) (vI r21) (vI r24) (vI r27) (vI r30) .unset .unset .unset [])
  refine oTo T30 (fr_law m p1 p2 p3 p4 p5 43 (vI 3) (vI r21) (vI r24) (vI r27) (vI r30) .unset .unset .unset [(.int r30), (.int r27), (.int r24), (.int r21), (iV 3)]) (fun t kt => ?_) ?_
  ·refine XS.iload Xh32.here hx rfl (D at_33) rfl ?_
   refine XS.iload Xh32.here hx rfl (D at_35) rfl ?_
   refine XS.iload Xh32.here hx rfl (D at_37) rfl ?_
   refine XS.iload Xh32.here hx rfl (D at_39) rfl ?_
   refine XS.iload Xh32.here hx rfl (D at_41) rfl ?_
   exact kt
  obtain ⟨vv179, _, ⟨T179, L179, k179, n179⟩, -, X179, ⟨Lc179, hQ179, l179, y179, z179⟩, st179⟩ := Jvm.LawKit.callS Xh32 hx (y := yM27) hown (mvT hZ (Wd4 hw)) (mvT hZ (Wd5 hw)) (mvT hZ (Wd2 hw)) (mvT hZ (Wd6 hw)) (by decide) (backOf (W := 0) (c_mk3 l Z a0 hw [] r21 r24 r27 r30 G1 h0 n0 Z0 hR21 hR24 hR27 hR30 O2 P5 SA SHI SLO X00) hZ (Wd6 hw) (Wd2 hw) (by decide) (by decide)) (g := (fr_law m p1 p2 p3 p4 p5 43 (vI 3) (vI r21) (vI r24) (vI r27) (vI r30) .unset .unset .unset [(.int r30), (.int r27), (.int r24), (.int r21), (iV 3)])) rfl (by rw [hml]; rfl) (argsL := [(iV 3), (.int r21), (.int r24), (.int r27), (.int r30)]) (rest := []) (lenOf pd_26 rfl) rfl (by show 2 * 0 + _ ≤ _; exact Nat.le_of_eq rfl) (D at_43) (fun _ _ => ⟨rfl, Eq30, (by decide : 0 + 4 ≤ _), (by decide : 0 + 16 ≤ _)⟩)
  dsimp only [Pt.U, Pt.locs, Pt.cells, Pt.slots] at X179 l179 y179 z179 st179 hQ179
  subst l179 y179 z179
  obtain ⟨x179, t179, kb179, cd179, z179, vs179, rfl, Nq179, Kq179, zq179, Eq179, Vq179, Cq179, Aq179, hrel179⟩ := hQ179
  have g180 : n0 ≤ x179 := Nat.le_trans Z0 zq179
  have z181 : h0.size ≤ x179 := Nat.le_trans (Nat.le_refl h0.size) zq179
  have N182 := Fr.app Nh32 Nq179
  have R183 := R0.trans (CHr.keep Kq179 sf0 R0.1)
  obtain ⟨Lh184, Xh184, Nh184⟩ := oHd 4 16 X179 N182 rfl rfl
  refine ownBy st179 ?_
  clear st179
  show oA p e below _ T179 (fr_law m p1 p2 p3 p4 p5 46 (vI 3) (vI r21) (vI r24) (vI r27) (vI r30) .unset .unset .unset [(.ref x179)])
  refine oTo T179 (fr_law m p1 p2 p3 p4 p5 48 (vI 3) (vI r21) (vI r24) (vI r27) (vI r30) (vR x179) .unset .unset []) (fun t kt => ?_) ?_
  ·refine XS.astore Xh184.here hx rfl (D at_46) rfl rfl (l' := #[vI p1, vI p2, vI p3, vI p4, vI p5, vI 3, vI r21, vI r24, vI r27, vI r30, vR x179, .unset, .unset]) rfl ?_
   exact kt
  have f185 := (X00.keep Kq179 all0)
  have f186 := (Nat.le_trans Z0 Kq179.1)
  refine own_cut (C := fun P => ∀ (T : State) (Lx : List Loc), Stand p l e room_1 (s.setVm s.vm) m #[(.int p1), (.int p2), (.int p3), (.int p4), (.int p5)] below meth c T Lx 4 16 → Fr n0 Lx → T.heap = T179.heap → ownG p.tables e below P (T.setTop (fr_law m p1 p2 p3 p4 p5 108 (vI 3) (vI r21) (vI r24) (vI r27) (vI r30) (vR x179) .unset .unset [(.int (own_b ((Mk r21) ∨ (Mk r24) ∨ (Mk r27))))]))) ?_ (fun rest => ?_)
  ·intro T187 L187 X187 N187 e187
   refine oTo T187 (fr_law m p1 p2 p3 p4 p5 112 (vI 3) (vI r21) (vI r24) (vI r27) (vI r30) (vR x179) (.val (.int (own_b ((Mk r21) ∨ (Mk r24) ∨ (Mk r27))))) .unset [(.ref x179)]) (fun t kt => ?_) ?_
   ·refine XS.istore X187.here hx rfl (D at_108) rfl (l' := #[vI p1, vI p2, vI p3, vI p4, vI p5, vI 3, vI r21, vI r24, vI r27, vI r30, vR x179, .val (.int (own_b ((Mk r21) ∨ (Mk r24) ∨ (Mk r27)))), .unset]) rfl ?_
    refine XS.aload X187.here hx rfl (D at_110) rfl rfl ?_
    exact kt
   obtain ⟨vv188, _, ⟨T188, L188, k188, n188⟩, -, X188, ⟨Lc188, hQ188, l188, y188, z188⟩, st188⟩ := Jvm.LawKit.callS X187 hx (y := yM20) hown (mvT hZ (Wd29 hw)) (mvT hZ (Wd30 hw)) (mvT hZ (Wd31 hw)) (mvT hZ (Wd32 hw)) (by decide) (backOf (W := 0) (c_rd3 l Z a0 hw [] x179 t179 kb179 cd179 z179 vs179 r21 r24 r27 PA AA MA HS H2 PG SQ EM EL kM kE ms G1 G3 T179.heap n0 f186 Eq179 Vq179 Cq179 Aq179 hrel179 hR21 hR24 hR27 hWd O2 P5 SA SHI SLO O4 rG3 f185) hZ (Wd32 hw) (Wd31 hw) (by decide) (by decide)) (g := (fr_law m p1 p2 p3 p4 p5 112 (vI 3) (vI r21) (vI r24) (vI r27) (vI r30) (vR x179) (.val (.int (own_b ((Mk r21) ∨ (Mk r24) ∨ (Mk r27))))) .unset [(.ref x179)])) rfl (by rw [hml]; rfl) (argsL := [(.ref x179)]) (rest := []) (lenOf pd_27 rfl) rfl (by show 2 * 0 + _ ≤ _; exact Nat.le_of_eq rfl) (D at_112) (fun _ _ => ⟨rfl, e187, (by decide : 4 + 0 ≤ _), (by decide : 16 + 0 ≤ _)⟩)
   dsimp only [Pt.U, Pt.locs, Pt.cells, Pt.slots] at X188 l188 y188 z188 st188 hQ188
   subst l188 y188 z188
   obtain ⟨Nq188, Eq188, hB188⟩ := hQ188
   rcases hB188 with ⟨hMr, rfl⟩ | ⟨hMr, rfl⟩
   ·skip
    have N189 := Fr.app N187 Nq188
    obtain ⟨Lh190, Xh190, Nh190⟩ := oHd 4 16 X188 N189 rfl rfl
    refine ownBy st188 ?_
    clear st188
    show oA p e below _ T188 (fr_law m p1 p2 p3 p4 p5 115 (vI 3) (vI r21) (vI r24) (vI r27) (vI r30) (vR x179) (.val (.int (own_b ((Mk r21) ∨ (Mk r24) ∨ (Mk r27))))) .unset [(.ref AA)])
    refine oTo T188 (fr_law m p1 p2 p3 p4 p5 131 (vI 3) (vI r21) (vI r24) (vI r27) (vI r30) (vR x179) (.val (.int (own_b ((Mk r21) ∨ (Mk r24) ∨ (Mk r27))))) (vR AA) [(.ref AA)]) (fun t kt => ?_) ?_
    ·refine XS.astore Xh190.here hx rfl (D at_115) rfl rfl (l' := #[vI p1, vI p2, vI p3, vI p4, vI p5, vI 3, vI r21, vI r24, vI r27, vI r30, vR x179, .val (.int (own_b ((Mk r21) ∨ (Mk r24) ∨ (Mk r27)))), vR AA]) rfl ?_
     refine XS.aload Xh190.here hx rfl (D at_117) rfl rfl ?_
     refine XS.ifnonnullYes Xh190.here hx rfl (pc0 := 119) (pc' := 124) rfl (D at_119) rfl (by decide) (by decide) ?_
     refine XS.iload Xh190.here hx rfl (D at_124) rfl ?_
     refine XS.ifNo Xh190.here hx rfl (D at_126) rfl ((if0 _ _).trans (feq (own_bt0 hMr)).1) ?_
     refine XS.aload Xh190.here hx rfl (D at_129) rfl rfl ?_
     exact kt
    have f192 := EAA.ext f185.2
    obtain ⟨cq191, kq191, q191a, q191b, q191c⟩ := isOf hZ Eq188 f192
    obtain ⟨vv191, _, ⟨T191, L191, k191, n191⟩, -, X191, ⟨Lc191, hQ191, l191, y191, z191⟩, st191⟩ := Xh190.interfaceBack hx (xi := yM28) (y := yM23) hown (mvT hZ (Wd46 hw)) (mvT hZ (Wd47 hw)) (mvT hZ (Wd48 hw)) (mvT hZ (Wd111 hw)) (mvT hZ (Wd112 hw)) (mvT hZ (Wd113 hw)) (mvT hZ (Wd114 hw)) (mvT hZ (Wd115 hw)) (by decide) (backOf (W := 0) (c_lns l Z a0 hw [] PA AA MA HS H2 PG SQ EM EL kM kE ms T179.heap n0 f186 hWd f185) hZ (Wd117 hw) (Wd116 hw) (by decide) (by decide)) q191a q191b q191c (g := (fr_law m p1 p2 p3 p4 p5 131 (vI 3) (vI r21) (vI r24) (vI r27) (vI r30) (vR x179) (.val (.int (own_b ((Mk r21) ∨ (Mk r24) ∨ (Mk r27))))) (vR AA) [(.ref AA)])) rfl (by rw [hml]; rfl) (Steps.refl _) (argsL := []) (rest := []) (lenOf pd_20 rfl) rfl (by show 2 * 0 + _ ≤ _; exact Nat.le_of_eq rfl) (D at_131) (fun _ _ => ⟨rfl, Eq188, (by decide : 4 + 0 ≤ _), (by decide : 16 + 0 ≤ _)⟩)
    dsimp only [Pt.U, Pt.locs, Pt.cells, Pt.slots] at X191 l191 y191 z191 st191 hQ191
    subst l191 y191 z191
    obtain ⟨rfl, Nq191, Eq191⟩ := hQ191
    have N193 := Fr.app Nh190 Nq191
    obtain ⟨Lh194, Xh194, Nh194⟩ := oHd 4 16 X191 N193 rfl rfl
    refine ownSt st191 ?_
    clear st191
    show oA p e below _ T191 (fr_law m p1 p2 p3 p4 p5 136 (vI 3) (vI r21) (vI r24) (vI r27) (vI r30) (vR x179) (.val (.int (own_b ((Mk r21) ∨ (Mk r24) ∨ (Mk r27))))) (vR AA) [(iV 4)])
    refine oTo T191 (fr_law m p1 p2 p3 p4 p5 143 (vI 3) (vI r21) (vI r24) (vI r27) (vI r30) (vR x179) (.val (.int (own_b ((Mk r21) ∨ (Mk r24) ∨ (Mk r27))))) (vR AA) [(iV 0), (.ref AA)]) (fun t kt => ?_) ?_
    ·refine XS.iconst Xh194.here hx rfl (D at_136) ?_
     refine XS.icmpNo Xh194.here hx rfl (D at_137) rfl (teq ((by decide) : (4 : Int32) = (4 : Int32))).2 ?_
     refine XS.aload Xh194.here hx rfl (D at_140) rfl rfl ?_
     refine XS.iconst Xh194.here hx rfl (D at_142) ?_
     exact kt
    obtain ⟨cq195, kq195, q195a, q195b, q195c⟩ := isOf hZ Eq191 f192
    obtain ⟨vv195, _, ⟨T195, L195, k195, n195⟩, -, X195, ⟨Lc195, hQ195, l195, y195, z195⟩, st195⟩ := Xh194.interfaceBack hx (xi := yM29) (y := yM24) hown (mvT hZ (Wd60 hw)) (mvT hZ (Wd61 hw)) (mvT hZ (Wd62 hw)) (mvT hZ (Wd120 hw)) (mvT hZ (Wd121 hw)) (mvT hZ (Wd122 hw)) (mvT hZ (Wd123 hw)) (mvT hZ (Wd115 hw)) (by decide) (backOf (W := 0) (c_lng0 l Z a0 hw [] PA AA MA HS H2 PG SQ EM EL kM kE ms T179.heap n0 f186 hWd f185) hZ (Wd124 hw) (Wd116 hw) (by decide) (by decide)) q195a q195b q195c (g := (fr_law m p1 p2 p3 p4 p5 143 (vI 3) (vI r21) (vI r24) (vI r27) (vI r30) (vR x179) (.val (.int (own_b ((Mk r21) ∨ (Mk r24) ∨ (Mk r27))))) (vR AA) [(iV 0), (.ref AA)])) rfl (by rw [hml]; rfl) (Steps.refl _) (argsL := [(iV 0)]) (rest := []) (lenOf pd_28 rfl) rfl (by show 2 * 0 + _ ≤ _; exact Nat.le_of_eq rfl) (D at_143) (fun _ _ => ⟨rfl, Eq191, (by decide : 4 + 0 ≤ _), (by decide : 16 + 0 ≤ _)⟩)
    dsimp only [Pt.U, Pt.locs, Pt.cells, Pt.slots] at X195 l195 y195 z195 st195 hQ195
    subst l195 y195 z195
    obtain ⟨rfl, Nq195, Eq195⟩ := hQ195
    have N196 := Fr.app Nh194 Nq195
    obtain ⟨Lh197, Xh197, Nh197⟩ := oHd 4 16 X195 N196 rfl rfl
    refine ownSt st195 ?_
    clear st195
    show oA p e below _ T195 (fr_law m p1 p2 p3 p4 p5 148 (vI 3) (vI r21) (vI r24) (vI r27) (vI r30) (vR x179) (.val (.int (own_b ((Mk r21) ∨ (Mk r24) ∨ (Mk r27))))) (vR AA) [(.ref HS)])
    refine own_getS Xh197 hx hZ hown (host := "") (Or.inl (Wd71 hw)) Via.refl Eq195 (SHS.ext f185.2) (D at_148) (fun T198 X198 e198 => ?_)
    refine oTo T198 (fr_law m p1 p2 p3 p4 p5 157 (vI 3) (vI r21) (vI r24) (vI r27) (vI r30) (vR x179) (.val (.int (own_b ((Mk r21) ∨ (Mk r24) ∨ (Mk r27))))) (vR AA) [(iV 1), (.ref AA)]) (fun t kt => ?_) ?_
    ·refine Jvm.RoadKit.acmp (g := (fr_law m p1 p2 p3 p4 p5 151 (vI 3) (vI r21) (vI r24) (vI r27) (vI r30) (vR x179) (.val (.int (own_b ((Mk r21) ∨ (Mk r24) ∨ (Mk r27))))) (vR AA) [(.ref HS), (.ref HS)])) X198 hx rfl rfl rfl (pc0 := 151) (pc' := 154) (same := true) rfl (D at_151) rfl (decide_eq_true rfl) (by decide) (by decide) ?_
     refine XS.aload X198.here hx rfl (D at_154) rfl rfl ?_
     refine XS.iconst X198.here hx rfl (D at_156) ?_
     exact kt
    obtain ⟨cq199, kq199, q199a, q199b, q199c⟩ := isOf hZ e198 f192
    obtain ⟨vv199, _, ⟨T199, L199, k199, n199⟩, -, X199, ⟨Lc199, hQ199, l199, y199, z199⟩, st199⟩ := X198.interfaceBack hx (xi := yM29) (y := yM24) hown (mvT hZ (Wd60 hw)) (mvT hZ (Wd61 hw)) (mvT hZ (Wd62 hw)) (mvT hZ (Wd120 hw)) (mvT hZ (Wd121 hw)) (mvT hZ (Wd122 hw)) (mvT hZ (Wd123 hw)) (mvT hZ (Wd115 hw)) (by decide) (backOf (W := 0) (c_lng1 l Z a0 hw [] PA AA MA HS H2 PG SQ EM EL kM kE ms T179.heap n0 f186 hWd f185) hZ (Wd124 hw) (Wd116 hw) (by decide) (by decide)) q199a q199b q199c (g := (fr_law m p1 p2 p3 p4 p5 157 (vI 3) (vI r21) (vI r24) (vI r27) (vI r30) (vR x179) (.val (.int (own_b ((Mk r21) ∨ (Mk r24) ∨ (Mk r27))))) (vR AA) [(iV 1), (.ref AA)])) rfl (by rw [hml]; rfl) (Steps.refl _) (argsL := [(iV 1)]) (rest := []) (lenOf pd_28 rfl) rfl (by show 2 * 0 + _ ≤ _; exact Nat.le_of_eq rfl) (D at_157) (fun _ _ => ⟨rfl, e198, (by decide : 4 + 0 ≤ _), (by decide : 16 + 0 ≤ _)⟩)
    dsimp only [Pt.U, Pt.locs, Pt.cells, Pt.slots] at X199 l199 y199 z199 st199 hQ199
    subst l199 y199 z199
    obtain ⟨rfl, Nq199, Eq199⟩ := hQ199
    have N200 := Fr.app Nh197 Nq199
    obtain ⟨Lh201, Xh201, Nh201⟩ := oHd 4 16 X199 N200 rfl rfl
    refine ownSt st199 ?_
    clear st199
    show oA p e below _ T199 (fr_law m p1 p2 p3 p4 p5 162 (vI 3) (vI r21) (vI r24) (vI r27) (vI r30) (vR x179) (.val (.int (own_b ((Mk r21) ∨ (Mk r24) ∨ (Mk r27))))) (vR AA) [(.ref H2)])
    refine own_getS Xh201 hx hZ hown (host := "") (Or.inl (Wd126 hw)) Via.refl Eq199 (SH2.ext f185.2) (D at_162) (fun T202 X202 e202 => ?_)
    refine oTo T202 (fr_law m p1 p2 p3 p4 p5 171 (vI 3) (vI r21) (vI r24) (vI r27) (vI r30) (vR x179) (.val (.int (own_b ((Mk r21) ∨ (Mk r24) ∨ (Mk r27))))) (vR AA) [(iV 2), (.ref AA)]) (fun t kt => ?_) ?_
    ·refine Jvm.RoadKit.acmp (g := (fr_law m p1 p2 p3 p4 p5 165 (vI 3) (vI r21) (vI r24) (vI r27) (vI r30) (vR x179) (.val (.int (own_b ((Mk r21) ∨ (Mk r24) ∨ (Mk r27))))) (vR AA) [(.ref H2), (.ref H2)])) X202 hx rfl rfl rfl (pc0 := 165) (pc' := 168) (same := true) rfl (D at_165) rfl (decide_eq_true rfl) (by decide) (by decide) ?_
     refine XS.aload X202.here hx rfl (D at_168) rfl rfl ?_
     refine XS.iconst X202.here hx rfl (D at_170) ?_
     exact kt
    obtain ⟨cq203, kq203, q203a, q203b, q203c⟩ := isOf hZ e202 f192
    obtain ⟨vv203, _, ⟨T203, L203, k203, n203⟩, -, X203, ⟨Lc203, hQ203, l203, y203, z203⟩, st203⟩ := X202.interfaceBack hx (xi := yM29) (y := yM24) hown (mvT hZ (Wd60 hw)) (mvT hZ (Wd61 hw)) (mvT hZ (Wd62 hw)) (mvT hZ (Wd120 hw)) (mvT hZ (Wd121 hw)) (mvT hZ (Wd122 hw)) (mvT hZ (Wd123 hw)) (mvT hZ (Wd115 hw)) (by decide) (backOf (W := 0) (c_lng2 l Z a0 hw [] PA AA MA HS H2 PG SQ EM EL kM kE ms T179.heap n0 f186 hWd f185) hZ (Wd124 hw) (Wd116 hw) (by decide) (by decide)) q203a q203b q203c (g := (fr_law m p1 p2 p3 p4 p5 171 (vI 3) (vI r21) (vI r24) (vI r27) (vI r30) (vR x179) (.val (.int (own_b ((Mk r21) ∨ (Mk r24) ∨ (Mk r27))))) (vR AA) [(iV 2), (.ref AA)])) rfl (by rw [hml]; rfl) (Steps.refl _) (argsL := [(iV 2)]) (rest := []) (lenOf pd_28 rfl) rfl (by show 2 * 0 + _ ≤ _; exact Nat.le_of_eq rfl) (D at_171) (fun _ _ => ⟨rfl, e202, (by decide : 4 + 0 ≤ _), (by decide : 16 + 0 ≤ _)⟩)
    dsimp only [Pt.U, Pt.locs, Pt.cells, Pt.slots] at X203 l203 y203 z203 st203 hQ203
    subst l203 y203 z203
    obtain ⟨rfl, Nq203, Eq203⟩ := hQ203
    have N204 := Fr.app Nh201 Nq203
    obtain ⟨Lh205, Xh205, Nh205⟩ := oHd 4 16 X203 N204 rfl rfl
    refine ownSt st203 ?_
    clear st203
    show oA p e below _ T203 (fr_law m p1 p2 p3 p4 p5 176 (vI 3) (vI r21) (vI r24) (vI r27) (vI r30) (vR x179) (.val (.int (own_b ((Mk r21) ∨ (Mk r24) ∨ (Mk r27))))) (vR AA) [(.ref PG)])
    refine own_getS Xh205 hx hZ hown (host := "") (Or.inl (Wd128 hw)) Via.refl Eq203 (SPG.ext f185.2) (D at_176) (fun T206 X206 e206 => ?_)
    refine oTo T206 (fr_law m p1 p2 p3 p4 p5 185 (vI 3) (vI r21) (vI r24) (vI r27) (vI r30) (vR x179) (.val (.int (own_b ((Mk r21) ∨ (Mk r24) ∨ (Mk r27))))) (vR AA) [(iV 3), (.ref AA)]) (fun t kt => ?_) ?_
    ·refine Jvm.RoadKit.acmp (g := (fr_law m p1 p2 p3 p4 p5 179 (vI 3) (vI r21) (vI r24) (vI r27) (vI r30) (vR x179) (.val (.int (own_b ((Mk r21) ∨ (Mk r24) ∨ (Mk r27))))) (vR AA) [(.ref PG), (.ref PG)])) X206 hx rfl rfl rfl (pc0 := 179) (pc' := 182) (same := true) rfl (D at_179) rfl (decide_eq_true rfl) (by decide) (by decide) ?_
     refine XS.aload X206.here hx rfl (D at_182) rfl rfl ?_
     refine XS.iconst X206.here hx rfl (D at_184) ?_
     exact kt
    obtain ⟨cq207, kq207, q207a, q207b, q207c⟩ := isOf hZ e206 f192
    obtain ⟨vv207, _, ⟨T207, L207, k207, n207⟩, -, X207, ⟨Lc207, hQ207, l207, y207, z207⟩, st207⟩ := X206.interfaceBack hx (xi := yM29) (y := yM24) hown (mvT hZ (Wd60 hw)) (mvT hZ (Wd61 hw)) (mvT hZ (Wd62 hw)) (mvT hZ (Wd120 hw)) (mvT hZ (Wd121 hw)) (mvT hZ (Wd122 hw)) (mvT hZ (Wd123 hw)) (mvT hZ (Wd115 hw)) (by decide) (backOf (W := 0) (c_lng3 l Z a0 hw [] PA AA MA HS H2 PG SQ EM EL kM kE ms T179.heap n0 f186 hWd f185) hZ (Wd124 hw) (Wd116 hw) (by decide) (by decide)) q207a q207b q207c (g := (fr_law m p1 p2 p3 p4 p5 185 (vI 3) (vI r21) (vI r24) (vI r27) (vI r30) (vR x179) (.val (.int (own_b ((Mk r21) ∨ (Mk r24) ∨ (Mk r27))))) (vR AA) [(iV 3), (.ref AA)])) rfl (by rw [hml]; rfl) (Steps.refl _) (argsL := [(iV 3)]) (rest := []) (lenOf pd_28 rfl) rfl (by show 2 * 0 + _ ≤ _; exact Nat.le_of_eq rfl) (D at_185) (fun _ _ => ⟨rfl, e206, (by decide : 4 + 0 ≤ _), (by decide : 16 + 0 ≤ _)⟩)
    dsimp only [Pt.U, Pt.locs, Pt.cells, Pt.slots] at X207 l207 y207 z207 st207 hQ207
    subst l207 y207 z207
    obtain ⟨rfl, Nq207, Eq207⟩ := hQ207
    have N208 := Fr.app Nh205 Nq207
    obtain ⟨Lh209, Xh209, Nh209⟩ := oHd 4 16 X207 N208 rfl rfl
    refine ownSt st207 ?_
    clear st207
    show oA p e below _ T207 (fr_law m p1 p2 p3 p4 p5 190 (vI 3) (vI r21) (vI r24) (vI r27) (vI r30) (vR x179) (.val (.int (own_b ((Mk r21) ∨ (Mk r24) ∨ (Mk r27))))) (vR AA) [(.ref SQ)])
    refine own_getS Xh209 hx hZ hown (host := "") (Or.inl (Wd130 hw)) Via.refl Eq207 (SSQ.ext f185.2) (D at_190) (fun T210 X210 e210 => ?_)
    refine oTo T210 (fr_law m p1 p2 p3 p4 p5 201 (vI 3) (vI r21) (vI r24) (vI r27) (vI r30) (vR x179) (.val (.int (own_b ((Mk r21) ∨ (Mk r24) ∨ (Mk r27))))) (vR AA) [(iV 1)]) (fun t kt => ?_) ?_
    ·refine Jvm.RoadKit.acmp (g := (fr_law m p1 p2 p3 p4 p5 193 (vI 3) (vI r21) (vI r24) (vI r27) (vI r30) (vR x179) (.val (.int (own_b ((Mk r21) ∨ (Mk r24) ∨ (Mk r27))))) (vR AA) [(.ref SQ), (.ref SQ)])) X210 hx rfl rfl rfl (pc0 := 193) (pc' := 196) (same := true) rfl (D at_193) rfl (decide_eq_true rfl) (by decide) (by decide) ?_
     refine XS.iconst X210.here hx rfl (D at_196) ?_
     refine XS.goto X210.here hx rfl (pc0 := 197) (pc' := 201) rfl (D at_197) (by decide) (by decide) ?_
     exact kt
    refine ownRetH X210 hS0 (by rw [e210]; exact (Nat.le_trans (Nat.le_refl _) Kq179.1)) Bd.notSynchronized (v := some (.int (nar .boolean (1 : Int32)))) (fun h => by rw [Bd.returns] at h; cases h) ?_ (R183.trans ((by rw [e210]; exact CHv.at X210 hZ hEL R183.1))) (oLe rfl) (oLe rfl) (fun fs hr => retN X210 hx (t := .boolean) Bd.returns (by simp) (D at_201) hr)
    show (Q_law Z p1 p2 p3 p4 p5 PA AA MA HS H2 PG SQ EM EL kM kE ms G1 G3 h0 n0) (some (.int (nar .boolean (1 : Int32)))) T210.heap _
    rw [e210]
    exact ⟨rfl, Nh209⟩
   ·skip
    have N212 := Fr.app N187 Nq188
    obtain ⟨Lh213, Xh213, Nh213⟩ := oHd 4 16 X188 N212 rfl rfl
    refine ownBy st188 ?_
    clear st188
    show oA p e below _ T188 (fr_law m p1 p2 p3 p4 p5 115 (vI 3) (vI r21) (vI r24) (vI r27) (vI r30) (vR x179) (.val (.int (own_b ((Mk r21) ∨ (Mk r24) ∨ (Mk r27))))) .unset [(.ref PA)])
    refine oTo T188 (fr_law m p1 p2 p3 p4 p5 204 (vI 3) (vI r21) (vI r24) (vI r27) (vI r30) (vR x179) (.val (.int (own_b ((Mk r21) ∨ (Mk r24) ∨ (Mk r27))))) (vR PA) [(.ref PA)]) (fun t kt => ?_) ?_
    ·refine XS.astore Xh213.here hx rfl (D at_115) rfl rfl (l' := #[vI p1, vI p2, vI p3, vI p4, vI p5, vI 3, vI r21, vI r24, vI r27, vI r30, vR x179, .val (.int (own_b ((Mk r21) ∨ (Mk r24) ∨ (Mk r27)))), vR PA]) rfl ?_
     refine XS.aload Xh213.here hx rfl (D at_117) rfl rfl ?_
     refine XS.ifnonnullYes Xh213.here hx rfl (pc0 := 119) (pc' := 124) rfl (D at_119) rfl (by decide) (by decide) ?_
     refine XS.iload Xh213.here hx rfl (D at_124) rfl ?_
     refine XS.ifYes Xh213.here hx rfl (pc0 := 126) (pc' := 202) rfl (D at_126) rfl ((if0 _ _).trans (teq (own_bf0 hMr)).1) (by decide) (by decide) ?_
     refine XS.aload Xh213.here hx rfl (D at_202) rfl rfl ?_
     exact kt
    have f215 := EPA.ext f185.2
    obtain ⟨cq214, kq214, q214a, q214b, q214c⟩ := isOf hZ Eq188 f215
    obtain ⟨vv214, _, ⟨T214, L214, k214, n214⟩, -, X214, ⟨Lc214, hQ214, l214, y214, z214⟩, st214⟩ := Xh213.interfaceBack hx (xi := yM28) (y := yM21) hown (mvT hZ (Wd46 hw)) (mvT hZ (Wd47 hw)) (mvT hZ (Wd48 hw)) (mvT hZ (Wd49 hw)) (mvT hZ (Wd50 hw)) (mvT hZ (Wd51 hw)) (mvT hZ (Wd52 hw)) (mvT hZ (Wd53 hw)) (by decide) (backOf (W := 0) (c_l12s l Z a0 hw [] PA AA MA HS H2 PG SQ EM EL kM kE ms T179.heap n0 f186 hWd f185) hZ (Wd55 hw) (Wd54 hw) (by decide) (by decide)) q214a q214b q214c (g := (fr_law m p1 p2 p3 p4 p5 204 (vI 3) (vI r21) (vI r24) (vI r27) (vI r30) (vR x179) (.val (.int (own_b ((Mk r21) ∨ (Mk r24) ∨ (Mk r27))))) (vR PA) [(.ref PA)])) rfl (by rw [hml]; rfl) (Steps.refl _) (argsL := []) (rest := []) (lenOf pd_20 rfl) rfl (by show 2 * 0 + _ ≤ _; exact Nat.le_of_eq rfl) (D at_204) (fun _ _ => ⟨rfl, Eq188, (by decide : 4 + 0 ≤ _), (by decide : 16 + 0 ≤ _)⟩)
    dsimp only [Pt.U, Pt.locs, Pt.cells, Pt.slots] at X214 l214 y214 z214 st214 hQ214
    subst l214 y214 z214
    obtain ⟨rfl, Nq214, Eq214⟩ := hQ214
    have N216 := Fr.app Nh213 Nq214
    obtain ⟨Lh217, Xh217, Nh217⟩ := oHd 4 16 X214 N216 rfl rfl
    refine ownSt st214 ?_
    clear st214
    show oA p e below _ T214 (fr_law m p1 p2 p3 p4 p5 209 (vI 3) (vI r21) (vI r24) (vI r27) (vI r30) (vR x179) (.val (.int (own_b ((Mk r21) ∨ (Mk r24) ∨ (Mk r27))))) (vR PA) [(iV 1)])
    refine oTo T214 (fr_law m p1 p2 p3 p4 p5 216 (vI 3) (vI r21) (vI r24) (vI r27) (vI r30) (vR x179) (.val (.int (own_b ((Mk r21) ∨ (Mk r24) ∨ (Mk r27))))) (vR PA) [(iV 0), (.ref PA)]) (fun t kt => ?_) ?_
    ·refine XS.iconst Xh217.here hx rfl (D at_209) ?_
     refine XS.icmpNo Xh217.here hx rfl (D at_210) rfl (teq ((by decide) : (1 : Int32) = (1 : Int32))).2 ?_
     refine XS.aload Xh217.here hx rfl (D at_213) rfl rfl ?_
     refine XS.iconst Xh217.here hx rfl (D at_215) ?_
     exact kt
    obtain ⟨cq218, kq218, q218a, q218b, q218c⟩ := isOf hZ Eq214 f215
    obtain ⟨vv218, _, ⟨T218, L218, k218, n218⟩, -, X218, ⟨Lc218, hQ218, l218, y218, z218⟩, st218⟩ := Xh217.interfaceBack hx (xi := yM29) (y := yM22) hown (mvT hZ (Wd60 hw)) (mvT hZ (Wd61 hw)) (mvT hZ (Wd62 hw)) (mvT hZ (Wd63 hw)) (mvT hZ (Wd64 hw)) (mvT hZ (Wd65 hw)) (mvT hZ (Wd66 hw)) (mvT hZ (Wd53 hw)) (by decide) (backOf (W := 0) (c_l12g l Z a0 hw [] PA AA MA HS H2 PG SQ EM EL kM kE ms T179.heap n0 f186 hWd f185) hZ (Wd67 hw) (Wd54 hw) (by decide) (by decide)) q218a q218b q218c (g := (fr_law m p1 p2 p3 p4 p5 216 (vI 3) (vI r21) (vI r24) (vI r27) (vI r30) (vR x179) (.val (.int (own_b ((Mk r21) ∨ (Mk r24) ∨ (Mk r27))))) (vR PA) [(iV 0), (.ref PA)])) rfl (by rw [hml]; rfl) (Steps.refl _) (argsL := [(iV 0)]) (rest := []) (lenOf pd_28 rfl) rfl (by show 2 * 0 + _ ≤ _; exact Nat.le_of_eq rfl) (D at_216) (fun _ _ => ⟨rfl, Eq214, (by decide : 4 + 0 ≤ _), (by decide : 16 + 0 ≤ _)⟩)
    dsimp only [Pt.U, Pt.locs, Pt.cells, Pt.slots] at X218 l218 y218 z218 st218 hQ218
    subst l218 y218 z218
    obtain ⟨rfl, Nq218, Eq218⟩ := hQ218
    have N219 := Fr.app Nh217 Nq218
    obtain ⟨Lh220, Xh220, Nh220⟩ := oHd 4 16 X218 N219 rfl rfl
    refine ownSt st218 ?_
    clear st218
    show oA p e below _ T218 (fr_law m p1 p2 p3 p4 p5 221 (vI 3) (vI r21) (vI r24) (vI r27) (vI r30) (vR x179) (.val (.int (own_b ((Mk r21) ∨ (Mk r24) ∨ (Mk r27))))) (vR PA) [(.ref HS)])
    refine own_getS Xh220 hx hZ hown (host := "") (Or.inl (Wd71 hw)) Via.refl Eq218 (SHS.ext f185.2) (D at_221) (fun T221 X221 e221 => ?_)
    refine oTo T221 (fr_law m p1 p2 p3 p4 p5 232 (vI 3) (vI r21) (vI r24) (vI r27) (vI r30) (vR x179) (.val (.int (own_b ((Mk r21) ∨ (Mk r24) ∨ (Mk r27))))) (vR PA) [(iV 1)]) (fun t kt => ?_) ?_
    ·refine Jvm.RoadKit.acmp (g := (fr_law m p1 p2 p3 p4 p5 224 (vI 3) (vI r21) (vI r24) (vI r27) (vI r30) (vR x179) (.val (.int (own_b ((Mk r21) ∨ (Mk r24) ∨ (Mk r27))))) (vR PA) [(.ref HS), (.ref HS)])) X221 hx rfl rfl rfl (pc0 := 224) (pc' := 227) (same := true) rfl (D at_224) rfl (decide_eq_true rfl) (by decide) (by decide) ?_
     refine XS.iconst X221.here hx rfl (D at_227) ?_
     refine XS.goto X221.here hx rfl (pc0 := 228) (pc' := 232) rfl (D at_228) (by decide) (by decide) ?_
     exact kt
    refine ownRetH X221 hS0 (by rw [e221]; exact (Nat.le_trans (Nat.le_refl _) Kq179.1)) Bd.notSynchronized (v := some (.int (nar .boolean (1 : Int32)))) (fun h => by rw [Bd.returns] at h; cases h) ?_ (R183.trans ((by rw [e221]; exact CHv.at X221 hZ hEL R183.1))) (oLe rfl) (oLe rfl) (fun fs hr => retN X221 hx (t := .boolean) Bd.returns (by simp) (D at_232) hr)
    show (Q_law Z p1 p2 p3 p4 p5 PA AA MA HS H2 PG SQ EM EL kM kE ms G1 G3 h0 n0) (some (.int (nar .boolean (1 : Int32)))) T221.heap _
    rw [e221]
    exact ⟨rfl, Nh220⟩
  refine oTo T179 (fr_law m p1 p2 p3 p4 p5 55 (vI 3) (vI r21) (vI r24) (vI r27) (vI r30) (vR x179) .unset .unset [(.int r21)]) (fun t kt => ?_) ?_
  ·refine XS.iload Xh184.here hx rfl (D at_48) rfl ?_
   refine XS.ifNo Xh184.here hx rfl (D at_50) rfl ((if0 _ _).trans (tlt ((by decide) : (0 : Int32) < (3 : Int32))).2.2.2) ?_
   refine XS.iload Xh184.here hx rfl (D at_53) rfl ?_
   exact kt
  obtain ⟨vv223, _, ⟨T223, L223, k223, n223⟩, -, X223, ⟨Lc223, hQ223, l223, y223, z223⟩, st223⟩ := Jvm.LawKit.callS Xh184 hx (y := yM26) hown (mvT hZ (Wd82 hw)) (mvT hZ (Wd83 hw)) (mvT hZ (Wd2 hw)) (mvT hZ (Wd84 hw)) (by decide) (backOf (W := 0) (c_ism l Z a0 hw [] r21 T179.heap n0 f186 ) hZ (Wd84 hw) (Wd2 hw) (by decide) (by decide)) (g := (fr_law m p1 p2 p3 p4 p5 55 (vI 3) (vI r21) (vI r24) (vI r27) (vI r30) (vR x179) .unset .unset [(.int r21)])) rfl (by rw [hml]; rfl) (argsL := [(.int r21)]) (rest := []) (lenOf pd_29 rfl) rfl (by show 2 * 0 + _ ≤ _; exact Nat.le_of_eq rfl) (D at_55) (fun _ _ => ⟨rfl, rfl, (by decide : 4 + 0 ≤ _), (by decide : 16 + 0 ≤ _)⟩)
  dsimp only [Pt.U, Pt.locs, Pt.cells, Pt.slots] at X223 l223 y223 z223 st223 hQ223
  subst l223 y223 z223
  obtain ⟨rfl, Nq223, Eq223⟩ := hQ223
  have N224 := Fr.app Nh184 Nq223
  obtain ⟨Lh225, Xh225, Nh225⟩ := oHd 4 16 X223 N224 rfl rfl
  refine ownBy st223 ?_
  clear st223
  show oA p e below _ T223 (fr_law m p1 p2 p3 p4 p5 58 (vI 3) (vI r21) (vI r24) (vI r27) (vI r30) (vR x179) .unset .unset [(.int (own_b (Mk r21)))])
  by_cases hc226 : Mk r21
  ·skip
   refine oTo T223 (fr_law m p1 p2 p3 p4 p5 108 (vI 3) (vI r21) (vI r24) (vI r27) (vI r30) (vR x179) .unset .unset [(iV 1)]) (fun t kt => ?_) ?_
   ·refine XS.ifYes Xh225.here hx rfl (pc0 := 58) (pc' := 103) rfl (D at_58) rfl ((if0 _ _).trans (feq (own_bt0 hc226)).2) (by decide) (by decide) ?_
    refine XS.iconst Xh225.here hx rfl (D at_103) ?_
    refine XS.goto Xh225.here hx rfl (pc0 := 104) (pc' := 108) rfl (D at_104) (by decide) (by decide) ?_
    exact kt
   have q := rest _ _ Xh225 Nh225 Eq223
   rw [own_bt1 (p := (Mk r21) ∨ (Mk r24) ∨ (Mk r27)) (Or.inl hc226)] at q
   exact q
  ·skip
   refine oTo T223 (fr_law m p1 p2 p3 p4 p5 69 (vI 3) (vI r21) (vI r24) (vI r27) (vI r30) (vR x179) .unset .unset [(.int r24)]) (fun t kt => ?_) ?_
   ·refine XS.ifNo Xh225.here hx rfl (D at_58) rfl ((if0 _ _).trans (teq (own_bf0 hc226)).2) ?_
    refine XS.iload Xh225.here hx rfl (D at_61) rfl ?_
    refine XS.iconst Xh225.here hx rfl (D at_63) ?_
    refine XS.icmpNo Xh225.here hx rfl (D at_64) rfl (tlt ((by decide) : (1 : Int32) < (3 : Int32))).2.2.2 ?_
    refine XS.iload Xh225.here hx rfl (D at_67) rfl ?_
    exact kt
   obtain ⟨vv227, _, ⟨T227, L227, k227, n227⟩, -, X227, ⟨Lc227, hQ227, l227, y227, z227⟩, st227⟩ := Jvm.LawKit.callS Xh225 hx (y := yM26) hown (mvT hZ (Wd82 hw)) (mvT hZ (Wd83 hw)) (mvT hZ (Wd2 hw)) (mvT hZ (Wd84 hw)) (by decide) (backOf (W := 0) (c_ism l Z a0 hw [] r24 T179.heap n0 f186 ) hZ (Wd84 hw) (Wd2 hw) (by decide) (by decide)) (g := (fr_law m p1 p2 p3 p4 p5 69 (vI 3) (vI r21) (vI r24) (vI r27) (vI r30) (vR x179) .unset .unset [(.int r24)])) rfl (by rw [hml]; rfl) (argsL := [(.int r24)]) (rest := []) (lenOf pd_29 rfl) rfl (by show 2 * 0 + _ ≤ _; exact Nat.le_of_eq rfl) (D at_69) (fun _ _ => ⟨rfl, Eq223, (by decide : 4 + 0 ≤ _), (by decide : 16 + 0 ≤ _)⟩)
   dsimp only [Pt.U, Pt.locs, Pt.cells, Pt.slots] at X227 l227 y227 z227 st227 hQ227
   subst l227 y227 z227
   obtain ⟨rfl, Nq227, Eq227⟩ := hQ227
   have N228 := Fr.app Nh225 Nq227
   obtain ⟨Lh229, Xh229, Nh229⟩ := oHd 4 16 X227 N228 rfl rfl
   refine ownBy st227 ?_
   clear st227
   show oA p e below _ T227 (fr_law m p1 p2 p3 p4 p5 72 (vI 3) (vI r21) (vI r24) (vI r27) (vI r30) (vR x179) .unset .unset [(.int (own_b (Mk r24)))])
   by_cases hc230 : Mk r24
   ·skip
    refine oTo T227 (fr_law m p1 p2 p3 p4 p5 108 (vI 3) (vI r21) (vI r24) (vI r27) (vI r30) (vR x179) .unset .unset [(iV 1)]) (fun t kt => ?_) ?_
    ·refine XS.ifYes Xh229.here hx rfl (pc0 := 72) (pc' := 103) rfl (D at_72) rfl ((if0 _ _).trans (feq (own_bt0 hc230)).2) (by decide) (by decide) ?_
     refine XS.iconst Xh229.here hx rfl (D at_103) ?_
     refine XS.goto Xh229.here hx rfl (pc0 := 104) (pc' := 108) rfl (D at_104) (by decide) (by decide) ?_
     exact kt
    have q := rest _ _ Xh229 Nh229 Eq227
    rw [own_bt1 (p := (Mk r21) ∨ (Mk r24) ∨ (Mk r27)) (Or.inr (Or.inl hc230))] at q
    exact q
   ·skip
    refine oTo T227 (fr_law m p1 p2 p3 p4 p5 83 (vI 3) (vI r21) (vI r24) (vI r27) (vI r30) (vR x179) .unset .unset [(.int r27)]) (fun t kt => ?_) ?_
    ·refine XS.ifNo Xh229.here hx rfl (D at_72) rfl ((if0 _ _).trans (teq (own_bf0 hc230)).2) ?_
     refine XS.iload Xh229.here hx rfl (D at_75) rfl ?_
     refine XS.iconst Xh229.here hx rfl (D at_77) ?_
     refine XS.icmpNo Xh229.here hx rfl (D at_78) rfl (tlt ((by decide) : (2 : Int32) < (3 : Int32))).2.2.2 ?_
     refine XS.iload Xh229.here hx rfl (D at_81) rfl ?_
     exact kt
    obtain ⟨vv231, _, ⟨T231, L231, k231, n231⟩, -, X231, ⟨Lc231, hQ231, l231, y231, z231⟩, st231⟩ := Jvm.LawKit.callS Xh229 hx (y := yM26) hown (mvT hZ (Wd82 hw)) (mvT hZ (Wd83 hw)) (mvT hZ (Wd2 hw)) (mvT hZ (Wd84 hw)) (by decide) (backOf (W := 0) (c_ism l Z a0 hw [] r27 T179.heap n0 f186 ) hZ (Wd84 hw) (Wd2 hw) (by decide) (by decide)) (g := (fr_law m p1 p2 p3 p4 p5 83 (vI 3) (vI r21) (vI r24) (vI r27) (vI r30) (vR x179) .unset .unset [(.int r27)])) rfl (by rw [hml]; rfl) (argsL := [(.int r27)]) (rest := []) (lenOf pd_29 rfl) rfl (by show 2 * 0 + _ ≤ _; exact Nat.le_of_eq rfl) (D at_83) (fun _ _ => ⟨rfl, Eq227, (by decide : 4 + 0 ≤ _), (by decide : 16 + 0 ≤ _)⟩)
    dsimp only [Pt.U, Pt.locs, Pt.cells, Pt.slots] at X231 l231 y231 z231 st231 hQ231
    subst l231 y231 z231
    obtain ⟨rfl, Nq231, Eq231⟩ := hQ231
    have N232 := Fr.app Nh229 Nq231
    obtain ⟨Lh233, Xh233, Nh233⟩ := oHd 4 16 X231 N232 rfl rfl
    refine ownBy st231 ?_
    clear st231
    show oA p e below _ T231 (fr_law m p1 p2 p3 p4 p5 86 (vI 3) (vI r21) (vI r24) (vI r27) (vI r30) (vR x179) .unset .unset [(.int (own_b (Mk r27)))])
    by_cases hc234 : Mk r27
    ·skip
     refine oTo T231 (fr_law m p1 p2 p3 p4 p5 108 (vI 3) (vI r21) (vI r24) (vI r27) (vI r30) (vR x179) .unset .unset [(iV 1)]) (fun t kt => ?_) ?_
     ·refine XS.ifYes Xh233.here hx rfl (pc0 := 86) (pc' := 103) rfl (D at_86) rfl ((if0 _ _).trans (feq (own_bt0 hc234)).2) (by decide) (by decide) ?_
      refine XS.iconst Xh233.here hx rfl (D at_103) ?_
      refine XS.goto Xh233.here hx rfl (pc0 := 104) (pc' := 108) rfl (D at_104) (by decide) (by decide) ?_
      exact kt
     have q := rest _ _ Xh233 Nh233 Eq231
     rw [own_bt1 (p := (Mk r21) ∨ (Mk r24) ∨ (Mk r27)) (Or.inr (Or.inr (hc234)))] at q
     exact q
    ·skip
     refine oTo T231 (fr_law m p1 p2 p3 p4 p5 108 (vI 3) (vI r21) (vI r24) (vI r27) (vI r30) (vR x179) .unset .unset [(iV 0)]) (fun t kt => ?_) ?_
     ·refine XS.ifNo Xh233.here hx rfl (D at_86) rfl ((if0 _ _).trans (teq (own_bf0 hc234)).2) ?_
      refine XS.iload Xh233.here hx rfl (D at_89) rfl ?_
      refine XS.iconst Xh233.here hx rfl (D at_91) ?_
      refine XS.icmpYes Xh233.here hx rfl (pc0 := 92) (pc' := 107) rfl (D at_92) rfl (flt ((by decide) : ¬ ((3 : Int32) < (3 : Int32)))).2.2.2 (by decide) (by decide) ?_
      refine XS.iconst Xh233.here hx rfl (D at_107) ?_
      exact kt
     have q := rest _ _ Xh233 Nh233 Eq231
     rw [own_bf0 (p := (Mk r21) ∨ (Mk r24) ∨ (Mk r27)) ((fun q => q.elim hc226 (fun q => q.elim hc230 hc234)))] at q
     exact q
 ·skip
  show oA p e below _ T30 (fr_law m p1 p2 p3 p4 p5 33 (vI 4) (vI r21) (vI r24) (vI r27) (vI r30) .unset .unset .unset [])
  refine oTo T30 (fr_law m p1 p2 p3 p4 p5 43 (vI 4) (vI r21) (vI r24) (vI r27) (vI r30) .unset .unset .unset [(.int r30), (.int r27), (.int r24), (.int r21), (iV 4)]) (fun t kt => ?_) ?_
  ·refine XS.iload Xh32.here hx rfl (D at_33) rfl ?_
   refine XS.iload Xh32.here hx rfl (D at_35) rfl ?_
   refine XS.iload Xh32.here hx rfl (D at_37) rfl ?_
   refine XS.iload Xh32.here hx rfl (D at_39) rfl ?_
   refine XS.iload Xh32.here hx rfl (D at_41) rfl ?_
   exact kt
  obtain ⟨vv235, _, ⟨T235, L235, k235, n235⟩, -, X235, ⟨Lc235, hQ235, l235, y235, z235⟩, st235⟩ := Jvm.LawKit.callS Xh32 hx (y := yM27) hown (mvT hZ (Wd4 hw)) (mvT hZ (Wd5 hw)) (mvT hZ (Wd2 hw)) (mvT hZ (Wd6 hw)) (by decide) (backOf (W := 0) (c_mk4 l Z a0 hw [] r21 r24 r27 r30 G1 h0 n0 Z0 hR21 hR24 hR27 hR30 O2 P5 SA SHI SLO X00) hZ (Wd6 hw) (Wd2 hw) (by decide) (by decide)) (g := (fr_law m p1 p2 p3 p4 p5 43 (vI 4) (vI r21) (vI r24) (vI r27) (vI r30) .unset .unset .unset [(.int r30), (.int r27), (.int r24), (.int r21), (iV 4)])) rfl (by rw [hml]; rfl) (argsL := [(iV 4), (.int r21), (.int r24), (.int r27), (.int r30)]) (rest := []) (lenOf pd_26 rfl) rfl (by show 2 * 0 + _ ≤ _; exact Nat.le_of_eq rfl) (D at_43) (fun _ _ => ⟨rfl, Eq30, (by decide : 0 + 4 ≤ _), (by decide : 0 + 20 ≤ _)⟩)
  dsimp only [Pt.U, Pt.locs, Pt.cells, Pt.slots] at X235 l235 y235 z235 st235 hQ235
  subst l235 y235 z235
  obtain ⟨x235, t235, kb235, cd235, z235, vs235, rfl, Nq235, Kq235, zq235, Eq235, Vq235, Cq235, Aq235, hrel235⟩ := hQ235
  have g236 : n0 ≤ x235 := Nat.le_trans Z0 zq235
  have z237 : h0.size ≤ x235 := Nat.le_trans (Nat.le_refl h0.size) zq235
  have N238 := Fr.app Nh32 Nq235
  have R239 := R0.trans (CHr.keep Kq235 sf0 R0.1)
  obtain ⟨Lh240, Xh240, Nh240⟩ := oHd 4 20 X235 N238 rfl rfl
  refine ownBy st235 ?_
  clear st235
  show oA p e below _ T235 (fr_law m p1 p2 p3 p4 p5 46 (vI 4) (vI r21) (vI r24) (vI r27) (vI r30) .unset .unset .unset [(.ref x235)])
  refine oTo T235 (fr_law m p1 p2 p3 p4 p5 48 (vI 4) (vI r21) (vI r24) (vI r27) (vI r30) (vR x235) .unset .unset []) (fun t kt => ?_) ?_
  ·refine XS.astore Xh240.here hx rfl (D at_46) rfl rfl (l' := #[vI p1, vI p2, vI p3, vI p4, vI p5, vI 4, vI r21, vI r24, vI r27, vI r30, vR x235, .unset, .unset]) rfl ?_
   exact kt
  have f241 := (X00.keep Kq235 all0)
  have f242 := (Nat.le_trans Z0 Kq235.1)
  refine own_cut (C := fun P => ∀ (T : State) (Lx : List Loc), Stand p l e room_1 (s.setVm s.vm) m #[(.int p1), (.int p2), (.int p3), (.int p4), (.int p5)] below meth c T Lx 4 20 → Fr n0 Lx → T.heap = T235.heap → ownG p.tables e below P (T.setTop (fr_law m p1 p2 p3 p4 p5 108 (vI 4) (vI r21) (vI r24) (vI r27) (vI r30) (vR x235) .unset .unset [(.int (own_b ((Mk r21) ∨ (Mk r24) ∨ (Mk r27) ∨ (Mk r30))))]))) ?_ (fun rest => ?_)
  ·intro T243 L243 X243 N243 e243
   refine oTo T243 (fr_law m p1 p2 p3 p4 p5 112 (vI 4) (vI r21) (vI r24) (vI r27) (vI r30) (vR x235) (.val (.int (own_b ((Mk r21) ∨ (Mk r24) ∨ (Mk r27) ∨ (Mk r30))))) .unset [(.ref x235)]) (fun t kt => ?_) ?_
   ·refine XS.istore X243.here hx rfl (D at_108) rfl (l' := #[vI p1, vI p2, vI p3, vI p4, vI p5, vI 4, vI r21, vI r24, vI r27, vI r30, vR x235, .val (.int (own_b ((Mk r21) ∨ (Mk r24) ∨ (Mk r27) ∨ (Mk r30)))), .unset]) rfl ?_
    refine XS.aload X243.here hx rfl (D at_110) rfl rfl ?_
    exact kt
   obtain ⟨vv244, _, ⟨T244, L244, k244, n244⟩, -, X244, ⟨Lc244, hQ244, l244, y244, z244⟩, st244⟩ := Jvm.LawKit.callS X243 hx (y := yM20) hown (mvT hZ (Wd29 hw)) (mvT hZ (Wd30 hw)) (mvT hZ (Wd31 hw)) (mvT hZ (Wd32 hw)) (by decide) (backOf (W := 0) (c_rd4 l Z a0 hw [] x235 t235 kb235 cd235 z235 vs235 r21 r24 r27 r30 PA AA MA HS H2 PG SQ EM EL kM kE ms G1 G3 T235.heap n0 f242 Eq235 Vq235 Cq235 Aq235 hrel235 hR21 hR24 hR27 hR30 hWd O2 P5 SA SHI SLO O4 rG3 f241) hZ (Wd32 hw) (Wd31 hw) (by decide) (by decide)) (g := (fr_law m p1 p2 p3 p4 p5 112 (vI 4) (vI r21) (vI r24) (vI r27) (vI r30) (vR x235) (.val (.int (own_b ((Mk r21) ∨ (Mk r24) ∨ (Mk r27) ∨ (Mk r30))))) .unset [(.ref x235)])) rfl (by rw [hml]; rfl) (argsL := [(.ref x235)]) (rest := []) (lenOf pd_27 rfl) rfl (by show 2 * 0 + _ ≤ _; exact Nat.le_of_eq rfl) (D at_112) (fun _ _ => ⟨rfl, e243, (by decide : 4 + 0 ≤ _), (by decide : 20 + 0 ≤ _)⟩)
   dsimp only [Pt.U, Pt.locs, Pt.cells, Pt.slots] at X244 l244 y244 z244 st244 hQ244
   subst l244 y244 z244
   obtain ⟨Nq244, Eq244, hB244⟩ := hQ244
   rcases hB244 with ⟨hMr, rfl⟩ | ⟨hMr, rfl⟩
   ·skip
    have N245 := Fr.app N243 Nq244
    obtain ⟨Lh246, Xh246, Nh246⟩ := oHd 4 20 X244 N245 rfl rfl
    refine ownBy st244 ?_
    clear st244
    show oA p e below _ T244 (fr_law m p1 p2 p3 p4 p5 115 (vI 4) (vI r21) (vI r24) (vI r27) (vI r30) (vR x235) (.val (.int (own_b ((Mk r21) ∨ (Mk r24) ∨ (Mk r27) ∨ (Mk r30))))) .unset [(.ref AA)])
    refine oTo T244 (fr_law m p1 p2 p3 p4 p5 131 (vI 4) (vI r21) (vI r24) (vI r27) (vI r30) (vR x235) (.val (.int (own_b ((Mk r21) ∨ (Mk r24) ∨ (Mk r27) ∨ (Mk r30))))) (vR AA) [(.ref AA)]) (fun t kt => ?_) ?_
    ·refine XS.astore Xh246.here hx rfl (D at_115) rfl rfl (l' := #[vI p1, vI p2, vI p3, vI p4, vI p5, vI 4, vI r21, vI r24, vI r27, vI r30, vR x235, .val (.int (own_b ((Mk r21) ∨ (Mk r24) ∨ (Mk r27) ∨ (Mk r30)))), vR AA]) rfl ?_
     refine XS.aload Xh246.here hx rfl (D at_117) rfl rfl ?_
     refine XS.ifnonnullYes Xh246.here hx rfl (pc0 := 119) (pc' := 124) rfl (D at_119) rfl (by decide) (by decide) ?_
     refine XS.iload Xh246.here hx rfl (D at_124) rfl ?_
     refine XS.ifNo Xh246.here hx rfl (D at_126) rfl ((if0 _ _).trans (feq (own_bt0 hMr)).1) ?_
     refine XS.aload Xh246.here hx rfl (D at_129) rfl rfl ?_
     exact kt
    have f248 := EAA.ext f241.2
    obtain ⟨cq247, kq247, q247a, q247b, q247c⟩ := isOf hZ Eq244 f248
    obtain ⟨vv247, _, ⟨T247, L247, k247, n247⟩, -, X247, ⟨Lc247, hQ247, l247, y247, z247⟩, st247⟩ := Xh246.interfaceBack hx (xi := yM28) (y := yM23) hown (mvT hZ (Wd46 hw)) (mvT hZ (Wd47 hw)) (mvT hZ (Wd48 hw)) (mvT hZ (Wd111 hw)) (mvT hZ (Wd112 hw)) (mvT hZ (Wd113 hw)) (mvT hZ (Wd114 hw)) (mvT hZ (Wd115 hw)) (by decide) (backOf (W := 0) (c_lns l Z a0 hw [] PA AA MA HS H2 PG SQ EM EL kM kE ms T235.heap n0 f242 hWd f241) hZ (Wd117 hw) (Wd116 hw) (by decide) (by decide)) q247a q247b q247c (g := (fr_law m p1 p2 p3 p4 p5 131 (vI 4) (vI r21) (vI r24) (vI r27) (vI r30) (vR x235) (.val (.int (own_b ((Mk r21) ∨ (Mk r24) ∨ (Mk r27) ∨ (Mk r30))))) (vR AA) [(.ref AA)])) rfl (by rw [hml]; rfl) (Steps.refl _) (argsL := []) (rest := []) (lenOf pd_20 rfl) rfl (by show 2 * 0 + _ ≤ _; exact Nat.le_of_eq rfl) (D at_131) (fun _ _ => ⟨rfl, Eq244, (by decide : 4 + 0 ≤ _), (by decide : 20 + 0 ≤ _)⟩)
    dsimp only [Pt.U, Pt.locs, Pt.cells, Pt.slots] at X247 l247 y247 z247 st247 hQ247
    subst l247 y247 z247
    obtain ⟨rfl, Nq247, Eq247⟩ := hQ247
    have N249 := Fr.app Nh246 Nq247
    obtain ⟨Lh250, Xh250, Nh250⟩ := oHd 4 20 X247 N249 rfl rfl
    refine ownSt st247 ?_
    clear st247
    show oA p e below _ T247 (fr_law m p1 p2 p3 p4 p5 136 (vI 4) (vI r21) (vI r24) (vI r27) (vI r30) (vR x235) (.val (.int (own_b ((Mk r21) ∨ (Mk r24) ∨ (Mk r27) ∨ (Mk r30))))) (vR AA) [(iV 4)])
    refine oTo T247 (fr_law m p1 p2 p3 p4 p5 143 (vI 4) (vI r21) (vI r24) (vI r27) (vI r30) (vR x235) (.val (.int (own_b ((Mk r21) ∨ (Mk r24) ∨ (Mk r27) ∨ (Mk r30))))) (vR AA) [(iV 0), (.ref AA)]) (fun t kt => ?_) ?_
    ·refine XS.iconst Xh250.here hx rfl (D at_136) ?_
     refine XS.icmpNo Xh250.here hx rfl (D at_137) rfl (teq ((by decide) : (4 : Int32) = (4 : Int32))).2 ?_
     refine XS.aload Xh250.here hx rfl (D at_140) rfl rfl ?_
     refine XS.iconst Xh250.here hx rfl (D at_142) ?_
     exact kt
    obtain ⟨cq251, kq251, q251a, q251b, q251c⟩ := isOf hZ Eq247 f248
    obtain ⟨vv251, _, ⟨T251, L251, k251, n251⟩, -, X251, ⟨Lc251, hQ251, l251, y251, z251⟩, st251⟩ := Xh250.interfaceBack hx (xi := yM29) (y := yM24) hown (mvT hZ (Wd60 hw)) (mvT hZ (Wd61 hw)) (mvT hZ (Wd62 hw)) (mvT hZ (Wd120 hw)) (mvT hZ (Wd121 hw)) (mvT hZ (Wd122 hw)) (mvT hZ (Wd123 hw)) (mvT hZ (Wd115 hw)) (by decide) (backOf (W := 0) (c_lng0 l Z a0 hw [] PA AA MA HS H2 PG SQ EM EL kM kE ms T235.heap n0 f242 hWd f241) hZ (Wd124 hw) (Wd116 hw) (by decide) (by decide)) q251a q251b q251c (g := (fr_law m p1 p2 p3 p4 p5 143 (vI 4) (vI r21) (vI r24) (vI r27) (vI r30) (vR x235) (.val (.int (own_b ((Mk r21) ∨ (Mk r24) ∨ (Mk r27) ∨ (Mk r30))))) (vR AA) [(iV 0), (.ref AA)])) rfl (by rw [hml]; rfl) (Steps.refl _) (argsL := [(iV 0)]) (rest := []) (lenOf pd_28 rfl) rfl (by show 2 * 0 + _ ≤ _; exact Nat.le_of_eq rfl) (D at_143) (fun _ _ => ⟨rfl, Eq247, (by decide : 4 + 0 ≤ _), (by decide : 20 + 0 ≤ _)⟩)
    dsimp only [Pt.U, Pt.locs, Pt.cells, Pt.slots] at X251 l251 y251 z251 st251 hQ251
    subst l251 y251 z251
    obtain ⟨rfl, Nq251, Eq251⟩ := hQ251
    have N252 := Fr.app Nh250 Nq251
    obtain ⟨Lh253, Xh253, Nh253⟩ := oHd 4 20 X251 N252 rfl rfl
    refine ownSt st251 ?_
    clear st251
    show oA p e below _ T251 (fr_law m p1 p2 p3 p4 p5 148 (vI 4) (vI r21) (vI r24) (vI r27) (vI r30) (vR x235) (.val (.int (own_b ((Mk r21) ∨ (Mk r24) ∨ (Mk r27) ∨ (Mk r30))))) (vR AA) [(.ref HS)])
    refine own_getS Xh253 hx hZ hown (host := "") (Or.inl (Wd71 hw)) Via.refl Eq251 (SHS.ext f241.2) (D at_148) (fun T254 X254 e254 => ?_)
    refine oTo T254 (fr_law m p1 p2 p3 p4 p5 157 (vI 4) (vI r21) (vI r24) (vI r27) (vI r30) (vR x235) (.val (.int (own_b ((Mk r21) ∨ (Mk r24) ∨ (Mk r27) ∨ (Mk r30))))) (vR AA) [(iV 1), (.ref AA)]) (fun t kt => ?_) ?_
    ·refine Jvm.RoadKit.acmp (g := (fr_law m p1 p2 p3 p4 p5 151 (vI 4) (vI r21) (vI r24) (vI r27) (vI r30) (vR x235) (.val (.int (own_b ((Mk r21) ∨ (Mk r24) ∨ (Mk r27) ∨ (Mk r30))))) (vR AA) [(.ref HS), (.ref HS)])) X254 hx rfl rfl rfl (pc0 := 151) (pc' := 154) (same := true) rfl (D at_151) rfl (decide_eq_true rfl) (by decide) (by decide) ?_
     refine XS.aload X254.here hx rfl (D at_154) rfl rfl ?_
     refine XS.iconst X254.here hx rfl (D at_156) ?_
     exact kt
    obtain ⟨cq255, kq255, q255a, q255b, q255c⟩ := isOf hZ e254 f248
    obtain ⟨vv255, _, ⟨T255, L255, k255, n255⟩, -, X255, ⟨Lc255, hQ255, l255, y255, z255⟩, st255⟩ := X254.interfaceBack hx (xi := yM29) (y := yM24) hown (mvT hZ (Wd60 hw)) (mvT hZ (Wd61 hw)) (mvT hZ (Wd62 hw)) (mvT hZ (Wd120 hw)) (mvT hZ (Wd121 hw)) (mvT hZ (Wd122 hw)) (mvT hZ (Wd123 hw)) (mvT hZ (Wd115 hw)) (by decide) (backOf (W := 0) (c_lng1 l Z a0 hw [] PA AA MA HS H2 PG SQ EM EL kM kE ms T235.heap n0 f242 hWd f241) hZ (Wd124 hw) (Wd116 hw) (by decide) (by decide)) q255a q255b q255c (g := (fr_law m p1 p2 p3 p4 p5 157 (vI 4) (vI r21) (vI r24) (vI r27) (vI r30) (vR x235) (.val (.int (own_b ((Mk r21) ∨ (Mk r24) ∨ (Mk r27) ∨ (Mk r30))))) (vR AA) [(iV 1), (.ref AA)])) rfl (by rw [hml]; rfl) (Steps.refl _) (argsL := [(iV 1)]) (rest := []) (lenOf pd_28 rfl) rfl (by show 2 * 0 + _ ≤ _; exact Nat.le_of_eq rfl) (D at_157) (fun _ _ => ⟨rfl, e254, (by decide : 4 + 0 ≤ _), (by decide : 20 + 0 ≤ _)⟩)
    dsimp only [Pt.U, Pt.locs, Pt.cells, Pt.slots] at X255 l255 y255 z255 st255 hQ255
    subst l255 y255 z255
    obtain ⟨rfl, Nq255, Eq255⟩ := hQ255
    have N256 := Fr.app Nh253 Nq255
    obtain ⟨Lh257, Xh257, Nh257⟩ := oHd 4 20 X255 N256 rfl rfl
    refine ownSt st255 ?_
    clear st255
    show oA p e below _ T255 (fr_law m p1 p2 p3 p4 p5 162 (vI 4) (vI r21) (vI r24) (vI r27) (vI r30) (vR x235) (.val (.int (own_b ((Mk r21) ∨ (Mk r24) ∨ (Mk r27) ∨ (Mk r30))))) (vR AA) [(.ref H2)])
    refine own_getS Xh257 hx hZ hown (host := "") (Or.inl (Wd126 hw)) Via.refl Eq255 (SH2.ext f241.2) (D at_162) (fun T258 X258 e258 => ?_)
    refine oTo T258 (fr_law m p1 p2 p3 p4 p5 171 (vI 4) (vI r21) (vI r24) (vI r27) (vI r30) (vR x235) (.val (.int (own_b ((Mk r21) ∨ (Mk r24) ∨ (Mk r27) ∨ (Mk r30))))) (vR AA) [(iV 2), (.ref AA)]) (fun t kt => ?_) ?_
    ·refine Jvm.RoadKit.acmp (g := (fr_law m p1 p2 p3 p4 p5 165 (vI 4) (vI r21) (vI r24) (vI r27) (vI r30) (vR x235) (.val (.int (own_b ((Mk r21) ∨ (Mk r24) ∨ (Mk r27) ∨ (Mk r30))))) (vR AA) [(.ref H2), (.ref H2)])) X258 hx rfl rfl rfl (pc0 := 165) (pc' := 168) (same := true) rfl (D at_165) rfl (decide_eq_true rfl) (by decide) (by decide) ?_
     refine XS.aload X258.here hx rfl (D at_168) rfl rfl ?_
     refine XS.iconst X258.here hx rfl (D at_170) ?_
     exact kt
    obtain ⟨cq259, kq259, q259a, q259b, q259c⟩ := isOf hZ e258 f248
    obtain ⟨vv259, _, ⟨T259, L259, k259, n259⟩, -, X259, ⟨Lc259, hQ259, l259, y259, z259⟩, st259⟩ := X258.interfaceBack hx (xi := yM29) (y := yM24) hown (mvT hZ (Wd60 hw)) (mvT hZ (Wd61 hw)) (mvT hZ (Wd62 hw)) (mvT hZ (Wd120 hw)) (mvT hZ (Wd121 hw)) (mvT hZ (Wd122 hw)) (mvT hZ (Wd123 hw)) (mvT hZ (Wd115 hw)) (by decide) (backOf (W := 0) (c_lng2 l Z a0 hw [] PA AA MA HS H2 PG SQ EM EL kM kE ms T235.heap n0 f242 hWd f241) hZ (Wd124 hw) (Wd116 hw) (by decide) (by decide)) q259a q259b q259c (g := (fr_law m p1 p2 p3 p4 p5 171 (vI 4) (vI r21) (vI r24) (vI r27) (vI r30) (vR x235) (.val (.int (own_b ((Mk r21) ∨ (Mk r24) ∨ (Mk r27) ∨ (Mk r30))))) (vR AA) [(iV 2), (.ref AA)])) rfl (by rw [hml]; rfl) (Steps.refl _) (argsL := [(iV 2)]) (rest := []) (lenOf pd_28 rfl) rfl (by show 2 * 0 + _ ≤ _; exact Nat.le_of_eq rfl) (D at_171) (fun _ _ => ⟨rfl, e258, (by decide : 4 + 0 ≤ _), (by decide : 20 + 0 ≤ _)⟩)
    dsimp only [Pt.U, Pt.locs, Pt.cells, Pt.slots] at X259 l259 y259 z259 st259 hQ259
    subst l259 y259 z259
    obtain ⟨rfl, Nq259, Eq259⟩ := hQ259
    have N260 := Fr.app Nh257 Nq259
    obtain ⟨Lh261, Xh261, Nh261⟩ := oHd 4 20 X259 N260 rfl rfl
    refine ownSt st259 ?_
    clear st259
    show oA p e below _ T259 (fr_law m p1 p2 p3 p4 p5 176 (vI 4) (vI r21) (vI r24) (vI r27) (vI r30) (vR x235) (.val (.int (own_b ((Mk r21) ∨ (Mk r24) ∨ (Mk r27) ∨ (Mk r30))))) (vR AA) [(.ref PG)])
    refine own_getS Xh261 hx hZ hown (host := "") (Or.inl (Wd128 hw)) Via.refl Eq259 (SPG.ext f241.2) (D at_176) (fun T262 X262 e262 => ?_)
    refine oTo T262 (fr_law m p1 p2 p3 p4 p5 185 (vI 4) (vI r21) (vI r24) (vI r27) (vI r30) (vR x235) (.val (.int (own_b ((Mk r21) ∨ (Mk r24) ∨ (Mk r27) ∨ (Mk r30))))) (vR AA) [(iV 3), (.ref AA)]) (fun t kt => ?_) ?_
    ·refine Jvm.RoadKit.acmp (g := (fr_law m p1 p2 p3 p4 p5 179 (vI 4) (vI r21) (vI r24) (vI r27) (vI r30) (vR x235) (.val (.int (own_b ((Mk r21) ∨ (Mk r24) ∨ (Mk r27) ∨ (Mk r30))))) (vR AA) [(.ref PG), (.ref PG)])) X262 hx rfl rfl rfl (pc0 := 179) (pc' := 182) (same := true) rfl (D at_179) rfl (decide_eq_true rfl) (by decide) (by decide) ?_
     refine XS.aload X262.here hx rfl (D at_182) rfl rfl ?_
     refine XS.iconst X262.here hx rfl (D at_184) ?_
     exact kt
    obtain ⟨cq263, kq263, q263a, q263b, q263c⟩ := isOf hZ e262 f248
    obtain ⟨vv263, _, ⟨T263, L263, k263, n263⟩, -, X263, ⟨Lc263, hQ263, l263, y263, z263⟩, st263⟩ := X262.interfaceBack hx (xi := yM29) (y := yM24) hown (mvT hZ (Wd60 hw)) (mvT hZ (Wd61 hw)) (mvT hZ (Wd62 hw)) (mvT hZ (Wd120 hw)) (mvT hZ (Wd121 hw)) (mvT hZ (Wd122 hw)) (mvT hZ (Wd123 hw)) (mvT hZ (Wd115 hw)) (by decide) (backOf (W := 0) (c_lng3 l Z a0 hw [] PA AA MA HS H2 PG SQ EM EL kM kE ms T235.heap n0 f242 hWd f241) hZ (Wd124 hw) (Wd116 hw) (by decide) (by decide)) q263a q263b q263c (g := (fr_law m p1 p2 p3 p4 p5 185 (vI 4) (vI r21) (vI r24) (vI r27) (vI r30) (vR x235) (.val (.int (own_b ((Mk r21) ∨ (Mk r24) ∨ (Mk r27) ∨ (Mk r30))))) (vR AA) [(iV 3), (.ref AA)])) rfl (by rw [hml]; rfl) (Steps.refl _) (argsL := [(iV 3)]) (rest := []) (lenOf pd_28 rfl) rfl (by show 2 * 0 + _ ≤ _; exact Nat.le_of_eq rfl) (D at_185) (fun _ _ => ⟨rfl, e262, (by decide : 4 + 0 ≤ _), (by decide : 20 + 0 ≤ _)⟩)
    dsimp only [Pt.U, Pt.locs, Pt.cells, Pt.slots] at X263 l263 y263 z263 st263 hQ263
    subst l263 y263 z263
    obtain ⟨rfl, Nq263, Eq263⟩ := hQ263
    have N264 := Fr.app Nh261 Nq263
    obtain ⟨Lh265, Xh265, Nh265⟩ := oHd 4 20 X263 N264 rfl rfl
    refine ownSt st263 ?_
    clear st263
    show oA p e below _ T263 (fr_law m p1 p2 p3 p4 p5 190 (vI 4) (vI r21) (vI r24) (vI r27) (vI r30) (vR x235) (.val (.int (own_b ((Mk r21) ∨ (Mk r24) ∨ (Mk r27) ∨ (Mk r30))))) (vR AA) [(.ref SQ)])
    refine own_getS Xh265 hx hZ hown (host := "") (Or.inl (Wd130 hw)) Via.refl Eq263 (SSQ.ext f241.2) (D at_190) (fun T266 X266 e266 => ?_)
    refine oTo T266 (fr_law m p1 p2 p3 p4 p5 201 (vI 4) (vI r21) (vI r24) (vI r27) (vI r30) (vR x235) (.val (.int (own_b ((Mk r21) ∨ (Mk r24) ∨ (Mk r27) ∨ (Mk r30))))) (vR AA) [(iV 1)]) (fun t kt => ?_) ?_
    ·refine Jvm.RoadKit.acmp (g := (fr_law m p1 p2 p3 p4 p5 193 (vI 4) (vI r21) (vI r24) (vI r27) (vI r30) (vR x235) (.val (.int (own_b ((Mk r21) ∨ (Mk r24) ∨ (Mk r27) ∨ (Mk r30))))) (vR AA) [(.ref SQ), (.ref SQ)])) X266 hx rfl rfl rfl (pc0 := 193) (pc' := 196) (same := true) rfl (D at_193) rfl (decide_eq_true rfl) (by decide) (by decide) ?_
     refine XS.iconst X266.here hx rfl (D at_196) ?_
     refine XS.goto X266.here hx rfl (pc0 := 197) (pc' := 201) rfl (D at_197) (by decide) (by decide) ?_
     exact kt
    refine ownRetH X266 hS0 (by rw [e266]; exact (Nat.le_trans (Nat.le_refl _) Kq235.1)) Bd.notSynchronized (v := some (.int (nar .boolean (1 : Int32)))) (fun h => by rw [Bd.returns] at h; cases h) ?_ (R239.trans ((by rw [e266]; exact CHv.at X266 hZ hEL R239.1))) (oLe rfl) (oLe rfl) (fun fs hr => retN X266 hx (t := .boolean) Bd.returns (by simp) (D at_201) hr)
    show (Q_law Z p1 p2 p3 p4 p5 PA AA MA HS H2 PG SQ EM EL kM kE ms G1 G3 h0 n0) (some (.int (nar .boolean (1 : Int32)))) T266.heap _
    rw [e266]
    exact ⟨rfl, Nh265⟩
   ·skip
    have N268 := Fr.app N243 Nq244
    obtain ⟨Lh269, Xh269, Nh269⟩ := oHd 4 20 X244 N268 rfl rfl
    refine ownBy st244 ?_
    clear st244
    show oA p e below _ T244 (fr_law m p1 p2 p3 p4 p5 115 (vI 4) (vI r21) (vI r24) (vI r27) (vI r30) (vR x235) (.val (.int (own_b ((Mk r21) ∨ (Mk r24) ∨ (Mk r27) ∨ (Mk r30))))) .unset [(.ref PA)])
    refine oTo T244 (fr_law m p1 p2 p3 p4 p5 204 (vI 4) (vI r21) (vI r24) (vI r27) (vI r30) (vR x235) (.val (.int (own_b ((Mk r21) ∨ (Mk r24) ∨ (Mk r27) ∨ (Mk r30))))) (vR PA) [(.ref PA)]) (fun t kt => ?_) ?_
    ·refine XS.astore Xh269.here hx rfl (D at_115) rfl rfl (l' := #[vI p1, vI p2, vI p3, vI p4, vI p5, vI 4, vI r21, vI r24, vI r27, vI r30, vR x235, .val (.int (own_b ((Mk r21) ∨ (Mk r24) ∨ (Mk r27) ∨ (Mk r30)))), vR PA]) rfl ?_
     refine XS.aload Xh269.here hx rfl (D at_117) rfl rfl ?_
     refine XS.ifnonnullYes Xh269.here hx rfl (pc0 := 119) (pc' := 124) rfl (D at_119) rfl (by decide) (by decide) ?_
     refine XS.iload Xh269.here hx rfl (D at_124) rfl ?_
     refine XS.ifYes Xh269.here hx rfl (pc0 := 126) (pc' := 202) rfl (D at_126) rfl ((if0 _ _).trans (teq (own_bf0 hMr)).1) (by decide) (by decide) ?_
     refine XS.aload Xh269.here hx rfl (D at_202) rfl rfl ?_
     exact kt
    have f271 := EPA.ext f241.2
    obtain ⟨cq270, kq270, q270a, q270b, q270c⟩ := isOf hZ Eq244 f271
    obtain ⟨vv270, _, ⟨T270, L270, k270, n270⟩, -, X270, ⟨Lc270, hQ270, l270, y270, z270⟩, st270⟩ := Xh269.interfaceBack hx (xi := yM28) (y := yM21) hown (mvT hZ (Wd46 hw)) (mvT hZ (Wd47 hw)) (mvT hZ (Wd48 hw)) (mvT hZ (Wd49 hw)) (mvT hZ (Wd50 hw)) (mvT hZ (Wd51 hw)) (mvT hZ (Wd52 hw)) (mvT hZ (Wd53 hw)) (by decide) (backOf (W := 0) (c_l12s l Z a0 hw [] PA AA MA HS H2 PG SQ EM EL kM kE ms T235.heap n0 f242 hWd f241) hZ (Wd55 hw) (Wd54 hw) (by decide) (by decide)) q270a q270b q270c (g := (fr_law m p1 p2 p3 p4 p5 204 (vI 4) (vI r21) (vI r24) (vI r27) (vI r30) (vR x235) (.val (.int (own_b ((Mk r21) ∨ (Mk r24) ∨ (Mk r27) ∨ (Mk r30))))) (vR PA) [(.ref PA)])) rfl (by rw [hml]; rfl) (Steps.refl _) (argsL := []) (rest := []) (lenOf pd_20 rfl) rfl (by show 2 * 0 + _ ≤ _; exact Nat.le_of_eq rfl) (D at_204) (fun _ _ => ⟨rfl, Eq244, (by decide : 4 + 0 ≤ _), (by decide : 20 + 0 ≤ _)⟩)
    dsimp only [Pt.U, Pt.locs, Pt.cells, Pt.slots] at X270 l270 y270 z270 st270 hQ270
    subst l270 y270 z270
    obtain ⟨rfl, Nq270, Eq270⟩ := hQ270
    have N272 := Fr.app Nh269 Nq270
    obtain ⟨Lh273, Xh273, Nh273⟩ := oHd 4 20 X270 N272 rfl rfl
    refine ownSt st270 ?_
    clear st270
    show oA p e below _ T270 (fr_law m p1 p2 p3 p4 p5 209 (vI 4) (vI r21) (vI r24) (vI r27) (vI r30) (vR x235) (.val (.int (own_b ((Mk r21) ∨ (Mk r24) ∨ (Mk r27) ∨ (Mk r30))))) (vR PA) [(iV 1)])
    refine oTo T270 (fr_law m p1 p2 p3 p4 p5 216 (vI 4) (vI r21) (vI r24) (vI r27) (vI r30) (vR x235) (.val (.int (own_b ((Mk r21) ∨ (Mk r24) ∨ (Mk r27) ∨ (Mk r30))))) (vR PA) [(iV 0), (.ref PA)]) (fun t kt => ?_) ?_
    ·refine XS.iconst Xh273.here hx rfl (D at_209) ?_
     refine XS.icmpNo Xh273.here hx rfl (D at_210) rfl (teq ((by decide) : (1 : Int32) = (1 : Int32))).2 ?_
     refine XS.aload Xh273.here hx rfl (D at_213) rfl rfl ?_
     refine XS.iconst Xh273.here hx rfl (D at_215) ?_
     exact kt
    obtain ⟨cq274, kq274, q274a, q274b, q274c⟩ := isOf hZ Eq270 f271
    obtain ⟨vv274, _, ⟨T274, L274, k274, n274⟩, -, X274, ⟨Lc274, hQ274, l274, y274, z274⟩, st274⟩ := Xh273.interfaceBack hx (xi := yM29) (y := yM22) hown (mvT hZ (Wd60 hw)) (mvT hZ (Wd61 hw)) (mvT hZ (Wd62 hw)) (mvT hZ (Wd63 hw)) (mvT hZ (Wd64 hw)) (mvT hZ (Wd65 hw)) (mvT hZ (Wd66 hw)) (mvT hZ (Wd53 hw)) (by decide) (backOf (W := 0) (c_l12g l Z a0 hw [] PA AA MA HS H2 PG SQ EM EL kM kE ms T235.heap n0 f242 hWd f241) hZ (Wd67 hw) (Wd54 hw) (by decide) (by decide)) q274a q274b q274c (g := (fr_law m p1 p2 p3 p4 p5 216 (vI 4) (vI r21) (vI r24) (vI r27) (vI r30) (vR x235) (.val (.int (own_b ((Mk r21) ∨ (Mk r24) ∨ (Mk r27) ∨ (Mk r30))))) (vR PA) [(iV 0), (.ref PA)])) rfl (by rw [hml]; rfl) (Steps.refl _) (argsL := [(iV 0)]) (rest := []) (lenOf pd_28 rfl) rfl (by show 2 * 0 + _ ≤ _; exact Nat.le_of_eq rfl) (D at_216) (fun _ _ => ⟨rfl, Eq270, (by decide : 4 + 0 ≤ _), (by decide : 20 + 0 ≤ _)⟩)
    dsimp only [Pt.U, Pt.locs, Pt.cells, Pt.slots] at X274 l274 y274 z274 st274 hQ274
    subst l274 y274 z274
    obtain ⟨rfl, Nq274, Eq274⟩ := hQ274
    have N275 := Fr.app Nh273 Nq274
    obtain ⟨Lh276, Xh276, Nh276⟩ := oHd 4 20 X274 N275 rfl rfl
    refine ownSt st274 ?_
    clear st274
    show oA p e below _ T274 (fr_law m p1 p2 p3 p4 p5 221 (vI 4) (vI r21) (vI r24) (vI r27) (vI r30) (vR x235) (.val (.int (own_b ((Mk r21) ∨ (Mk r24) ∨ (Mk r27) ∨ (Mk r30))))) (vR PA) [(.ref HS)])
    refine own_getS Xh276 hx hZ hown (host := "") (Or.inl (Wd71 hw)) Via.refl Eq274 (SHS.ext f241.2) (D at_221) (fun T277 X277 e277 => ?_)
    refine oTo T277 (fr_law m p1 p2 p3 p4 p5 232 (vI 4) (vI r21) (vI r24) (vI r27) (vI r30) (vR x235) (.val (.int (own_b ((Mk r21) ∨ (Mk r24) ∨ (Mk r27) ∨ (Mk r30))))) (vR PA) [(iV 1)]) (fun t kt => ?_) ?_
    ·refine Jvm.RoadKit.acmp (g := (fr_law m p1 p2 p3 p4 p5 224 (vI 4) (vI r21) (vI r24) (vI r27) (vI r30) (vR x235) (.val (.int (own_b ((Mk r21) ∨ (Mk r24) ∨ (Mk r27) ∨ (Mk r30))))) (vR PA) [(.ref HS), (.ref HS)])) X277 hx rfl rfl rfl (pc0 := 224) (pc' := 227) (same := true) rfl (D at_224) rfl (decide_eq_true rfl) (by decide) (by decide) ?_
     refine XS.iconst X277.here hx rfl (D at_227) ?_
     refine XS.goto X277.here hx rfl (pc0 := 228) (pc' := 232) rfl (D at_228) (by decide) (by decide) ?_
     exact kt
    refine ownRetH X277 hS0 (by rw [e277]; exact (Nat.le_trans (Nat.le_refl _) Kq235.1)) Bd.notSynchronized (v := some (.int (nar .boolean (1 : Int32)))) (fun h => by rw [Bd.returns] at h; cases h) ?_ (R239.trans ((by rw [e277]; exact CHv.at X277 hZ hEL R239.1))) (oLe rfl) (oLe rfl) (fun fs hr => retN X277 hx (t := .boolean) Bd.returns (by simp) (D at_232) hr)
    show (Q_law Z p1 p2 p3 p4 p5 PA AA MA HS H2 PG SQ EM EL kM kE ms G1 G3 h0 n0) (some (.int (nar .boolean (1 : Int32)))) T277.heap _
    rw [e277]
    exact ⟨rfl, Nh276⟩
  refine oTo T235 (fr_law m p1 p2 p3 p4 p5 55 (vI 4) (vI r21) (vI r24) (vI r27) (vI r30) (vR x235) .unset .unset [(.int r21)]) (fun t kt => ?_) ?_
  ·refine XS.iload Xh240.here hx rfl (D at_48) rfl ?_
   refine XS.ifNo Xh240.here hx rfl (D at_50) rfl ((if0 _ _).trans (tlt ((by decide) : (0 : Int32) < (4 : Int32))).2.2.2) ?_
   refine XS.iload Xh240.here hx rfl (D at_53) rfl ?_
   exact kt
  obtain ⟨vv279, _, ⟨T279, L279, k279, n279⟩, -, X279, ⟨Lc279, hQ279, l279, y279, z279⟩, st279⟩ := Jvm.LawKit.callS Xh240 hx (y := yM26) hown (mvT hZ (Wd82 hw)) (mvT hZ (Wd83 hw)) (mvT hZ (Wd2 hw)) (mvT hZ (Wd84 hw)) (by decide) (backOf (W := 0) (c_ism l Z a0 hw [] r21 T235.heap n0 f242 ) hZ (Wd84 hw) (Wd2 hw) (by decide) (by decide)) (g := (fr_law m p1 p2 p3 p4 p5 55 (vI 4) (vI r21) (vI r24) (vI r27) (vI r30) (vR x235) .unset .unset [(.int r21)])) rfl (by rw [hml]; rfl) (argsL := [(.int r21)]) (rest := []) (lenOf pd_29 rfl) rfl (by show 2 * 0 + _ ≤ _; exact Nat.le_of_eq rfl) (D at_55) (fun _ _ => ⟨rfl, rfl, (by decide : 4 + 0 ≤ _), (by decide : 20 + 0 ≤ _)⟩)
  dsimp only [Pt.U, Pt.locs, Pt.cells, Pt.slots] at X279 l279 y279 z279 st279 hQ279
  subst l279 y279 z279
  obtain ⟨rfl, Nq279, Eq279⟩ := hQ279
  have N280 := Fr.app Nh240 Nq279
  obtain ⟨Lh281, Xh281, Nh281⟩ := oHd 4 20 X279 N280 rfl rfl
  refine ownBy st279 ?_
  clear st279
  show oA p e below _ T279 (fr_law m p1 p2 p3 p4 p5 58 (vI 4) (vI r21) (vI r24) (vI r27) (vI r30) (vR x235) .unset .unset [(.int (own_b (Mk r21)))])
  by_cases hc282 : Mk r21
  ·skip
   refine oTo T279 (fr_law m p1 p2 p3 p4 p5 108 (vI 4) (vI r21) (vI r24) (vI r27) (vI r30) (vR x235) .unset .unset [(iV 1)]) (fun t kt => ?_) ?_
   ·refine XS.ifYes Xh281.here hx rfl (pc0 := 58) (pc' := 103) rfl (D at_58) rfl ((if0 _ _).trans (feq (own_bt0 hc282)).2) (by decide) (by decide) ?_
    refine XS.iconst Xh281.here hx rfl (D at_103) ?_
    refine XS.goto Xh281.here hx rfl (pc0 := 104) (pc' := 108) rfl (D at_104) (by decide) (by decide) ?_
    exact kt
   have q := rest _ _ Xh281 Nh281 Eq279
   rw [own_bt1 (p := (Mk r21) ∨ (Mk r24) ∨ (Mk r27) ∨ (Mk r30)) (Or.inl hc282)] at q
   exact q
  ·skip
   refine oTo T279 (fr_law m p1 p2 p3 p4 p5 69 (vI 4) (vI r21) (vI r24) (vI r27) (vI r30) (vR x235) .unset .unset [(.int r24)]) (fun t kt => ?_) ?_
   ·refine XS.ifNo Xh281.here hx rfl (D at_58) rfl ((if0 _ _).trans (teq (own_bf0 hc282)).2) ?_
    refine XS.iload Xh281.here hx rfl (D at_61) rfl ?_
    refine XS.iconst Xh281.here hx rfl (D at_63) ?_
    refine XS.icmpNo Xh281.here hx rfl (D at_64) rfl (tlt ((by decide) : (1 : Int32) < (4 : Int32))).2.2.2 ?_
    refine XS.iload Xh281.here hx rfl (D at_67) rfl ?_
    exact kt
   obtain ⟨vv283, _, ⟨T283, L283, k283, n283⟩, -, X283, ⟨Lc283, hQ283, l283, y283, z283⟩, st283⟩ := Jvm.LawKit.callS Xh281 hx (y := yM26) hown (mvT hZ (Wd82 hw)) (mvT hZ (Wd83 hw)) (mvT hZ (Wd2 hw)) (mvT hZ (Wd84 hw)) (by decide) (backOf (W := 0) (c_ism l Z a0 hw [] r24 T235.heap n0 f242 ) hZ (Wd84 hw) (Wd2 hw) (by decide) (by decide)) (g := (fr_law m p1 p2 p3 p4 p5 69 (vI 4) (vI r21) (vI r24) (vI r27) (vI r30) (vR x235) .unset .unset [(.int r24)])) rfl (by rw [hml]; rfl) (argsL := [(.int r24)]) (rest := []) (lenOf pd_29 rfl) rfl (by show 2 * 0 + _ ≤ _; exact Nat.le_of_eq rfl) (D at_69) (fun _ _ => ⟨rfl, Eq279, (by decide : 4 + 0 ≤ _), (by decide : 20 + 0 ≤ _)⟩)
   dsimp only [Pt.U, Pt.locs, Pt.cells, Pt.slots] at X283 l283 y283 z283 st283 hQ283
   subst l283 y283 z283
   obtain ⟨rfl, Nq283, Eq283⟩ := hQ283
   have N284 := Fr.app Nh281 Nq283
   obtain ⟨Lh285, Xh285, Nh285⟩ := oHd 4 20 X283 N284 rfl rfl
   refine ownBy st283 ?_
   clear st283
   show oA p e below _ T283 (fr_law m p1 p2 p3 p4 p5 72 (vI 4) (vI r21) (vI r24) (vI r27) (vI r30) (vR x235) .unset .unset [(.int (own_b (Mk r24)))])
   by_cases hc286 : Mk r24
   ·skip
    refine oTo T283 (fr_law m p1 p2 p3 p4 p5 108 (vI 4) (vI r21) (vI r24) (vI r27) (vI r30) (vR x235) .unset .unset [(iV 1)]) (fun t kt => ?_) ?_
    ·refine XS.ifYes Xh285.here hx rfl (pc0 := 72) (pc' := 103) rfl (D at_72) rfl ((if0 _ _).trans (feq (own_bt0 hc286)).2) (by decide) (by decide) ?_
     refine XS.iconst Xh285.here hx rfl (D at_103) ?_
     refine XS.goto Xh285.here hx rfl (pc0 := 104) (pc' := 108) rfl (D at_104) (by decide) (by decide) ?_
     exact kt
    have q := rest _ _ Xh285 Nh285 Eq283
    rw [own_bt1 (p := (Mk r21) ∨ (Mk r24) ∨ (Mk r27) ∨ (Mk r30)) (Or.inr (Or.inl hc286))] at q
    exact q
   ·skip
    refine oTo T283 (fr_law m p1 p2 p3 p4 p5 83 (vI 4) (vI r21) (vI r24) (vI r27) (vI r30) (vR x235) .unset .unset [(.int r27)]) (fun t kt => ?_) ?_
    ·refine XS.ifNo Xh285.here hx rfl (D at_72) rfl ((if0 _ _).trans (teq (own_bf0 hc286)).2) ?_
     refine XS.iload Xh285.here hx rfl (D at_75) rfl ?_
     refine XS.iconst Xh285.here hx rfl (D at_77) ?_
     refine XS.icmpNo Xh285.here hx rfl (D at_78) rfl (tlt ((by decide) : (2 : Int32) < (4 : Int32))).2.2.2 ?_
     refine XS.iload Xh285.here hx rfl (D at_81) rfl ?_
     exact kt
    obtain ⟨vv287, _, ⟨T287, L287, k287, n287⟩, -, X287, ⟨Lc287, hQ287, l287, y287, z287⟩, st287⟩ := Jvm.LawKit.callS Xh285 hx (y := yM26) hown (mvT hZ (Wd82 hw)) (mvT hZ (Wd83 hw)) (mvT hZ (Wd2 hw)) (mvT hZ (Wd84 hw)) (by decide) (backOf (W := 0) (c_ism l Z a0 hw [] r27 T235.heap n0 f242 ) hZ (Wd84 hw) (Wd2 hw) (by decide) (by decide)) (g := (fr_law m p1 p2 p3 p4 p5 83 (vI 4) (vI r21) (vI r24) (vI r27) (vI r30) (vR x235) .unset .unset [(.int r27)])) rfl (by rw [hml]; rfl) (argsL := [(.int r27)]) (rest := []) (lenOf pd_29 rfl) rfl (by show 2 * 0 + _ ≤ _; exact Nat.le_of_eq rfl) (D at_83) (fun _ _ => ⟨rfl, Eq283, (by decide : 4 + 0 ≤ _), (by decide : 20 + 0 ≤ _)⟩)
    dsimp only [Pt.U, Pt.locs, Pt.cells, Pt.slots] at X287 l287 y287 z287 st287 hQ287
    subst l287 y287 z287
    obtain ⟨rfl, Nq287, Eq287⟩ := hQ287
    have N288 := Fr.app Nh285 Nq287
    obtain ⟨Lh289, Xh289, Nh289⟩ := oHd 4 20 X287 N288 rfl rfl
    refine ownBy st287 ?_
    clear st287
    show oA p e below _ T287 (fr_law m p1 p2 p3 p4 p5 86 (vI 4) (vI r21) (vI r24) (vI r27) (vI r30) (vR x235) .unset .unset [(.int (own_b (Mk r27)))])
    by_cases hc290 : Mk r27
    ·skip
     refine oTo T287 (fr_law m p1 p2 p3 p4 p5 108 (vI 4) (vI r21) (vI r24) (vI r27) (vI r30) (vR x235) .unset .unset [(iV 1)]) (fun t kt => ?_) ?_
     ·refine XS.ifYes Xh289.here hx rfl (pc0 := 86) (pc' := 103) rfl (D at_86) rfl ((if0 _ _).trans (feq (own_bt0 hc290)).2) (by decide) (by decide) ?_
      refine XS.iconst Xh289.here hx rfl (D at_103) ?_
      refine XS.goto Xh289.here hx rfl (pc0 := 104) (pc' := 108) rfl (D at_104) (by decide) (by decide) ?_
      exact kt
     have q := rest _ _ Xh289 Nh289 Eq287
     rw [own_bt1 (p := (Mk r21) ∨ (Mk r24) ∨ (Mk r27) ∨ (Mk r30)) (Or.inr (Or.inr (Or.inl hc290)))] at q
     exact q
    ·skip
     refine oTo T287 (fr_law m p1 p2 p3 p4 p5 97 (vI 4) (vI r21) (vI r24) (vI r27) (vI r30) (vR x235) .unset .unset [(.int r30)]) (fun t kt => ?_) ?_
     ·refine XS.ifNo Xh289.here hx rfl (D at_86) rfl ((if0 _ _).trans (teq (own_bf0 hc290)).2) ?_
      refine XS.iload Xh289.here hx rfl (D at_89) rfl ?_
      refine XS.iconst Xh289.here hx rfl (D at_91) ?_
      refine XS.icmpNo Xh289.here hx rfl (D at_92) rfl (tlt ((by decide) : (3 : Int32) < (4 : Int32))).2.2.2 ?_
      refine XS.iload Xh289.here hx rfl (D at_95) rfl ?_
      exact kt
     obtain ⟨vv291, _, ⟨T291, L291, k291, n291⟩, -, X291, ⟨Lc291, hQ291, l291, y291, z291⟩, st291⟩ := Jvm.LawKit.callS Xh289 hx (y := yM26) hown (mvT hZ (Wd82 hw)) (mvT hZ (Wd83 hw)) (mvT hZ (Wd2 hw)) (mvT hZ (Wd84 hw)) (by decide) (backOf (W := 0) (c_ism l Z a0 hw [] r30 T235.heap n0 f242 ) hZ (Wd84 hw) (Wd2 hw) (by decide) (by decide)) (g := (fr_law m p1 p2 p3 p4 p5 97 (vI 4) (vI r21) (vI r24) (vI r27) (vI r30) (vR x235) .unset .unset [(.int r30)])) rfl (by rw [hml]; rfl) (argsL := [(.int r30)]) (rest := []) (lenOf pd_29 rfl) rfl (by show 2 * 0 + _ ≤ _; exact Nat.le_of_eq rfl) (D at_97) (fun _ _ => ⟨rfl, Eq287, (by decide : 4 + 0 ≤ _), (by decide : 20 + 0 ≤ _)⟩)
     dsimp only [Pt.U, Pt.locs, Pt.cells, Pt.slots] at X291 l291 y291 z291 st291 hQ291
     subst l291 y291 z291
     obtain ⟨rfl, Nq291, Eq291⟩ := hQ291
     have N292 := Fr.app Nh289 Nq291
     obtain ⟨Lh293, Xh293, Nh293⟩ := oHd 4 20 X291 N292 rfl rfl
     refine ownBy st291 ?_
     clear st291
     show oA p e below _ T291 (fr_law m p1 p2 p3 p4 p5 100 (vI 4) (vI r21) (vI r24) (vI r27) (vI r30) (vR x235) .unset .unset [(.int (own_b (Mk r30)))])
     by_cases hc294 : Mk r30
     ·skip
      refine oTo T291 (fr_law m p1 p2 p3 p4 p5 108 (vI 4) (vI r21) (vI r24) (vI r27) (vI r30) (vR x235) .unset .unset [(iV 1)]) (fun t kt => ?_) ?_
      ·refine XS.ifNo Xh293.here hx rfl (D at_100) rfl ((if0 _ _).trans (feq (own_bt0 hc294)).1) ?_
       refine XS.iconst Xh293.here hx rfl (D at_103) ?_
       refine XS.goto Xh293.here hx rfl (pc0 := 104) (pc' := 108) rfl (D at_104) (by decide) (by decide) ?_
       exact kt
      have q := rest _ _ Xh293 Nh293 Eq291
      rw [own_bt1 (p := (Mk r21) ∨ (Mk r24) ∨ (Mk r27) ∨ (Mk r30)) (Or.inr (Or.inr (Or.inr (hc294))))] at q
      exact q
     ·skip
      refine oTo T291 (fr_law m p1 p2 p3 p4 p5 108 (vI 4) (vI r21) (vI r24) (vI r27) (vI r30) (vR x235) .unset .unset [(iV 0)]) (fun t kt => ?_) ?_
      ·refine XS.ifYes Xh293.here hx rfl (pc0 := 100) (pc' := 107) rfl (D at_100) rfl ((if0 _ _).trans (teq (own_bf0 hc294)).1) (by decide) (by decide) ?_
       refine XS.iconst Xh293.here hx rfl (D at_107) ?_
       exact kt
      have q := rest _ _ Xh293 Nh293 Eq291
      rw [own_bf0 (p := (Mk r21) ∨ (Mk r24) ∨ (Mk r27) ∨ (Mk r30)) ((fun q => q.elim hc282 (fun q => q.elim hc286 (fun q => q.elim hc290 hc294))))] at q
      exact q
set_option maxRecDepth 65536 in
set_option maxHeartbeats 40000000 in
theorem comes_1 {Post : Tables → Env → Array Value → State → Outcome → State → Prop} (hpost : ∀ tb e args s v u, (limb_1_1.after args s (.returned v) u = true ∧ limb_1_2.after args s (.returned v) u = true ∧ True) → ReturnedEndW s (.returned v) u (Jvm.fieldLocs frame_1_writes args s ++ Jvm.arrayLocs frame_1_arrays args s ++ Jvm.staticLocs frame_1_statics s) 24 1152 → Post tb e args s (.returned v) u) :
  ArmFor flags0 classFile x code maxLocals ret World_1 tables_1 room_1 Calls_1 rest_1 Pre_1 Post := by
 intro l hfl _ _ p e ha hc hk s m args below hf hA hF happ hP
 obtain ⟨hcalls, hrest, hpre⟩ := hP
 obtain ⟨-, -, -, hnamed, -, -, -, hat⟩ := (Spec.applies_iff hf).mp happ
 obtain ⟨hg, hn⟩ := and_e (Cond.before_iff.mp (show (Jvm.Cond.and given_1 narrow_1).before args s = true from hpre))
 obtain ⟨g338, g339⟩ := and_e hg
 obtain ⟨g340, g341⟩ := and_e g339
 obtain ⟨g342, g343⟩ := and_e g341
 obtain ⟨g344, g345⟩ := and_e g343
 obtain ⟨g346, g347⟩ := and_e g345
 obtain ⟨w0, w1, w2, w3, w4, rfl⟩ : ∃ w0 w1 w2 w3 w4 : Value, args = #[w0, w1, w2, w3, w4] := by
  have hs : args.size = 5 := by simpa [Cond.value, given_1] using g338
  obtain ⟨L⟩ := args
  match L, hs with
  | [w0, w1, w2, w3, w4], _ => exact ⟨w0, w1, w2, w3, w4, rfl⟩
 have hw := fun d (hd : d ∈ tables_1) => atoms_spec (ws := Jvm.Cond.code x code maxLocals ret :: tables_1) hat d (List.mem_cons_of_mem _ hd)
 have hfit : Fit s := fun {y c} hc i hi => by
  obtain ⟨ha, rfl⟩ := Array.getElem?_eq_some_iff.mp hc
  have q := List.all_eq_true.mp ((Array.all_eq_true_iff_forall_mem.mp hF) _ (Array.getElem_mem ha)) i (List.mem_range.mpr hi)
  simpa [Array.getElem?_eq_getElem hi] using q
 obtain ⟨hsets, hown0⟩ := atoms_of _ (rest_1_c_eq ▸ (show rest_1_c.before _ s = true from hrest))
 have hr0 := Cond.before_iff.mp hown0
 obtain ⟨i0, ei0⟩ := is_v g340
 obtain rfl : w0 = (.int i0) := Option.some.inj ei0
 obtain ⟨i1, ei1⟩ := is_v g342
 obtain rfl : w1 = (.int i1) := Option.some.inj ei1
 obtain ⟨i2, ei2⟩ := is_v g344
 obtain rfl : w2 = (.int i2) := Option.some.inj ei2
 obtain ⟨i3, ei3⟩ := is_v g346
 obtain rfl : w3 = (.int i3) := Option.some.inj ei3
 obtain ⟨i4, ei4⟩ := is_v g347
 obtain rfl : w4 = (.int i4) := Option.some.inj ei4
 obtain ⟨G1, eG1⟩ := is_v (Cond.before_iff.mp (hsets _ (List.mem_of_getElem? (i := 1) rfl)))
 have O2 := Sta.start eG1 (Or.inl (hsets _ (List.mem_of_getElem? (i := 0) rfl)))
 have P5 : ¬ (G1 = (0 : Int32)) := own_nz eG1 (Cond.before_iff.mp (hsets _ (List.mem_of_getElem? (i := 2) rfl)))
 obtain ⟨G3, eG3, rG3⟩ := isR_v (Cond.before_iff.mp (hsets _ (List.mem_of_getElem? (i := 8) rfl)))
 have O4 := Sta.start eG3 (Or.inl (hsets _ (List.mem_of_getElem? (i := 7) rfl)))
 have SA := Sta.start (eqv_i (y := (1 : Int32)) rfl (Cond.before_iff.mp (hsets _ (List.mem_of_getElem? (i := 21) rfl)))) (Or.inl (hsets _ (List.mem_of_getElem? (i := 20) rfl)))
 have SHI := Sta.start (eqv_i (y := (0 : Int32)) rfl (Cond.before_iff.mp (hsets _ (List.mem_of_getElem? (i := 24) rfl)))) (Or.inl (hsets _ (List.mem_of_getElem? (i := 23) rfl)))
 have SLO := Sta.start (eqv_i (y := (8 : Int32)) rfl (Cond.before_iff.mp (hsets _ (List.mem_of_getElem? (i := 27) rfl)))) (Or.inl (hsets _ (List.mem_of_getElem? (i := 26) rfl)))
 obtain ⟨oEM, eEM⟩ := exa_v (Cond.before_iff.mp (hsets _ (List.mem_of_getElem? (i := 11) rfl)))
 have SEM := Sta.start eEM (Or.inl (hsets _ (List.mem_of_getElem? (i := 10) rfl)))
 obtain ⟨nc0, nr0⟩ := and_e hn
 obtain ⟨nc1, nr1⟩ := and_e nr0
 obtain ⟨nc2, nr2⟩ := and_e nr1
 obtain ⟨nc3, nr3⟩ := and_e nr2
 obtain ⟨nc4, nr4⟩ := and_e nr3
 obtain ⟨nc5, nr5⟩ := and_e nr4
 obtain ⟨nc6, nr6⟩ := and_e nr5
 obtain ⟨nc7, nr7⟩ := and_e nr6
 obtain ⟨nc8, nr8⟩ := and_e nr7
 obtain ⟨nc9, nr9⟩ := and_e nr8
 obtain ⟨nc10, nr10⟩ := and_e nr9
 obtain ⟨nc11, nr11⟩ := and_e nr10
 obtain ⟨nc12, nr12⟩ := and_e nr11
 obtain ⟨nc13, nr13⟩ := and_e nr12
 obtain ⟨nc14, nr14⟩ := and_e nr13
 obtain ⟨nc15, nr15⟩ := and_e nr14
 obtain ⟨nc16, nr16⟩ := and_e nr15
 obtain ⟨nc17, nr17⟩ := and_e nr16
 obtain ⟨nc18, nr18⟩ := and_e nr17
 obtain ⟨nc19, nr19⟩ := and_e nr18
 obtain ⟨nc20, nr20⟩ := and_e nr19
 obtain ⟨nc21, nr21⟩ := and_e nr20
 obtain ⟨nc22, nr22⟩ := and_e nr21
 obtain ⟨nc23, nr23⟩ := and_e nr22
 obtain ⟨nc24, nr24⟩ := and_e nr23
 obtain ⟨nc25, nr25⟩ := and_e nr24
 obtain ⟨nc26, nr26⟩ := and_e nr25
 obtain ⟨nc27, nr27⟩ := and_e nr26
 obtain ⟨o295, eo295⟩ := exa_v nc0
 have S296 := Sta.start eo295 (Or.inr ⟨(Wd31 hw), (Wd34 hw)⟩)
 have E297 := Exa.start eo295 nc0
 obtain ⟨o298, eo298⟩ := exa_v nc3
 have S299 := Sta.start eo298 (Or.inr ⟨(Wd31 hw), (Wd70 hw)⟩)
 have E300 := Exa.start eo298 nc3
 obtain ⟨o301, eo301⟩ := exa_v nc7
 have S302 := Sta.start eo301 (Or.inr ⟨(Wd31 hw), (Wd110 hw)⟩)
 have E303 := Exa.start eo301 nc7
 obtain ⟨o304, eo304⟩ := exa_v nc11
 have S305 := Sta.start eo304 (Or.inr ⟨(Wd31 hw), (Wd125 hw)⟩)
 have E306 := Exa.start eo304 nc11
 obtain ⟨o307, eo307⟩ := exa_v nc13
 have S308 := Sta.start eo307 (Or.inr ⟨(Wd31 hw), (Wd127 hw)⟩)
 have E309 := Exa.start eo307 nc13
 obtain ⟨o310, eo310⟩ := exa_v nc15
 have S311 := Sta.start eo310 (Or.inr ⟨(Wd31 hw), (Wd129 hw)⟩)
 have E312 := Exa.start eo310 nc15
 obtain ⟨o313, eo313⟩ := arr_v nc5
 have S314 := Sta.start eo313 (Or.inr ⟨(Wd31 hw), (Wd108 hw)⟩)
 obtain ⟨c315, Ac315⟩ := Arr.start eo313 nc5
 obtain ⟨o316, eo316⟩ := arr_v nc8
 have F317 := Fld.start ((fld_at eo301).symm.trans eo316)
 obtain ⟨c318, Ac318⟩ := Arr.start eo316 nc8
 have e319 := own_eqv eEM nc2
 have F320 := Fld.start ((fld_at eo295).symm.trans e319)
 have e321 := own_eqv eo298 nc4
 have F322 := Fld.start ((fld_at eo295).symm.trans e321)
 obtain ⟨l323, l323'⟩ := own_len eo313 Ac315 nc6
 obtain ⟨l324, l324'⟩ := own_len eo316 Ac318 nc9
 have m325 := own_elem eo316 Ac318 (own_eqv eo298 nc10)
 have m326 := own_elem eo316 Ac318 (own_eqv eo304 nc12)
 have m327 := own_elem eo316 Ac318 (own_eqv eo307 nc14)
 have m328 := own_elem eo316 Ac318 (own_eqv eo310 nc16)
 have m329 := own_elem eo313 Ac315 (eqv_i rfl nc18)
 have m330 := own_elem eo313 Ac315 (eqv_i rfl nc20)
 have m331 := own_elem eo313 Ac315 (eqv_i rfl nc22)
 have m332 := own_elem eo313 Ac315 (eqv_i rfl nc23)
 have m333 := own_elem eo313 Ac315 (eqv_i rfl nc24)
 have m334 := own_elem eo313 Ac315 (eqv_i rfl nc25)
 have m335 := own_elem eo313 Ac315 (eqv_i rfl nc26)
 have m336 := own_elem eo313 Ac315 (eqv_i rfl nc27)
 -- nc17 : (Jvm.Cond.all (Jvm.Term.static "com/example/savepoint/savepoint/SqlDialect" "MARKS" "[Z") (Jvm.Cond.or (Jvm.Cond.le (Jvm.Term.int (36 : Int32)) (Jvm.Term.index 
 -- nc19 : (Jvm.Cond.all (Jvm.Term.static "com/example/savepoint/savepoint/SqlDialect" "MARKS" "[Z") (Jvm.Cond.or (Jvm.Cond.lt (Jvm.Term.index (0 : Nat)) (Jvm.Term.int (37
 -- nc21 : (Jvm.Cond.all (Jvm.Term.static "com/example/savepoint/savepoint/SqlDialect" "MARKS" "[Z") (Jvm.Cond.or (Jvm.Cond.lt (Jvm.Term.index (0 : Nat)) (Jvm.Term.int (48
 -- nr27 : (Jvm.Cond.all (Jvm.Term.static "com/example/savepoint/savepoint/SqlDialect" "MARKS" "[Z") (Jvm.Cond.or (Jvm.Cond.lt (Jvm.Term.index (0 : Nat)) (Jvm.Term.int (97
 have KEL : Arv s s.heap o316 c318.cls (.object "java/lang/Object") (4 : Int32) [(.ref o298), (.ref o304), (.ref o307), (.ref o310)] .null := Arv.start hfit Ac318 l324 l324' (by decide) rfl ⟨m325, ⟨m326, ⟨m327, ⟨m328, trivial⟩⟩⟩⟩
 have KMA : Arv s s.heap o313 c315.cls .boolean (128 : Int32) c315.slots.toList (iV 0) := own_arvL hfit Ac315 l323 l323' (by decide)
 have szM : c315.slots.size = 128 := by
  have q := len_toInt l323
  rw [l323'] at q
  have q2 : (128 : Int32).toInt = 128 := rfl
  omega
 have m1 : ∀ k, k < 36 → c315.slots[k]? = some (.int 0) := fun k q => own_eq0 eo313 Ac315 (by omega) (own_or_r (own_all eo313 Ac315 nc17 k (by omega)) (own_le_i (own_nle (by omega) (by show (k : Int) < 36; omega))))
 have m2 : ∀ k, 37 ≤ k → k < 47 → c315.slots[k]? = some (.int 0) := fun k q q2 => own_eq0 eo313 Ac315 (by omega) (own_or_r (own_or_r (own_all eo313 Ac315 nc19 k (by omega)) (own_lt_i (own_nlt (by omega) (by show (37 : Int) ≤ k; omega)))) (own_le_i (own_nle (by omega) (by show (k : Int) < 47; omega))))
 have m3 : ∀ k, 48 ≤ k → k < 91 → c315.slots[k]? = some (.int 0) := fun k q q2 => own_eq0 eo313 Ac315 (by omega) (own_or_r (own_or_r (own_all eo313 Ac315 nc21 k (by omega)) (own_lt_i (own_nlt (by omega) (by show (48 : Int) ≤ k; omega)))) (own_le_i (own_nle (by omega) (by show (k : Int) < 91; omega))))
 have m4 : ∀ k, 97 ≤ k → k < 128 → c315.slots[k]? = some (.int 0) := fun k q q2 => own_eq0 eo313 Ac315 (by omega) (own_or_r (own_all eo313 Ac315 nr27 k (by omega)) (own_lt_i (own_nlt (by omega) (by show (97 : Int) ≤ k; omega))))
 have hMA := own_marks m1 m2 m3 m4 m329 m330 m331 m332 m333 m334 m335 m336
 have hPA := own_exa_ne E297 E303 (by decide)
 have hWd : World s o295 o301 o313 o298 o304 o307 o310 oEM o316 (c315.cls) (c318.cls) (c315.slots.toList) := ⟨S296, S302, S314, S299, S305, S308, S311, SEM, E297, E303, F320, F322, F317, KEL, KMA, hMA, hPA⟩
 have hCH : CHv s ownEL s.vm s.heap := CHv.start (own_EW hw) (fun q hq => hcalls.1 q hq) (hsets _ (List.mem_of_getElem? (i := 2) rfl)) (Wd22 hw) (Wd8 hw)
 obtain ⟨n, o, h1, h2, h3, _, L, rfl, ⟨rfl, N⟩, -, hq⟩ := c_law l s _ hw tables_1 i0 i1 i2 i3 i4 o295 o301 o313 o298 o304 o307 o310 oEM o316 (c315.cls) (c318.cls) (c315.slots.toList) G1 G3 s.heap s.heap.size (Nat.le_refl _) hWd O2 P5 SA SHI SLO O4 rG3 (Old.start s) p e ha hc hk s m _ below hf ((Spec.applies_iff_loose hf).mp happ).1 ⟨rfl, State.Warmed39.refl s, rfl, hCH⟩ trivial
 refine ⟨n, _, h1, h2, h3, hpost _ _ _ _ _ _ ⟨Cond.after_iff.mpr rfl, Cond.after_iff.mpr (eq_i res_at (Term.int_eval (1)) rfl), trivial⟩ ⟨hq.1, hq.2.1, hq.2.2.1, (hq.2.2.2.sift fun y hy => Or.inr (N y hy)).mono (by decide) (by decide)⟩⟩
theorem main_1_1 : Claimed_1_1 := comes_1 fun _ _ _ _ _ _ h hF => ⟨h.1, hF⟩
theorem main_1_2 : Claimed_1_2 := comes_1 fun _ _ _ _ _ _ h hF => ⟨h.2.1, hF⟩
end Jvm.Pilot.@@N@@
namespace Jvm.Pilot.@@N@@
open Jvm Jvm.ClassFile Sem Op Lib Jvm.Free Jvm.Stand Jvm.Pilot.@@N@@.Jvm.D
/-! MADE BY PROGRAM (witnessworld.py) out of the Statement's table words and the real class files: 35 classes; the members and pool entries that the words name. The judged class is class 1, her method 1. -/
namespace start1
open Jvm.ClassFile
def u (s : String) : CpInfo := .utf8 (stringToUtf16 s)
/-- a pool by its gaps: so many unusable entries, then the entry; so many at the end -/
def gap : Nat → List CpInfo → List CpInfo
  | 0, r => r
  | n + 1, r => .unusable :: gap n r
def poolList (es : List (Nat × CpInfo)) (last : Nat) : List CpInfo := es.foldr (fun e r => gap e.1 (e.2 :: r)) (gap last [])
def pool (es : List (Nat × CpInfo)) (last : Nat) : Array CpInfo := ⟨poolList es last⟩
def fileOf (pool : Array CpInfo) (this : Nat) (attrs : Array Attribute := #[]) (ms : Array MethodInfo := #[]) (fl : Nat := 33) (sup : Nat := 0) (ifs : Array Nat := #[]) (fds : Array FieldInfo := #[]) : ClassFile where
  minorVersion := 0
  majorVersion := 65
  constantPool := pool
  accessFlags := fl
  thisClass := this
  superClass := sup
  interfaces := ifs
  fields := fds
  methods := ms
  attributes := attrs
def plain (name : String) (sup : Option ClassId) : Class where
  name := name
  kind := .ordinary
  loader := none
  accessFlags := 33
  super := sup
  interfaces := #[]
  cf := none
  fields := #[]
  methods := #[]
  instanceTypes := #[]
  staticTypes := #[]
  resolved := #[]
  callSites := []
  init := .initialized
  statics := none
  mirror := none

def pool0 : Array CpInfo := pool [(5, u "<init>"), (0, u "()V"), (1, .class_ 10), (1, u "java/lang/Object")] 113

def k0c0 : Code := { maxStack := 0, maxLocals := 1, code := object_method_1_code, exceptionTable := #[], attributes := #[] }
def k0m0 : Method := { name := "<init>", desc := "()V", sig := { parameters := [], returnType := none }, accessFlags := 1, code := some k0c0 }
/-- java/lang/Object -/
def k0 : Class := { plain "java/lang/Object" none with
  accessFlags := 33
  interfaces := #[]
  cf := some (fileOf pool0 8 #[] #[{ accessFlags := 1, nameIndex := 5, descriptorIndex := 6, attributes := #[] }] 33 0 #[] #[])
  fields := #[]
  methods := #[k0m0]
  instanceTypes := #[]
  staticTypes := #[]
  resolved := Array.replicate 124 none
  statics := none }

def pool1 : Array CpInfo := pool [(2, .class_ 4), (1, u "java/lang/Object"), (0, u "<init>"), (0, u "()V"), (0, .methodref 8 9), (0, .class_ 10), (0, .nameAndType 11 12), (0, u "com/example/savepoint/savepoint/SqlDialectReadingsOfPinLaw"), (0, u "pick"), (0, u "(I)C"), (0, .methodref 8 14), (0, .nameAndType 15 16), (0, u "make"), (0, u "(ICCCC)Ljava/lang/String;"), (0, .methodref 8 18), (0, .nameAndType 19 20), (0, u "isMark"), (0, u "(C)Z"), (0, .methodref 22 23), (0, .class_ 24), (0, .nameAndType 25 26), (0, u "com/example/savepoint/savepoint/SqlDialect"), (0, u "readingsOf"), (0, u "(Ljava/lang/String;)Ljava/util/List;"), (0, .interfaceMethodref 28 29), (0, .class_ 30), (0, .nameAndType 31 32), (0, u "java/util/List"), (0, u "size"), (0, u "()I"), (0, .interfaceMethodref 28 34), (0, .nameAndType 35 36), (0, u "get"), (0, u "(I)Ljava/lang/Object;"), (0, .fieldref 22 38), (0, .nameAndType 39 40), (0, u "HSQLDB"), (0, u "Lcom/example/savepoint/savepoint/SqlDialect;"), (0, .fieldref 22 42), (0, .nameAndType 43 40), (0, u "H2"), (0, .fieldref 22 45), (0, .nameAndType 46 40), (0, u "POSTGRESQL"), (0, .fieldref 22 48), (0, .nameAndType 49 40), (0, u "SQLITE"), (0, .class_ 51), (0, u "java/lang/String"), (0, .methodref 50 53), (0, .nameAndType 5 54), (0, u "([C)V"), (2, u "law"), (0, u "(IIIII)Z")] 3

def k1m0 : Method := { name := "<init>", desc := "()V", sig := { parameters := [], returnType := none }, accessFlags := 1, code := none }
def k1c1 : Code := { maxStack := 5, maxLocals := 13, code := code, exceptionTable := #[], attributes := #[] }
def k1m1 : Method := { name := "law", desc := "(IIIII)Z", sig := { parameters := [.int, .int, .int, .int, .int], returnType := some .boolean }, accessFlags := 9, code := some k1c1 }
def k1c2 : Code := { maxStack := 2, maxLocals := 1, code := method_3_code, exceptionTable := #[], attributes := #[] }
def k1m2 : Method := { name := "isMark", desc := "(C)Z", sig := { parameters := [.char], returnType := some .boolean }, accessFlags := 10, code := some k1c2 }
def k1c3 : Code := { maxStack := 2, maxLocals := 2, code := method_4_code, exceptionTable := #[], attributes := #[] }
def k1m3 : Method := { name := "pick", desc := "(I)C", sig := { parameters := [.int], returnType := some .char }, accessFlags := 10, code := some k1c3 }
def k1c4 : Code := { maxStack := 6, maxLocals := 5, code := method_5_code, exceptionTable := #[], attributes := #[] }
def k1m4 : Method := { name := "make", desc := "(ICCCC)Ljava/lang/String;", sig := { parameters := [.int, .char, .char, .char, .char], returnType := some (.object "java/lang/String") }, accessFlags := 10, code := some k1c4 }
/-- com/example/savepoint/savepoint/SqlDialectReadingsOfPinLaw -/
def k1 : Class := { plain "com/example/savepoint/savepoint/SqlDialectReadingsOfPinLaw" (some 0) with
  accessFlags := 49
  interfaces := #[]
  cf := some (fileOf pool1 8 #[] #[{ accessFlags := 1, nameIndex := 5, descriptorIndex := 6, attributes := #[] }, { accessFlags := 9, nameIndex := 57, descriptorIndex := 58, attributes := #[] }, { accessFlags := 10, nameIndex := 19, descriptorIndex := 20, attributes := #[] }, { accessFlags := 10, nameIndex := 11, descriptorIndex := 12, attributes := #[] }, { accessFlags := 10, nameIndex := 15, descriptorIndex := 16, attributes := #[] }] 49 2 #[] #[])
  fields := #[]
  methods := #[k1m0, k1m1, k1m2, k1m3, k1m4]
  instanceTypes := #[]
  staticTypes := #[]
  resolved := Array.replicate 62 none
  statics := none }

def pool2 : Array CpInfo := pool [(1, .class_ 2), (0, u "java/io/Serializable"), (0, .class_ 4), (0, u "java/lang/Object")] 2

/-- java/io/Serializable -/
def k2 : Class := { plain "java/io/Serializable" (some 0) with
  accessFlags := 1537
  interfaces := #[]
  cf := some (fileOf pool2 1 #[] #[] 1537 3 #[] #[])
  fields := #[]
  methods := #[]
  instanceTypes := #[]
  staticTypes := #[]
  resolved := Array.replicate 7 none
  statics := none }

def pool3 : Array CpInfo := pool [(1, .class_ 2), (0, u "java/lang/Comparable"), (0, .class_ 4), (0, u "java/lang/Object")] 7

/-- java/lang/Comparable -/
def k3 : Class := { plain "java/lang/Comparable" (some 0) with
  accessFlags := 1537
  interfaces := #[]
  cf := some (fileOf pool3 1 #[] #[] 1537 3 #[] #[])
  fields := #[]
  methods := #[]
  instanceTypes := #[]
  staticTypes := #[]
  resolved := Array.replicate 12 none
  statics := none }

def pool4 : Array CpInfo := pool [(2, .class_ 4), (1, u "java/lang/CharSequence"), (42, .class_ 48), (0, u "java/lang/CharSequence$1CodePointIterator"), (10, .class_ 60), (0, u "java/lang/CharSequence$1CharIterator"), (5, .class_ 67), (0, u "java/lang/Object")] 63

/-- java/lang/CharSequence -/
def k4 : Class := { plain "java/lang/CharSequence" (some 0) with
  accessFlags := 1537
  interfaces := #[]
  cf := some (fileOf pool4 2 #[.nestMembers #[47, 59]] #[] 1537 66 #[] #[])
  fields := #[]
  methods := #[]
  instanceTypes := #[]
  staticTypes := #[]
  resolved := Array.replicate 131 none
  statics := none }

def pool5 : Array CpInfo := pool [(1, .class_ 2), (0, u "java/lang/constant/Constable"), (0, .class_ 4), (0, u "java/lang/Object")] 6

/-- java/lang/constant/Constable -/
def k5 : Class := { plain "java/lang/constant/Constable" (some 0) with
  accessFlags := 1537
  interfaces := #[]
  cf := some (fileOf pool5 1 #[] #[] 1537 3 #[] #[])
  fields := #[]
  methods := #[]
  instanceTypes := #[]
  staticTypes := #[]
  resolved := Array.replicate 11 none
  statics := none }

def pool6 : Array CpInfo := pool [(1, .class_ 2), (0, u "java/lang/constant/ConstantDesc"), (0, .class_ 4), (0, u "java/lang/Object")] 32

/-- java/lang/constant/ConstantDesc -/
def k6 : Class := { plain "java/lang/constant/ConstantDesc" (some 0) with
  accessFlags := 1537
  interfaces := #[]
  cf := some (fileOf pool6 1 #[] #[] 1537 3 #[] #[])
  fields := #[]
  methods := #[]
  instanceTypes := #[]
  staticTypes := #[]
  resolved := Array.replicate 37 none
  statics := none }

def pool7 : Array CpInfo := pool [(1, .methodref 2 3), (0, .class_ 4), (0, .nameAndType 5 6), (0, u "java/lang/Object"), (0, u "<init>"), (0, u "()V"), (0, .string 8), (0, u ""), (0, .fieldref 10 11), (0, .class_ 12), (0, .nameAndType 13 14), (0, u "java/lang/String"), (0, u "value"), (0, u "[B"), (0, .fieldref 10 16), (0, .nameAndType 17 18), (0, u "coder"), (0, u "B"), (2, u "hash"), (0, u "I"), (2, u "hashIsZero"), (0, u "Z"), (0, .methodref 10 28), (0, .nameAndType 5 29), (0, u "([CIILjava/lang/Void;)V"), (8, .fieldref 10 39), (0, .nameAndType 40 26), (0, u "COMPACT_STRINGS"), (1, .class_ 44), (1, u "java/lang/StringUTF16"), (0, u "compress"), (1, .methodref 42 48), (0, .nameAndType 49 50), (0, u "coderFromArrayLen"), (0, u "([BI)B"), (56, .class_ 109), (1, u "java/lang/StringLatin1"), (32, u "()Z"), (34, .methodref 42 178), (0, .nameAndType 45 179), (0, u "([CII)[B"), (154, u "()I"), (0, .methodref 10 336), (0, .nameAndType 17 337), (0, u "()B"), (25, u "([BI)C"), (27, u "(II)V"), (35, u "(I)C"), (64, .methodref 10 493), (0, .nameAndType 494 142), (0, u "isLatin1"), (0, .methodref 107 496), (0, .nameAndType 497 363), (0, u "charAt"), (0, .methodref 42 496), (2, u "checkIndex"), (5, u "length"), (67, .class_ 576), (0, u "java/lang/CharSequence"), (22, u "CASE_INSENSITIVE_ORDER"), (0, u "Ljava/util/Comparator;"), (409, u "([C)V"), (42, .fieldref 1054 1055), (0, .class_ 1056), (0, .nameAndType 1057 1058), (0, u "jdk/internal/util/Preconditions"), (0, u "SIOOBE_FORMATTER"), (0, u "Ljava/util/function/BiFunction;"), (0, .methodref 1054 1060), (0, .nameAndType 501 1061), (0, u "(IILjava/util/function/BiFunction;)I"), (39, u "serialPersistentFields"), (0, u "[Ljava/io/ObjectStreamField;"), (0, .class_ 1104), (0, u "java/lang/String$CaseInsensitiveComparator"), (1, .class_ 1107), (0, u "java/io/Serializable"), (0, .class_ 1109), (0, u "java/lang/Comparable"), (0, .class_ 1111), (0, u "java/lang/constant/Constable"), (0, .class_ 1113), (0, u "java/lang/constant/ConstantDesc"), (2, u "serialVersionUID"), (0, u "J"), (3, u "REPL"), (0, u "C"), (2, u "LATIN1"), (1, u "UTF16")] 323

def k7m0 : Method := { name := "<init>", desc := "()V", sig := { parameters := [], returnType := none }, accessFlags := 1, code := none }
def k7c1 : Code := { maxStack := 5, maxLocals := 2, code := jdk_42_method_3_code, exceptionTable := #[], attributes := #[] }
def k7m1 : Method := { name := "<init>", desc := "([C)V", sig := { parameters := [(.array .char)], returnType := none }, accessFlags := 1, code := some k7c1 }
def k7c2 : Code := { maxStack := 2, maxLocals := 1, code := jdk_42_method_54_code, exceptionTable := #[], attributes := #[] }
def k7m2 : Method := { name := "length", desc := "()I", sig := { parameters := [], returnType := some .int }, accessFlags := 1, code := some k7c2 }
def k7c3 : Code := { maxStack := 2, maxLocals := 2, code := jdk_42_method_56_code, exceptionTable := #[], attributes := #[] }
def k7m3 : Method := { name := "charAt", desc := "(I)C", sig := { parameters := [.int], returnType := some .char }, accessFlags := 1, code := some k7c3 }
def k7c4 : Code := { maxStack := 4, maxLocals := 6, code := jdk_42_method_149_code, exceptionTable := #[], attributes := #[] }
def k7m4 : Method := { name := "<init>", desc := "([CIILjava/lang/Void;)V", sig := { parameters := [(.array .char), .int, .int, (.object "java/lang/Void")], returnType := none }, accessFlags := 2, code := some k7c4 }
def k7c5 : Code := { maxStack := 1, maxLocals := 1, code := jdk_42_method_152_code, exceptionTable := #[], attributes := #[] }
def k7m5 : Method := { name := "coder", desc := "()B", sig := { parameters := [], returnType := some .byte }, accessFlags := 0, code := some k7c5 }
def k7c6 : Code := { maxStack := 1, maxLocals := 1, code := jdk_42_method_154_code, exceptionTable := #[], attributes := #[] }
def k7m6 : Method := { name := "isLatin1", desc := "()Z", sig := { parameters := [], returnType := some .boolean }, accessFlags := 0, code := some k7c6 }
def k7c7 : Code := { maxStack := 3, maxLocals := 2, code := jdk_42_method_155_code, exceptionTable := #[], attributes := #[] }
def k7m7 : Method := { name := "checkIndex", desc := "(II)V", sig := { parameters := [.int, .int], returnType := none }, accessFlags := 8, code := some k7c7 }
/-- java/lang/String -/
def k7 : Class := { plain "java/lang/String" (some 0) with
  accessFlags := 49
  interfaces := #[2, 3, 4, 5, 6]
  cf := some (fileOf pool7 10 #[.nestMembers #[1103]] #[{ accessFlags := 1, nameIndex := 5, descriptorIndex := 6, attributes := #[] }, { accessFlags := 1, nameIndex := 5, descriptorIndex := 1010, attributes := #[] }, { accessFlags := 1, nameIndex := 507, descriptorIndex := 334, attributes := #[] }, { accessFlags := 1, nameIndex := 497, descriptorIndex := 427, attributes := #[] }, { accessFlags := 2, nameIndex := 5, descriptorIndex := 29, attributes := #[] }, { accessFlags := 0, nameIndex := 17, descriptorIndex := 337, attributes := #[] }, { accessFlags := 0, nameIndex := 494, descriptorIndex := 142, attributes := #[] }, { accessFlags := 8, nameIndex := 501, descriptorIndex := 391, attributes := #[] }] 49 2 #[1106, 1108, 575, 1110, 1112] #[{ accessFlags := 18, nameIndex := 13, descriptorIndex := 14, attributes := #[] }, { accessFlags := 18, nameIndex := 17, descriptorIndex := 18, attributes := #[] }, { accessFlags := 2, nameIndex := 21, descriptorIndex := 22, attributes := #[] }, { accessFlags := 2, nameIndex := 25, descriptorIndex := 26, attributes := #[] }, { accessFlags := 26, nameIndex := 1116, descriptorIndex := 1117, attributes := #[] }, { accessFlags := 24, nameIndex := 40, descriptorIndex := 26, attributes := #[] }, { accessFlags := 26, nameIndex := 1101, descriptorIndex := 1102, attributes := #[] }, { accessFlags := 26, nameIndex := 1121, descriptorIndex := 1122, attributes := #[] }, { accessFlags := 25, nameIndex := 599, descriptorIndex := 600, attributes := #[] }, { accessFlags := 24, nameIndex := 1125, descriptorIndex := 18, attributes := #[] }, { accessFlags := 24, nameIndex := 1127, descriptorIndex := 18, attributes := #[] }])
  fields := #[{ name := "value", type := (.array .byte), accessFlags := 18, slot := 0, constantValue := 0 }, { name := "coder", type := .byte, accessFlags := 18, slot := 1, constantValue := 0 }, { name := "hash", type := .int, accessFlags := 2, slot := 2, constantValue := 0 }, { name := "hashIsZero", type := .boolean, accessFlags := 2, slot := 3, constantValue := 0 }, { name := "serialVersionUID", type := .long, accessFlags := 26, slot := 0, constantValue := 0 }, { name := "COMPACT_STRINGS", type := .boolean, accessFlags := 24, slot := 1, constantValue := 0 }, { name := "serialPersistentFields", type := (.array (.object "java/io/ObjectStreamField")), accessFlags := 26, slot := 2, constantValue := 0 }, { name := "REPL", type := .char, accessFlags := 26, slot := 3, constantValue := 0 }, { name := "CASE_INSENSITIVE_ORDER", type := (.object "java/util/Comparator"), accessFlags := 25, slot := 4, constantValue := 0 }, { name := "LATIN1", type := .byte, accessFlags := 24, slot := 5, constantValue := 0 }, { name := "UTF16", type := .byte, accessFlags := 24, slot := 6, constantValue := 0 }]
  methods := #[k7m0, k7m1, k7m2, k7m3, k7m4, k7m5, k7m6, k7m7]
  instanceTypes := #[(.array .byte), .byte, .int, .boolean]
  staticTypes := #[.long, .boolean, (.array (.object "java/io/ObjectStreamField")), .char, (.object "java/util/Comparator"), .byte, .byte]
  resolved := Array.replicate 1451 none
  statics := some 0 }

def pool8 : Array CpInfo := pool [(2, .class_ 4), (1, u "java/lang/Enum"), (0, u "name"), (0, u "Ljava/lang/String;"), (2, u "ordinal"), (0, u "I"), (1, .class_ 14), (1, u "java/lang/Object"), (4, u "hash"), (86, .class_ 108), (1, u "java/lang/Enum$EnumDesc"), (2, .class_ 112), (0, u "java/lang/constant/Constable"), (0, .class_ 114), (0, u "java/lang/Comparable"), (0, .class_ 116), (0, u "java/io/Serializable")] 87

/-- java/lang/Enum -/
def k8 : Class := { plain "java/lang/Enum" (some 0) with
  accessFlags := 1057
  interfaces := #[5, 3, 2]
  cf := some (fileOf pool8 2 #[.nestMembers #[106]] #[] 1057 12 #[111, 113, 115] #[{ accessFlags := 18, nameIndex := 5, descriptorIndex := 6, attributes := #[] }, { accessFlags := 18, nameIndex := 9, descriptorIndex := 10, attributes := #[] }, { accessFlags := 2, nameIndex := 19, descriptorIndex := 10, attributes := #[] }])
  fields := #[{ name := "name", type := (.object "java/lang/String"), accessFlags := 18, slot := 0, constantValue := 0 }, { name := "ordinal", type := .int, accessFlags := 18, slot := 1, constantValue := 0 }, { name := "hash", type := .int, accessFlags := 2, slot := 2, constantValue := 0 }]
  methods := #[]
  instanceTypes := #[(.object "java/lang/String"), .int, .int]
  staticTypes := #[]
  resolved := Array.replicate 204 none
  statics := none }

def pool9 : Array CpInfo := pool [(1, .class_ 2), (0, u "com/example/savepoint/savepoint/SqlDialect"), (2, u "HSQLDB"), (0, u "Lcom/example/savepoint/savepoint/SqlDialect;"), (2, u "H2"), (2, u "POSTGRESQL"), (2, u "SQLITE"), (2, u "$VALUES"), (0, u "[Lcom/example/savepoint/savepoint/SqlDialect;"), (6, .class_ 28), (1, u "java/lang/Enum"), (6, .class_ 36), (0, u "com/example/savepoint/savepoint/SqlDialect$Syntax"), (9, u "Ljava/util/Set;"), (12, .fieldref 1 60), (0, .nameAndType 61 62), (0, u "PLAIN"), (0, u "Ljava/util/List;"), (0, .methodref 64 65), (0, .class_ 66), (0, .nameAndType 67 68), (0, u "java/lang/String"), (0, u "length"), (0, u "()I"), (0, .methodref 64 70), (0, .nameAndType 71 72), (0, u "charAt"), (0, u "(I)C"), (0, .fieldref 1 74), (0, .nameAndType 75 76), (0, u "MARKS"), (0, u "[Z"), (0, .fieldref 1 78), (0, .nameAndType 79 62), (0, u "ALL"), (155, u "readingsOf"), (0, u "(Ljava/lang/String;)Ljava/util/List;")] 20

def k9c0 : Code := { maxStack := 2, maxLocals := 4, code := prog_14_method_4_code, exceptionTable := #[], attributes := #[] }
def k9m0 : Method := { name := "readingsOf", desc := "(Ljava/lang/String;)Ljava/util/List;", sig := { parameters := [(.object "java/lang/String")], returnType := some (.object "java/util/List") }, accessFlags := 8, code := some k9c0 }
/-- com/example/savepoint/savepoint/SqlDialect -/
def k9 : Class := { plain "com/example/savepoint/savepoint/SqlDialect" (some 8) with
  accessFlags := 16432
  interfaces := #[]
  cf := some (fileOf pool9 1 #[.nestMembers #[35]] #[{ accessFlags := 8, nameIndex := 235, descriptorIndex := 236, attributes := #[] }] 16432 26 #[] #[{ accessFlags := 16409, nameIndex := 5, descriptorIndex := 6, attributes := #[] }, { accessFlags := 16409, nameIndex := 9, descriptorIndex := 6, attributes := #[] }, { accessFlags := 16409, nameIndex := 12, descriptorIndex := 6, attributes := #[] }, { accessFlags := 16409, nameIndex := 15, descriptorIndex := 6, attributes := #[] }, { accessFlags := 26, nameIndex := 79, descriptorIndex := 62, attributes := #[] }, { accessFlags := 26, nameIndex := 61, descriptorIndex := 62, attributes := #[] }, { accessFlags := 26, nameIndex := 75, descriptorIndex := 76, attributes := #[] }, { accessFlags := 4122, nameIndex := 18, descriptorIndex := 19, attributes := #[] }])
  fields := #[{ name := "HSQLDB", type := (.object "com/example/savepoint/savepoint/SqlDialect"), accessFlags := 16409, slot := 0, constantValue := 0 }, { name := "H2", type := (.object "com/example/savepoint/savepoint/SqlDialect"), accessFlags := 16409, slot := 1, constantValue := 0 }, { name := "POSTGRESQL", type := (.object "com/example/savepoint/savepoint/SqlDialect"), accessFlags := 16409, slot := 2, constantValue := 0 }, { name := "SQLITE", type := (.object "com/example/savepoint/savepoint/SqlDialect"), accessFlags := 16409, slot := 3, constantValue := 0 }, { name := "ALL", type := (.object "java/util/List"), accessFlags := 26, slot := 4, constantValue := 0 }, { name := "PLAIN", type := (.object "java/util/List"), accessFlags := 26, slot := 5, constantValue := 0 }, { name := "MARKS", type := (.array .boolean), accessFlags := 26, slot := 6, constantValue := 0 }, { name := "$VALUES", type := (.array (.object "com/example/savepoint/savepoint/SqlDialect")), accessFlags := 4122, slot := 7, constantValue := 0 }]
  methods := #[k9m0]
  instanceTypes := #[(.object "java/lang/String"), .int, .int]
  staticTypes := #[(.object "com/example/savepoint/savepoint/SqlDialect"), (.object "com/example/savepoint/savepoint/SqlDialect"), (.object "com/example/savepoint/savepoint/SqlDialect"), (.object "com/example/savepoint/savepoint/SqlDialect"), (.object "java/util/List"), (.object "java/util/List"), (.array .boolean), (.array (.object "com/example/savepoint/savepoint/SqlDialect"))]
  resolved := Array.replicate 257 none
  statics := some 1 }

def pool10 : Array CpInfo := pool [(8, .class_ 10), (1, u "java/lang/Iterable"), (24, .class_ 36), (0, u "java/lang/Object")] 25

/-- java/lang/Iterable -/
def k10 : Class := { plain "java/lang/Iterable" (some 0) with
  accessFlags := 1537
  interfaces := #[]
  cf := some (fileOf pool10 8 #[] #[] 1537 35 #[] #[])
  fields := #[]
  methods := #[]
  instanceTypes := #[]
  staticTypes := #[]
  resolved := Array.replicate 62 none
  statics := none }

def pool11 : Array CpInfo := pool [(10, .class_ 12), (1, u "java/util/Collection"), (47, .class_ 61), (0, u "java/lang/Object"), (0, .class_ 63), (0, u "java/lang/Iterable")] 51

/-- java/util/Collection -/
def k11 : Class := { plain "java/util/Collection" (some 0) with
  accessFlags := 1537
  interfaces := #[10]
  cf := some (fileOf pool11 10 #[] #[] 1537 60 #[62] #[])
  fields := #[]
  methods := #[]
  instanceTypes := #[]
  staticTypes := #[]
  resolved := Array.replicate 115 none
  statics := none }

def pool12 : Array CpInfo := pool [(8, .class_ 10), (1, u "java/util/SequencedCollection"), (15, .class_ 27), (0, u "java/lang/Object"), (0, .class_ 29), (0, u "java/util/Collection")] 27

/-- java/util/SequencedCollection -/
def k12 : Class := { plain "java/util/SequencedCollection" (some 0) with
  accessFlags := 1537
  interfaces := #[11]
  cf := some (fileOf pool12 8 #[] #[] 1537 26 #[28] #[])
  fields := #[]
  methods := #[]
  instanceTypes := #[]
  staticTypes := #[]
  resolved := Array.replicate 57 none
  statics := none }

def pool13 : Array CpInfo := pool [(8, .class_ 10), (1, u "java/util/List"), (64, u "get"), (0, u "(I)Ljava/lang/Object;"), (2, u "size"), (0, u "()I"), (22, .class_ 104), (0, u "java/lang/Object"), (15, .class_ 121), (0, u "java/util/SequencedCollection")] 129

def k13m0 : Method := { name := "size", desc := "()I", sig := { parameters := [], returnType := some .int }, accessFlags := 1025, code := none }
def k13m1 : Method := { name := "get", desc := "(I)Ljava/lang/Object;", sig := { parameters := [.int], returnType := some (.object "java/lang/Object") }, accessFlags := 1025, code := none }
/-- java/util/List -/
def k13 : Class := { plain "java/util/List" (some 0) with
  accessFlags := 1537
  interfaces := #[12]
  cf := some (fileOf pool13 8 #[] #[{ accessFlags := 1025, nameIndex := 79, descriptorIndex := 80, attributes := #[] }, { accessFlags := 1025, nameIndex := 75, descriptorIndex := 76, attributes := #[] }] 1537 103 #[120] #[])
  fields := #[]
  methods := #[k13m0, k13m1]
  instanceTypes := #[]
  staticTypes := #[]
  resolved := Array.replicate 251 none
  statics := none }

def pool14 : Array CpInfo := pool [(2, .class_ 4), (1, u "java/lang/Object"), (0, u "<init>"), (0, u "()V"), (1, .class_ 10), (1, u "java/util/AbstractCollection"), (66, .class_ 78), (0, u "java/util/Collection")] 81

def k14m0 : Method := { name := "<init>", desc := "()V", sig := { parameters := [], returnType := none }, accessFlags := 4, code := none }
/-- java/util/AbstractCollection -/
def k14 : Class := { plain "java/util/AbstractCollection" (some 0) with
  accessFlags := 1057
  interfaces := #[11]
  cf := some (fileOf pool14 8 #[] #[{ accessFlags := 4, nameIndex := 5, descriptorIndex := 6, attributes := #[] }] 1057 2 #[77] #[])
  fields := #[]
  methods := #[k14m0]
  instanceTypes := #[]
  staticTypes := #[]
  resolved := Array.replicate 160 none
  statics := none }

def pool15 : Array CpInfo := pool [(2, .class_ 4), (1, u "java/util/AbstractCollection"), (0, u "<init>"), (0, u "()V"), (1, .class_ 10), (1, u "java/util/ImmutableCollections"), (2, .class_ 14), (0, u "java/util/ImmutableCollections$AbstractImmutableCollection")] 41

def k15m0 : Method := { name := "<init>", desc := "()V", sig := { parameters := [], returnType := none }, accessFlags := 0, code := none }
/-- java/util/ImmutableCollections$AbstractImmutableCollection -/
def k15 : Class := { plain "java/util/ImmutableCollections$AbstractImmutableCollection" (some 14) with
  accessFlags := 1056
  interfaces := #[]
  cf := some (fileOf pool15 13 #[.nestHost 8] #[{ accessFlags := 0, nameIndex := 5, descriptorIndex := 6, attributes := #[] }] 1056 2 #[] #[])
  fields := #[]
  methods := #[k15m0]
  instanceTypes := #[]
  staticTypes := #[]
  resolved := Array.replicate 56 none
  statics := none }

def pool16 : Array CpInfo := pool [(1, .class_ 2), (0, u "java/util/RandomAccess"), (0, .class_ 4), (0, u "java/lang/Object")] 2

/-- java/util/RandomAccess -/
def k16 : Class := { plain "java/util/RandomAccess" (some 0) with
  accessFlags := 1537
  interfaces := #[]
  cf := some (fileOf pool16 1 #[] #[] 1537 3 #[] #[])
  fields := #[]
  methods := #[]
  instanceTypes := #[]
  staticTypes := #[]
  resolved := Array.replicate 7 none
  statics := none }

def pool17 : Array CpInfo := pool [(2, .class_ 4), (1, u "java/util/ImmutableCollections$AbstractImmutableCollection"), (0, u "<init>"), (0, u "()V"), (1, .class_ 10), (1, u "java/util/ImmutableCollections"), (3, .class_ 16), (1, u "java/util/ImmutableCollections$AbstractImmutableList"), (60, .class_ 78), (0, u "java/util/List"), (45, .class_ 125), (0, u "java/util/RandomAccess")] 70

def k17m0 : Method := { name := "<init>", desc := "()V", sig := { parameters := [], returnType := none }, accessFlags := 0, code := none }
/-- java/util/ImmutableCollections$AbstractImmutableList -/
def k17 : Class := { plain "java/util/ImmutableCollections$AbstractImmutableList" (some 15) with
  accessFlags := 1056
  interfaces := #[13, 16]
  cf := some (fileOf pool17 14 #[.nestHost 8] #[{ accessFlags := 0, nameIndex := 5, descriptorIndex := 6, attributes := #[] }] 1056 2 #[77, 124] #[])
  fields := #[]
  methods := #[k17m0]
  instanceTypes := #[]
  staticTypes := #[]
  resolved := Array.replicate 196 none
  statics := none }

def pool18 : Array CpInfo := pool [(2, .class_ 4), (1, u "java/util/ImmutableCollections$AbstractImmutableList"), (8, .fieldref 14 15), (0, .class_ 16), (0, .nameAndType 17 18), (0, u "java/util/ImmutableCollections$List12"), (0, u "e0"), (0, u "Ljava/lang/Object;"), (0, .fieldref 20 21), (0, .class_ 22), (0, .nameAndType 23 18), (0, u "java/util/ImmutableCollections"), (0, u "EMPTY"), (0, .fieldref 14 25), (0, .nameAndType 26 18), (0, u "e1"), (24, u "size"), (0, u "()I"), (17, .class_ 71), (0, u "java/io/Serializable"), (18, u "get"), (0, u "(I)Ljava/lang/Object;")] 33

def k18c0 : Code := { maxStack := 2, maxLocals := 1, code := jdk_44_method_3_code, exceptionTable := #[], attributes := #[] }
def k18m0 : Method := { name := "size", desc := "()I", sig := { parameters := [], returnType := some .int }, accessFlags := 1, code := some k18c0 }
def k18c1 : Code := { maxStack := 2, maxLocals := 2, code := jdk_44_method_5_code, exceptionTable := #[], attributes := #[] }
def k18m1 : Method := { name := "get", desc := "(I)Ljava/lang/Object;", sig := { parameters := [.int], returnType := some (.object "java/lang/Object") }, accessFlags := 1, code := some k18c1 }
/-- java/util/ImmutableCollections$List12 -/
def k18 : Class := { plain "java/util/ImmutableCollections$List12" (some 17) with
  accessFlags := 48
  interfaces := #[2]
  cf := some (fileOf pool18 14 #[.nestHost 20] #[{ accessFlags := 1, nameIndex := 51, descriptorIndex := 52, attributes := #[] }, { accessFlags := 1, nameIndex := 90, descriptorIndex := 91, attributes := #[] }] 48 2 #[70] #[{ accessFlags := 18, nameIndex := 17, descriptorIndex := 18, attributes := #[] }, { accessFlags := 18, nameIndex := 26, descriptorIndex := 18, attributes := #[] }])
  fields := #[{ name := "e0", type := (.object "java/lang/Object"), accessFlags := 18, slot := 0, constantValue := 0 }, { name := "e1", type := (.object "java/lang/Object"), accessFlags := 18, slot := 1, constantValue := 0 }]
  methods := #[k18m0, k18m1]
  instanceTypes := #[(.object "java/lang/Object"), (.object "java/lang/Object")]
  staticTypes := #[]
  resolved := Array.replicate 125 none
  statics := none }

def pool19 : Array CpInfo := pool [(2, .class_ 4), (1, u "java/lang/Object"), (0, u "<init>"), (0, u "()V"), (3, .class_ 11), (0, u "java/util/ImmutableCollections$List12"), (0, .class_ 13), (0, u "java/util/ImmutableCollections$ListN"), (3, u "Z"), (29, .class_ 49), (1, u "java/util/ImmutableCollections"), (0, u "$assertionsDisabled"), (5, u "[Ljava/lang/Object;"), (5, u "EMPTY_LIST"), (0, u "Ljava/util/ImmutableCollections$ListN;"), (8, u "EMPTY_LIST_NULLS"), (22, u "SALT32L"), (0, u "J"), (2, u "REVERSE"), (6, u "archivedObjects"), (2, u "EMPTY"), (0, u "Ljava/lang/Object;"), (0, .class_ 112), (0, u "java/util/ImmutableCollections$SetN"), (5, u "EMPTY_SET"), (0, u "Ljava/util/ImmutableCollections$SetN;"), (0, .class_ 121), (0, u "java/util/ImmutableCollections$MapN"), (3, u "EMPTY_MAP"), (0, u "Ljava/util/ImmutableCollections$MapN;"), (4, u "EXPAND_FACTOR"), (0, u "I"), (36, .class_ 170), (0, u "java/util/ImmutableCollections$MapN$MapNIterator"), (0, .class_ 172), (0, u "java/util/ImmutableCollections$MapN$1"), (0, .class_ 174), (0, u "java/util/ImmutableCollections$Map1"), (0, .class_ 176), (0, u "java/util/ImmutableCollections$AbstractImmutableMap"), (0, .class_ 178), (0, u "java/util/ImmutableCollections$SetN$SetNIterator"), (0, .class_ 180), (0, u "java/util/ImmutableCollections$Set12"), (0, .class_ 182), (0, u "java/util/ImmutableCollections$Set12$1"), (0, .class_ 184), (0, u "java/util/ImmutableCollections$AbstractImmutableSet"), (0, .class_ 186), (0, u "java/util/ImmutableCollections$SubList"), (0, .class_ 188), (0, u "java/util/ImmutableCollections$ListItr"), (0, .class_ 190), (0, u "java/util/ImmutableCollections$AbstractImmutableList"), (0, .class_ 192), (0, u "java/util/ImmutableCollections$AbstractImmutableCollection"), (0, .class_ 194), (0, u "java/util/ImmutableCollections$Access"), (0, .class_ 196), (0, u "java/util/ImmutableCollections$Access$1")] 16

def k19m0 : Method := { name := "<init>", desc := "()V", sig := { parameters := [], returnType := none }, accessFlags := 2, code := none }
/-- java/util/ImmutableCollections -/
def k19 : Class := { plain "java/util/ImmutableCollections" (some 0) with
  accessFlags := 32
  interfaces := #[]
  cf := some (fileOf pool19 47 #[.nestMembers #[120, 169, 171, 173, 175, 111, 177, 179, 181, 183, 12, 10, 185, 187, 189, 191, 193, 195]] #[{ accessFlags := 2, nameIndex := 5, descriptorIndex := 6, attributes := #[] }] 32 2 #[] #[{ accessFlags := 26, nameIndex := 95, descriptorIndex := 96, attributes := #[] }, { accessFlags := 26, nameIndex := 99, descriptorIndex := 17, attributes := #[] }, { accessFlags := 10, nameIndex := 106, descriptorIndex := 56, attributes := #[] }, { accessFlags := 26, nameIndex := 109, descriptorIndex := 110, attributes := #[] }, { accessFlags := 24, nameIndex := 62, descriptorIndex := 63, attributes := #[] }, { accessFlags := 24, nameIndex := 72, descriptorIndex := 63, attributes := #[] }, { accessFlags := 24, nameIndex := 118, descriptorIndex := 119, attributes := #[] }, { accessFlags := 24, nameIndex := 125, descriptorIndex := 126, attributes := #[] }, { accessFlags := 24, nameIndex := 131, descriptorIndex := 132, attributes := #[] }, { accessFlags := 4120, nameIndex := 50, descriptorIndex := 17, attributes := #[] }])
  fields := #[{ name := "SALT32L", type := .long, accessFlags := 26, slot := 0, constantValue := 0 }, { name := "REVERSE", type := .boolean, accessFlags := 26, slot := 1, constantValue := 0 }, { name := "archivedObjects", type := (.array (.object "java/lang/Object")), accessFlags := 10, slot := 2, constantValue := 0 }, { name := "EMPTY", type := (.object "java/lang/Object"), accessFlags := 26, slot := 3, constantValue := 0 }, { name := "EMPTY_LIST", type := (.object "java/util/ImmutableCollections$ListN"), accessFlags := 24, slot := 4, constantValue := 0 }, { name := "EMPTY_LIST_NULLS", type := (.object "java/util/ImmutableCollections$ListN"), accessFlags := 24, slot := 5, constantValue := 0 }, { name := "EMPTY_SET", type := (.object "java/util/ImmutableCollections$SetN"), accessFlags := 24, slot := 6, constantValue := 0 }, { name := "EMPTY_MAP", type := (.object "java/util/ImmutableCollections$MapN"), accessFlags := 24, slot := 7, constantValue := 0 }, { name := "EXPAND_FACTOR", type := .int, accessFlags := 24, slot := 8, constantValue := 0 }, { name := "$assertionsDisabled", type := .boolean, accessFlags := 4120, slot := 9, constantValue := 0 }]
  methods := #[k19m0]
  instanceTypes := #[]
  staticTypes := #[.long, .boolean, (.array (.object "java/lang/Object")), (.object "java/lang/Object"), (.object "java/util/ImmutableCollections$ListN"), (.object "java/util/ImmutableCollections$ListN"), (.object "java/util/ImmutableCollections$SetN"), (.object "java/util/ImmutableCollections$MapN"), .int, .boolean]
  resolved := Array.replicate 213 none
  statics := some 2 }

def pool20 : Array CpInfo := pool [(3, .class_ 4), (0, u "java/lang/String"), (1, .class_ 8), (1, u "java/lang/Object"), (0, u "<init>"), (0, u "()V"), (0, .methodref 12 13), (0, .class_ 14), (0, .nameAndType 15 16), (0, u "java/lang/StringUTF16"), (0, u "newBytesLength"), (0, u "(I)I"), (3, .integer 1073741823), (23, .fieldref 12 45), (0, .nameAndType 46 47), (0, u "$assertionsDisabled"), (0, u "Z"), (0, .methodref 12 49), (0, .nameAndType 50 51), (0, u "length"), (0, u "([B)I"), (7, .fieldref 12 60), (0, .nameAndType 61 62), (0, u "HI_BYTE_SHIFT"), (0, u "I"), (0, .fieldref 12 64), (0, .nameAndType 65 62), (0, u "LO_BYTE_SHIFT"), (1, .methodref 12 68), (0, .nameAndType 69 70), (0, u "checkIndex"), (0, u "(I[B)V"), (0, .methodref 12 72), (0, .nameAndType 73 74), (0, u "getChar"), (0, u "([BI)C"), (32, .methodref 12 108), (0, .nameAndType 109 110), (0, u "newBytesFor"), (0, u "(I)[B"), (0, .methodref 12 112), (0, .nameAndType 113 114), (0, u "putChar"), (0, u "([BII)V"), (0, .methodref 12 116), (0, .nameAndType 117 118), (0, u "compress"), (0, u "([CI[BII)I"), (0, .methodref 12 120), (0, .nameAndType 121 122), (0, u "toBytes"), (0, u "([CII)[B"), (138, u "coderFromArrayLen"), (0, u "([BI)B"), (106, .class_ 371), (1, u "java/lang/StringUTF16$LinesSpliterator"), (20, u "charAt"), (21, .methodref 3 415), (0, .nameAndType 69 416), (0, u "(II)V"), (13, u "MAX_LENGTH"), (196, .class_ 628), (0, u "java/lang/StringUTF16$CodePointsSpliterator"), (0, .class_ 630), (0, u "java/lang/StringUTF16$CharsSpliterator")] 4

def k20m0 : Method := { name := "<init>", desc := "()V", sig := { parameters := [], returnType := none }, accessFlags := 0, code := none }
def k20c1 : Code := { maxStack := 1, maxLocals := 1, code := jdk_52_method_2_code, exceptionTable := #[], attributes := #[] }
def k20m1 : Method := { name := "newBytesFor", desc := "(I)[B", sig := { parameters := [.int], returnType := some (.array .byte) }, accessFlags := 9, code := some k20c1 }
def k20c2 : Code := { maxStack := 4, maxLocals := 1, code := jdk_52_method_3_code, exceptionTable := #[], attributes := #[] }
def k20m2 : Method := { name := "newBytesLength", desc := "(I)I", sig := { parameters := [.int], returnType := some .int }, accessFlags := 9, code := some k20c2 }
def k20c3 : Code := { maxStack := 4, maxLocals := 3, code := jdk_52_method_4_code, exceptionTable := #[], attributes := #[] }
def k20m3 : Method := { name := "putChar", desc := "([BII)V", sig := { parameters := [(.array .byte), .int, .int], returnType := none }, accessFlags := 8, code := some k20c3 }
def k20c4 : Code := { maxStack := 3, maxLocals := 2, code := jdk_52_method_5_code, exceptionTable := #[], attributes := #[] }
def k20m4 : Method := { name := "getChar", desc := "([BI)C", sig := { parameters := [(.array .byte), .int], returnType := some .char }, accessFlags := 8, code := some k20c4 }
def k20c5 : Code := { maxStack := 2, maxLocals := 1, code := jdk_52_method_6_code, exceptionTable := #[], attributes := #[] }
def k20m5 : Method := { name := "length", desc := "([B)I", sig := { parameters := [(.array .byte)], returnType := some .int }, accessFlags := 9, code := some k20c5 }
def k20c6 : Code := { maxStack := 4, maxLocals := 5, code := jdk_52_method_14_code, exceptionTable := #[], attributes := #[] }
def k20m6 : Method := { name := "toBytes", desc := "([CII)[B", sig := { parameters := [(.array .char), .int, .int], returnType := some (.array .byte) }, accessFlags := 9, code := some k20c6 }
def k20c7 : Code := { maxStack := 2, maxLocals := 2, code := jdk_52_method_15_code, exceptionTable := #[], attributes := #[] }
def k20m7 : Method := { name := "coderFromArrayLen", desc := "([BI)B", sig := { parameters := [(.array .byte), .int], returnType := some .byte }, accessFlags := 8, code := some k20c7 }
def k20c8 : Code := { maxStack := 5, maxLocals := 6, code := jdk_52_method_16_code, exceptionTable := #[], attributes := #[] }
def k20m8 : Method := { name := "compress", desc := "([CII)[B", sig := { parameters := [(.array .char), .int, .int], returnType := some (.array .byte) }, accessFlags := 9, code := some k20c8 }
def k20c9 : Code := { maxStack := 3, maxLocals := 7, code := jdk_52_method_21_code, exceptionTable := #[], attributes := #[] }
def k20m9 : Method := { name := "compress", desc := "([CI[BII)I", sig := { parameters := [(.array .char), .int, (.array .byte), .int, .int], returnType := some .int }, accessFlags := 9, code := some k20c9 }
def k20c10 : Code := { maxStack := 2, maxLocals := 2, code := jdk_52_method_83_code, exceptionTable := #[], attributes := #[] }
def k20m10 : Method := { name := "charAt", desc := "([BI)C", sig := { parameters := [(.array .byte), .int], returnType := some .char }, accessFlags := 9, code := some k20c10 }
def k20c11 : Code := { maxStack := 2, maxLocals := 2, code := jdk_52_method_91_code, exceptionTable := #[], attributes := #[] }
def k20m11 : Method := { name := "checkIndex", desc := "(I[B)V", sig := { parameters := [.int, (.array .byte)], returnType := none }, accessFlags := 9, code := some k20c11 }
/-- java/lang/StringUTF16 -/
def k20 : Class := { plain "java/lang/StringUTF16" (some 0) with
  accessFlags := 48
  interfaces := #[]
  cf := some (fileOf pool20 12 #[.nestMembers #[627, 629, 369]] #[{ accessFlags := 0, nameIndex := 9, descriptorIndex := 10, attributes := #[] }, { accessFlags := 9, nameIndex := 109, descriptorIndex := 110, attributes := #[] }, { accessFlags := 9, nameIndex := 15, descriptorIndex := 16, attributes := #[] }, { accessFlags := 8, nameIndex := 113, descriptorIndex := 114, attributes := #[] }, { accessFlags := 8, nameIndex := 73, descriptorIndex := 74, attributes := #[] }, { accessFlags := 9, nameIndex := 50, descriptorIndex := 51, attributes := #[] }, { accessFlags := 9, nameIndex := 121, descriptorIndex := 122, attributes := #[] }, { accessFlags := 8, nameIndex := 261, descriptorIndex := 262, attributes := #[] }, { accessFlags := 9, nameIndex := 117, descriptorIndex := 122, attributes := #[] }, { accessFlags := 9, nameIndex := 117, descriptorIndex := 118, attributes := #[] }, { accessFlags := 9, nameIndex := 392, descriptorIndex := 74, attributes := #[] }, { accessFlags := 9, nameIndex := 69, descriptorIndex := 70, attributes := #[] }] 48 6 #[] #[{ accessFlags := 26, nameIndex := 61, descriptorIndex := 62, attributes := #[] }, { accessFlags := 26, nameIndex := 65, descriptorIndex := 62, attributes := #[] }, { accessFlags := 24, nameIndex := 430, descriptorIndex := 62, attributes := #[] }, { accessFlags := 4120, nameIndex := 46, descriptorIndex := 47, attributes := #[] }])
  fields := #[{ name := "HI_BYTE_SHIFT", type := .int, accessFlags := 26, slot := 0, constantValue := 0 }, { name := "LO_BYTE_SHIFT", type := .int, accessFlags := 26, slot := 1, constantValue := 0 }, { name := "MAX_LENGTH", type := .int, accessFlags := 24, slot := 2, constantValue := 0 }, { name := "$assertionsDisabled", type := .boolean, accessFlags := 4120, slot := 3, constantValue := 0 }]
  methods := #[k20m0, k20m1, k20m2, k20m3, k20m4, k20m5, k20m6, k20m7, k20m8, k20m9, k20m10, k20m11]
  instanceTypes := #[]
  staticTypes := #[.int, .int, .int, .boolean]
  resolved := Array.replicate 635 none
  statics := some 3 }

def pool21 : Array CpInfo := pool [(1, .class_ 2), (0, u "java/lang/String"), (1, .class_ 6), (1, u "java/lang/Object"), (0, u "<init>"), (0, u "()V"), (0, .methodref 1 10), (0, .nameAndType 11 12), (0, u "checkIndex"), (0, u "(II)V"), (1, .class_ 16), (1, u "java/lang/StringLatin1"), (36, u "([BI)C"), (67, u "$assertionsDisabled"), (0, u "Z"), (98, .class_ 223), (1, u "java/lang/StringLatin1$LinesSpliterator"), (28, u "charAt"), (137, .class_ 391), (0, u "java/lang/StringLatin1$CharsSpliterator")] 3

def k21m0 : Method := { name := "<init>", desc := "()V", sig := { parameters := [], returnType := none }, accessFlags := 0, code := none }
def k21c1 : Code := { maxStack := 2, maxLocals := 2, code := jdk_43_method_2_code, exceptionTable := #[], attributes := #[] }
def k21m1 : Method := { name := "charAt", desc := "([BI)C", sig := { parameters := [(.array .byte), .int], returnType := some .char }, accessFlags := 9, code := some k21c1 }
/-- java/lang/StringLatin1 -/
def k21 : Class := { plain "java/lang/StringLatin1" (some 0) with
  accessFlags := 48
  interfaces := #[]
  cf := some (fileOf pool21 14 #[.nestMembers #[390, 221]] #[{ accessFlags := 0, nameIndex := 7, descriptorIndex := 8, attributes := #[] }, { accessFlags := 9, nameIndex := 252, descriptorIndex := 53, attributes := #[] }] 48 4 #[] #[{ accessFlags := 4120, nameIndex := 121, descriptorIndex := 122, attributes := #[] }])
  fields := #[{ name := "$assertionsDisabled", type := .boolean, accessFlags := 4120, slot := 0, constantValue := 0 }]
  methods := #[k21m0, k21m1]
  instanceTypes := #[]
  staticTypes := #[.boolean]
  resolved := Array.replicate 395 none
  statics := none }

def pool22 : Array CpInfo := pool [(2, .class_ 4), (1, u "java/lang/Object"), (0, u "<init>"), (0, u "()V"), (17, .class_ 26), (1, u "jdk/internal/util/Preconditions"), (6, u "checkIndex"), (21, .class_ 56), (0, u "jdk/internal/util/Preconditions$4"), (57, .class_ 115), (0, u "jdk/internal/util/Preconditions$1"), (7, u "SIOOBE_FORMATTER"), (0, u "Ljava/util/function/BiFunction;"), (0, .class_ 126), (0, u "jdk/internal/util/Preconditions$2"), (3, u "AIOOBE_FORMATTER"), (0, .class_ 132), (0, u "jdk/internal/util/Preconditions$3"), (3, u "IOOBE_FORMATTER"), (41, u "(IILjava/util/function/BiFunction;)I")] 15

def k22m0 : Method := { name := "<init>", desc := "()V", sig := { parameters := [], returnType := none }, accessFlags := 1, code := none }
def k22c1 : Code := { maxStack := 3, maxLocals := 3, code := jdk_41_method_11_code, exceptionTable := #[], attributes := #[] }
def k22m1 : Method := { name := "checkIndex", desc := "(IILjava/util/function/BiFunction;)I", sig := { parameters := [.int, .int, (.object "java/util/function/BiFunction")], returnType := some .int }, accessFlags := 9, code := some k22c1 }
/-- jdk/internal/util/Preconditions -/
def k22 : Class := { plain "jdk/internal/util/Preconditions" (some 0) with
  accessFlags := 33
  interfaces := #[]
  cf := some (fileOf pool22 24 #[.nestMembers #[55, 131, 125, 114]] #[{ accessFlags := 1, nameIndex := 5, descriptorIndex := 6, attributes := #[] }, { accessFlags := 9, nameIndex := 33, descriptorIndex := 178, attributes := #[] }] 33 2 #[] #[{ accessFlags := 25, nameIndex := 123, descriptorIndex := 124, attributes := #[] }, { accessFlags := 25, nameIndex := 130, descriptorIndex := 124, attributes := #[] }, { accessFlags := 25, nameIndex := 136, descriptorIndex := 124, attributes := #[] }])
  fields := #[{ name := "SIOOBE_FORMATTER", type := (.object "java/util/function/BiFunction"), accessFlags := 25, slot := 0, constantValue := 0 }, { name := "AIOOBE_FORMATTER", type := (.object "java/util/function/BiFunction"), accessFlags := 25, slot := 1, constantValue := 0 }, { name := "IOOBE_FORMATTER", type := (.object "java/util/function/BiFunction"), accessFlags := 25, slot := 2, constantValue := 0 }]
  methods := #[k22m0, k22m1]
  instanceTypes := #[]
  staticTypes := #[(.object "java/util/function/BiFunction"), (.object "java/util/function/BiFunction"), (.object "java/util/function/BiFunction")]
  resolved := Array.replicate 194 none
  statics := some 4 }

def pool23 : Array CpInfo := pool [(2, .class_ 4), (1, u "java/util/ImmutableCollections$AbstractImmutableList"), (2, .fieldref 8 9), (0, .class_ 10), (0, .nameAndType 11 12), (0, u "java/util/ImmutableCollections$ListN"), (0, u "elements"), (0, u "[Ljava/lang/Object;"), (2, u "allowNulls"), (0, u "Z"), (42, .class_ 60), (0, u "java/io/Serializable"), (16, u "size"), (0, u "()I"), (0, u "get"), (0, u "(I)Ljava/lang/Object;"), (33, .class_ 115), (0, u "java/util/ImmutableCollections")] 3

def k23c0 : Code := { maxStack := 1, maxLocals := 1, code := jdk_45_method_3_code, exceptionTable := #[], attributes := #[] }
def k23m0 : Method := { name := "size", desc := "()I", sig := { parameters := [], returnType := some .int }, accessFlags := 1, code := some k23c0 }
def k23c1 : Code := { maxStack := 2, maxLocals := 2, code := jdk_45_method_4_code, exceptionTable := #[], attributes := #[] }
def k23m1 : Method := { name := "get", desc := "(I)Ljava/lang/Object;", sig := { parameters := [.int], returnType := some (.object "java/lang/Object") }, accessFlags := 1, code := some k23c1 }
/-- java/util/ImmutableCollections$ListN -/
def k23 : Class := { plain "java/util/ImmutableCollections$ListN" (some 17) with
  accessFlags := 48
  interfaces := #[2]
  cf := some (fileOf pool23 8 #[.nestHost 114] #[{ accessFlags := 1, nameIndex := 77, descriptorIndex := 78, attributes := #[] }, { accessFlags := 1, nameIndex := 79, descriptorIndex := 80, attributes := #[] }] 48 2 #[59] #[{ accessFlags := 18, nameIndex := 11, descriptorIndex := 12, attributes := #[] }, { accessFlags := 18, nameIndex := 15, descriptorIndex := 16, attributes := #[] }])
  fields := #[{ name := "elements", type := (.array (.object "java/lang/Object")), accessFlags := 18, slot := 0, constantValue := 0 }, { name := "allowNulls", type := .boolean, accessFlags := 18, slot := 1, constantValue := 0 }]
  methods := #[k23m0, k23m1]
  instanceTypes := #[(.array (.object "java/lang/Object")), .boolean]
  staticTypes := #[]
  resolved := Array.replicate 119 none
  statics := none }

def pool24 : Array CpInfo := pool [(9, u "<init>"), (6, .class_ 18), (1, u "java/lang/Object"), (0, u "()V"), (1, .class_ 23), (1, u "jdk/internal/util/ArraysSupport"), (0, u "LOG2_ARRAY_LONG_INDEX_SCALE"), (0, u "I"), (2, u "U"), (0, u "Ljdk/internal/misc/Unsafe;"), (8, u "BIG_ENDIAN"), (0, u "Z"), (8, u "LOG2_BYTE_BIT_SIZE"), (4, u "LOG2_ARRAY_INT_INDEX_SCALE"), (54, u "JLA"), (0, u "Ljdk/internal/access/JavaLangAccess;"), (11, u "LOG2_ARRAY_BOOLEAN_INDEX_SCALE"), (9, u "LOG2_ARRAY_BYTE_INDEX_SCALE"), (5, u "LOG2_ARRAY_CHAR_INDEX_SCALE"), (5, u "LOG2_ARRAY_SHORT_INDEX_SCALE"), (18, u "LOG2_ARRAY_FLOAT_INDEX_SCALE"), (24, u "LOG2_ARRAY_DOUBLE_INDEX_SCALE"), (89, u "T_BOOLEAN"), (2, u "T_CHAR"), (1, u "T_FLOAT"), (1, u "T_DOUBLE"), (1, u "T_BYTE"), (1, u "T_SHORT"), (1, u "T_INT"), (1, u "T_LONG"), (1, u "SOFT_MAX_ARRAY_LENGTH")] 83

def k24m0 : Method := { name := "<init>", desc := "()V", sig := { parameters := [], returnType := none }, accessFlags := 2, code := none }
/-- jdk/internal/util/ArraysSupport -/
def k24 : Class := { plain "jdk/internal/util/ArraysSupport" (some 0) with
  accessFlags := 33
  interfaces := #[]
  cf := some (fileOf pool24 21 #[] #[{ accessFlags := 2, nameIndex := 9, descriptorIndex := 19, attributes := #[] }] 33 16 #[] #[{ accessFlags := 24, nameIndex := 28, descriptorIndex := 29, attributes := #[] }, { accessFlags := 26, nameIndex := 38, descriptorIndex := 39, attributes := #[] }, { accessFlags := 25, nameIndex := 121, descriptorIndex := 25, attributes := #[] }, { accessFlags := 25, nameIndex := 131, descriptorIndex := 25, attributes := #[] }, { accessFlags := 25, nameIndex := 137, descriptorIndex := 25, attributes := #[] }, { accessFlags := 25, nameIndex := 143, descriptorIndex := 25, attributes := #[] }, { accessFlags := 25, nameIndex := 53, descriptorIndex := 25, attributes := #[] }, { accessFlags := 25, nameIndex := 24, descriptorIndex := 25, attributes := #[] }, { accessFlags := 25, nameIndex := 162, descriptorIndex := 25, attributes := #[] }, { accessFlags := 25, nameIndex := 187, descriptorIndex := 25, attributes := #[] }, { accessFlags := 26, nameIndex := 48, descriptorIndex := 25, attributes := #[] }, { accessFlags := 25, nameIndex := 277, descriptorIndex := 25, attributes := #[] }, { accessFlags := 25, nameIndex := 280, descriptorIndex := 25, attributes := #[] }, { accessFlags := 25, nameIndex := 282, descriptorIndex := 25, attributes := #[] }, { accessFlags := 25, nameIndex := 284, descriptorIndex := 25, attributes := #[] }, { accessFlags := 25, nameIndex := 286, descriptorIndex := 25, attributes := #[] }, { accessFlags := 25, nameIndex := 288, descriptorIndex := 25, attributes := #[] }, { accessFlags := 25, nameIndex := 290, descriptorIndex := 25, attributes := #[] }, { accessFlags := 25, nameIndex := 292, descriptorIndex := 25, attributes := #[] }, { accessFlags := 26, nameIndex := 108, descriptorIndex := 109, attributes := #[] }, { accessFlags := 25, nameIndex := 294, descriptorIndex := 25, attributes := #[] }])
  fields := #[{ name := "U", type := (.object "jdk/internal/misc/Unsafe"), accessFlags := 24, slot := 0, constantValue := 0 }, { name := "BIG_ENDIAN", type := .boolean, accessFlags := 26, slot := 1, constantValue := 0 }, { name := "LOG2_ARRAY_BOOLEAN_INDEX_SCALE", type := .int, accessFlags := 25, slot := 2, constantValue := 0 }, { name := "LOG2_ARRAY_BYTE_INDEX_SCALE", type := .int, accessFlags := 25, slot := 3, constantValue := 0 }, { name := "LOG2_ARRAY_CHAR_INDEX_SCALE", type := .int, accessFlags := 25, slot := 4, constantValue := 0 }, { name := "LOG2_ARRAY_SHORT_INDEX_SCALE", type := .int, accessFlags := 25, slot := 5, constantValue := 0 }, { name := "LOG2_ARRAY_INT_INDEX_SCALE", type := .int, accessFlags := 25, slot := 6, constantValue := 0 }, { name := "LOG2_ARRAY_LONG_INDEX_SCALE", type := .int, accessFlags := 25, slot := 7, constantValue := 0 }, { name := "LOG2_ARRAY_FLOAT_INDEX_SCALE", type := .int, accessFlags := 25, slot := 8, constantValue := 0 }, { name := "LOG2_ARRAY_DOUBLE_INDEX_SCALE", type := .int, accessFlags := 25, slot := 9, constantValue := 0 }, { name := "LOG2_BYTE_BIT_SIZE", type := .int, accessFlags := 26, slot := 10, constantValue := 0 }, { name := "T_BOOLEAN", type := .int, accessFlags := 25, slot := 11, constantValue := 0 }, { name := "T_CHAR", type := .int, accessFlags := 25, slot := 12, constantValue := 0 }, { name := "T_FLOAT", type := .int, accessFlags := 25, slot := 13, constantValue := 0 }, { name := "T_DOUBLE", type := .int, accessFlags := 25, slot := 14, constantValue := 0 }, { name := "T_BYTE", type := .int, accessFlags := 25, slot := 15, constantValue := 0 }, { name := "T_SHORT", type := .int, accessFlags := 25, slot := 16, constantValue := 0 }, { name := "T_INT", type := .int, accessFlags := 25, slot := 17, constantValue := 0 }, { name := "T_LONG", type := .int, accessFlags := 25, slot := 18, constantValue := 0 }, { name := "JLA", type := (.object "jdk/internal/access/JavaLangAccess"), accessFlags := 26, slot := 19, constantValue := 0 }, { name := "SOFT_MAX_ARRAY_LENGTH", type := .int, accessFlags := 25, slot := 20, constantValue := 0 }]
  methods := #[k24m0]
  instanceTypes := #[]
  staticTypes := #[(.object "jdk/internal/misc/Unsafe"), .boolean, .int, .int, .int, .int, .int, .int, .int, .int, .int, .int, .int, .int, .int, .int, .int, .int, .int, (.object "jdk/internal/access/JavaLangAccess"), .int]
  resolved := Array.replicate 378 none
  statics := none }

def pool25 : Array CpInfo := pool [(1, u "java/lang/Cloneable"), (0, .class_ 1), (0, u "java/lang/Object"), (0, .class_ 3)] 3

/-- java/lang/Cloneable -/
def k25 : Class := { plain "java/lang/Cloneable" (some 0) with
  accessFlags := 1537
  interfaces := #[]
  cf := some (fileOf pool25 2 #[] #[] 1537 4 #[] #[])
  fields := #[]
  methods := #[]
  instanceTypes := #[]
  staticTypes := #[]
  resolved := Array.replicate 8 none
  statics := none }

/-- the primitive boolean -/
def k26 : Class := { plain "boolean" none with kind := .primitive 'Z', accessFlags := 0x411 }
/-- [Z -/
def k27 : Class := { plain "[Z" (some 0) with kind := .array 26 .boolean, interfaces := #[25, 2], accessFlags := 1041 }

/-- the primitive byte -/
def k28 : Class := { plain "byte" none with kind := .primitive 'B', accessFlags := 0x411 }
/-- [B -/
def k29 : Class := { plain "[B" (some 0) with kind := .array 28 .byte, interfaces := #[25, 2], accessFlags := 1041 }

/-- the primitive char -/
def k30 : Class := { plain "char" none with kind := .primitive 'C', accessFlags := 0x411 }
/-- [C -/
def k31 : Class := { plain "[C" (some 0) with kind := .array 30 .char, interfaces := #[25, 2], accessFlags := 1041 }

/-- the primitive int -/
def k32 : Class := { plain "int" none with kind := .primitive 'I', accessFlags := 0x411 }
/-- [I -/
def k33 : Class := { plain "[I" (some 0) with kind := .array 32 .int, interfaces := #[25, 2], accessFlags := 1041 }

/-- [Ljava/lang/Object; -/
def k34 : Class := { plain "[Ljava/lang/Object;" (some 0) with kind := .array 0 (.object "java/lang/Object"), interfaces := #[25, 2], accessFlags := 1041 }

def heap : Heap := #[{ cls := 7, slots := #[.long 0, .int 1, .null, .int 0, .null, .int 0, .int 0], vm := .statics 7 },
  { cls := 9, slots := #[.ref 6, .ref 7, .ref 8, .ref 9, .ref 11, .ref 10, .ref 13, .null], vm := .statics 9 },
  { cls := 19, slots := #[.long 0, .int 0, .null, .ref 12, .ref 11, .null, .null, .null, .int 0, .int 1], vm := .statics 19 },
  { cls := 20, slots := #[.int 0, .int 8, .int 0, .int 1], vm := .statics 20 },
  { cls := 22, slots := #[.null, .null, .null], vm := .statics 22 },
  { cls := 34, slots := #[.ref 6, .ref 7, .ref 8, .ref 9], vm := .none },
  { cls := 9, slots := #[.null, .int 0, .int 0], vm := .none },
  { cls := 9, slots := #[.null, .int 0, .int 0], vm := .none },
  { cls := 9, slots := #[.null, .int 0, .int 0], vm := .none },
  { cls := 9, slots := #[.null, .int 0, .int 0], vm := .none },
  { cls := 18, slots := #[.ref 6, .ref 12], vm := .none },
  { cls := 23, slots := #[.ref 5, .int 0], vm := .none },
  { cls := 0, slots := #[], vm := .none },
  { cls := 27, slots := #[.int 0, .int 0, .int 0, .int 0, .int 0, .int 0, .int 0, .int 0, .int 0, .int 0, .int 0, .int 0, .int 0, .int 0, .int 0, .int 0, .int 0, .int 0, .int 0, .int 0, .int 0, .int 0, .int 0, .int 0, .int 0, .int 0, .int 0, .int 0, .int 0, .int 0, .int 0, .int 0, .int 0, .int 0, .int 0, .int 0, .int 1, .int 0, .int 0, .int 0, .int 0, .int 0, .int 0, .int 0, .int 0, .int 0, .int 0, .int 1, .int 0, .int 0, .int 0, .int 0, .int 0, .int 0, .int 0, .int 0, .int 0, .int 0, .int 0, .int 0, .int 0, .int 0, .int 0, .int 0, .int 0, .int 0, .int 0, .int 0, .int 0, .int 0, .int 0, .int 0, .int 0, .int 0, .int 0, .int 0, .int 0, .int 0, .int 0, .int 0, .int 0, .int 0, .int 0, .int 0, .int 0, .int 0, .int 0, .int 0, .int 0, .int 0, .int 0, .int 1, .int 1, .int 0, .int 0, .int 0, .int 1, .int 0, .int 0, .int 0, .int 0, .int 0, .int 0, .int 0, .int 0, .int 0, .int 0, .int 0, .int 0, .int 0, .int 0, .int 0, .int 0, .int 0, .int 0, .int 0, .int 0, .int 0, .int 0, .int 0, .int 0, .int 0, .int 0, .int 0, .int 0, .int 0, .int 0, .int 0], vm := .none }]
def classes : Array Class := #[k0, k1, k2, k3, k4, k5, k6, k7, k8, k9, k10, k11, k12, k13, k14, k15, k16, k17, k18, k19, k20, k21, k22, k23, k24, k25, k26, k27, k28, k29, k30, k31, k32, k33, k34]
def interned : List (Array UInt16 × Addr) := []
def slotsUsed : Nat := 180
def theMethod : MethodId := ⟨1, 1⟩
def args0 : Array Value := #[.int 3, .int 70000, .int 47, .int 200, .int 12345]
def aboutOver (below : List Frame) : State where
  vm := { classes := classes, interned := interned.toArray }
  heap := heap
  slotsUsed := slotsUsed
  threads := #[{ frames := .invoking theMethod args0 :: below }]
def below0 : List Frame := [.native { method := ⟨0, 0⟩, args := #[] }]
def about1 : State := aboutOver below0
def p0 : Program := .bare "" "" ""
def e0 : Env := launch0.env 0 0 0
theorem w_frames : about1.frames = Frame.invoking theMethod args0 :: below0 := rfl
set_option maxRecDepth 65536 in
theorem w_args : argsFit about1.vm theMethod args0 = true := by decide +kernel
set_option maxRecDepth 65536 in
theorem w_heap : heapFits about1 = true := by decide +kernel
set_option maxRecDepth 65536 in
theorem w_runnable : about1.curStatus? = some .runnable := by decide +kernel
set_option maxRecDepth 65536 in
theorem w_alone : about1.alone = true := by decide +kernel
set_option maxRecDepth 65536 in
theorem w_named : about1.methodNamed? x = some theMethod := by decide +kernel
set_option maxRecDepth 65536 in
theorem w_hears : about1.hears theMethod below0 = true := by decide +kernel
set_option maxRecDepth 65536 in
theorem w_ripe : about1.ripe theMethod args0 below0 = true := by decide +kernel
theorem w_running : about1.status = .running := rfl
set_option maxRecDepth 65536 in
theorem w_room : about1.hasRoom e0.platform room_1 = true :=
  launch0.hasRoom_least _ room_1 (by decide +kernel) (by decide +kernel) (by decide +kernel) (by decide +kernel) (by decide +kernel) (by decide +kernel)
theorem allAtoms_all (ts : List Jvm.Cond) (a : Array Jvm.Value) (st : Jvm.State) : (allAtoms ts).before a st = ts.all (fun c => c.before a st) := by
  induction ts with
  | nil => rfl
  | cons c t ih =>
    show (Jvm.Cond.and c (allAtoms t)).before a st = _
    rw [Jvm.Cond.before_and, ih, List.all_cons]
def words1 : List Jvm.Cond := Jvm.Cond.code x code maxLocals ret :: tables_1
/-- a 'code' word, met by the world's own term for the bytes: nothing is compared byte by byte -/
theorem code_word {y : MethodName} {bytes : ByteArray} {mx : Nat} {rt : Option FieldType} {a : Array Value} {s : State} {m : MethodId} {meth : Method} {c : Code} (h1 : s.methodNamed? y = some m) (h2 : s.vm.method? m = some meth) (h3 : meth.code = some c) (h4 : c.code = bytes)
    (h5 : (c.maxLocals == mx && c.exceptionTable.isEmpty && decide (c.maxStack ≤ mostOperands) && decide (meth.sig.returnType = rt) && !meth.locks && decide (parseMethodDescriptor y.desc = some meth.sig)) = true) : (Jvm.Cond.code y bytes mx rt).before a s = true := by
  simp only [Bool.and_eq_true, beq_iff_eq, Bool.not_eq_true', decide_eq_true_eq] at h5
  obtain ⟨⟨⟨⟨⟨g1, g2⟩, g3⟩, g4⟩, g5⟩, g6⟩ := h5
  simp [Cond.before, Cond.holds, Cond.value, h1, h2, h3, h4, g1, g2, g3, g4, g5, g6]
def isCode : Jvm.Cond → Bool
  | .code _ _ _ _ => true
  | _ => false
theorem all_split {L : List Jvm.Cond} {P : Jvm.Cond → Bool} (h1 : L.all (fun c => isCode c || P c) = true) (h2 : ∀ c ∈ L.filter isCode, P c = true) : L.all P = true := by
  refine List.all_eq_true.mpr fun c hc => ?_
  have h := List.all_eq_true.mp h1 c hc
  rcases Bool.eq_false_or_eq_true (isCode c) with hi | hi
  · exact h2 c (List.mem_filter.mpr ⟨hc, hi⟩)
  · simpa [hi] using h
set_option maxRecDepth 65536 in
theorem w_c0 : (Jvm.Cond.code x code maxLocals ret).before args0 about1 = true := code_word (m := ⟨1, 1⟩) (meth := k1m1) (c := k1c1) (by decide +kernel) rfl rfl rfl (by decide +kernel)
set_option maxRecDepth 65536 in
theorem w_c1 : (Jvm.Cond.code ({ cls := "com/example/savepoint/savepoint/SqlDialectReadingsOfPinLaw", name := "pick", desc := "(I)C" } : Jvm.MethodName) method_4_code (2 : Nat) (Option.some Jvm.ClassFile.FieldType.char)).before args0 about1 = true := code_word (m := ⟨1, 3⟩) (meth := k1m3) (c := k1c3) (by decide +kernel) rfl rfl rfl (by decide +kernel)
set_option maxRecDepth 65536 in
theorem w_c2 : (Jvm.Cond.code ({ cls := "com/example/savepoint/savepoint/SqlDialectReadingsOfPinLaw", name := "make", desc := "(ICCCC)Ljava/lang/String;" } : Jvm.MethodName) method_5_code (5 : Nat) (Option.some (Jvm.ClassFile.FieldType.object "java/lang/String"))).before args0 about1 = true := code_word (m := ⟨1, 4⟩) (meth := k1m4) (c := k1c4) (by decide +kernel) rfl rfl rfl (by decide +kernel)
set_option maxRecDepth 65536 in
theorem w_c3 : (Jvm.Cond.code ({ cls := "java/lang/String", name := "<init>", desc := "([C)V" } : Jvm.MethodName) jdk_42_method_3_code (2 : Nat) (Option.none : Option Jvm.ClassFile.FieldType)).before args0 about1 = true := code_word (m := ⟨7, 1⟩) (meth := k7m1) (c := k7c1) (by decide +kernel) rfl rfl rfl (by decide +kernel)
set_option maxRecDepth 65536 in
theorem w_c4 : (Jvm.Cond.code ({ cls := "java/lang/String", name := "<init>", desc := "([CIILjava/lang/Void;)V" } : Jvm.MethodName) jdk_42_method_149_code (6 : Nat) (Option.none : Option Jvm.ClassFile.FieldType)).before args0 about1 = true := code_word (m := ⟨7, 4⟩) (meth := k7m4) (c := k7c4) (by decide +kernel) rfl rfl rfl (by decide +kernel)
set_option maxRecDepth 65536 in
theorem w_c5 : (Jvm.Cond.code ({ cls := "java/lang/Object", name := "<init>", desc := "()V" } : Jvm.MethodName) object_method_1_code (1 : Nat) (Option.none : Option Jvm.ClassFile.FieldType)).before args0 about1 = true := code_word (m := ⟨0, 0⟩) (meth := k0m0) (c := k0c0) (by decide +kernel) rfl rfl rfl (by decide +kernel)
set_option maxRecDepth 65536 in
theorem w_c6 : (Jvm.Cond.code ({ cls := "com/example/savepoint/savepoint/SqlDialect", name := "readingsOf", desc := "(Ljava/lang/String;)Ljava/util/List;" } : Jvm.MethodName) prog_14_method_4_code (4 : Nat) (Option.some (Jvm.ClassFile.FieldType.object "java/util/List"))).before args0 about1 = true := code_word (m := ⟨9, 0⟩) (meth := k9m0) (c := k9c0) (by decide +kernel) rfl rfl rfl (by decide +kernel)
set_option maxRecDepth 65536 in
theorem w_c7 : (Jvm.Cond.code ({ cls := "java/lang/String", name := "length", desc := "()I" } : Jvm.MethodName) jdk_42_method_54_code (1 : Nat) (Option.some Jvm.ClassFile.FieldType.int)).before args0 about1 = true := code_word (m := ⟨7, 2⟩) (meth := k7m2) (c := k7c2) (by decide +kernel) rfl rfl rfl (by decide +kernel)
set_option maxRecDepth 65536 in
theorem w_c8 : (Jvm.Cond.code ({ cls := "java/lang/String", name := "coder", desc := "()B" } : Jvm.MethodName) jdk_42_method_152_code (1 : Nat) (Option.some Jvm.ClassFile.FieldType.byte)).before args0 about1 = true := code_word (m := ⟨7, 5⟩) (meth := k7m5) (c := k7c5) (by decide +kernel) rfl rfl rfl (by decide +kernel)
set_option maxRecDepth 65536 in
theorem w_c9 : (Jvm.Cond.code ({ cls := "java/util/ImmutableCollections$List12", name := "size", desc := "()I" } : Jvm.MethodName) jdk_44_method_3_code (1 : Nat) (Option.some Jvm.ClassFile.FieldType.int)).before args0 about1 = true := code_word (m := ⟨18, 0⟩) (meth := k18m0) (c := k18c0) (by decide +kernel) rfl rfl rfl (by decide +kernel)
set_option maxRecDepth 65536 in
theorem w_c10 : (Jvm.Cond.code ({ cls := "java/util/ImmutableCollections$List12", name := "get", desc := "(I)Ljava/lang/Object;" } : Jvm.MethodName) jdk_44_method_5_code (2 : Nat) (Option.some (Jvm.ClassFile.FieldType.object "java/lang/Object"))).before args0 about1 = true := code_word (m := ⟨18, 1⟩) (meth := k18m1) (c := k18c1) (by decide +kernel) rfl rfl rfl (by decide +kernel)
set_option maxRecDepth 65536 in
theorem w_c11 : (Jvm.Cond.code ({ cls := "java/lang/StringUTF16", name := "compress", desc := "([CII)[B" } : Jvm.MethodName) jdk_52_method_16_code (6 : Nat) (Option.some (Jvm.ClassFile.FieldType.array Jvm.ClassFile.FieldType.byte))).before args0 about1 = true := code_word (m := ⟨20, 8⟩) (meth := k20m8) (c := k20c8) (by decide +kernel) rfl rfl rfl (by decide +kernel)
set_option maxRecDepth 65536 in
theorem w_c12 : (Jvm.Cond.code ({ cls := "java/lang/StringUTF16", name := "compress", desc := "([CI[BII)I" } : Jvm.MethodName) jdk_52_method_21_code (7 : Nat) (Option.some Jvm.ClassFile.FieldType.int)).before args0 about1 = true := code_word (m := ⟨20, 9⟩) (meth := k20m9) (c := k20c9) (by decide +kernel) rfl rfl rfl (by decide +kernel)
set_option maxRecDepth 65536 in
theorem w_c13 : (Jvm.Cond.code ({ cls := "java/lang/StringUTF16", name := "coderFromArrayLen", desc := "([BI)B" } : Jvm.MethodName) jdk_52_method_15_code (2 : Nat) (Option.some Jvm.ClassFile.FieldType.byte)).before args0 about1 = true := code_word (m := ⟨20, 7⟩) (meth := k20m7) (c := k20c7) (by decide +kernel) rfl rfl rfl (by decide +kernel)
set_option maxRecDepth 65536 in
theorem w_c14 : (Jvm.Cond.code ({ cls := "com/example/savepoint/savepoint/SqlDialectReadingsOfPinLaw", name := "isMark", desc := "(C)Z" } : Jvm.MethodName) method_3_code (1 : Nat) (Option.some Jvm.ClassFile.FieldType.boolean)).before args0 about1 = true := code_word (m := ⟨1, 2⟩) (meth := k1m2) (c := k1c2) (by decide +kernel) rfl rfl rfl (by decide +kernel)
set_option maxRecDepth 65536 in
theorem w_c15 : (Jvm.Cond.code ({ cls := "java/lang/String", name := "charAt", desc := "(I)C" } : Jvm.MethodName) jdk_42_method_56_code (2 : Nat) (Option.some Jvm.ClassFile.FieldType.char)).before args0 about1 = true := code_word (m := ⟨7, 3⟩) (meth := k7m3) (c := k7c3) (by decide +kernel) rfl rfl rfl (by decide +kernel)
set_option maxRecDepth 65536 in
theorem w_c16 : (Jvm.Cond.code ({ cls := "java/lang/String", name := "isLatin1", desc := "()Z" } : Jvm.MethodName) jdk_42_method_154_code (1 : Nat) (Option.some Jvm.ClassFile.FieldType.boolean)).before args0 about1 = true := code_word (m := ⟨7, 6⟩) (meth := k7m6) (c := k7c6) (by decide +kernel) rfl rfl rfl (by decide +kernel)
set_option maxRecDepth 65536 in
theorem w_c17 : (Jvm.Cond.code ({ cls := "java/lang/StringLatin1", name := "charAt", desc := "([BI)C" } : Jvm.MethodName) jdk_43_method_2_code (2 : Nat) (Option.some Jvm.ClassFile.FieldType.char)).before args0 about1 = true := code_word (m := ⟨21, 1⟩) (meth := k21m1) (c := k21c1) (by decide +kernel) rfl rfl rfl (by decide +kernel)
set_option maxRecDepth 65536 in
theorem w_c18 : (Jvm.Cond.code ({ cls := "java/lang/String", name := "checkIndex", desc := "(II)V" } : Jvm.MethodName) jdk_42_method_155_code (2 : Nat) (Option.none : Option Jvm.ClassFile.FieldType)).before args0 about1 = true := code_word (m := ⟨7, 7⟩) (meth := k7m7) (c := k7c7) (by decide +kernel) rfl rfl rfl (by decide +kernel)
set_option maxRecDepth 65536 in
theorem w_c19 : (Jvm.Cond.code ({ cls := "jdk/internal/util/Preconditions", name := "checkIndex", desc := "(IILjava/util/function/BiFunction;)I" } : Jvm.MethodName) jdk_41_method_11_code (3 : Nat) (Option.some Jvm.ClassFile.FieldType.int)).before args0 about1 = true := code_word (m := ⟨22, 1⟩) (meth := k22m1) (c := k22c1) (by decide +kernel) rfl rfl rfl (by decide +kernel)
set_option maxRecDepth 65536 in
theorem w_c20 : (Jvm.Cond.code ({ cls := "java/util/ImmutableCollections$ListN", name := "size", desc := "()I" } : Jvm.MethodName) jdk_45_method_3_code (1 : Nat) (Option.some Jvm.ClassFile.FieldType.int)).before args0 about1 = true := code_word (m := ⟨23, 0⟩) (meth := k23m0) (c := k23c0) (by decide +kernel) rfl rfl rfl (by decide +kernel)
set_option maxRecDepth 65536 in
theorem w_c21 : (Jvm.Cond.code ({ cls := "java/util/ImmutableCollections$ListN", name := "get", desc := "(I)Ljava/lang/Object;" } : Jvm.MethodName) jdk_45_method_4_code (2 : Nat) (Option.some (Jvm.ClassFile.FieldType.object "java/lang/Object"))).before args0 about1 = true := code_word (m := ⟨23, 1⟩) (meth := k23m1) (c := k23c1) (by decide +kernel) rfl rfl rfl (by decide +kernel)
set_option maxRecDepth 65536 in
theorem w_c22 : (Jvm.Cond.code ({ cls := "java/lang/StringUTF16", name := "toBytes", desc := "([CII)[B" } : Jvm.MethodName) jdk_52_method_14_code (5 : Nat) (Option.some (Jvm.ClassFile.FieldType.array Jvm.ClassFile.FieldType.byte))).before args0 about1 = true := code_word (m := ⟨20, 6⟩) (meth := k20m6) (c := k20c6) (by decide +kernel) rfl rfl rfl (by decide +kernel)
set_option maxRecDepth 65536 in
theorem w_c23 : (Jvm.Cond.code ({ cls := "java/lang/StringUTF16", name := "newBytesFor", desc := "(I)[B" } : Jvm.MethodName) jdk_52_method_2_code (1 : Nat) (Option.some (Jvm.ClassFile.FieldType.array Jvm.ClassFile.FieldType.byte))).before args0 about1 = true := code_word (m := ⟨20, 1⟩) (meth := k20m1) (c := k20c1) (by decide +kernel) rfl rfl rfl (by decide +kernel)
set_option maxRecDepth 65536 in
theorem w_c24 : (Jvm.Cond.code ({ cls := "java/lang/StringUTF16", name := "newBytesLength", desc := "(I)I" } : Jvm.MethodName) jdk_52_method_3_code (1 : Nat) (Option.some Jvm.ClassFile.FieldType.int)).before args0 about1 = true := code_word (m := ⟨20, 2⟩) (meth := k20m2) (c := k20c2) (by decide +kernel) rfl rfl rfl (by decide +kernel)
set_option maxRecDepth 65536 in
theorem w_c25 : (Jvm.Cond.code ({ cls := "java/lang/StringUTF16", name := "putChar", desc := "([BII)V" } : Jvm.MethodName) jdk_52_method_4_code (3 : Nat) (Option.none : Option Jvm.ClassFile.FieldType)).before args0 about1 = true := code_word (m := ⟨20, 3⟩) (meth := k20m3) (c := k20c3) (by decide +kernel) rfl rfl rfl (by decide +kernel)
set_option maxRecDepth 65536 in
theorem w_c26 : (Jvm.Cond.code ({ cls := "java/lang/StringUTF16", name := "getChar", desc := "([BI)C" } : Jvm.MethodName) jdk_52_method_5_code (2 : Nat) (Option.some Jvm.ClassFile.FieldType.char)).before args0 about1 = true := code_word (m := ⟨20, 4⟩) (meth := k20m4) (c := k20c4) (by decide +kernel) rfl rfl rfl (by decide +kernel)
set_option maxRecDepth 65536 in
theorem w_c27 : (Jvm.Cond.code ({ cls := "java/lang/StringUTF16", name := "charAt", desc := "([BI)C" } : Jvm.MethodName) jdk_52_method_83_code (2 : Nat) (Option.some Jvm.ClassFile.FieldType.char)).before args0 about1 = true := code_word (m := ⟨20, 10⟩) (meth := k20m10) (c := k20c10) (by decide +kernel) rfl rfl rfl (by decide +kernel)
set_option maxRecDepth 65536 in
theorem w_c28 : (Jvm.Cond.code ({ cls := "java/lang/StringUTF16", name := "checkIndex", desc := "(I[B)V" } : Jvm.MethodName) jdk_52_method_91_code (2 : Nat) (Option.none : Option Jvm.ClassFile.FieldType)).before args0 about1 = true := code_word (m := ⟨20, 11⟩) (meth := k20m11) (c := k20c11) (by decide +kernel) rfl rfl rfl (by decide +kernel)
set_option maxRecDepth 65536 in
theorem w_c29 : (Jvm.Cond.code ({ cls := "java/lang/StringUTF16", name := "length", desc := "([B)I" } : Jvm.MethodName) jdk_52_method_6_code (1 : Nat) (Option.some Jvm.ClassFile.FieldType.int)).before args0 about1 = true := code_word (m := ⟨20, 5⟩) (meth := k20m5) (c := k20c5) (by decide +kernel) rfl rfl rfl (by decide +kernel)
def codes1 : List Jvm.Cond := [Jvm.Cond.code x code maxLocals ret, Jvm.Cond.code ({ cls := "com/example/savepoint/savepoint/SqlDialectReadingsOfPinLaw", name := "pick", desc := "(I)C" } : Jvm.MethodName) method_4_code (2 : Nat) (Option.some Jvm.ClassFile.FieldType.char), Jvm.Cond.code ({ cls := "com/example/savepoint/savepoint/SqlDialectReadingsOfPinLaw", name := "make", desc := "(ICCCC)Ljava/lang/String;" } : Jvm.MethodName) method_5_code (5 : Nat) (Option.some (Jvm.ClassFile.FieldType.object "java/lang/String")), Jvm.Cond.code ({ cls := "java/lang/String", name := "<init>", desc := "([C)V" } : Jvm.MethodName) jdk_42_method_3_code (2 : Nat) (Option.none : Option Jvm.ClassFile.FieldType), Jvm.Cond.code ({ cls := "java/lang/String", name := "<init>", desc := "([CIILjava/lang/Void;)V" } : Jvm.MethodName) jdk_42_method_149_code (6 : Nat) (Option.none : Option Jvm.ClassFile.FieldType), Jvm.Cond.code ({ cls := "java/lang/Object", name := "<init>", desc := "()V" } : Jvm.MethodName) object_method_1_code (1 : Nat) (Option.none : Option Jvm.ClassFile.FieldType), Jvm.Cond.code ({ cls := "com/example/savepoint/savepoint/SqlDialect", name := "readingsOf", desc := "(Ljava/lang/String;)Ljava/util/List;" } : Jvm.MethodName) prog_14_method_4_code (4 : Nat) (Option.some (Jvm.ClassFile.FieldType.object "java/util/List")), Jvm.Cond.code ({ cls := "java/lang/String", name := "length", desc := "()I" } : Jvm.MethodName) jdk_42_method_54_code (1 : Nat) (Option.some Jvm.ClassFile.FieldType.int), Jvm.Cond.code ({ cls := "java/lang/String", name := "coder", desc := "()B" } : Jvm.MethodName) jdk_42_method_152_code (1 : Nat) (Option.some Jvm.ClassFile.FieldType.byte), Jvm.Cond.code ({ cls := "java/util/ImmutableCollections$List12", name := "size", desc := "()I" } : Jvm.MethodName) jdk_44_method_3_code (1 : Nat) (Option.some Jvm.ClassFile.FieldType.int), Jvm.Cond.code ({ cls := "java/util/ImmutableCollections$List12", name := "get", desc := "(I)Ljava/lang/Object;" } : Jvm.MethodName) jdk_44_method_5_code (2 : Nat) (Option.some (Jvm.ClassFile.FieldType.object "java/lang/Object")), Jvm.Cond.code ({ cls := "java/lang/StringUTF16", name := "compress", desc := "([CII)[B" } : Jvm.MethodName) jdk_52_method_16_code (6 : Nat) (Option.some (Jvm.ClassFile.FieldType.array Jvm.ClassFile.FieldType.byte)), Jvm.Cond.code ({ cls := "java/lang/StringUTF16", name := "compress", desc := "([CI[BII)I" } : Jvm.MethodName) jdk_52_method_21_code (7 : Nat) (Option.some Jvm.ClassFile.FieldType.int), Jvm.Cond.code ({ cls := "java/lang/StringUTF16", name := "coderFromArrayLen", desc := "([BI)B" } : Jvm.MethodName) jdk_52_method_15_code (2 : Nat) (Option.some Jvm.ClassFile.FieldType.byte), Jvm.Cond.code ({ cls := "com/example/savepoint/savepoint/SqlDialectReadingsOfPinLaw", name := "isMark", desc := "(C)Z" } : Jvm.MethodName) method_3_code (1 : Nat) (Option.some Jvm.ClassFile.FieldType.boolean), Jvm.Cond.code ({ cls := "java/lang/String", name := "charAt", desc := "(I)C" } : Jvm.MethodName) jdk_42_method_56_code (2 : Nat) (Option.some Jvm.ClassFile.FieldType.char), Jvm.Cond.code ({ cls := "java/lang/String", name := "isLatin1", desc := "()Z" } : Jvm.MethodName) jdk_42_method_154_code (1 : Nat) (Option.some Jvm.ClassFile.FieldType.boolean), Jvm.Cond.code ({ cls := "java/lang/StringLatin1", name := "charAt", desc := "([BI)C" } : Jvm.MethodName) jdk_43_method_2_code (2 : Nat) (Option.some Jvm.ClassFile.FieldType.char), Jvm.Cond.code ({ cls := "java/lang/String", name := "checkIndex", desc := "(II)V" } : Jvm.MethodName) jdk_42_method_155_code (2 : Nat) (Option.none : Option Jvm.ClassFile.FieldType), Jvm.Cond.code ({ cls := "jdk/internal/util/Preconditions", name := "checkIndex", desc := "(IILjava/util/function/BiFunction;)I" } : Jvm.MethodName) jdk_41_method_11_code (3 : Nat) (Option.some Jvm.ClassFile.FieldType.int), Jvm.Cond.code ({ cls := "java/util/ImmutableCollections$ListN", name := "size", desc := "()I" } : Jvm.MethodName) jdk_45_method_3_code (1 : Nat) (Option.some Jvm.ClassFile.FieldType.int), Jvm.Cond.code ({ cls := "java/util/ImmutableCollections$ListN", name := "get", desc := "(I)Ljava/lang/Object;" } : Jvm.MethodName) jdk_45_method_4_code (2 : Nat) (Option.some (Jvm.ClassFile.FieldType.object "java/lang/Object")), Jvm.Cond.code ({ cls := "java/lang/StringUTF16", name := "toBytes", desc := "([CII)[B" } : Jvm.MethodName) jdk_52_method_14_code (5 : Nat) (Option.some (Jvm.ClassFile.FieldType.array Jvm.ClassFile.FieldType.byte)), Jvm.Cond.code ({ cls := "java/lang/StringUTF16", name := "newBytesFor", desc := "(I)[B" } : Jvm.MethodName) jdk_52_method_2_code (1 : Nat) (Option.some (Jvm.ClassFile.FieldType.array Jvm.ClassFile.FieldType.byte)), Jvm.Cond.code ({ cls := "java/lang/StringUTF16", name := "newBytesLength", desc := "(I)I" } : Jvm.MethodName) jdk_52_method_3_code (1 : Nat) (Option.some Jvm.ClassFile.FieldType.int), Jvm.Cond.code ({ cls := "java/lang/StringUTF16", name := "putChar", desc := "([BII)V" } : Jvm.MethodName) jdk_52_method_4_code (3 : Nat) (Option.none : Option Jvm.ClassFile.FieldType), Jvm.Cond.code ({ cls := "java/lang/StringUTF16", name := "getChar", desc := "([BI)C" } : Jvm.MethodName) jdk_52_method_5_code (2 : Nat) (Option.some Jvm.ClassFile.FieldType.char), Jvm.Cond.code ({ cls := "java/lang/StringUTF16", name := "charAt", desc := "([BI)C" } : Jvm.MethodName) jdk_52_method_83_code (2 : Nat) (Option.some Jvm.ClassFile.FieldType.char), Jvm.Cond.code ({ cls := "java/lang/StringUTF16", name := "checkIndex", desc := "(I[B)V" } : Jvm.MethodName) jdk_52_method_91_code (2 : Nat) (Option.none : Option Jvm.ClassFile.FieldType), Jvm.Cond.code ({ cls := "java/lang/StringUTF16", name := "length", desc := "([B)I" } : Jvm.MethodName) jdk_52_method_6_code (1 : Nat) (Option.some Jvm.ClassFile.FieldType.int)]
set_option maxRecDepth 65536 in
theorem codes_eq : words1.filter isCode = codes1 := rfl
theorem w_codes : ∀ c ∈ words1.filter isCode, c.before args0 about1 = true := by
  rw [codes_eq]
  intro c hc
  simp only [codes1, List.mem_cons, List.not_mem_nil, or_false] at hc
  rcases hc with rfl | rfl | rfl | rfl | rfl | rfl | rfl | rfl | rfl | rfl | rfl | rfl | rfl | rfl | rfl | rfl | rfl | rfl | rfl | rfl | rfl | rfl | rfl | rfl | rfl | rfl | rfl | rfl | rfl | rfl
  · exact w_c0
  · exact w_c1
  · exact w_c2
  · exact w_c3
  · exact w_c4
  · exact w_c5
  · exact w_c6
  · exact w_c7
  · exact w_c8
  · exact w_c9
  · exact w_c10
  · exact w_c11
  · exact w_c12
  · exact w_c13
  · exact w_c14
  · exact w_c15
  · exact w_c16
  · exact w_c17
  · exact w_c18
  · exact w_c19
  · exact w_c20
  · exact w_c21
  · exact w_c22
  · exact w_c23
  · exact w_c24
  · exact w_c25
  · exact w_c26
  · exact w_c27
  · exact w_c28
  · exact w_c29
set_option maxRecDepth 65536 in
theorem w_t1 : (words1.take 24).all (fun c => isCode c || c.before args0 about1) = true := by decide +kernel
set_option maxRecDepth 65536 in
theorem w_t2 : ((words1.drop 24).take 24).all (fun c => isCode c || c.before args0 about1) = true := by decide +kernel
set_option maxRecDepth 65536 in
theorem w_t3 : (((words1.drop 24).drop 24).take 24).all (fun c => isCode c || c.before args0 about1) = true := by decide +kernel
set_option maxRecDepth 65536 in
theorem w_t4 : ((((words1.drop 24).drop 24).drop 24).take 24).all (fun c => isCode c || c.before args0 about1) = true := by decide +kernel
set_option maxRecDepth 65536 in
theorem w_t5 : (((((words1.drop 24).drop 24).drop 24).drop 24).take 24).all (fun c => isCode c || c.before args0 about1) = true := by decide +kernel
set_option maxRecDepth 65536 in
theorem w_t6 : ((((((words1.drop 24).drop 24).drop 24).drop 24).drop 24).take 24).all (fun c => isCode c || c.before args0 about1) = true := by decide +kernel
set_option maxRecDepth 65536 in
theorem w_t7 : ((((((words1.drop 24).drop 24).drop 24).drop 24).drop 24).drop 24).all (fun c => isCode c || c.before args0 about1) = true := by decide +kernel
theorem w_tables : (allAtoms (Jvm.Cond.code x code maxLocals ret :: tables_1)).before args0 about1 = true := by
  rw [allAtoms_all]
  show words1.all (fun c => c.before args0 about1) = true
  refine all_split ?_ w_codes
  rw [← List.take_append_drop 24 words1, List.all_append, w_t1, ← List.take_append_drop 24 (words1.drop 24), List.all_append, w_t2, ← List.take_append_drop 24 ((words1.drop 24).drop 24), List.all_append, w_t3, ← List.take_append_drop 24 (((words1.drop 24).drop 24).drop 24), List.all_append, w_t4, ← List.take_append_drop 24 ((((words1.drop 24).drop 24).drop 24).drop 24), List.all_append, w_t5, ← List.take_append_drop 24 (((((words1.drop 24).drop 24).drop 24).drop 24).drop 24), List.all_append, w_t6, w_t7]
  rfl
set_option maxRecDepth 65536 in
theorem w_rest : rest_1_c.before args0 about1 = true := by decide +kernel
set_option maxRecDepth 65536 in
theorem w_case : (Jvm.Cond.and given_1 narrow_1).before args0 about1 = true := by decide +kernel
set_option maxRecDepth 65536 in
theorem w_consts : constsHeld consts_1 about1 := Jvm.Lit.constsHeldB_iff.mp (by decide +kernel)
theorem w_applies : (headSpec (Jvm.Cond.code x code maxLocals ret :: tables_1) room_1).applies x e0.platform about1 = true :=
  (Spec.applies_iff w_frames).mpr ⟨w_running, w_runnable, w_alone, w_named, w_hears, w_ripe, w_room, w_tables⟩
theorem atStart : AtStart classFile x code maxLocals ret World_1 tables_1 room_1 Calls_1 rest_1 Pre_1 launch0 p0 e0 about1 theMethod args0 below0 :=
  ⟨lists_1, trivial, launch0.admits_env _ _ _, launch0.least_env, fairChoices_fair.cas, fairChoices_fair.clock, w_frames, w_args, w_heap, w_applies, ⟨w_consts, trivial⟩, w_rest, w_case⟩
end start1
theorem witness_1 : WitnessClaimed_1 := ⟨start1.p0, start1.e0, start1.about1, start1.theMethod, start1.args0, start1.below0, start1.atStart⟩
end Jvm.Pilot.@@N@@
