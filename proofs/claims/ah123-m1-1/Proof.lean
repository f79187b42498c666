import JvmDerived
import JvmDerived.Pilot.@@N@@Statement
import JvmDerived.Pilot.@@N@@Code
set_option linter.unusedVariables false
set_option linter.unusedSimpArgs false
namespace Jvm.RoadKit
open Sem ClassFile Op Lib Jvm.Stand Jvm.Free Jvm.LawKit
section New
variable {p : Program} {l : Launch} {e : Env} {R : Room} {s : State} {m : MethodId} {args : Array Value} {below : List Frame} {meth : Method} {c : Code} {T : State} {locs : List Loc} {cells slots : Nat}
theorem retI (X : Stand p l e R s m args below meth c T locs cells slots) (hx : p.tables.exec = Jvm.exec) {pc : Nat} {Ls : Array Slot} {z : Int32} {rest : List Value} (hret : meth.sig.returnType = some .int) (hd : decode c.code pc = .ok (.ireturn, 1)) {fs : List Frame}
    (hl : ∀ (f : JFrame) (acts : List Action), f.method = m → f.locked = none → f.entered = [] → (doReturn e (T.setTop f) acts (some (.int z))).1 = T.setFrames fs) : Steps p.tables e below (T.setTop (mkF m pc Ls (.int z :: rest))) (T.setFrames fs) := by
  have hm' : T.vm.method? m = some meth := X.method'
  have hn : narrow .int (.int z) = .int z := rfl
  show Steps p.tables e below (T.setTop { method := m, pc := pc, locals := Ls, stack := _ :: rest, locked := none }) _
  jvm_step X.here [X.here.top, hx, hd, hm', hret, hn]
  first | (intro acts; rw [hl _ acts rfl rfl rfl]) | rw [hl _ _ rfl rfl rfl]
  exact Steps.refl _
end New
end Jvm.RoadKit
/- laws to paste: Road.lenW, pair_says, chr8_lo8 (cut by pick.py; bodies as the Statement names them) -/
namespace Jvm.Pilot.@@N@@
namespace StrChars
open Jvm Sem ClassFile Op Lib Jvm.Stand Jvm.Free.XT Jvm.Free.ALB Jvm.Free.JM Jvm.Free
open Jvm.Lib.Cold (StaticIs)
/-- the byte that i2b leaves of a char -/
def lo8 (x : Int32) : Int32 := x.toInt8.toInt32
def U16 : String := "java/lang/StringUTF16"
namespace Cmp5
def yN : MethodName := ⟨"java/lang/StringUTF16", "compress", "([CI[BII)I"⟩
abbrev yB : ByteArray := jdk_52_method_21_code
end Cmp5
namespace Cmp3
def yN : MethodName := ⟨"java/lang/StringUTF16", "compress", "([CII)[B"⟩
abbrev yB : ByteArray := jdk_52_method_16_code
end Cmp3
namespace CodL
def yN : MethodName := ⟨"java/lang/StringUTF16", "coderFromArrayLen", "([BI)B"⟩
abbrev yB : ByteArray := jdk_52_method_15_code
end CodL
namespace New4
def yN : MethodName := ⟨"java/lang/String", "<init>", "([CIILjava/lang/Void;)V"⟩
abbrev yB : ByteArray := jdk_42_method_149_code
end New4
namespace New1
def yN : MethodName := ⟨"java/lang/String", "<init>", "([C)V"⟩
abbrev yB : ByteArray := jdk_42_method_3_code
end New1
/-- the byte, read back as charAt reads it, is the char -/
theorem lo8_mask {x : Int32} (h0 : ¬ x < 0) (h1 : ¬ 255 < x) : lo8 x &&& 255 = x := by
  have t : ∀ k : Fin 256, lo8 (Int32.ofNat k.val) &&& 255 = Int32.ofNat k.val := by decide +kernel
  rw [Int32.lt_iff_toInt_lt] at h0 h1
  have e0 : (0 : Int32).toInt = 0 := rfl
  have e1 : (255 : Int32).toInt = 255 := rfl
  obtain ⟨k, hk⟩ : ∃ k : Nat, x.toInt = k := ⟨x.toInt.toNat, by omega⟩
  have hx : x = Int32.ofNat k := Int32.toInt_inj.mp (by rw [hk, Int32.toInt_ofNat_small (by omega)])
  rw [hx]
  exact t ⟨k, by omega⟩
end StrChars
namespace StrChars.Road
open Jvm Sem ClassFile Op Lib Jvm.Stand Jvm.Free Jvm.Free.XT
open Jvm.Lib.Cold (StaticIs)
abbrev ST : String := "java/lang/String"
/-- every table word that New1's law asks, flat -/
abbrev words : List Jvm.Cond := [.code New1.yN New1.yB 2 none, .initialized ST, .methodLink ST 27 New4.yN, .instanceMethod New4.yN,
  .code New4.yN New4.yB 6 none, .fieldLink ST 38 ST "COMPACT_STRINGS" "Z", .laysFinal ST ST "value" "[B", .fieldLink ST 9 ST "value" "[B", .laysFinal ST ST "coder" "B", .fieldLink ST 15 ST "coder" "B",
  .methodLink ST 1 Lib.objectInit, .instanceMethod Lib.objectInit, .code Lib.objectInit ⟨#[0xb1]⟩ 1 none, .methodLink ST 177 Cmp3.yN, .static Cmp3.yN, .methodLink ST 47 CodL.yN, .static CodL.yN,
  .code Cmp3.yN Cmp3.yB 6 (some (.array .byte)), .initialized U16, .arrayClass .byte, .methodLink U16 115 Cmp5.yN, .static Cmp5.yN, .code Cmp5.yN Cmp5.yB 7 (some .int), .code CodL.yN CodL.yB 2 (some .byte)]
end StrChars.Road
namespace StrChars
open Jvm Sem ClassFile Op Lib Jvm.Stand Jvm.Free.XT Jvm.Free.ALB Jvm.Free.JM Jvm.Free
open Jvm.Lib.Cold (StaticIs)
def hi8 (x : Int32) : Int32 := lo8 (x >>> ((8 : Int32) &&& 31))
/-- what StringUTF16.getChar makes of two bytes -/
def pairCh (u v : Int32) : Int32 := (((u &&& 255) <<< ((0 : Int32) &&& 31)) ||| ((v &&& 255) <<< ((8 : Int32) &&& 31))).toUInt32.toUInt16.toUInt32.toInt32
theorem shr0 (c : Int32) : c >>> ((0 : Int32) &&& 31) = c := by
  have e : ((0 : Int32) &&& 31) = 0 := by decide
  rw [e]
  apply Int32.toBitVec_inj.mp
  rw [Int32.toBitVec_shiftRight]
  have e1 : ((0 : Int32).toBitVec.smod 32) = 0#32 := by decide
  rw [e1, BitVec.sshiftRight_eq']
  exact BitVec.sshiftRight_zero
theorem lo8_and (x : Int32) : (lo8 x &&& 255).toBitVec.toNat = x.toBitVec.toNat % 256 := by
  have h : (lo8 x).toBitVec = (x.toBitVec.signExtend 8).signExtend 32 := by rw [lo8, Int8.toBitVec_toInt32, Int32.toBitVec_toInt8]
  rw [Int32.toBitVec_and, BitVec.toNat_and, h]
  have e : ((x.toBitVec.signExtend 8).signExtend 32).toNat % 256 = x.toBitVec.toNat % 256 := by
    rw [BitVec.toNat_signExtend]
    have hlt := x.toBitVec.isLt
    simp only [BitVec.toNat_setWidth, BitVec.toNat_signExtend]
    split <;> split <;> omega
  rw [← e]
  exact Nat.and_two_pow_sub_one_eq_mod _ 8
theorem pair_says {c : Int32} (h0 : ¬ c < 0) (h1 : ¬ 65535 < c) : pairCh (lo8 c) (hi8 c) = c := by
  rw [Int32.lt_iff_toInt_lt] at h0 h1
  have e0 : (0 : Int32).toInt = 0 := rfl
  have e1 : (65535 : Int32).toInt = 65535 := rfl
  have hc : c.toInt = c.toBitVec.toNat := by
    have := c.toBitVec.isLt
    have e : c.toInt = c.toBitVec.toInt := rfl
    rw [e] at h0 h1
    rw [e]
    rw [BitVec.toInt_eq_toNat_cond] at h0 h1 ⊢
    split at h0 <;> split <;> omega
  have hn : c.toBitVec.toNat < 65536 := by omega
  have a1 := lo8_and c
  have a2 : (hi8 c &&& 255).toBitVec.toNat = c.toBitVec.toNat / 256 := by
    rw [hi8, lo8_and]
    have e : ((8 : Int32) &&& 31) = 8 := by decide
    rw [e, Int32.toBitVec_shiftRight]
    have e2 : ((8 : Int32).toBitVec.smod 32) = 8#32 := by decide
    rw [e2, BitVec.sshiftRight_eq', BitVec.toNat_sshiftRight_of_msb_false (by rw [BitVec.msb_eq_false_iff_two_mul_lt]; omega)]
    show c.toBitVec.toNat >>> 8 % 256 = _
    rw [Nat.shiftRight_eq_div_pow]
    omega
  unfold pairCh
  apply Int32.toBitVec_inj.mp
  apply BitVec.eq_of_toNat_eq
  have f0 : ((0 : Int32) &&& 31) = 0 := by decide
  have f8 : ((8 : Int32) &&& 31) = 8 := by decide
  rw [f0, f8]
  have g : (((lo8 c &&& 255) <<< (0 : Int32)) ||| ((hi8 c &&& 255) <<< (8 : Int32))).toBitVec.toNat = c.toBitVec.toNat := by
    rw [Int32.toBitVec_or, Int32.toBitVec_shiftLeft, Int32.toBitVec_shiftLeft]
    have s0 : ((0 : Int32).toBitVec.smod 32) = 0#32 := by decide
    have s8 : ((8 : Int32).toBitVec.smod 32) = 8#32 := by decide
    rw [s0, s8, BitVec.toNat_or]
    simp only [BitVec.shiftLeft_eq', BitVec.toNat_shiftLeft, a1, a2]
    show (c.toBitVec.toNat % 256) <<< 0 % 2 ^ 32 ||| (c.toBitVec.toNat / 256) <<< 8 % 2 ^ 32 = _
    rw [Nat.shiftLeft_zero, Nat.mod_eq_of_lt (show c.toBitVec.toNat % 256 < 2 ^ 32 by omega), Nat.mod_eq_of_lt (show (c.toBitVec.toNat / 256) <<< 8 < 2 ^ 32 by rw [Nat.shiftLeft_eq]; omega), Nat.or_comm, ← Nat.shiftLeft_add_eq_or_of_lt (by omega), Nat.shiftLeft_eq]
    omega
  show BitVec.toNat (((((lo8 c &&& 255) <<< (0 : Int32)) ||| ((hi8 c &&& 255) <<< (8 : Int32))).toBitVec.setWidth 16).setWidth 32) = _
  rw [BitVec.toNat_setWidth, BitVec.toNat_setWidth, g]
  omega
end StrChars
namespace StrChars
open Jvm Sem ClassFile Op Lib Jvm.Stand Jvm.Free.XT Jvm.Free.ALB Jvm.Free.JM Jvm.Free
open Jvm.Lib.Cold (StaticIs)
theorem shr1 {n : Nat} (h : 2 * n < 2 ^ 31) : Int32.ofNat (2 * n) >>> ((1 : Int32) &&& 31) = Int32.ofNat n := by
  have e : ((1 : Int32) &&& 31) = 1 := by decide
  rw [e]
  apply Int32.toBitVec_inj.mp
  rw [Int32.toBitVec_shiftRight]
  have e1 : ((1 : Int32).toBitVec.smod 32) = 1#32 := by decide
  have hm : (BitVec.ofNat 32 (2 * n)).toNat = 2 * n := by rw [BitVec.toNat_ofNat, Nat.mod_eq_of_lt (by omega)]
  rw [e1, BitVec.sshiftRight_eq']
  apply BitVec.eq_of_toNat_eq
  show ((BitVec.ofNat 32 (2 * n)).sshiftRight 1).toNat = (BitVec.ofNat 32 n).toNat
  rw [BitVec.toNat_sshiftRight_of_msb_false (by rw [BitVec.msb_eq_false_iff_two_mul_lt, hm]; omega), hm, BitVec.toNat_ofNat, Nat.shiftRight_eq_div_pow]
  omega
/-- charAt's cast of a byte read back -/
def chr8 (u : Int32) : Int32 := (u &&& 255).toUInt32.toUInt16.toUInt32.toInt32
theorem chr8_lo8 {c : Int32} (h0 : ¬ c < 0) (h1 : ¬ 255 < c) : chr8 (lo8 c) = c := by
  have t : ∀ k : Fin 256, (Int32.ofNat k.val).toUInt32.toUInt16.toUInt32.toInt32 = Int32.ofNat k.val := by decide +kernel
  unfold chr8
  rw [lo8_mask h0 h1]
  rw [Int32.lt_iff_toInt_lt] at h0 h1
  have e0 : (0 : Int32).toInt = 0 := rfl
  have e1 : (255 : Int32).toInt = 255 := rfl
  obtain ⟨k, hk⟩ : ∃ k : Nat, c.toInt = k := ⟨c.toInt.toNat, by omega⟩
  have hx : c = Int32.ofNat k := Int32.toInt_inj.mp (by rw [hk, Int32.toInt_ofNat_small (by omega)])
  rw [hx]
  exact t ⟨k, by omega⟩
/-- the array's cell V codes the n chars f 0 .. f (n - 1) by the coder cd, as the JDK does: coder 1 just where some char is above 255 -/
def Cod (cd : Int32) (n : Nat) (f : Nat → Int32) (V : Cell) : Prop := (cd = 0 ∧ V.slots.size = n ∧ ∀ j, j < n → V.slots[j]? = some (.int (lo8 (f j))) ∧ ¬ 255 < f j) ∨ (cd = 1 ∧ V.slots.size = 2 * n ∧ (∀ j, j < n → V.slots[2 * j]? = some (.int (lo8 (f j))) ∧ V.slots[2 * j + 1]? = some (.int (hi8 (f j)))) ∧ ∃ j, j < n ∧ 255 < f j)
theorem Cod.cd {cd : Int32} {n : Nat} {f : Nat → Int32} {V : Cell} (h : Cod cd n f V) : cd = 0 ∨ cd = 1 := h.imp (fun q => q.1) fun q => q.1
theorem Cod.len {cd : Int32} {n : Nat} {f : Nat → Int32} {V : Cell} (h : Cod cd n f V) (hs : V.slots.size < 2 ^ 31) : Int32.ofNat V.slots.size >>> (cd &&& 31) = Int32.ofNat n := by
  rcases h with ⟨rfl, h, -⟩ | ⟨rfl, h, -⟩
  · rw [shr0, h]
  · rw [h, shr1 (by omega)]
/-- **x is a String of the n chars f 0 .. f (n - 1)**, Latin-1 or UTF-16; its array at t has the cell V -/
def Txt (x t : Addr) (V : Cell) (cd : Int32) (n : Nat) (f : Nat → Int32) (U : State) : Prop := Exact "java/lang/String" x U ∧ Has x "java/lang/String" "value" "[B" (.ref t) U ∧ Has x "java/lang/String" "coder" "B" (.int cd) U ∧ XT.Arr .byte t V U ∧ Cod cd n f V ∧ ∀ j, j < n → ¬ f j < 0 ∧ ¬ 65535 < f j
theorem Txt.mv {x t : Addr} {V : Cell} {cd : Int32} {n : Nat} {f : Nat → Int32} {U U' : State} (h : Txt x t V cd n f U) (hal : U.vm.Alike U'.vm) (hh : U'.heap = U.heap) : Txt x t V cd n f U' := ⟨h.1.mv hal hh, h.2.1.mv hal hh, h.2.2.1.mv hal hh, h.2.2.2.1.mv hal hh, h.2.2.2.2⟩
namespace Cdr
def yN : MethodName := ⟨"java/lang/String", "coder", "()B"⟩
abbrev yB : ByteArray := jdk_42_method_152_code
theorem d0 : decode yB 0 = .ok (.getstatic 38, 3) := by decide +kernel
theorem d3 : decode yB 3 = .ok (.ifCond (.eq) 10, 3) := by decide +kernel
theorem d6 : decode yB 6 = .ok (.aload_n 0, 1) := by decide +kernel
theorem d7 : decode yB 7 = .ok (.getfield 15, 3) := by decide +kernel
theorem d10 : decode yB 10 = .ok (.goto 4, 3) := by decide +kernel
theorem d14 : decode yB 14 = .ok (.ireturn, 1) := by decide +kernel
def site : List Cond := [.fieldLink "java/lang/String" 38 "java/lang/String" "COMPACT_STRINGS" "Z", .fieldLink "java/lang/String" 15 "java/lang/String" "coder" "B"]
def tab : Cond := tabOf yN yB 1 (some .byte) site
def P (x : Addr) (cd z : Int32) (args : Array Value) (s : State) : Prop := args = #[.ref x] ∧ Has x "java/lang/String" "coder" "B" (.int cd) s ∧ (cd = 0 ∨ cd = 1) ∧ StaticIs s "java/lang/String" "COMPACT_STRINGS" "Z" (.int z) ∧ ¬ z = 0
def E (cd : Int32) (r : Option Value) (s u : State) : Prop := XT.PureE (some (.int cd)) r s u
theorem law (l : Launch) (x : Addr) (cd z : Int32) : Law l yN 1 0 0 0 yB 1 (some .byte) site (P x cd z) (E cd) [] 0 0 := by
  refine Law.of_walk (plainFor_of_name (by decide +kernel)) (by decide +kernel) (by decide +kernel) (by decide) (fun _ _ h => by rw [h.1]; rfl) (fun _ U U' hal hh h => ⟨h.1, h.2.1.mv hal hh, h.2.2.1, h.2.2.2.1.there hal hh, h.2.2.2.2⟩) (fun r U U' V V' h1 hal h2 h => XT.PureE.mv r U U' V V' h1 hal h2 h) ?_
  intro p e s m args below meth c s₁ X0 hexec hbytes hml hret hlk hnm hown hh0 W hP
  obtain ⟨rfl, hx, hc, s1, hz⟩ := hP
  have c1 : Steps p.tables e below (s₁.setTop (entryFrame m #[.ref x] 1)) (s₁.setTop (mkF m 0 #[.val (.ref x)] [])) := entry rfl
  obtain ⟨T2, X2, q2, st2⟩ := X0.sget hexec hown (wk W (.fieldLink "java/lang/String" 38 "java/lang/String" "COMPACT_STRINGS" "Z")) s1 (fun _ _ h => by rw [hh0]; exact h) (g := (mkF m 0 #[.val (.ref x)] [])) rfl (hb hbytes d0)
  have hh2 := q2.trans hh0
  have c3 : Steps p.tables e below (s₁.setTop (entryFrame m #[.ref x] 1)) (T2.setTop (mkF m 7 #[.val (.ref x)] [.ref x])) := (c1.trans (st2 _ (Steps.refl _))).trans (by
    refine XS.ifNo X2.here hexec rfl (hb hbytes d3) rfl (i0_eq_f hz) ?_
    refine XS.aloadN X2.here hexec rfl (hb hbytes d6) rfl rfl ?_
    exact Steps.refl _)
  obtain ⟨T4, X4, q4, st4⟩ := X2.hget hexec hown (wk W (.fieldLink "java/lang/String" 15 "java/lang/String" "coder" "B")) (hx.mv X2.warmed.alike hh2) (g := (mkF m 7 #[.val (.ref x)] [.ref x])) rfl (rest := []) rfl (hb hbytes d7)
  have c5 : Steps p.tables e below (s₁.setTop (entryFrame m #[.ref x] 1)) (T4.setTop (mkF m 14 #[.val (.ref x)] [.int cd])) := (c3.trans (st4 _ (Steps.refl _))).trans (by
    refine XS.goto X4.here hexec rfl (pc0 := 10) rfl (hb hbytes d10) (by decide) rfl ?_
    exact Steps.refl _)
  exact ⟨T4, some (.int cd), _, _, _, X4, rfl, rfl, rfl, (fun h => by cases h), ⟨rfl, q4.trans hh2⟩, fun fs hl => c5.trans (X4.ireturnOut hexec hret (by rcases hc with rfl | rfl <;> rfl) (Or.inr (Or.inr (Or.inl rfl))) (hb hbytes d14) hl)⟩
end Cdr
namespace Len
def yN : MethodName := ⟨"java/lang/String", "length", "()I"⟩
abbrev yB : ByteArray := jdk_42_method_54_code
theorem d0 : decode yB 0 = .ok (.aload_n 0, 1) := by decide +kernel
theorem d1 : decode yB 1 = .ok (.getfield 9, 3) := by decide +kernel
theorem d4 : decode yB 4 = .ok (.arraylength, 1) := by decide +kernel
theorem d5 : decode yB 5 = .ok (.aload_n 0, 1) := by decide +kernel
theorem d6 : decode yB 6 = .ok (.invokevirtual 335, 3) := by decide +kernel
theorem d9 : decode yB 9 = .ok (.ishr, 1) := by decide +kernel
theorem d10 : decode yB 10 = .ok (.ireturn, 1) := by decide +kernel
def site : List Cond := [.fieldLink "java/lang/String" 9 "java/lang/String" "value" "[B", Cdr.tab] ++ virtW "java/lang/String" 335 "java/lang/String" Cdr.yN Cdr.yN
def tab : Cond := tabOf yN yB 1 (some .int) site
def P (x t : Addr) (V : Cell) (cd : Int32) (n : Nat) (f : Nat → Int32) (z : Int32) (args : Array Value) (s : State) : Prop := args = #[.ref x] ∧ Txt x t V cd n f s ∧ StaticIs s "java/lang/String" "COMPACT_STRINGS" "Z" (.int z) ∧ ¬ z = 0
def E (n : Nat) (r : Option Value) (s u : State) : Prop := XT.PureE (some (.int (Int32.ofNat n))) r s u
/-- length() of a String of n chars, in either coding -/
theorem law (l : Launch) (x t : Addr) (V : Cell) (cd : Int32) (n : Nat) (f : Nat → Int32) (z : Int32) : Law l yN 1 0 1 13 yB 1 (some .int) site (P x t V cd n f z) (E n) [] 0 0 := by
  refine Law.of_walk (plainFor_of_name (by decide +kernel)) (by decide +kernel) (by decide +kernel) (by decide) (fun _ _ h => by rw [h.1]; rfl) (fun _ U U' hal hh h => ⟨h.1, h.2.1.mv hal hh, h.2.2.1.there hal hh, h.2.2.2⟩) (fun r U U' V V' h1 hal h2 h => XT.PureE.mv r U U' V V' h1 hal h2 h) ?_
  intro p e s m args below meth c s₁ X0 hexec hbytes hml hret hlk hnm hown hh0 W hP
  obtain ⟨rfl, hx, s1, hz⟩ := hP
  have v31 := hx.2.2.2.1.2.2.2
  have c1 : Steps p.tables e below (s₁.setTop (entryFrame m #[.ref x] 1)) (s₁.setTop (mkF m 1 #[.val (.ref x)] [.ref x])) := Steps.trans (entry rfl) (by
    show Steps p.tables e below (s₁.setTop (mkF m 0 #[.val (.ref x)] [])) _
    refine XS.aloadN X0.here hexec rfl (hb hbytes d0) rfl rfl ?_
    exact Steps.refl _)
  obtain ⟨T2, X2, q2, st2⟩ := X0.hget hexec hown (wk W (.fieldLink "java/lang/String" 9 "java/lang/String" "value" "[B")) (hx.mv X0.warmed.alike hh0).2.1 (g := (mkF m 1 #[.val (.ref x)] [.ref x])) rfl (rest := []) rfl (hb hbytes d1)
  have hh2 := q2.trans hh0
  have hx2 := hx.mv X2.warmed.alike hh2
  have c3 : Steps p.tables e below (s₁.setTop (entryFrame m #[.ref x] 1)) (T2.setTop (mkF m 6 #[.val (.ref x)] [.ref x, .int (Int32.ofNat V.slots.size)])) := (c1.trans (st2 _ (Steps.refl _))).trans (by
    refine X2.alen hexec hx2.2.2.2.1 rfl rfl (hb hbytes d4) ?_
    refine XS.aloadN X2.here hexec rfl (hb hbytes d5) rfl rfl ?_
    exact Steps.refl _)
  obtain ⟨v4, T4, X4, E4, g4⟩ := X2.callV hexec (Cdr.law l x cd z) hown (wks W (virtW "java/lang/String" 335 "java/lang/String" Cdr.yN Cdr.yN)) rfl (by decide) (wk W Cdr.tab) (W := 1) (Nat.le_of_ble_eq_true rfl) (Nat.le_of_ble_eq_true rfl) (Nat.le_refl _) (Nat.le_refl _) (hx2.1.fc X2.warmed.alike) hx2.1.is (g := (mkF m 6 #[.val (.ref x)] [.ref x, .int (Int32.ofNat V.slots.size)])) rfl (by rw [hml]; rfl) c3 (argsL := []) (rest := [.int (Int32.ofNat V.slots.size)]) rfl rfl (by show 2 * 0 + (1 + 0) ≤ _; decide) (hb hbytes d6) (⟨rfl, hx2.2.2.1, hx.2.2.2.2.1.cd, s1.there X2.warmed.alike hh2, hz⟩)
  obtain ⟨rfl, q4⟩ := E4
  have c5 : Steps p.tables e below (s₁.setTop (entryFrame m #[.ref x] 1)) (T4.setTop (mkF m 10 #[.val (.ref x)] [.int (Int32.ofNat V.slots.size >>> (cd &&& 31))])) := Steps.trans g4 (by
    refine ishr X4.here hexec rfl (hb hbytes d9) rfl ?_
    exact Steps.refl _)
  rw [hx.2.2.2.2.1.len v31] at c5
  exact ⟨T4, some (.int (Int32.ofNat n)), _, _, _, X4, rfl, rfl, rfl, (fun h => by cases h), ⟨rfl, q4.trans hh2⟩, fun fs hl => c5.trans (X4.ireturnOut hexec hret rfl (Or.inl rfl) (hb hbytes d10) hl)⟩
theorem pays {l : Launch} {R : Room} {p : Program} {e : Env} {below : List Frame} {s : State} {sargs : Array Value} {len W : Nat} (x t : Addr) (V : Cell) (cd : Int32) (n : Nat) (f : Nat → Int32) (z : Int32) (htab : tab.before sargs s = true) (hfr : 2 ≤ R.frames) (hlo : W + 25 ≤ R.locals) :
    Back l R p e below s sargs yN len W (fun A₁ a₁ => A₁.cells + 0 ≤ R.cells ∧ A₁.slots + 0 ≤ R.slots ∧ P x t V cd n f z a₁ A₁.U) (fun A₁ _ v₁ B₁ => E n v₁ A₁.U B₁.U ∧ B₁.locs = A₁.locs ++ [] ∧ B₁.cells = A₁.cells + 0 ∧ B₁.slots = A₁.slots + 0) :=
  (law l x t V cd n f z).pays htab hfr (by omega)
end Len
end StrChars
namespace StrChars.Road
open Jvm Sem ClassFile Op Lib Jvm.Stand Jvm.Free Jvm.Free.XT
open Jvm.Lib.Cold (StaticIs)
theorem consq {a : Array Value} {s : State} {c : Jvm.Cond} {L : List Jvm.Cond} (h0 : c.before a s = true) (h : ∀ w ∈ L, w.before a s = true) : ∀ w ∈ c :: L, w.before a s = true := fun w hw => (List.mem_cons.mp hw).elim (fun e => e ▸ h0) (h w)
/-- the words of String.length(), either coding -/
abbrev wordsLen : List Jvm.Cond := [.code Len.yN Len.yB 1 (some .int), .initialized ST, .fieldLink ST 9 ST "value" "[B", .fieldLink ST 38 ST "COMPACT_STRINGS" "Z", .fieldLink ST 15 ST "coder" "B", .code Cdr.yN Cdr.yB 1 (some .byte), .methodLink ST 335 Cdr.yN, .declares Cdr.yN, .selects ST Cdr.yN Cdr.yN, .instanceMethod Cdr.yN]
theorem tabLen_of {a : Array Value} {s : State} (h : ∀ w ∈ wordsLen, w.before a s = true) : Len.tab.before a s = true := by
  have hc : Cdr.tab.before a s = true := unparts (wk h (.code Cdr.yN Cdr.yB 1 (some .byte))) (wks h (.initialized Cdr.yN.cls :: Cdr.site))
  have q := consq hc h
  exact unparts (wk q (.code Len.yN Len.yB 1 (some .int))) (wks q (.initialized Len.yN.cls :: Len.site))
theorem movedLen {Z s : State} {a0 args : Array Value} (hZ : Z.Warmed39 s.vm) (hw : ∀ d ∈ wordsLen, d.before a0 Z = true) : ∀ d ∈ wordsLen, d.before args s = true := fun d hd => by
  have q := hw d hd
  have t : ∀ d ∈ wordsLen, d = .arrayClass .byte ∨ (d.onTables && d.keepsFace) = true := by decide +kernel
  rcases t d hd with rfl | t
  · exact RoadKit.mvA hZ q
  · exact RoadKit.mv hZ q t
/-- the bytes of the chars cs, low before high -/
def wideBytes : List Int32 → List Value
  | [] => []
  | c :: cs => .int (lo8 c) :: .int (hi8 c) :: wideBytes cs
theorem wide_lo (d : Value) : ∀ (cs : List Int32) (j : Nat), j < cs.length → (wideBytes cs).getD (2 * j) d = .int (lo8 (cs.getD j 0))
  | [], j, h => absurd h (Nat.not_lt_zero j)
  | c :: cs, 0, _ => rfl
  | c :: cs, j + 1, h => by
    have q := wide_lo d cs j (by simpa using h)
    rw [show 2 * (j + 1) = 2 * j + 1 + 1 from by omega]
    simpa [wideBytes] using q
theorem wide_hi (d : Value) : ∀ (cs : List Int32) (j : Nat), j < cs.length → (wideBytes cs).getD (2 * j + 1) d = .int (hi8 (cs.getD j 0))
  | [], j, h => absurd h (Nat.not_lt_zero j)
  | c :: cs, 0, _ => rfl
  | c :: cs, j + 1, h => by
    have q := wide_hi d cs j (by simpa using h)
    rw [show 2 * (j + 1) + 1 = 2 * j + 1 + 1 + 1 from by omega]
    simpa [wideBytes] using q
theorem low_at (d : Value) (cs : List Int32) (j : Nat) (h : j < cs.length) : (cs.map fun c => Value.int (lo8 c)).getD j d = .int (lo8 (cs.getD j 0)) := by
  simp [List.getD_eq_getElem?_getD, h]
/-- an array of N2 bytes vs codes the chars cs by the coder cd -/
def CodA (cs : List Int32) (cd N2 : Int32) (vs : List Value) : Prop := (cd = 0 ∧ N2 = Int32.ofNat cs.length ∧ vs = (cs.map fun c => Value.int (lo8 c)) ∧ ∀ c ∈ cs, ¬ 255 < c) ∨ (cd = 1 ∧ N2 = Int32.ofNat (2 * cs.length) ∧ vs = wideBytes cs ∧ ∃ c ∈ cs, 255 < c)
theorem CodA.cod {cs : List Int32} {cd N2 : Int32} {vs : List Value} {V : Cell} (h : CodA cs cd N2 vs) (hn : 2 * cs.length < 2 ^ 31) (hs : V.slots.size = N2.toNatClampNeg) (hv : RoadKit.Has V vs (.int 0)) : Cod cd cs.length (fun j => cs.getD j 0) V := by
  rcases h with ⟨rfl, rfl, rfl, h⟩ | ⟨rfl, rfl, rfl, c, hc, hw⟩
  · rw [n32 (by omega)] at hs
    exact Or.inl ⟨rfl, hs, fun j hj => ⟨by rw [hv j (by omega), low_at _ _ _ hj], by
      have e : cs.getD j 0 = cs[j] := by simp [List.getD_eq_getElem?_getD, hj]
      show ¬ 255 < cs.getD j 0
      rw [e]; exact h _ (List.getElem_mem _)⟩⟩
  · rw [n32 (by omega)] at hs
    obtain ⟨j, hj, rfl⟩ := List.getElem_of_mem hc
    exact Or.inr ⟨rfl, hs, fun j hj => ⟨by rw [hv _ (by omega), wide_lo _ _ _ hj], by rw [hv _ (by omega), wide_hi _ _ _ hj]⟩, j, hj, by
      have e : cs.getD j 0 = cs[j] := by simp [List.getD_eq_getElem?_getD, hj]
      show 255 < cs.getD j 0
      rw [e]; exact hw⟩
/-- an object of exactly java/lang/String, its two fields found: as the laws ask it -/
theorem strObj {Z U : State} {a0 : Array Value} {kI : Nat} (wi : (Jvm.Cond.instantiable ST kI).before a0 Z = true) (al : Z.vm.Alike U.vm) {x : Addr} {v0 c0 : Value} (E : RoadKit.Exa Z U.heap x ST) (V : RoadKit.Fld Z U.heap x ST "value" "[B" v0) (C : RoadKit.Fld Z U.heap x ST "coder" "B" c0) :
    ∃ (D : Cell) (fV fC : Field), Blank ST x D U ∧ Found ST "value" "[B" fV U ∧ Found ST "coder" "B" fC U ∧ D.slots[fV.slot]? = some v0 ∧ D.slots[fC.slot]? = some c0 ∧ RoadKit.slotOf Z ST "value" "[B" = fV.slot ∧ RoadKit.slotOf Z ST "coder" "B" = fC.slot := by
  obtain ⟨D, cfV, kV, iV, fV, hD, gV, stV, knV, obV, asV, slV⟩ := V
  obtain ⟨D', cfC, kC, iC, fC, hD', gC, stC, -, -, asC, slC⟩ := C
  cases hD.symm.trans hD'
  obtain ⟨D2, kD, e1, e2, e3, e4, e5⟩ := E
  cases hD.symm.trans e1
  obtain ⟨c2, k2, i1, i2, i3, -⟩ := Cond.instantiable_spec wi
  cases e2.symm.trans i1
  cases e3.symm.trans i2
  obtain ⟨kU, u1, u2⟩ := al.2.2 _ _ e3
  exact ⟨D, fV, fC, ⟨hD, ⟨knV, fun q hq => by rw [hq] at obV; cases obV⟩, by rw [al.findClass]; exact e2, kU, u1, by rw [u2]; exact i3, by rw [u2]; exact e5 i3⟩, ⟨SBG.found_only al ⟨cfV, kV, iV, gV⟩, stV⟩, ⟨SBG.found_only al ⟨cfC, kC, iC, gC⟩, stC⟩, slV, slC, by simp [RoadKit.slotOf, gV], by simp [RoadKit.slotOf, gC]⟩
theorem sta_is {Z U : State} (al : Z.vm.Alike U.vm) {C n d : String} {v : Value} (S : RoadKit.Sta Z U.heap C n d v) : StaticIs U C n d v := by
  obtain ⟨cfS, iS, kS, fS, st, cS, t1, t2, t3, t4, t5, t6, t7⟩ := S
  exact StaticIs.there (s := { Z with heap := U.heap }) ⟨cfS, iS, kS, fS, st, cS, t1, t2, t3, t4, t5, (fun q => by rw [q] at t6; cases t6), t7⟩ al rfl
/-- **length() OF SUCH A STRING** -/
theorem lenW {p : Program} {l : Launch} {e : Env} {R : Room} {s : State} {args : Array Value} {below : List Frame} {len W : Nat} {Z : State} {a0 : Array Value} {h : Heap} (hZ : Z.Warmed39 s.vm) (hw : ∀ d ∈ wordsLen, d.before a0 Z = true) {kI : Nat} (wi : (Jvm.Cond.instantiable ST kI).before a0 Z = true)
    {x t : Addr} {kb : ClassId} {cs : List Int32} {cd N2 z : Int32} {vs : List Value} (E : RoadKit.Exa Z h x ST) (V : RoadKit.Fld Z h x ST "value" "[B" (.ref t)) (C : RoadKit.Fld Z h x ST "coder" "B" (.int cd)) (K : RoadKit.Arv Z h t kb .byte N2 vs (.int 0)) (hc : CodA cs cd N2 vs) (hb : ∀ c ∈ cs, ¬ c < 0 ∧ ¬ (65535 : Int32) < c)
    (S : RoadKit.Sta Z h ST "COMPACT_STRINGS" "Z" (.int z)) (hz : ¬ z = 0) (l2 : cs.length ≤ 4000) (hfr : 2 ≤ R.frames) (hlo : W + 25 ≤ R.locals) :
    Back l R p e below s args (⟨"java/lang/String", "length", "()I"⟩ : MethodName) len W (fun P a => a = #[.ref x] ∧ P.U.heap = h ∧ P.cells + 0 ≤ R.cells ∧ P.slots + 0 ≤ R.slots)
      (fun P _ v B => ∃ L, (v = some (.int (Int32.ofNat cs.length)) ∧ L = [] ∧ B.U.heap = h) ∧ B.locs = P.locs ++ L ∧ B.cells = P.cells + 0 ∧ B.slots = P.slots + 0) := by
  obtain ⟨A, K1, K2, K3, K4, K5, K6⟩ := K
  have hcod := hc.cod (by omega) K3 K5
  intro m meth c P g ig mk a X hg hsize hdg hW hn hp'
  obtain ⟨rfl, rfl, r1, r2⟩ := hp'
  have al : Z.vm.Alike P.U.vm := hZ.alike.trans X.warmed.alike
  obtain ⟨D, fV, fC, hB, F1, F2, g1, g2, -, -⟩ := strObj wi al E V C
  have hx : Txt x t A cd cs.length (fun j => cs.getD j 0) P.U := ⟨⟨_, hB.2.2.1, D, hB.1, rfl, by cases q : D.vm <;> first | rfl | exact absurd q (hB.2.1.2 _)⟩, Has.of hB F1 g1, Has.of hB F2 g2, ⟨K1.1, State.isArrayOf_alike al K1.2.1, K1.2.2, by rcases hcod with ⟨-, q, -⟩ | ⟨-, q, -⟩ <;> omega⟩, hcod, fun j hj => by
    have e : cs.getD j 0 = cs[j] := by simp [List.getD_eq_getElem?_getD, hj]
    show ¬ cs.getD j 0 < 0 ∧ ¬ 65535 < cs.getD j 0
    rw [e]; exact hb _ (List.getElem_mem _)⟩
  obtain ⟨v, B, X', ⟨⟨hv, hh⟩, hl, hk, hs⟩, st⟩ := Len.pays x t A cd cs.length (fun j => cs.getD j 0) z (tabLen_of (movedLen hZ hw)) hfr hlo m meth c P g ig mk _ X hg hsize hdg hW hn ⟨r1, r2, rfl, hx, sta_is al S, hz⟩
  exact ⟨v, B, X', ⟨[], ⟨hv, rfl, hh⟩, hl, hk, hs⟩, st⟩
end StrChars.Road
end Jvm.Pilot.@@N@@
namespace Jvm.Pilot.@@N@@
open Jvm Jvm.ClassFile Sem Op Lib Jvm.Free Jvm.Stand Jvm.LawKit Jvm.RoadKit Bundle Jvm.Pilot.@@N@@.Jvm.D
theorem Wd0 {Z : State} {a0 : Array Value} (hw : ∀ d ∈ tables_1, d.before a0 Z = true) : (Jvm.Cond.constant "com/example/sakuin/sakuin/engine/WildcardIsInPinLaw" (8 : Nat) (2147483647 : Int32)).before a0 Z = true := hw _ (List.mem_of_getElem? (i := 0) rfl)
theorem Wd1 {Z : State} {a0 : Array Value} (hw : ∀ d ∈ tables_1, d.before a0 Z = true) : (Jvm.Cond.methodLink "com/example/sakuin/sakuin/engine/WildcardIsInPinLaw" (9 : Nat) ({ cls := "com/example/sakuin/sakuin/engine/WildcardIsInPinLaw", name := "ch", desc := "(I)C" } : Jvm.MethodName)).before a0 Z = true := hw _ (List.mem_of_getElem? (i := 1) rfl)
theorem Wd2 {Z : State} {a0 : Array Value} (hw : ∀ d ∈ tables_1, d.before a0 Z = true) : (Jvm.Cond.static ({ cls := "com/example/sakuin/sakuin/engine/WildcardIsInPinLaw", name := "ch", desc := "(I)C" } : Jvm.MethodName)).before a0 Z = true := hw _ (List.mem_of_getElem? (i := 2) rfl)
theorem Wd3 {Z : State} {a0 : Array Value} (hw : ∀ d ∈ tables_1, d.before a0 Z = true) : (Jvm.Cond.initialized "com/example/sakuin/sakuin/engine/WildcardIsInPinLaw").before a0 Z = true := hw _ (List.mem_of_getElem? (i := 3) rfl)
theorem Wd4 {Z : State} {a0 : Array Value} (hw : ∀ d ∈ tables_1, d.before a0 Z = true) : (Jvm.Cond.code ({ cls := "com/example/sakuin/sakuin/engine/WildcardIsInPinLaw", name := "ch", desc := "(I)C" } : Jvm.MethodName) method_2_code (1 : Nat) (Option.some Jvm.ClassFile.FieldType.char)).before a0 Z = true := hw _ (List.mem_of_getElem? (i := 4) rfl)
theorem Wd5 {Z : State} {a0 : Array Value} (hw : ∀ d ∈ tables_1, d.before a0 Z = true) : (Jvm.Cond.constant "com/example/sakuin/sakuin/engine/WildcardIsInPinLaw" (7 : Nat) (65535 : Int32)).before a0 Z = true := hw _ (List.mem_of_getElem? (i := 5) rfl)
theorem Wd6 {Z : State} {a0 : Array Value} (hw : ∀ d ∈ tables_1, d.before a0 Z = true) : (Jvm.Cond.arrayClass Jvm.ClassFile.FieldType.char).before a0 Z = true := hw _ (List.mem_of_getElem? (i := 6) rfl)
theorem Wd7 {Z : State} {a0 : Array Value} (hw : ∀ d ∈ tables_1, d.before a0 Z = true) : (Jvm.Cond.classLink "com/example/sakuin/sakuin/engine/WildcardIsInPinLaw" (15 : Nat) "java/lang/String").before a0 Z = true := hw _ (List.mem_of_getElem? (i := 7) rfl)
theorem Wd8 {Z : State} {a0 : Array Value} (hw : ∀ d ∈ tables_1, d.before a0 Z = true) : (Jvm.Cond.instantiable "java/lang/String" (4 : Nat)).before a0 Z = true := hw _ (List.mem_of_getElem? (i := 8) rfl)
theorem Wd9 {Z : State} {a0 : Array Value} (hw : ∀ d ∈ tables_1, d.before a0 Z = true) : (Jvm.Cond.initialized "java/lang/String").before a0 Z = true := hw _ (List.mem_of_getElem? (i := 9) rfl)
theorem Wd10 {Z : State} {a0 : Array Value} (hw : ∀ d ∈ tables_1, d.before a0 Z = true) : (Jvm.Cond.methodLink "com/example/sakuin/sakuin/engine/WildcardIsInPinLaw" (17 : Nat) ({ cls := "java/lang/String", name := "<init>", desc := "([C)V" } : Jvm.MethodName)).before a0 Z = true := hw _ (List.mem_of_getElem? (i := 10) rfl)
theorem Wd11 {Z : State} {a0 : Array Value} (hw : ∀ d ∈ tables_1, d.before a0 Z = true) : (Jvm.Cond.instanceMethod ({ cls := "java/lang/String", name := "<init>", desc := "([C)V" } : Jvm.MethodName)).before a0 Z = true := hw _ (List.mem_of_getElem? (i := 11) rfl)
theorem Wd12 {Z : State} {a0 : Array Value} (hw : ∀ d ∈ tables_1, d.before a0 Z = true) : (Jvm.Cond.code ({ cls := "java/lang/String", name := "<init>", desc := "([C)V" } : Jvm.MethodName) jdk_42_method_3_code (2 : Nat) (Option.none : Option Jvm.ClassFile.FieldType)).before a0 Z = true := hw _ (List.mem_of_getElem? (i := 12) rfl)
theorem Wd13 {Z : State} {a0 : Array Value} (hw : ∀ d ∈ tables_1, d.before a0 Z = true) : (Jvm.Cond.methodLink "java/lang/String" (27 : Nat) ({ cls := "java/lang/String", name := "<init>", desc := "([CIILjava/lang/Void;)V" } : Jvm.MethodName)).before a0 Z = true := hw _ (List.mem_of_getElem? (i := 13) rfl)
theorem Wd14 {Z : State} {a0 : Array Value} (hw : ∀ d ∈ tables_1, d.before a0 Z = true) : (Jvm.Cond.instanceMethod ({ cls := "java/lang/String", name := "<init>", desc := "([CIILjava/lang/Void;)V" } : Jvm.MethodName)).before a0 Z = true := hw _ (List.mem_of_getElem? (i := 14) rfl)
theorem Wd16 {Z : State} {a0 : Array Value} (hw : ∀ d ∈ tables_1, d.before a0 Z = true) : (Jvm.Cond.code ({ cls := "java/lang/String", name := "<init>", desc := "([CIILjava/lang/Void;)V" } : Jvm.MethodName) jdk_42_method_149_code (6 : Nat) (Option.none : Option Jvm.ClassFile.FieldType)).before a0 Z = true := hw _ (List.mem_of_getElem? (i := 16) rfl)
theorem Wd17 {Z : State} {a0 : Array Value} (hw : ∀ d ∈ tables_1, d.before a0 Z = true) : (Jvm.Cond.methodLink "java/lang/String" (1 : Nat) ({ cls := "java/lang/Object", name := "<init>", desc := "()V" } : Jvm.MethodName)).before a0 Z = true := hw _ (List.mem_of_getElem? (i := 17) rfl)
theorem Wd18 {Z : State} {a0 : Array Value} (hw : ∀ d ∈ tables_1, d.before a0 Z = true) : (Jvm.Cond.instanceMethod ({ cls := "java/lang/Object", name := "<init>", desc := "()V" } : Jvm.MethodName)).before a0 Z = true := hw _ (List.mem_of_getElem? (i := 18) rfl)
theorem Wd19 {Z : State} {a0 : Array Value} (hw : ∀ d ∈ tables_1, d.before a0 Z = true) : (Jvm.Cond.code ({ cls := "java/lang/Object", name := "<init>", desc := "()V" } : Jvm.MethodName) object_method_1_code (1 : Nat) (Option.none : Option Jvm.ClassFile.FieldType)).before a0 Z = true := hw _ (List.mem_of_getElem? (i := 19) rfl)
theorem Wd20 {Z : State} {a0 : Array Value} (hw : ∀ d ∈ tables_1, d.before a0 Z = true) : (Jvm.Cond.stringLink "java/lang/String" (7 : Nat) "").before a0 Z = true := hw _ (List.mem_of_getElem? (i := 20) rfl)
theorem Wd21 {Z : State} {a0 : Array Value} (hw : ∀ d ∈ tables_1, d.before a0 Z = true) : (Jvm.Cond.arrayClass Jvm.ClassFile.FieldType.byte).before a0 Z = true := hw _ (List.mem_of_getElem? (i := 21) rfl)
theorem Wd22 {Z : State} {a0 : Array Value} (hw : ∀ d ∈ tables_1, d.before a0 Z = true) : (Jvm.Cond.laysFinal "java/lang/String" "java/lang/String" "value" "[B").before a0 Z = true := hw _ (List.mem_of_getElem? (i := 22) rfl)
theorem Wd23 {Z : State} {a0 : Array Value} (hw : ∀ d ∈ tables_1, d.before a0 Z = true) : (Jvm.Cond.laysFinal "java/lang/String" "java/lang/String" "coder" "B").before a0 Z = true := hw _ (List.mem_of_getElem? (i := 23) rfl)
theorem Wd26 {Z : State} {a0 : Array Value} (hw : ∀ d ∈ tables_1, d.before a0 Z = true) : (Jvm.Cond.fieldLink "java/lang/String" (9 : Nat) "java/lang/String" "value" "[B").before a0 Z = true := hw _ (List.mem_of_getElem? (i := 26) rfl)
theorem Wd27 {Z : State} {a0 : Array Value} (hw : ∀ d ∈ tables_1, d.before a0 Z = true) : (Jvm.Cond.fieldLink "java/lang/String" (15 : Nat) "java/lang/String" "coder" "B").before a0 Z = true := hw _ (List.mem_of_getElem? (i := 27) rfl)
theorem Wd28 {Z : State} {a0 : Array Value} (hw : ∀ d ∈ tables_1, d.before a0 Z = true) : (Jvm.Cond.methodLink "com/example/sakuin/sakuin/engine/WildcardIsInPinLaw" (20 : Nat) ({ cls := "com/example/sakuin/sakuin/engine/Wildcard", name := "isIn", desc := "(Ljava/lang/String;)Z" } : Jvm.MethodName)).before a0 Z = true := hw _ (List.mem_of_getElem? (i := 28) rfl)
theorem Wd29 {Z : State} {a0 : Array Value} (hw : ∀ d ∈ tables_1, d.before a0 Z = true) : (Jvm.Cond.static ({ cls := "com/example/sakuin/sakuin/engine/Wildcard", name := "isIn", desc := "(Ljava/lang/String;)Z" } : Jvm.MethodName)).before a0 Z = true := hw _ (List.mem_of_getElem? (i := 29) rfl)
theorem Wd30 {Z : State} {a0 : Array Value} (hw : ∀ d ∈ tables_1, d.before a0 Z = true) : (Jvm.Cond.initialized "com/example/sakuin/sakuin/engine/Wildcard").before a0 Z = true := hw _ (List.mem_of_getElem? (i := 30) rfl)
theorem Wd31 {Z : State} {a0 : Array Value} (hw : ∀ d ∈ tables_1, d.before a0 Z = true) : (Jvm.Cond.code ({ cls := "com/example/sakuin/sakuin/engine/Wildcard", name := "isIn", desc := "(Ljava/lang/String;)Z" } : Jvm.MethodName) prog_22_method_2_code (1 : Nat) (Option.some Jvm.ClassFile.FieldType.boolean)).before a0 Z = true := hw _ (List.mem_of_getElem? (i := 31) rfl)
theorem Wd32 {Z : State} {a0 : Array Value} (hw : ∀ d ∈ tables_1, d.before a0 Z = true) : (Jvm.Cond.methodLink "com/example/sakuin/sakuin/engine/Wildcard" (7 : Nat) ({ cls := "java/lang/String", name := "indexOf", desc := "(I)I" } : Jvm.MethodName)).before a0 Z = true := hw _ (List.mem_of_getElem? (i := 32) rfl)
theorem Wd33 {Z : State} {a0 : Array Value} (hw : ∀ d ∈ tables_1, d.before a0 Z = true) : (Jvm.Cond.declares ({ cls := "java/lang/String", name := "indexOf", desc := "(I)I" } : Jvm.MethodName)).before a0 Z = true := hw _ (List.mem_of_getElem? (i := 33) rfl)
theorem Wd34 {Z : State} {a0 : Array Value} (hw : ∀ d ∈ tables_1, d.before a0 Z = true) : (Jvm.Cond.instanceMethod ({ cls := "java/lang/String", name := "indexOf", desc := "(I)I" } : Jvm.MethodName)).before a0 Z = true := hw _ (List.mem_of_getElem? (i := 34) rfl)
theorem Wd35 {Z : State} {a0 : Array Value} (hw : ∀ d ∈ tables_1, d.before a0 Z = true) : (Jvm.Cond.selects "java/lang/String" ({ cls := "java/lang/String", name := "indexOf", desc := "(I)I" } : Jvm.MethodName) ({ cls := "java/lang/String", name := "indexOf", desc := "(I)I" } : Jvm.MethodName)).before a0 Z = true := hw _ (List.mem_of_getElem? (i := 35) rfl)
theorem Wd36 {Z : State} {a0 : Array Value} (hw : ∀ d ∈ tables_1, d.before a0 Z = true) : (Jvm.Cond.code ({ cls := "java/lang/String", name := "indexOf", desc := "(I)I" } : Jvm.MethodName) jdk_42_method_79_code (2 : Nat) (Option.some Jvm.ClassFile.FieldType.int)).before a0 Z = true := hw _ (List.mem_of_getElem? (i := 36) rfl)
theorem Wd37 {Z : State} {a0 : Array Value} (hw : ∀ d ∈ tables_1, d.before a0 Z = true) : (Jvm.Cond.methodLink "java/lang/String" (633 : Nat) ({ cls := "java/lang/String", name := "indexOf", desc := "(II)I" } : Jvm.MethodName)).before a0 Z = true := hw _ (List.mem_of_getElem? (i := 37) rfl)
theorem Wd38 {Z : State} {a0 : Array Value} (hw : ∀ d ∈ tables_1, d.before a0 Z = true) : (Jvm.Cond.declares ({ cls := "java/lang/String", name := "indexOf", desc := "(II)I" } : Jvm.MethodName)).before a0 Z = true := hw _ (List.mem_of_getElem? (i := 38) rfl)
theorem Wd39 {Z : State} {a0 : Array Value} (hw : ∀ d ∈ tables_1, d.before a0 Z = true) : (Jvm.Cond.instanceMethod ({ cls := "java/lang/String", name := "indexOf", desc := "(II)I" } : Jvm.MethodName)).before a0 Z = true := hw _ (List.mem_of_getElem? (i := 39) rfl)
theorem Wd40 {Z : State} {a0 : Array Value} (hw : ∀ d ∈ tables_1, d.before a0 Z = true) : (Jvm.Cond.selects "java/lang/String" ({ cls := "java/lang/String", name := "indexOf", desc := "(II)I" } : Jvm.MethodName) ({ cls := "java/lang/String", name := "indexOf", desc := "(II)I" } : Jvm.MethodName)).before a0 Z = true := hw _ (List.mem_of_getElem? (i := 40) rfl)
theorem Wd41 {Z : State} {a0 : Array Value} (hw : ∀ d ∈ tables_1, d.before a0 Z = true) : (Jvm.Cond.code ({ cls := "java/lang/String", name := "indexOf", desc := "(II)I" } : Jvm.MethodName) jdk_42_method_80_code (3 : Nat) (Option.some Jvm.ClassFile.FieldType.int)).before a0 Z = true := hw _ (List.mem_of_getElem? (i := 41) rfl)
theorem Wd42 {Z : State} {a0 : Array Value} (hw : ∀ d ∈ tables_1, d.before a0 Z = true) : (Jvm.Cond.methodLink "java/lang/String" (492 : Nat) ({ cls := "java/lang/String", name := "isLatin1", desc := "()Z" } : Jvm.MethodName)).before a0 Z = true := hw _ (List.mem_of_getElem? (i := 42) rfl)
theorem Wd43 {Z : State} {a0 : Array Value} (hw : ∀ d ∈ tables_1, d.before a0 Z = true) : (Jvm.Cond.declares ({ cls := "java/lang/String", name := "isLatin1", desc := "()Z" } : Jvm.MethodName)).before a0 Z = true := hw _ (List.mem_of_getElem? (i := 43) rfl)
theorem Wd44 {Z : State} {a0 : Array Value} (hw : ∀ d ∈ tables_1, d.before a0 Z = true) : (Jvm.Cond.instanceMethod ({ cls := "java/lang/String", name := "isLatin1", desc := "()Z" } : Jvm.MethodName)).before a0 Z = true := hw _ (List.mem_of_getElem? (i := 44) rfl)
theorem Wd45 {Z : State} {a0 : Array Value} (hw : ∀ d ∈ tables_1, d.before a0 Z = true) : (Jvm.Cond.selects "java/lang/String" ({ cls := "java/lang/String", name := "isLatin1", desc := "()Z" } : Jvm.MethodName) ({ cls := "java/lang/String", name := "isLatin1", desc := "()Z" } : Jvm.MethodName)).before a0 Z = true := hw _ (List.mem_of_getElem? (i := 45) rfl)
theorem Wd46 {Z : State} {a0 : Array Value} (hw : ∀ d ∈ tables_1, d.before a0 Z = true) : (Jvm.Cond.code ({ cls := "java/lang/String", name := "isLatin1", desc := "()Z" } : Jvm.MethodName) jdk_42_method_154_code (1 : Nat) (Option.some Jvm.ClassFile.FieldType.boolean)).before a0 Z = true := hw _ (List.mem_of_getElem? (i := 46) rfl)
theorem Wd47 {Z : State} {a0 : Array Value} (hw : ∀ d ∈ tables_1, d.before a0 Z = true) : (Jvm.Cond.fieldLink "java/lang/String" (38 : Nat) "java/lang/String" "COMPACT_STRINGS" "Z").before a0 Z = true := hw _ (List.mem_of_getElem? (i := 47) rfl)
theorem Wd48 {Z : State} {a0 : Array Value} (hw : ∀ d ∈ tables_1, d.before a0 Z = true) : (Jvm.Cond.methodLink "java/lang/String" (505 : Nat) ({ cls := "java/lang/String", name := "length", desc := "()I" } : Jvm.MethodName)).before a0 Z = true := hw _ (List.mem_of_getElem? (i := 48) rfl)
theorem Wd49 {Z : State} {a0 : Array Value} (hw : ∀ d ∈ tables_1, d.before a0 Z = true) : (Jvm.Cond.declares ({ cls := "java/lang/String", name := "length", desc := "()I" } : Jvm.MethodName)).before a0 Z = true := hw _ (List.mem_of_getElem? (i := 49) rfl)
theorem Wd50 {Z : State} {a0 : Array Value} (hw : ∀ d ∈ tables_1, d.before a0 Z = true) : (Jvm.Cond.instanceMethod ({ cls := "java/lang/String", name := "length", desc := "()I" } : Jvm.MethodName)).before a0 Z = true := hw _ (List.mem_of_getElem? (i := 50) rfl)
theorem Wd51 {Z : State} {a0 : Array Value} (hw : ∀ d ∈ tables_1, d.before a0 Z = true) : (Jvm.Cond.selects "java/lang/String" ({ cls := "java/lang/String", name := "length", desc := "()I" } : Jvm.MethodName) ({ cls := "java/lang/String", name := "length", desc := "()I" } : Jvm.MethodName)).before a0 Z = true := hw _ (List.mem_of_getElem? (i := 51) rfl)
theorem Wd52 {Z : State} {a0 : Array Value} (hw : ∀ d ∈ tables_1, d.before a0 Z = true) : (Jvm.Cond.code ({ cls := "java/lang/String", name := "length", desc := "()I" } : Jvm.MethodName) jdk_42_method_54_code (1 : Nat) (Option.some Jvm.ClassFile.FieldType.int)).before a0 Z = true := hw _ (List.mem_of_getElem? (i := 52) rfl)
theorem Wd53 {Z : State} {a0 : Array Value} (hw : ∀ d ∈ tables_1, d.before a0 Z = true) : (Jvm.Cond.methodLink "java/lang/String" (335 : Nat) ({ cls := "java/lang/String", name := "coder", desc := "()B" } : Jvm.MethodName)).before a0 Z = true := hw _ (List.mem_of_getElem? (i := 53) rfl)
theorem Wd54 {Z : State} {a0 : Array Value} (hw : ∀ d ∈ tables_1, d.before a0 Z = true) : (Jvm.Cond.declares ({ cls := "java/lang/String", name := "coder", desc := "()B" } : Jvm.MethodName)).before a0 Z = true := hw _ (List.mem_of_getElem? (i := 54) rfl)
theorem Wd55 {Z : State} {a0 : Array Value} (hw : ∀ d ∈ tables_1, d.before a0 Z = true) : (Jvm.Cond.instanceMethod ({ cls := "java/lang/String", name := "coder", desc := "()B" } : Jvm.MethodName)).before a0 Z = true := hw _ (List.mem_of_getElem? (i := 55) rfl)
theorem Wd56 {Z : State} {a0 : Array Value} (hw : ∀ d ∈ tables_1, d.before a0 Z = true) : (Jvm.Cond.selects "java/lang/String" ({ cls := "java/lang/String", name := "coder", desc := "()B" } : Jvm.MethodName) ({ cls := "java/lang/String", name := "coder", desc := "()B" } : Jvm.MethodName)).before a0 Z = true := hw _ (List.mem_of_getElem? (i := 56) rfl)
theorem Wd57 {Z : State} {a0 : Array Value} (hw : ∀ d ∈ tables_1, d.before a0 Z = true) : (Jvm.Cond.code ({ cls := "java/lang/String", name := "coder", desc := "()B" } : Jvm.MethodName) jdk_42_method_152_code (1 : Nat) (Option.some Jvm.ClassFile.FieldType.byte)).before a0 Z = true := hw _ (List.mem_of_getElem? (i := 57) rfl)
theorem Wd58 {Z : State} {a0 : Array Value} (hw : ∀ d ∈ tables_1, d.before a0 Z = true) : (Jvm.Cond.methodLink "java/lang/String" (637 : Nat) ({ cls := "java/lang/StringLatin1", name := "indexOf", desc := "([BIII)I" } : Jvm.MethodName)).before a0 Z = true := hw _ (List.mem_of_getElem? (i := 58) rfl)
theorem Wd59 {Z : State} {a0 : Array Value} (hw : ∀ d ∈ tables_1, d.before a0 Z = true) : (Jvm.Cond.static ({ cls := "java/lang/StringLatin1", name := "indexOf", desc := "([BIII)I" } : Jvm.MethodName)).before a0 Z = true := hw _ (List.mem_of_getElem? (i := 59) rfl)
theorem Wd60 {Z : State} {a0 : Array Value} (hw : ∀ d ∈ tables_1, d.before a0 Z = true) : (Jvm.Cond.initialized "java/lang/StringLatin1").before a0 Z = true := hw _ (List.mem_of_getElem? (i := 60) rfl)
theorem Wd61 {Z : State} {a0 : Array Value} (hw : ∀ d ∈ tables_1, d.before a0 Z = true) : (Jvm.Cond.code ({ cls := "java/lang/StringLatin1", name := "indexOf", desc := "([BIII)I" } : Jvm.MethodName) jdk_43_method_22_code (4 : Nat) (Option.some Jvm.ClassFile.FieldType.int)).before a0 Z = true := hw _ (List.mem_of_getElem? (i := 61) rfl)
theorem Wd62 {Z : State} {a0 : Array Value} (hw : ∀ d ∈ tables_1, d.before a0 Z = true) : (Jvm.Cond.methodLink "java/lang/StringLatin1" (88 : Nat) ({ cls := "java/lang/StringLatin1", name := "canEncode", desc := "(I)Z" } : Jvm.MethodName)).before a0 Z = true := hw _ (List.mem_of_getElem? (i := 62) rfl)
theorem Wd63 {Z : State} {a0 : Array Value} (hw : ∀ d ∈ tables_1, d.before a0 Z = true) : (Jvm.Cond.static ({ cls := "java/lang/StringLatin1", name := "canEncode", desc := "(I)Z" } : Jvm.MethodName)).before a0 Z = true := hw _ (List.mem_of_getElem? (i := 63) rfl)
theorem Wd64 {Z : State} {a0 : Array Value} (hw : ∀ d ∈ tables_1, d.before a0 Z = true) : (Jvm.Cond.code ({ cls := "java/lang/StringLatin1", name := "canEncode", desc := "(I)Z" } : Jvm.MethodName) jdk_43_method_4_code (1 : Nat) (Option.some Jvm.ClassFile.FieldType.boolean)).before a0 Z = true := hw _ (List.mem_of_getElem? (i := 64) rfl)
theorem Wd65 {Z : State} {a0 : Array Value} (hw : ∀ d ∈ tables_1, d.before a0 Z = true) : (Jvm.Cond.methodLink "java/lang/StringLatin1" (92 : Nat) ({ cls := "java/lang/Math", name := "max", desc := "(II)I" } : Jvm.MethodName)).before a0 Z = true := hw _ (List.mem_of_getElem? (i := 65) rfl)
theorem Wd66 {Z : State} {a0 : Array Value} (hw : ∀ d ∈ tables_1, d.before a0 Z = true) : (Jvm.Cond.static ({ cls := "java/lang/Math", name := "max", desc := "(II)I" } : Jvm.MethodName)).before a0 Z = true := hw _ (List.mem_of_getElem? (i := 66) rfl)
theorem Wd67 {Z : State} {a0 : Array Value} (hw : ∀ d ∈ tables_1, d.before a0 Z = true) : (Jvm.Cond.initialized "java/lang/Math").before a0 Z = true := hw _ (List.mem_of_getElem? (i := 67) rfl)
theorem Wd68 {Z : State} {a0 : Array Value} (hw : ∀ d ∈ tables_1, d.before a0 Z = true) : (Jvm.Cond.code ({ cls := "java/lang/Math", name := "max", desc := "(II)I" } : Jvm.MethodName) jdk_29_method_65_code (2 : Nat) (Option.some Jvm.ClassFile.FieldType.int)).before a0 Z = true := hw _ (List.mem_of_getElem? (i := 68) rfl)
theorem Wd69 {Z : State} {a0 : Array Value} (hw : ∀ d ∈ tables_1, d.before a0 Z = true) : (Jvm.Cond.methodLink "java/lang/StringLatin1" (38 : Nat) ({ cls := "java/lang/Math", name := "min", desc := "(II)I" } : Jvm.MethodName)).before a0 Z = true := hw _ (List.mem_of_getElem? (i := 69) rfl)
theorem Wd70 {Z : State} {a0 : Array Value} (hw : ∀ d ∈ tables_1, d.before a0 Z = true) : (Jvm.Cond.static ({ cls := "java/lang/Math", name := "min", desc := "(II)I" } : Jvm.MethodName)).before a0 Z = true := hw _ (List.mem_of_getElem? (i := 70) rfl)
theorem Wd71 {Z : State} {a0 : Array Value} (hw : ∀ d ∈ tables_1, d.before a0 Z = true) : (Jvm.Cond.code ({ cls := "java/lang/Math", name := "min", desc := "(II)I" } : Jvm.MethodName) jdk_29_method_69_code (2 : Nat) (Option.some Jvm.ClassFile.FieldType.int)).before a0 Z = true := hw _ (List.mem_of_getElem? (i := 71) rfl)
theorem Wd72 {Z : State} {a0 : Array Value} (hw : ∀ d ∈ tables_1, d.before a0 Z = true) : (Jvm.Cond.methodLink "java/lang/String" (177 : Nat) ({ cls := "java/lang/StringUTF16", name := "compress", desc := "([CII)[B" } : Jvm.MethodName)).before a0 Z = true := hw _ (List.mem_of_getElem? (i := 72) rfl)
theorem Wd73 {Z : State} {a0 : Array Value} (hw : ∀ d ∈ tables_1, d.before a0 Z = true) : (Jvm.Cond.static ({ cls := "java/lang/StringUTF16", name := "compress", desc := "([CII)[B" } : Jvm.MethodName)).before a0 Z = true := hw _ (List.mem_of_getElem? (i := 73) rfl)
theorem Wd74 {Z : State} {a0 : Array Value} (hw : ∀ d ∈ tables_1, d.before a0 Z = true) : (Jvm.Cond.initialized "java/lang/StringUTF16").before a0 Z = true := hw _ (List.mem_of_getElem? (i := 74) rfl)
theorem Wd75 {Z : State} {a0 : Array Value} (hw : ∀ d ∈ tables_1, d.before a0 Z = true) : (Jvm.Cond.code ({ cls := "java/lang/StringUTF16", name := "compress", desc := "([CII)[B" } : Jvm.MethodName) jdk_52_method_16_code (6 : Nat) (Option.some (Jvm.ClassFile.FieldType.array Jvm.ClassFile.FieldType.byte))).before a0 Z = true := hw _ (List.mem_of_getElem? (i := 75) rfl)
theorem Wd76 {Z : State} {a0 : Array Value} (hw : ∀ d ∈ tables_1, d.before a0 Z = true) : (Jvm.Cond.methodLink "java/lang/StringUTF16" (115 : Nat) ({ cls := "java/lang/StringUTF16", name := "compress", desc := "([CI[BII)I" } : Jvm.MethodName)).before a0 Z = true := hw _ (List.mem_of_getElem? (i := 76) rfl)
theorem Wd77 {Z : State} {a0 : Array Value} (hw : ∀ d ∈ tables_1, d.before a0 Z = true) : (Jvm.Cond.static ({ cls := "java/lang/StringUTF16", name := "compress", desc := "([CI[BII)I" } : Jvm.MethodName)).before a0 Z = true := hw _ (List.mem_of_getElem? (i := 77) rfl)
theorem Wd78 {Z : State} {a0 : Array Value} (hw : ∀ d ∈ tables_1, d.before a0 Z = true) : (Jvm.Cond.code ({ cls := "java/lang/StringUTF16", name := "compress", desc := "([CI[BII)I" } : Jvm.MethodName) jdk_52_method_21_code (7 : Nat) (Option.some Jvm.ClassFile.FieldType.int)).before a0 Z = true := hw _ (List.mem_of_getElem? (i := 78) rfl)
theorem Wd79 {Z : State} {a0 : Array Value} (hw : ∀ d ∈ tables_1, d.before a0 Z = true) : (Jvm.Cond.methodLink "java/lang/String" (47 : Nat) ({ cls := "java/lang/StringUTF16", name := "coderFromArrayLen", desc := "([BI)B" } : Jvm.MethodName)).before a0 Z = true := hw _ (List.mem_of_getElem? (i := 79) rfl)
theorem Wd80 {Z : State} {a0 : Array Value} (hw : ∀ d ∈ tables_1, d.before a0 Z = true) : (Jvm.Cond.static ({ cls := "java/lang/StringUTF16", name := "coderFromArrayLen", desc := "([BI)B" } : Jvm.MethodName)).before a0 Z = true := hw _ (List.mem_of_getElem? (i := 80) rfl)
theorem Wd81 {Z : State} {a0 : Array Value} (hw : ∀ d ∈ tables_1, d.before a0 Z = true) : (Jvm.Cond.code ({ cls := "java/lang/StringUTF16", name := "coderFromArrayLen", desc := "([BI)B" } : Jvm.MethodName) jdk_52_method_15_code (2 : Nat) (Option.some Jvm.ClassFile.FieldType.byte)).before a0 Z = true := hw _ (List.mem_of_getElem? (i := 81) rfl)
theorem Wd82 {Z : State} {a0 : Array Value} (hw : ∀ d ∈ tables_1, d.before a0 Z = true) : (Jvm.Cond.methodLink "java/lang/StringLatin1" (95 : Nat) ({ cls := "java/lang/StringLatin1", name := "indexOfChar", desc := "([BIII)I" } : Jvm.MethodName)).before a0 Z = true := hw _ (List.mem_of_getElem? (i := 82) rfl)
theorem Wd83 {Z : State} {a0 : Array Value} (hw : ∀ d ∈ tables_1, d.before a0 Z = true) : (Jvm.Cond.static ({ cls := "java/lang/StringLatin1", name := "indexOfChar", desc := "([BIII)I" } : Jvm.MethodName)).before a0 Z = true := hw _ (List.mem_of_getElem? (i := 83) rfl)
theorem Wd84 {Z : State} {a0 : Array Value} (hw : ∀ d ∈ tables_1, d.before a0 Z = true) : (Jvm.Cond.code ({ cls := "java/lang/StringLatin1", name := "indexOfChar", desc := "([BIII)I" } : Jvm.MethodName) jdk_43_method_23_code (6 : Nat) (Option.some Jvm.ClassFile.FieldType.int)).before a0 Z = true := hw _ (List.mem_of_getElem? (i := 84) rfl)
theorem Wd85 {Z : State} {a0 : Array Value} (hw : ∀ d ∈ tables_1, d.before a0 Z = true) : (Jvm.Cond.methodLink "java/lang/StringUTF16" (119 : Nat) ({ cls := "java/lang/StringUTF16", name := "toBytes", desc := "([CII)[B" } : Jvm.MethodName)).before a0 Z = true := hw _ (List.mem_of_getElem? (i := 85) rfl)
theorem Wd86 {Z : State} {a0 : Array Value} (hw : ∀ d ∈ tables_1, d.before a0 Z = true) : (Jvm.Cond.static ({ cls := "java/lang/StringUTF16", name := "toBytes", desc := "([CII)[B" } : Jvm.MethodName)).before a0 Z = true := hw _ (List.mem_of_getElem? (i := 86) rfl)
theorem Wd87 {Z : State} {a0 : Array Value} (hw : ∀ d ∈ tables_1, d.before a0 Z = true) : (Jvm.Cond.code ({ cls := "java/lang/StringUTF16", name := "toBytes", desc := "([CII)[B" } : Jvm.MethodName) jdk_52_method_14_code (5 : Nat) (Option.some (Jvm.ClassFile.FieldType.array Jvm.ClassFile.FieldType.byte))).before a0 Z = true := hw _ (List.mem_of_getElem? (i := 87) rfl)
theorem Wd88 {Z : State} {a0 : Array Value} (hw : ∀ d ∈ tables_1, d.before a0 Z = true) : (Jvm.Cond.methodLink "java/lang/StringUTF16" (107 : Nat) ({ cls := "java/lang/StringUTF16", name := "newBytesFor", desc := "(I)[B" } : Jvm.MethodName)).before a0 Z = true := hw _ (List.mem_of_getElem? (i := 88) rfl)
theorem Wd89 {Z : State} {a0 : Array Value} (hw : ∀ d ∈ tables_1, d.before a0 Z = true) : (Jvm.Cond.static ({ cls := "java/lang/StringUTF16", name := "newBytesFor", desc := "(I)[B" } : Jvm.MethodName)).before a0 Z = true := hw _ (List.mem_of_getElem? (i := 89) rfl)
theorem Wd90 {Z : State} {a0 : Array Value} (hw : ∀ d ∈ tables_1, d.before a0 Z = true) : (Jvm.Cond.code ({ cls := "java/lang/StringUTF16", name := "newBytesFor", desc := "(I)[B" } : Jvm.MethodName) jdk_52_method_2_code (1 : Nat) (Option.some (Jvm.ClassFile.FieldType.array Jvm.ClassFile.FieldType.byte))).before a0 Z = true := hw _ (List.mem_of_getElem? (i := 90) rfl)
theorem Wd91 {Z : State} {a0 : Array Value} (hw : ∀ d ∈ tables_1, d.before a0 Z = true) : (Jvm.Cond.methodLink "java/lang/StringUTF16" (11 : Nat) ({ cls := "java/lang/StringUTF16", name := "newBytesLength", desc := "(I)I" } : Jvm.MethodName)).before a0 Z = true := hw _ (List.mem_of_getElem? (i := 91) rfl)
theorem Wd92 {Z : State} {a0 : Array Value} (hw : ∀ d ∈ tables_1, d.before a0 Z = true) : (Jvm.Cond.static ({ cls := "java/lang/StringUTF16", name := "newBytesLength", desc := "(I)I" } : Jvm.MethodName)).before a0 Z = true := hw _ (List.mem_of_getElem? (i := 92) rfl)
theorem Wd93 {Z : State} {a0 : Array Value} (hw : ∀ d ∈ tables_1, d.before a0 Z = true) : (Jvm.Cond.code ({ cls := "java/lang/StringUTF16", name := "newBytesLength", desc := "(I)I" } : Jvm.MethodName) jdk_52_method_3_code (1 : Nat) (Option.some Jvm.ClassFile.FieldType.int)).before a0 Z = true := hw _ (List.mem_of_getElem? (i := 93) rfl)
theorem Wd94 {Z : State} {a0 : Array Value} (hw : ∀ d ∈ tables_1, d.before a0 Z = true) : (Jvm.Cond.constant "java/lang/StringUTF16" (20 : Nat) (1073741823 : Int32)).before a0 Z = true := hw _ (List.mem_of_getElem? (i := 94) rfl)
theorem Wd95 {Z : State} {a0 : Array Value} (hw : ∀ d ∈ tables_1, d.before a0 Z = true) : (Jvm.Cond.methodLink "java/lang/StringUTF16" (111 : Nat) ({ cls := "java/lang/StringUTF16", name := "putChar", desc := "([BII)V" } : Jvm.MethodName)).before a0 Z = true := hw _ (List.mem_of_getElem? (i := 95) rfl)
theorem Wd96 {Z : State} {a0 : Array Value} (hw : ∀ d ∈ tables_1, d.before a0 Z = true) : (Jvm.Cond.static ({ cls := "java/lang/StringUTF16", name := "putChar", desc := "([BII)V" } : Jvm.MethodName)).before a0 Z = true := hw _ (List.mem_of_getElem? (i := 96) rfl)
theorem Wd97 {Z : State} {a0 : Array Value} (hw : ∀ d ∈ tables_1, d.before a0 Z = true) : (Jvm.Cond.code ({ cls := "java/lang/StringUTF16", name := "putChar", desc := "([BII)V" } : Jvm.MethodName) jdk_52_method_4_code (3 : Nat) (Option.none : Option Jvm.ClassFile.FieldType)).before a0 Z = true := hw _ (List.mem_of_getElem? (i := 97) rfl)
theorem Wd98 {Z : State} {a0 : Array Value} (hw : ∀ d ∈ tables_1, d.before a0 Z = true) : (Jvm.Cond.fieldLink "java/lang/StringUTF16" (44 : Nat) "java/lang/StringUTF16" "$assertionsDisabled" "Z").before a0 Z = true := hw _ (List.mem_of_getElem? (i := 98) rfl)
theorem Wd99 {Z : State} {a0 : Array Value} (hw : ∀ d ∈ tables_1, d.before a0 Z = true) : (Jvm.Cond.fieldLink "java/lang/StringUTF16" (59 : Nat) "java/lang/StringUTF16" "HI_BYTE_SHIFT" "I").before a0 Z = true := hw _ (List.mem_of_getElem? (i := 99) rfl)
theorem Wd100 {Z : State} {a0 : Array Value} (hw : ∀ d ∈ tables_1, d.before a0 Z = true) : (Jvm.Cond.fieldLink "java/lang/StringUTF16" (63 : Nat) "java/lang/StringUTF16" "LO_BYTE_SHIFT" "I").before a0 Z = true := hw _ (List.mem_of_getElem? (i := 100) rfl)
theorem Wd101 {Z : State} {a0 : Array Value} (hw : ∀ d ∈ tables_1, d.before a0 Z = true) : (Jvm.Cond.methodLink "java/lang/StringUTF16" (71 : Nat) ({ cls := "java/lang/StringUTF16", name := "getChar", desc := "([BI)C" } : Jvm.MethodName)).before a0 Z = true := hw _ (List.mem_of_getElem? (i := 101) rfl)
theorem Wd102 {Z : State} {a0 : Array Value} (hw : ∀ d ∈ tables_1, d.before a0 Z = true) : (Jvm.Cond.static ({ cls := "java/lang/StringUTF16", name := "getChar", desc := "([BI)C" } : Jvm.MethodName)).before a0 Z = true := hw _ (List.mem_of_getElem? (i := 102) rfl)
theorem Wd103 {Z : State} {a0 : Array Value} (hw : ∀ d ∈ tables_1, d.before a0 Z = true) : (Jvm.Cond.code ({ cls := "java/lang/StringUTF16", name := "getChar", desc := "([BI)C" } : Jvm.MethodName) jdk_52_method_5_code (2 : Nat) (Option.some Jvm.ClassFile.FieldType.char)).before a0 Z = true := hw _ (List.mem_of_getElem? (i := 103) rfl)
theorem Wd104 {Z : State} {a0 : Array Value} (hw : ∀ d ∈ tables_1, d.before a0 Z = true) : (Jvm.Cond.methodLink "java/lang/String" (640 : Nat) ({ cls := "java/lang/StringUTF16", name := "indexOf", desc := "([BIII)I" } : Jvm.MethodName)).before a0 Z = true := hw _ (List.mem_of_getElem? (i := 104) rfl)
theorem Wd105 {Z : State} {a0 : Array Value} (hw : ∀ d ∈ tables_1, d.before a0 Z = true) : (Jvm.Cond.static ({ cls := "java/lang/StringUTF16", name := "indexOf", desc := "([BIII)I" } : Jvm.MethodName)).before a0 Z = true := hw _ (List.mem_of_getElem? (i := 105) rfl)
theorem Wd106 {Z : State} {a0 : Array Value} (hw : ∀ d ∈ tables_1, d.before a0 Z = true) : (Jvm.Cond.code ({ cls := "java/lang/StringUTF16", name := "indexOf", desc := "([BIII)I" } : Jvm.MethodName) jdk_52_method_40_code (4 : Nat) (Option.some Jvm.ClassFile.FieldType.int)).before a0 Z = true := hw _ (List.mem_of_getElem? (i := 106) rfl)
theorem Wd107 {Z : State} {a0 : Array Value} (hw : ∀ d ∈ tables_1, d.before a0 Z = true) : (Jvm.Cond.methodLink "java/lang/StringUTF16" (224 : Nat) ({ cls := "java/lang/Math", name := "max", desc := "(II)I" } : Jvm.MethodName)).before a0 Z = true := hw _ (List.mem_of_getElem? (i := 107) rfl)
theorem Wd108 {Z : State} {a0 : Array Value} (hw : ∀ d ∈ tables_1, d.before a0 Z = true) : (Jvm.Cond.methodLink "java/lang/StringUTF16" (183 : Nat) ({ cls := "java/lang/Math", name := "min", desc := "(II)I" } : Jvm.MethodName)).before a0 Z = true := hw _ (List.mem_of_getElem? (i := 108) rfl)
theorem Wd109 {Z : State} {a0 : Array Value} (hw : ∀ d ∈ tables_1, d.before a0 Z = true) : (Jvm.Cond.constant "java/lang/StringUTF16" (227 : Nat) (65536 : Int32)).before a0 Z = true := hw _ (List.mem_of_getElem? (i := 109) rfl)
theorem Wd110 {Z : State} {a0 : Array Value} (hw : ∀ d ∈ tables_1, d.before a0 Z = true) : (Jvm.Cond.methodLink "java/lang/StringUTF16" (228 : Nat) ({ cls := "java/lang/StringUTF16", name := "indexOfChar", desc := "([BIII)I" } : Jvm.MethodName)).before a0 Z = true := hw _ (List.mem_of_getElem? (i := 110) rfl)
theorem Wd111 {Z : State} {a0 : Array Value} (hw : ∀ d ∈ tables_1, d.before a0 Z = true) : (Jvm.Cond.static ({ cls := "java/lang/StringUTF16", name := "indexOfChar", desc := "([BIII)I" } : Jvm.MethodName)).before a0 Z = true := hw _ (List.mem_of_getElem? (i := 111) rfl)
theorem Wd112 {Z : State} {a0 : Array Value} (hw : ∀ d ∈ tables_1, d.before a0 Z = true) : (Jvm.Cond.code ({ cls := "java/lang/StringUTF16", name := "indexOfChar", desc := "([BIII)I" } : Jvm.MethodName) jdk_52_method_47_code (4 : Nat) (Option.some Jvm.ClassFile.FieldType.int)).before a0 Z = true := hw _ (List.mem_of_getElem? (i := 112) rfl)
theorem Wd113 {Z : State} {a0 : Array Value} (hw : ∀ d ∈ tables_1, d.before a0 Z = true) : (Jvm.Cond.methodLink "java/lang/StringUTF16" (96 : Nat) ({ cls := "java/lang/StringUTF16", name := "checkBoundsBeginEnd", desc := "(II[B)V" } : Jvm.MethodName)).before a0 Z = true := hw _ (List.mem_of_getElem? (i := 113) rfl)
theorem Wd114 {Z : State} {a0 : Array Value} (hw : ∀ d ∈ tables_1, d.before a0 Z = true) : (Jvm.Cond.static ({ cls := "java/lang/StringUTF16", name := "checkBoundsBeginEnd", desc := "(II[B)V" } : Jvm.MethodName)).before a0 Z = true := hw _ (List.mem_of_getElem? (i := 114) rfl)
theorem Wd115 {Z : State} {a0 : Array Value} (hw : ∀ d ∈ tables_1, d.before a0 Z = true) : (Jvm.Cond.code ({ cls := "java/lang/StringUTF16", name := "checkBoundsBeginEnd", desc := "(II[B)V" } : Jvm.MethodName) jdk_52_method_93_code (3 : Nat) (Option.none : Option Jvm.ClassFile.FieldType)).before a0 Z = true := hw _ (List.mem_of_getElem? (i := 115) rfl)
theorem Wd116 {Z : State} {a0 : Array Value} (hw : ∀ d ∈ tables_1, d.before a0 Z = true) : (Jvm.Cond.methodLink "java/lang/StringUTF16" (48 : Nat) ({ cls := "java/lang/StringUTF16", name := "length", desc := "([B)I" } : Jvm.MethodName)).before a0 Z = true := hw _ (List.mem_of_getElem? (i := 116) rfl)
theorem Wd117 {Z : State} {a0 : Array Value} (hw : ∀ d ∈ tables_1, d.before a0 Z = true) : (Jvm.Cond.static ({ cls := "java/lang/StringUTF16", name := "length", desc := "([B)I" } : Jvm.MethodName)).before a0 Z = true := hw _ (List.mem_of_getElem? (i := 117) rfl)
theorem Wd118 {Z : State} {a0 : Array Value} (hw : ∀ d ∈ tables_1, d.before a0 Z = true) : (Jvm.Cond.code ({ cls := "java/lang/StringUTF16", name := "length", desc := "([B)I" } : Jvm.MethodName) jdk_52_method_6_code (1 : Nat) (Option.some Jvm.ClassFile.FieldType.int)).before a0 Z = true := hw _ (List.mem_of_getElem? (i := 118) rfl)
theorem Wd119 {Z : State} {a0 : Array Value} (hw : ∀ d ∈ tables_1, d.before a0 Z = true) : (Jvm.Cond.methodLink "java/lang/StringUTF16" (241 : Nat) ({ cls := "java/lang/String", name := "checkBoundsBeginEnd", desc := "(III)V" } : Jvm.MethodName)).before a0 Z = true := hw _ (List.mem_of_getElem? (i := 119) rfl)
theorem Wd120 {Z : State} {a0 : Array Value} (hw : ∀ d ∈ tables_1, d.before a0 Z = true) : (Jvm.Cond.static ({ cls := "java/lang/String", name := "checkBoundsBeginEnd", desc := "(III)V" } : Jvm.MethodName)).before a0 Z = true := hw _ (List.mem_of_getElem? (i := 120) rfl)
theorem Wd121 {Z : State} {a0 : Array Value} (hw : ∀ d ∈ tables_1, d.before a0 Z = true) : (Jvm.Cond.code ({ cls := "java/lang/String", name := "checkBoundsBeginEnd", desc := "(III)V" } : Jvm.MethodName) jdk_42_method_158_code (3 : Nat) (Option.none : Option Jvm.ClassFile.FieldType)).before a0 Z = true := hw _ (List.mem_of_getElem? (i := 121) rfl)
theorem Wd122 {Z : State} {a0 : Array Value} (hw : ∀ d ∈ tables_1, d.before a0 Z = true) : (Jvm.Cond.fieldLink "java/lang/String" (1053 : Nat) "jdk/internal/util/Preconditions" "SIOOBE_FORMATTER" "Ljava/util/function/BiFunction;").before a0 Z = true := hw _ (List.mem_of_getElem? (i := 122) rfl)
theorem Wd123 {Z : State} {a0 : Array Value} (hw : ∀ d ∈ tables_1, d.before a0 Z = true) : (Jvm.Cond.initialized "jdk/internal/util/Preconditions").before a0 Z = true := hw _ (List.mem_of_getElem? (i := 123) rfl)
theorem Wd124 {Z : State} {a0 : Array Value} (hw : ∀ d ∈ tables_1, d.before a0 Z = true) : (Jvm.Cond.methodLink "java/lang/String" (1062 : Nat) ({ cls := "jdk/internal/util/Preconditions", name := "checkFromToIndex", desc := "(IIILjava/util/function/BiFunction;)I" } : Jvm.MethodName)).before a0 Z = true := hw _ (List.mem_of_getElem? (i := 124) rfl)
theorem Wd125 {Z : State} {a0 : Array Value} (hw : ∀ d ∈ tables_1, d.before a0 Z = true) : (Jvm.Cond.static ({ cls := "jdk/internal/util/Preconditions", name := "checkFromToIndex", desc := "(IIILjava/util/function/BiFunction;)I" } : Jvm.MethodName)).before a0 Z = true := hw _ (List.mem_of_getElem? (i := 125) rfl)
theorem Wd126 {Z : State} {a0 : Array Value} (hw : ∀ d ∈ tables_1, d.before a0 Z = true) : (Jvm.Cond.code ({ cls := "jdk/internal/util/Preconditions", name := "checkFromToIndex", desc := "(IIILjava/util/function/BiFunction;)I" } : Jvm.MethodName) jdk_41_method_12_code (4 : Nat) (Option.some Jvm.ClassFile.FieldType.int)).before a0 Z = true := hw _ (List.mem_of_getElem? (i := 126) rfl)
theorem Wd127 {Z : State} {a0 : Array Value} (hw : ∀ d ∈ tables_1, d.before a0 Z = true) : (Jvm.Cond.methodLink "java/lang/StringUTF16" (244 : Nat) ({ cls := "java/lang/StringUTF16", name := "indexOfCharUnsafe", desc := "([BIII)I" } : Jvm.MethodName)).before a0 Z = true := hw _ (List.mem_of_getElem? (i := 127) rfl)
theorem Wd128 {Z : State} {a0 : Array Value} (hw : ∀ d ∈ tables_1, d.before a0 Z = true) : (Jvm.Cond.static ({ cls := "java/lang/StringUTF16", name := "indexOfCharUnsafe", desc := "([BIII)I" } : Jvm.MethodName)).before a0 Z = true := hw _ (List.mem_of_getElem? (i := 128) rfl)
theorem Wd129 {Z : State} {a0 : Array Value} (hw : ∀ d ∈ tables_1, d.before a0 Z = true) : (Jvm.Cond.code ({ cls := "java/lang/StringUTF16", name := "indexOfCharUnsafe", desc := "([BIII)I" } : Jvm.MethodName) jdk_52_method_48_code (5 : Nat) (Option.some Jvm.ClassFile.FieldType.int)).before a0 Z = true := hw _ (List.mem_of_getElem? (i := 129) rfl)
abbrev yM0 : MethodName := ⟨"java/lang/String", "<init>", "([CIILjava/lang/Void;)V"⟩
abbrev yM1 : MethodName := ⟨"java/lang/String", "<init>", "([C)V"⟩
abbrev yM2 : MethodName := ⟨"java/lang/StringUTF16", "putChar", "([BII)V"⟩
abbrev yM3 : MethodName := ⟨"java/lang/StringUTF16", "newBytesLength", "(I)I"⟩
abbrev yM4 : MethodName := ⟨"java/lang/StringUTF16", "coderFromArrayLen", "([BI)B"⟩
abbrev yM5 : MethodName := ⟨"java/lang/StringUTF16", "getChar", "([BI)C"⟩
abbrev yM6 : MethodName := ⟨"java/lang/StringUTF16", "newBytesFor", "(I)[B"⟩
abbrev yM7 : MethodName := ⟨"java/lang/StringUTF16", "toBytes", "([CII)[B"⟩
abbrev yM8 : MethodName := ⟨"java/lang/StringUTF16", "compress", "([CI[BII)I"⟩
abbrev yM9 : MethodName := ⟨"java/lang/StringUTF16", "compress", "([CII)[B"⟩
abbrev yM10 : MethodName := ⟨"java/lang/String", "coder", "()B"⟩
abbrev yM11 : MethodName := ⟨"java/lang/String", "isLatin1", "()Z"⟩
abbrev yM12 : MethodName := ⟨"java/lang/StringLatin1", "canEncode", "(I)Z"⟩
abbrev yM13 : MethodName := ⟨"java/lang/Math", "max", "(II)I"⟩
abbrev yM14 : MethodName := ⟨"java/lang/Math", "min", "(II)I"⟩
abbrev yM15 : MethodName := ⟨"java/lang/String", "length", "()I"⟩
abbrev yM16 : MethodName := ⟨"java/lang/StringUTF16", "length", "([B)I"⟩
abbrev yM17 : MethodName := ⟨"jdk/internal/util/Preconditions", "checkFromToIndex", "(IIILjava/util/function/BiFunction;)I"⟩
abbrev yM18 : MethodName := ⟨"java/lang/String", "checkBoundsBeginEnd", "(III)V"⟩
abbrev yM19 : MethodName := ⟨"java/lang/StringUTF16", "checkBoundsBeginEnd", "(II[B)V"⟩
abbrev yM20 : MethodName := ⟨"java/lang/StringLatin1", "indexOfChar", "([BIII)I"⟩
abbrev yM21 : MethodName := ⟨"java/lang/StringUTF16", "indexOfCharUnsafe", "([BIII)I"⟩
abbrev yM22 : MethodName := ⟨"java/lang/StringLatin1", "indexOf", "([BIII)I"⟩
abbrev yM23 : MethodName := ⟨"java/lang/StringUTF16", "indexOfChar", "([BIII)I"⟩
abbrev yM24 : MethodName := ⟨"java/lang/StringUTF16", "indexOf", "([BIII)I"⟩
abbrev yM25 : MethodName := ⟨"java/lang/String", "indexOf", "(II)I"⟩
abbrev yM26 : MethodName := ⟨"java/lang/String", "indexOf", "(I)I"⟩
abbrev yM27 : MethodName := ⟨"com/example/sakuin/sakuin/engine/Wildcard", "isIn", "(Ljava/lang/String;)Z"⟩
abbrev yM28 : MethodName := ⟨"com/example/sakuin/sakuin/engine/WildcardIsInPinLaw", "ch", "(I)C"⟩
/-- the run comes from A to a state with P -/
def ownG (tb : Tables) (e : Env) (below : List Frame) (P : State → Prop) (A : State) : Prop := ∃ t, Steps tb e below A t ∧ P t
theorem ownBy {tb : Tables} {e : Env} {below : List Frame} {P : State → Prop} {A B : State} (st : ∀ t, Steps tb e below A t → Steps tb e below B t) (k : ownG tb e below P A) : ownG tb e below P B := by
  obtain ⟨t, h, q⟩ := k
  exact ⟨t, st t h, q⟩
theorem ownSt {tb : Tables} {e : Env} {below : List Frame} {P : State → Prop} {A B : State} (st : Steps tb e below B A) (k : ownG tb e below P A) : ownG tb e below P B := by
  obtain ⟨t, h, q⟩ := k
  exact ⟨t, st.trans h, q⟩
def ownE (s : State) (below : List Frame) (Q : Option Value → Heap → List Loc → Prop) (k n : Nat) (t : State) : Prop := t.status = .running ∧ ∃ v L, Ended t below (.returned v) ∧ Q v t.heap L ∧ FrameEnd s (.returned v) t L k n
def ownEH (s : State) (below : List Frame) (Q : Option Value → Heap → List Loc → Prop) (Z : State) (EL : List (String × Nat)) (h0 : Heap) (k n : Nat) (t : State) : Prop := t.status = .running ∧ ∃ v L, Ended t below (.returned v) ∧ Q v t.heap L ∧ CHr Z EL s.vm h0 t.vm t.heap ∧ ReturnedEndW s (.returned v) t L k n
theorem ownOut {tb : Tables} {e : Env} {below : List Frame} {P : Option Value → Heap → List Loc → Prop} {s A : State} {k n : Nat} (g : ownG tb e below (ownE s below P k n) A) :
    ∃ s₂ o, Steps tb e below A s₂ ∧ s₂.status = .running ∧ Ended s₂ below o ∧ ∃ v L, o = .returned v ∧ P v s₂.heap L ∧ FrameEnd s o s₂ L k n := by
  obtain ⟨t, h, r, v, L, e1, q, f⟩ := g
  exact ⟨t, _, h, r, e1, v, L, rfl, q, f⟩
theorem ownOutH {tb : Tables} {e : Env} {below : List Frame} {P : Option Value → Heap → List Loc → Prop} {s A Z : State} {EL : List (String × Nat)} {h0 : Heap} {k n : Nat} (hh : s.heap = h0) (g : ownG tb e below (ownEH s below P Z EL h0 k n) A) :
    ∃ s₂ o, Steps tb e below A s₂ ∧ s₂.status = .running ∧ Ended s₂ below o ∧ ∃ v L, o = .returned v ∧ P v s₂.heap L ∧ CHr Z EL s.vm s.heap s₂.vm s₂.heap ∧ ReturnedEndW s o s₂ L k n := by
  subst hh
  obtain ⟨t, h, r, v, L, e1, q, c, f⟩ := g
  exact ⟨t, _, h, r, e1, v, L, rfl, q, c, f⟩
theorem ownRet {p : Program} {l : Launch} {e : Env} {R : Room} {s : State} {m : MethodId} {args : Array Value} {below : List Frame} {meth : Method} {c : Code} {T A : State} {locs : List Loc} {cells slots k n : Nat} {P : Option Value → Heap → List Loc → Prop}
    (X : Stand p l e R s m args below meth c T locs cells slots) (hlk : meth.locks = false) {v : Option Value} (hv : meth.sig.returnType = none → v = none) (hQ : P v T.heap locs) (hk : cells ≤ k) (hn : slots ≤ n)
    (st : ∀ fs, (∀ (f : JFrame) (acts : List Action), f.method = m → f.locked = none → f.entered = [] → (doReturn e (T.setTop f) acts v).1 = T.setFrames fs) → Steps p.tables e below A (T.setFrames fs)) :
    ownG p.tables e below (ownE s below P k n) A := by
  obtain ⟨fs, hr, hrun, hended, hW, hsame⟩ := X.leave hv hlk
  exact ⟨_, st fs hr, hrun, v, locs, hended, hQ, ⟨_, rfl⟩, hW, hsame.mono hk hn⟩
theorem ownRetH {p : Program} {l : Launch} {e : Env} {R : Room} {s : State} {m : MethodId} {args : Array Value} {below : List Frame} {meth : Method} {c : Code} {T A Z : State} {EL : List (String × Nat)} {h0 : Heap} {locs : List Loc} {cells slots k n k1 : Nat} {vm1 : Vm} {P : Option Value → Heap → List Loc → Prop}
    (X : Stand p l e R (s.setVm vm1) m args below meth c T locs cells slots) (hS : s.Since vm1 k1) (hk1 : k1 ≤ T.heap.size) (hlk : meth.locks = false) {v : Option Value} (hv : meth.sig.returnType = none → v = none) (hQ : P v T.heap locs) (hC : CHr Z EL s.vm h0 T.vm T.heap) (hk : cells ≤ k) (hn : slots ≤ n)
    (st : ∀ fs, (∀ (f : JFrame) (acts : List Action), f.method = m → f.locked = none → f.entered = [] → (doReturn e (T.setTop f) acts v).1 = T.setFrames fs) → Steps p.tables e below A (T.setFrames fs)) :
    ownG p.tables e below (ownEH s below P Z EL h0 k n) A := by
  obtain ⟨fs, hr, hrun, hended, hR⟩ := X.leaveW hS hk1 hv hlk
  exact ⟨_, st fs hr, hrun, v, locs, hended, hQ, hC, hR.1, hR.2.1, hR.2.2.1, hR.2.2.2.mono hk hn⟩
theorem own_since {s : State} {n : Nat} : s.Since s.vm n := (State.WarmedH.refl s).since n
theorem own_cat {v : Value} (h : v.isRef = true) : v.category = 1 := by cases v <;> simp_all [Value.isRef, Value.category]
theorem own_narrow {t : FieldType} {v : Value} (ht : t.isReference = true) (h : v.isRef = true) : narrow t v = v := by
  rcases ref_cases h with rfl | ⟨a, rfl⟩ <;> cases t <;> simp_all [narrow, FieldType.isReference]
theorem own_fits {t : FieldType} {v : Value} (ht : t.isReference = true) (h : v.isRef = true) : fits t v = true := by
  rcases ref_cases h with rfl | ⟨a, rfl⟩ <;> cases t <;> simp_all [fits, FieldType.isReference]
theorem own_and255 (x : Int32) : ¬ nar .char ((x &&& (255 : Int32)).toUInt32.toUInt16.toUInt32.toInt32) < 0 ∧ ¬ (255 : Int32) < nar .char ((x &&& (255 : Int32)).toUInt32.toUInt16.toUInt32.toInt32) := by
  have t : ∀ k : Fin 256, ¬ nar .char ((Int32.ofNat k.val).toUInt32.toUInt16.toUInt32.toInt32) < 0 ∧ ¬ (255 : Int32) < nar .char ((Int32.ofNat k.val).toUInt32.toUInt16.toUInt32.toInt32) := by decide +kernel
  have h : (x &&& 255).toBitVec.toNat < 256 := by
    simp only [Int32.toBitVec_and, BitVec.toNat_and]
    exact Nat.lt_succ_of_le Nat.and_le_right
  have e : (x &&& 255) = Int32.ofNat (x &&& 255).toBitVec.toNat := by
    apply Int32.toBitVec_inj.mp
    show _ = BitVec.ofNat 32 _
    rw [BitVec.ofNat_toNat]; simp
  rw [e]
  exact t ⟨_, h⟩
theorem own_up (cs : List Int32) (h : ∀ c ∈ cs, ¬ c < 0 ∧ ¬ (255 : Int32) < c) : ∀ c ∈ cs, ¬ c < 0 ∧ ¬ (65535 : Int32) < c := fun c hc => ⟨(h c hc).1, fun q => (h c hc).2 (by rw [Int32.lt_iff_toInt_lt] at q ⊢; have e1 : (65535 : Int32).toInt = 65535 := rfl; have e2 : (255 : Int32).toInt = 255 := rfl; omega)⟩
theorem own_nz {args : Array Value} {s : State} {t : Jvm.Term} {g : Int32} (e : t.eval args s none [] s = some (.int g)) (h : (Jvm.Cond.not (Jvm.Cond.eq t (Jvm.Term.int (0 : Int32)))).value args s none s [] = some true) : ¬ (g = (0 : Int32)) := by
  intro q
  subst q
  simp [Jvm.Cond.value, Jvm.Term.eval, e] at h
theorem own_lcmp_self (x : Int64) : lcmpW x x = 0 := by rw [lcW]; exact (lc_eq x x).mpr rfl
theorem own_nar_byte (x : Int32) : nar .byte (x.toInt8.toInt32) = x.toInt8.toInt32 := by simp [nar]
theorem own_nar_char (x : Int32) : nar .char (x.toUInt32.toUInt16.toUInt32.toInt32) = x.toUInt32.toUInt16.toUInt32.toInt32 := by
  have q := c_i2c x
  have q2 := c_i2c (x.toUInt32.toUInt16.toUInt32.toInt32)
  exact Int32.toInt_inj.mp (by show ((x.toUInt32.toUInt16.toUInt32.toInt32).toUInt32.toUInt16.toUInt32.toInt32).toInt = _; omega)
theorem own_and255c (x : Int32) : ¬ ((255 : Int32) < (x &&& (255 : Int32)).toUInt32.toUInt16.toUInt32.toInt32) := by
  have h := (own_and255 x).2
  rwa [own_nar_char] at h
def own_b (p : Prop) [Decidable p] : Int32 := if p then 1 else 0
theorem own_bt0 {p : Prop} [Decidable p] (h : p) : ¬ (own_b p = (0 : Int32)) := by simp [own_b, h]
theorem own_bf0 {p : Prop} [Decidable p] (h : ¬ p) : own_b p = (0 : Int32) := by simp [own_b, h]
theorem own_bt1 {p : Prop} [Decidable p] (h : p) : own_b p = (1 : Int32) := by simp [own_b, h]
theorem own_bf1 {p : Prop} [Decidable p] (h : ¬ p) : ¬ (own_b p = (1 : Int32)) := by simp [own_b, h]
theorem own_eqv {s : State} {args : Array Value} {t u : Jvm.Term} {w : Addr} (eu : u.eval args s none [] s = some (.ref w)) (h : (Jvm.Cond.eq t u).value args s none s [] = some true) : t.eval args s none [] s = some (.ref w) := by
  obtain ⟨x, y, ex, ey, kx, -⟩ := cmp_v (Or.inl h)
  cases eu.symm.trans ey
  have hr : x.isRef = true := by cases x <;> simp_all [Kin, Value.isRef]
  have q := gotT (eq_R ex ey hr rfl) h
  rw [ex, q]
theorem own_len {s : State} {args : Array Value} {t : Jvm.Term} {a : Addr} {c : Cell} {ty : FieldType} {n : Int32} (ev : t.eval args s none [] s = some (.ref a)) (A : Arr s s.heap a c ty) (h : (Jvm.Cond.eq (Jvm.Term.length t) (Jvm.Term.int n)).value args s none s [] = some true) : c.slots.size < 2 ^ 31 ∧ c.slots.size.toInt32 = n := by
  have q := eqv_i (y := n) rfl h
  have ha := A.fin (Vm.Alike.refl _)
  simp only [Jvm.Term.eval, ev, ha, Option.bind_eq_bind, Option.bind_some] at q
  split at q
  · rename_i hl
    exact ⟨hl, by simpa using q⟩
  · simp at q
theorem own_elem {s : State} {args : Array Value} {t : Jvm.Term} {a : Addr} {c : Cell} {ty : FieldType} {j : Int32} {v : Value} (ev : t.eval args s none [] s = some (.ref a)) (A : Arr s s.heap a c ty) (h : (Jvm.Term.elem t (Jvm.Term.int j)).eval args s none [] s = some v) : c.slots[j.toNatClampNeg]? = some v :=
  (elem_in h ev rfl A.1).2
theorem own_nar_rng {c : Int32} (h0 : ¬ c < 0) (h1 : ¬ (255 : Int32) < c) : nar .char c = c := by
  have e0 : (0 : Int32).toInt = 0 := rfl
  have e1 : (255 : Int32).toInt = 255 := rfl
  simp only [Int32.lt_iff_toInt_lt] at h0 h1
  have q := c_i2c c
  exact Int32.toInt_inj.mp (by show (c.toUInt32.toUInt16.toUInt32.toInt32).toInt = _; omega)
theorem own_idx {p : Int32} {n : Nat} (h0 : ¬ p < 0) (h : p < Int32.ofNat n) (hn : n ≤ 4000) : p.toNatClampNeg < n := by
  have e0 : (0 : Int32).toInt = 0 := rfl
  simp only [Int32.lt_iff_toInt_lt] at h0 h
  rw [Int32.toInt_ofNat_of_lt (by omega)] at h
  show p.toInt.toNat < n
  omega
theorem own_set_rng {cs : List Int32} {i : Nat} {x : Int32} (h : ∀ c ∈ cs, ¬ c < 0 ∧ ¬ (255 : Int32) < c) (hx : ¬ x < 0 ∧ ¬ (255 : Int32) < x) : ∀ c ∈ cs.set i x, ¬ c < 0 ∧ ¬ (255 : Int32) < c := fun c hc =>
  (List.mem_or_eq_of_mem_set hc).elim (h c) (fun e => e ▸ hx)
theorem own_rem_nn (x y : Int32) (hy : 0 < y.toInt) : ¬ ((x &&& (2147483647 : Int32)) % y < 0) := by
  have h0 : 0 ≤ (x &&& (2147483647 : Int32)).toInt := (c_and x 2147483647 (by decide)).1
  have q := (c_iremV (x &&& 2147483647) y).1 h0 hy
  have e0 : (0 : Int32).toInt = 0 := rfl
  simp only [Int32.lt_iff_toInt_lt]
  omega
theorem own_and255p (x : Int32) : ¬ (x &&& (255 : Int32)).toUInt32.toUInt16.toUInt32.toInt32 < 0 ∧ ¬ ((255 : Int32) < (x &&& (255 : Int32)).toUInt32.toUInt16.toUInt32.toInt32) := by
  have h := own_and255 x
  rwa [own_nar_char] at h
theorem own_ty_ne {Z : State} {h : Heap} {a b : Addr} {k1 k2 : ClassId} {t1 t2 : FieldType} {z1 z2 : Int32} {v1 v2 : List Value} {d1 d2 : Value} (A : Arv Z h a k1 t1 z1 v1 d1) (B : Arv Z h b k2 t2 z2 v2 d2) (q : t1 ≠ t2) : a ≠ b := fun e => by
  subst e
  obtain ⟨c1, A1, -⟩ := A
  obtain ⟨c2, B1, -⟩ := B
  cases A1.1.symm.trans B1.1
  obtain ⟨-, k, hk, comp, hkind⟩ := A1.2.1
  obtain ⟨-, k', hk', comp', hkind'⟩ := B1.2.1
  cases hk.symm.trans hk'
  rw [hkind] at hkind'
  injection hkind' with _ e2
  exact q e2
theorem own_hide {p : Program} {l : Launch} {e : Env} {R : Room} {s : State} {m : MethodId} {args : Array Value} {below : List Frame} {meth : Method} {c : Code} {T : State} {locs : List Loc} {cells slots cells' slots' n0 : Nat} (X : Stand p l e R s m args below meth c T locs cells slots) (N : Fr n0 locs) (hc : cells ≤ cells') (hs : slots ≤ slots') : ∃ L, Stand p l e R s m args below meth c T L cells' slots' ∧ Fr n0 L := ⟨_, X.more hc hs, N⟩
theorem own_getF {p : Program} {l : Launch} {e : Env} {R : Room} {s : State} {m : MethodId} {args : Array Value} {below : List Frame} {meth : Method} {c : Code} {T Z : State} {locs : List Loc} {cells slots : Nat} {a0 : Array Value} {h : Heap} {P : State → Prop} (X : Stand p l e R s m args below meth c T locs cells slots) (hx : p.tables.exec = Jvm.exec) (hZ : Z.Warmed39 s.vm) {own R0 O n d host : String} {index : Nat} (hown : s.vm.findClass own = some m.cls) (w : (Jvm.Cond.fieldLink own index R0 n d).before a0 Z = true ∨ (Jvm.Cond.fieldLinkNest own index R0 n d host).before a0 Z = true) (via : Via Z R0 O n d)
    (eT : T.heap = h) {a : Addr} {v : Value} (F : Fld Z h a O n d v) {pc : Nat} {Ls : Array Slot} {rest : List Value} (hd : decode c.code pc = .ok (.getfield index, 3)) (k : ∀ T', Stand p l e R s m args below meth c T' locs cells slots → T'.heap = h → ownG p.tables e below P (T'.setTop (mkF m (pc + 3) Ls (v :: rest)))) : ownG p.tables e below P (T.setTop (mkF m pc Ls (.ref a :: rest))) := by
  obtain ⟨T', X', e', st⟩ := getF X hx hZ hown w via eT F (g := mkF m pc Ls (.ref a :: rest)) rfl rfl hd
  exact ownBy st (k T' X' e')
theorem own_safe_blank {Z : State} {EL : List (String × Nat)} {vm : Vm} {h : Heap} {x : Addr} (hal : Z.vm.Alike vm) (E : Exa Z h x "java/lang/String") (F : Fld Z h x "java/lang/String" "value" "[B" .null) : Safe Z EL vm h x := fun B => by
  obtain ⟨p, -, u, a, -, q, -, G, rfl | rfl⟩ := B
  · obtain ⟨cS, ⟨⟨s1, s2, s3, ⟨cv, kv, iv, s4, s4'⟩, -, s6, -, s8, -⟩, -⟩, -⟩ := G
    obtain ⟨cell, cf, kk, i, f, h1, h2, h3, -, -, -, h7⟩ := F
    cases (show h[q.sa]? = some q.sC from s1).symm.trans h1
    obtain ⟨kv', z4⟩ := ff_back (U := Wst Z vm h) hal s4
    cases h2.symm.trans z4
    rw [s8] at h7
    cases h7
  · obtain ⟨cell, k, e1, e2, e3, -, -⟩ := E
    cases (show h[q.sd]? = some q.SA from G.hd).symm.trans e1
    obtain ⟨cS, -, -, f, -⟩ := G
    have f' : vm.findClass "[B" = some q.SA.cls := f
    rw [hal.findClass] at f'
    obtain ⟨k1, q1, q2⟩ := Vm.findClass_spec f'
    obtain ⟨k2, q3, q4⟩ := Vm.findClass_spec e2
    cases q1.symm.trans q3
    exact absurd (q2.symm.trans q4) (by decide)
theorem own_wS {Z : State} {a0 : Array Value} (hw : ∀ d ∈ tables_1, d.before a0 Z = true) : ∀ a ∈ Bundle.stringAtoms, a.before a0 Z = true := fun d hd => hw d ((by decide +kernel : ∀ d ∈ Bundle.stringAtoms, d ∈ tables_1) d hd)
abbrev vI (x : Int32) : Slot := .val (.int x)
abbrev vR (x : Addr) : Slot := .val (.ref x)
abbrev iV (x : Int32) : Value := .int x
theorem oLe {a b : Nat} (h : Nat.ble a b = true) : a ≤ b := Nat.le_of_ble_eq_true h
theorem oHd {p : Program} {l : Launch} {e : Env} {R : Room} {s : State} {m : MethodId} {args : Array Value} {below : List Frame} {meth : Method} {c : Code} {T : State} {locs : List Loc} {cells slots n0 : Nat} (cells' slots' : Nat) (X : Stand p l e R s m args below meth c T locs cells slots) (N : Fr n0 locs) (hc : Nat.ble cells cells' = true) (hs : Nat.ble slots slots' = true) : ∃ L, Stand p l e R s m args below meth c T L cells' slots' ∧ Fr n0 L := own_hide X N (oLe hc) (oLe hs)
def ownEL : List (String × Nat) := [("java/lang/String", 7)]
theorem own_EW {Z : State} {a0 : Array Value} (hw : ∀ d ∈ tables_1, d.before a0 Z = true) : EW Z a0 ownEL := (EW.cons (Wd20 hw) (by decide) EW.nil)
theorem pn_1 : plainName "java/lang/String" = true := by first | (simp [plainName, overriddenIn]; done) | decide +kernel
theorem d3_0 : decode jdk_42_method_149_code 0 = .ok (.aload_n 0, 1) := by decide +kernel
theorem d3_1 : decode jdk_42_method_149_code 1 = .ok (.invokespecial 1, 3) := by decide +kernel
theorem d3_4 : decode jdk_42_method_149_code 4 = .ok (.iload_n 3, 1) := by decide +kernel
theorem d3_5 : decode jdk_42_method_149_code 5 = .ok (.ifCond .ne 22, 3) := by decide +kernel
theorem d3_8 : decode jdk_42_method_149_code 8 = .ok (.aload_n 0, 1) := by decide +kernel
theorem d3_9 : decode jdk_42_method_149_code 9 = .ok (.ldc 7, 2) := by decide +kernel
theorem d3_11 : decode jdk_42_method_149_code 11 = .ok (.getfield 9, 3) := by decide +kernel
theorem d3_14 : decode jdk_42_method_149_code 14 = .ok (.putfield 9, 3) := by decide +kernel
theorem d3_17 : decode jdk_42_method_149_code 17 = .ok (.aload_n 0, 1) := by decide +kernel
theorem d3_18 : decode jdk_42_method_149_code 18 = .ok (.ldc 7, 2) := by decide +kernel
theorem d3_20 : decode jdk_42_method_149_code 20 = .ok (.getfield 15, 3) := by decide +kernel
theorem d3_23 : decode jdk_42_method_149_code 23 = .ok (.putfield 15, 3) := by decide +kernel
theorem d3_26 : decode jdk_42_method_149_code 26 = .ok (.return_, 1) := by decide +kernel
theorem d2_0 : decode jdk_42_method_3_code 0 = .ok (.aload_n 0, 1) := by decide +kernel
theorem d2_1 : decode jdk_42_method_3_code 1 = .ok (.aload_n 1, 1) := by decide +kernel
theorem d2_2 : decode jdk_42_method_3_code 2 = .ok (.iconst 0, 1) := by decide +kernel
theorem d2_3 : decode jdk_42_method_3_code 3 = .ok (.aload_n 1, 1) := by decide +kernel
theorem d2_4 : decode jdk_42_method_3_code 4 = .ok (.arraylength, 1) := by decide +kernel
theorem d2_5 : decode jdk_42_method_3_code 5 = .ok (.aconst_null, 1) := by decide +kernel
theorem d2_6 : decode jdk_42_method_3_code 6 = .ok (.invokespecial 27, 3) := by decide +kernel
theorem pd_2 : parseMethodDescriptor "([CIILjava/lang/Void;)V" = some ⟨[(.array .char), .int, .int, (.object "java/lang/Void")], none⟩ := by decide +kernel
theorem d2_9 : decode jdk_42_method_3_code 9 = .ok (.return_, 1) := by decide +kernel
theorem own_irr (x : Int32) : ¬ x < x := by simp [Int32.lt_iff_toInt_lt]
abbrev oL (c : Int32) : Int32 := c.toInt8.toInt32
abbrev oW (c : Int32) : Int32 := (c >>> ((0 : Int32) &&& 31)).toInt8.toInt32
abbrev oH (c : Int32) : Int32 := (c >>> ((8 : Int32) &&& 31)).toInt8.toInt32
theorem own_n16 (x : Int32) : ¬ nar .char x < 0 ∧ ¬ (65535 : Int32) < nar .char x := by
  have q := c_i2c x
  have e0 : (0 : Int32).toInt = 0 := rfl
  have e1 : (65535 : Int32).toInt = 65535 := rfl
  have e : nar .char x = x.toUInt32.toUInt16.toUInt32.toInt32 := rfl
  rw [e]
  simp only [Int32.lt_iff_toInt_lt]
  omega
theorem own_c16 {c : Int32} (h : ¬ c < 0 ∧ ¬ (65535 : Int32) < c) : nar .char c = c := by
  have q := c_i2c c
  have e0 : (0 : Int32).toInt = 0 := rfl
  have e1 : (65535 : Int32).toInt = 65535 := rfl
  simp only [Int32.lt_iff_toInt_lt] at h
  exact Int32.toInt_inj.mp (by show (c.toUInt32.toUInt16.toUInt32.toInt32).toInt = _; omega)
theorem own_gc {c : Int32} (h : ¬ c < 0 ∧ ¬ (65535 : Int32) < c) : nar .char (((((oW c) &&& (255 : Int32)) <<< ((0 : Int32) &&& 31)) ||| (((oH c) &&& (255 : Int32)) <<< ((8 : Int32) &&& 31))).toUInt32.toUInt16.toUInt32.toInt32) = c := by
  have e : oW c = oL c := by unfold oW oL; rw [StrChars.shr0]
  rw [own_nar_char, e]
  exact StrChars.pair_says h.1 h.2
theorem own_lo_inj {c : Int32} (h : ¬ c < 0 ∧ ¬ (65535 : Int32) < c) (h2 : ¬ (255 : Int32) < c) : (c.toInt8.toInt32 &&& (255 : Int32)).toUInt32.toUInt16.toUInt32.toInt32 = c := StrChars.chr8_lo8 h.1 h2
theorem own_six31 (f : Int32) : (f &&& (2147483647 : Int32)) % (6 : Int32) = (0 : Int32) ∨ (f &&& (2147483647 : Int32)) % (6 : Int32) = (1 : Int32) ∨ (f &&& (2147483647 : Int32)) % (6 : Int32) = (2 : Int32) ∨ (f &&& (2147483647 : Int32)) % (6 : Int32) = (3 : Int32) ∨ (f &&& (2147483647 : Int32)) % (6 : Int32) = (4 : Int32) ∨ (f &&& (2147483647 : Int32)) % (6 : Int32) = (5 : Int32) := by
  have h0 := c_and f 2147483647 (by decide)
  have q := (c_iremV (f &&& 2147483647) 6).1 h0.1 (by decide)
  have e6 : (6 : Int32).toInt = 6 := rfl
  have e0 : (0 : Int32).toInt = 0 := rfl
  have e1 : (1 : Int32).toInt = 1 := rfl
  have e2 : (2 : Int32).toInt = 2 := rfl
  have e3 : (3 : Int32).toInt = 3 := rfl
  have e4 : (4 : Int32).toInt = 4 := rfl
  have e5 : (5 : Int32).toInt = 5 := rfl
  simp only [← Int32.toInt_inj, e0, e1, e2, e3, e4, e5]
  omega
theorem own_lo_of {c : Int32} (h : c = (42 : Int32)) : (oL c) = (42 : Int32) := by subst h; decide
theorem own_of_lo {c : Int32} (h : ¬ c < 0 ∧ ¬ (65535 : Int32) < c) (h2 : ¬ (255 : Int32) < c) (e : (oL c) = (42 : Int32)) : c = (42 : Int32) := by
  have q : (oL c &&& (255 : Int32)).toUInt32.toUInt16.toUInt32.toInt32 = c := own_lo_inj h h2
  rw [e] at q
  exact q.symm.trans (by decide)
theorem pn_3 : plainName "java/lang/StringUTF16" = true := by first | (simp [plainName, overriddenIn]; done) | decide +kernel
theorem d22_0 : decode jdk_52_method_4_code 0 = .ok (.getstatic 44, 3) := by decide +kernel
theorem d22_3 : decode jdk_52_method_4_code 3 = .ok (.ifCond .ne 25, 3) := by decide +kernel
theorem d22_28 : decode jdk_52_method_4_code 28 = .ok (.iload_n 1, 1) := by decide +kernel
theorem d22_29 : decode jdk_52_method_4_code 29 = .ok (.iconst 1, 1) := by decide +kernel
theorem d22_30 : decode jdk_52_method_4_code 30 = .ok (.ishl, 1) := by decide +kernel
theorem d22_31 : decode jdk_52_method_4_code 31 = .ok (.istore_n 1, 1) := by decide +kernel
theorem d22_32 : decode jdk_52_method_4_code 32 = .ok (.aload_n 0, 1) := by decide +kernel
theorem d22_33 : decode jdk_52_method_4_code 33 = .ok (.iload_n 1, 1) := by decide +kernel
theorem d22_34 : decode jdk_52_method_4_code 34 = .ok (.iinc 1 1, 3) := by decide +kernel
theorem d22_37 : decode jdk_52_method_4_code 37 = .ok (.iload_n 2, 1) := by decide +kernel
theorem d22_38 : decode jdk_52_method_4_code 38 = .ok (.getstatic 59, 3) := by decide +kernel
theorem d22_41 : decode jdk_52_method_4_code 41 = .ok (.ishr, 1) := by decide +kernel
theorem d22_42 : decode jdk_52_method_4_code 42 = .ok (.i2b, 1) := by decide +kernel
theorem d22_43 : decode jdk_52_method_4_code 43 = .ok (.bastore, 1) := by decide +kernel
theorem d22_44 : decode jdk_52_method_4_code 44 = .ok (.aload_n 0, 1) := by decide +kernel
theorem d22_45 : decode jdk_52_method_4_code 45 = .ok (.iload_n 1, 1) := by decide +kernel
theorem d22_46 : decode jdk_52_method_4_code 46 = .ok (.iload_n 2, 1) := by decide +kernel
theorem d22_47 : decode jdk_52_method_4_code 47 = .ok (.getstatic 63, 3) := by decide +kernel
theorem d22_50 : decode jdk_52_method_4_code 50 = .ok (.ishr, 1) := by decide +kernel
theorem d22_51 : decode jdk_52_method_4_code 51 = .ok (.i2b, 1) := by decide +kernel
theorem d22_52 : decode jdk_52_method_4_code 52 = .ok (.bastore, 1) := by decide +kernel
theorem d22_53 : decode jdk_52_method_4_code 53 = .ok (.return_, 1) := by decide +kernel
theorem d21_0 : decode jdk_52_method_3_code 0 = .ok (.iload_n 0, 1) := by decide +kernel
theorem d21_1 : decode jdk_52_method_3_code 1 = .ok (.ifCond .ge 11, 3) := by decide +kernel
theorem d21_12 : decode jdk_52_method_3_code 12 = .ok (.iload_n 0, 1) := by decide +kernel
theorem d21_13 : decode jdk_52_method_3_code 13 = .ok (.ldc 20, 2) := by decide +kernel
theorem d21_15 : decode jdk_52_method_3_code 15 = .ok (.if_icmp .lt 40, 3) := by decide +kernel
theorem d21_55 : decode jdk_52_method_3_code 55 = .ok (.iload_n 0, 1) := by decide +kernel
theorem d21_56 : decode jdk_52_method_3_code 56 = .ok (.iconst 1, 1) := by decide +kernel
theorem d21_57 : decode jdk_52_method_3_code 57 = .ok (.ishl, 1) := by decide +kernel
theorem d21_58 : decode jdk_52_method_3_code 58 = .ok (.ireturn, 1) := by decide +kernel
theorem d17_0 : decode jdk_52_method_15_code 0 = .ok (.iload_n 1, 1) := by decide +kernel
theorem d17_1 : decode jdk_52_method_15_code 1 = .ok (.aload_n 0, 1) := by decide +kernel
theorem d17_2 : decode jdk_52_method_15_code 2 = .ok (.arraylength, 1) := by decide +kernel
theorem d17_3 : decode jdk_52_method_15_code 3 = .ok (.isub, 1) := by decide +kernel
theorem d17_4 : decode jdk_52_method_15_code 4 = .ok (.bipush 31, 2) := by decide +kernel
theorem d17_6 : decode jdk_52_method_15_code 6 = .ok (.iushr, 1) := by decide +kernel
theorem d17_7 : decode jdk_52_method_15_code 7 = .ok (.i2b, 1) := by decide +kernel
theorem d17_8 : decode jdk_52_method_15_code 8 = .ok (.ireturn, 1) := by decide +kernel
theorem d23_0 : decode jdk_52_method_5_code 0 = .ok (.getstatic 44, 3) := by decide +kernel
theorem d23_3 : decode jdk_52_method_5_code 3 = .ok (.ifCond .ne 25, 3) := by decide +kernel
theorem d23_28 : decode jdk_52_method_5_code 28 = .ok (.iload_n 1, 1) := by decide +kernel
theorem d23_29 : decode jdk_52_method_5_code 29 = .ok (.iconst 1, 1) := by decide +kernel
theorem d23_30 : decode jdk_52_method_5_code 30 = .ok (.ishl, 1) := by decide +kernel
theorem d23_31 : decode jdk_52_method_5_code 31 = .ok (.istore_n 1, 1) := by decide +kernel
theorem d23_32 : decode jdk_52_method_5_code 32 = .ok (.aload_n 0, 1) := by decide +kernel
theorem d23_33 : decode jdk_52_method_5_code 33 = .ok (.iload_n 1, 1) := by decide +kernel
theorem d23_34 : decode jdk_52_method_5_code 34 = .ok (.iinc 1 1, 3) := by decide +kernel
theorem d23_37 : decode jdk_52_method_5_code 37 = .ok (.baload, 1) := by decide +kernel
theorem d23_38 : decode jdk_52_method_5_code 38 = .ok (.sipush 255, 3) := by decide +kernel
theorem d23_41 : decode jdk_52_method_5_code 41 = .ok (.iand, 1) := by decide +kernel
theorem d23_42 : decode jdk_52_method_5_code 42 = .ok (.getstatic 59, 3) := by decide +kernel
theorem d23_45 : decode jdk_52_method_5_code 45 = .ok (.ishl, 1) := by decide +kernel
theorem d23_46 : decode jdk_52_method_5_code 46 = .ok (.aload_n 0, 1) := by decide +kernel
theorem d23_47 : decode jdk_52_method_5_code 47 = .ok (.iload_n 1, 1) := by decide +kernel
theorem d23_48 : decode jdk_52_method_5_code 48 = .ok (.baload, 1) := by decide +kernel
theorem d23_49 : decode jdk_52_method_5_code 49 = .ok (.sipush 255, 3) := by decide +kernel
theorem d23_52 : decode jdk_52_method_5_code 52 = .ok (.iand, 1) := by decide +kernel
theorem d23_53 : decode jdk_52_method_5_code 53 = .ok (.getstatic 63, 3) := by decide +kernel
theorem d23_56 : decode jdk_52_method_5_code 56 = .ok (.ishl, 1) := by decide +kernel
theorem d23_57 : decode jdk_52_method_5_code 57 = .ok (.ior, 1) := by decide +kernel
theorem d23_58 : decode jdk_52_method_5_code 58 = .ok (.i2c, 1) := by decide +kernel
theorem d23_59 : decode jdk_52_method_5_code 59 = .ok (.ireturn, 1) := by decide +kernel
theorem d20_0 : decode jdk_52_method_2_code 0 = .ok (.iload_n 0, 1) := by decide +kernel
theorem d20_1 : decode jdk_52_method_2_code 1 = .ok (.invokestatic 11, 3) := by decide +kernel
theorem pd_4 : parseMethodDescriptor "(I)I" = some ⟨[.int], some .int⟩ := by decide +kernel
theorem d20_4 : decode jdk_52_method_2_code 4 = .ok (.newarray .byte, 2) := by decide +kernel
theorem d20_6 : decode jdk_52_method_2_code 6 = .ok (.areturn, 1) := by decide +kernel
theorem d19_0 : decode jdk_52_method_14_code 0 = .ok (.iload_n 2, 1) := by decide +kernel
theorem d19_1 : decode jdk_52_method_14_code 1 = .ok (.invokestatic 107, 3) := by decide +kernel
theorem pd_5 : parseMethodDescriptor "(I)[B" = some ⟨[.int], some (.array .byte)⟩ := by decide +kernel
theorem d19_4 : decode jdk_52_method_14_code 4 = .ok (.astore_n 3, 1) := by decide +kernel
theorem d19_5 : decode jdk_52_method_14_code 5 = .ok (.iconst 0, 1) := by decide +kernel
theorem d19_6 : decode jdk_52_method_14_code 6 = .ok (.istore 4, 2) := by decide +kernel
theorem d19_8 : decode jdk_52_method_14_code 8 = .ok (.iload 4, 2) := by decide +kernel
theorem d19_10 : decode jdk_52_method_14_code 10 = .ok (.iload_n 2, 1) := by decide +kernel
theorem d19_11 : decode jdk_52_method_14_code 11 = .ok (.if_icmp .ge 21, 3) := by decide +kernel
theorem d19_14 : decode jdk_52_method_14_code 14 = .ok (.aload_n 3, 1) := by decide +kernel
theorem d19_15 : decode jdk_52_method_14_code 15 = .ok (.iload 4, 2) := by decide +kernel
theorem d19_17 : decode jdk_52_method_14_code 17 = .ok (.aload_n 0, 1) := by decide +kernel
theorem d19_18 : decode jdk_52_method_14_code 18 = .ok (.iload_n 1, 1) := by decide +kernel
theorem d19_19 : decode jdk_52_method_14_code 19 = .ok (.caload, 1) := by decide +kernel
theorem d19_20 : decode jdk_52_method_14_code 20 = .ok (.invokestatic 111, 3) := by decide +kernel
theorem pd_6 : parseMethodDescriptor "([BII)V" = some ⟨[(.array .byte), .int, .int], none⟩ := by decide +kernel
theorem d19_23 : decode jdk_52_method_14_code 23 = .ok (.iinc 1 1, 3) := by decide +kernel
theorem d19_26 : decode jdk_52_method_14_code 26 = .ok (.iinc 4 1, 3) := by decide +kernel
theorem d19_29 : decode jdk_52_method_14_code 29 = .ok (.goto (-21), 3) := by decide +kernel
theorem d19_32 : decode jdk_52_method_14_code 32 = .ok (.aload_n 3, 1) := by decide +kernel
theorem d19_33 : decode jdk_52_method_14_code 33 = .ok (.areturn, 1) := by decide +kernel
theorem d16_0 : decode jdk_52_method_21_code 0 = .ok (.iconst 0, 1) := by decide +kernel
theorem d16_1 : decode jdk_52_method_21_code 1 = .ok (.istore 5, 2) := by decide +kernel
theorem d16_3 : decode jdk_52_method_21_code 3 = .ok (.iload 5, 2) := by decide +kernel
theorem d16_5 : decode jdk_52_method_21_code 5 = .ok (.iload 4, 2) := by decide +kernel
theorem d16_7 : decode jdk_52_method_21_code 7 = .ok (.if_icmp .ge 37, 3) := by decide +kernel
theorem d16_10 : decode jdk_52_method_21_code 10 = .ok (.aload_n 0, 1) := by decide +kernel
theorem d16_11 : decode jdk_52_method_21_code 11 = .ok (.iload_n 1, 1) := by decide +kernel
theorem d16_12 : decode jdk_52_method_21_code 12 = .ok (.caload, 1) := by decide +kernel
theorem d16_13 : decode jdk_52_method_21_code 13 = .ok (.istore 6, 2) := by decide +kernel
theorem d16_15 : decode jdk_52_method_21_code 15 = .ok (.iload 6, 2) := by decide +kernel
theorem d16_17 : decode jdk_52_method_21_code 17 = .ok (.sipush 255, 3) := by decide +kernel
theorem d16_20 : decode jdk_52_method_21_code 20 = .ok (.if_icmp .le 6, 3) := by decide +kernel
theorem d16_23 : decode jdk_52_method_21_code 23 = .ok (.iload 5, 2) := by decide +kernel
theorem d16_25 : decode jdk_52_method_21_code 25 = .ok (.ireturn, 1) := by decide +kernel
theorem d16_26 : decode jdk_52_method_21_code 26 = .ok (.aload_n 2, 1) := by decide +kernel
theorem d16_27 : decode jdk_52_method_21_code 27 = .ok (.iload_n 3, 1) := by decide +kernel
theorem d16_28 : decode jdk_52_method_21_code 28 = .ok (.iload 6, 2) := by decide +kernel
theorem d16_30 : decode jdk_52_method_21_code 30 = .ok (.i2b, 1) := by decide +kernel
theorem d16_31 : decode jdk_52_method_21_code 31 = .ok (.bastore, 1) := by decide +kernel
theorem d16_32 : decode jdk_52_method_21_code 32 = .ok (.iinc 1 1, 3) := by decide +kernel
theorem d16_35 : decode jdk_52_method_21_code 35 = .ok (.iinc 3 1, 3) := by decide +kernel
theorem d16_38 : decode jdk_52_method_21_code 38 = .ok (.iinc 5 1, 3) := by decide +kernel
theorem d16_41 : decode jdk_52_method_21_code 41 = .ok (.goto (-38), 3) := by decide +kernel
theorem d16_44 : decode jdk_52_method_21_code 44 = .ok (.iload 4, 2) := by decide +kernel
theorem d16_46 : decode jdk_52_method_21_code 46 = .ok (.ireturn, 1) := by decide +kernel
theorem d15_0 : decode jdk_52_method_16_code 0 = .ok (.iload_n 2, 1) := by decide +kernel
theorem d15_1 : decode jdk_52_method_16_code 1 = .ok (.newarray .byte, 2) := by decide +kernel
theorem d15_3 : decode jdk_52_method_16_code 3 = .ok (.astore_n 3, 1) := by decide +kernel
theorem d15_4 : decode jdk_52_method_16_code 4 = .ok (.aload_n 0, 1) := by decide +kernel
theorem d15_5 : decode jdk_52_method_16_code 5 = .ok (.iload_n 1, 1) := by decide +kernel
theorem d15_6 : decode jdk_52_method_16_code 6 = .ok (.aload_n 3, 1) := by decide +kernel
theorem d15_7 : decode jdk_52_method_16_code 7 = .ok (.iconst 0, 1) := by decide +kernel
theorem d15_8 : decode jdk_52_method_16_code 8 = .ok (.iload_n 2, 1) := by decide +kernel
theorem d15_9 : decode jdk_52_method_16_code 9 = .ok (.invokestatic 115, 3) := by decide +kernel
theorem pd_7 : parseMethodDescriptor "([CI[BII)I" = some ⟨[(.array .char), .int, (.array .byte), .int, .int], some .int⟩ := by decide +kernel
theorem d15_12 : decode jdk_52_method_16_code 12 = .ok (.istore 4, 2) := by decide +kernel
theorem d15_14 : decode jdk_52_method_16_code 14 = .ok (.iload 4, 2) := by decide +kernel
theorem d15_16 : decode jdk_52_method_16_code 16 = .ok (.iload_n 2, 1) := by decide +kernel
theorem d15_17 : decode jdk_52_method_16_code 17 = .ok (.if_icmp .eq 40, 3) := by decide +kernel
theorem d15_57 : decode jdk_52_method_16_code 57 = .ok (.aload_n 3, 1) := by decide +kernel
theorem d15_58 : decode jdk_52_method_16_code 58 = .ok (.areturn, 1) := by decide +kernel
theorem d15_20 : decode jdk_52_method_16_code 20 = .ok (.aload_n 0, 1) := by decide +kernel
theorem d15_21 : decode jdk_52_method_16_code 21 = .ok (.iload_n 1, 1) := by decide +kernel
theorem d15_22 : decode jdk_52_method_16_code 22 = .ok (.iload_n 2, 1) := by decide +kernel
theorem d15_23 : decode jdk_52_method_16_code 23 = .ok (.invokestatic 119, 3) := by decide +kernel
theorem pd_8 : parseMethodDescriptor "([CII)[B" = some ⟨[(.array .char), .int, .int], some (.array .byte)⟩ := by decide +kernel
theorem d15_26 : decode jdk_52_method_16_code 26 = .ok (.astore 5, 2) := by decide +kernel
theorem d15_28 : decode jdk_52_method_16_code 28 = .ok (.aload 5, 2) := by decide +kernel
theorem d15_30 : decode jdk_52_method_16_code 30 = .ok (.iload 4, 2) := by decide +kernel
theorem d15_32 : decode jdk_52_method_16_code 32 = .ok (.invokestatic 71, 3) := by decide +kernel
theorem pd_9 : parseMethodDescriptor "([BI)C" = some ⟨[(.array .byte), .int], some .char⟩ := by decide +kernel
theorem d15_35 : decode jdk_52_method_16_code 35 = .ok (.sipush 255, 3) := by decide +kernel
theorem d15_38 : decode jdk_52_method_16_code 38 = .ok (.if_icmp .gt 16, 3) := by decide +kernel
theorem d15_54 : decode jdk_52_method_16_code 54 = .ok (.aload 5, 2) := by decide +kernel
theorem d15_56 : decode jdk_52_method_16_code 56 = .ok (.areturn, 1) := by decide +kernel
theorem d3_27 : decode jdk_42_method_149_code 27 = .ok (.getstatic 38, 3) := by decide +kernel
theorem d3_30 : decode jdk_42_method_149_code 30 = .ok (.ifCond .eq 28, 3) := by decide +kernel
theorem d3_33 : decode jdk_42_method_149_code 33 = .ok (.aload_n 1, 1) := by decide +kernel
theorem d3_34 : decode jdk_42_method_149_code 34 = .ok (.iload_n 2, 1) := by decide +kernel
theorem d3_35 : decode jdk_42_method_149_code 35 = .ok (.iload_n 3, 1) := by decide +kernel
theorem d3_36 : decode jdk_42_method_149_code 36 = .ok (.invokestatic 177, 3) := by decide +kernel
theorem d3_39 : decode jdk_42_method_149_code 39 = .ok (.astore 5, 2) := by decide +kernel
theorem d3_41 : decode jdk_42_method_149_code 41 = .ok (.aload_n 0, 1) := by decide +kernel
theorem d3_42 : decode jdk_42_method_149_code 42 = .ok (.aload 5, 2) := by decide +kernel
theorem d3_44 : decode jdk_42_method_149_code 44 = .ok (.iload_n 3, 1) := by decide +kernel
theorem d3_45 : decode jdk_42_method_149_code 45 = .ok (.invokestatic 47, 3) := by decide +kernel
theorem pd_10 : parseMethodDescriptor "([BI)B" = some ⟨[(.array .byte), .int], some .byte⟩ := by decide +kernel
theorem d3_48 : decode jdk_42_method_149_code 48 = .ok (.putfield 15, 3) := by decide +kernel
theorem d3_51 : decode jdk_42_method_149_code 51 = .ok (.aload_n 0, 1) := by decide +kernel
theorem d3_52 : decode jdk_42_method_149_code 52 = .ok (.aload 5, 2) := by decide +kernel
theorem d3_54 : decode jdk_42_method_149_code 54 = .ok (.putfield 9, 3) := by decide +kernel
theorem d3_57 : decode jdk_42_method_149_code 57 = .ok (.return_, 1) := by decide +kernel
def QX (M : Prop) (h0 : Heap) (n0 : Nat) (v : Option Value) (h : Heap) (L : List Loc) : Prop := ∃ r : Int32, v = some (.int r) ∧ Fr n0 L ∧ h = h0 ∧ ((r < (0 : Int32) ∧ ¬ M) ∨ (¬ (r < (0 : Int32)) ∧ M))
theorem d10_0 : decode jdk_42_method_152_code 0 = .ok (.getstatic 38, 3) := by decide +kernel
theorem d10_3 : decode jdk_42_method_152_code 3 = .ok (.ifCond .eq 10, 3) := by decide +kernel
theorem d10_6 : decode jdk_42_method_152_code 6 = .ok (.aload_n 0, 1) := by decide +kernel
theorem d10_7 : decode jdk_42_method_152_code 7 = .ok (.getfield 15, 3) := by decide +kernel
theorem d10_10 : decode jdk_42_method_152_code 10 = .ok (.goto 4, 3) := by decide +kernel
theorem d10_14 : decode jdk_42_method_152_code 14 = .ok (.ireturn, 1) := by decide +kernel
theorem d8_0 : decode jdk_42_method_154_code 0 = .ok (.getstatic 38, 3) := by decide +kernel
theorem d8_3 : decode jdk_42_method_154_code 3 = .ok (.ifCond .eq 14, 3) := by decide +kernel
theorem d8_6 : decode jdk_42_method_154_code 6 = .ok (.aload_n 0, 1) := by decide +kernel
theorem d8_7 : decode jdk_42_method_154_code 7 = .ok (.getfield 15, 3) := by decide +kernel
theorem d8_10 : decode jdk_42_method_154_code 10 = .ok (.ifCond .ne 7, 3) := by decide +kernel
theorem d8_13 : decode jdk_42_method_154_code 13 = .ok (.iconst 1, 1) := by decide +kernel
theorem d8_14 : decode jdk_42_method_154_code 14 = .ok (.goto 4, 3) := by decide +kernel
theorem d8_18 : decode jdk_42_method_154_code 18 = .ok (.ireturn, 1) := by decide +kernel
theorem d8_17 : decode jdk_42_method_154_code 17 = .ok (.iconst 0, 1) := by decide +kernel
theorem pn_11 : plainName "java/lang/StringLatin1" = true := by first | (simp [plainName, overriddenIn]; done) | decide +kernel
theorem d12_0 : decode jdk_43_method_4_code 0 = .ok (.iload_n 0, 1) := by decide +kernel
theorem d12_1 : decode jdk_43_method_4_code 1 = .ok (.ifCond .lt 14, 3) := by decide +kernel
theorem d12_4 : decode jdk_43_method_4_code 4 = .ok (.iload_n 0, 1) := by decide +kernel
theorem d12_5 : decode jdk_43_method_4_code 5 = .ok (.sipush 255, 3) := by decide +kernel
theorem d12_8 : decode jdk_43_method_4_code 8 = .ok (.if_icmp .gt 7, 3) := by decide +kernel
theorem d12_11 : decode jdk_43_method_4_code 11 = .ok (.iconst 1, 1) := by decide +kernel
theorem d12_12 : decode jdk_43_method_4_code 12 = .ok (.goto 4, 3) := by decide +kernel
theorem d12_16 : decode jdk_43_method_4_code 16 = .ok (.ireturn, 1) := by decide +kernel
theorem d13_0 : decode jdk_29_method_65_code 0 = .ok (.iload_n 0, 1) := by decide +kernel
theorem d13_1 : decode jdk_29_method_65_code 1 = .ok (.iload_n 1, 1) := by decide +kernel
theorem d13_2 : decode jdk_29_method_65_code 2 = .ok (.if_icmp .lt 7, 3) := by decide +kernel
theorem d13_5 : decode jdk_29_method_65_code 5 = .ok (.iload_n 0, 1) := by decide +kernel
theorem d13_6 : decode jdk_29_method_65_code 6 = .ok (.goto 4, 3) := by decide +kernel
theorem d13_10 : decode jdk_29_method_65_code 10 = .ok (.ireturn, 1) := by decide +kernel
theorem d14_0 : decode jdk_29_method_69_code 0 = .ok (.iload_n 0, 1) := by decide +kernel
theorem d14_1 : decode jdk_29_method_69_code 1 = .ok (.iload_n 1, 1) := by decide +kernel
theorem d14_2 : decode jdk_29_method_69_code 2 = .ok (.if_icmp .gt 7, 3) := by decide +kernel
theorem d14_5 : decode jdk_29_method_69_code 5 = .ok (.iload_n 0, 1) := by decide +kernel
theorem d14_6 : decode jdk_29_method_69_code 6 = .ok (.goto 4, 3) := by decide +kernel
theorem d14_10 : decode jdk_29_method_69_code 10 = .ok (.ireturn, 1) := by decide +kernel
theorem d9_0 : decode jdk_42_method_54_code 0 = .ok (.aload_n 0, 1) := by decide +kernel
theorem d9_1 : decode jdk_42_method_54_code 1 = .ok (.getfield 9, 3) := by decide +kernel
theorem d9_4 : decode jdk_42_method_54_code 4 = .ok (.arraylength, 1) := by decide +kernel
theorem d9_5 : decode jdk_42_method_54_code 5 = .ok (.aload_n 0, 1) := by decide +kernel
theorem d9_6 : decode jdk_42_method_54_code 6 = .ok (.invokevirtual 335, 3) := by decide +kernel
theorem pd_12 : parseMethodDescriptor "()B" = some ⟨[], some .byte⟩ := by decide +kernel
theorem d9_9 : decode jdk_42_method_54_code 9 = .ok (.ishr, 1) := by decide +kernel
theorem d9_10 : decode jdk_42_method_54_code 10 = .ok (.ireturn, 1) := by decide +kernel
theorem d27_0 : decode jdk_52_method_6_code 0 = .ok (.aload_n 0, 1) := by decide +kernel
theorem d27_1 : decode jdk_52_method_6_code 1 = .ok (.arraylength, 1) := by decide +kernel
theorem d27_2 : decode jdk_52_method_6_code 2 = .ok (.iconst 1, 1) := by decide +kernel
theorem d27_3 : decode jdk_52_method_6_code 3 = .ok (.ishr, 1) := by decide +kernel
theorem d27_4 : decode jdk_52_method_6_code 4 = .ok (.ireturn, 1) := by decide +kernel
theorem pn_13 : plainName "jdk/internal/util/Preconditions" = true := by first | (simp [plainName, overriddenIn]; done) | decide +kernel
theorem d29_0 : decode jdk_41_method_12_code 0 = .ok (.iload_n 0, 1) := by decide +kernel
theorem d29_1 : decode jdk_41_method_12_code 1 = .ok (.ifCond .lt 13, 3) := by decide +kernel
theorem d29_4 : decode jdk_41_method_12_code 4 = .ok (.iload_n 0, 1) := by decide +kernel
theorem d29_5 : decode jdk_41_method_12_code 5 = .ok (.iload_n 1, 1) := by decide +kernel
theorem d29_6 : decode jdk_41_method_12_code 6 = .ok (.if_icmp .gt 8, 3) := by decide +kernel
theorem d29_9 : decode jdk_41_method_12_code 9 = .ok (.iload_n 1, 1) := by decide +kernel
theorem d29_10 : decode jdk_41_method_12_code 10 = .ok (.iload_n 2, 1) := by decide +kernel
theorem d29_11 : decode jdk_41_method_12_code 11 = .ok (.if_icmp .le 11, 3) := by decide +kernel
theorem d29_22 : decode jdk_41_method_12_code 22 = .ok (.iload_n 0, 1) := by decide +kernel
theorem d29_23 : decode jdk_41_method_12_code 23 = .ok (.ireturn, 1) := by decide +kernel
theorem d28_0 : decode jdk_42_method_158_code 0 = .ok (.iload_n 0, 1) := by decide +kernel
theorem d28_1 : decode jdk_42_method_158_code 1 = .ok (.iload_n 1, 1) := by decide +kernel
theorem d28_2 : decode jdk_42_method_158_code 2 = .ok (.iload_n 2, 1) := by decide +kernel
theorem d28_3 : decode jdk_42_method_158_code 3 = .ok (.getstatic 1053, 3) := by decide +kernel
theorem d28_6 : decode jdk_42_method_158_code 6 = .ok (.invokestatic 1062, 3) := by decide +kernel
theorem pd_14 : parseMethodDescriptor "(IIILjava/util/function/BiFunction;)I" = some ⟨[.int, .int, .int, (.object "java/util/function/BiFunction")], some .int⟩ := by decide +kernel
theorem d28_9 : decode jdk_42_method_158_code 9 = .ok (.pop, 1) := by decide +kernel
theorem d28_10 : decode jdk_42_method_158_code 10 = .ok (.return_, 1) := by decide +kernel
theorem d26_0 : decode jdk_52_method_93_code 0 = .ok (.iload_n 0, 1) := by decide +kernel
theorem d26_1 : decode jdk_52_method_93_code 1 = .ok (.iload_n 1, 1) := by decide +kernel
theorem d26_2 : decode jdk_52_method_93_code 2 = .ok (.aload_n 2, 1) := by decide +kernel
theorem d26_3 : decode jdk_52_method_93_code 3 = .ok (.invokestatic 48, 3) := by decide +kernel
theorem pd_15 : parseMethodDescriptor "([B)I" = some ⟨[(.array .byte)], some .int⟩ := by decide +kernel
theorem d26_6 : decode jdk_52_method_93_code 6 = .ok (.invokestatic 241, 3) := by decide +kernel
theorem pd_16 : parseMethodDescriptor "(III)V" = some ⟨[.int, .int, .int], none⟩ := by decide +kernel
theorem d26_9 : decode jdk_52_method_93_code 9 = .ok (.return_, 1) := by decide +kernel
theorem d11_0 : decode jdk_43_method_22_code 0 = .ok (.iload_n 1, 1) := by decide +kernel
theorem d11_1 : decode jdk_43_method_22_code 1 = .ok (.invokestatic 88, 3) := by decide +kernel
theorem pd_17 : parseMethodDescriptor "(I)Z" = some ⟨[.int], some .boolean⟩ := by decide +kernel
theorem d11_4 : decode jdk_43_method_22_code 4 = .ok (.ifCond .ne 5, 3) := by decide +kernel
theorem d11_9 : decode jdk_43_method_22_code 9 = .ok (.iload_n 2, 1) := by decide +kernel
theorem d11_10 : decode jdk_43_method_22_code 10 = .ok (.iconst 0, 1) := by decide +kernel
theorem d11_11 : decode jdk_43_method_22_code 11 = .ok (.invokestatic 92, 3) := by decide +kernel
theorem pd_18 : parseMethodDescriptor "(II)I" = some ⟨[.int, .int], some .int⟩ := by decide +kernel
theorem d11_14 : decode jdk_43_method_22_code 14 = .ok (.istore_n 2, 1) := by decide +kernel
theorem d11_15 : decode jdk_43_method_22_code 15 = .ok (.iload_n 3, 1) := by decide +kernel
theorem d11_16 : decode jdk_43_method_22_code 16 = .ok (.aload_n 0, 1) := by decide +kernel
theorem d11_17 : decode jdk_43_method_22_code 17 = .ok (.arraylength, 1) := by decide +kernel
theorem d11_18 : decode jdk_43_method_22_code 18 = .ok (.invokestatic 38, 3) := by decide +kernel
theorem d11_21 : decode jdk_43_method_22_code 21 = .ok (.istore_n 3, 1) := by decide +kernel
theorem d11_22 : decode jdk_43_method_22_code 22 = .ok (.iload_n 2, 1) := by decide +kernel
theorem d11_23 : decode jdk_43_method_22_code 23 = .ok (.iload_n 3, 1) := by decide +kernel
theorem d11_24 : decode jdk_43_method_22_code 24 = .ok (.if_icmp .lt 5, 3) := by decide +kernel
theorem d11_29 : decode jdk_43_method_22_code 29 = .ok (.aload_n 0, 1) := by decide +kernel
theorem d11_30 : decode jdk_43_method_22_code 30 = .ok (.iload_n 1, 1) := by decide +kernel
theorem d11_31 : decode jdk_43_method_22_code 31 = .ok (.iload_n 2, 1) := by decide +kernel
theorem d11_32 : decode jdk_43_method_22_code 32 = .ok (.iload_n 3, 1) := by decide +kernel
theorem d11_33 : decode jdk_43_method_22_code 33 = .ok (.invokestatic 95, 3) := by decide +kernel
theorem pd_19 : parseMethodDescriptor "([BIII)I" = some ⟨[(.array .byte), .int, .int, .int], some .int⟩ := by decide +kernel
theorem d11_36 : decode jdk_43_method_22_code 36 = .ok (.ireturn, 1) := by decide +kernel
theorem d11_27 : decode jdk_43_method_22_code 27 = .ok (.iconst (-1), 1) := by decide +kernel
theorem d11_28 : decode jdk_43_method_22_code 28 = .ok (.ireturn, 1) := by decide +kernel
theorem d25_0 : decode jdk_52_method_47_code 0 = .ok (.iload_n 2, 1) := by decide +kernel
theorem d25_1 : decode jdk_52_method_47_code 1 = .ok (.iload_n 3, 1) := by decide +kernel
theorem d25_2 : decode jdk_52_method_47_code 2 = .ok (.aload_n 0, 1) := by decide +kernel
theorem d25_3 : decode jdk_52_method_47_code 3 = .ok (.invokestatic 96, 3) := by decide +kernel
theorem pd_20 : parseMethodDescriptor "(II[B)V" = some ⟨[.int, .int, (.array .byte)], none⟩ := by decide +kernel
theorem d25_6 : decode jdk_52_method_47_code 6 = .ok (.aload_n 0, 1) := by decide +kernel
theorem d25_7 : decode jdk_52_method_47_code 7 = .ok (.iload_n 1, 1) := by decide +kernel
theorem d25_8 : decode jdk_52_method_47_code 8 = .ok (.iload_n 2, 1) := by decide +kernel
theorem d25_9 : decode jdk_52_method_47_code 9 = .ok (.iload_n 3, 1) := by decide +kernel
theorem d25_10 : decode jdk_52_method_47_code 10 = .ok (.invokestatic 244, 3) := by decide +kernel
theorem d25_13 : decode jdk_52_method_47_code 13 = .ok (.ireturn, 1) := by decide +kernel
theorem d24_0 : decode jdk_52_method_40_code 0 = .ok (.iload_n 2, 1) := by decide +kernel
theorem d24_1 : decode jdk_52_method_40_code 1 = .ok (.iconst 0, 1) := by decide +kernel
theorem d24_2 : decode jdk_52_method_40_code 2 = .ok (.invokestatic 224, 3) := by decide +kernel
theorem d24_5 : decode jdk_52_method_40_code 5 = .ok (.istore_n 2, 1) := by decide +kernel
theorem d24_6 : decode jdk_52_method_40_code 6 = .ok (.iload_n 3, 1) := by decide +kernel
theorem d24_7 : decode jdk_52_method_40_code 7 = .ok (.aload_n 0, 1) := by decide +kernel
theorem d24_8 : decode jdk_52_method_40_code 8 = .ok (.arraylength, 1) := by decide +kernel
theorem d24_9 : decode jdk_52_method_40_code 9 = .ok (.iconst 1, 1) := by decide +kernel
theorem d24_10 : decode jdk_52_method_40_code 10 = .ok (.ishr, 1) := by decide +kernel
theorem d24_11 : decode jdk_52_method_40_code 11 = .ok (.invokestatic 183, 3) := by decide +kernel
theorem d24_14 : decode jdk_52_method_40_code 14 = .ok (.istore_n 3, 1) := by decide +kernel
theorem d24_15 : decode jdk_52_method_40_code 15 = .ok (.iload_n 2, 1) := by decide +kernel
theorem d24_16 : decode jdk_52_method_40_code 16 = .ok (.iload_n 3, 1) := by decide +kernel
theorem d24_17 : decode jdk_52_method_40_code 17 = .ok (.if_icmp .lt 5, 3) := by decide +kernel
theorem d24_22 : decode jdk_52_method_40_code 22 = .ok (.iload_n 1, 1) := by decide +kernel
theorem d24_23 : decode jdk_52_method_40_code 23 = .ok (.ldc 227, 2) := by decide +kernel
theorem d24_25 : decode jdk_52_method_40_code 25 = .ok (.if_icmp .ge 11, 3) := by decide +kernel
theorem d24_28 : decode jdk_52_method_40_code 28 = .ok (.aload_n 0, 1) := by decide +kernel
theorem d24_29 : decode jdk_52_method_40_code 29 = .ok (.iload_n 1, 1) := by decide +kernel
theorem d24_30 : decode jdk_52_method_40_code 30 = .ok (.iload_n 2, 1) := by decide +kernel
theorem d24_31 : decode jdk_52_method_40_code 31 = .ok (.iload_n 3, 1) := by decide +kernel
theorem d24_32 : decode jdk_52_method_40_code 32 = .ok (.invokestatic 228, 3) := by decide +kernel
theorem d24_35 : decode jdk_52_method_40_code 35 = .ok (.ireturn, 1) := by decide +kernel
theorem d7_0 : decode jdk_42_method_80_code 0 = .ok (.aload_n 0, 1) := by decide +kernel
theorem d7_1 : decode jdk_42_method_80_code 1 = .ok (.invokevirtual 492, 3) := by decide +kernel
theorem pd_21 : parseMethodDescriptor "()Z" = some ⟨[], some .boolean⟩ := by decide +kernel
theorem d7_4 : decode jdk_42_method_80_code 4 = .ok (.ifCond .eq 19, 3) := by decide +kernel
theorem d7_7 : decode jdk_42_method_80_code 7 = .ok (.aload_n 0, 1) := by decide +kernel
theorem d7_8 : decode jdk_42_method_80_code 8 = .ok (.getfield 9, 3) := by decide +kernel
theorem d7_11 : decode jdk_42_method_80_code 11 = .ok (.iload_n 1, 1) := by decide +kernel
theorem d7_12 : decode jdk_42_method_80_code 12 = .ok (.iload_n 2, 1) := by decide +kernel
theorem d7_13 : decode jdk_42_method_80_code 13 = .ok (.aload_n 0, 1) := by decide +kernel
theorem d7_14 : decode jdk_42_method_80_code 14 = .ok (.invokevirtual 505, 3) := by decide +kernel
theorem pd_22 : parseMethodDescriptor "()I" = some ⟨[], some .int⟩ := by decide +kernel
theorem d7_17 : decode jdk_42_method_80_code 17 = .ok (.invokestatic 637, 3) := by decide +kernel
theorem d7_20 : decode jdk_42_method_80_code 20 = .ok (.goto 16, 3) := by decide +kernel
theorem d7_36 : decode jdk_42_method_80_code 36 = .ok (.ireturn, 1) := by decide +kernel
theorem d7_23 : decode jdk_42_method_80_code 23 = .ok (.aload_n 0, 1) := by decide +kernel
theorem d7_24 : decode jdk_42_method_80_code 24 = .ok (.getfield 9, 3) := by decide +kernel
theorem d7_27 : decode jdk_42_method_80_code 27 = .ok (.iload_n 1, 1) := by decide +kernel
theorem d7_28 : decode jdk_42_method_80_code 28 = .ok (.iload_n 2, 1) := by decide +kernel
theorem d7_29 : decode jdk_42_method_80_code 29 = .ok (.aload_n 0, 1) := by decide +kernel
theorem d7_30 : decode jdk_42_method_80_code 30 = .ok (.invokevirtual 505, 3) := by decide +kernel
theorem d7_33 : decode jdk_42_method_80_code 33 = .ok (.invokestatic 640, 3) := by decide +kernel
theorem d6_0 : decode jdk_42_method_79_code 0 = .ok (.aload_n 0, 1) := by decide +kernel
theorem d6_1 : decode jdk_42_method_79_code 1 = .ok (.iload_n 1, 1) := by decide +kernel
theorem d6_2 : decode jdk_42_method_79_code 2 = .ok (.iconst 0, 1) := by decide +kernel
theorem d6_3 : decode jdk_42_method_79_code 3 = .ok (.invokevirtual 633, 3) := by decide +kernel
theorem d6_6 : decode jdk_42_method_79_code 6 = .ok (.ireturn, 1) := by decide +kernel
theorem pn_23 : plainName "com/example/sakuin/sakuin/engine/Wildcard" = true := by first | (simp [plainName, overriddenIn]; done) | decide +kernel
theorem d5_0 : decode prog_22_method_2_code 0 = .ok (.aload_n 0, 1) := by decide +kernel
theorem d5_1 : decode prog_22_method_2_code 1 = .ok (.bipush 42, 2) := by decide +kernel
theorem d5_3 : decode prog_22_method_2_code 3 = .ok (.invokevirtual 7, 3) := by decide +kernel
theorem d5_6 : decode prog_22_method_2_code 6 = .ok (.ifCond .lt 7, 3) := by decide +kernel
theorem d5_13 : decode prog_22_method_2_code 13 = .ok (.iconst 0, 1) := by decide +kernel
theorem d5_14 : decode prog_22_method_2_code 14 = .ok (.ireturn, 1) := by decide +kernel
theorem d5_9 : decode prog_22_method_2_code 9 = .ok (.iconst 1, 1) := by decide +kernel
theorem d5_10 : decode prog_22_method_2_code 10 = .ok (.goto 4, 3) := by decide +kernel
theorem d18_0 : decode jdk_43_method_23_code 0 = .ok (.iload_n 1, 1) := by decide +kernel
theorem d18_1 : decode jdk_43_method_23_code 1 = .ok (.i2b, 1) := by decide +kernel
theorem d18_2 : decode jdk_43_method_23_code 2 = .ok (.istore 4, 2) := by decide +kernel
theorem d18_4 : decode jdk_43_method_23_code 4 = .ok (.iload_n 2, 1) := by decide +kernel
theorem d18_5 : decode jdk_43_method_23_code 5 = .ok (.istore 5, 2) := by decide +kernel
theorem d18_7 : decode jdk_43_method_23_code 7 = .ok (.iload 5, 2) := by decide +kernel
theorem d18_9 : decode jdk_43_method_23_code 9 = .ok (.iload_n 3, 1) := by decide +kernel
theorem d18_10 : decode jdk_43_method_23_code 10 = .ok (.if_icmp .ge 21, 3) := by decide +kernel
theorem d18_13 : decode jdk_43_method_23_code 13 = .ok (.aload_n 0, 1) := by decide +kernel
theorem d18_14 : decode jdk_43_method_23_code 14 = .ok (.iload 5, 2) := by decide +kernel
theorem d18_16 : decode jdk_43_method_23_code 16 = .ok (.baload, 1) := by decide +kernel
theorem d18_17 : decode jdk_43_method_23_code 17 = .ok (.iload 4, 2) := by decide +kernel
theorem d18_19 : decode jdk_43_method_23_code 19 = .ok (.if_icmp .ne 6, 3) := by decide +kernel
theorem d18_22 : decode jdk_43_method_23_code 22 = .ok (.iload 5, 2) := by decide +kernel
theorem d18_24 : decode jdk_43_method_23_code 24 = .ok (.ireturn, 1) := by decide +kernel
theorem d18_25 : decode jdk_43_method_23_code 25 = .ok (.iinc 5 1, 3) := by decide +kernel
theorem d18_28 : decode jdk_43_method_23_code 28 = .ok (.goto (-21), 3) := by decide +kernel
theorem d18_31 : decode jdk_43_method_23_code 31 = .ok (.iconst (-1), 1) := by decide +kernel
theorem d18_32 : decode jdk_43_method_23_code 32 = .ok (.ireturn, 1) := by decide +kernel
theorem d30_0 : decode jdk_52_method_48_code 0 = .ok (.iload_n 2, 1) := by decide +kernel
theorem d30_1 : decode jdk_52_method_48_code 1 = .ok (.istore 4, 2) := by decide +kernel
theorem d30_3 : decode jdk_52_method_48_code 3 = .ok (.iload 4, 2) := by decide +kernel
theorem d30_5 : decode jdk_52_method_48_code 5 = .ok (.iload_n 3, 1) := by decide +kernel
theorem d30_6 : decode jdk_52_method_48_code 6 = .ok (.if_icmp .ge 22, 3) := by decide +kernel
theorem d30_9 : decode jdk_52_method_48_code 9 = .ok (.aload_n 0, 1) := by decide +kernel
theorem d30_10 : decode jdk_52_method_48_code 10 = .ok (.iload 4, 2) := by decide +kernel
theorem d30_12 : decode jdk_52_method_48_code 12 = .ok (.invokestatic 71, 3) := by decide +kernel
theorem d30_15 : decode jdk_52_method_48_code 15 = .ok (.iload_n 1, 1) := by decide +kernel
theorem d30_16 : decode jdk_52_method_48_code 16 = .ok (.if_icmp .ne 6, 3) := by decide +kernel
theorem d30_19 : decode jdk_52_method_48_code 19 = .ok (.iload 4, 2) := by decide +kernel
theorem d30_21 : decode jdk_52_method_48_code 21 = .ok (.ireturn, 1) := by decide +kernel
theorem d30_22 : decode jdk_52_method_48_code 22 = .ok (.iinc 4 1, 3) := by decide +kernel
theorem d30_25 : decode jdk_52_method_48_code 25 = .ok (.goto (-22), 3) := by decide +kernel
theorem d30_28 : decode jdk_52_method_48_code 28 = .ok (.iconst (-1), 1) := by decide +kernel
theorem d30_29 : decode jdk_52_method_48_code 29 = .ok (.ireturn, 1) := by decide +kernel
theorem pn_24 : plainName "com/example/sakuin/sakuin/engine/WildcardIsInPinLaw" = true := by first | (simp [plainName, overriddenIn]; done) | decide +kernel
theorem d1_0 : decode method_2_code 0 = .ok (.iload_n 0, 1) := by decide +kernel
theorem d1_1 : decode method_2_code 1 = .ok (.iconst 1, 1) := by decide +kernel
theorem d1_2 : decode method_2_code 2 = .ok (.iand, 1) := by decide +kernel
theorem d1_3 : decode method_2_code 3 = .ok (.ifCond .ne 6, 3) := by decide +kernel
theorem d1_6 : decode method_2_code 6 = .ok (.bipush 42, 2) := by decide +kernel
theorem d1_8 : decode method_2_code 8 = .ok (.ireturn, 1) := by decide +kernel
theorem d1_9 : decode method_2_code 9 = .ok (.iload_n 0, 1) := by decide +kernel
theorem d1_10 : decode method_2_code 10 = .ok (.iconst 1, 1) := by decide +kernel
theorem d1_11 : decode method_2_code 11 = .ok (.iushr, 1) := by decide +kernel
theorem d1_12 : decode method_2_code 12 = .ok (.ldc 7, 2) := by decide +kernel
theorem d1_14 : decode method_2_code 14 = .ok (.iand, 1) := by decide +kernel
theorem d1_15 : decode method_2_code 15 = .ok (.i2c, 1) := by decide +kernel
theorem d1_16 : decode method_2_code 16 = .ok (.ireturn, 1) := by decide +kernel
theorem pd_25 : parseMethodDescriptor "(I)C" = some ⟨[.int], some .char⟩ := by decide +kernel
theorem pd_26 : parseMethodDescriptor "([C)V" = some ⟨[(.array .char)], none⟩ := by decide +kernel
theorem pd_27 : parseMethodDescriptor "(Ljava/lang/String;)Z" = some ⟨[(.object "java/lang/String")], some .boolean⟩ := by decide +kernel
abbrev fr_ini4 (m : MethodId) (a1 : Addr) (a2 : Addr) (pc : Nat)  (st : List Value) : JFrame := mkF m pc #[vR a1, vR a2, vI 0, vI 0, .val .null, .unset] st
def Q_ini4 (Z : State) (a1 : Addr) (a2 : Addr) (c0 : Value) (h0 : Heap) (n0 : Nat) (v : Option Value) (h : Heap) (L : List Loc) : Prop := v = none ∧ Fr n0 L ∧ Keep h0 h [a1] ∧ Exa Z h a1 "java/lang/String" ∧ Fld Z h a1 "java/lang/String" "coder" "B" (iV 0) ∧ ∃ (t : Addr) (kb : ClassId), Fld Z h a1 "java/lang/String" "value" "[B" (.ref t) ∧ Arv Z h t kb .byte (0 : Int32) [] (iV 0)
theorem ef_ini4 (m : MethodId) (x0 : Addr) (x1 : Addr) (x2 : Int32) (x3 : Int32)  : entryFrame m #[(.ref x0), (.ref x1), (.int x2), (.int x3), .null] 6 = mkF m 0 #[vR x0, vR x1, vI x2, vI x3, .val .null, .unset] [] := by first | (simp [entryFrame, mkF, argsToLocals, Value.category]; done) | rfl
set_option maxRecDepth 65536 in
set_option maxHeartbeats 40000000 in
theorem c_ini4 (l : Launch) (Z : State) (a0 : Array Value) (hw : ∀ d ∈ tables_1, d.before a0 Z = true) (ws : List Jvm.Cond) (a1 : Addr) (a2 : Addr) (c0 : Value) (h0 : Heap) (n0 : Nat) (Z0 : n0 ≤ h0.size) (E1 : Exa Z h0 a1 "java/lang/String") (F1 : Fld Z h0 a1 "java/lang/String" "value" "[B" .null) (F2 : Fld Z h0 a1 "java/lang/String" "coder" "B" c0) (g1 : n0 ≤ a1) :
  MetFree l yM0 (head1 (Jvm.Cond.code yM0 jdk_42_method_149_code 6 none :: ws) ({ frames := 1, cells := 4, slots := 8, locals := 12 } : Room)) (fun a U => a = #[(.ref a1), (.ref a2), (iV 0), (iV 0), .null] ∧ Z.Warmed39 U.vm ∧ U.heap = h0 ∧ CHv Z ownEL U.vm h0) (fun _ _ _ _ _ => True) (fun _ U o U' => ∃ v L, o = .returned v ∧ (Q_ini4 Z a1 a2 c0 h0 n0) v U'.heap L ∧ CHr Z ownEL U.vm U.heap U'.vm U'.heap ∧ ReturnedEndW U o U' L ({ frames := 1, cells := 4, slots := 8, locals := 12 } : Room).cells ({ frames := 1, cells := 4, slots := 8, locals := 12 } : Room).slots) := by
 refine MetFree.of_bodySF (plainFor_of_name pn_1) hisR ?_
 intro p e s m args below meth c s₁ Bd hml0 hP hK
 obtain ⟨rfl, hZ, hHp, hCH⟩ := hP
 have hx := Bd.exec
 have D := fun {pc : Nat} {r} (h : decode _ pc = r) => hb Bd.bytes h
 have hml : c.maxLocals = 6 := hml0
 have hown : s.vm.findClass "java/lang/String" = some m.cls := findClass_of_methodNamed Bd.named
 have hnm := (name_of_methodNamed Bd.named Bd.method).1
 have X0 : Stand p l e ({ frames := 1, cells := 4, slots := 8, locals := 12 } : Room) (s.setVm s.vm) m #[(.ref a1), (.ref a2), (iV 0), (iV 0), .null] below meth c s₁ [] 0 0 := Stand.of_body Bd
 have e0 : s₁.heap = h0 := by rw [← hHp, Bd.state]; rfl
 have N0 := Fr.nil n0
 refine ownOutH hHp (P := (Q_ini4 Z a1 a2 c0 h0 n0)) ?_
 refine ownBy (A := s₁.setTop (mkF m 0 #[vR a1, vR a2, vI 0, vI 0, .val .null, .unset] [])) (fun t k => castTop (ef_ini4 m a1 a2 (0 : Int32) (0 : Int32)) k) ?_
 have hS0 : s.Since s.vm h0.size := own_since
 have hEL := own_EW hw
 have R0 := CHr.refl hCH
 have wS := own_wS hw
 have sfa1 : Safe Z ownEL s.vm h0 a1 := own_safe_blank hZ.alike E1 F1
 refine ownBy (A := s₁.setTop (fr_ini4 m a1 a2 1  [(.ref a1)])) (fun t kt => ?_) ?_
 ·refine XS.aloadN X0.here hx rfl (D d3_0) rfl rfl ?_
  exact kt
 obtain ⟨T21, X21, e21, st21⟩ := initO X0 hx hZ hown (Wd17 hw) (Wd18 hw) (Wd19 hw) e0 (g := (fr_ini4 m a1 a2 1  [(.ref a1)])) rfl (by rw [hml]; rfl) rfl (D d3_1) (by decide) (W := 0) (by show 2 * 0 + _ ≤ _; exact Nat.le_of_eq rfl) (by decide)
 refine ownBy st21 ?_
 clear st21
 show ownG p.tables e below _ (T21.setTop (fr_ini4 m a1 a2 4  []))
 refine ownBy (A := T21.setTop (fr_ini4 m a1 a2 9  [(.ref a1)])) (fun t kt => ?_) ?_
 ·refine XS.iloadN X21.here hx rfl (D d3_4) rfl ?_
  refine XS.ifNo X21.here hx rfl (D d3_5) rfl ((if0 _ _).trans (teq ((by decide) : (0 : Int32) = (0 : Int32))).2) ?_
  refine XS.aloadN X21.here hx rfl (D d3_8) rfl rfl ?_
  exact kt
 obtain ⟨a22, T22, h22, k22, b22, kb22, X22, e22, E22, hS22, hk22, hZ22, hown22, A22, C22, V22, Ab22, -, -, hC22, Lt22, hne22, st22⟩ := ldcCH (text := "") X21 hx hZ hown (Wd20 hw) wS e21 hS0 (Nat.le_refl _) hEL (by simp [ownEL]) R0.1 (vs := []) (z := (0 : Int32)) ⟨by decide, by decide⟩ (by decide) rfl (g := (fr_ini4 m a1 a2 9  [(.ref a1)])) rfl (D d3_9) (n := 0) (by decide) (by decide) (by decide) (by decide)
 have R24 := R0.trans hC22
 have sf25 := CHr.safe hC22 E1.lt sfa1
 have ne26 := hne22 a1 sf25
 refine ownBy st22 ?_
 clear st22
 show ownG p.tables e below _ (T22.setTop (fr_ini4 m a1 a2 11  [(.ref a22), (.ref a1)]))
 refine own_getF X22 hx hZ22 hown22 (host := "") (Or.inl (Wd26 hw)) Via.refl e22 V22 (D d3_11) (fun T27 X27 e27 => ?_)
 have f29 := (F1.ext E22)
 have f30 := (E1.ext E22)
 obtain ⟨T28, h28, X28, e28, W28, st28⟩ := putF X27 hx hZ22 hown22 (host := "") (Or.inl (Wd26 hw)) Via.refl e27 f29 f30 (Or.inr ⟨(Wd22 hw), rfl, hnm⟩) (Wd8 hw) (ty := (.array .byte)) (by decide) rfl rfl (g := (fr_ini4 m a1 a2 14  [(.ref b22), (.ref a1)])) rfl rfl (D d3_14)
 have F31 := f29.same W28
 have N32 := Fr.snoc X28 N0 g1
 have R33 := R24.trans (CHr.wr W28 sf25 R24.1)
 have sf34 := Safe.wr W28 sf25 R24.1 sf25
 obtain ⟨Lh35, Xh35, Nh35⟩ := oHd 2 4 X28 N32 rfl rfl
 refine ownBy st28 ?_
 clear st28
 show ownG p.tables e below _ (T28.setTop (fr_ini4 m a1 a2 17  []))
 refine ownBy (A := T28.setTop (fr_ini4 m a1 a2 18  [(.ref a1)])) (fun t kt => ?_) ?_
 ·refine XS.aloadN Xh35.here hx rfl (D d3_17) rfl rfl ?_
  exact kt
 obtain ⟨a36, T36, h36, k36, b36, kb36, X36, e36, E36, hS36, hk36, hZ36, hown36, A36, C36, V36, Ab36, -, -, hC36, Lt36, hne36, st36⟩ := ldcCH (text := "") Xh35 hx hZ22 hown22 (Wd20 hw) wS e28 hS22 (Nat.le_trans hk22 (Keep.of_wr W28).1) hEL (by simp [ownEL]) R33.1 (vs := []) (z := (0 : Int32)) ⟨by decide, by decide⟩ (by decide) rfl (g := (fr_ini4 m a1 a2 18  [(.ref a1)])) rfl (D d3_18) (n := 0) (by decide) (by decide) (by decide) (by decide)
 have R38 := R33.trans hC36
 have f40 := (f30.wr W28)
 have sf39 := CHr.safe hC36 f40.lt sf34
 have ne41 := hne36 a1 sf39
 refine ownBy st36 ?_
 clear st36
 show ownG p.tables e below _ (T36.setTop (fr_ini4 m a1 a2 20  [(.ref a36), (.ref a1)]))
 refine own_getF X36 hx hZ36 hown36 (host := "") (Or.inl (Wd27 hw)) Via.refl e36 C36 (D d3_20) (fun T42 X42 e42 => ?_)
 have f44 := (((F2.ext E22).other W28 (Or.inr (slot_ne (Or.inr (Wd23 hw)) (Or.inr (Wd22 hw)) (by decide) (t := .byte) (t' := (.array .byte)) (by decide) (by decide)))).ext E36)
 have f45 := (f40.ext E36)
 obtain ⟨T43, h43, X43, e43, W43, st43⟩ := putFN X42 hx hZ36 hown36 (Wd27 hw) Via.refl e42 f44 f45 (Or.inr ⟨(Wd23 hw), rfl, hnm⟩) (Wd8 hw) (ty := .byte) (v' := (iV 0)) (by decide) rfl (fits_nar_byte (0 : Int32)) (g := (fr_ini4 m a1 a2 23  [(iV 0), (.ref a1)])) rfl rfl (D d3_23)
 have F46 := f44.same W43
 have N47 := Fr.snoc X43 Nh35 g1
 have R48 := R38.trans (CHr.wr W43 sf39 R38.1)
 have sf49 := Safe.wr W43 sf39 R38.1 sf39
 obtain ⟨Lh50, Xh50, Nh50⟩ := oHd 4 8 X43 N47 rfl rfl
 refine ownBy st43 ?_
 clear st43
 show ownG p.tables e below _ (T43.setTop (fr_ini4 m a1 a2 26  []))
 have f51 := (((((Keep.refl h0 [a1]).ext E22).wr W28 (Or.inl (List.mem_of_getElem? (i := 0) rfl))).ext E36).wr W43 (Or.inl (List.mem_of_getElem? (i := 0) rfl)))
 have f52 := (f45.wr W43)
 have f53 := ((F31.ext E36).other W43 (Or.inr (slot_ne (Or.inr (Wd22 hw)) (Or.inr (Wd23 hw)) (by decide) (t := (.array .byte)) (t' := .byte) (by decide) (by decide))))
 have f54 := (((Ab22.other W28 (Ne.symm ne26.2)).ext E36).other W43 (Ne.symm ne26.2))
 refine ownRetH Xh50 hS36 (by rw [e43]; exact (Nat.le_trans hk36 (Keep.of_wr W43).1)) Bd.notSynchronized (v := none) (fun _ => rfl) ?_ (R48.trans ((by rw [e43]; exact CHv.at Xh50 hZ36 hEL R48.1))) (oLe rfl) (oLe rfl) (fun fs hr => Xh50.returnOut hx Bd.returns (D d3_26) hr)
 show (Q_ini4 Z a1 a2 c0 h0 n0) (none) T43.heap _
 rw [e43]
 exact ⟨rfl, Nh50, f51, f52, F46, b22, kb22, f53, f54⟩
abbrev fr_ini0 (m : MethodId) (a1 : Addr) (a2 : Addr) (pc : Nat)  (st : List Value) : JFrame := mkF m pc #[vR a1, vR a2] st
def Q_ini0 (Z : State) (a1 : Addr) (a2 : Addr) (c0 : Value) (kC : ClassId) (h0 : Heap) (n0 : Nat) (v : Option Value) (h : Heap) (L : List Loc) : Prop := v = none ∧ Fr n0 L ∧ Keep h0 h [a1] ∧ Exa Z h a1 "java/lang/String" ∧ Fld Z h a1 "java/lang/String" "coder" "B" (iV 0) ∧ ∃ (t : Addr) (kb : ClassId), Fld Z h a1 "java/lang/String" "value" "[B" (.ref t) ∧ Arv Z h t kb .byte (0 : Int32) [] (iV 0)
theorem ef_ini0 (m : MethodId) (x0 : Addr) (x1 : Addr)  : entryFrame m #[(.ref x0), (.ref x1)] 2 = mkF m 0 #[vR x0, vR x1] [] := by first | (simp [entryFrame, mkF, argsToLocals, Value.category]; done) | rfl
set_option maxRecDepth 65536 in
set_option maxHeartbeats 40000000 in
theorem c_ini0 (l : Launch) (Z : State) (a0 : Array Value) (hw : ∀ d ∈ tables_1, d.before a0 Z = true) (ws : List Jvm.Cond) (a1 : Addr) (a2 : Addr) (c0 : Value) (kC : ClassId) (h0 : Heap) (n0 : Nat) (Z0 : n0 ≤ h0.size) (E1 : Exa Z h0 a1 "java/lang/String") (F1 : Fld Z h0 a1 "java/lang/String" "value" "[B" .null) (F2 : Fld Z h0 a1 "java/lang/String" "coder" "B" c0) (g1 : n0 ≤ a1) (V1 : Arv Z h0 a2 kC .char (0 : Int32) [] (iV 0)) (ne1 : a1 ≠ a2) :
  MetFree l yM1 (head1 (Jvm.Cond.code yM1 jdk_42_method_3_code 2 none :: ws) ({ frames := 2, cells := 4, slots := 8, locals := 29 } : Room)) (fun a U => a = #[(.ref a1), (.ref a2)] ∧ Z.Warmed39 U.vm ∧ U.heap = h0 ∧ CHv Z ownEL U.vm h0) (fun _ _ _ _ _ => True) (fun _ U o U' => ∃ v L, o = .returned v ∧ (Q_ini0 Z a1 a2 c0 kC h0 n0) v U'.heap L ∧ CHr Z ownEL U.vm U.heap U'.vm U'.heap ∧ ReturnedEndW U o U' L ({ frames := 2, cells := 4, slots := 8, locals := 29 } : Room).cells ({ frames := 2, cells := 4, slots := 8, locals := 29 } : Room).slots) := by
 refine MetFree.of_bodySF (plainFor_of_name pn_1) hisR ?_
 intro p e s m args below meth c s₁ Bd hml0 hP hK
 obtain ⟨rfl, hZ, hHp, hCH⟩ := hP
 have hx := Bd.exec
 have D := fun {pc : Nat} {r} (h : decode _ pc = r) => hb Bd.bytes h
 have hml : c.maxLocals = 2 := hml0
 have hown : s.vm.findClass "java/lang/String" = some m.cls := findClass_of_methodNamed Bd.named
 have hnm := (name_of_methodNamed Bd.named Bd.method).1
 have X0 : Stand p l e ({ frames := 2, cells := 4, slots := 8, locals := 29 } : Room) (s.setVm s.vm) m #[(.ref a1), (.ref a2)] below meth c s₁ [] 0 0 := Stand.of_body Bd
 have e0 : s₁.heap = h0 := by rw [← hHp, Bd.state]; rfl
 have N0 := Fr.nil n0
 refine ownOutH hHp (P := (Q_ini0 Z a1 a2 c0 kC h0 n0)) ?_
 refine ownBy (A := s₁.setTop (mkF m 0 #[vR a1, vR a2] [])) (fun t k => castTop (ef_ini0 m a1 a2) k) ?_
 have hS0 : s.Since s.vm h0.size := own_since
 have hEL := own_EW hw
 have R0 := CHr.refl hCH
 have wS := own_wS hw
 have sfa1 : Safe Z ownEL s.vm h0 a1 := own_safe_blank hZ.alike E1 F1
 refine ownBy (A := s₁.setTop (fr_ini0 m a1 a2 4  [(.ref a2), (iV 0), (.ref a2), (.ref a1)])) (fun t kt => ?_) ?_
 ·refine XS.aloadN X0.here hx rfl (D d2_0) rfl rfl ?_
  refine XS.aloadN X0.here hx rfl (D d2_1) rfl rfl ?_
  refine XS.iconst X0.here hx rfl (D d2_2) ?_
  refine XS.aloadN X0.here hx rfl (D d2_3) rfl rfl ?_
  exact kt
 obtain ⟨cl21, Ar21, -, S21, N21, -, -⟩ := id V1
 have st21 := X0.arraylength hx (by rw [e0]; exact Ar21.1) (State.isArrayOf_alike hZ.alike Ar21.2.1) (g := (fr_ini0 m a1 a2 4  [(.ref a2), (iV 0), (.ref a2), (.ref a1)])) rfl rfl (D d2_4)
 rw [len_of S21 N21] at st21
 refine ownBy st21 ?_
 show ownG p.tables e below _ (s₁.setTop (fr_ini0 m a1 a2 5  [(iV 0), (iV 0), (.ref a2), (.ref a1)]))
 refine ownBy (A := s₁.setTop (fr_ini0 m a1 a2 6  [.null, (iV 0), (iV 0), (.ref a2), (.ref a1)])) (fun t kt => ?_) ?_
 ·refine XS.aconstNull X0.here hx rfl (D d2_5) ?_
  exact kt
 obtain ⟨vv22, _, ⟨T22, L22, k22, n22⟩, -, X22, hS22, hg22, ⟨Lc22, hQ22, l22, y22, z22, hC22⟩, st22⟩ := X0.specialBackS hx (y := yM0) rfl hown (mvT hZ (Wd13 hw)) (mvT hZ (Wd14 hw)) (mvT hZ (Wd16 hw)) (by decide) (backOfSH (W := 0) (s := s) (EL := ownEL) (c_ini4 l Z a0 hw [] a1 a2 _ h0 n0 Z0 E1 F1 F2 g1) hZ (Wd16 hw) (Wd9 hw) (by decide) (by decide) hEL R0.1) (g := (fr_ini0 m a1 a2 6  [.null, (iV 0), (iV 0), (.ref a2), (.ref a1)])) rfl (by rw [hml]; rfl) (Steps.refl _) (a := a1) (argsL := [(.ref a2), (iV 0), (iV 0), .null]) (rest := []) (lenOf pd_2 rfl) rfl (by show 2 * 0 + _ ≤ _; exact Nat.le_of_eq rfl) (D d2_6) (fun _ _ => ⟨rfl, e0, (by decide : 0 + 4 ≤ _), (by decide : 0 + 8 ≤ _)⟩)
 dsimp only [Pt.U, Pt.locs, Pt.cells, Pt.slots] at X22 l22 y22 z22 st22 hQ22 hS22 hg22 hC22
 subst l22 y22 z22
 obtain ⟨rfl, Nq22, Kq22, Eq22, Cq22, t22, kb22, Vq22, Aq22⟩ := hQ22
 have N23 := Fr.app N0 Nq22
 have R25 := R0.trans hC22
 have sf26 := CHr.safe hC22 E1.lt sfa1
 obtain ⟨XR27, hSR27, hZ27, hown27⟩ := rebS hS0 (by rw [e0]; exact (Nat.le_refl _)) X22 hS22 hg22 hZ hown
 obtain ⟨Lh28, Xh28, Nh28⟩ := oHd 4 8 XR27 N23 rfl rfl
 refine ownSt st22 ?_
 clear st22
 show ownG p.tables e below _ (T22.setTop (fr_ini0 m a1 a2 9  []))
 have f29 := ((Keep.refl h0 [a1]).trans Kq22 (allS (Or.inl (List.mem_of_getElem? (i := 0) rfl)) all0))
 have f30 := (E1.keep Kq22)
 refine ownRetH Xh28 hSR27 (Nat.le_refl _) Bd.notSynchronized (v := none) (fun _ => rfl) ?_ (R25.trans (CHv.at Xh28 hZ27 hEL R25.1)) (oLe rfl) (oLe rfl) (fun fs hr => Xh28.returnOut hx Bd.returns (D d2_9) hr)
 show (Q_ini0 Z a1 a2 c0 kC h0 n0) (none) T22.heap _
 exact ⟨rfl, Nh28, f29, f30, Cq22, t22, kb22, Vq22, Aq22⟩
abbrev fr_put (m : MethodId) (ta : Addr) (cc : Int32) (pc : Nat) (x1_ : Slot) (st : List Value) : JFrame := mkF m pc #[vR ta, x1_, vI cc] st
def Q_put (Z : State) (ta : Addr) (kb : ClassId) (z : Int32) (vs : List Value) (i : Int32) (cc : Int32) (k : Nat) (h0 : Heap) (n0 : Nat) (v : Option Value) (h : Heap) (L : List Loc) : Prop := v = none ∧ Fr n0 L ∧ Keep h0 h [ta] ∧ Arv Z h ta kb .byte z ((vs.set k (.int (oW cc))).set (k + 1) (.int (oH cc))) (iV 0)
theorem ef_put (m : MethodId) (x0 : Addr) (x1 : Int32) (x2 : Int32)  : entryFrame m #[(.ref x0), (.int x1), (.int x2)] 3 = mkF m 0 #[vR x0, vI x1, vI x2] [] := by first | (simp [entryFrame, mkF, argsToLocals, Value.category]; done) | rfl
set_option maxRecDepth 65536 in
set_option maxHeartbeats 40000000 in
theorem c_put (l : Launch) (Z : State) (a0 : Array Value) (hw : ∀ d ∈ tables_1, d.before a0 Z = true) (ws : List Jvm.Cond) (ta : Addr) (kb : ClassId) (z : Int32) (vs : List Value) (i : Int32) (cc : Int32) (k : Nat) (h0 : Heap) (n0 : Nat) (Z0 : n0 ≤ h0.size) (At : Arv Z h0 ta kb .byte z vs (iV 0)) (gt : n0 ≤ ta) (q0 : ¬ (i <<< ((1 : Int32) &&& 31)) < 0 ∧ (i <<< ((1 : Int32) &&& 31)) < z) (q1 : ¬ ((i <<< ((1 : Int32) &&& 31)) + (1 : Int32)) < 0 ∧ ((i <<< ((1 : Int32) &&& 31)) + (1 : Int32)) < z) (k0 : (i <<< ((1 : Int32) &&& 31)).toNatClampNeg = k) (k1 : ((i <<< ((1 : Int32) &&& 31)) + (1 : Int32)).toNatClampNeg = k + 1) (hl : k + 1 < vs.length) (SA : Sta Z Z.heap "java/lang/StringUTF16" "$assertionsDisabled" "Z" (iV 1)) (SHI : Sta Z Z.heap "java/lang/StringUTF16" "HI_BYTE_SHIFT" "I" (iV 0)) (SLO : Sta Z Z.heap "java/lang/StringUTF16" "LO_BYTE_SHIFT" "I" (iV 8)) (X00 : Old Z n0 h0) :
  MetFree l yM2 (head1 (Jvm.Cond.code yM2 jdk_52_method_4_code 3 none :: ws) ({ frames := 0, cells := 0, slots := 0, locals := 0 } : Room)) (fun a U => a = #[(.ref ta), (.int i), (.int cc)] ∧ Z.Warmed39 U.vm ∧ U.heap = h0) (fun _ _ _ _ _ => True) (fun _ U o U' => ∃ v L, o = .returned v ∧ (Q_put Z ta kb z vs i cc k h0 n0) v U'.heap L ∧ FrameEnd U o U' L ({ frames := 0, cells := 0, slots := 0, locals := 0 } : Room).cells ({ frames := 0, cells := 0, slots := 0, locals := 0 } : Room).slots) := by
 refine MetFree.of_bodySF (plainFor_of_name pn_3) hisR ?_
 intro p e s m args below meth c s₁ Bd hml0 hP hK
 obtain ⟨rfl, hZ, hHp⟩ := hP
 have hx := Bd.exec
 have D := fun {pc : Nat} {r} (h : decode _ pc = r) => hb Bd.bytes h
 have hml : c.maxLocals = 3 := hml0
 have hown : s.vm.findClass "java/lang/StringUTF16" = some m.cls := findClass_of_methodNamed Bd.named
 have hnm := (name_of_methodNamed Bd.named Bd.method).1
 have X0 : Stand p l e ({ frames := 0, cells := 0, slots := 0, locals := 0 } : Room) s m #[(.ref ta), (.int i), (.int cc)] below meth c s₁ [] 0 0 := Stand.of_body Bd
 have e0 : s₁.heap = h0 := by rw [← hHp, Bd.state]; rfl
 have N0 := Fr.nil n0
 refine ownOut (P := (Q_put Z ta kb z vs i cc k h0 n0)) ?_
 refine ownBy (A := s₁.setTop (mkF m 0 #[vR ta, vI i, vI cc] [])) (fun t k => castTop (ef_put m ta i cc) k) ?_
 obtain ⟨T21, X21, e21, st21⟩ := getS2 X0 hx hZ hown (host := "") (Or.inl (Wd98 hw)) Via.refl e0 (SA.ext X00.2) (g := (fr_put m ta cc 0 (vI i) [])) rfl (D d22_0)
 refine ownBy st21 ?_
 clear st21
 show ownG p.tables e below _ (T21.setTop (fr_put m ta cc 3 (vI i) [(iV 1)]))
 refine ownBy (A := T21.setTop (fr_put m ta cc 38 (.val (.int ((i <<< ((1 : Int32) &&& 31)) + (1 : Int32)))) [(.int cc), (.int (i <<< ((1 : Int32) &&& 31))), (.ref ta)])) (fun t kt => ?_) ?_
 ·refine XS.ifYes X21.here hx rfl (pc0 := 3) (pc' := 28) rfl (D d22_3) rfl ((if0 _ _).trans (feq ((by decide) : ¬ ((1 : Int32) = (0 : Int32)))).2) (by decide) (by decide) ?_
  refine XS.iloadN X21.here hx rfl (D d22_28) rfl ?_
  refine XS.iconst X21.here hx rfl (D d22_29) ?_
  refine XS.ishl X21.here hx rfl (D d22_30) rfl ?_
  show Steps p.tables e below (T21.setTop (fr_put m ta cc 31 (vI i) [(.int (i <<< ((1 : Int32) &&& 31)))])) t
  refine XS.istoreN X21.here hx rfl (D d22_31) rfl (l' := #[vR ta, .val (.int (i <<< ((1 : Int32) &&& 31))), vI cc]) rfl ?_
  refine XS.aloadN X21.here hx rfl (D d22_32) rfl rfl ?_
  refine XS.iloadN X21.here hx rfl (D d22_33) rfl ?_
  refine XS.iinc X21.here hx rfl (D d22_34) rfl (l' := #[vR ta, .val (.int ((i <<< ((1 : Int32) &&& 31)) + (1 : Int32))), vI cc]) rfl ?_
  show Steps p.tables e below (T21.setTop (fr_put m ta cc 37 (.val (.int ((i <<< ((1 : Int32) &&& 31)) + (1 : Int32)))) [(.int (i <<< ((1 : Int32) &&& 31))), (.ref ta)])) t
  refine XS.iloadN X21.here hx rfl (D d22_37) rfl ?_
  exact kt
 obtain ⟨T22, X22, e22, st22⟩ := getS2 X21 hx hZ hown (host := "") (Or.inl (Wd99 hw)) Via.refl e21 (SHI.ext X00.2) (g := (fr_put m ta cc 38 (.val (.int ((i <<< ((1 : Int32) &&& 31)) + (1 : Int32)))) [(.int cc), (.int (i <<< ((1 : Int32) &&& 31))), (.ref ta)])) rfl (D d22_38)
 refine ownBy st22 ?_
 clear st22
 show ownG p.tables e below _ (T22.setTop (fr_put m ta cc 41 (.val (.int ((i <<< ((1 : Int32) &&& 31)) + (1 : Int32)))) [(iV 0), (.int cc), (.int (i <<< ((1 : Int32) &&& 31))), (.ref ta)]))
 refine ownBy (A := T22.setTop (fr_put m ta cc 43 (.val (.int ((i <<< ((1 : Int32) &&& 31)) + (1 : Int32)))) [(.int ((cc >>> ((0 : Int32) &&& 31)).toInt8.toInt32)), (.int (i <<< ((1 : Int32) &&& 31))), (.ref ta)])) (fun t kt => ?_) ?_
 ·refine XS.ishr X22.here hx rfl (D d22_41) rfl ?_
  refine XS.i2b X22.here hx rfl (D d22_42) rfl ?_
  exact kt
 obtain ⟨cl23, Ar23, q23, S23, N23, H23, G23⟩ := id At
 have hin23 : ¬ ((i <<< ((1 : Int32) &&& 31)) < 0 ∨ cl23.slots.size ≤ ((i <<< ((1 : Int32) &&& 31))).toNatClampNeg) := inb_of S23 q0
 obtain ⟨T23, h23, X23, e23, W23, st23⟩ := stB X22 hx hZ e22 Ar23 (j := (i <<< ((1 : Int32) &&& 31))) hin23 (g := (fr_put m ta cc 43 (.val (.int ((i <<< ((1 : Int32) &&& 31)) + (1 : Int32)))) [(.int ((cc >>> ((0 : Int32) &&& 31)).toInt8.toInt32)), (.int (i <<< ((1 : Int32) &&& 31))), (.ref ta)])) rfl rfl (D d22_43)
 have V24 : Arv Z h23 ta kb .byte z (vs.set (k) (.int (nar .byte ((cc >>> ((0 : Int32) &&& 31)).toInt8.toInt32)))) (iV 0) := Arv.set Ar23 q23 S23 N23 H23 G23 (fits_nar_byte _) W23 (k) k0 (Nat.lt_of_succ_lt hl)
 rw [own_nar_byte (cc >>> ((0 : Int32) &&& 31))] at V24
 have N25 := Fr.snoc X23 N0 gt
 obtain ⟨Lh26, Xh26, Nh26⟩ := oHd 0 0 X23 N25 rfl rfl
 refine ownBy st23 ?_
 clear st23
 show ownG p.tables e below _ (T23.setTop (fr_put m ta cc 44 (.val (.int ((i <<< ((1 : Int32) &&& 31)) + (1 : Int32)))) []))
 refine ownBy (A := T23.setTop (fr_put m ta cc 47 (.val (.int ((i <<< ((1 : Int32) &&& 31)) + (1 : Int32)))) [(.int cc), (.int ((i <<< ((1 : Int32) &&& 31)) + (1 : Int32))), (.ref ta)])) (fun t kt => ?_) ?_
 ·refine XS.aloadN Xh26.here hx rfl (D d22_44) rfl rfl ?_
  refine XS.iloadN Xh26.here hx rfl (D d22_45) rfl ?_
  refine XS.iloadN Xh26.here hx rfl (D d22_46) rfl ?_
  exact kt
 have f28 := (X00.wr W23 gt)
 obtain ⟨T27, X27, e27, st27⟩ := getS2 Xh26 hx hZ hown (host := "") (Or.inl (Wd100 hw)) Via.refl e23 (SLO.ext f28.2) (g := (fr_put m ta cc 47 (.val (.int ((i <<< ((1 : Int32) &&& 31)) + (1 : Int32)))) [(.int cc), (.int ((i <<< ((1 : Int32) &&& 31)) + (1 : Int32))), (.ref ta)])) rfl (D d22_47)
 refine ownBy st27 ?_
 clear st27
 show ownG p.tables e below _ (T27.setTop (fr_put m ta cc 50 (.val (.int ((i <<< ((1 : Int32) &&& 31)) + (1 : Int32)))) [(iV 8), (.int cc), (.int ((i <<< ((1 : Int32) &&& 31)) + (1 : Int32))), (.ref ta)]))
 refine ownBy (A := T27.setTop (fr_put m ta cc 52 (.val (.int ((i <<< ((1 : Int32) &&& 31)) + (1 : Int32)))) [(.int ((cc >>> ((8 : Int32) &&& 31)).toInt8.toInt32)), (.int ((i <<< ((1 : Int32) &&& 31)) + (1 : Int32))), (.ref ta)])) (fun t kt => ?_) ?_
 ·refine XS.ishr X27.here hx rfl (D d22_50) rfl ?_
  refine XS.i2b X27.here hx rfl (D d22_51) rfl ?_
  exact kt
 obtain ⟨cl29, Ar29, q29, S29, N29, H29, G29⟩ := id V24
 have hin29 : ¬ (((i <<< ((1 : Int32) &&& 31)) + (1 : Int32)) < 0 ∨ cl29.slots.size ≤ (((i <<< ((1 : Int32) &&& 31)) + (1 : Int32))).toNatClampNeg) := inb_of S29 q1
 obtain ⟨T29, h29, X29, e29, W29, st29⟩ := stB X27 hx hZ e27 Ar29 (j := ((i <<< ((1 : Int32) &&& 31)) + (1 : Int32))) hin29 (g := (fr_put m ta cc 52 (.val (.int ((i <<< ((1 : Int32) &&& 31)) + (1 : Int32)))) [(.int ((cc >>> ((8 : Int32) &&& 31)).toInt8.toInt32)), (.int ((i <<< ((1 : Int32) &&& 31)) + (1 : Int32))), (.ref ta)])) rfl rfl (D d22_52)
 have V30 : Arv Z h29 ta kb .byte z ((vs.set (k) (.int ((cc >>> ((0 : Int32) &&& 31)).toInt8.toInt32))).set (k + 1) (.int (nar .byte ((cc >>> ((8 : Int32) &&& 31)).toInt8.toInt32)))) (iV 0) := Arv.set Ar29 q29 S29 N29 H29 G29 (fits_nar_byte _) W29 (k + 1) k1 (by rw [List.length_set]; exact hl)
 rw [own_nar_byte (cc >>> ((8 : Int32) &&& 31))] at V30
 have N31 := Fr.snoc X29 Nh26 gt
 obtain ⟨Lh32, Xh32, Nh32⟩ := oHd 0 0 X29 N31 rfl rfl
 refine ownBy st29 ?_
 clear st29
 show ownG p.tables e below _ (T29.setTop (fr_put m ta cc 53 (.val (.int ((i <<< ((1 : Int32) &&& 31)) + (1 : Int32)))) []))
 have f33 := (((Keep.refl h0 [ta]).wr W23 (Or.inl (List.mem_of_getElem? (i := 0) rfl))).wr W29 (Or.inl (List.mem_of_getElem? (i := 0) rfl)))
 refine ownRet Xh32 Bd.notSynchronized (v := none) (fun _ => rfl) ?_ (oLe rfl) (oLe rfl) (fun fs hr => Xh32.returnOut hx Bd.returns (D d22_53) hr)
 show (Q_put Z ta kb z vs i cc k h0 n0) (none) T29.heap _
 rw [e29]
 exact ⟨rfl, Nh32, f33, V30⟩
abbrev fr_nbl (m : MethodId) (i : Int32) (pc : Nat)  (st : List Value) : JFrame := mkF m pc #[vI i] st
def Q_nbl (Z : State) (i : Int32) (z : Int32) (h0 : Heap) (n0 : Nat) (v : Option Value) (h : Heap) (L : List Loc) : Prop := v = some (.int z) ∧ Fr n0 L ∧ h = h0
theorem ef_nbl (m : MethodId) (x0 : Int32)  : entryFrame m #[(.int x0)] 1 = mkF m 0 #[vI x0] [] := by first | (simp [entryFrame, mkF, argsToLocals, Value.category]; done) | rfl
set_option maxRecDepth 65536 in
set_option maxHeartbeats 40000000 in
theorem c_nbl (l : Launch) (Z : State) (a0 : Array Value) (hw : ∀ d ∈ tables_1, d.before a0 Z = true) (ws : List Jvm.Cond) (i : Int32) (z : Int32) (h0 : Heap) (n0 : Nat) (Z0 : n0 ≤ h0.size) (i0 : ¬ i < (0 : Int32)) (i1 : i < (1073741823 : Int32)) (hz : (i <<< ((1 : Int32) &&& 31)) = z) :
  MetFree l yM3 (head1 (Jvm.Cond.code yM3 jdk_52_method_3_code 1 (some .int) :: ws) ({ frames := 0, cells := 0, slots := 0, locals := 0 } : Room)) (fun a U => a = #[(.int i)] ∧ Z.Warmed39 U.vm ∧ U.heap = h0) (fun _ _ _ _ _ => True) (fun _ U o U' => ∃ v L, o = .returned v ∧ (Q_nbl Z i z h0 n0) v U'.heap L ∧ FrameEnd U o U' L ({ frames := 0, cells := 0, slots := 0, locals := 0 } : Room).cells ({ frames := 0, cells := 0, slots := 0, locals := 0 } : Room).slots) := by
 refine MetFree.of_bodySF (plainFor_of_name pn_3) hisR ?_
 intro p e s m args below meth c s₁ Bd hml0 hP hK
 obtain ⟨rfl, hZ, hHp⟩ := hP
 have hx := Bd.exec
 have D := fun {pc : Nat} {r} (h : decode _ pc = r) => hb Bd.bytes h
 have hml : c.maxLocals = 1 := hml0
 have hown : s.vm.findClass "java/lang/StringUTF16" = some m.cls := findClass_of_methodNamed Bd.named
 have hnm := (name_of_methodNamed Bd.named Bd.method).1
 have X0 : Stand p l e ({ frames := 0, cells := 0, slots := 0, locals := 0 } : Room) s m #[(.int i)] below meth c s₁ [] 0 0 := Stand.of_body Bd
 have e0 : s₁.heap = h0 := by rw [← hHp, Bd.state]; rfl
 have N0 := Fr.nil n0
 refine ownOut (P := (Q_nbl Z i z h0 n0)) ?_
 refine ownBy (A := s₁.setTop (mkF m 0 #[vI i] [])) (fun t k => castTop (ef_nbl m i) k) ?_
 refine ownBy (A := s₁.setTop (fr_nbl m i 13  [(.int i)])) (fun t kt => ?_) ?_
 ·refine XS.iloadN X0.here hx rfl (D d21_0) rfl ?_
  refine XS.ifYes X0.here hx rfl (pc0 := 1) (pc' := 12) rfl (D d21_1) rfl ((if0 _ _).trans (flt i0).2.1) (by decide) (by decide) ?_
  refine XS.iloadN X0.here hx rfl (D d21_12) rfl ?_
  exact kt
 refine ownBy (X0.ldcInt hx hown (mvT hZ (Wd94 hw)) (g := (fr_nbl m i 13  [(.int i)])) rfl (D d21_13)) ?_
 show ownG p.tables e below _ (s₁.setTop (fr_nbl m i 15  [(iV 1073741823), (.int i)]))
 refine ownBy (A := s₁.setTop (fr_nbl m i 58  [(.int (i <<< ((1 : Int32) &&& 31)))])) (fun t kt => ?_) ?_
 ·refine XS.icmpYes X0.here hx rfl (pc0 := 15) (pc' := 55) rfl (D d21_15) rfl (tlt i1).1 (by decide) (by decide) ?_
  refine XS.iloadN X0.here hx rfl (D d21_55) rfl ?_
  refine XS.iconst X0.here hx rfl (D d21_56) ?_
  refine XS.ishl X0.here hx rfl (D d21_57) rfl ?_
  exact kt
 refine ownRet X0 Bd.notSynchronized (v := some (.int (i <<< ((1 : Int32) &&& 31)))) (fun h => by rw [Bd.returns] at h; cases h) ?_ (oLe rfl) (oLe rfl) (fun fs hr => retI X0 hx Bd.returns (D d21_58) hr)
 show (Q_nbl Z i z h0 n0) (some (.int (i <<< ((1 : Int32) &&& 31)))) s₁.heap _
 rw [e0]
 refine ⟨?_, N0, rfl⟩
 rw [hz]
abbrev fr_cfa (m : MethodId) (ta : Addr) (i : Int32) (pc : Nat)  (st : List Value) : JFrame := mkF m pc #[vR ta, vI i] st
def Q_cfa (Z : State) (ta : Addr) (kb : ClassId) (z : Int32) (vs : List Value) (i : Int32) (kk : Int32) (h0 : Heap) (n0 : Nat) (v : Option Value) (h : Heap) (L : List Loc) : Prop := v = some (.int kk) ∧ Fr n0 L ∧ h = h0
theorem ef_cfa (m : MethodId) (x0 : Addr) (x1 : Int32)  : entryFrame m #[(.ref x0), (.int x1)] 2 = mkF m 0 #[vR x0, vI x1] [] := by first | (simp [entryFrame, mkF, argsToLocals, Value.category]; done) | rfl
set_option maxRecDepth 65536 in
set_option maxHeartbeats 40000000 in
theorem c_cfa (l : Launch) (Z : State) (a0 : Array Value) (hw : ∀ d ∈ tables_1, d.before a0 Z = true) (ws : List Jvm.Cond) (ta : Addr) (kb : ClassId) (z : Int32) (vs : List Value) (i : Int32) (kk : Int32) (h0 : Heap) (n0 : Nat) (Z0 : n0 ≤ h0.size) (At : Arv Z h0 ta kb .byte z vs (iV 0)) (hk : nar .byte ((((i - z).toUInt32 >>> ((31 : Int32) &&& 31).toUInt32).toInt32).toInt8.toInt32) = kk) :
  MetFree l yM4 (head1 (Jvm.Cond.code yM4 jdk_52_method_15_code 2 (some .byte) :: ws) ({ frames := 0, cells := 0, slots := 0, locals := 0 } : Room)) (fun a U => a = #[(.ref ta), (.int i)] ∧ Z.Warmed39 U.vm ∧ U.heap = h0) (fun _ _ _ _ _ => True) (fun _ U o U' => ∃ v L, o = .returned v ∧ (Q_cfa Z ta kb z vs i kk h0 n0) v U'.heap L ∧ FrameEnd U o U' L ({ frames := 0, cells := 0, slots := 0, locals := 0 } : Room).cells ({ frames := 0, cells := 0, slots := 0, locals := 0 } : Room).slots) := by
 refine MetFree.of_bodySF (plainFor_of_name pn_3) hisR ?_
 intro p e s m args below meth c s₁ Bd hml0 hP hK
 obtain ⟨rfl, hZ, hHp⟩ := hP
 have hx := Bd.exec
 have D := fun {pc : Nat} {r} (h : decode _ pc = r) => hb Bd.bytes h
 have hml : c.maxLocals = 2 := hml0
 have hown : s.vm.findClass "java/lang/StringUTF16" = some m.cls := findClass_of_methodNamed Bd.named
 have hnm := (name_of_methodNamed Bd.named Bd.method).1
 have X0 : Stand p l e ({ frames := 0, cells := 0, slots := 0, locals := 0 } : Room) s m #[(.ref ta), (.int i)] below meth c s₁ [] 0 0 := Stand.of_body Bd
 have e0 : s₁.heap = h0 := by rw [← hHp, Bd.state]; rfl
 have N0 := Fr.nil n0
 refine ownOut (P := (Q_cfa Z ta kb z vs i kk h0 n0)) ?_
 refine ownBy (A := s₁.setTop (mkF m 0 #[vR ta, vI i] [])) (fun t k => castTop (ef_cfa m ta i) k) ?_
 refine ownBy (A := s₁.setTop (fr_cfa m ta i 2  [(.ref ta), (.int i)])) (fun t kt => ?_) ?_
 ·refine XS.iloadN X0.here hx rfl (D d17_0) rfl ?_
  refine XS.aloadN X0.here hx rfl (D d17_1) rfl rfl ?_
  exact kt
 obtain ⟨cl21, Ar21, -, S21, N21, -, -⟩ := id At
 have st21 := X0.arraylength hx (by rw [e0]; exact Ar21.1) (State.isArrayOf_alike hZ.alike Ar21.2.1) (g := (fr_cfa m ta i 2  [(.ref ta), (.int i)])) rfl rfl (D d17_2)
 rw [len_of S21 N21] at st21
 refine ownBy st21 ?_
 show ownG p.tables e below _ (s₁.setTop (fr_cfa m ta i 3  [(.int z), (.int i)]))
 refine ownBy (A := s₁.setTop (fr_cfa m ta i 8  [(.int ((((i - z).toUInt32 >>> ((31 : Int32) &&& 31).toUInt32).toInt32).toInt8.toInt32))])) (fun t kt => ?_) ?_
 ·refine XS.isub X0.here hx rfl (D d17_3) rfl ?_
  refine XS.bipush X0.here hx rfl (D d17_4) ?_
  refine XS.iushr X0.here hx rfl (D d17_6) rfl ?_
  refine XS.i2b X0.here hx rfl (D d17_7) rfl ?_
  exact kt
 refine ownRet X0 Bd.notSynchronized (v := some (.int (nar .byte ((((i - z).toUInt32 >>> ((31 : Int32) &&& 31).toUInt32).toInt32).toInt8.toInt32)))) (fun h => by rw [Bd.returns] at h; cases h) ?_ (oLe rfl) (oLe rfl) (fun fs hr => retN X0 hx (t := .byte) Bd.returns (by simp) (D d17_8) hr)
 show (Q_cfa Z ta kb z vs i kk h0 n0) (some (.int (nar .byte ((((i - z).toUInt32 >>> ((31 : Int32) &&& 31).toUInt32).toInt32).toInt8.toInt32)))) s₁.heap _
 rw [e0]
 refine ⟨?_, N0, rfl⟩
 rw [hk]
abbrev fr_getc (m : MethodId) (ta : Addr) (pc : Nat) (x1_ : Slot) (st : List Value) : JFrame := mkF m pc #[vR ta, x1_] st
def Q_getc (Z : State) (ta : Addr) (kb : ClassId) (z : Int32) (vs : List Value) (i : Int32) (cc : Int32) (k : Nat) (h0 : Heap) (n0 : Nat) (v : Option Value) (h : Heap) (L : List Loc) : Prop := v = some (.int cc) ∧ Fr n0 L ∧ h = h0
theorem ef_getc (m : MethodId) (x0 : Addr) (x1 : Int32)  : entryFrame m #[(.ref x0), (.int x1)] 2 = mkF m 0 #[vR x0, vI x1] [] := by first | (simp [entryFrame, mkF, argsToLocals, Value.category]; done) | rfl
set_option maxRecDepth 65536 in
set_option maxHeartbeats 40000000 in
theorem c_getc (l : Launch) (Z : State) (a0 : Array Value) (hw : ∀ d ∈ tables_1, d.before a0 Z = true) (ws : List Jvm.Cond) (ta : Addr) (kb : ClassId) (z : Int32) (vs : List Value) (i : Int32) (cc : Int32) (k : Nat) (h0 : Heap) (n0 : Nat) (Z0 : n0 ≤ h0.size) (At : Arv Z h0 ta kb .byte z vs (iV 0)) (q0 : ¬ (i <<< ((1 : Int32) &&& 31)) < 0 ∧ (i <<< ((1 : Int32) &&& 31)) < z) (q1 : ¬ ((i <<< ((1 : Int32) &&& 31)) + (1 : Int32)) < 0 ∧ ((i <<< ((1 : Int32) &&& 31)) + (1 : Int32)) < z) (k0 : (i <<< ((1 : Int32) &&& 31)).toNatClampNeg = k) (k1 : ((i <<< ((1 : Int32) &&& 31)) + (1 : Int32)).toNatClampNeg = k + 1) (u0 : vs.getD k (iV 0) = .int (oW cc)) (u1 : vs.getD (k + 1) (iV 0) = .int (oH cc)) (hc : ¬ cc < 0 ∧ ¬ (65535 : Int32) < cc) (SA : Sta Z Z.heap "java/lang/StringUTF16" "$assertionsDisabled" "Z" (iV 1)) (SHI : Sta Z Z.heap "java/lang/StringUTF16" "HI_BYTE_SHIFT" "I" (iV 0)) (SLO : Sta Z Z.heap "java/lang/StringUTF16" "LO_BYTE_SHIFT" "I" (iV 8)) (X00 : Old Z n0 h0) :
  MetFree l yM5 (head1 (Jvm.Cond.code yM5 jdk_52_method_5_code 2 (some .char) :: ws) ({ frames := 0, cells := 0, slots := 0, locals := 0 } : Room)) (fun a U => a = #[(.ref ta), (.int i)] ∧ Z.Warmed39 U.vm ∧ U.heap = h0) (fun _ _ _ _ _ => True) (fun _ U o U' => ∃ v L, o = .returned v ∧ (Q_getc Z ta kb z vs i cc k h0 n0) v U'.heap L ∧ FrameEnd U o U' L ({ frames := 0, cells := 0, slots := 0, locals := 0 } : Room).cells ({ frames := 0, cells := 0, slots := 0, locals := 0 } : Room).slots) := by
 refine MetFree.of_bodySF (plainFor_of_name pn_3) hisR ?_
 intro p e s m args below meth c s₁ Bd hml0 hP hK
 obtain ⟨rfl, hZ, hHp⟩ := hP
 have hx := Bd.exec
 have D := fun {pc : Nat} {r} (h : decode _ pc = r) => hb Bd.bytes h
 have hml : c.maxLocals = 2 := hml0
 have hown : s.vm.findClass "java/lang/StringUTF16" = some m.cls := findClass_of_methodNamed Bd.named
 have hnm := (name_of_methodNamed Bd.named Bd.method).1
 have X0 : Stand p l e ({ frames := 0, cells := 0, slots := 0, locals := 0 } : Room) s m #[(.ref ta), (.int i)] below meth c s₁ [] 0 0 := Stand.of_body Bd
 have e0 : s₁.heap = h0 := by rw [← hHp, Bd.state]; rfl
 have N0 := Fr.nil n0
 refine ownOut (P := (Q_getc Z ta kb z vs i cc k h0 n0)) ?_
 refine ownBy (A := s₁.setTop (mkF m 0 #[vR ta, vI i] [])) (fun t k => castTop (ef_getc m ta i) k) ?_
 obtain ⟨T21, X21, e21, st21⟩ := getS2 X0 hx hZ hown (host := "") (Or.inl (Wd98 hw)) Via.refl e0 (SA.ext X00.2) (g := (fr_getc m ta 0 (vI i) [])) rfl (D d23_0)
 refine ownBy st21 ?_
 clear st21
 show ownG p.tables e below _ (T21.setTop (fr_getc m ta 3 (vI i) [(iV 1)]))
 refine ownBy (A := T21.setTop (fr_getc m ta 37 (.val (.int ((i <<< ((1 : Int32) &&& 31)) + (1 : Int32)))) [(.int (i <<< ((1 : Int32) &&& 31))), (.ref ta)])) (fun t kt => ?_) ?_
 ·refine XS.ifYes X21.here hx rfl (pc0 := 3) (pc' := 28) rfl (D d23_3) rfl ((if0 _ _).trans (feq ((by decide) : ¬ ((1 : Int32) = (0 : Int32)))).2) (by decide) (by decide) ?_
  refine XS.iloadN X21.here hx rfl (D d23_28) rfl ?_
  refine XS.iconst X21.here hx rfl (D d23_29) ?_
  refine XS.ishl X21.here hx rfl (D d23_30) rfl ?_
  show Steps p.tables e below (T21.setTop (fr_getc m ta 31 (vI i) [(.int (i <<< ((1 : Int32) &&& 31)))])) t
  refine XS.istoreN X21.here hx rfl (D d23_31) rfl (l' := #[vR ta, .val (.int (i <<< ((1 : Int32) &&& 31)))]) rfl ?_
  refine XS.aloadN X21.here hx rfl (D d23_32) rfl rfl ?_
  refine XS.iloadN X21.here hx rfl (D d23_33) rfl ?_
  refine XS.iinc X21.here hx rfl (D d23_34) rfl (l' := #[vR ta, .val (.int ((i <<< ((1 : Int32) &&& 31)) + (1 : Int32)))]) rfl ?_
  exact kt
 obtain ⟨cl22, Ar22, q22, S22, N22, H22, G22⟩ := id At
 have hin22 : ¬ ((i <<< ((1 : Int32) &&& 31)) < 0 ∨ cl22.slots.size ≤ ((i <<< ((1 : Int32) &&& 31))).toNatClampNeg) := inb_of S22 q0
 have hat22 : cl22.slots[((i <<< ((1 : Int32) &&& 31))).toNatClampNeg]? = some (.int (oW cc)) := H22.at hin22 (by rw [k0]; exact u0)
 have st22 := X21.baloadBytes hx (j := (i <<< ((1 : Int32) &&& 31))) (v := (.int (oW cc))) (by rw [e21]; exact Ar22.1) (State.isArrayOf_alike hZ.alike Ar22.2.1) Ar22.2.2 hin22 hat22 (g := (fr_getc m ta 37 (.val (.int ((i <<< ((1 : Int32) &&& 31)) + (1 : Int32)))) [(.int (i <<< ((1 : Int32) &&& 31))), (.ref ta)])) rfl rfl (D d23_37)
 refine ownBy st22 ?_
 show ownG p.tables e below _ (T21.setTop (fr_getc m ta 38 (.val (.int ((i <<< ((1 : Int32) &&& 31)) + (1 : Int32)))) [(.int (oW cc))]))
 refine ownBy (A := T21.setTop (fr_getc m ta 42 (.val (.int ((i <<< ((1 : Int32) &&& 31)) + (1 : Int32)))) [(.int ((oW cc) &&& (255 : Int32)))])) (fun t kt => ?_) ?_
 ·refine XS.sipush X21.here hx rfl (D d23_38) ?_
  refine XS.iand X21.here hx rfl (D d23_41) rfl ?_
  exact kt
 obtain ⟨T23, X23, e23, st23⟩ := getS2 X21 hx hZ hown (host := "") (Or.inl (Wd99 hw)) Via.refl e21 (SHI.ext X00.2) (g := (fr_getc m ta 42 (.val (.int ((i <<< ((1 : Int32) &&& 31)) + (1 : Int32)))) [(.int ((oW cc) &&& (255 : Int32)))])) rfl (D d23_42)
 refine ownBy st23 ?_
 clear st23
 show ownG p.tables e below _ (T23.setTop (fr_getc m ta 45 (.val (.int ((i <<< ((1 : Int32) &&& 31)) + (1 : Int32)))) [(iV 0), (.int ((oW cc) &&& (255 : Int32)))]))
 refine ownBy (A := T23.setTop (fr_getc m ta 48 (.val (.int ((i <<< ((1 : Int32) &&& 31)) + (1 : Int32)))) [(.int ((i <<< ((1 : Int32) &&& 31)) + (1 : Int32))), (.ref ta), (.int (((oW cc) &&& (255 : Int32)) <<< ((0 : Int32) &&& 31)))])) (fun t kt => ?_) ?_
 ·refine XS.ishl X23.here hx rfl (D d23_45) rfl ?_
  refine XS.aloadN X23.here hx rfl (D d23_46) rfl rfl ?_
  refine XS.iloadN X23.here hx rfl (D d23_47) rfl ?_
  exact kt
 obtain ⟨cl24, Ar24, q24, S24, N24, H24, G24⟩ := id At
 have hin24 : ¬ (((i <<< ((1 : Int32) &&& 31)) + (1 : Int32)) < 0 ∨ cl24.slots.size ≤ (((i <<< ((1 : Int32) &&& 31)) + (1 : Int32))).toNatClampNeg) := inb_of S24 q1
 have hat24 : cl24.slots[(((i <<< ((1 : Int32) &&& 31)) + (1 : Int32))).toNatClampNeg]? = some (.int (oH cc)) := H24.at hin24 (by rw [k1]; exact u1)
 have st24 := X23.baloadBytes hx (j := ((i <<< ((1 : Int32) &&& 31)) + (1 : Int32))) (v := (.int (oH cc))) (by rw [e23]; exact Ar24.1) (State.isArrayOf_alike hZ.alike Ar24.2.1) Ar24.2.2 hin24 hat24 (g := (fr_getc m ta 48 (.val (.int ((i <<< ((1 : Int32) &&& 31)) + (1 : Int32)))) [(.int ((i <<< ((1 : Int32) &&& 31)) + (1 : Int32))), (.ref ta), (.int (((oW cc) &&& (255 : Int32)) <<< ((0 : Int32) &&& 31)))])) rfl rfl (D d23_48)
 refine ownBy st24 ?_
 show ownG p.tables e below _ (T23.setTop (fr_getc m ta 49 (.val (.int ((i <<< ((1 : Int32) &&& 31)) + (1 : Int32)))) [(.int (oH cc)), (.int (((oW cc) &&& (255 : Int32)) <<< ((0 : Int32) &&& 31)))]))
 refine ownBy (A := T23.setTop (fr_getc m ta 53 (.val (.int ((i <<< ((1 : Int32) &&& 31)) + (1 : Int32)))) [(.int ((oH cc) &&& (255 : Int32))), (.int (((oW cc) &&& (255 : Int32)) <<< ((0 : Int32) &&& 31)))])) (fun t kt => ?_) ?_
 ·refine XS.sipush X23.here hx rfl (D d23_49) ?_
  refine XS.iand X23.here hx rfl (D d23_52) rfl ?_
  exact kt
 obtain ⟨T25, X25, e25, st25⟩ := getS2 X23 hx hZ hown (host := "") (Or.inl (Wd100 hw)) Via.refl e23 (SLO.ext X00.2) (g := (fr_getc m ta 53 (.val (.int ((i <<< ((1 : Int32) &&& 31)) + (1 : Int32)))) [(.int ((oH cc) &&& (255 : Int32))), (.int (((oW cc) &&& (255 : Int32)) <<< ((0 : Int32) &&& 31)))])) rfl (D d23_53)
 refine ownBy st25 ?_
 clear st25
 show ownG p.tables e below _ (T25.setTop (fr_getc m ta 56 (.val (.int ((i <<< ((1 : Int32) &&& 31)) + (1 : Int32)))) [(iV 8), (.int ((oH cc) &&& (255 : Int32))), (.int (((oW cc) &&& (255 : Int32)) <<< ((0 : Int32) &&& 31)))]))
 refine ownBy (A := T25.setTop (fr_getc m ta 59 (.val (.int ((i <<< ((1 : Int32) &&& 31)) + (1 : Int32)))) [(.int (((((oW cc) &&& (255 : Int32)) <<< ((0 : Int32) &&& 31)) ||| (((oH cc) &&& (255 : Int32)) <<< ((8 : Int32) &&& 31))).toUInt32.toUInt16.toUInt32.toInt32))])) (fun t kt => ?_) ?_
 ·refine XS.ishl X25.here hx rfl (D d23_56) rfl ?_
  refine XS.ior X25.here hx rfl (D d23_57) rfl ?_
  refine XS.i2c X25.here hx rfl (D d23_58) rfl ?_
  exact kt
 refine ownRet X25 Bd.notSynchronized (v := some (.int (nar .char (((((oW cc) &&& (255 : Int32)) <<< ((0 : Int32) &&& 31)) ||| (((oH cc) &&& (255 : Int32)) <<< ((8 : Int32) &&& 31))).toUInt32.toUInt16.toUInt32.toInt32)))) (fun h => by rw [Bd.returns] at h; cases h) ?_ (oLe rfl) (oLe rfl) (fun fs hr => retN X25 hx (t := .char) Bd.returns (by simp) (D d23_59) hr)
 show (Q_getc Z ta kb z vs i cc k h0 n0) (some (.int (nar .char (((((oW cc) &&& (255 : Int32)) <<< ((0 : Int32) &&& 31)) ||| (((oH cc) &&& (255 : Int32)) <<< ((8 : Int32) &&& 31))).toUInt32.toUInt16.toUInt32.toInt32)))) T25.heap _
 rw [e25]
 refine ⟨?_, N0, rfl⟩
 rw [own_gc hc]
abbrev fr_nbf1 (m : MethodId)  (pc : Nat)  (st : List Value) : JFrame := mkF m pc #[vI 1] st
def Q_nbf1 (Z : State)  (h0 : Heap) (n0 : Nat) (v : Option Value) (h : Heap) (L : List Loc) : Prop := ∃ (ta : Addr) (kb : ClassId), v = some (.ref ta) ∧ Fr n0 L ∧ Keep h0 h [] ∧ h0.size ≤ ta ∧ Arv Z h ta kb .byte (2 : Int32) [(iV 0), (iV 0)] (iV 0)
theorem ef_nbf1 (m : MethodId) (x0 : Int32)  : entryFrame m #[(.int x0)] 1 = mkF m 0 #[vI x0] [] := by first | (simp [entryFrame, mkF, argsToLocals, Value.category]; done) | rfl
set_option maxRecDepth 65536 in
set_option maxHeartbeats 40000000 in
theorem c_nbf1 (l : Launch) (Z : State) (a0 : Array Value) (hw : ∀ d ∈ tables_1, d.before a0 Z = true) (ws : List Jvm.Cond)  (h0 : Heap) (n0 : Nat) (Z0 : n0 ≤ h0.size) :
  MetFree l yM6 (head1 (Jvm.Cond.code yM6 jdk_52_method_2_code 1 (some (.array .byte)) :: ws) ({ frames := 1, cells := 1, slots := 2, locals := 12 } : Room)) (fun a U => a = #[(iV 1)] ∧ Z.Warmed39 U.vm ∧ U.heap = h0) (fun _ _ _ _ _ => True) (fun _ U o U' => ∃ v L, o = .returned v ∧ (Q_nbf1 Z  h0 n0) v U'.heap L ∧ FrameEnd U o U' L ({ frames := 1, cells := 1, slots := 2, locals := 12 } : Room).cells ({ frames := 1, cells := 1, slots := 2, locals := 12 } : Room).slots) := by
 refine MetFree.of_bodySF (plainFor_of_name pn_3) hisR ?_
 intro p e s m args below meth c s₁ Bd hml0 hP hK
 obtain ⟨rfl, hZ, hHp⟩ := hP
 have hx := Bd.exec
 have D := fun {pc : Nat} {r} (h : decode _ pc = r) => hb Bd.bytes h
 have hml : c.maxLocals = 1 := hml0
 have hown : s.vm.findClass "java/lang/StringUTF16" = some m.cls := findClass_of_methodNamed Bd.named
 have hnm := (name_of_methodNamed Bd.named Bd.method).1
 have X0 : Stand p l e ({ frames := 1, cells := 1, slots := 2, locals := 12 } : Room) s m #[(iV 1)] below meth c s₁ [] 0 0 := Stand.of_body Bd
 have e0 : s₁.heap = h0 := by rw [← hHp, Bd.state]; rfl
 have N0 := Fr.nil n0
 refine ownOut (P := (Q_nbf1 Z  h0 n0)) ?_
 refine ownBy (A := s₁.setTop (mkF m 0 #[vI 1] [])) (fun t k => castTop (ef_nbf1 m (1 : Int32)) k) ?_
 refine ownBy (A := s₁.setTop (fr_nbf1 m  1  [(iV 1)])) (fun t kt => ?_) ?_
 ·refine XS.iloadN X0.here hx rfl (D d20_0) rfl ?_
  exact kt
 obtain ⟨vv21, _, ⟨T21, L21, k21, n21⟩, -, X21, ⟨Lc21, hQ21, l21, y21, z21⟩, st21⟩ := Jvm.LawKit.callS X0 hx (y := yM3) hown (mvT hZ (Wd91 hw)) (mvT hZ (Wd92 hw)) (mvT hZ (Wd74 hw)) (mvT hZ (Wd93 hw)) (by decide) (backOf (W := 0) (c_nbl l Z a0 hw [] (1 : Int32) (2 : Int32) h0 n0 Z0 (by decide) (by decide) (by decide +kernel)) hZ (Wd93 hw) (Wd74 hw) (by decide) (by decide)) (g := (fr_nbf1 m  1  [(iV 1)])) rfl (by rw [hml]; rfl) (argsL := [(iV 1)]) (rest := []) (lenOf pd_4 rfl) rfl (by show 2 * 0 + _ ≤ _; exact Nat.le_of_eq rfl) (D d20_1) (fun _ _ => ⟨rfl, e0, (by decide : 0 + 0 ≤ _), (by decide : 0 + 0 ≤ _)⟩)
 dsimp only [Pt.U, Pt.locs, Pt.cells, Pt.slots] at X21 l21 y21 z21 st21 hQ21
 subst l21 y21 z21
 obtain ⟨rfl, Nq21, Eq21⟩ := hQ21
 have N22 := Fr.app N0 Nq21
 obtain ⟨Lh23, Xh23, Nh23⟩ := oHd 0 0 X21 N22 rfl rfl
 refine ownBy st21 ?_
 clear st21
 show ownG p.tables e below _ (T21.setTop (fr_nbf1 m  4  [(iV 2)]))
 obtain ⟨T24, h24, k24, X24, e24, E24, A24, st24⟩ := newP Xh23 hx hZ (aty := .byte) (Wd21 hw) Eq21 (g := (fr_nbf1 m  4  [(iV 2)])) rfl (D d20_4) rfl (by decide : ¬ ((2 : Int32) < (0 : Int32))) (cap := 2) (by decide) (by decide) (by decide) (by decide)
 obtain ⟨b24, g24⟩ : ∃ z, z = h0.size := ⟨_, rfl⟩
 rw [← g24] at A24 st24
 have g25 : n0 ≤ b24 := Nat.le_trans Z0 (Nat.le_of_eq g24.symm)
 have z26 : h0.size ≤ b24 := Nat.le_trans (Nat.le_refl h0.size) (Nat.le_of_eq g24.symm)
 have V27 : Arv Z h24 b24 k24 .byte (2 : Int32) [(iV 0), (iV 0)] (iV 0) := (Arv.new A24 (by decide)).pad (pad_rep [] (iV 0) 2)
 refine ownBy st24 ?_
 clear st24
 show ownG p.tables e below _ (T24.setTop (fr_nbf1 m  6  [(.ref b24)]))
 have f28 := ((Keep.refl h0 []).ext E24)
 refine ownRet X24 Bd.notSynchronized (v := some (.ref b24)) (fun h => by rw [Bd.returns] at h; cases h) ?_ (oLe rfl) (oLe rfl) (fun fs hr => retOut X24 hx Bd.returns rfl (Or.inr (Or.inr (Or.inr (Or.inr ⟨rfl, rfl, rfl⟩)))) (D d20_6) hr)
 show (Q_nbf1 Z  h0 n0) (some (.ref b24)) T24.heap _
 rw [e24]
 exact ⟨b24, k24, rfl, Nh23, f28, z26, V27⟩
abbrev fr_tob1 (m : MethodId) (a2 : Addr) (pc : Nat) (x1_ x3_ x4_ : Slot) (st : List Value) : JFrame := mkF m pc #[vR a2, x1_, vI 1, x3_, x4_] st
def Q_tob1 (Z : State) (a2 : Addr) (kC : ClassId) (c0 : Int32) (h0 : Heap) (n0 : Nat) (v : Option Value) (h : Heap) (L : List Loc) : Prop := ∃ (ta : Addr) (kb : ClassId), v = some (.ref ta) ∧ Fr n0 L ∧ Keep h0 h [] ∧ h0.size ≤ ta ∧ Arv Z h ta kb .byte (2 : Int32) [(.int (oW c0)), (.int (oH c0))] (iV 0)
theorem ef_tob1 (m : MethodId) (x0 : Addr) (x1 : Int32) (x2 : Int32)  : entryFrame m #[(.ref x0), (.int x1), (.int x2)] 5 = mkF m 0 #[vR x0, vI x1, vI x2, .unset, .unset] [] := by first | (simp [entryFrame, mkF, argsToLocals, Value.category]; done) | rfl
set_option maxRecDepth 65536 in
set_option maxHeartbeats 40000000 in
theorem c_tob1 (l : Launch) (Z : State) (a0 : Array Value) (hw : ∀ d ∈ tables_1, d.before a0 Z = true) (ws : List Jvm.Cond) (a2 : Addr) (kC : ClassId) (c0 : Int32) (h0 : Heap) (n0 : Nat) (Z0 : n0 ≤ h0.size) (A2 : Arv Z h0 a2 kC .char (1 : Int32) [(.int c0)] (iV 0)) (SA : Sta Z Z.heap "java/lang/StringUTF16" "$assertionsDisabled" "Z" (iV 1)) (SHI : Sta Z Z.heap "java/lang/StringUTF16" "HI_BYTE_SHIFT" "I" (iV 0)) (SLO : Sta Z Z.heap "java/lang/StringUTF16" "LO_BYTE_SHIFT" "I" (iV 8)) (X00 : Old Z n0 h0) :
  MetFree l yM7 (head1 (Jvm.Cond.code yM7 jdk_52_method_14_code 5 (some (.array .byte)) :: ws) ({ frames := 2, cells := 1, slots := 2, locals := 24 } : Room)) (fun a U => a = #[(.ref a2), (iV 0), (iV 1)] ∧ Z.Warmed39 U.vm ∧ U.heap = h0) (fun _ _ _ _ _ => True) (fun _ U o U' => ∃ v L, o = .returned v ∧ (Q_tob1 Z a2 kC c0 h0 n0) v U'.heap L ∧ FrameEnd U o U' L ({ frames := 2, cells := 1, slots := 2, locals := 24 } : Room).cells ({ frames := 2, cells := 1, slots := 2, locals := 24 } : Room).slots) := by
 refine MetFree.of_bodySF (plainFor_of_name pn_3) hisR ?_
 intro p e s m args below meth c s₁ Bd hml0 hP hK
 obtain ⟨rfl, hZ, hHp⟩ := hP
 have hx := Bd.exec
 have D := fun {pc : Nat} {r} (h : decode _ pc = r) => hb Bd.bytes h
 have hml : c.maxLocals = 5 := hml0
 have hown : s.vm.findClass "java/lang/StringUTF16" = some m.cls := findClass_of_methodNamed Bd.named
 have hnm := (name_of_methodNamed Bd.named Bd.method).1
 have X0 : Stand p l e ({ frames := 2, cells := 1, slots := 2, locals := 24 } : Room) s m #[(.ref a2), (iV 0), (iV 1)] below meth c s₁ [] 0 0 := Stand.of_body Bd
 have e0 : s₁.heap = h0 := by rw [← hHp, Bd.state]; rfl
 have N0 := Fr.nil n0
 refine ownOut (P := (Q_tob1 Z a2 kC c0 h0 n0)) ?_
 refine ownBy (A := s₁.setTop (mkF m 0 #[vR a2, vI 0, vI 1, .unset, .unset] [])) (fun t k => castTop (ef_tob1 m a2 (0 : Int32) (1 : Int32)) k) ?_
 refine ownBy (A := s₁.setTop (fr_tob1 m a2 1 (vI 0) .unset .unset [(iV 1)])) (fun t kt => ?_) ?_
 ·refine XS.iloadN X0.here hx rfl (D d19_0) rfl ?_
  exact kt
 obtain ⟨vv21, _, ⟨T21, L21, k21, n21⟩, -, X21, ⟨Lc21, hQ21, l21, y21, z21⟩, st21⟩ := Jvm.LawKit.callS X0 hx (y := yM6) hown (mvT hZ (Wd88 hw)) (mvT hZ (Wd89 hw)) (mvT hZ (Wd74 hw)) (mvT hZ (Wd90 hw)) (by decide) (backOf (W := 0) (c_nbf1 l Z a0 hw []  h0 n0 Z0 ) hZ (Wd90 hw) (Wd74 hw) (by decide) (by decide)) (g := (fr_tob1 m a2 1 (vI 0) .unset .unset [(iV 1)])) rfl (by rw [hml]; rfl) (argsL := [(iV 1)]) (rest := []) (lenOf pd_5 rfl) rfl (by show 2 * 0 + _ ≤ _; exact Nat.le_of_eq rfl) (D d19_1) (fun _ _ => ⟨rfl, e0, (by decide : 0 + 1 ≤ _), (by decide : 0 + 2 ≤ _)⟩)
 dsimp only [Pt.U, Pt.locs, Pt.cells, Pt.slots] at X21 l21 y21 z21 st21 hQ21
 subst l21 y21 z21
 obtain ⟨t21, kb21, rfl, Nq21, Kq21, zq21, Aq21⟩ := hQ21
 have ne22 : a2 ≠ t21 := Nat.ne_of_lt (Nat.lt_of_lt_of_le A2.lt zq21)
 have g23 : n0 ≤ t21 := Nat.le_trans Z0 zq21
 have z24 : h0.size ≤ t21 := Nat.le_trans (Nat.le_refl h0.size) zq21
 have N25 := Fr.app N0 Nq21
 obtain ⟨Lh26, Xh26, Nh26⟩ := oHd 1 2 X21 N25 rfl rfl
 refine ownBy st21 ?_
 clear st21
 show ownG p.tables e below _ (T21.setTop (fr_tob1 m a2 4 (vI 0) .unset .unset [(.ref t21)]))
 refine ownBy (A := T21.setTop (fr_tob1 m a2 19 (vI 0) (vR t21) (vI 0) [(iV 0), (.ref a2), (iV 0), (.ref t21)])) (fun t kt => ?_) ?_
 ·refine XS.astoreN Xh26.here hx rfl (D d19_4) rfl rfl (l' := #[vR a2, vI 0, vI 1, vR t21, .unset]) rfl ?_
  refine XS.iconst Xh26.here hx rfl (D d19_5) ?_
  refine XS.istore Xh26.here hx rfl (D d19_6) rfl (l' := #[vR a2, vI 0, vI 1, vR t21, vI 0]) rfl ?_
  refine XS.iload Xh26.here hx rfl (D d19_8) rfl ?_
  show Steps p.tables e below (T21.setTop (fr_tob1 m a2 10 (vI 0) (vR t21) (vI 0) [(iV 0)])) t
  refine XS.iloadN Xh26.here hx rfl (D d19_10) rfl ?_
  refine XS.icmpNo Xh26.here hx rfl (D d19_11) rfl (tlt ((by decide) : (0 : Int32) < (1 : Int32))).2.1 ?_
  refine XS.aloadN Xh26.here hx rfl (D d19_14) rfl rfl ?_
  refine XS.iload Xh26.here hx rfl (D d19_15) rfl ?_
  show Steps p.tables e below (T21.setTop (fr_tob1 m a2 17 (vI 0) (vR t21) (vI 0) [(iV 0), (.ref t21)])) t
  refine XS.aloadN Xh26.here hx rfl (D d19_17) rfl rfl ?_
  refine XS.iloadN Xh26.here hx rfl (D d19_18) rfl ?_
  exact kt
 have f27 := (A2.keep Kq21 nin0)
 obtain ⟨cl28, Ar28, q28, S28, N28, H28, G28⟩ := id f27
 have hin28 : ¬ ((0 : Int32) < 0 ∨ cl28.slots.size ≤ ((0 : Int32)).toNatClampNeg) := inb_of S28 ⟨by decide, by decide⟩
 have hat28 : cl28.slots[((0 : Int32)).toNatClampNeg]? = some (.int c0) := H28.at hin28 rfl
 have st28 := Xh26.caload hx (j := (0 : Int32)) (v := (.int c0)) Ar28.1 (State.isArrayOf_alike hZ.alike Ar28.2.1) Ar28.2.2 hin28 hat28 (g := (fr_tob1 m a2 19 (vI 0) (vR t21) (vI 0) [(iV 0), (.ref a2), (iV 0), (.ref t21)])) rfl rfl (D d19_19)
 refine ownBy st28 ?_
 show ownG p.tables e below _ (T21.setTop (fr_tob1 m a2 20 (vI 0) (vR t21) (vI 0) [(.int c0), (iV 0), (.ref t21)]))
 have f29 := (X00.keep Kq21 all0)
 have f30 := (Nat.le_trans Z0 Kq21.1)
 obtain ⟨vv31, _, ⟨T31, L31, k31, n31⟩, -, X31, ⟨Lc31, hQ31, l31, y31, z31⟩, st31⟩ := Jvm.LawKit.callS Xh26 hx (y := yM2) hown (mvT hZ (Wd95 hw)) (mvT hZ (Wd96 hw)) (mvT hZ (Wd74 hw)) (mvT hZ (Wd97 hw)) (by decide) (backOf (W := 0) (c_put l Z a0 hw [] t21 kb21 (2 : Int32) [(iV 0), (iV 0)] (0 : Int32) c0 0 T21.heap n0 f30 Aq21 g23 ⟨by decide +kernel, by decide +kernel⟩ ⟨by decide +kernel, by decide +kernel⟩ (by decide +kernel) (by decide +kernel) (oLe rfl) SA SHI SLO f29) hZ (Wd97 hw) (Wd74 hw) (by decide) (by decide)) (g := (fr_tob1 m a2 20 (vI 0) (vR t21) (vI 0) [(.int c0), (iV 0), (.ref t21)])) rfl (by rw [hml]; rfl) (argsL := [(.ref t21), (iV 0), (.int c0)]) (rest := []) (lenOf pd_6 rfl) rfl (by show 2 * 0 + _ ≤ _; exact Nat.le_of_eq rfl) (D d19_20) (fun _ _ => ⟨rfl, rfl, (by decide : 1 + 0 ≤ _), (by decide : 2 + 0 ≤ _)⟩)
 dsimp only [Pt.U, Pt.locs, Pt.cells, Pt.slots] at X31 l31 y31 z31 st31 hQ31
 subst l31 y31 z31
 obtain ⟨rfl, Nq31, Kq31, Ap31⟩ := hQ31
 have Aq31 : Arv Z T31.heap t21 kb21 .byte (2 : Int32) [(.int (oW c0)), (.int (oH c0))] (iV 0) := Ap31
 have N32 := Fr.app Nh26 Nq31
 obtain ⟨Lh33, Xh33, Nh33⟩ := oHd 1 2 X31 N32 rfl rfl
 refine ownBy st31 ?_
 clear st31
 show ownG p.tables e below _ (T31.setTop (fr_tob1 m a2 23 (vI 0) (vR t21) (vI 0) []))
 refine ownBy (A := T31.setTop (fr_tob1 m a2 33 (vI 1) (vR t21) (vI 1) [(.ref t21)])) (fun t kt => ?_) ?_
 ·refine XS.iinc Xh33.here hx rfl (D d19_23) rfl (l' := #[vR a2, vI 1, vI 1, vR t21, vI 0]) rfl ?_
  refine XS.iinc Xh33.here hx rfl (D d19_26) rfl (l' := #[vR a2, vI 1, vI 1, vR t21, vI 1]) rfl ?_
  refine XS.goto Xh33.here hx rfl (pc0 := 29) (pc' := 8) rfl (D d19_29) (by decide) (by decide) ?_
  refine XS.iload Xh33.here hx rfl (D d19_8) rfl ?_
  show Steps p.tables e below (T31.setTop (fr_tob1 m a2 10 (vI 1) (vR t21) (vI 1) [(iV 1)])) t
  refine XS.iloadN Xh33.here hx rfl (D d19_10) rfl ?_
  refine XS.icmpYes Xh33.here hx rfl (pc0 := 11) (pc' := 32) rfl (D d19_11) rfl (flt ((by decide) : ¬ ((1 : Int32) < (1 : Int32)))).2.1 (by decide) (by decide) ?_
  refine XS.aloadN Xh33.here hx rfl (D d19_32) rfl rfl ?_
  exact kt
 have f34 := (((Keep.refl h0 []).trans Kq21 all0).trans Kq31 (allS (Or.inr z24) all0))
 refine ownRet Xh33 Bd.notSynchronized (v := some (.ref t21)) (fun h => by rw [Bd.returns] at h; cases h) ?_ (oLe rfl) (oLe rfl) (fun fs hr => retOut Xh33 hx Bd.returns rfl (Or.inr (Or.inr (Or.inr (Or.inr ⟨rfl, rfl, rfl⟩)))) (D d19_33) hr)
 show (Q_tob1 Z a2 kC c0 h0 n0) (some (.ref t21)) T31.heap _
 exact ⟨t21, kb21, rfl, Nh33, f34, z24, Aq31⟩
abbrev fr_cp5_1 (m : MethodId) (a2 : Addr) (ta : Addr) (pc : Nat) (x1_ x3_ x5_ x6_ : Slot) (st : List Value) : JFrame := mkF m pc #[vR a2, x1_, vR ta, x3_, vI 1, x5_, x6_] st
def Q_cp5_1 (Z : State) (a2 : Addr) (kC : ClassId) (ta : Addr) (kb : ClassId) (c0 : Int32) (h0 : Heap) (n0 : Nat) (v : Option Value) (h : Heap) (L : List Loc) : Prop := ∃ r : Int32, v = some (.int r) ∧ Fr n0 L ∧ Keep h0 h [ta] ∧ ((r = (1 : Int32) ∧ ¬ ((255 : Int32) < c0) ∧ Arv Z h ta kb .byte (1 : Int32) [(.int (oL c0))] (iV 0)) ∨ (r = (0 : Int32) ∧ (255 : Int32) < c0))
theorem ef_cp5_1 (m : MethodId) (x0 : Addr) (x1 : Int32) (x2 : Addr) (x3 : Int32) (x4 : Int32)  : entryFrame m #[(.ref x0), (.int x1), (.ref x2), (.int x3), (.int x4)] 7 = mkF m 0 #[vR x0, vI x1, vR x2, vI x3, vI x4, .unset, .unset] [] := by first | (simp [entryFrame, mkF, argsToLocals, Value.category]; done) | rfl
set_option maxRecDepth 65536 in
set_option maxHeartbeats 40000000 in
theorem c_cp5_1 (l : Launch) (Z : State) (a0 : Array Value) (hw : ∀ d ∈ tables_1, d.before a0 Z = true) (ws : List Jvm.Cond) (a2 : Addr) (kC : ClassId) (ta : Addr) (kb : ClassId) (c0 : Int32) (h0 : Heap) (n0 : Nat) (Z0 : n0 ≤ h0.size) (A2 : Arv Z h0 a2 kC .char (1 : Int32) [(.int c0)] (iV 0)) (At : Arv Z h0 ta kb .byte (1 : Int32) [(iV 0)] (iV 0)) (gt : n0 ≤ ta) (ne1 : a2 ≠ ta) :
  MetFree l yM8 (head1 (Jvm.Cond.code yM8 jdk_52_method_21_code 7 (some .int) :: ws) ({ frames := 0, cells := 0, slots := 0, locals := 0 } : Room)) (fun a U => a = #[(.ref a2), (iV 0), (.ref ta), (iV 0), (iV 1)] ∧ Z.Warmed39 U.vm ∧ U.heap = h0) (fun _ _ _ _ _ => True) (fun _ U o U' => ∃ v L, o = .returned v ∧ (Q_cp5_1 Z a2 kC ta kb c0 h0 n0) v U'.heap L ∧ FrameEnd U o U' L ({ frames := 0, cells := 0, slots := 0, locals := 0 } : Room).cells ({ frames := 0, cells := 0, slots := 0, locals := 0 } : Room).slots) := by
 refine MetFree.of_bodySF (plainFor_of_name pn_3) hisR ?_
 intro p e s m args below meth c s₁ Bd hml0 hP hK
 obtain ⟨rfl, hZ, hHp⟩ := hP
 have hx := Bd.exec
 have D := fun {pc : Nat} {r} (h : decode _ pc = r) => hb Bd.bytes h
 have hml : c.maxLocals = 7 := hml0
 have hown : s.vm.findClass "java/lang/StringUTF16" = some m.cls := findClass_of_methodNamed Bd.named
 have hnm := (name_of_methodNamed Bd.named Bd.method).1
 have X0 : Stand p l e ({ frames := 0, cells := 0, slots := 0, locals := 0 } : Room) s m #[(.ref a2), (iV 0), (.ref ta), (iV 0), (iV 1)] below meth c s₁ [] 0 0 := Stand.of_body Bd
 have e0 : s₁.heap = h0 := by rw [← hHp, Bd.state]; rfl
 have N0 := Fr.nil n0
 refine ownOut (P := (Q_cp5_1 Z a2 kC ta kb c0 h0 n0)) ?_
 refine ownBy (A := s₁.setTop (mkF m 0 #[vR a2, vI 0, vR ta, vI 0, vI 1, .unset, .unset] [])) (fun t k => castTop (ef_cp5_1 m a2 (0 : Int32) ta (0 : Int32) (1 : Int32)) k) ?_
 refine ownBy (A := s₁.setTop (fr_cp5_1 m a2 ta 12 (vI 0) (vI 0) (vI 0) .unset [(iV 0), (.ref a2)])) (fun t kt => ?_) ?_
 ·refine XS.iconst X0.here hx rfl (D d16_0) ?_
  refine XS.istore X0.here hx rfl (D d16_1) rfl (l' := #[vR a2, vI 0, vR ta, vI 0, vI 1, vI 0, .unset]) rfl ?_
  refine XS.iload X0.here hx rfl (D d16_3) rfl ?_
  refine XS.iload X0.here hx rfl (D d16_5) rfl ?_
  show Steps p.tables e below (s₁.setTop (fr_cp5_1 m a2 ta 7 (vI 0) (vI 0) (vI 0) .unset [(iV 1), (iV 0)])) t
  refine XS.icmpNo X0.here hx rfl (D d16_7) rfl (tlt ((by decide) : (0 : Int32) < (1 : Int32))).2.1 ?_
  refine XS.aloadN X0.here hx rfl (D d16_10) rfl rfl ?_
  refine XS.iloadN X0.here hx rfl (D d16_11) rfl ?_
  exact kt
 obtain ⟨cl21, Ar21, q21, S21, N21, H21, G21⟩ := id A2
 have hin21 : ¬ ((0 : Int32) < 0 ∨ cl21.slots.size ≤ ((0 : Int32)).toNatClampNeg) := inb_of S21 ⟨by decide, by decide⟩
 have hat21 : cl21.slots[((0 : Int32)).toNatClampNeg]? = some (.int c0) := H21.at hin21 rfl
 have st21 := X0.caload hx (j := (0 : Int32)) (v := (.int c0)) (by rw [e0]; exact Ar21.1) (State.isArrayOf_alike hZ.alike Ar21.2.1) Ar21.2.2 hin21 hat21 (g := (fr_cp5_1 m a2 ta 12 (vI 0) (vI 0) (vI 0) .unset [(iV 0), (.ref a2)])) rfl rfl (D d16_12)
 refine ownBy st21 ?_
 show ownG p.tables e below _ (s₁.setTop (fr_cp5_1 m a2 ta 13 (vI 0) (vI 0) (vI 0) .unset [(.int c0)]))
 refine ownBy (A := s₁.setTop (fr_cp5_1 m a2 ta 20 (vI 0) (vI 0) (vI 0) (vI c0) [(iV 255), (.int c0)])) (fun t kt => ?_) ?_
 ·refine XS.istore X0.here hx rfl (D d16_13) rfl (l' := #[vR a2, vI 0, vR ta, vI 0, vI 1, vI 0, vI c0]) rfl ?_
  refine XS.iload X0.here hx rfl (D d16_15) rfl ?_
  refine XS.sipush X0.here hx rfl (D d16_17) ?_
  exact kt
 by_cases hc22 : (255 : Int32) < c0
 ·skip
  refine ownBy (A := s₁.setTop (fr_cp5_1 m a2 ta 25 (vI 0) (vI 0) (vI 0) (vI c0) [(iV 0)])) (fun t kt => ?_) ?_
  ·refine XS.icmpNo X0.here hx rfl (D d16_20) rfl (tlt hc22).2.2.2 ?_
   refine XS.iload X0.here hx rfl (D d16_23) rfl ?_
   exact kt
  refine ownRet X0 Bd.notSynchronized (v := some (iV 0)) (fun h => by rw [Bd.returns] at h; cases h) ?_ (oLe rfl) (oLe rfl) (fun fs hr => retI X0 hx Bd.returns (D d16_25) hr)
  show (Q_cp5_1 Z a2 kC ta kb c0 h0 n0) (some (iV 0)) s₁.heap _
  rw [e0]
  exact ⟨_, rfl, N0, (Keep.refl h0 [ta]), Or.inr (⟨rfl, hc22⟩)⟩
 ·skip
  refine ownBy (A := s₁.setTop (fr_cp5_1 m a2 ta 31 (vI 0) (vI 0) (vI 0) (vI c0) [(.int (c0.toInt8.toInt32)), (iV 0), (.ref ta)])) (fun t kt => ?_) ?_
  ·refine XS.icmpYes X0.here hx rfl (pc0 := 20) (pc' := 26) rfl (D d16_20) rfl (flt hc22).2.2.2 (by decide) (by decide) ?_
   refine XS.aloadN X0.here hx rfl (D d16_26) rfl rfl ?_
   refine XS.iloadN X0.here hx rfl (D d16_27) rfl ?_
   refine XS.iload X0.here hx rfl (D d16_28) rfl ?_
   show Steps p.tables e below (s₁.setTop (fr_cp5_1 m a2 ta 30 (vI 0) (vI 0) (vI 0) (vI c0) [(.int c0), (iV 0), (.ref ta)])) t
   refine XS.i2b X0.here hx rfl (D d16_30) rfl ?_
   exact kt
  obtain ⟨cl23, Ar23, q23, S23, N23, H23, G23⟩ := id At
  have hin23 : ¬ ((0 : Int32) < 0 ∨ cl23.slots.size ≤ ((0 : Int32)).toNatClampNeg) := inb_of S23 ⟨by decide, by decide⟩
  obtain ⟨T23, h23, X23, e23, W23, st23⟩ := stB X0 hx hZ e0 Ar23 (j := (0 : Int32)) hin23 (g := (fr_cp5_1 m a2 ta 31 (vI 0) (vI 0) (vI 0) (vI c0) [(.int (c0.toInt8.toInt32)), (iV 0), (.ref ta)])) rfl rfl (D d16_31)
  have V24 : Arv Z h23 ta kb .byte (1 : Int32) [(.int (nar .byte (c0.toInt8.toInt32)))] (iV 0) := Arv.set Ar23 q23 S23 N23 H23 G23 (fits_nar_byte _) W23 0 rfl (oLe rfl)
  rw [own_nar_byte c0] at V24
  clear hin23 G23 H23 N23 S23 q23 Ar23 cl23
  have N25 := Fr.snoc X23 N0 gt
  obtain ⟨Lh26, Xh26, Nh26⟩ := oHd 0 0 X23 N25 rfl rfl
  refine ownBy st23 ?_
  clear st23
  show ownG p.tables e below _ (T23.setTop (fr_cp5_1 m a2 ta 32 (vI 0) (vI 0) (vI 0) (vI c0) []))
  refine ownBy (A := T23.setTop (fr_cp5_1 m a2 ta 46 (vI 1) (vI 1) (vI 1) (vI c0) [(iV 1)])) (fun t kt => ?_) ?_
  ·refine XS.iinc Xh26.here hx rfl (D d16_32) rfl (l' := #[vR a2, vI 1, vR ta, vI 0, vI 1, vI 0, vI c0]) rfl ?_
   refine XS.iinc Xh26.here hx rfl (D d16_35) rfl (l' := #[vR a2, vI 1, vR ta, vI 1, vI 1, vI 0, vI c0]) rfl ?_
   refine XS.iinc Xh26.here hx rfl (D d16_38) rfl (l' := #[vR a2, vI 1, vR ta, vI 1, vI 1, vI 1, vI c0]) rfl ?_
   refine XS.goto Xh26.here hx rfl (pc0 := 41) (pc' := 3) rfl (D d16_41) (by decide) (by decide) ?_
   show Steps p.tables e below (T23.setTop (fr_cp5_1 m a2 ta 3 (vI 1) (vI 1) (vI 1) (vI c0) [])) t
   refine XS.iload Xh26.here hx rfl (D d16_3) rfl ?_
   refine XS.iload Xh26.here hx rfl (D d16_5) rfl ?_
   refine XS.icmpYes Xh26.here hx rfl (pc0 := 7) (pc' := 44) rfl (D d16_7) rfl (flt ((by decide) : ¬ ((1 : Int32) < (1 : Int32)))).2.1 (by decide) (by decide) ?_
   refine XS.iload Xh26.here hx rfl (D d16_44) rfl ?_
   exact kt
  have f27 := ((Keep.refl h0 [ta]).wr W23 (Or.inl (List.mem_of_getElem? (i := 0) rfl)))
  refine ownRet Xh26 Bd.notSynchronized (v := some (iV 1)) (fun h => by rw [Bd.returns] at h; cases h) ?_ (oLe rfl) (oLe rfl) (fun fs hr => retI Xh26 hx Bd.returns (D d16_46) hr)
  show (Q_cp5_1 Z a2 kC ta kb c0 h0 n0) (some (iV 1)) T23.heap _
  rw [e23]
  exact ⟨_, rfl, Nh26, f27, Or.inl ⟨rfl, hc22, V24⟩⟩
abbrev fr_cp3_1 (m : MethodId) (a2 : Addr) (pc : Nat) (x3_ x4_ x5_ : Slot) (st : List Value) : JFrame := mkF m pc #[vR a2, vI 0, vI 1, x3_, x4_, x5_] st
def Q_cp3_1 (Z : State) (a2 : Addr) (kC : ClassId) (c0 : Int32) (h0 : Heap) (n0 : Nat) (v : Option Value) (h : Heap) (L : List Loc) : Prop := ∃ (ta : Addr) (kb : ClassId), v = some (.ref ta) ∧ Fr n0 L ∧ Keep h0 h [] ∧ h0.size ≤ ta ∧ ((¬ ((255 : Int32) < c0) ∧ Arv Z h ta kb .byte (1 : Int32) [(.int (oL c0))] (iV 0)) ∨ (((255 : Int32) < c0) ∧ Arv Z h ta kb .byte (2 : Int32) [(.int (oW c0)), (.int (oH c0))] (iV 0)))
theorem ef_cp3_1 (m : MethodId) (x0 : Addr) (x1 : Int32) (x2 : Int32)  : entryFrame m #[(.ref x0), (.int x1), (.int x2)] 6 = mkF m 0 #[vR x0, vI x1, vI x2, .unset, .unset, .unset] [] := by first | (simp [entryFrame, mkF, argsToLocals, Value.category]; done) | rfl
set_option maxRecDepth 65536 in
set_option maxHeartbeats 40000000 in
theorem c_cp3_1 (l : Launch) (Z : State) (a0 : Array Value) (hw : ∀ d ∈ tables_1, d.before a0 Z = true) (ws : List Jvm.Cond) (a2 : Addr) (kC : ClassId) (c0 : Int32) (h0 : Heap) (n0 : Nat) (Z0 : n0 ≤ h0.size) (A2 : Arv Z h0 a2 kC .char (1 : Int32) [(.int c0)] (iV 0)) (hc0 : ¬ c0 < 0 ∧ ¬ (65535 : Int32) < c0) (SA : Sta Z Z.heap "java/lang/StringUTF16" "$assertionsDisabled" "Z" (iV 1)) (SHI : Sta Z Z.heap "java/lang/StringUTF16" "HI_BYTE_SHIFT" "I" (iV 0)) (SLO : Sta Z Z.heap "java/lang/StringUTF16" "LO_BYTE_SHIFT" "I" (iV 8)) (X00 : Old Z n0 h0) :
  MetFree l yM9 (head1 (Jvm.Cond.code yM9 jdk_52_method_16_code 6 (some (.array .byte)) :: ws) ({ frames := 3, cells := 2, slots := 3, locals := 40 } : Room)) (fun a U => a = #[(.ref a2), (iV 0), (iV 1)] ∧ Z.Warmed39 U.vm ∧ U.heap = h0) (fun _ _ _ _ _ => True) (fun _ U o U' => ∃ v L, o = .returned v ∧ (Q_cp3_1 Z a2 kC c0 h0 n0) v U'.heap L ∧ FrameEnd U o U' L ({ frames := 3, cells := 2, slots := 3, locals := 40 } : Room).cells ({ frames := 3, cells := 2, slots := 3, locals := 40 } : Room).slots) := by
 refine MetFree.of_bodySF (plainFor_of_name pn_3) hisR ?_
 intro p e s m args below meth c s₁ Bd hml0 hP hK
 obtain ⟨rfl, hZ, hHp⟩ := hP
 have hx := Bd.exec
 have D := fun {pc : Nat} {r} (h : decode _ pc = r) => hb Bd.bytes h
 have hml : c.maxLocals = 6 := hml0
 have hown : s.vm.findClass "java/lang/StringUTF16" = some m.cls := findClass_of_methodNamed Bd.named
 have hnm := (name_of_methodNamed Bd.named Bd.method).1
 have X0 : Stand p l e ({ frames := 3, cells := 2, slots := 3, locals := 40 } : Room) s m #[(.ref a2), (iV 0), (iV 1)] below meth c s₁ [] 0 0 := Stand.of_body Bd
 have e0 : s₁.heap = h0 := by rw [← hHp, Bd.state]; rfl
 have N0 := Fr.nil n0
 refine ownOut (P := (Q_cp3_1 Z a2 kC c0 h0 n0)) ?_
 refine ownBy (A := s₁.setTop (mkF m 0 #[vR a2, vI 0, vI 1, .unset, .unset, .unset] [])) (fun t k => castTop (ef_cp3_1 m a2 (0 : Int32) (1 : Int32)) k) ?_
 refine ownBy (A := s₁.setTop (fr_cp3_1 m a2 1 .unset .unset .unset [(iV 1)])) (fun t kt => ?_) ?_
 ·refine XS.iloadN X0.here hx rfl (D d15_0) rfl ?_
  exact kt
 obtain ⟨T21, h21, k21, X21, e21, E21, A21, st21⟩ := newP X0 hx hZ (aty := .byte) (Wd21 hw) e0 (g := (fr_cp3_1 m a2 1 .unset .unset .unset [(iV 1)])) rfl (D d15_1) rfl (by decide : ¬ ((1 : Int32) < (0 : Int32))) (cap := 1) (by decide) (by decide) (by decide) (by decide)
 obtain ⟨b21, g21⟩ : ∃ z, z = h0.size := ⟨_, rfl⟩
 rw [← g21] at A21 st21
 have ne22 : a2 ≠ b21 := Nat.ne_of_lt (Nat.lt_of_lt_of_le A2.lt (Nat.le_of_eq g21.symm))
 have g23 : n0 ≤ b21 := Nat.le_trans Z0 (Nat.le_of_eq g21.symm)
 have z24 : h0.size ≤ b21 := Nat.le_trans (Nat.le_refl h0.size) (Nat.le_of_eq g21.symm)
 have V25 : Arv Z h21 b21 k21 .byte (1 : Int32) [(iV 0)] (iV 0) := (Arv.new A21 (by decide)).pad (pad_rep [] (iV 0) 1)
 refine ownBy st21 ?_
 clear st21
 show ownG p.tables e below _ (T21.setTop (fr_cp3_1 m a2 3 .unset .unset .unset [(.ref b21)]))
 refine ownBy (A := T21.setTop (fr_cp3_1 m a2 9 (vR b21) .unset .unset [(iV 1), (iV 0), (.ref b21), (iV 0), (.ref a2)])) (fun t kt => ?_) ?_
 ·refine XS.astoreN X21.here hx rfl (D d15_3) rfl rfl (l' := #[vR a2, vI 0, vI 1, vR b21, .unset, .unset]) rfl ?_
  refine XS.aloadN X21.here hx rfl (D d15_4) rfl rfl ?_
  refine XS.iloadN X21.here hx rfl (D d15_5) rfl ?_
  refine XS.aloadN X21.here hx rfl (D d15_6) rfl rfl ?_
  show Steps p.tables e below (T21.setTop (fr_cp3_1 m a2 7 (vR b21) .unset .unset [(.ref b21), (iV 0), (.ref a2)])) t
  refine XS.iconst X21.here hx rfl (D d15_7) ?_
  refine XS.iloadN X21.here hx rfl (D d15_8) rfl ?_
  exact kt
 have f26 := (A2.ext E21)
 have f27 := (Nat.le_trans Z0 E21.1)
 obtain ⟨vv28, _, ⟨T28, L28, k28, n28⟩, -, X28, ⟨Lc28, hQ28, l28, y28, z28⟩, st28⟩ := Jvm.LawKit.callS X21 hx (y := yM8) hown (mvT hZ (Wd76 hw)) (mvT hZ (Wd77 hw)) (mvT hZ (Wd74 hw)) (mvT hZ (Wd78 hw)) (by decide) (backOf (W := 0) (c_cp5_1 l Z a0 hw [] a2 kC b21 k21 c0 h21 n0 f27 f26 V25 g23 ne22) hZ (Wd78 hw) (Wd74 hw) (by decide) (by decide)) (g := (fr_cp3_1 m a2 9 (vR b21) .unset .unset [(iV 1), (iV 0), (.ref b21), (iV 0), (.ref a2)])) rfl (by rw [hml]; rfl) (argsL := [(.ref a2), (iV 0), (.ref b21), (iV 0), (iV 1)]) (rest := []) (lenOf pd_7 rfl) rfl (by show 2 * 0 + _ ≤ _; exact Nat.le_of_eq rfl) (D d15_9) (fun _ _ => ⟨rfl, e21, (by decide : 1 + 0 ≤ _), (by decide : 1 + 0 ≤ _)⟩)
 dsimp only [Pt.U, Pt.locs, Pt.cells, Pt.slots] at X28 l28 y28 z28 st28 hQ28
 subst l28 y28 z28
 obtain ⟨r28, rfl, Nq28, Kq28, hB28⟩ := hQ28
 rcases hB28 with ⟨rfl, hn28_0, Aq28⟩ | hF
 ·skip
  have N29 := Fr.app N0 Nq28
  obtain ⟨Lh30, Xh30, Nh30⟩ := oHd 1 1 X28 N29 rfl rfl
  refine ownBy st28 ?_
  clear st28
  show ownG p.tables e below _ (T28.setTop (fr_cp3_1 m a2 12 (vR b21) .unset .unset [(iV 1)]))
  refine ownBy (A := T28.setTop (fr_cp3_1 m a2 58 (vR b21) (vI 1) .unset [(.ref b21)])) (fun t kt => ?_) ?_
  ·refine XS.istore Xh30.here hx rfl (D d15_12) rfl (l' := #[vR a2, vI 0, vI 1, vR b21, vI 1, .unset]) rfl ?_
   refine XS.iload Xh30.here hx rfl (D d15_14) rfl ?_
   refine XS.iloadN Xh30.here hx rfl (D d15_16) rfl ?_
   refine XS.icmpYes Xh30.here hx rfl (pc0 := 17) (pc' := 57) rfl (D d15_17) rfl (teq ((by decide) : (1 : Int32) = (1 : Int32))).1 (by decide) (by decide) ?_
   show Steps p.tables e below (T28.setTop (fr_cp3_1 m a2 57 (vR b21) (vI 1) .unset [])) t
   refine XS.aloadN Xh30.here hx rfl (D d15_57) rfl rfl ?_
   exact kt
  have f31 := (((Keep.refl h0 []).ext E21).trans Kq28 (allS (Or.inr z24) all0))
  refine ownRet Xh30 Bd.notSynchronized (v := some (.ref b21)) (fun h => by rw [Bd.returns] at h; cases h) ?_ (oLe rfl) (oLe rfl) (fun fs hr => retOut Xh30 hx Bd.returns rfl (Or.inr (Or.inr (Or.inr (Or.inr ⟨rfl, rfl, rfl⟩)))) (D d15_58) hr)
  show (Q_cp3_1 Z a2 kC c0 h0 n0) (some (.ref b21)) T28.heap _
  exact ⟨b21, k21, rfl, Nh30, f31, z24, Or.inl ⟨hn28_0, Aq28⟩⟩
 ·skip
  have N32 := Fr.app N0 Nq28
  obtain ⟨Lh33, Xh33, Nh33⟩ := oHd 1 1 X28 N32 rfl rfl
  refine ownBy st28 ?_
  clear st28
  show ownG p.tables e below _ (T28.setTop (fr_cp3_1 m a2 12 (vR b21) .unset .unset [(.int r28)]))
  have hr : ¬ (r28 = (1 : Int32)) := by
   rcases hF with ⟨rfl, -⟩
   decide
  refine ownBy (A := T28.setTop (fr_cp3_1 m a2 23 (vR b21) (vI r28) .unset [(iV 1), (iV 0), (.ref a2)])) (fun t kt => ?_) ?_
  ·refine XS.istore Xh33.here hx rfl (D d15_12) rfl (l' := #[vR a2, vI 0, vI 1, vR b21, vI r28, .unset]) rfl ?_
   refine XS.iload Xh33.here hx rfl (D d15_14) rfl ?_
   refine XS.iloadN Xh33.here hx rfl (D d15_16) rfl ?_
   refine XS.icmpNo Xh33.here hx rfl (D d15_17) rfl (feq hr).1 ?_
   show Steps p.tables e below (T28.setTop (fr_cp3_1 m a2 20 (vR b21) (vI r28) .unset [])) t
   refine XS.aloadN Xh33.here hx rfl (D d15_20) rfl rfl ?_
   refine XS.iloadN Xh33.here hx rfl (D d15_21) rfl ?_
   refine XS.iloadN Xh33.here hx rfl (D d15_22) rfl ?_
   exact kt
  have f34 := (f26.keep Kq28 (ninS ne22 nin0))
  have f35 := ((X00.ext E21).keep Kq28 (allS g23 all0))
  have f36 := (Nat.le_trans f27 Kq28.1)
  obtain ⟨vv37, _, ⟨T37, L37, k37, n37⟩, -, X37, ⟨Lc37, hQ37, l37, y37, z37⟩, st37⟩ := Jvm.LawKit.callS Xh33 hx (y := yM7) hown (mvT hZ (Wd85 hw)) (mvT hZ (Wd86 hw)) (mvT hZ (Wd74 hw)) (mvT hZ (Wd87 hw)) (by decide) (backOf (W := 0) (c_tob1 l Z a0 hw [] a2 kC c0 T28.heap n0 f36 f34 SA SHI SLO f35) hZ (Wd87 hw) (Wd74 hw) (by decide) (by decide)) (g := (fr_cp3_1 m a2 23 (vR b21) (vI r28) .unset [(iV 1), (iV 0), (.ref a2)])) rfl (by rw [hml]; rfl) (argsL := [(.ref a2), (iV 0), (iV 1)]) (rest := []) (lenOf pd_8 rfl) rfl (by show 2 * 0 + _ ≤ _; exact Nat.le_of_eq rfl) (D d15_23) (fun _ _ => ⟨rfl, rfl, (by decide : 1 + 1 ≤ _), (by decide : 1 + 2 ≤ _)⟩)
  dsimp only [Pt.U, Pt.locs, Pt.cells, Pt.slots] at X37 l37 y37 z37 st37 hQ37
  subst l37 y37 z37
  obtain ⟨t37, kb37, rfl, Nq37, Kq37, zq37, Aq37⟩ := hQ37
  have ne38 : a2 ≠ t37 := Nat.ne_of_lt (Nat.lt_of_lt_of_le f34.lt zq37)
  have g39 : n0 ≤ t37 := Nat.le_trans f36 zq37
  have f41 := (Nat.le_trans (Nat.le_trans (Nat.le_refl h0.size) E21.1) Kq28.1)
  have z40 : h0.size ≤ t37 := Nat.le_trans f41 zq37
  have N42 := Fr.app Nh33 Nq37
  obtain ⟨Lh43, Xh43, Nh43⟩ := oHd 2 3 X37 N42 rfl rfl
  refine ownBy st37 ?_
  clear st37
  show ownG p.tables e below _ (T37.setTop (fr_cp3_1 m a2 26 (vR b21) (vI r28) .unset [(.ref t37)]))
  refine ownBy (A := T37.setTop (fr_cp3_1 m a2 32 (vR b21) (vI r28) (vR t37) [(.int r28), (.ref t37)])) (fun t kt => ?_) ?_
  ·refine XS.astore Xh43.here hx rfl (D d15_26) rfl rfl (l' := #[vR a2, vI 0, vI 1, vR b21, vI r28, vR t37]) rfl ?_
   refine XS.aload Xh43.here hx rfl (D d15_28) rfl rfl ?_
   refine XS.iload Xh43.here hx rfl (D d15_30) rfl ?_
   exact kt
  obtain ⟨cM, kM, q0, q1, k0, k1, u0, u1, hcM, hgM⟩ : ∃ (cM : Int32) (kM : Nat), (¬ (r28 <<< ((1 : Int32) &&& 31)) < 0 ∧ (r28 <<< ((1 : Int32) &&& 31)) < (2 : Int32)) ∧ (¬ ((r28 <<< ((1 : Int32) &&& 31)) + (1 : Int32)) < 0 ∧ ((r28 <<< ((1 : Int32) &&& 31)) + (1 : Int32)) < (2 : Int32)) ∧ (r28 <<< ((1 : Int32) &&& 31)).toNatClampNeg = kM ∧ ((r28 <<< ((1 : Int32) &&& 31)) + (1 : Int32)).toNatClampNeg = kM + 1 ∧ ([(.int (oW c0)), (.int (oH c0))] : List Value).getD kM (iV 0) = .int (oW cM) ∧ ([(.int (oW c0)), (.int (oH c0))] : List Value).getD (kM + 1) (iV 0) = .int (oH cM) ∧ (¬ cM < 0 ∧ ¬ (65535 : Int32) < cM) ∧ (255 : Int32) < cM := by
   rcases hF with ⟨rfl, h⟩
   ·exact ⟨c0, 0, by decide +kernel, by decide +kernel, by decide +kernel, by decide +kernel, rfl, rfl, hc0, h⟩
  have f44 := (f35.keep Kq37 all0)
  have f45 := (Nat.le_trans f36 Kq37.1)
  obtain ⟨vv46, _, ⟨T46, L46, k46, n46⟩, -, X46, ⟨Lc46, hQ46, l46, y46, z46⟩, st46⟩ := Jvm.LawKit.callS Xh43 hx (y := yM5) hown (mvT hZ (Wd101 hw)) (mvT hZ (Wd102 hw)) (mvT hZ (Wd74 hw)) (mvT hZ (Wd103 hw)) (by decide) (backOf (W := 0) (c_getc l Z a0 hw [] t37 kb37 (2 : Int32) [(.int (oW c0)), (.int (oH c0))] r28 cM kM T37.heap n0 f45 Aq37 q0 q1 k0 k1 u0 u1 hcM SA SHI SLO f44) hZ (Wd103 hw) (Wd74 hw) (by decide) (by decide)) (g := (fr_cp3_1 m a2 32 (vR b21) (vI r28) (vR t37) [(.int r28), (.ref t37)])) rfl (by rw [hml]; rfl) (argsL := [(.ref t37), (.int r28)]) (rest := []) (lenOf pd_9 rfl) rfl (by show 2 * 0 + _ ≤ _; exact Nat.le_of_eq rfl) (D d15_32) (fun _ _ => ⟨rfl, rfl, (by decide : 2 + 0 ≤ _), (by decide : 3 + 0 ≤ _)⟩)
  dsimp only [Pt.U, Pt.locs, Pt.cells, Pt.slots] at X46 l46 y46 z46 st46 hQ46
  subst l46 y46 z46
  obtain ⟨rfl, Nq46, Eq46⟩ := hQ46
  have N47 := Fr.app Nh43 Nq46
  obtain ⟨Lh48, Xh48, Nh48⟩ := oHd 2 3 X46 N47 rfl rfl
  refine ownBy st46 ?_
  clear st46
  show ownG p.tables e below _ (T46.setTop (fr_cp3_1 m a2 35 (vR b21) (vI r28) (vR t37) [(.int cM)]))
  refine ownBy (A := T46.setTop (fr_cp3_1 m a2 56 (vR b21) (vI r28) (vR t37) [(.ref t37)])) (fun t kt => ?_) ?_
  ·refine XS.sipush Xh48.here hx rfl (D d15_35) ?_
   refine XS.icmpYes Xh48.here hx rfl (pc0 := 38) (pc' := 54) rfl (D d15_38) rfl (tlt hgM).2.2.1 (by decide) (by decide) ?_
   refine XS.aload Xh48.here hx rfl (D d15_54) rfl rfl ?_
   exact kt
  have hg3 : (255 : Int32) < c0 := by
   rcases hF with ⟨-, h⟩
   ·exact h
  have f49 := ((((Keep.refl h0 []).ext E21).trans Kq28 (allS (Or.inr z24) all0)).trans Kq37 all0)
  refine ownRet Xh48 Bd.notSynchronized (v := some (.ref t37)) (fun h => by rw [Bd.returns] at h; cases h) ?_ (oLe rfl) (oLe rfl) (fun fs hr => retOut Xh48 hx Bd.returns rfl (Or.inr (Or.inr (Or.inr (Or.inr ⟨rfl, rfl, rfl⟩)))) (D d15_56) hr)
  show (Q_cp3_1 Z a2 kC c0 h0 n0) (some (.ref t37)) T46.heap _
  rw [Eq46]
  exact ⟨t37, kb37, rfl, Nh48, f49, z40, Or.inr ⟨hg3, Aq37⟩⟩
abbrev fr_ini4_1 (m : MethodId) (a1 : Addr) (a2 : Addr) (pc : Nat) (x5_ : Slot) (st : List Value) : JFrame := mkF m pc #[vR a1, vR a2, vI 0, vI 1, .val .null, x5_] st
def Q_ini4_1 (Z : State) (a1 : Addr) (a2 : Addr) (kC : ClassId) (c0 : Int32) (c9 : Value) (G1 : Int32) (h0 : Heap) (n0 : Nat) (v : Option Value) (h : Heap) (L : List Loc) : Prop := v = none ∧ Fr n0 L ∧ Keep h0 h [a1] ∧ Exa Z h a1 "java/lang/String" ∧ ∃ (ta : Addr) (kb : ClassId) (cd z : Int32) (vs : List Value), h0.size ≤ ta ∧ Fld Z h a1 "java/lang/String" "value" "[B" (.ref ta) ∧ Fld Z h a1 "java/lang/String" "coder" "B" (.int cd) ∧ Arv Z h ta kb .byte z vs (iV 0) ∧ ((cd = (0 : Int32) ∧ z = (1 : Int32) ∧ vs = [(.int (oL c0))] ∧ ¬ ((255 : Int32) < c0)) ∨ (cd = (1 : Int32) ∧ z = (2 : Int32) ∧ vs = [(.int (oW c0)), (.int (oH c0))] ∧ ((255 : Int32) < c0)))
theorem ef_ini4_1 (m : MethodId) (x0 : Addr) (x1 : Addr) (x2 : Int32) (x3 : Int32)  : entryFrame m #[(.ref x0), (.ref x1), (.int x2), (.int x3), .null] 6 = mkF m 0 #[vR x0, vR x1, vI x2, vI x3, .val .null, .unset] [] := by first | (simp [entryFrame, mkF, argsToLocals, Value.category]; done) | rfl
set_option maxRecDepth 65536 in
set_option maxHeartbeats 40000000 in
theorem c_ini4_1 (l : Launch) (Z : State) (a0 : Array Value) (hw : ∀ d ∈ tables_1, d.before a0 Z = true) (ws : List Jvm.Cond) (a1 : Addr) (a2 : Addr) (kC : ClassId) (c0 : Int32) (c9 : Value) (G1 : Int32) (h0 : Heap) (n0 : Nat) (Z0 : n0 ≤ h0.size) (E1 : Exa Z h0 a1 "java/lang/String") (F1 : Fld Z h0 a1 "java/lang/String" "value" "[B" .null) (F2 : Fld Z h0 a1 "java/lang/String" "coder" "B" c9) (g1 : n0 ≤ a1) (ne1 : a1 ≠ a2) (A2 : Arv Z h0 a2 kC .char (1 : Int32) [(.int c0)] (iV 0)) (hc0 : ¬ c0 < 0 ∧ ¬ (65535 : Int32) < c0) (O2 : Sta Z Z.heap "java/lang/String" "COMPACT_STRINGS" "Z" (.int G1)) (P5 : ¬ (G1 = (0 : Int32))) (SA : Sta Z Z.heap "java/lang/StringUTF16" "$assertionsDisabled" "Z" (iV 1)) (SHI : Sta Z Z.heap "java/lang/StringUTF16" "HI_BYTE_SHIFT" "I" (iV 0)) (SLO : Sta Z Z.heap "java/lang/StringUTF16" "LO_BYTE_SHIFT" "I" (iV 8)) (X00 : Old Z n0 h0) :
  MetFree l yM0 (head1 (Jvm.Cond.code yM0 jdk_42_method_149_code 6 none :: ws) ({ frames := 4, cells := 2, slots := 3, locals := 58 } : Room)) (fun a U => a = #[(.ref a1), (.ref a2), (iV 0), (iV 1), .null] ∧ Z.Warmed39 U.vm ∧ U.heap = h0) (fun _ _ _ _ _ => True) (fun _ U o U' => ∃ v L, o = .returned v ∧ (Q_ini4_1 Z a1 a2 kC c0 c9 G1 h0 n0) v U'.heap L ∧ FrameEnd U o U' L ({ frames := 4, cells := 2, slots := 3, locals := 58 } : Room).cells ({ frames := 4, cells := 2, slots := 3, locals := 58 } : Room).slots) := by
 refine MetFree.of_bodySF (plainFor_of_name pn_1) hisR ?_
 intro p e s m args below meth c s₁ Bd hml0 hP hK
 obtain ⟨rfl, hZ, hHp⟩ := hP
 have hx := Bd.exec
 have D := fun {pc : Nat} {r} (h : decode _ pc = r) => hb Bd.bytes h
 have hml : c.maxLocals = 6 := hml0
 have hown : s.vm.findClass "java/lang/String" = some m.cls := findClass_of_methodNamed Bd.named
 have hnm := (name_of_methodNamed Bd.named Bd.method).1
 have X0 : Stand p l e ({ frames := 4, cells := 2, slots := 3, locals := 58 } : Room) s m #[(.ref a1), (.ref a2), (iV 0), (iV 1), .null] below meth c s₁ [] 0 0 := Stand.of_body Bd
 have e0 : s₁.heap = h0 := by rw [← hHp, Bd.state]; rfl
 have N0 := Fr.nil n0
 refine ownOut (P := (Q_ini4_1 Z a1 a2 kC c0 c9 G1 h0 n0)) ?_
 refine ownBy (A := s₁.setTop (mkF m 0 #[vR a1, vR a2, vI 0, vI 1, .val .null, .unset] [])) (fun t k => castTop (ef_ini4_1 m a1 a2 (0 : Int32) (1 : Int32)) k) ?_
 refine ownBy (A := s₁.setTop (fr_ini4_1 m a1 a2 1 .unset [(.ref a1)])) (fun t kt => ?_) ?_
 ·refine XS.aloadN X0.here hx rfl (D d3_0) rfl rfl ?_
  exact kt
 obtain ⟨T21, X21, e21, st21⟩ := initO X0 hx hZ hown (Wd17 hw) (Wd18 hw) (Wd19 hw) e0 (g := (fr_ini4_1 m a1 a2 1 .unset [(.ref a1)])) rfl (by rw [hml]; rfl) rfl (D d3_1) (by decide) (W := 0) (by show 2 * 0 + _ ≤ _; exact Nat.le_of_eq rfl) (by decide)
 refine ownBy st21 ?_
 clear st21
 show ownG p.tables e below _ (T21.setTop (fr_ini4_1 m a1 a2 4 .unset []))
 refine ownBy (A := T21.setTop (fr_ini4_1 m a1 a2 27 .unset [])) (fun t kt => ?_) ?_
 ·refine XS.iloadN X21.here hx rfl (D d3_4) rfl ?_
  refine XS.ifYes X21.here hx rfl (pc0 := 5) (pc' := 27) rfl (D d3_5) rfl ((if0 _ _).trans (feq ((by decide) : ¬ ((1 : Int32) = (0 : Int32)))).2) (by decide) (by decide) ?_
  exact kt
 obtain ⟨T22, X22, e22, st22⟩ := getS2 X21 hx hZ hown (host := "") (Or.inl (Wd47 hw)) Via.refl e21 (O2.ext X00.2) (g := (fr_ini4_1 m a1 a2 27 .unset [])) rfl (D d3_27)
 refine ownBy st22 ?_
 clear st22
 show ownG p.tables e below _ (T22.setTop (fr_ini4_1 m a1 a2 30 .unset [(.int G1)]))
 refine ownBy (A := T22.setTop (fr_ini4_1 m a1 a2 36 .unset [(iV 1), (iV 0), (.ref a2)])) (fun t kt => ?_) ?_
 ·refine XS.ifNo X22.here hx rfl (D d3_30) rfl ((if0 _ _).trans (feq P5).1) ?_
  refine XS.aloadN X22.here hx rfl (D d3_33) rfl rfl ?_
  refine XS.iloadN X22.here hx rfl (D d3_34) rfl ?_
  refine XS.iloadN X22.here hx rfl (D d3_35) rfl ?_
  exact kt
 obtain ⟨vv23, _, ⟨T23, L23, k23, n23⟩, -, X23, ⟨Lc23, hQ23, l23, y23, z23⟩, st23⟩ := Jvm.LawKit.callS X22 hx (y := yM9) hown (mvT hZ (Wd72 hw)) (mvT hZ (Wd73 hw)) (mvT hZ (Wd74 hw)) (mvT hZ (Wd75 hw)) (by decide) (backOf (W := 0) (c_cp3_1 l Z a0 hw [] a2 kC c0 h0 n0 Z0 A2 hc0 SA SHI SLO X00) hZ (Wd75 hw) (Wd74 hw) (by decide) (by decide)) (g := (fr_ini4_1 m a1 a2 36 .unset [(iV 1), (iV 0), (.ref a2)])) rfl (by rw [hml]; rfl) (argsL := [(.ref a2), (iV 0), (iV 1)]) (rest := []) (lenOf pd_8 rfl) rfl (by show 2 * 0 + _ ≤ _; exact Nat.le_of_eq rfl) (D d3_36) (fun _ _ => ⟨rfl, e22, (by decide : 0 + 2 ≤ _), (by decide : 0 + 3 ≤ _)⟩)
 dsimp only [Pt.U, Pt.locs, Pt.cells, Pt.slots] at X23 l23 y23 z23 st23 hQ23
 subst l23 y23 z23
 obtain ⟨t23, kb23, rfl, Nq23, Kq23, zq23, hB23⟩ := hQ23
 have ne24 : a1 ≠ t23 := Nat.ne_of_lt (Nat.lt_of_lt_of_le E1.lt zq23)
 have ne25 : a2 ≠ t23 := Nat.ne_of_lt (Nat.lt_of_lt_of_le A2.lt zq23)
 have g26 : n0 ≤ t23 := Nat.le_trans Z0 zq23
 have z27 : h0.size ≤ t23 := Nat.le_trans (Nat.le_refl h0.size) zq23
 rcases hB23 with ⟨hn23_0, Aq23⟩ | ⟨hg23, Aq23⟩
 ·skip
  have N28 := Fr.app N0 Nq23
  obtain ⟨Lh29, Xh29, Nh29⟩ := oHd 2 3 X23 N28 rfl rfl
  refine ownBy st23 ?_
  clear st23
  show ownG p.tables e below _ (T23.setTop (fr_ini4_1 m a1 a2 39 .unset [(.ref t23)]))
  refine ownBy (A := T23.setTop (fr_ini4_1 m a1 a2 45 (vR t23) [(iV 1), (.ref t23), (.ref a1)])) (fun t kt => ?_) ?_
  ·refine XS.astore Xh29.here hx rfl (D d3_39) rfl rfl (l' := #[vR a1, vR a2, vI 0, vI 1, .val .null, vR t23]) rfl ?_
   refine XS.aloadN Xh29.here hx rfl (D d3_41) rfl rfl ?_
   refine XS.aload Xh29.here hx rfl (D d3_42) rfl rfl ?_
   refine XS.iloadN Xh29.here hx rfl (D d3_44) rfl ?_
   exact kt
  have f30 := (Nat.le_trans Z0 Kq23.1)
  obtain ⟨vv31, _, ⟨T31, L31, k31, n31⟩, -, X31, ⟨Lc31, hQ31, l31, y31, z31⟩, st31⟩ := Jvm.LawKit.callS Xh29 hx (y := yM4) hown (mvT hZ (Wd79 hw)) (mvT hZ (Wd80 hw)) (mvT hZ (Wd74 hw)) (mvT hZ (Wd81 hw)) (by decide) (backOf (W := 1) (c_cfa l Z a0 hw [] t23 kb23 (1 : Int32) _ (1 : Int32) (0 : Int32) T23.heap n0 f30 Aq23 (by decide +kernel)) hZ (Wd81 hw) (Wd74 hw) (by decide) (by decide)) (g := (fr_ini4_1 m a1 a2 45 (vR t23) [(iV 1), (.ref t23), (.ref a1)])) rfl (by rw [hml]; rfl) (argsL := [(.ref t23), (iV 1)]) (rest := [(.ref a1)]) (lenOf pd_10 rfl) rfl (by show 2 * 0 + _ ≤ _; exact Nat.le_of_eq rfl) (D d3_45) (fun _ _ => ⟨rfl, rfl, (by decide : 2 + 0 ≤ _), (by decide : 3 + 0 ≤ _)⟩)
  dsimp only [Pt.U, Pt.locs, Pt.cells, Pt.slots] at X31 l31 y31 z31 st31 hQ31
  subst l31 y31 z31
  obtain ⟨rfl, Nq31, Eq31⟩ := hQ31
  have N32 := Fr.app Nh29 Nq31
  obtain ⟨Lh33, Xh33, Nh33⟩ := oHd 2 3 X31 N32 rfl rfl
  refine ownBy st31 ?_
  clear st31
  show ownG p.tables e below _ (T31.setTop (fr_ini4_1 m a1 a2 48 (vR t23) [(iV 0), (.ref a1)]))
  have f35 := (F2.keep Kq23 nin0)
  have f36 := (E1.keep Kq23)
  obtain ⟨T34, h34, X34, e34, W34, st34⟩ := putFN Xh33 hx hZ hown (Wd27 hw) Via.refl Eq31 f35 f36 (Or.inr ⟨(Wd23 hw), rfl, hnm⟩) (Wd8 hw) (ty := .byte) (v' := (iV 0)) (by decide) rfl (fits_nar_byte (0 : Int32)) (g := (fr_ini4_1 m a1 a2 48 (vR t23) [(iV 0), (.ref a1)])) rfl rfl (D d3_48)
  have F37 := f35.same W34
  have N38 := Fr.snoc X34 Nh33 g1
  obtain ⟨Lh39, Xh39, Nh39⟩ := oHd 2 3 X34 N38 rfl rfl
  refine ownBy st34 ?_
  clear st34
  show ownG p.tables e below _ (T34.setTop (fr_ini4_1 m a1 a2 51 (vR t23) []))
  refine ownBy (A := T34.setTop (fr_ini4_1 m a1 a2 54 (vR t23) [(.ref t23), (.ref a1)])) (fun t kt => ?_) ?_
  ·refine XS.aloadN Xh39.here hx rfl (D d3_51) rfl rfl ?_
   refine XS.aload Xh39.here hx rfl (D d3_52) rfl rfl ?_
   exact kt
  have f41 := ((F1.keep Kq23 nin0).other W34 (Or.inr (slot_ne (Or.inr (Wd22 hw)) (Or.inr (Wd23 hw)) (by decide) (t := (.array .byte)) (t' := .byte) (by decide) (by decide))))
  have f42 := (f36.wr W34)
  obtain ⟨T40, h40, X40, e40, W40, st40⟩ := putF Xh39 hx hZ hown (host := "") (Or.inl (Wd26 hw)) Via.refl e34 f41 f42 (Or.inr ⟨(Wd22 hw), rfl, hnm⟩) (Wd8 hw) (ty := (.array .byte)) (by decide) rfl rfl (g := (fr_ini4_1 m a1 a2 54 (vR t23) [(.ref t23), (.ref a1)])) rfl rfl (D d3_54)
  have F43 := f41.same W40
  have N44 := Fr.snoc X40 Nh39 g1
  obtain ⟨Lh45, Xh45, Nh45⟩ := oHd 2 3 X40 N44 rfl rfl
  refine ownBy st40 ?_
  clear st40
  show ownG p.tables e below _ (T40.setTop (fr_ini4_1 m a1 a2 57 (vR t23) []))
  have f46 := ((((Keep.refl h0 [a1]).trans Kq23 all0).wr W34 (Or.inl (List.mem_of_getElem? (i := 0) rfl))).wr W40 (Or.inl (List.mem_of_getElem? (i := 0) rfl)))
  have f47 := (f42.wr W40)
  have f48 := (F37.other W40 (Or.inr (slot_ne (Or.inr (Wd23 hw)) (Or.inr (Wd22 hw)) (by decide) (t := .byte) (t' := (.array .byte)) (by decide) (by decide))))
  have f49 := ((Aq23.other W34 (Ne.symm ne24)).other W40 (Ne.symm ne24))
  refine ownRet Xh45 Bd.notSynchronized (v := none) (fun _ => rfl) ?_ (oLe rfl) (oLe rfl) (fun fs hr => Xh45.returnOut hx Bd.returns (D d3_57) hr)
  show (Q_ini4_1 Z a1 a2 kC c0 c9 G1 h0 n0) (none) T40.heap _
  rw [e40]
  exact ⟨rfl, Nh45, f46, f47, t23, kb23, _, _, _, z27, F43, f48, f49, Or.inl ⟨rfl, rfl, rfl, hn23_0⟩⟩
 ·skip
  have N50 := Fr.app N0 Nq23
  obtain ⟨Lh51, Xh51, Nh51⟩ := oHd 2 3 X23 N50 rfl rfl
  refine ownBy st23 ?_
  clear st23
  show ownG p.tables e below _ (T23.setTop (fr_ini4_1 m a1 a2 39 .unset [(.ref t23)]))
  refine ownBy (A := T23.setTop (fr_ini4_1 m a1 a2 45 (vR t23) [(iV 1), (.ref t23), (.ref a1)])) (fun t kt => ?_) ?_
  ·refine XS.astore Xh51.here hx rfl (D d3_39) rfl rfl (l' := #[vR a1, vR a2, vI 0, vI 1, .val .null, vR t23]) rfl ?_
   refine XS.aloadN Xh51.here hx rfl (D d3_41) rfl rfl ?_
   refine XS.aload Xh51.here hx rfl (D d3_42) rfl rfl ?_
   refine XS.iloadN Xh51.here hx rfl (D d3_44) rfl ?_
   exact kt
  have f52 := (Nat.le_trans Z0 Kq23.1)
  obtain ⟨vv53, _, ⟨T53, L53, k53, n53⟩, -, X53, ⟨Lc53, hQ53, l53, y53, z53⟩, st53⟩ := Jvm.LawKit.callS Xh51 hx (y := yM4) hown (mvT hZ (Wd79 hw)) (mvT hZ (Wd80 hw)) (mvT hZ (Wd74 hw)) (mvT hZ (Wd81 hw)) (by decide) (backOf (W := 1) (c_cfa l Z a0 hw [] t23 kb23 (2 : Int32) _ (1 : Int32) (1 : Int32) T23.heap n0 f52 Aq23 (by decide +kernel)) hZ (Wd81 hw) (Wd74 hw) (by decide) (by decide)) (g := (fr_ini4_1 m a1 a2 45 (vR t23) [(iV 1), (.ref t23), (.ref a1)])) rfl (by rw [hml]; rfl) (argsL := [(.ref t23), (iV 1)]) (rest := [(.ref a1)]) (lenOf pd_10 rfl) rfl (by show 2 * 0 + _ ≤ _; exact Nat.le_of_eq rfl) (D d3_45) (fun _ _ => ⟨rfl, rfl, (by decide : 2 + 0 ≤ _), (by decide : 3 + 0 ≤ _)⟩)
  dsimp only [Pt.U, Pt.locs, Pt.cells, Pt.slots] at X53 l53 y53 z53 st53 hQ53
  subst l53 y53 z53
  obtain ⟨rfl, Nq53, Eq53⟩ := hQ53
  have N54 := Fr.app Nh51 Nq53
  obtain ⟨Lh55, Xh55, Nh55⟩ := oHd 2 3 X53 N54 rfl rfl
  refine ownBy st53 ?_
  clear st53
  show ownG p.tables e below _ (T53.setTop (fr_ini4_1 m a1 a2 48 (vR t23) [(iV 1), (.ref a1)]))
  have f57 := (F2.keep Kq23 nin0)
  have f58 := (E1.keep Kq23)
  obtain ⟨T56, h56, X56, e56, W56, st56⟩ := putFN Xh55 hx hZ hown (Wd27 hw) Via.refl Eq53 f57 f58 (Or.inr ⟨(Wd23 hw), rfl, hnm⟩) (Wd8 hw) (ty := .byte) (v' := (iV 1)) (by decide) rfl (fits_nar_byte (1 : Int32)) (g := (fr_ini4_1 m a1 a2 48 (vR t23) [(iV 1), (.ref a1)])) rfl rfl (D d3_48)
  have F59 := f57.same W56
  have N60 := Fr.snoc X56 Nh55 g1
  obtain ⟨Lh61, Xh61, Nh61⟩ := oHd 2 3 X56 N60 rfl rfl
  refine ownBy st56 ?_
  clear st56
  show ownG p.tables e below _ (T56.setTop (fr_ini4_1 m a1 a2 51 (vR t23) []))
  refine ownBy (A := T56.setTop (fr_ini4_1 m a1 a2 54 (vR t23) [(.ref t23), (.ref a1)])) (fun t kt => ?_) ?_
  ·refine XS.aloadN Xh61.here hx rfl (D d3_51) rfl rfl ?_
   refine XS.aload Xh61.here hx rfl (D d3_52) rfl rfl ?_
   exact kt
  have f63 := ((F1.keep Kq23 nin0).other W56 (Or.inr (slot_ne (Or.inr (Wd22 hw)) (Or.inr (Wd23 hw)) (by decide) (t := (.array .byte)) (t' := .byte) (by decide) (by decide))))
  have f64 := (f58.wr W56)
  obtain ⟨T62, h62, X62, e62, W62, st62⟩ := putF Xh61 hx hZ hown (host := "") (Or.inl (Wd26 hw)) Via.refl e56 f63 f64 (Or.inr ⟨(Wd22 hw), rfl, hnm⟩) (Wd8 hw) (ty := (.array .byte)) (by decide) rfl rfl (g := (fr_ini4_1 m a1 a2 54 (vR t23) [(.ref t23), (.ref a1)])) rfl rfl (D d3_54)
  have F65 := f63.same W62
  have N66 := Fr.snoc X62 Nh61 g1
  obtain ⟨Lh67, Xh67, Nh67⟩ := oHd 2 3 X62 N66 rfl rfl
  refine ownBy st62 ?_
  clear st62
  show ownG p.tables e below _ (T62.setTop (fr_ini4_1 m a1 a2 57 (vR t23) []))
  have f68 := ((((Keep.refl h0 [a1]).trans Kq23 all0).wr W56 (Or.inl (List.mem_of_getElem? (i := 0) rfl))).wr W62 (Or.inl (List.mem_of_getElem? (i := 0) rfl)))
  have f69 := (f64.wr W62)
  have f70 := (F59.other W62 (Or.inr (slot_ne (Or.inr (Wd23 hw)) (Or.inr (Wd22 hw)) (by decide) (t := .byte) (t' := (.array .byte)) (by decide) (by decide))))
  have f71 := ((Aq23.other W56 (Ne.symm ne24)).other W62 (Ne.symm ne24))
  refine ownRet Xh67 Bd.notSynchronized (v := none) (fun _ => rfl) ?_ (oLe rfl) (oLe rfl) (fun fs hr => Xh67.returnOut hx Bd.returns (D d3_57) hr)
  show (Q_ini4_1 Z a1 a2 kC c0 c9 G1 h0 n0) (none) T62.heap _
  rw [e62]
  exact ⟨rfl, Nh67, f68, f69, t23, kb23, _, _, _, z27, F65, f70, f71, Or.inr ⟨rfl, rfl, rfl, hg23⟩⟩
abbrev fr_inC_1 (m : MethodId) (a1 : Addr) (a2 : Addr) (pc : Nat)  (st : List Value) : JFrame := mkF m pc #[vR a1, vR a2] st
def Q_inC_1 (Z : State) (a1 : Addr) (a2 : Addr) (kC : ClassId) (c0 : Int32) (c9 : Value) (G1 : Int32) (h0 : Heap) (n0 : Nat) (v : Option Value) (h : Heap) (L : List Loc) : Prop := v = none ∧ Fr n0 L ∧ Keep h0 h [a1] ∧ Exa Z h a1 "java/lang/String" ∧ ∃ (ta : Addr) (kb : ClassId) (cd z : Int32) (vs : List Value), h0.size ≤ ta ∧ Fld Z h a1 "java/lang/String" "value" "[B" (.ref ta) ∧ Fld Z h a1 "java/lang/String" "coder" "B" (.int cd) ∧ Arv Z h ta kb .byte z vs (iV 0) ∧ ((cd = (0 : Int32) ∧ z = (1 : Int32) ∧ vs = [(.int (oL c0))] ∧ ¬ ((255 : Int32) < c0)) ∨ (cd = (1 : Int32) ∧ z = (2 : Int32) ∧ vs = [(.int (oW c0)), (.int (oH c0))] ∧ ((255 : Int32) < c0)))
theorem ef_inC_1 (m : MethodId) (x0 : Addr) (x1 : Addr)  : entryFrame m #[(.ref x0), (.ref x1)] 2 = mkF m 0 #[vR x0, vR x1] [] := by first | (simp [entryFrame, mkF, argsToLocals, Value.category]; done) | rfl
set_option maxRecDepth 65536 in
set_option maxHeartbeats 40000000 in
theorem c_inC_1 (l : Launch) (Z : State) (a0 : Array Value) (hw : ∀ d ∈ tables_1, d.before a0 Z = true) (ws : List Jvm.Cond) (a1 : Addr) (a2 : Addr) (kC : ClassId) (c0 : Int32) (c9 : Value) (G1 : Int32) (h0 : Heap) (n0 : Nat) (Z0 : n0 ≤ h0.size) (E1 : Exa Z h0 a1 "java/lang/String") (F1 : Fld Z h0 a1 "java/lang/String" "value" "[B" .null) (F2 : Fld Z h0 a1 "java/lang/String" "coder" "B" c9) (g1 : n0 ≤ a1) (ne1 : a1 ≠ a2) (A2 : Arv Z h0 a2 kC .char (1 : Int32) [(.int c0)] (iV 0)) (hc0 : ¬ c0 < 0 ∧ ¬ (65535 : Int32) < c0) (O2 : Sta Z Z.heap "java/lang/String" "COMPACT_STRINGS" "Z" (.int G1)) (P5 : ¬ (G1 = (0 : Int32))) (SA : Sta Z Z.heap "java/lang/StringUTF16" "$assertionsDisabled" "Z" (iV 1)) (SHI : Sta Z Z.heap "java/lang/StringUTF16" "HI_BYTE_SHIFT" "I" (iV 0)) (SLO : Sta Z Z.heap "java/lang/StringUTF16" "LO_BYTE_SHIFT" "I" (iV 8)) (X00 : Old Z n0 h0) :
  MetFree l yM1 (head1 (Jvm.Cond.code yM1 jdk_42_method_3_code 2 none :: ws) ({ frames := 5, cells := 2, slots := 3, locals := 75 } : Room)) (fun a U => a = #[(.ref a1), (.ref a2)] ∧ Z.Warmed39 U.vm ∧ U.heap = h0) (fun _ _ _ _ _ => True) (fun _ U o U' => ∃ v L, o = .returned v ∧ (Q_inC_1 Z a1 a2 kC c0 c9 G1 h0 n0) v U'.heap L ∧ FrameEnd U o U' L ({ frames := 5, cells := 2, slots := 3, locals := 75 } : Room).cells ({ frames := 5, cells := 2, slots := 3, locals := 75 } : Room).slots) := by
 refine MetFree.of_bodySF (plainFor_of_name pn_1) hisR ?_
 intro p e s m args below meth c s₁ Bd hml0 hP hK
 obtain ⟨rfl, hZ, hHp⟩ := hP
 have hx := Bd.exec
 have D := fun {pc : Nat} {r} (h : decode _ pc = r) => hb Bd.bytes h
 have hml : c.maxLocals = 2 := hml0
 have hown : s.vm.findClass "java/lang/String" = some m.cls := findClass_of_methodNamed Bd.named
 have hnm := (name_of_methodNamed Bd.named Bd.method).1
 have X0 : Stand p l e ({ frames := 5, cells := 2, slots := 3, locals := 75 } : Room) s m #[(.ref a1), (.ref a2)] below meth c s₁ [] 0 0 := Stand.of_body Bd
 have e0 : s₁.heap = h0 := by rw [← hHp, Bd.state]; rfl
 have N0 := Fr.nil n0
 refine ownOut (P := (Q_inC_1 Z a1 a2 kC c0 c9 G1 h0 n0)) ?_
 refine ownBy (A := s₁.setTop (mkF m 0 #[vR a1, vR a2] [])) (fun t k => castTop (ef_inC_1 m a1 a2) k) ?_
 refine ownBy (A := s₁.setTop (fr_inC_1 m a1 a2 4  [(.ref a2), (iV 0), (.ref a2), (.ref a1)])) (fun t kt => ?_) ?_
 ·refine XS.aloadN X0.here hx rfl (D d2_0) rfl rfl ?_
  refine XS.aloadN X0.here hx rfl (D d2_1) rfl rfl ?_
  refine XS.iconst X0.here hx rfl (D d2_2) ?_
  refine XS.aloadN X0.here hx rfl (D d2_3) rfl rfl ?_
  exact kt
 obtain ⟨cl21, Ar21, -, S21, N21, -, -⟩ := id A2
 have st21 := X0.arraylength hx (by rw [e0]; exact Ar21.1) (State.isArrayOf_alike hZ.alike Ar21.2.1) (g := (fr_inC_1 m a1 a2 4  [(.ref a2), (iV 0), (.ref a2), (.ref a1)])) rfl rfl (D d2_4)
 rw [len_of S21 N21] at st21
 refine ownBy st21 ?_
 show ownG p.tables e below _ (s₁.setTop (fr_inC_1 m a1 a2 5  [(iV 1), (iV 0), (.ref a2), (.ref a1)]))
 refine ownBy (A := s₁.setTop (fr_inC_1 m a1 a2 6  [.null, (iV 1), (iV 0), (.ref a2), (.ref a1)])) (fun t kt => ?_) ?_
 ·refine XS.aconstNull X0.here hx rfl (D d2_5) ?_
  exact kt
 obtain ⟨vv22, _, ⟨T22, L22, k22, n22⟩, -, X22, ⟨Lc22, hQ22, l22, y22, z22⟩, st22⟩ := X0.specialBack hx (y := yM0) rfl hown (mvT hZ (Wd13 hw)) (mvT hZ (Wd14 hw)) (mvT hZ (Wd16 hw)) (by decide) (backOf (W := 0) (c_ini4_1 l Z a0 hw [] a1 a2 kC c0 _ G1 h0 n0 Z0 E1 F1 F2 g1 ne1 A2 hc0 O2 P5 SA SHI SLO X00) hZ (Wd16 hw) (Wd9 hw) (by decide) (by decide)) (g := (fr_inC_1 m a1 a2 6  [.null, (iV 1), (iV 0), (.ref a2), (.ref a1)])) rfl (by rw [hml]; rfl) (Steps.refl _) (a := a1) (argsL := [(.ref a2), (iV 0), (iV 1), .null]) (rest := []) (lenOf pd_2 rfl) rfl (by show 2 * 0 + _ ≤ _; exact Nat.le_of_eq rfl) (D d2_6) (fun _ _ => ⟨rfl, e0, (by decide : 0 + 2 ≤ _), (by decide : 0 + 3 ≤ _)⟩)
 dsimp only [Pt.U, Pt.locs, Pt.cells, Pt.slots] at X22 l22 y22 z22 st22 hQ22
 subst l22 y22 z22
 obtain ⟨rfl, Nq22, Kq22, Eq22, t22, kb22, cd22, z22, vs22, zq22, Vq22, Cq22, Aq22, hrel22⟩ := hQ22
 have ne23 : a1 ≠ t22 := Nat.ne_of_lt (Nat.lt_of_lt_of_le E1.lt zq22)
 have ne24 : a2 ≠ t22 := Nat.ne_of_lt (Nat.lt_of_lt_of_le A2.lt zq22)
 have g25 : n0 ≤ t22 := Nat.le_trans Z0 zq22
 have z26 : h0.size ≤ t22 := Nat.le_trans (Nat.le_refl h0.size) zq22
 have N27 := Fr.app N0 Nq22
 obtain ⟨Lh28, Xh28, Nh28⟩ := oHd 2 3 X22 N27 rfl rfl
 refine ownSt st22 ?_
 clear st22
 show ownG p.tables e below _ (T22.setTop (fr_inC_1 m a1 a2 9  []))
 have f29 := ((Keep.refl h0 [a1]).trans Kq22 (allS (Or.inl (List.mem_of_getElem? (i := 0) rfl)) all0))
 have f30 := (E1.keep Kq22)
 refine ownRet Xh28 Bd.notSynchronized (v := none) (fun _ => rfl) ?_ (oLe rfl) (oLe rfl) (fun fs hr => Xh28.returnOut hx Bd.returns (D d2_9) hr)
 show (Q_inC_1 Z a1 a2 kC c0 c9 G1 h0 n0) (none) T22.heap _
 exact ⟨rfl, Nh28, f29, f30, t22, kb22, _, _, _, z26, Vq22, Cq22, Aq22, hrel22⟩
abbrev fr_nbf2 (m : MethodId)  (pc : Nat)  (st : List Value) : JFrame := mkF m pc #[vI 2] st
def Q_nbf2 (Z : State)  (h0 : Heap) (n0 : Nat) (v : Option Value) (h : Heap) (L : List Loc) : Prop := ∃ (ta : Addr) (kb : ClassId), v = some (.ref ta) ∧ Fr n0 L ∧ Keep h0 h [] ∧ h0.size ≤ ta ∧ Arv Z h ta kb .byte (4 : Int32) [(iV 0), (iV 0), (iV 0), (iV 0)] (iV 0)
theorem ef_nbf2 (m : MethodId) (x0 : Int32)  : entryFrame m #[(.int x0)] 1 = mkF m 0 #[vI x0] [] := by first | (simp [entryFrame, mkF, argsToLocals, Value.category]; done) | rfl
set_option maxRecDepth 65536 in
set_option maxHeartbeats 40000000 in
theorem c_nbf2 (l : Launch) (Z : State) (a0 : Array Value) (hw : ∀ d ∈ tables_1, d.before a0 Z = true) (ws : List Jvm.Cond)  (h0 : Heap) (n0 : Nat) (Z0 : n0 ≤ h0.size) :
  MetFree l yM6 (head1 (Jvm.Cond.code yM6 jdk_52_method_2_code 1 (some (.array .byte)) :: ws) ({ frames := 1, cells := 1, slots := 4, locals := 12 } : Room)) (fun a U => a = #[(iV 2)] ∧ Z.Warmed39 U.vm ∧ U.heap = h0) (fun _ _ _ _ _ => True) (fun _ U o U' => ∃ v L, o = .returned v ∧ (Q_nbf2 Z  h0 n0) v U'.heap L ∧ FrameEnd U o U' L ({ frames := 1, cells := 1, slots := 4, locals := 12 } : Room).cells ({ frames := 1, cells := 1, slots := 4, locals := 12 } : Room).slots) := by
 refine MetFree.of_bodySF (plainFor_of_name pn_3) hisR ?_
 intro p e s m args below meth c s₁ Bd hml0 hP hK
 obtain ⟨rfl, hZ, hHp⟩ := hP
 have hx := Bd.exec
 have D := fun {pc : Nat} {r} (h : decode _ pc = r) => hb Bd.bytes h
 have hml : c.maxLocals = 1 := hml0
 have hown : s.vm.findClass "java/lang/StringUTF16" = some m.cls := findClass_of_methodNamed Bd.named
 have hnm := (name_of_methodNamed Bd.named Bd.method).1
 have X0 : Stand p l e ({ frames := 1, cells := 1, slots := 4, locals := 12 } : Room) s m #[(iV 2)] below meth c s₁ [] 0 0 := Stand.of_body Bd
 have e0 : s₁.heap = h0 := by rw [← hHp, Bd.state]; rfl
 have N0 := Fr.nil n0
 refine ownOut (P := (Q_nbf2 Z  h0 n0)) ?_
 refine ownBy (A := s₁.setTop (mkF m 0 #[vI 2] [])) (fun t k => castTop (ef_nbf2 m (2 : Int32)) k) ?_
 refine ownBy (A := s₁.setTop (fr_nbf2 m  1  [(iV 2)])) (fun t kt => ?_) ?_
 ·refine XS.iloadN X0.here hx rfl (D d20_0) rfl ?_
  exact kt
 obtain ⟨vv21, _, ⟨T21, L21, k21, n21⟩, -, X21, ⟨Lc21, hQ21, l21, y21, z21⟩, st21⟩ := Jvm.LawKit.callS X0 hx (y := yM3) hown (mvT hZ (Wd91 hw)) (mvT hZ (Wd92 hw)) (mvT hZ (Wd74 hw)) (mvT hZ (Wd93 hw)) (by decide) (backOf (W := 0) (c_nbl l Z a0 hw [] (2 : Int32) (4 : Int32) h0 n0 Z0 (by decide) (by decide) (by decide +kernel)) hZ (Wd93 hw) (Wd74 hw) (by decide) (by decide)) (g := (fr_nbf2 m  1  [(iV 2)])) rfl (by rw [hml]; rfl) (argsL := [(iV 2)]) (rest := []) (lenOf pd_4 rfl) rfl (by show 2 * 0 + _ ≤ _; exact Nat.le_of_eq rfl) (D d20_1) (fun _ _ => ⟨rfl, e0, (by decide : 0 + 0 ≤ _), (by decide : 0 + 0 ≤ _)⟩)
 dsimp only [Pt.U, Pt.locs, Pt.cells, Pt.slots] at X21 l21 y21 z21 st21 hQ21
 subst l21 y21 z21
 obtain ⟨rfl, Nq21, Eq21⟩ := hQ21
 have N22 := Fr.app N0 Nq21
 obtain ⟨Lh23, Xh23, Nh23⟩ := oHd 0 0 X21 N22 rfl rfl
 refine ownBy st21 ?_
 clear st21
 show ownG p.tables e below _ (T21.setTop (fr_nbf2 m  4  [(iV 4)]))
 obtain ⟨T24, h24, k24, X24, e24, E24, A24, st24⟩ := newP Xh23 hx hZ (aty := .byte) (Wd21 hw) Eq21 (g := (fr_nbf2 m  4  [(iV 4)])) rfl (D d20_4) rfl (by decide : ¬ ((4 : Int32) < (0 : Int32))) (cap := 4) (by decide) (by decide) (by decide) (by decide)
 obtain ⟨b24, g24⟩ : ∃ z, z = h0.size := ⟨_, rfl⟩
 rw [← g24] at A24 st24
 have g25 : n0 ≤ b24 := Nat.le_trans Z0 (Nat.le_of_eq g24.symm)
 have z26 : h0.size ≤ b24 := Nat.le_trans (Nat.le_refl h0.size) (Nat.le_of_eq g24.symm)
 have V27 : Arv Z h24 b24 k24 .byte (4 : Int32) [(iV 0), (iV 0), (iV 0), (iV 0)] (iV 0) := (Arv.new A24 (by decide)).pad (pad_rep [] (iV 0) 4)
 refine ownBy st24 ?_
 clear st24
 show ownG p.tables e below _ (T24.setTop (fr_nbf2 m  6  [(.ref b24)]))
 have f28 := ((Keep.refl h0 []).ext E24)
 refine ownRet X24 Bd.notSynchronized (v := some (.ref b24)) (fun h => by rw [Bd.returns] at h; cases h) ?_ (oLe rfl) (oLe rfl) (fun fs hr => retOut X24 hx Bd.returns rfl (Or.inr (Or.inr (Or.inr (Or.inr ⟨rfl, rfl, rfl⟩)))) (D d20_6) hr)
 show (Q_nbf2 Z  h0 n0) (some (.ref b24)) T24.heap _
 rw [e24]
 exact ⟨b24, k24, rfl, Nh23, f28, z26, V27⟩
abbrev fr_tob2 (m : MethodId) (a2 : Addr) (pc : Nat) (x1_ x3_ x4_ : Slot) (st : List Value) : JFrame := mkF m pc #[vR a2, x1_, vI 2, x3_, x4_] st
def Q_tob2 (Z : State) (a2 : Addr) (kC : ClassId) (c0 : Int32) (c1 : Int32) (h0 : Heap) (n0 : Nat) (v : Option Value) (h : Heap) (L : List Loc) : Prop := ∃ (ta : Addr) (kb : ClassId), v = some (.ref ta) ∧ Fr n0 L ∧ Keep h0 h [] ∧ h0.size ≤ ta ∧ Arv Z h ta kb .byte (4 : Int32) [(.int (oW c0)), (.int (oH c0)), (.int (oW c1)), (.int (oH c1))] (iV 0)
theorem ef_tob2 (m : MethodId) (x0 : Addr) (x1 : Int32) (x2 : Int32)  : entryFrame m #[(.ref x0), (.int x1), (.int x2)] 5 = mkF m 0 #[vR x0, vI x1, vI x2, .unset, .unset] [] := by first | (simp [entryFrame, mkF, argsToLocals, Value.category]; done) | rfl
set_option maxRecDepth 65536 in
set_option maxHeartbeats 40000000 in
theorem c_tob2 (l : Launch) (Z : State) (a0 : Array Value) (hw : ∀ d ∈ tables_1, d.before a0 Z = true) (ws : List Jvm.Cond) (a2 : Addr) (kC : ClassId) (c0 : Int32) (c1 : Int32) (h0 : Heap) (n0 : Nat) (Z0 : n0 ≤ h0.size) (A2 : Arv Z h0 a2 kC .char (2 : Int32) [(.int c0), (.int c1)] (iV 0)) (SA : Sta Z Z.heap "java/lang/StringUTF16" "$assertionsDisabled" "Z" (iV 1)) (SHI : Sta Z Z.heap "java/lang/StringUTF16" "HI_BYTE_SHIFT" "I" (iV 0)) (SLO : Sta Z Z.heap "java/lang/StringUTF16" "LO_BYTE_SHIFT" "I" (iV 8)) (X00 : Old Z n0 h0) :
  MetFree l yM7 (head1 (Jvm.Cond.code yM7 jdk_52_method_14_code 5 (some (.array .byte)) :: ws) ({ frames := 2, cells := 1, slots := 4, locals := 24 } : Room)) (fun a U => a = #[(.ref a2), (iV 0), (iV 2)] ∧ Z.Warmed39 U.vm ∧ U.heap = h0) (fun _ _ _ _ _ => True) (fun _ U o U' => ∃ v L, o = .returned v ∧ (Q_tob2 Z a2 kC c0 c1 h0 n0) v U'.heap L ∧ FrameEnd U o U' L ({ frames := 2, cells := 1, slots := 4, locals := 24 } : Room).cells ({ frames := 2, cells := 1, slots := 4, locals := 24 } : Room).slots) := by
 refine MetFree.of_bodySF (plainFor_of_name pn_3) hisR ?_
 intro p e s m args below meth c s₁ Bd hml0 hP hK
 obtain ⟨rfl, hZ, hHp⟩ := hP
 have hx := Bd.exec
 have D := fun {pc : Nat} {r} (h : decode _ pc = r) => hb Bd.bytes h
 have hml : c.maxLocals = 5 := hml0
 have hown : s.vm.findClass "java/lang/StringUTF16" = some m.cls := findClass_of_methodNamed Bd.named
 have hnm := (name_of_methodNamed Bd.named Bd.method).1
 have X0 : Stand p l e ({ frames := 2, cells := 1, slots := 4, locals := 24 } : Room) s m #[(.ref a2), (iV 0), (iV 2)] below meth c s₁ [] 0 0 := Stand.of_body Bd
 have e0 : s₁.heap = h0 := by rw [← hHp, Bd.state]; rfl
 have N0 := Fr.nil n0
 refine ownOut (P := (Q_tob2 Z a2 kC c0 c1 h0 n0)) ?_
 refine ownBy (A := s₁.setTop (mkF m 0 #[vR a2, vI 0, vI 2, .unset, .unset] [])) (fun t k => castTop (ef_tob2 m a2 (0 : Int32) (2 : Int32)) k) ?_
 refine ownBy (A := s₁.setTop (fr_tob2 m a2 1 (vI 0) .unset .unset [(iV 2)])) (fun t kt => ?_) ?_
 ·refine XS.iloadN X0.here hx rfl (D d19_0) rfl ?_
  exact kt
 obtain ⟨vv21, _, ⟨T21, L21, k21, n21⟩, -, X21, ⟨Lc21, hQ21, l21, y21, z21⟩, st21⟩ := Jvm.LawKit.callS X0 hx (y := yM6) hown (mvT hZ (Wd88 hw)) (mvT hZ (Wd89 hw)) (mvT hZ (Wd74 hw)) (mvT hZ (Wd90 hw)) (by decide) (backOf (W := 0) (c_nbf2 l Z a0 hw []  h0 n0 Z0 ) hZ (Wd90 hw) (Wd74 hw) (by decide) (by decide)) (g := (fr_tob2 m a2 1 (vI 0) .unset .unset [(iV 2)])) rfl (by rw [hml]; rfl) (argsL := [(iV 2)]) (rest := []) (lenOf pd_5 rfl) rfl (by show 2 * 0 + _ ≤ _; exact Nat.le_of_eq rfl) (D d19_1) (fun _ _ => ⟨rfl, e0, (by decide : 0 + 1 ≤ _), (by decide : 0 + 4 ≤ _)⟩)
 dsimp only [Pt.U, Pt.locs, Pt.cells, Pt.slots] at X21 l21 y21 z21 st21 hQ21
 subst l21 y21 z21
 obtain ⟨t21, kb21, rfl, Nq21, Kq21, zq21, Aq21⟩ := hQ21
 have ne22 : a2 ≠ t21 := Nat.ne_of_lt (Nat.lt_of_lt_of_le A2.lt zq21)
 have g23 : n0 ≤ t21 := Nat.le_trans Z0 zq21
 have z24 : h0.size ≤ t21 := Nat.le_trans (Nat.le_refl h0.size) zq21
 have N25 := Fr.app N0 Nq21
 obtain ⟨Lh26, Xh26, Nh26⟩ := oHd 1 4 X21 N25 rfl rfl
 refine ownBy st21 ?_
 clear st21
 show ownG p.tables e below _ (T21.setTop (fr_tob2 m a2 4 (vI 0) .unset .unset [(.ref t21)]))
 refine ownBy (A := T21.setTop (fr_tob2 m a2 19 (vI 0) (vR t21) (vI 0) [(iV 0), (.ref a2), (iV 0), (.ref t21)])) (fun t kt => ?_) ?_
 ·refine XS.astoreN Xh26.here hx rfl (D d19_4) rfl rfl (l' := #[vR a2, vI 0, vI 2, vR t21, .unset]) rfl ?_
  refine XS.iconst Xh26.here hx rfl (D d19_5) ?_
  refine XS.istore Xh26.here hx rfl (D d19_6) rfl (l' := #[vR a2, vI 0, vI 2, vR t21, vI 0]) rfl ?_
  refine XS.iload Xh26.here hx rfl (D d19_8) rfl ?_
  show Steps p.tables e below (T21.setTop (fr_tob2 m a2 10 (vI 0) (vR t21) (vI 0) [(iV 0)])) t
  refine XS.iloadN Xh26.here hx rfl (D d19_10) rfl ?_
  refine XS.icmpNo Xh26.here hx rfl (D d19_11) rfl (tlt ((by decide) : (0 : Int32) < (2 : Int32))).2.1 ?_
  refine XS.aloadN Xh26.here hx rfl (D d19_14) rfl rfl ?_
  refine XS.iload Xh26.here hx rfl (D d19_15) rfl ?_
  show Steps p.tables e below (T21.setTop (fr_tob2 m a2 17 (vI 0) (vR t21) (vI 0) [(iV 0), (.ref t21)])) t
  refine XS.aloadN Xh26.here hx rfl (D d19_17) rfl rfl ?_
  refine XS.iloadN Xh26.here hx rfl (D d19_18) rfl ?_
  exact kt
 have f27 := (A2.keep Kq21 nin0)
 obtain ⟨cl28, Ar28, q28, S28, N28, H28, G28⟩ := id f27
 have hin28 : ¬ ((0 : Int32) < 0 ∨ cl28.slots.size ≤ ((0 : Int32)).toNatClampNeg) := inb_of S28 ⟨by decide, by decide⟩
 have hat28 : cl28.slots[((0 : Int32)).toNatClampNeg]? = some (.int c0) := H28.at hin28 rfl
 have st28 := Xh26.caload hx (j := (0 : Int32)) (v := (.int c0)) Ar28.1 (State.isArrayOf_alike hZ.alike Ar28.2.1) Ar28.2.2 hin28 hat28 (g := (fr_tob2 m a2 19 (vI 0) (vR t21) (vI 0) [(iV 0), (.ref a2), (iV 0), (.ref t21)])) rfl rfl (D d19_19)
 refine ownBy st28 ?_
 show ownG p.tables e below _ (T21.setTop (fr_tob2 m a2 20 (vI 0) (vR t21) (vI 0) [(.int c0), (iV 0), (.ref t21)]))
 have f29 := (X00.keep Kq21 all0)
 have f30 := (Nat.le_trans Z0 Kq21.1)
 obtain ⟨vv31, _, ⟨T31, L31, k31, n31⟩, -, X31, ⟨Lc31, hQ31, l31, y31, z31⟩, st31⟩ := Jvm.LawKit.callS Xh26 hx (y := yM2) hown (mvT hZ (Wd95 hw)) (mvT hZ (Wd96 hw)) (mvT hZ (Wd74 hw)) (mvT hZ (Wd97 hw)) (by decide) (backOf (W := 0) (c_put l Z a0 hw [] t21 kb21 (4 : Int32) [(iV 0), (iV 0), (iV 0), (iV 0)] (0 : Int32) c0 0 T21.heap n0 f30 Aq21 g23 ⟨by decide +kernel, by decide +kernel⟩ ⟨by decide +kernel, by decide +kernel⟩ (by decide +kernel) (by decide +kernel) (oLe rfl) SA SHI SLO f29) hZ (Wd97 hw) (Wd74 hw) (by decide) (by decide)) (g := (fr_tob2 m a2 20 (vI 0) (vR t21) (vI 0) [(.int c0), (iV 0), (.ref t21)])) rfl (by rw [hml]; rfl) (argsL := [(.ref t21), (iV 0), (.int c0)]) (rest := []) (lenOf pd_6 rfl) rfl (by show 2 * 0 + _ ≤ _; exact Nat.le_of_eq rfl) (D d19_20) (fun _ _ => ⟨rfl, rfl, (by decide : 1 + 0 ≤ _), (by decide : 4 + 0 ≤ _)⟩)
 dsimp only [Pt.U, Pt.locs, Pt.cells, Pt.slots] at X31 l31 y31 z31 st31 hQ31
 subst l31 y31 z31
 obtain ⟨rfl, Nq31, Kq31, Ap31⟩ := hQ31
 have Aq31 : Arv Z T31.heap t21 kb21 .byte (4 : Int32) [(.int (oW c0)), (.int (oH c0)), (iV 0), (iV 0)] (iV 0) := Ap31
 have N32 := Fr.app Nh26 Nq31
 obtain ⟨Lh33, Xh33, Nh33⟩ := oHd 1 4 X31 N32 rfl rfl
 refine ownBy st31 ?_
 clear st31
 show ownG p.tables e below _ (T31.setTop (fr_tob2 m a2 23 (vI 0) (vR t21) (vI 0) []))
 refine ownBy (A := T31.setTop (fr_tob2 m a2 19 (vI 1) (vR t21) (vI 1) [(iV 1), (.ref a2), (iV 1), (.ref t21)])) (fun t kt => ?_) ?_
 ·refine XS.iinc Xh33.here hx rfl (D d19_23) rfl (l' := #[vR a2, vI 1, vI 2, vR t21, vI 0]) rfl ?_
  refine XS.iinc Xh33.here hx rfl (D d19_26) rfl (l' := #[vR a2, vI 1, vI 2, vR t21, vI 1]) rfl ?_
  refine XS.goto Xh33.here hx rfl (pc0 := 29) (pc' := 8) rfl (D d19_29) (by decide) (by decide) ?_
  refine XS.iload Xh33.here hx rfl (D d19_8) rfl ?_
  show Steps p.tables e below (T31.setTop (fr_tob2 m a2 10 (vI 1) (vR t21) (vI 1) [(iV 1)])) t
  refine XS.iloadN Xh33.here hx rfl (D d19_10) rfl ?_
  refine XS.icmpNo Xh33.here hx rfl (D d19_11) rfl (tlt ((by decide) : (1 : Int32) < (2 : Int32))).2.1 ?_
  refine XS.aloadN Xh33.here hx rfl (D d19_14) rfl rfl ?_
  refine XS.iload Xh33.here hx rfl (D d19_15) rfl ?_
  show Steps p.tables e below (T31.setTop (fr_tob2 m a2 17 (vI 1) (vR t21) (vI 1) [(iV 1), (.ref t21)])) t
  refine XS.aloadN Xh33.here hx rfl (D d19_17) rfl rfl ?_
  refine XS.iloadN Xh33.here hx rfl (D d19_18) rfl ?_
  exact kt
 have f34 := (f27.keep Kq31 (ninS ne22 nin0))
 obtain ⟨cl35, Ar35, q35, S35, N35, H35, G35⟩ := id f34
 have hin35 : ¬ ((1 : Int32) < 0 ∨ cl35.slots.size ≤ ((1 : Int32)).toNatClampNeg) := inb_of S35 ⟨by decide, by decide⟩
 have hat35 : cl35.slots[((1 : Int32)).toNatClampNeg]? = some (.int c1) := H35.at hin35 rfl
 have st35 := Xh33.caload hx (j := (1 : Int32)) (v := (.int c1)) Ar35.1 (State.isArrayOf_alike hZ.alike Ar35.2.1) Ar35.2.2 hin35 hat35 (g := (fr_tob2 m a2 19 (vI 1) (vR t21) (vI 1) [(iV 1), (.ref a2), (iV 1), (.ref t21)])) rfl rfl (D d19_19)
 refine ownBy st35 ?_
 show ownG p.tables e below _ (T31.setTop (fr_tob2 m a2 20 (vI 1) (vR t21) (vI 1) [(.int c1), (iV 1), (.ref t21)]))
 have f36 := (f29.keep Kq31 (allS g23 all0))
 have f37 := (Nat.le_trans f30 Kq31.1)
 obtain ⟨vv38, _, ⟨T38, L38, k38, n38⟩, -, X38, ⟨Lc38, hQ38, l38, y38, z38⟩, st38⟩ := Jvm.LawKit.callS Xh33 hx (y := yM2) hown (mvT hZ (Wd95 hw)) (mvT hZ (Wd96 hw)) (mvT hZ (Wd74 hw)) (mvT hZ (Wd97 hw)) (by decide) (backOf (W := 0) (c_put l Z a0 hw [] t21 kb21 (4 : Int32) [(.int (oW c0)), (.int (oH c0)), (iV 0), (iV 0)] (1 : Int32) c1 2 T31.heap n0 f37 Aq31 g23 ⟨by decide +kernel, by decide +kernel⟩ ⟨by decide +kernel, by decide +kernel⟩ (by decide +kernel) (by decide +kernel) (oLe rfl) SA SHI SLO f36) hZ (Wd97 hw) (Wd74 hw) (by decide) (by decide)) (g := (fr_tob2 m a2 20 (vI 1) (vR t21) (vI 1) [(.int c1), (iV 1), (.ref t21)])) rfl (by rw [hml]; rfl) (argsL := [(.ref t21), (iV 1), (.int c1)]) (rest := []) (lenOf pd_6 rfl) rfl (by show 2 * 0 + _ ≤ _; exact Nat.le_of_eq rfl) (D d19_20) (fun _ _ => ⟨rfl, rfl, (by decide : 1 + 0 ≤ _), (by decide : 4 + 0 ≤ _)⟩)
 dsimp only [Pt.U, Pt.locs, Pt.cells, Pt.slots] at X38 l38 y38 z38 st38 hQ38
 subst l38 y38 z38
 obtain ⟨rfl, Nq38, Kq38, Ap38⟩ := hQ38
 have Aq38 : Arv Z T38.heap t21 kb21 .byte (4 : Int32) [(.int (oW c0)), (.int (oH c0)), (.int (oW c1)), (.int (oH c1))] (iV 0) := Ap38
 have N39 := Fr.app Nh33 Nq38
 obtain ⟨Lh40, Xh40, Nh40⟩ := oHd 1 4 X38 N39 rfl rfl
 refine ownBy st38 ?_
 clear st38
 show ownG p.tables e below _ (T38.setTop (fr_tob2 m a2 23 (vI 1) (vR t21) (vI 1) []))
 refine ownBy (A := T38.setTop (fr_tob2 m a2 33 (vI 2) (vR t21) (vI 2) [(.ref t21)])) (fun t kt => ?_) ?_
 ·refine XS.iinc Xh40.here hx rfl (D d19_23) rfl (l' := #[vR a2, vI 2, vI 2, vR t21, vI 1]) rfl ?_
  refine XS.iinc Xh40.here hx rfl (D d19_26) rfl (l' := #[vR a2, vI 2, vI 2, vR t21, vI 2]) rfl ?_
  refine XS.goto Xh40.here hx rfl (pc0 := 29) (pc' := 8) rfl (D d19_29) (by decide) (by decide) ?_
  refine XS.iload Xh40.here hx rfl (D d19_8) rfl ?_
  show Steps p.tables e below (T38.setTop (fr_tob2 m a2 10 (vI 2) (vR t21) (vI 2) [(iV 2)])) t
  refine XS.iloadN Xh40.here hx rfl (D d19_10) rfl ?_
  refine XS.icmpYes Xh40.here hx rfl (pc0 := 11) (pc' := 32) rfl (D d19_11) rfl (flt ((by decide) : ¬ ((2 : Int32) < (2 : Int32)))).2.1 (by decide) (by decide) ?_
  refine XS.aloadN Xh40.here hx rfl (D d19_32) rfl rfl ?_
  exact kt
 have f41 := ((((Keep.refl h0 []).trans Kq21 all0).trans Kq31 (allS (Or.inr z24) all0)).trans Kq38 (allS (Or.inr z24) all0))
 refine ownRet Xh40 Bd.notSynchronized (v := some (.ref t21)) (fun h => by rw [Bd.returns] at h; cases h) ?_ (oLe rfl) (oLe rfl) (fun fs hr => retOut Xh40 hx Bd.returns rfl (Or.inr (Or.inr (Or.inr (Or.inr ⟨rfl, rfl, rfl⟩)))) (D d19_33) hr)
 show (Q_tob2 Z a2 kC c0 c1 h0 n0) (some (.ref t21)) T38.heap _
 exact ⟨t21, kb21, rfl, Nh40, f41, z24, Aq38⟩
abbrev fr_cp5_2 (m : MethodId) (a2 : Addr) (ta : Addr) (pc : Nat) (x1_ x3_ x5_ x6_ : Slot) (st : List Value) : JFrame := mkF m pc #[vR a2, x1_, vR ta, x3_, vI 2, x5_, x6_] st
def Q_cp5_2 (Z : State) (a2 : Addr) (kC : ClassId) (ta : Addr) (kb : ClassId) (c0 : Int32) (c1 : Int32) (h0 : Heap) (n0 : Nat) (v : Option Value) (h : Heap) (L : List Loc) : Prop := ∃ r : Int32, v = some (.int r) ∧ Fr n0 L ∧ Keep h0 h [ta] ∧ ((r = (2 : Int32) ∧ ¬ ((255 : Int32) < c0) ∧ ¬ ((255 : Int32) < c1) ∧ Arv Z h ta kb .byte (2 : Int32) [(.int (oL c0)), (.int (oL c1))] (iV 0)) ∨ (r = (0 : Int32) ∧ (255 : Int32) < c0) ∨ (r = (1 : Int32) ∧ (255 : Int32) < c1))
theorem ef_cp5_2 (m : MethodId) (x0 : Addr) (x1 : Int32) (x2 : Addr) (x3 : Int32) (x4 : Int32)  : entryFrame m #[(.ref x0), (.int x1), (.ref x2), (.int x3), (.int x4)] 7 = mkF m 0 #[vR x0, vI x1, vR x2, vI x3, vI x4, .unset, .unset] [] := by first | (simp [entryFrame, mkF, argsToLocals, Value.category]; done) | rfl
set_option maxRecDepth 65536 in
set_option maxHeartbeats 40000000 in
theorem c_cp5_2 (l : Launch) (Z : State) (a0 : Array Value) (hw : ∀ d ∈ tables_1, d.before a0 Z = true) (ws : List Jvm.Cond) (a2 : Addr) (kC : ClassId) (ta : Addr) (kb : ClassId) (c0 : Int32) (c1 : Int32) (h0 : Heap) (n0 : Nat) (Z0 : n0 ≤ h0.size) (A2 : Arv Z h0 a2 kC .char (2 : Int32) [(.int c0), (.int c1)] (iV 0)) (At : Arv Z h0 ta kb .byte (2 : Int32) [(iV 0), (iV 0)] (iV 0)) (gt : n0 ≤ ta) (ne1 : a2 ≠ ta) :
  MetFree l yM8 (head1 (Jvm.Cond.code yM8 jdk_52_method_21_code 7 (some .int) :: ws) ({ frames := 0, cells := 0, slots := 0, locals := 0 } : Room)) (fun a U => a = #[(.ref a2), (iV 0), (.ref ta), (iV 0), (iV 2)] ∧ Z.Warmed39 U.vm ∧ U.heap = h0) (fun _ _ _ _ _ => True) (fun _ U o U' => ∃ v L, o = .returned v ∧ (Q_cp5_2 Z a2 kC ta kb c0 c1 h0 n0) v U'.heap L ∧ FrameEnd U o U' L ({ frames := 0, cells := 0, slots := 0, locals := 0 } : Room).cells ({ frames := 0, cells := 0, slots := 0, locals := 0 } : Room).slots) := by
 refine MetFree.of_bodySF (plainFor_of_name pn_3) hisR ?_
 intro p e s m args below meth c s₁ Bd hml0 hP hK
 obtain ⟨rfl, hZ, hHp⟩ := hP
 have hx := Bd.exec
 have D := fun {pc : Nat} {r} (h : decode _ pc = r) => hb Bd.bytes h
 have hml : c.maxLocals = 7 := hml0
 have hown : s.vm.findClass "java/lang/StringUTF16" = some m.cls := findClass_of_methodNamed Bd.named
 have hnm := (name_of_methodNamed Bd.named Bd.method).1
 have X0 : Stand p l e ({ frames := 0, cells := 0, slots := 0, locals := 0 } : Room) s m #[(.ref a2), (iV 0), (.ref ta), (iV 0), (iV 2)] below meth c s₁ [] 0 0 := Stand.of_body Bd
 have e0 : s₁.heap = h0 := by rw [← hHp, Bd.state]; rfl
 have N0 := Fr.nil n0
 refine ownOut (P := (Q_cp5_2 Z a2 kC ta kb c0 c1 h0 n0)) ?_
 refine ownBy (A := s₁.setTop (mkF m 0 #[vR a2, vI 0, vR ta, vI 0, vI 2, .unset, .unset] [])) (fun t k => castTop (ef_cp5_2 m a2 (0 : Int32) ta (0 : Int32) (2 : Int32)) k) ?_
 refine ownBy (A := s₁.setTop (fr_cp5_2 m a2 ta 12 (vI 0) (vI 0) (vI 0) .unset [(iV 0), (.ref a2)])) (fun t kt => ?_) ?_
 ·refine XS.iconst X0.here hx rfl (D d16_0) ?_
  refine XS.istore X0.here hx rfl (D d16_1) rfl (l' := #[vR a2, vI 0, vR ta, vI 0, vI 2, vI 0, .unset]) rfl ?_
  refine XS.iload X0.here hx rfl (D d16_3) rfl ?_
  refine XS.iload X0.here hx rfl (D d16_5) rfl ?_
  show Steps p.tables e below (s₁.setTop (fr_cp5_2 m a2 ta 7 (vI 0) (vI 0) (vI 0) .unset [(iV 2), (iV 0)])) t
  refine XS.icmpNo X0.here hx rfl (D d16_7) rfl (tlt ((by decide) : (0 : Int32) < (2 : Int32))).2.1 ?_
  refine XS.aloadN X0.here hx rfl (D d16_10) rfl rfl ?_
  refine XS.iloadN X0.here hx rfl (D d16_11) rfl ?_
  exact kt
 obtain ⟨cl21, Ar21, q21, S21, N21, H21, G21⟩ := id A2
 have hin21 : ¬ ((0 : Int32) < 0 ∨ cl21.slots.size ≤ ((0 : Int32)).toNatClampNeg) := inb_of S21 ⟨by decide, by decide⟩
 have hat21 : cl21.slots[((0 : Int32)).toNatClampNeg]? = some (.int c0) := H21.at hin21 rfl
 have st21 := X0.caload hx (j := (0 : Int32)) (v := (.int c0)) (by rw [e0]; exact Ar21.1) (State.isArrayOf_alike hZ.alike Ar21.2.1) Ar21.2.2 hin21 hat21 (g := (fr_cp5_2 m a2 ta 12 (vI 0) (vI 0) (vI 0) .unset [(iV 0), (.ref a2)])) rfl rfl (D d16_12)
 refine ownBy st21 ?_
 show ownG p.tables e below _ (s₁.setTop (fr_cp5_2 m a2 ta 13 (vI 0) (vI 0) (vI 0) .unset [(.int c0)]))
 refine ownBy (A := s₁.setTop (fr_cp5_2 m a2 ta 20 (vI 0) (vI 0) (vI 0) (vI c0) [(iV 255), (.int c0)])) (fun t kt => ?_) ?_
 ·refine XS.istore X0.here hx rfl (D d16_13) rfl (l' := #[vR a2, vI 0, vR ta, vI 0, vI 2, vI 0, vI c0]) rfl ?_
  refine XS.iload X0.here hx rfl (D d16_15) rfl ?_
  refine XS.sipush X0.here hx rfl (D d16_17) ?_
  exact kt
 by_cases hc22 : (255 : Int32) < c0
 ·skip
  refine ownBy (A := s₁.setTop (fr_cp5_2 m a2 ta 25 (vI 0) (vI 0) (vI 0) (vI c0) [(iV 0)])) (fun t kt => ?_) ?_
  ·refine XS.icmpNo X0.here hx rfl (D d16_20) rfl (tlt hc22).2.2.2 ?_
   refine XS.iload X0.here hx rfl (D d16_23) rfl ?_
   exact kt
  refine ownRet X0 Bd.notSynchronized (v := some (iV 0)) (fun h => by rw [Bd.returns] at h; cases h) ?_ (oLe rfl) (oLe rfl) (fun fs hr => retI X0 hx Bd.returns (D d16_25) hr)
  show (Q_cp5_2 Z a2 kC ta kb c0 c1 h0 n0) (some (iV 0)) s₁.heap _
  rw [e0]
  exact ⟨_, rfl, N0, (Keep.refl h0 [ta]), Or.inr (Or.inl ⟨rfl, hc22⟩)⟩
 ·skip
  refine ownBy (A := s₁.setTop (fr_cp5_2 m a2 ta 31 (vI 0) (vI 0) (vI 0) (vI c0) [(.int (c0.toInt8.toInt32)), (iV 0), (.ref ta)])) (fun t kt => ?_) ?_
  ·refine XS.icmpYes X0.here hx rfl (pc0 := 20) (pc' := 26) rfl (D d16_20) rfl (flt hc22).2.2.2 (by decide) (by decide) ?_
   refine XS.aloadN X0.here hx rfl (D d16_26) rfl rfl ?_
   refine XS.iloadN X0.here hx rfl (D d16_27) rfl ?_
   refine XS.iload X0.here hx rfl (D d16_28) rfl ?_
   show Steps p.tables e below (s₁.setTop (fr_cp5_2 m a2 ta 30 (vI 0) (vI 0) (vI 0) (vI c0) [(.int c0), (iV 0), (.ref ta)])) t
   refine XS.i2b X0.here hx rfl (D d16_30) rfl ?_
   exact kt
  obtain ⟨cl23, Ar23, q23, S23, N23, H23, G23⟩ := id At
  have hin23 : ¬ ((0 : Int32) < 0 ∨ cl23.slots.size ≤ ((0 : Int32)).toNatClampNeg) := inb_of S23 ⟨by decide, by decide⟩
  obtain ⟨T23, h23, X23, e23, W23, st23⟩ := stB X0 hx hZ e0 Ar23 (j := (0 : Int32)) hin23 (g := (fr_cp5_2 m a2 ta 31 (vI 0) (vI 0) (vI 0) (vI c0) [(.int (c0.toInt8.toInt32)), (iV 0), (.ref ta)])) rfl rfl (D d16_31)
  have V24 : Arv Z h23 ta kb .byte (2 : Int32) [(.int (nar .byte (c0.toInt8.toInt32))), (iV 0)] (iV 0) := Arv.set Ar23 q23 S23 N23 H23 G23 (fits_nar_byte _) W23 0 rfl (oLe rfl)
  rw [own_nar_byte c0] at V24
  clear hin23 G23 H23 N23 S23 q23 Ar23 cl23
  have N25 := Fr.snoc X23 N0 gt
  obtain ⟨Lh26, Xh26, Nh26⟩ := oHd 0 0 X23 N25 rfl rfl
  refine ownBy st23 ?_
  clear st23
  show ownG p.tables e below _ (T23.setTop (fr_cp5_2 m a2 ta 32 (vI 0) (vI 0) (vI 0) (vI c0) []))
  refine ownBy (A := T23.setTop (fr_cp5_2 m a2 ta 12 (vI 1) (vI 1) (vI 1) (vI c0) [(iV 1), (.ref a2)])) (fun t kt => ?_) ?_
  ·refine XS.iinc Xh26.here hx rfl (D d16_32) rfl (l' := #[vR a2, vI 1, vR ta, vI 0, vI 2, vI 0, vI c0]) rfl ?_
   refine XS.iinc Xh26.here hx rfl (D d16_35) rfl (l' := #[vR a2, vI 1, vR ta, vI 1, vI 2, vI 0, vI c0]) rfl ?_
   refine XS.iinc Xh26.here hx rfl (D d16_38) rfl (l' := #[vR a2, vI 1, vR ta, vI 1, vI 2, vI 1, vI c0]) rfl ?_
   refine XS.goto Xh26.here hx rfl (pc0 := 41) (pc' := 3) rfl (D d16_41) (by decide) (by decide) ?_
   show Steps p.tables e below (T23.setTop (fr_cp5_2 m a2 ta 3 (vI 1) (vI 1) (vI 1) (vI c0) [])) t
   refine XS.iload Xh26.here hx rfl (D d16_3) rfl ?_
   refine XS.iload Xh26.here hx rfl (D d16_5) rfl ?_
   refine XS.icmpNo Xh26.here hx rfl (D d16_7) rfl (tlt ((by decide) : (1 : Int32) < (2 : Int32))).2.1 ?_
   refine XS.aloadN Xh26.here hx rfl (D d16_10) rfl rfl ?_
   show Steps p.tables e below (T23.setTop (fr_cp5_2 m a2 ta 11 (vI 1) (vI 1) (vI 1) (vI c0) [(.ref a2)])) t
   refine XS.iloadN Xh26.here hx rfl (D d16_11) rfl ?_
   exact kt
  have f27 := (A2.other W23 ne1)
  obtain ⟨cl28, Ar28, q28, S28, N28, H28, G28⟩ := id f27
  have hin28 : ¬ ((1 : Int32) < 0 ∨ cl28.slots.size ≤ ((1 : Int32)).toNatClampNeg) := inb_of S28 ⟨by decide, by decide⟩
  have hat28 : cl28.slots[((1 : Int32)).toNatClampNeg]? = some (.int c1) := H28.at hin28 rfl
  have st28 := Xh26.caload hx (j := (1 : Int32)) (v := (.int c1)) (by rw [e23]; exact Ar28.1) (State.isArrayOf_alike hZ.alike Ar28.2.1) Ar28.2.2 hin28 hat28 (g := (fr_cp5_2 m a2 ta 12 (vI 1) (vI 1) (vI 1) (vI c0) [(iV 1), (.ref a2)])) rfl rfl (D d16_12)
  refine ownBy st28 ?_
  show ownG p.tables e below _ (T23.setTop (fr_cp5_2 m a2 ta 13 (vI 1) (vI 1) (vI 1) (vI c0) [(.int c1)]))
  refine ownBy (A := T23.setTop (fr_cp5_2 m a2 ta 20 (vI 1) (vI 1) (vI 1) (vI c1) [(iV 255), (.int c1)])) (fun t kt => ?_) ?_
  ·refine XS.istore Xh26.here hx rfl (D d16_13) rfl (l' := #[vR a2, vI 1, vR ta, vI 1, vI 2, vI 1, vI c1]) rfl ?_
   refine XS.iload Xh26.here hx rfl (D d16_15) rfl ?_
   refine XS.sipush Xh26.here hx rfl (D d16_17) ?_
   exact kt
  by_cases hc29 : (255 : Int32) < c1
  ·skip
   refine ownBy (A := T23.setTop (fr_cp5_2 m a2 ta 25 (vI 1) (vI 1) (vI 1) (vI c1) [(iV 1)])) (fun t kt => ?_) ?_
   ·refine XS.icmpNo Xh26.here hx rfl (D d16_20) rfl (tlt hc29).2.2.2 ?_
    refine XS.iload Xh26.here hx rfl (D d16_23) rfl ?_
    exact kt
   have f30 := ((Keep.refl h0 [ta]).wr W23 (Or.inl (List.mem_of_getElem? (i := 0) rfl)))
   refine ownRet Xh26 Bd.notSynchronized (v := some (iV 1)) (fun h => by rw [Bd.returns] at h; cases h) ?_ (oLe rfl) (oLe rfl) (fun fs hr => retI Xh26 hx Bd.returns (D d16_25) hr)
   show (Q_cp5_2 Z a2 kC ta kb c0 c1 h0 n0) (some (iV 1)) T23.heap _
   rw [e23]
   exact ⟨_, rfl, Nh26, f30, Or.inr (Or.inr (⟨rfl, hc29⟩))⟩
  ·skip
   refine ownBy (A := T23.setTop (fr_cp5_2 m a2 ta 31 (vI 1) (vI 1) (vI 1) (vI c1) [(.int (c1.toInt8.toInt32)), (iV 1), (.ref ta)])) (fun t kt => ?_) ?_
   ·refine XS.icmpYes Xh26.here hx rfl (pc0 := 20) (pc' := 26) rfl (D d16_20) rfl (flt hc29).2.2.2 (by decide) (by decide) ?_
    refine XS.aloadN Xh26.here hx rfl (D d16_26) rfl rfl ?_
    refine XS.iloadN Xh26.here hx rfl (D d16_27) rfl ?_
    refine XS.iload Xh26.here hx rfl (D d16_28) rfl ?_
    show Steps p.tables e below (T23.setTop (fr_cp5_2 m a2 ta 30 (vI 1) (vI 1) (vI 1) (vI c1) [(.int c1), (iV 1), (.ref ta)])) t
    refine XS.i2b Xh26.here hx rfl (D d16_30) rfl ?_
    exact kt
   obtain ⟨cl31, Ar31, q31, S31, N31, H31, G31⟩ := id V24
   have hin31 : ¬ ((1 : Int32) < 0 ∨ cl31.slots.size ≤ ((1 : Int32)).toNatClampNeg) := inb_of S31 ⟨by decide, by decide⟩
   obtain ⟨T31, h31, X31, e31, W31, st31⟩ := stB Xh26 hx hZ e23 Ar31 (j := (1 : Int32)) hin31 (g := (fr_cp5_2 m a2 ta 31 (vI 1) (vI 1) (vI 1) (vI c1) [(.int (c1.toInt8.toInt32)), (iV 1), (.ref ta)])) rfl rfl (D d16_31)
   have V32 : Arv Z h31 ta kb .byte (2 : Int32) [(.int (oL c0)), (.int (nar .byte (c1.toInt8.toInt32)))] (iV 0) := Arv.set Ar31 q31 S31 N31 H31 G31 (fits_nar_byte _) W31 1 rfl (oLe rfl)
   rw [own_nar_byte c1] at V32
   clear hin31 G31 H31 N31 S31 q31 Ar31 cl31 V24
   have N33 := Fr.snoc X31 Nh26 gt
   obtain ⟨Lh34, Xh34, Nh34⟩ := oHd 0 0 X31 N33 rfl rfl
   refine ownBy st31 ?_
   clear st31
   show ownG p.tables e below _ (T31.setTop (fr_cp5_2 m a2 ta 32 (vI 1) (vI 1) (vI 1) (vI c1) []))
   refine ownBy (A := T31.setTop (fr_cp5_2 m a2 ta 46 (vI 2) (vI 2) (vI 2) (vI c1) [(iV 2)])) (fun t kt => ?_) ?_
   ·refine XS.iinc Xh34.here hx rfl (D d16_32) rfl (l' := #[vR a2, vI 2, vR ta, vI 1, vI 2, vI 1, vI c1]) rfl ?_
    refine XS.iinc Xh34.here hx rfl (D d16_35) rfl (l' := #[vR a2, vI 2, vR ta, vI 2, vI 2, vI 1, vI c1]) rfl ?_
    refine XS.iinc Xh34.here hx rfl (D d16_38) rfl (l' := #[vR a2, vI 2, vR ta, vI 2, vI 2, vI 2, vI c1]) rfl ?_
    refine XS.goto Xh34.here hx rfl (pc0 := 41) (pc' := 3) rfl (D d16_41) (by decide) (by decide) ?_
    show Steps p.tables e below (T31.setTop (fr_cp5_2 m a2 ta 3 (vI 2) (vI 2) (vI 2) (vI c1) [])) t
    refine XS.iload Xh34.here hx rfl (D d16_3) rfl ?_
    refine XS.iload Xh34.here hx rfl (D d16_5) rfl ?_
    refine XS.icmpYes Xh34.here hx rfl (pc0 := 7) (pc' := 44) rfl (D d16_7) rfl (flt ((by decide) : ¬ ((2 : Int32) < (2 : Int32)))).2.1 (by decide) (by decide) ?_
    refine XS.iload Xh34.here hx rfl (D d16_44) rfl ?_
    exact kt
   have f35 := (((Keep.refl h0 [ta]).wr W23 (Or.inl (List.mem_of_getElem? (i := 0) rfl))).wr W31 (Or.inl (List.mem_of_getElem? (i := 0) rfl)))
   refine ownRet Xh34 Bd.notSynchronized (v := some (iV 2)) (fun h => by rw [Bd.returns] at h; cases h) ?_ (oLe rfl) (oLe rfl) (fun fs hr => retI Xh34 hx Bd.returns (D d16_46) hr)
   show (Q_cp5_2 Z a2 kC ta kb c0 c1 h0 n0) (some (iV 2)) T31.heap _
   rw [e31]
   exact ⟨_, rfl, Nh34, f35, Or.inl ⟨rfl, hc22, hc29, V32⟩⟩
abbrev fr_cp3_2 (m : MethodId) (a2 : Addr) (pc : Nat) (x3_ x4_ x5_ : Slot) (st : List Value) : JFrame := mkF m pc #[vR a2, vI 0, vI 2, x3_, x4_, x5_] st
def Q_cp3_2 (Z : State) (a2 : Addr) (kC : ClassId) (c0 : Int32) (c1 : Int32) (h0 : Heap) (n0 : Nat) (v : Option Value) (h : Heap) (L : List Loc) : Prop := ∃ (ta : Addr) (kb : ClassId), v = some (.ref ta) ∧ Fr n0 L ∧ Keep h0 h [] ∧ h0.size ≤ ta ∧ ((¬ ((255 : Int32) < c0) ∧ ¬ ((255 : Int32) < c1) ∧ Arv Z h ta kb .byte (2 : Int32) [(.int (oL c0)), (.int (oL c1))] (iV 0)) ∨ (((255 : Int32) < c0 ∨ (255 : Int32) < c1) ∧ Arv Z h ta kb .byte (4 : Int32) [(.int (oW c0)), (.int (oH c0)), (.int (oW c1)), (.int (oH c1))] (iV 0)))
theorem ef_cp3_2 (m : MethodId) (x0 : Addr) (x1 : Int32) (x2 : Int32)  : entryFrame m #[(.ref x0), (.int x1), (.int x2)] 6 = mkF m 0 #[vR x0, vI x1, vI x2, .unset, .unset, .unset] [] := by first | (simp [entryFrame, mkF, argsToLocals, Value.category]; done) | rfl
set_option maxRecDepth 65536 in
set_option maxHeartbeats 40000000 in
theorem c_cp3_2 (l : Launch) (Z : State) (a0 : Array Value) (hw : ∀ d ∈ tables_1, d.before a0 Z = true) (ws : List Jvm.Cond) (a2 : Addr) (kC : ClassId) (c0 : Int32) (c1 : Int32) (h0 : Heap) (n0 : Nat) (Z0 : n0 ≤ h0.size) (A2 : Arv Z h0 a2 kC .char (2 : Int32) [(.int c0), (.int c1)] (iV 0)) (hc0 : ¬ c0 < 0 ∧ ¬ (65535 : Int32) < c0) (hc1 : ¬ c1 < 0 ∧ ¬ (65535 : Int32) < c1) (SA : Sta Z Z.heap "java/lang/StringUTF16" "$assertionsDisabled" "Z" (iV 1)) (SHI : Sta Z Z.heap "java/lang/StringUTF16" "HI_BYTE_SHIFT" "I" (iV 0)) (SLO : Sta Z Z.heap "java/lang/StringUTF16" "LO_BYTE_SHIFT" "I" (iV 8)) (X00 : Old Z n0 h0) :
  MetFree l yM9 (head1 (Jvm.Cond.code yM9 jdk_52_method_16_code 6 (some (.array .byte)) :: ws) ({ frames := 3, cells := 2, slots := 6, locals := 40 } : Room)) (fun a U => a = #[(.ref a2), (iV 0), (iV 2)] ∧ Z.Warmed39 U.vm ∧ U.heap = h0) (fun _ _ _ _ _ => True) (fun _ U o U' => ∃ v L, o = .returned v ∧ (Q_cp3_2 Z a2 kC c0 c1 h0 n0) v U'.heap L ∧ FrameEnd U o U' L ({ frames := 3, cells := 2, slots := 6, locals := 40 } : Room).cells ({ frames := 3, cells := 2, slots := 6, locals := 40 } : Room).slots) := by
 refine MetFree.of_bodySF (plainFor_of_name pn_3) hisR ?_
 intro p e s m args below meth c s₁ Bd hml0 hP hK
 obtain ⟨rfl, hZ, hHp⟩ := hP
 have hx := Bd.exec
 have D := fun {pc : Nat} {r} (h : decode _ pc = r) => hb Bd.bytes h
 have hml : c.maxLocals = 6 := hml0
 have hown : s.vm.findClass "java/lang/StringUTF16" = some m.cls := findClass_of_methodNamed Bd.named
 have hnm := (name_of_methodNamed Bd.named Bd.method).1
 have X0 : Stand p l e ({ frames := 3, cells := 2, slots := 6, locals := 40 } : Room) s m #[(.ref a2), (iV 0), (iV 2)] below meth c s₁ [] 0 0 := Stand.of_body Bd
 have e0 : s₁.heap = h0 := by rw [← hHp, Bd.state]; rfl
 have N0 := Fr.nil n0
 refine ownOut (P := (Q_cp3_2 Z a2 kC c0 c1 h0 n0)) ?_
 refine ownBy (A := s₁.setTop (mkF m 0 #[vR a2, vI 0, vI 2, .unset, .unset, .unset] [])) (fun t k => castTop (ef_cp3_2 m a2 (0 : Int32) (2 : Int32)) k) ?_
 refine ownBy (A := s₁.setTop (fr_cp3_2 m a2 1 .unset .unset .unset [(iV 2)])) (fun t kt => ?_) ?_
 ·refine XS.iloadN X0.here hx rfl (D d15_0) rfl ?_
  exact kt
 obtain ⟨T21, h21, k21, X21, e21, E21, A21, st21⟩ := newP X0 hx hZ (aty := .byte) (Wd21 hw) e0 (g := (fr_cp3_2 m a2 1 .unset .unset .unset [(iV 2)])) rfl (D d15_1) rfl (by decide : ¬ ((2 : Int32) < (0 : Int32))) (cap := 2) (by decide) (by decide) (by decide) (by decide)
 obtain ⟨b21, g21⟩ : ∃ z, z = h0.size := ⟨_, rfl⟩
 rw [← g21] at A21 st21
 have ne22 : a2 ≠ b21 := Nat.ne_of_lt (Nat.lt_of_lt_of_le A2.lt (Nat.le_of_eq g21.symm))
 have g23 : n0 ≤ b21 := Nat.le_trans Z0 (Nat.le_of_eq g21.symm)
 have z24 : h0.size ≤ b21 := Nat.le_trans (Nat.le_refl h0.size) (Nat.le_of_eq g21.symm)
 have V25 : Arv Z h21 b21 k21 .byte (2 : Int32) [(iV 0), (iV 0)] (iV 0) := (Arv.new A21 (by decide)).pad (pad_rep [] (iV 0) 2)
 refine ownBy st21 ?_
 clear st21
 show ownG p.tables e below _ (T21.setTop (fr_cp3_2 m a2 3 .unset .unset .unset [(.ref b21)]))
 refine ownBy (A := T21.setTop (fr_cp3_2 m a2 9 (vR b21) .unset .unset [(iV 2), (iV 0), (.ref b21), (iV 0), (.ref a2)])) (fun t kt => ?_) ?_
 ·refine XS.astoreN X21.here hx rfl (D d15_3) rfl rfl (l' := #[vR a2, vI 0, vI 2, vR b21, .unset, .unset]) rfl ?_
  refine XS.aloadN X21.here hx rfl (D d15_4) rfl rfl ?_
  refine XS.iloadN X21.here hx rfl (D d15_5) rfl ?_
  refine XS.aloadN X21.here hx rfl (D d15_6) rfl rfl ?_
  show Steps p.tables e below (T21.setTop (fr_cp3_2 m a2 7 (vR b21) .unset .unset [(.ref b21), (iV 0), (.ref a2)])) t
  refine XS.iconst X21.here hx rfl (D d15_7) ?_
  refine XS.iloadN X21.here hx rfl (D d15_8) rfl ?_
  exact kt
 have f26 := (A2.ext E21)
 have f27 := (Nat.le_trans Z0 E21.1)
 obtain ⟨vv28, _, ⟨T28, L28, k28, n28⟩, -, X28, ⟨Lc28, hQ28, l28, y28, z28⟩, st28⟩ := Jvm.LawKit.callS X21 hx (y := yM8) hown (mvT hZ (Wd76 hw)) (mvT hZ (Wd77 hw)) (mvT hZ (Wd74 hw)) (mvT hZ (Wd78 hw)) (by decide) (backOf (W := 0) (c_cp5_2 l Z a0 hw [] a2 kC b21 k21 c0 c1 h21 n0 f27 f26 V25 g23 ne22) hZ (Wd78 hw) (Wd74 hw) (by decide) (by decide)) (g := (fr_cp3_2 m a2 9 (vR b21) .unset .unset [(iV 2), (iV 0), (.ref b21), (iV 0), (.ref a2)])) rfl (by rw [hml]; rfl) (argsL := [(.ref a2), (iV 0), (.ref b21), (iV 0), (iV 2)]) (rest := []) (lenOf pd_7 rfl) rfl (by show 2 * 0 + _ ≤ _; exact Nat.le_of_eq rfl) (D d15_9) (fun _ _ => ⟨rfl, e21, (by decide : 1 + 0 ≤ _), (by decide : 2 + 0 ≤ _)⟩)
 dsimp only [Pt.U, Pt.locs, Pt.cells, Pt.slots] at X28 l28 y28 z28 st28 hQ28
 subst l28 y28 z28
 obtain ⟨r28, rfl, Nq28, Kq28, hB28⟩ := hQ28
 rcases hB28 with ⟨rfl, hn28_0, hn28_1, Aq28⟩ | hF
 ·skip
  have N29 := Fr.app N0 Nq28
  obtain ⟨Lh30, Xh30, Nh30⟩ := oHd 1 2 X28 N29 rfl rfl
  refine ownBy st28 ?_
  clear st28
  show ownG p.tables e below _ (T28.setTop (fr_cp3_2 m a2 12 (vR b21) .unset .unset [(iV 2)]))
  refine ownBy (A := T28.setTop (fr_cp3_2 m a2 58 (vR b21) (vI 2) .unset [(.ref b21)])) (fun t kt => ?_) ?_
  ·refine XS.istore Xh30.here hx rfl (D d15_12) rfl (l' := #[vR a2, vI 0, vI 2, vR b21, vI 2, .unset]) rfl ?_
   refine XS.iload Xh30.here hx rfl (D d15_14) rfl ?_
   refine XS.iloadN Xh30.here hx rfl (D d15_16) rfl ?_
   refine XS.icmpYes Xh30.here hx rfl (pc0 := 17) (pc' := 57) rfl (D d15_17) rfl (teq ((by decide) : (2 : Int32) = (2 : Int32))).1 (by decide) (by decide) ?_
   show Steps p.tables e below (T28.setTop (fr_cp3_2 m a2 57 (vR b21) (vI 2) .unset [])) t
   refine XS.aloadN Xh30.here hx rfl (D d15_57) rfl rfl ?_
   exact kt
  have f31 := (((Keep.refl h0 []).ext E21).trans Kq28 (allS (Or.inr z24) all0))
  refine ownRet Xh30 Bd.notSynchronized (v := some (.ref b21)) (fun h => by rw [Bd.returns] at h; cases h) ?_ (oLe rfl) (oLe rfl) (fun fs hr => retOut Xh30 hx Bd.returns rfl (Or.inr (Or.inr (Or.inr (Or.inr ⟨rfl, rfl, rfl⟩)))) (D d15_58) hr)
  show (Q_cp3_2 Z a2 kC c0 c1 h0 n0) (some (.ref b21)) T28.heap _
  exact ⟨b21, k21, rfl, Nh30, f31, z24, Or.inl ⟨hn28_0, hn28_1, Aq28⟩⟩
 ·skip
  have N32 := Fr.app N0 Nq28
  obtain ⟨Lh33, Xh33, Nh33⟩ := oHd 1 2 X28 N32 rfl rfl
  refine ownBy st28 ?_
  clear st28
  show ownG p.tables e below _ (T28.setTop (fr_cp3_2 m a2 12 (vR b21) .unset .unset [(.int r28)]))
  have hr : ¬ (r28 = (2 : Int32)) := by
   rcases hF with ⟨rfl, -⟩ | ⟨rfl, -⟩ <;> decide
  refine ownBy (A := T28.setTop (fr_cp3_2 m a2 23 (vR b21) (vI r28) .unset [(iV 2), (iV 0), (.ref a2)])) (fun t kt => ?_) ?_
  ·refine XS.istore Xh33.here hx rfl (D d15_12) rfl (l' := #[vR a2, vI 0, vI 2, vR b21, vI r28, .unset]) rfl ?_
   refine XS.iload Xh33.here hx rfl (D d15_14) rfl ?_
   refine XS.iloadN Xh33.here hx rfl (D d15_16) rfl ?_
   refine XS.icmpNo Xh33.here hx rfl (D d15_17) rfl (feq hr).1 ?_
   show Steps p.tables e below (T28.setTop (fr_cp3_2 m a2 20 (vR b21) (vI r28) .unset [])) t
   refine XS.aloadN Xh33.here hx rfl (D d15_20) rfl rfl ?_
   refine XS.iloadN Xh33.here hx rfl (D d15_21) rfl ?_
   refine XS.iloadN Xh33.here hx rfl (D d15_22) rfl ?_
   exact kt
  have f34 := (f26.keep Kq28 (ninS ne22 nin0))
  have f35 := ((X00.ext E21).keep Kq28 (allS g23 all0))
  have f36 := (Nat.le_trans f27 Kq28.1)
  obtain ⟨vv37, _, ⟨T37, L37, k37, n37⟩, -, X37, ⟨Lc37, hQ37, l37, y37, z37⟩, st37⟩ := Jvm.LawKit.callS Xh33 hx (y := yM7) hown (mvT hZ (Wd85 hw)) (mvT hZ (Wd86 hw)) (mvT hZ (Wd74 hw)) (mvT hZ (Wd87 hw)) (by decide) (backOf (W := 0) (c_tob2 l Z a0 hw [] a2 kC c0 c1 T28.heap n0 f36 f34 SA SHI SLO f35) hZ (Wd87 hw) (Wd74 hw) (by decide) (by decide)) (g := (fr_cp3_2 m a2 23 (vR b21) (vI r28) .unset [(iV 2), (iV 0), (.ref a2)])) rfl (by rw [hml]; rfl) (argsL := [(.ref a2), (iV 0), (iV 2)]) (rest := []) (lenOf pd_8 rfl) rfl (by show 2 * 0 + _ ≤ _; exact Nat.le_of_eq rfl) (D d15_23) (fun _ _ => ⟨rfl, rfl, (by decide : 1 + 1 ≤ _), (by decide : 2 + 4 ≤ _)⟩)
  dsimp only [Pt.U, Pt.locs, Pt.cells, Pt.slots] at X37 l37 y37 z37 st37 hQ37
  subst l37 y37 z37
  obtain ⟨t37, kb37, rfl, Nq37, Kq37, zq37, Aq37⟩ := hQ37
  have ne38 : a2 ≠ t37 := Nat.ne_of_lt (Nat.lt_of_lt_of_le f34.lt zq37)
  have g39 : n0 ≤ t37 := Nat.le_trans f36 zq37
  have f41 := (Nat.le_trans (Nat.le_trans (Nat.le_refl h0.size) E21.1) Kq28.1)
  have z40 : h0.size ≤ t37 := Nat.le_trans f41 zq37
  have N42 := Fr.app Nh33 Nq37
  obtain ⟨Lh43, Xh43, Nh43⟩ := oHd 2 6 X37 N42 rfl rfl
  refine ownBy st37 ?_
  clear st37
  show ownG p.tables e below _ (T37.setTop (fr_cp3_2 m a2 26 (vR b21) (vI r28) .unset [(.ref t37)]))
  refine ownBy (A := T37.setTop (fr_cp3_2 m a2 32 (vR b21) (vI r28) (vR t37) [(.int r28), (.ref t37)])) (fun t kt => ?_) ?_
  ·refine XS.astore Xh43.here hx rfl (D d15_26) rfl rfl (l' := #[vR a2, vI 0, vI 2, vR b21, vI r28, vR t37]) rfl ?_
   refine XS.aload Xh43.here hx rfl (D d15_28) rfl rfl ?_
   refine XS.iload Xh43.here hx rfl (D d15_30) rfl ?_
   exact kt
  obtain ⟨cM, kM, q0, q1, k0, k1, u0, u1, hcM, hgM⟩ : ∃ (cM : Int32) (kM : Nat), (¬ (r28 <<< ((1 : Int32) &&& 31)) < 0 ∧ (r28 <<< ((1 : Int32) &&& 31)) < (4 : Int32)) ∧ (¬ ((r28 <<< ((1 : Int32) &&& 31)) + (1 : Int32)) < 0 ∧ ((r28 <<< ((1 : Int32) &&& 31)) + (1 : Int32)) < (4 : Int32)) ∧ (r28 <<< ((1 : Int32) &&& 31)).toNatClampNeg = kM ∧ ((r28 <<< ((1 : Int32) &&& 31)) + (1 : Int32)).toNatClampNeg = kM + 1 ∧ ([(.int (oW c0)), (.int (oH c0)), (.int (oW c1)), (.int (oH c1))] : List Value).getD kM (iV 0) = .int (oW cM) ∧ ([(.int (oW c0)), (.int (oH c0)), (.int (oW c1)), (.int (oH c1))] : List Value).getD (kM + 1) (iV 0) = .int (oH cM) ∧ (¬ cM < 0 ∧ ¬ (65535 : Int32) < cM) ∧ (255 : Int32) < cM := by
   rcases hF with ⟨rfl, h⟩ | ⟨rfl, h⟩
   ·exact ⟨c0, 0, by decide +kernel, by decide +kernel, by decide +kernel, by decide +kernel, rfl, rfl, hc0, h⟩
   ·exact ⟨c1, 2, by decide +kernel, by decide +kernel, by decide +kernel, by decide +kernel, rfl, rfl, hc1, h⟩
  have f44 := (f35.keep Kq37 all0)
  have f45 := (Nat.le_trans f36 Kq37.1)
  obtain ⟨vv46, _, ⟨T46, L46, k46, n46⟩, -, X46, ⟨Lc46, hQ46, l46, y46, z46⟩, st46⟩ := Jvm.LawKit.callS Xh43 hx (y := yM5) hown (mvT hZ (Wd101 hw)) (mvT hZ (Wd102 hw)) (mvT hZ (Wd74 hw)) (mvT hZ (Wd103 hw)) (by decide) (backOf (W := 0) (c_getc l Z a0 hw [] t37 kb37 (4 : Int32) [(.int (oW c0)), (.int (oH c0)), (.int (oW c1)), (.int (oH c1))] r28 cM kM T37.heap n0 f45 Aq37 q0 q1 k0 k1 u0 u1 hcM SA SHI SLO f44) hZ (Wd103 hw) (Wd74 hw) (by decide) (by decide)) (g := (fr_cp3_2 m a2 32 (vR b21) (vI r28) (vR t37) [(.int r28), (.ref t37)])) rfl (by rw [hml]; rfl) (argsL := [(.ref t37), (.int r28)]) (rest := []) (lenOf pd_9 rfl) rfl (by show 2 * 0 + _ ≤ _; exact Nat.le_of_eq rfl) (D d15_32) (fun _ _ => ⟨rfl, rfl, (by decide : 2 + 0 ≤ _), (by decide : 6 + 0 ≤ _)⟩)
  dsimp only [Pt.U, Pt.locs, Pt.cells, Pt.slots] at X46 l46 y46 z46 st46 hQ46
  subst l46 y46 z46
  obtain ⟨rfl, Nq46, Eq46⟩ := hQ46
  have N47 := Fr.app Nh43 Nq46
  obtain ⟨Lh48, Xh48, Nh48⟩ := oHd 2 6 X46 N47 rfl rfl
  refine ownBy st46 ?_
  clear st46
  show ownG p.tables e below _ (T46.setTop (fr_cp3_2 m a2 35 (vR b21) (vI r28) (vR t37) [(.int cM)]))
  refine ownBy (A := T46.setTop (fr_cp3_2 m a2 56 (vR b21) (vI r28) (vR t37) [(.ref t37)])) (fun t kt => ?_) ?_
  ·refine XS.sipush Xh48.here hx rfl (D d15_35) ?_
   refine XS.icmpYes Xh48.here hx rfl (pc0 := 38) (pc' := 54) rfl (D d15_38) rfl (tlt hgM).2.2.1 (by decide) (by decide) ?_
   refine XS.aload Xh48.here hx rfl (D d15_54) rfl rfl ?_
   exact kt
  have hg3 : (255 : Int32) < c0 ∨ (255 : Int32) < c1 := by
   rcases hF with ⟨-, h⟩ | ⟨-, h⟩
   ·exact Or.inl h
   ·exact Or.inr (h)
  have f49 := ((((Keep.refl h0 []).ext E21).trans Kq28 (allS (Or.inr z24) all0)).trans Kq37 all0)
  refine ownRet Xh48 Bd.notSynchronized (v := some (.ref t37)) (fun h => by rw [Bd.returns] at h; cases h) ?_ (oLe rfl) (oLe rfl) (fun fs hr => retOut Xh48 hx Bd.returns rfl (Or.inr (Or.inr (Or.inr (Or.inr ⟨rfl, rfl, rfl⟩)))) (D d15_56) hr)
  show (Q_cp3_2 Z a2 kC c0 c1 h0 n0) (some (.ref t37)) T46.heap _
  rw [Eq46]
  exact ⟨t37, kb37, rfl, Nh48, f49, z40, Or.inr ⟨hg3, Aq37⟩⟩
abbrev fr_ini4_2 (m : MethodId) (a1 : Addr) (a2 : Addr) (pc : Nat) (x5_ : Slot) (st : List Value) : JFrame := mkF m pc #[vR a1, vR a2, vI 0, vI 2, .val .null, x5_] st
def Q_ini4_2 (Z : State) (a1 : Addr) (a2 : Addr) (kC : ClassId) (c0 : Int32) (c1 : Int32) (c9 : Value) (G1 : Int32) (h0 : Heap) (n0 : Nat) (v : Option Value) (h : Heap) (L : List Loc) : Prop := v = none ∧ Fr n0 L ∧ Keep h0 h [a1] ∧ Exa Z h a1 "java/lang/String" ∧ ∃ (ta : Addr) (kb : ClassId) (cd z : Int32) (vs : List Value), h0.size ≤ ta ∧ Fld Z h a1 "java/lang/String" "value" "[B" (.ref ta) ∧ Fld Z h a1 "java/lang/String" "coder" "B" (.int cd) ∧ Arv Z h ta kb .byte z vs (iV 0) ∧ ((cd = (0 : Int32) ∧ z = (2 : Int32) ∧ vs = [(.int (oL c0)), (.int (oL c1))] ∧ ¬ ((255 : Int32) < c0) ∧ ¬ ((255 : Int32) < c1)) ∨ (cd = (1 : Int32) ∧ z = (4 : Int32) ∧ vs = [(.int (oW c0)), (.int (oH c0)), (.int (oW c1)), (.int (oH c1))] ∧ ((255 : Int32) < c0 ∨ (255 : Int32) < c1)))
theorem ef_ini4_2 (m : MethodId) (x0 : Addr) (x1 : Addr) (x2 : Int32) (x3 : Int32)  : entryFrame m #[(.ref x0), (.ref x1), (.int x2), (.int x3), .null] 6 = mkF m 0 #[vR x0, vR x1, vI x2, vI x3, .val .null, .unset] [] := by first | (simp [entryFrame, mkF, argsToLocals, Value.category]; done) | rfl
set_option maxRecDepth 65536 in
set_option maxHeartbeats 40000000 in
theorem c_ini4_2 (l : Launch) (Z : State) (a0 : Array Value) (hw : ∀ d ∈ tables_1, d.before a0 Z = true) (ws : List Jvm.Cond) (a1 : Addr) (a2 : Addr) (kC : ClassId) (c0 : Int32) (c1 : Int32) (c9 : Value) (G1 : Int32) (h0 : Heap) (n0 : Nat) (Z0 : n0 ≤ h0.size) (E1 : Exa Z h0 a1 "java/lang/String") (F1 : Fld Z h0 a1 "java/lang/String" "value" "[B" .null) (F2 : Fld Z h0 a1 "java/lang/String" "coder" "B" c9) (g1 : n0 ≤ a1) (ne1 : a1 ≠ a2) (A2 : Arv Z h0 a2 kC .char (2 : Int32) [(.int c0), (.int c1)] (iV 0)) (hc0 : ¬ c0 < 0 ∧ ¬ (65535 : Int32) < c0) (hc1 : ¬ c1 < 0 ∧ ¬ (65535 : Int32) < c1) (O2 : Sta Z Z.heap "java/lang/String" "COMPACT_STRINGS" "Z" (.int G1)) (P5 : ¬ (G1 = (0 : Int32))) (SA : Sta Z Z.heap "java/lang/StringUTF16" "$assertionsDisabled" "Z" (iV 1)) (SHI : Sta Z Z.heap "java/lang/StringUTF16" "HI_BYTE_SHIFT" "I" (iV 0)) (SLO : Sta Z Z.heap "java/lang/StringUTF16" "LO_BYTE_SHIFT" "I" (iV 8)) (X00 : Old Z n0 h0) :
  MetFree l yM0 (head1 (Jvm.Cond.code yM0 jdk_42_method_149_code 6 none :: ws) ({ frames := 4, cells := 2, slots := 6, locals := 58 } : Room)) (fun a U => a = #[(.ref a1), (.ref a2), (iV 0), (iV 2), .null] ∧ Z.Warmed39 U.vm ∧ U.heap = h0) (fun _ _ _ _ _ => True) (fun _ U o U' => ∃ v L, o = .returned v ∧ (Q_ini4_2 Z a1 a2 kC c0 c1 c9 G1 h0 n0) v U'.heap L ∧ FrameEnd U o U' L ({ frames := 4, cells := 2, slots := 6, locals := 58 } : Room).cells ({ frames := 4, cells := 2, slots := 6, locals := 58 } : Room).slots) := by
 refine MetFree.of_bodySF (plainFor_of_name pn_1) hisR ?_
 intro p e s m args below meth c s₁ Bd hml0 hP hK
 obtain ⟨rfl, hZ, hHp⟩ := hP
 have hx := Bd.exec
 have D := fun {pc : Nat} {r} (h : decode _ pc = r) => hb Bd.bytes h
 have hml : c.maxLocals = 6 := hml0
 have hown : s.vm.findClass "java/lang/String" = some m.cls := findClass_of_methodNamed Bd.named
 have hnm := (name_of_methodNamed Bd.named Bd.method).1
 have X0 : Stand p l e ({ frames := 4, cells := 2, slots := 6, locals := 58 } : Room) s m #[(.ref a1), (.ref a2), (iV 0), (iV 2), .null] below meth c s₁ [] 0 0 := Stand.of_body Bd
 have e0 : s₁.heap = h0 := by rw [← hHp, Bd.state]; rfl
 have N0 := Fr.nil n0
 refine ownOut (P := (Q_ini4_2 Z a1 a2 kC c0 c1 c9 G1 h0 n0)) ?_
 refine ownBy (A := s₁.setTop (mkF m 0 #[vR a1, vR a2, vI 0, vI 2, .val .null, .unset] [])) (fun t k => castTop (ef_ini4_2 m a1 a2 (0 : Int32) (2 : Int32)) k) ?_
 refine ownBy (A := s₁.setTop (fr_ini4_2 m a1 a2 1 .unset [(.ref a1)])) (fun t kt => ?_) ?_
 ·refine XS.aloadN X0.here hx rfl (D d3_0) rfl rfl ?_
  exact kt
 obtain ⟨T21, X21, e21, st21⟩ := initO X0 hx hZ hown (Wd17 hw) (Wd18 hw) (Wd19 hw) e0 (g := (fr_ini4_2 m a1 a2 1 .unset [(.ref a1)])) rfl (by rw [hml]; rfl) rfl (D d3_1) (by decide) (W := 0) (by show 2 * 0 + _ ≤ _; exact Nat.le_of_eq rfl) (by decide)
 refine ownBy st21 ?_
 clear st21
 show ownG p.tables e below _ (T21.setTop (fr_ini4_2 m a1 a2 4 .unset []))
 refine ownBy (A := T21.setTop (fr_ini4_2 m a1 a2 27 .unset [])) (fun t kt => ?_) ?_
 ·refine XS.iloadN X21.here hx rfl (D d3_4) rfl ?_
  refine XS.ifYes X21.here hx rfl (pc0 := 5) (pc' := 27) rfl (D d3_5) rfl ((if0 _ _).trans (feq ((by decide) : ¬ ((2 : Int32) = (0 : Int32)))).2) (by decide) (by decide) ?_
  exact kt
 obtain ⟨T22, X22, e22, st22⟩ := getS2 X21 hx hZ hown (host := "") (Or.inl (Wd47 hw)) Via.refl e21 (O2.ext X00.2) (g := (fr_ini4_2 m a1 a2 27 .unset [])) rfl (D d3_27)
 refine ownBy st22 ?_
 clear st22
 show ownG p.tables e below _ (T22.setTop (fr_ini4_2 m a1 a2 30 .unset [(.int G1)]))
 refine ownBy (A := T22.setTop (fr_ini4_2 m a1 a2 36 .unset [(iV 2), (iV 0), (.ref a2)])) (fun t kt => ?_) ?_
 ·refine XS.ifNo X22.here hx rfl (D d3_30) rfl ((if0 _ _).trans (feq P5).1) ?_
  refine XS.aloadN X22.here hx rfl (D d3_33) rfl rfl ?_
  refine XS.iloadN X22.here hx rfl (D d3_34) rfl ?_
  refine XS.iloadN X22.here hx rfl (D d3_35) rfl ?_
  exact kt
 obtain ⟨vv23, _, ⟨T23, L23, k23, n23⟩, -, X23, ⟨Lc23, hQ23, l23, y23, z23⟩, st23⟩ := Jvm.LawKit.callS X22 hx (y := yM9) hown (mvT hZ (Wd72 hw)) (mvT hZ (Wd73 hw)) (mvT hZ (Wd74 hw)) (mvT hZ (Wd75 hw)) (by decide) (backOf (W := 0) (c_cp3_2 l Z a0 hw [] a2 kC c0 c1 h0 n0 Z0 A2 hc0 hc1 SA SHI SLO X00) hZ (Wd75 hw) (Wd74 hw) (by decide) (by decide)) (g := (fr_ini4_2 m a1 a2 36 .unset [(iV 2), (iV 0), (.ref a2)])) rfl (by rw [hml]; rfl) (argsL := [(.ref a2), (iV 0), (iV 2)]) (rest := []) (lenOf pd_8 rfl) rfl (by show 2 * 0 + _ ≤ _; exact Nat.le_of_eq rfl) (D d3_36) (fun _ _ => ⟨rfl, e22, (by decide : 0 + 2 ≤ _), (by decide : 0 + 6 ≤ _)⟩)
 dsimp only [Pt.U, Pt.locs, Pt.cells, Pt.slots] at X23 l23 y23 z23 st23 hQ23
 subst l23 y23 z23
 obtain ⟨t23, kb23, rfl, Nq23, Kq23, zq23, hB23⟩ := hQ23
 have ne24 : a1 ≠ t23 := Nat.ne_of_lt (Nat.lt_of_lt_of_le E1.lt zq23)
 have ne25 : a2 ≠ t23 := Nat.ne_of_lt (Nat.lt_of_lt_of_le A2.lt zq23)
 have g26 : n0 ≤ t23 := Nat.le_trans Z0 zq23
 have z27 : h0.size ≤ t23 := Nat.le_trans (Nat.le_refl h0.size) zq23
 rcases hB23 with ⟨hn23_0, hn23_1, Aq23⟩ | ⟨hg23, Aq23⟩
 ·skip
  have N28 := Fr.app N0 Nq23
  obtain ⟨Lh29, Xh29, Nh29⟩ := oHd 2 6 X23 N28 rfl rfl
  refine ownBy st23 ?_
  clear st23
  show ownG p.tables e below _ (T23.setTop (fr_ini4_2 m a1 a2 39 .unset [(.ref t23)]))
  refine ownBy (A := T23.setTop (fr_ini4_2 m a1 a2 45 (vR t23) [(iV 2), (.ref t23), (.ref a1)])) (fun t kt => ?_) ?_
  ·refine XS.astore Xh29.here hx rfl (D d3_39) rfl rfl (l' := #[vR a1, vR a2, vI 0, vI 2, .val .null, vR t23]) rfl ?_
   refine XS.aloadN Xh29.here hx rfl (D d3_41) rfl rfl ?_
   refine XS.aload Xh29.here hx rfl (D d3_42) rfl rfl ?_
   refine XS.iloadN Xh29.here hx rfl (D d3_44) rfl ?_
   exact kt
  have f30 := (Nat.le_trans Z0 Kq23.1)
  obtain ⟨vv31, _, ⟨T31, L31, k31, n31⟩, -, X31, ⟨Lc31, hQ31, l31, y31, z31⟩, st31⟩ := Jvm.LawKit.callS Xh29 hx (y := yM4) hown (mvT hZ (Wd79 hw)) (mvT hZ (Wd80 hw)) (mvT hZ (Wd74 hw)) (mvT hZ (Wd81 hw)) (by decide) (backOf (W := 1) (c_cfa l Z a0 hw [] t23 kb23 (2 : Int32) _ (2 : Int32) (0 : Int32) T23.heap n0 f30 Aq23 (by decide +kernel)) hZ (Wd81 hw) (Wd74 hw) (by decide) (by decide)) (g := (fr_ini4_2 m a1 a2 45 (vR t23) [(iV 2), (.ref t23), (.ref a1)])) rfl (by rw [hml]; rfl) (argsL := [(.ref t23), (iV 2)]) (rest := [(.ref a1)]) (lenOf pd_10 rfl) rfl (by show 2 * 0 + _ ≤ _; exact Nat.le_of_eq rfl) (D d3_45) (fun _ _ => ⟨rfl, rfl, (by decide : 2 + 0 ≤ _), (by decide : 6 + 0 ≤ _)⟩)
  dsimp only [Pt.U, Pt.locs, Pt.cells, Pt.slots] at X31 l31 y31 z31 st31 hQ31
  subst l31 y31 z31
  obtain ⟨rfl, Nq31, Eq31⟩ := hQ31
  have N32 := Fr.app Nh29 Nq31
  obtain ⟨Lh33, Xh33, Nh33⟩ := oHd 2 6 X31 N32 rfl rfl
  refine ownBy st31 ?_
  clear st31
  show ownG p.tables e below _ (T31.setTop (fr_ini4_2 m a1 a2 48 (vR t23) [(iV 0), (.ref a1)]))
  have f35 := (F2.keep Kq23 nin0)
  have f36 := (E1.keep Kq23)
  obtain ⟨T34, h34, X34, e34, W34, st34⟩ := putFN Xh33 hx hZ hown (Wd27 hw) Via.refl Eq31 f35 f36 (Or.inr ⟨(Wd23 hw), rfl, hnm⟩) (Wd8 hw) (ty := .byte) (v' := (iV 0)) (by decide) rfl (fits_nar_byte (0 : Int32)) (g := (fr_ini4_2 m a1 a2 48 (vR t23) [(iV 0), (.ref a1)])) rfl rfl (D d3_48)
  have F37 := f35.same W34
  have N38 := Fr.snoc X34 Nh33 g1
  obtain ⟨Lh39, Xh39, Nh39⟩ := oHd 2 6 X34 N38 rfl rfl
  refine ownBy st34 ?_
  clear st34
  show ownG p.tables e below _ (T34.setTop (fr_ini4_2 m a1 a2 51 (vR t23) []))
  refine ownBy (A := T34.setTop (fr_ini4_2 m a1 a2 54 (vR t23) [(.ref t23), (.ref a1)])) (fun t kt => ?_) ?_
  ·refine XS.aloadN Xh39.here hx rfl (D d3_51) rfl rfl ?_
   refine XS.aload Xh39.here hx rfl (D d3_52) rfl rfl ?_
   exact kt
  have f41 := ((F1.keep Kq23 nin0).other W34 (Or.inr (slot_ne (Or.inr (Wd22 hw)) (Or.inr (Wd23 hw)) (by decide) (t := (.array .byte)) (t' := .byte) (by decide) (by decide))))
  have f42 := (f36.wr W34)
  obtain ⟨T40, h40, X40, e40, W40, st40⟩ := putF Xh39 hx hZ hown (host := "") (Or.inl (Wd26 hw)) Via.refl e34 f41 f42 (Or.inr ⟨(Wd22 hw), rfl, hnm⟩) (Wd8 hw) (ty := (.array .byte)) (by decide) rfl rfl (g := (fr_ini4_2 m a1 a2 54 (vR t23) [(.ref t23), (.ref a1)])) rfl rfl (D d3_54)
  have F43 := f41.same W40
  have N44 := Fr.snoc X40 Nh39 g1
  obtain ⟨Lh45, Xh45, Nh45⟩ := oHd 2 6 X40 N44 rfl rfl
  refine ownBy st40 ?_
  clear st40
  show ownG p.tables e below _ (T40.setTop (fr_ini4_2 m a1 a2 57 (vR t23) []))
  have f46 := ((((Keep.refl h0 [a1]).trans Kq23 all0).wr W34 (Or.inl (List.mem_of_getElem? (i := 0) rfl))).wr W40 (Or.inl (List.mem_of_getElem? (i := 0) rfl)))
  have f47 := (f42.wr W40)
  have f48 := (F37.other W40 (Or.inr (slot_ne (Or.inr (Wd23 hw)) (Or.inr (Wd22 hw)) (by decide) (t := .byte) (t' := (.array .byte)) (by decide) (by decide))))
  have f49 := ((Aq23.other W34 (Ne.symm ne24)).other W40 (Ne.symm ne24))
  refine ownRet Xh45 Bd.notSynchronized (v := none) (fun _ => rfl) ?_ (oLe rfl) (oLe rfl) (fun fs hr => Xh45.returnOut hx Bd.returns (D d3_57) hr)
  show (Q_ini4_2 Z a1 a2 kC c0 c1 c9 G1 h0 n0) (none) T40.heap _
  rw [e40]
  exact ⟨rfl, Nh45, f46, f47, t23, kb23, _, _, _, z27, F43, f48, f49, Or.inl ⟨rfl, rfl, rfl, hn23_0, hn23_1⟩⟩
 ·skip
  have N50 := Fr.app N0 Nq23
  obtain ⟨Lh51, Xh51, Nh51⟩ := oHd 2 6 X23 N50 rfl rfl
  refine ownBy st23 ?_
  clear st23
  show ownG p.tables e below _ (T23.setTop (fr_ini4_2 m a1 a2 39 .unset [(.ref t23)]))
  refine ownBy (A := T23.setTop (fr_ini4_2 m a1 a2 45 (vR t23) [(iV 2), (.ref t23), (.ref a1)])) (fun t kt => ?_) ?_
  ·refine XS.astore Xh51.here hx rfl (D d3_39) rfl rfl (l' := #[vR a1, vR a2, vI 0, vI 2, .val .null, vR t23]) rfl ?_
   refine XS.aloadN Xh51.here hx rfl (D d3_41) rfl rfl ?_
   refine XS.aload Xh51.here hx rfl (D d3_42) rfl rfl ?_
   refine XS.iloadN Xh51.here hx rfl (D d3_44) rfl ?_
   exact kt
  have f52 := (Nat.le_trans Z0 Kq23.1)
  obtain ⟨vv53, _, ⟨T53, L53, k53, n53⟩, -, X53, ⟨Lc53, hQ53, l53, y53, z53⟩, st53⟩ := Jvm.LawKit.callS Xh51 hx (y := yM4) hown (mvT hZ (Wd79 hw)) (mvT hZ (Wd80 hw)) (mvT hZ (Wd74 hw)) (mvT hZ (Wd81 hw)) (by decide) (backOf (W := 1) (c_cfa l Z a0 hw [] t23 kb23 (4 : Int32) _ (2 : Int32) (1 : Int32) T23.heap n0 f52 Aq23 (by decide +kernel)) hZ (Wd81 hw) (Wd74 hw) (by decide) (by decide)) (g := (fr_ini4_2 m a1 a2 45 (vR t23) [(iV 2), (.ref t23), (.ref a1)])) rfl (by rw [hml]; rfl) (argsL := [(.ref t23), (iV 2)]) (rest := [(.ref a1)]) (lenOf pd_10 rfl) rfl (by show 2 * 0 + _ ≤ _; exact Nat.le_of_eq rfl) (D d3_45) (fun _ _ => ⟨rfl, rfl, (by decide : 2 + 0 ≤ _), (by decide : 6 + 0 ≤ _)⟩)
  dsimp only [Pt.U, Pt.locs, Pt.cells, Pt.slots] at X53 l53 y53 z53 st53 hQ53
  subst l53 y53 z53
  obtain ⟨rfl, Nq53, Eq53⟩ := hQ53
  have N54 := Fr.app Nh51 Nq53
  obtain ⟨Lh55, Xh55, Nh55⟩ := oHd 2 6 X53 N54 rfl rfl
  refine ownBy st53 ?_
  clear st53
  show ownG p.tables e below _ (T53.setTop (fr_ini4_2 m a1 a2 48 (vR t23) [(iV 1), (.ref a1)]))
  have f57 := (F2.keep Kq23 nin0)
  have f58 := (E1.keep Kq23)
  obtain ⟨T56, h56, X56, e56, W56, st56⟩ := putFN Xh55 hx hZ hown (Wd27 hw) Via.refl Eq53 f57 f58 (Or.inr ⟨(Wd23 hw), rfl, hnm⟩) (Wd8 hw) (ty := .byte) (v' := (iV 1)) (by decide) rfl (fits_nar_byte (1 : Int32)) (g := (fr_ini4_2 m a1 a2 48 (vR t23) [(iV 1), (.ref a1)])) rfl rfl (D d3_48)
  have F59 := f57.same W56
  have N60 := Fr.snoc X56 Nh55 g1
  obtain ⟨Lh61, Xh61, Nh61⟩ := oHd 2 6 X56 N60 rfl rfl
  refine ownBy st56 ?_
  clear st56
  show ownG p.tables e below _ (T56.setTop (fr_ini4_2 m a1 a2 51 (vR t23) []))
  refine ownBy (A := T56.setTop (fr_ini4_2 m a1 a2 54 (vR t23) [(.ref t23), (.ref a1)])) (fun t kt => ?_) ?_
  ·refine XS.aloadN Xh61.here hx rfl (D d3_51) rfl rfl ?_
   refine XS.aload Xh61.here hx rfl (D d3_52) rfl rfl ?_
   exact kt
  have f63 := ((F1.keep Kq23 nin0).other W56 (Or.inr (slot_ne (Or.inr (Wd22 hw)) (Or.inr (Wd23 hw)) (by decide) (t := (.array .byte)) (t' := .byte) (by decide) (by decide))))
  have f64 := (f58.wr W56)
  obtain ⟨T62, h62, X62, e62, W62, st62⟩ := putF Xh61 hx hZ hown (host := "") (Or.inl (Wd26 hw)) Via.refl e56 f63 f64 (Or.inr ⟨(Wd22 hw), rfl, hnm⟩) (Wd8 hw) (ty := (.array .byte)) (by decide) rfl rfl (g := (fr_ini4_2 m a1 a2 54 (vR t23) [(.ref t23), (.ref a1)])) rfl rfl (D d3_54)
  have F65 := f63.same W62
  have N66 := Fr.snoc X62 Nh61 g1
  obtain ⟨Lh67, Xh67, Nh67⟩ := oHd 2 6 X62 N66 rfl rfl
  refine ownBy st62 ?_
  clear st62
  show ownG p.tables e below _ (T62.setTop (fr_ini4_2 m a1 a2 57 (vR t23) []))
  have f68 := ((((Keep.refl h0 [a1]).trans Kq23 all0).wr W56 (Or.inl (List.mem_of_getElem? (i := 0) rfl))).wr W62 (Or.inl (List.mem_of_getElem? (i := 0) rfl)))
  have f69 := (f64.wr W62)
  have f70 := (F59.other W62 (Or.inr (slot_ne (Or.inr (Wd23 hw)) (Or.inr (Wd22 hw)) (by decide) (t := .byte) (t' := (.array .byte)) (by decide) (by decide))))
  have f71 := ((Aq23.other W56 (Ne.symm ne24)).other W62 (Ne.symm ne24))
  refine ownRet Xh67 Bd.notSynchronized (v := none) (fun _ => rfl) ?_ (oLe rfl) (oLe rfl) (fun fs hr => Xh67.returnOut hx Bd.returns (D d3_57) hr)
  show (Q_ini4_2 Z a1 a2 kC c0 c1 c9 G1 h0 n0) (none) T62.heap _
  rw [e62]
  exact ⟨rfl, Nh67, f68, f69, t23, kb23, _, _, _, z27, F65, f70, f71, Or.inr ⟨rfl, rfl, rfl, hg23⟩⟩
abbrev fr_inC_2 (m : MethodId) (a1 : Addr) (a2 : Addr) (pc : Nat)  (st : List Value) : JFrame := mkF m pc #[vR a1, vR a2] st
def Q_inC_2 (Z : State) (a1 : Addr) (a2 : Addr) (kC : ClassId) (c0 : Int32) (c1 : Int32) (c9 : Value) (G1 : Int32) (h0 : Heap) (n0 : Nat) (v : Option Value) (h : Heap) (L : List Loc) : Prop := v = none ∧ Fr n0 L ∧ Keep h0 h [a1] ∧ Exa Z h a1 "java/lang/String" ∧ ∃ (ta : Addr) (kb : ClassId) (cd z : Int32) (vs : List Value), h0.size ≤ ta ∧ Fld Z h a1 "java/lang/String" "value" "[B" (.ref ta) ∧ Fld Z h a1 "java/lang/String" "coder" "B" (.int cd) ∧ Arv Z h ta kb .byte z vs (iV 0) ∧ ((cd = (0 : Int32) ∧ z = (2 : Int32) ∧ vs = [(.int (oL c0)), (.int (oL c1))] ∧ ¬ ((255 : Int32) < c0) ∧ ¬ ((255 : Int32) < c1)) ∨ (cd = (1 : Int32) ∧ z = (4 : Int32) ∧ vs = [(.int (oW c0)), (.int (oH c0)), (.int (oW c1)), (.int (oH c1))] ∧ ((255 : Int32) < c0 ∨ (255 : Int32) < c1)))
theorem ef_inC_2 (m : MethodId) (x0 : Addr) (x1 : Addr)  : entryFrame m #[(.ref x0), (.ref x1)] 2 = mkF m 0 #[vR x0, vR x1] [] := by first | (simp [entryFrame, mkF, argsToLocals, Value.category]; done) | rfl
set_option maxRecDepth 65536 in
set_option maxHeartbeats 40000000 in
theorem c_inC_2 (l : Launch) (Z : State) (a0 : Array Value) (hw : ∀ d ∈ tables_1, d.before a0 Z = true) (ws : List Jvm.Cond) (a1 : Addr) (a2 : Addr) (kC : ClassId) (c0 : Int32) (c1 : Int32) (c9 : Value) (G1 : Int32) (h0 : Heap) (n0 : Nat) (Z0 : n0 ≤ h0.size) (E1 : Exa Z h0 a1 "java/lang/String") (F1 : Fld Z h0 a1 "java/lang/String" "value" "[B" .null) (F2 : Fld Z h0 a1 "java/lang/String" "coder" "B" c9) (g1 : n0 ≤ a1) (ne1 : a1 ≠ a2) (A2 : Arv Z h0 a2 kC .char (2 : Int32) [(.int c0), (.int c1)] (iV 0)) (hc0 : ¬ c0 < 0 ∧ ¬ (65535 : Int32) < c0) (hc1 : ¬ c1 < 0 ∧ ¬ (65535 : Int32) < c1) (O2 : Sta Z Z.heap "java/lang/String" "COMPACT_STRINGS" "Z" (.int G1)) (P5 : ¬ (G1 = (0 : Int32))) (SA : Sta Z Z.heap "java/lang/StringUTF16" "$assertionsDisabled" "Z" (iV 1)) (SHI : Sta Z Z.heap "java/lang/StringUTF16" "HI_BYTE_SHIFT" "I" (iV 0)) (SLO : Sta Z Z.heap "java/lang/StringUTF16" "LO_BYTE_SHIFT" "I" (iV 8)) (X00 : Old Z n0 h0) :
  MetFree l yM1 (head1 (Jvm.Cond.code yM1 jdk_42_method_3_code 2 none :: ws) ({ frames := 5, cells := 2, slots := 6, locals := 75 } : Room)) (fun a U => a = #[(.ref a1), (.ref a2)] ∧ Z.Warmed39 U.vm ∧ U.heap = h0) (fun _ _ _ _ _ => True) (fun _ U o U' => ∃ v L, o = .returned v ∧ (Q_inC_2 Z a1 a2 kC c0 c1 c9 G1 h0 n0) v U'.heap L ∧ FrameEnd U o U' L ({ frames := 5, cells := 2, slots := 6, locals := 75 } : Room).cells ({ frames := 5, cells := 2, slots := 6, locals := 75 } : Room).slots) := by
 refine MetFree.of_bodySF (plainFor_of_name pn_1) hisR ?_
 intro p e s m args below meth c s₁ Bd hml0 hP hK
 obtain ⟨rfl, hZ, hHp⟩ := hP
 have hx := Bd.exec
 have D := fun {pc : Nat} {r} (h : decode _ pc = r) => hb Bd.bytes h
 have hml : c.maxLocals = 2 := hml0
 have hown : s.vm.findClass "java/lang/String" = some m.cls := findClass_of_methodNamed Bd.named
 have hnm := (name_of_methodNamed Bd.named Bd.method).1
 have X0 : Stand p l e ({ frames := 5, cells := 2, slots := 6, locals := 75 } : Room) s m #[(.ref a1), (.ref a2)] below meth c s₁ [] 0 0 := Stand.of_body Bd
 have e0 : s₁.heap = h0 := by rw [← hHp, Bd.state]; rfl
 have N0 := Fr.nil n0
 refine ownOut (P := (Q_inC_2 Z a1 a2 kC c0 c1 c9 G1 h0 n0)) ?_
 refine ownBy (A := s₁.setTop (mkF m 0 #[vR a1, vR a2] [])) (fun t k => castTop (ef_inC_2 m a1 a2) k) ?_
 refine ownBy (A := s₁.setTop (fr_inC_2 m a1 a2 4  [(.ref a2), (iV 0), (.ref a2), (.ref a1)])) (fun t kt => ?_) ?_
 ·refine XS.aloadN X0.here hx rfl (D d2_0) rfl rfl ?_
  refine XS.aloadN X0.here hx rfl (D d2_1) rfl rfl ?_
  refine XS.iconst X0.here hx rfl (D d2_2) ?_
  refine XS.aloadN X0.here hx rfl (D d2_3) rfl rfl ?_
  exact kt
 obtain ⟨cl21, Ar21, -, S21, N21, -, -⟩ := id A2
 have st21 := X0.arraylength hx (by rw [e0]; exact Ar21.1) (State.isArrayOf_alike hZ.alike Ar21.2.1) (g := (fr_inC_2 m a1 a2 4  [(.ref a2), (iV 0), (.ref a2), (.ref a1)])) rfl rfl (D d2_4)
 rw [len_of S21 N21] at st21
 refine ownBy st21 ?_
 show ownG p.tables e below _ (s₁.setTop (fr_inC_2 m a1 a2 5  [(iV 2), (iV 0), (.ref a2), (.ref a1)]))
 refine ownBy (A := s₁.setTop (fr_inC_2 m a1 a2 6  [.null, (iV 2), (iV 0), (.ref a2), (.ref a1)])) (fun t kt => ?_) ?_
 ·refine XS.aconstNull X0.here hx rfl (D d2_5) ?_
  exact kt
 obtain ⟨vv22, _, ⟨T22, L22, k22, n22⟩, -, X22, ⟨Lc22, hQ22, l22, y22, z22⟩, st22⟩ := X0.specialBack hx (y := yM0) rfl hown (mvT hZ (Wd13 hw)) (mvT hZ (Wd14 hw)) (mvT hZ (Wd16 hw)) (by decide) (backOf (W := 0) (c_ini4_2 l Z a0 hw [] a1 a2 kC c0 c1 _ G1 h0 n0 Z0 E1 F1 F2 g1 ne1 A2 hc0 hc1 O2 P5 SA SHI SLO X00) hZ (Wd16 hw) (Wd9 hw) (by decide) (by decide)) (g := (fr_inC_2 m a1 a2 6  [.null, (iV 2), (iV 0), (.ref a2), (.ref a1)])) rfl (by rw [hml]; rfl) (Steps.refl _) (a := a1) (argsL := [(.ref a2), (iV 0), (iV 2), .null]) (rest := []) (lenOf pd_2 rfl) rfl (by show 2 * 0 + _ ≤ _; exact Nat.le_of_eq rfl) (D d2_6) (fun _ _ => ⟨rfl, e0, (by decide : 0 + 2 ≤ _), (by decide : 0 + 6 ≤ _)⟩)
 dsimp only [Pt.U, Pt.locs, Pt.cells, Pt.slots] at X22 l22 y22 z22 st22 hQ22
 subst l22 y22 z22
 obtain ⟨rfl, Nq22, Kq22, Eq22, t22, kb22, cd22, z22, vs22, zq22, Vq22, Cq22, Aq22, hrel22⟩ := hQ22
 have ne23 : a1 ≠ t22 := Nat.ne_of_lt (Nat.lt_of_lt_of_le E1.lt zq22)
 have ne24 : a2 ≠ t22 := Nat.ne_of_lt (Nat.lt_of_lt_of_le A2.lt zq22)
 have g25 : n0 ≤ t22 := Nat.le_trans Z0 zq22
 have z26 : h0.size ≤ t22 := Nat.le_trans (Nat.le_refl h0.size) zq22
 have N27 := Fr.app N0 Nq22
 obtain ⟨Lh28, Xh28, Nh28⟩ := oHd 2 6 X22 N27 rfl rfl
 refine ownSt st22 ?_
 clear st22
 show ownG p.tables e below _ (T22.setTop (fr_inC_2 m a1 a2 9  []))
 have f29 := ((Keep.refl h0 [a1]).trans Kq22 (allS (Or.inl (List.mem_of_getElem? (i := 0) rfl)) all0))
 have f30 := (E1.keep Kq22)
 refine ownRet Xh28 Bd.notSynchronized (v := none) (fun _ => rfl) ?_ (oLe rfl) (oLe rfl) (fun fs hr => Xh28.returnOut hx Bd.returns (D d2_9) hr)
 show (Q_inC_2 Z a1 a2 kC c0 c1 c9 G1 h0 n0) (none) T22.heap _
 exact ⟨rfl, Nh28, f29, f30, t22, kb22, _, _, _, z26, Vq22, Cq22, Aq22, hrel22⟩
abbrev fr_nbf3 (m : MethodId)  (pc : Nat)  (st : List Value) : JFrame := mkF m pc #[vI 3] st
def Q_nbf3 (Z : State)  (h0 : Heap) (n0 : Nat) (v : Option Value) (h : Heap) (L : List Loc) : Prop := ∃ (ta : Addr) (kb : ClassId), v = some (.ref ta) ∧ Fr n0 L ∧ Keep h0 h [] ∧ h0.size ≤ ta ∧ Arv Z h ta kb .byte (6 : Int32) [(iV 0), (iV 0), (iV 0), (iV 0), (iV 0), (iV 0)] (iV 0)
theorem ef_nbf3 (m : MethodId) (x0 : Int32)  : entryFrame m #[(.int x0)] 1 = mkF m 0 #[vI x0] [] := by first | (simp [entryFrame, mkF, argsToLocals, Value.category]; done) | rfl
set_option maxRecDepth 65536 in
set_option maxHeartbeats 40000000 in
theorem c_nbf3 (l : Launch) (Z : State) (a0 : Array Value) (hw : ∀ d ∈ tables_1, d.before a0 Z = true) (ws : List Jvm.Cond)  (h0 : Heap) (n0 : Nat) (Z0 : n0 ≤ h0.size) :
  MetFree l yM6 (head1 (Jvm.Cond.code yM6 jdk_52_method_2_code 1 (some (.array .byte)) :: ws) ({ frames := 1, cells := 1, slots := 6, locals := 12 } : Room)) (fun a U => a = #[(iV 3)] ∧ Z.Warmed39 U.vm ∧ U.heap = h0) (fun _ _ _ _ _ => True) (fun _ U o U' => ∃ v L, o = .returned v ∧ (Q_nbf3 Z  h0 n0) v U'.heap L ∧ FrameEnd U o U' L ({ frames := 1, cells := 1, slots := 6, locals := 12 } : Room).cells ({ frames := 1, cells := 1, slots := 6, locals := 12 } : Room).slots) := by
 refine MetFree.of_bodySF (plainFor_of_name pn_3) hisR ?_
 intro p e s m args below meth c s₁ Bd hml0 hP hK
 obtain ⟨rfl, hZ, hHp⟩ := hP
 have hx := Bd.exec
 have D := fun {pc : Nat} {r} (h : decode _ pc = r) => hb Bd.bytes h
 have hml : c.maxLocals = 1 := hml0
 have hown : s.vm.findClass "java/lang/StringUTF16" = some m.cls := findClass_of_methodNamed Bd.named
 have hnm := (name_of_methodNamed Bd.named Bd.method).1
 have X0 : Stand p l e ({ frames := 1, cells := 1, slots := 6, locals := 12 } : Room) s m #[(iV 3)] below meth c s₁ [] 0 0 := Stand.of_body Bd
 have e0 : s₁.heap = h0 := by rw [← hHp, Bd.state]; rfl
 have N0 := Fr.nil n0
 refine ownOut (P := (Q_nbf3 Z  h0 n0)) ?_
 refine ownBy (A := s₁.setTop (mkF m 0 #[vI 3] [])) (fun t k => castTop (ef_nbf3 m (3 : Int32)) k) ?_
 refine ownBy (A := s₁.setTop (fr_nbf3 m  1  [(iV 3)])) (fun t kt => ?_) ?_
 ·refine XS.iloadN X0.here hx rfl (D d20_0) rfl ?_
  exact kt
 obtain ⟨vv21, _, ⟨T21, L21, k21, n21⟩, -, X21, ⟨Lc21, hQ21, l21, y21, z21⟩, st21⟩ := Jvm.LawKit.callS X0 hx (y := yM3) hown (mvT hZ (Wd91 hw)) (mvT hZ (Wd92 hw)) (mvT hZ (Wd74 hw)) (mvT hZ (Wd93 hw)) (by decide) (backOf (W := 0) (c_nbl l Z a0 hw [] (3 : Int32) (6 : Int32) h0 n0 Z0 (by decide) (by decide) (by decide +kernel)) hZ (Wd93 hw) (Wd74 hw) (by decide) (by decide)) (g := (fr_nbf3 m  1  [(iV 3)])) rfl (by rw [hml]; rfl) (argsL := [(iV 3)]) (rest := []) (lenOf pd_4 rfl) rfl (by show 2 * 0 + _ ≤ _; exact Nat.le_of_eq rfl) (D d20_1) (fun _ _ => ⟨rfl, e0, (by decide : 0 + 0 ≤ _), (by decide : 0 + 0 ≤ _)⟩)
 dsimp only [Pt.U, Pt.locs, Pt.cells, Pt.slots] at X21 l21 y21 z21 st21 hQ21
 subst l21 y21 z21
 obtain ⟨rfl, Nq21, Eq21⟩ := hQ21
 have N22 := Fr.app N0 Nq21
 obtain ⟨Lh23, Xh23, Nh23⟩ := oHd 0 0 X21 N22 rfl rfl
 refine ownBy st21 ?_
 clear st21
 show ownG p.tables e below _ (T21.setTop (fr_nbf3 m  4  [(iV 6)]))
 obtain ⟨T24, h24, k24, X24, e24, E24, A24, st24⟩ := newP Xh23 hx hZ (aty := .byte) (Wd21 hw) Eq21 (g := (fr_nbf3 m  4  [(iV 6)])) rfl (D d20_4) rfl (by decide : ¬ ((6 : Int32) < (0 : Int32))) (cap := 6) (by decide) (by decide) (by decide) (by decide)
 obtain ⟨b24, g24⟩ : ∃ z, z = h0.size := ⟨_, rfl⟩
 rw [← g24] at A24 st24
 have g25 : n0 ≤ b24 := Nat.le_trans Z0 (Nat.le_of_eq g24.symm)
 have z26 : h0.size ≤ b24 := Nat.le_trans (Nat.le_refl h0.size) (Nat.le_of_eq g24.symm)
 have V27 : Arv Z h24 b24 k24 .byte (6 : Int32) [(iV 0), (iV 0), (iV 0), (iV 0), (iV 0), (iV 0)] (iV 0) := (Arv.new A24 (by decide)).pad (pad_rep [] (iV 0) 6)
 refine ownBy st24 ?_
 clear st24
 show ownG p.tables e below _ (T24.setTop (fr_nbf3 m  6  [(.ref b24)]))
 have f28 := ((Keep.refl h0 []).ext E24)
 refine ownRet X24 Bd.notSynchronized (v := some (.ref b24)) (fun h => by rw [Bd.returns] at h; cases h) ?_ (oLe rfl) (oLe rfl) (fun fs hr => retOut X24 hx Bd.returns rfl (Or.inr (Or.inr (Or.inr (Or.inr ⟨rfl, rfl, rfl⟩)))) (D d20_6) hr)
 show (Q_nbf3 Z  h0 n0) (some (.ref b24)) T24.heap _
 rw [e24]
 exact ⟨b24, k24, rfl, Nh23, f28, z26, V27⟩
abbrev fr_tob3 (m : MethodId) (a2 : Addr) (pc : Nat) (x1_ x3_ x4_ : Slot) (st : List Value) : JFrame := mkF m pc #[vR a2, x1_, vI 3, x3_, x4_] st
def Q_tob3 (Z : State) (a2 : Addr) (kC : ClassId) (c0 : Int32) (c1 : Int32) (c2 : Int32) (h0 : Heap) (n0 : Nat) (v : Option Value) (h : Heap) (L : List Loc) : Prop := ∃ (ta : Addr) (kb : ClassId), v = some (.ref ta) ∧ Fr n0 L ∧ Keep h0 h [] ∧ h0.size ≤ ta ∧ Arv Z h ta kb .byte (6 : Int32) [(.int (oW c0)), (.int (oH c0)), (.int (oW c1)), (.int (oH c1)), (.int (oW c2)), (.int (oH c2))] (iV 0)
theorem ef_tob3 (m : MethodId) (x0 : Addr) (x1 : Int32) (x2 : Int32)  : entryFrame m #[(.ref x0), (.int x1), (.int x2)] 5 = mkF m 0 #[vR x0, vI x1, vI x2, .unset, .unset] [] := by first | (simp [entryFrame, mkF, argsToLocals, Value.category]; done) | rfl
set_option maxRecDepth 65536 in
set_option maxHeartbeats 40000000 in
theorem c_tob3 (l : Launch) (Z : State) (a0 : Array Value) (hw : ∀ d ∈ tables_1, d.before a0 Z = true) (ws : List Jvm.Cond) (a2 : Addr) (kC : ClassId) (c0 : Int32) (c1 : Int32) (c2 : Int32) (h0 : Heap) (n0 : Nat) (Z0 : n0 ≤ h0.size) (A2 : Arv Z h0 a2 kC .char (3 : Int32) [(.int c0), (.int c1), (.int c2)] (iV 0)) (SA : Sta Z Z.heap "java/lang/StringUTF16" "$assertionsDisabled" "Z" (iV 1)) (SHI : Sta Z Z.heap "java/lang/StringUTF16" "HI_BYTE_SHIFT" "I" (iV 0)) (SLO : Sta Z Z.heap "java/lang/StringUTF16" "LO_BYTE_SHIFT" "I" (iV 8)) (X00 : Old Z n0 h0) :
  MetFree l yM7 (head1 (Jvm.Cond.code yM7 jdk_52_method_14_code 5 (some (.array .byte)) :: ws) ({ frames := 2, cells := 1, slots := 6, locals := 24 } : Room)) (fun a U => a = #[(.ref a2), (iV 0), (iV 3)] ∧ Z.Warmed39 U.vm ∧ U.heap = h0) (fun _ _ _ _ _ => True) (fun _ U o U' => ∃ v L, o = .returned v ∧ (Q_tob3 Z a2 kC c0 c1 c2 h0 n0) v U'.heap L ∧ FrameEnd U o U' L ({ frames := 2, cells := 1, slots := 6, locals := 24 } : Room).cells ({ frames := 2, cells := 1, slots := 6, locals := 24 } : Room).slots) := by
 refine MetFree.of_bodySF (plainFor_of_name pn_3) hisR ?_
 intro p e s m args below meth c s₁ Bd hml0 hP hK
 obtain ⟨rfl, hZ, hHp⟩ := hP
 have hx := Bd.exec
 have D := fun {pc : Nat} {r} (h : decode _ pc = r) => hb Bd.bytes h
 have hml : c.maxLocals = 5 := hml0
 have hown : s.vm.findClass "java/lang/StringUTF16" = some m.cls := findClass_of_methodNamed Bd.named
 have hnm := (name_of_methodNamed Bd.named Bd.method).1
 have X0 : Stand p l e ({ frames := 2, cells := 1, slots := 6, locals := 24 } : Room) s m #[(.ref a2), (iV 0), (iV 3)] below meth c s₁ [] 0 0 := Stand.of_body Bd
 have e0 : s₁.heap = h0 := by rw [← hHp, Bd.state]; rfl
 have N0 := Fr.nil n0
 refine ownOut (P := (Q_tob3 Z a2 kC c0 c1 c2 h0 n0)) ?_
 refine ownBy (A := s₁.setTop (mkF m 0 #[vR a2, vI 0, vI 3, .unset, .unset] [])) (fun t k => castTop (ef_tob3 m a2 (0 : Int32) (3 : Int32)) k) ?_
 refine ownBy (A := s₁.setTop (fr_tob3 m a2 1 (vI 0) .unset .unset [(iV 3)])) (fun t kt => ?_) ?_
 ·refine XS.iloadN X0.here hx rfl (D d19_0) rfl ?_
  exact kt
 obtain ⟨vv21, _, ⟨T21, L21, k21, n21⟩, -, X21, ⟨Lc21, hQ21, l21, y21, z21⟩, st21⟩ := Jvm.LawKit.callS X0 hx (y := yM6) hown (mvT hZ (Wd88 hw)) (mvT hZ (Wd89 hw)) (mvT hZ (Wd74 hw)) (mvT hZ (Wd90 hw)) (by decide) (backOf (W := 0) (c_nbf3 l Z a0 hw []  h0 n0 Z0 ) hZ (Wd90 hw) (Wd74 hw) (by decide) (by decide)) (g := (fr_tob3 m a2 1 (vI 0) .unset .unset [(iV 3)])) rfl (by rw [hml]; rfl) (argsL := [(iV 3)]) (rest := []) (lenOf pd_5 rfl) rfl (by show 2 * 0 + _ ≤ _; exact Nat.le_of_eq rfl) (D d19_1) (fun _ _ => ⟨rfl, e0, (by decide : 0 + 1 ≤ _), (by decide : 0 + 6 ≤ _)⟩)
 dsimp only [Pt.U, Pt.locs, Pt.cells, Pt.slots] at X21 l21 y21 z21 st21 hQ21
 subst l21 y21 z21
 obtain ⟨t21, kb21, rfl, Nq21, Kq21, zq21, Aq21⟩ := hQ21
 have ne22 : a2 ≠ t21 := Nat.ne_of_lt (Nat.lt_of_lt_of_le A2.lt zq21)
 have g23 : n0 ≤ t21 := Nat.le_trans Z0 zq21
 have z24 : h0.size ≤ t21 := Nat.le_trans (Nat.le_refl h0.size) zq21
 have N25 := Fr.app N0 Nq21
 obtain ⟨Lh26, Xh26, Nh26⟩ := oHd 1 6 X21 N25 rfl rfl
 refine ownBy st21 ?_
 clear st21
 show ownG p.tables e below _ (T21.setTop (fr_tob3 m a2 4 (vI 0) .unset .unset [(.ref t21)]))
 refine ownBy (A := T21.setTop (fr_tob3 m a2 19 (vI 0) (vR t21) (vI 0) [(iV 0), (.ref a2), (iV 0), (.ref t21)])) (fun t kt => ?_) ?_
 ·refine XS.astoreN Xh26.here hx rfl (D d19_4) rfl rfl (l' := #[vR a2, vI 0, vI 3, vR t21, .unset]) rfl ?_
  refine XS.iconst Xh26.here hx rfl (D d19_5) ?_
  refine XS.istore Xh26.here hx rfl (D d19_6) rfl (l' := #[vR a2, vI 0, vI 3, vR t21, vI 0]) rfl ?_
  refine XS.iload Xh26.here hx rfl (D d19_8) rfl ?_
  show Steps p.tables e below (T21.setTop (fr_tob3 m a2 10 (vI 0) (vR t21) (vI 0) [(iV 0)])) t
  refine XS.iloadN Xh26.here hx rfl (D d19_10) rfl ?_
  refine XS.icmpNo Xh26.here hx rfl (D d19_11) rfl (tlt ((by decide) : (0 : Int32) < (3 : Int32))).2.1 ?_
  refine XS.aloadN Xh26.here hx rfl (D d19_14) rfl rfl ?_
  refine XS.iload Xh26.here hx rfl (D d19_15) rfl ?_
  show Steps p.tables e below (T21.setTop (fr_tob3 m a2 17 (vI 0) (vR t21) (vI 0) [(iV 0), (.ref t21)])) t
  refine XS.aloadN Xh26.here hx rfl (D d19_17) rfl rfl ?_
  refine XS.iloadN Xh26.here hx rfl (D d19_18) rfl ?_
  exact kt
 have f27 := (A2.keep Kq21 nin0)
 obtain ⟨cl28, Ar28, q28, S28, N28, H28, G28⟩ := id f27
 have hin28 : ¬ ((0 : Int32) < 0 ∨ cl28.slots.size ≤ ((0 : Int32)).toNatClampNeg) := inb_of S28 ⟨by decide, by decide⟩
 have hat28 : cl28.slots[((0 : Int32)).toNatClampNeg]? = some (.int c0) := H28.at hin28 rfl
 have st28 := Xh26.caload hx (j := (0 : Int32)) (v := (.int c0)) Ar28.1 (State.isArrayOf_alike hZ.alike Ar28.2.1) Ar28.2.2 hin28 hat28 (g := (fr_tob3 m a2 19 (vI 0) (vR t21) (vI 0) [(iV 0), (.ref a2), (iV 0), (.ref t21)])) rfl rfl (D d19_19)
 refine ownBy st28 ?_
 show ownG p.tables e below _ (T21.setTop (fr_tob3 m a2 20 (vI 0) (vR t21) (vI 0) [(.int c0), (iV 0), (.ref t21)]))
 have f29 := (X00.keep Kq21 all0)
 have f30 := (Nat.le_trans Z0 Kq21.1)
 obtain ⟨vv31, _, ⟨T31, L31, k31, n31⟩, -, X31, ⟨Lc31, hQ31, l31, y31, z31⟩, st31⟩ := Jvm.LawKit.callS Xh26 hx (y := yM2) hown (mvT hZ (Wd95 hw)) (mvT hZ (Wd96 hw)) (mvT hZ (Wd74 hw)) (mvT hZ (Wd97 hw)) (by decide) (backOf (W := 0) (c_put l Z a0 hw [] t21 kb21 (6 : Int32) [(iV 0), (iV 0), (iV 0), (iV 0), (iV 0), (iV 0)] (0 : Int32) c0 0 T21.heap n0 f30 Aq21 g23 ⟨by decide +kernel, by decide +kernel⟩ ⟨by decide +kernel, by decide +kernel⟩ (by decide +kernel) (by decide +kernel) (oLe rfl) SA SHI SLO f29) hZ (Wd97 hw) (Wd74 hw) (by decide) (by decide)) (g := (fr_tob3 m a2 20 (vI 0) (vR t21) (vI 0) [(.int c0), (iV 0), (.ref t21)])) rfl (by rw [hml]; rfl) (argsL := [(.ref t21), (iV 0), (.int c0)]) (rest := []) (lenOf pd_6 rfl) rfl (by show 2 * 0 + _ ≤ _; exact Nat.le_of_eq rfl) (D d19_20) (fun _ _ => ⟨rfl, rfl, (by decide : 1 + 0 ≤ _), (by decide : 6 + 0 ≤ _)⟩)
 dsimp only [Pt.U, Pt.locs, Pt.cells, Pt.slots] at X31 l31 y31 z31 st31 hQ31
 subst l31 y31 z31
 obtain ⟨rfl, Nq31, Kq31, Ap31⟩ := hQ31
 have Aq31 : Arv Z T31.heap t21 kb21 .byte (6 : Int32) [(.int (oW c0)), (.int (oH c0)), (iV 0), (iV 0), (iV 0), (iV 0)] (iV 0) := Ap31
 have N32 := Fr.app Nh26 Nq31
 obtain ⟨Lh33, Xh33, Nh33⟩ := oHd 1 6 X31 N32 rfl rfl
 refine ownBy st31 ?_
 clear st31
 show ownG p.tables e below _ (T31.setTop (fr_tob3 m a2 23 (vI 0) (vR t21) (vI 0) []))
 refine ownBy (A := T31.setTop (fr_tob3 m a2 19 (vI 1) (vR t21) (vI 1) [(iV 1), (.ref a2), (iV 1), (.ref t21)])) (fun t kt => ?_) ?_
 ·refine XS.iinc Xh33.here hx rfl (D d19_23) rfl (l' := #[vR a2, vI 1, vI 3, vR t21, vI 0]) rfl ?_
  refine XS.iinc Xh33.here hx rfl (D d19_26) rfl (l' := #[vR a2, vI 1, vI 3, vR t21, vI 1]) rfl ?_
  refine XS.goto Xh33.here hx rfl (pc0 := 29) (pc' := 8) rfl (D d19_29) (by decide) (by decide) ?_
  refine XS.iload Xh33.here hx rfl (D d19_8) rfl ?_
  show Steps p.tables e below (T31.setTop (fr_tob3 m a2 10 (vI 1) (vR t21) (vI 1) [(iV 1)])) t
  refine XS.iloadN Xh33.here hx rfl (D d19_10) rfl ?_
  refine XS.icmpNo Xh33.here hx rfl (D d19_11) rfl (tlt ((by decide) : (1 : Int32) < (3 : Int32))).2.1 ?_
  refine XS.aloadN Xh33.here hx rfl (D d19_14) rfl rfl ?_
  refine XS.iload Xh33.here hx rfl (D d19_15) rfl ?_
  show Steps p.tables e below (T31.setTop (fr_tob3 m a2 17 (vI 1) (vR t21) (vI 1) [(iV 1), (.ref t21)])) t
  refine XS.aloadN Xh33.here hx rfl (D d19_17) rfl rfl ?_
  refine XS.iloadN Xh33.here hx rfl (D d19_18) rfl ?_
  exact kt
 have f34 := (f27.keep Kq31 (ninS ne22 nin0))
 obtain ⟨cl35, Ar35, q35, S35, N35, H35, G35⟩ := id f34
 have hin35 : ¬ ((1 : Int32) < 0 ∨ cl35.slots.size ≤ ((1 : Int32)).toNatClampNeg) := inb_of S35 ⟨by decide, by decide⟩
 have hat35 : cl35.slots[((1 : Int32)).toNatClampNeg]? = some (.int c1) := H35.at hin35 rfl
 have st35 := Xh33.caload hx (j := (1 : Int32)) (v := (.int c1)) Ar35.1 (State.isArrayOf_alike hZ.alike Ar35.2.1) Ar35.2.2 hin35 hat35 (g := (fr_tob3 m a2 19 (vI 1) (vR t21) (vI 1) [(iV 1), (.ref a2), (iV 1), (.ref t21)])) rfl rfl (D d19_19)
 refine ownBy st35 ?_
 show ownG p.tables e below _ (T31.setTop (fr_tob3 m a2 20 (vI 1) (vR t21) (vI 1) [(.int c1), (iV 1), (.ref t21)]))
 have f36 := (f29.keep Kq31 (allS g23 all0))
 have f37 := (Nat.le_trans f30 Kq31.1)
 obtain ⟨vv38, _, ⟨T38, L38, k38, n38⟩, -, X38, ⟨Lc38, hQ38, l38, y38, z38⟩, st38⟩ := Jvm.LawKit.callS Xh33 hx (y := yM2) hown (mvT hZ (Wd95 hw)) (mvT hZ (Wd96 hw)) (mvT hZ (Wd74 hw)) (mvT hZ (Wd97 hw)) (by decide) (backOf (W := 0) (c_put l Z a0 hw [] t21 kb21 (6 : Int32) [(.int (oW c0)), (.int (oH c0)), (iV 0), (iV 0), (iV 0), (iV 0)] (1 : Int32) c1 2 T31.heap n0 f37 Aq31 g23 ⟨by decide +kernel, by decide +kernel⟩ ⟨by decide +kernel, by decide +kernel⟩ (by decide +kernel) (by decide +kernel) (oLe rfl) SA SHI SLO f36) hZ (Wd97 hw) (Wd74 hw) (by decide) (by decide)) (g := (fr_tob3 m a2 20 (vI 1) (vR t21) (vI 1) [(.int c1), (iV 1), (.ref t21)])) rfl (by rw [hml]; rfl) (argsL := [(.ref t21), (iV 1), (.int c1)]) (rest := []) (lenOf pd_6 rfl) rfl (by show 2 * 0 + _ ≤ _; exact Nat.le_of_eq rfl) (D d19_20) (fun _ _ => ⟨rfl, rfl, (by decide : 1 + 0 ≤ _), (by decide : 6 + 0 ≤ _)⟩)
 dsimp only [Pt.U, Pt.locs, Pt.cells, Pt.slots] at X38 l38 y38 z38 st38 hQ38
 subst l38 y38 z38
 obtain ⟨rfl, Nq38, Kq38, Ap38⟩ := hQ38
 have Aq38 : Arv Z T38.heap t21 kb21 .byte (6 : Int32) [(.int (oW c0)), (.int (oH c0)), (.int (oW c1)), (.int (oH c1)), (iV 0), (iV 0)] (iV 0) := Ap38
 have N39 := Fr.app Nh33 Nq38
 obtain ⟨Lh40, Xh40, Nh40⟩ := oHd 1 6 X38 N39 rfl rfl
 refine ownBy st38 ?_
 clear st38
 show ownG p.tables e below _ (T38.setTop (fr_tob3 m a2 23 (vI 1) (vR t21) (vI 1) []))
 refine ownBy (A := T38.setTop (fr_tob3 m a2 19 (vI 2) (vR t21) (vI 2) [(iV 2), (.ref a2), (iV 2), (.ref t21)])) (fun t kt => ?_) ?_
 ·refine XS.iinc Xh40.here hx rfl (D d19_23) rfl (l' := #[vR a2, vI 2, vI 3, vR t21, vI 1]) rfl ?_
  refine XS.iinc Xh40.here hx rfl (D d19_26) rfl (l' := #[vR a2, vI 2, vI 3, vR t21, vI 2]) rfl ?_
  refine XS.goto Xh40.here hx rfl (pc0 := 29) (pc' := 8) rfl (D d19_29) (by decide) (by decide) ?_
  refine XS.iload Xh40.here hx rfl (D d19_8) rfl ?_
  show Steps p.tables e below (T38.setTop (fr_tob3 m a2 10 (vI 2) (vR t21) (vI 2) [(iV 2)])) t
  refine XS.iloadN Xh40.here hx rfl (D d19_10) rfl ?_
  refine XS.icmpNo Xh40.here hx rfl (D d19_11) rfl (tlt ((by decide) : (2 : Int32) < (3 : Int32))).2.1 ?_
  refine XS.aloadN Xh40.here hx rfl (D d19_14) rfl rfl ?_
  refine XS.iload Xh40.here hx rfl (D d19_15) rfl ?_
  show Steps p.tables e below (T38.setTop (fr_tob3 m a2 17 (vI 2) (vR t21) (vI 2) [(iV 2), (.ref t21)])) t
  refine XS.aloadN Xh40.here hx rfl (D d19_17) rfl rfl ?_
  refine XS.iloadN Xh40.here hx rfl (D d19_18) rfl ?_
  exact kt
 have f41 := (f34.keep Kq38 (ninS ne22 nin0))
 obtain ⟨cl42, Ar42, q42, S42, N42, H42, G42⟩ := id f41
 have hin42 : ¬ ((2 : Int32) < 0 ∨ cl42.slots.size ≤ ((2 : Int32)).toNatClampNeg) := inb_of S42 ⟨by decide, by decide⟩
 have hat42 : cl42.slots[((2 : Int32)).toNatClampNeg]? = some (.int c2) := H42.at hin42 rfl
 have st42 := Xh40.caload hx (j := (2 : Int32)) (v := (.int c2)) Ar42.1 (State.isArrayOf_alike hZ.alike Ar42.2.1) Ar42.2.2 hin42 hat42 (g := (fr_tob3 m a2 19 (vI 2) (vR t21) (vI 2) [(iV 2), (.ref a2), (iV 2), (.ref t21)])) rfl rfl (D d19_19)
 refine ownBy st42 ?_
 show ownG p.tables e below _ (T38.setTop (fr_tob3 m a2 20 (vI 2) (vR t21) (vI 2) [(.int c2), (iV 2), (.ref t21)]))
 have f43 := (f36.keep Kq38 (allS g23 all0))
 have f44 := (Nat.le_trans f37 Kq38.1)
 obtain ⟨vv45, _, ⟨T45, L45, k45, n45⟩, -, X45, ⟨Lc45, hQ45, l45, y45, z45⟩, st45⟩ := Jvm.LawKit.callS Xh40 hx (y := yM2) hown (mvT hZ (Wd95 hw)) (mvT hZ (Wd96 hw)) (mvT hZ (Wd74 hw)) (mvT hZ (Wd97 hw)) (by decide) (backOf (W := 0) (c_put l Z a0 hw [] t21 kb21 (6 : Int32) [(.int (oW c0)), (.int (oH c0)), (.int (oW c1)), (.int (oH c1)), (iV 0), (iV 0)] (2 : Int32) c2 4 T38.heap n0 f44 Aq38 g23 ⟨by decide +kernel, by decide +kernel⟩ ⟨by decide +kernel, by decide +kernel⟩ (by decide +kernel) (by decide +kernel) (oLe rfl) SA SHI SLO f43) hZ (Wd97 hw) (Wd74 hw) (by decide) (by decide)) (g := (fr_tob3 m a2 20 (vI 2) (vR t21) (vI 2) [(.int c2), (iV 2), (.ref t21)])) rfl (by rw [hml]; rfl) (argsL := [(.ref t21), (iV 2), (.int c2)]) (rest := []) (lenOf pd_6 rfl) rfl (by show 2 * 0 + _ ≤ _; exact Nat.le_of_eq rfl) (D d19_20) (fun _ _ => ⟨rfl, rfl, (by decide : 1 + 0 ≤ _), (by decide : 6 + 0 ≤ _)⟩)
 dsimp only [Pt.U, Pt.locs, Pt.cells, Pt.slots] at X45 l45 y45 z45 st45 hQ45
 subst l45 y45 z45
 obtain ⟨rfl, Nq45, Kq45, Ap45⟩ := hQ45
 have Aq45 : Arv Z T45.heap t21 kb21 .byte (6 : Int32) [(.int (oW c0)), (.int (oH c0)), (.int (oW c1)), (.int (oH c1)), (.int (oW c2)), (.int (oH c2))] (iV 0) := Ap45
 have N46 := Fr.app Nh40 Nq45
 obtain ⟨Lh47, Xh47, Nh47⟩ := oHd 1 6 X45 N46 rfl rfl
 refine ownBy st45 ?_
 clear st45
 show ownG p.tables e below _ (T45.setTop (fr_tob3 m a2 23 (vI 2) (vR t21) (vI 2) []))
 refine ownBy (A := T45.setTop (fr_tob3 m a2 33 (vI 3) (vR t21) (vI 3) [(.ref t21)])) (fun t kt => ?_) ?_
 ·refine XS.iinc Xh47.here hx rfl (D d19_23) rfl (l' := #[vR a2, vI 3, vI 3, vR t21, vI 2]) rfl ?_
  refine XS.iinc Xh47.here hx rfl (D d19_26) rfl (l' := #[vR a2, vI 3, vI 3, vR t21, vI 3]) rfl ?_
  refine XS.goto Xh47.here hx rfl (pc0 := 29) (pc' := 8) rfl (D d19_29) (by decide) (by decide) ?_
  refine XS.iload Xh47.here hx rfl (D d19_8) rfl ?_
  show Steps p.tables e below (T45.setTop (fr_tob3 m a2 10 (vI 3) (vR t21) (vI 3) [(iV 3)])) t
  refine XS.iloadN Xh47.here hx rfl (D d19_10) rfl ?_
  refine XS.icmpYes Xh47.here hx rfl (pc0 := 11) (pc' := 32) rfl (D d19_11) rfl (flt ((by decide) : ¬ ((3 : Int32) < (3 : Int32)))).2.1 (by decide) (by decide) ?_
  refine XS.aloadN Xh47.here hx rfl (D d19_32) rfl rfl ?_
  exact kt
 have f48 := (((((Keep.refl h0 []).trans Kq21 all0).trans Kq31 (allS (Or.inr z24) all0)).trans Kq38 (allS (Or.inr z24) all0)).trans Kq45 (allS (Or.inr z24) all0))
 refine ownRet Xh47 Bd.notSynchronized (v := some (.ref t21)) (fun h => by rw [Bd.returns] at h; cases h) ?_ (oLe rfl) (oLe rfl) (fun fs hr => retOut Xh47 hx Bd.returns rfl (Or.inr (Or.inr (Or.inr (Or.inr ⟨rfl, rfl, rfl⟩)))) (D d19_33) hr)
 show (Q_tob3 Z a2 kC c0 c1 c2 h0 n0) (some (.ref t21)) T45.heap _
 exact ⟨t21, kb21, rfl, Nh47, f48, z24, Aq45⟩
abbrev fr_cp5_3 (m : MethodId) (a2 : Addr) (ta : Addr) (pc : Nat) (x1_ x3_ x5_ x6_ : Slot) (st : List Value) : JFrame := mkF m pc #[vR a2, x1_, vR ta, x3_, vI 3, x5_, x6_] st
def Q_cp5_3 (Z : State) (a2 : Addr) (kC : ClassId) (ta : Addr) (kb : ClassId) (c0 : Int32) (c1 : Int32) (c2 : Int32) (h0 : Heap) (n0 : Nat) (v : Option Value) (h : Heap) (L : List Loc) : Prop := ∃ r : Int32, v = some (.int r) ∧ Fr n0 L ∧ Keep h0 h [ta] ∧ ((r = (3 : Int32) ∧ ¬ ((255 : Int32) < c0) ∧ ¬ ((255 : Int32) < c1) ∧ ¬ ((255 : Int32) < c2) ∧ Arv Z h ta kb .byte (3 : Int32) [(.int (oL c0)), (.int (oL c1)), (.int (oL c2))] (iV 0)) ∨ (r = (0 : Int32) ∧ (255 : Int32) < c0) ∨ (r = (1 : Int32) ∧ (255 : Int32) < c1) ∨ (r = (2 : Int32) ∧ (255 : Int32) < c2))
theorem ef_cp5_3 (m : MethodId) (x0 : Addr) (x1 : Int32) (x2 : Addr) (x3 : Int32) (x4 : Int32)  : entryFrame m #[(.ref x0), (.int x1), (.ref x2), (.int x3), (.int x4)] 7 = mkF m 0 #[vR x0, vI x1, vR x2, vI x3, vI x4, .unset, .unset] [] := by first | (simp [entryFrame, mkF, argsToLocals, Value.category]; done) | rfl
set_option maxRecDepth 65536 in
set_option maxHeartbeats 40000000 in
theorem c_cp5_3 (l : Launch) (Z : State) (a0 : Array Value) (hw : ∀ d ∈ tables_1, d.before a0 Z = true) (ws : List Jvm.Cond) (a2 : Addr) (kC : ClassId) (ta : Addr) (kb : ClassId) (c0 : Int32) (c1 : Int32) (c2 : Int32) (h0 : Heap) (n0 : Nat) (Z0 : n0 ≤ h0.size) (A2 : Arv Z h0 a2 kC .char (3 : Int32) [(.int c0), (.int c1), (.int c2)] (iV 0)) (At : Arv Z h0 ta kb .byte (3 : Int32) [(iV 0), (iV 0), (iV 0)] (iV 0)) (gt : n0 ≤ ta) (ne1 : a2 ≠ ta) :
  MetFree l yM8 (head1 (Jvm.Cond.code yM8 jdk_52_method_21_code 7 (some .int) :: ws) ({ frames := 0, cells := 0, slots := 0, locals := 0 } : Room)) (fun a U => a = #[(.ref a2), (iV 0), (.ref ta), (iV 0), (iV 3)] ∧ Z.Warmed39 U.vm ∧ U.heap = h0) (fun _ _ _ _ _ => True) (fun _ U o U' => ∃ v L, o = .returned v ∧ (Q_cp5_3 Z a2 kC ta kb c0 c1 c2 h0 n0) v U'.heap L ∧ FrameEnd U o U' L ({ frames := 0, cells := 0, slots := 0, locals := 0 } : Room).cells ({ frames := 0, cells := 0, slots := 0, locals := 0 } : Room).slots) := by
 refine MetFree.of_bodySF (plainFor_of_name pn_3) hisR ?_
 intro p e s m args below meth c s₁ Bd hml0 hP hK
 obtain ⟨rfl, hZ, hHp⟩ := hP
 have hx := Bd.exec
 have D := fun {pc : Nat} {r} (h : decode _ pc = r) => hb Bd.bytes h
 have hml : c.maxLocals = 7 := hml0
 have hown : s.vm.findClass "java/lang/StringUTF16" = some m.cls := findClass_of_methodNamed Bd.named
 have hnm := (name_of_methodNamed Bd.named Bd.method).1
 have X0 : Stand p l e ({ frames := 0, cells := 0, slots := 0, locals := 0 } : Room) s m #[(.ref a2), (iV 0), (.ref ta), (iV 0), (iV 3)] below meth c s₁ [] 0 0 := Stand.of_body Bd
 have e0 : s₁.heap = h0 := by rw [← hHp, Bd.state]; rfl
 have N0 := Fr.nil n0
 refine ownOut (P := (Q_cp5_3 Z a2 kC ta kb c0 c1 c2 h0 n0)) ?_
 refine ownBy (A := s₁.setTop (mkF m 0 #[vR a2, vI 0, vR ta, vI 0, vI 3, .unset, .unset] [])) (fun t k => castTop (ef_cp5_3 m a2 (0 : Int32) ta (0 : Int32) (3 : Int32)) k) ?_
 refine ownBy (A := s₁.setTop (fr_cp5_3 m a2 ta 12 (vI 0) (vI 0) (vI 0) .unset [(iV 0), (.ref a2)])) (fun t kt => ?_) ?_
 ·refine XS.iconst X0.here hx rfl (D d16_0) ?_
  refine XS.istore X0.here hx rfl (D d16_1) rfl (l' := #[vR a2, vI 0, vR ta, vI 0, vI 3, vI 0, .unset]) rfl ?_
  refine XS.iload X0.here hx rfl (D d16_3) rfl ?_
  refine XS.iload X0.here hx rfl (D d16_5) rfl ?_
  show Steps p.tables e below (s₁.setTop (fr_cp5_3 m a2 ta 7 (vI 0) (vI 0) (vI 0) .unset [(iV 3), (iV 0)])) t
  refine XS.icmpNo X0.here hx rfl (D d16_7) rfl (tlt ((by decide) : (0 : Int32) < (3 : Int32))).2.1 ?_
  refine XS.aloadN X0.here hx rfl (D d16_10) rfl rfl ?_
  refine XS.iloadN X0.here hx rfl (D d16_11) rfl ?_
  exact kt
 obtain ⟨cl21, Ar21, q21, S21, N21, H21, G21⟩ := id A2
 have hin21 : ¬ ((0 : Int32) < 0 ∨ cl21.slots.size ≤ ((0 : Int32)).toNatClampNeg) := inb_of S21 ⟨by decide, by decide⟩
 have hat21 : cl21.slots[((0 : Int32)).toNatClampNeg]? = some (.int c0) := H21.at hin21 rfl
 have st21 := X0.caload hx (j := (0 : Int32)) (v := (.int c0)) (by rw [e0]; exact Ar21.1) (State.isArrayOf_alike hZ.alike Ar21.2.1) Ar21.2.2 hin21 hat21 (g := (fr_cp5_3 m a2 ta 12 (vI 0) (vI 0) (vI 0) .unset [(iV 0), (.ref a2)])) rfl rfl (D d16_12)
 refine ownBy st21 ?_
 show ownG p.tables e below _ (s₁.setTop (fr_cp5_3 m a2 ta 13 (vI 0) (vI 0) (vI 0) .unset [(.int c0)]))
 refine ownBy (A := s₁.setTop (fr_cp5_3 m a2 ta 20 (vI 0) (vI 0) (vI 0) (vI c0) [(iV 255), (.int c0)])) (fun t kt => ?_) ?_
 ·refine XS.istore X0.here hx rfl (D d16_13) rfl (l' := #[vR a2, vI 0, vR ta, vI 0, vI 3, vI 0, vI c0]) rfl ?_
  refine XS.iload X0.here hx rfl (D d16_15) rfl ?_
  refine XS.sipush X0.here hx rfl (D d16_17) ?_
  exact kt
 by_cases hc22 : (255 : Int32) < c0
 ·skip
  refine ownBy (A := s₁.setTop (fr_cp5_3 m a2 ta 25 (vI 0) (vI 0) (vI 0) (vI c0) [(iV 0)])) (fun t kt => ?_) ?_
  ·refine XS.icmpNo X0.here hx rfl (D d16_20) rfl (tlt hc22).2.2.2 ?_
   refine XS.iload X0.here hx rfl (D d16_23) rfl ?_
   exact kt
  refine ownRet X0 Bd.notSynchronized (v := some (iV 0)) (fun h => by rw [Bd.returns] at h; cases h) ?_ (oLe rfl) (oLe rfl) (fun fs hr => retI X0 hx Bd.returns (D d16_25) hr)
  show (Q_cp5_3 Z a2 kC ta kb c0 c1 c2 h0 n0) (some (iV 0)) s₁.heap _
  rw [e0]
  exact ⟨_, rfl, N0, (Keep.refl h0 [ta]), Or.inr (Or.inl ⟨rfl, hc22⟩)⟩
 ·skip
  refine ownBy (A := s₁.setTop (fr_cp5_3 m a2 ta 31 (vI 0) (vI 0) (vI 0) (vI c0) [(.int (c0.toInt8.toInt32)), (iV 0), (.ref ta)])) (fun t kt => ?_) ?_
  ·refine XS.icmpYes X0.here hx rfl (pc0 := 20) (pc' := 26) rfl (D d16_20) rfl (flt hc22).2.2.2 (by decide) (by decide) ?_
   refine XS.aloadN X0.here hx rfl (D d16_26) rfl rfl ?_
   refine XS.iloadN X0.here hx rfl (D d16_27) rfl ?_
   refine XS.iload X0.here hx rfl (D d16_28) rfl ?_
   show Steps p.tables e below (s₁.setTop (fr_cp5_3 m a2 ta 30 (vI 0) (vI 0) (vI 0) (vI c0) [(.int c0), (iV 0), (.ref ta)])) t
   refine XS.i2b X0.here hx rfl (D d16_30) rfl ?_
   exact kt
  obtain ⟨cl23, Ar23, q23, S23, N23, H23, G23⟩ := id At
  have hin23 : ¬ ((0 : Int32) < 0 ∨ cl23.slots.size ≤ ((0 : Int32)).toNatClampNeg) := inb_of S23 ⟨by decide, by decide⟩
  obtain ⟨T23, h23, X23, e23, W23, st23⟩ := stB X0 hx hZ e0 Ar23 (j := (0 : Int32)) hin23 (g := (fr_cp5_3 m a2 ta 31 (vI 0) (vI 0) (vI 0) (vI c0) [(.int (c0.toInt8.toInt32)), (iV 0), (.ref ta)])) rfl rfl (D d16_31)
  have V24 : Arv Z h23 ta kb .byte (3 : Int32) [(.int (nar .byte (c0.toInt8.toInt32))), (iV 0), (iV 0)] (iV 0) := Arv.set Ar23 q23 S23 N23 H23 G23 (fits_nar_byte _) W23 0 rfl (oLe rfl)
  rw [own_nar_byte c0] at V24
  clear hin23 G23 H23 N23 S23 q23 Ar23 cl23
  have N25 := Fr.snoc X23 N0 gt
  obtain ⟨Lh26, Xh26, Nh26⟩ := oHd 0 0 X23 N25 rfl rfl
  refine ownBy st23 ?_
  clear st23
  show ownG p.tables e below _ (T23.setTop (fr_cp5_3 m a2 ta 32 (vI 0) (vI 0) (vI 0) (vI c0) []))
  refine ownBy (A := T23.setTop (fr_cp5_3 m a2 ta 12 (vI 1) (vI 1) (vI 1) (vI c0) [(iV 1), (.ref a2)])) (fun t kt => ?_) ?_
  ·refine XS.iinc Xh26.here hx rfl (D d16_32) rfl (l' := #[vR a2, vI 1, vR ta, vI 0, vI 3, vI 0, vI c0]) rfl ?_
   refine XS.iinc Xh26.here hx rfl (D d16_35) rfl (l' := #[vR a2, vI 1, vR ta, vI 1, vI 3, vI 0, vI c0]) rfl ?_
   refine XS.iinc Xh26.here hx rfl (D d16_38) rfl (l' := #[vR a2, vI 1, vR ta, vI 1, vI 3, vI 1, vI c0]) rfl ?_
   refine XS.goto Xh26.here hx rfl (pc0 := 41) (pc' := 3) rfl (D d16_41) (by decide) (by decide) ?_
   show Steps p.tables e below (T23.setTop (fr_cp5_3 m a2 ta 3 (vI 1) (vI 1) (vI 1) (vI c0) [])) t
   refine XS.iload Xh26.here hx rfl (D d16_3) rfl ?_
   refine XS.iload Xh26.here hx rfl (D d16_5) rfl ?_
   refine XS.icmpNo Xh26.here hx rfl (D d16_7) rfl (tlt ((by decide) : (1 : Int32) < (3 : Int32))).2.1 ?_
   refine XS.aloadN Xh26.here hx rfl (D d16_10) rfl rfl ?_
   show Steps p.tables e below (T23.setTop (fr_cp5_3 m a2 ta 11 (vI 1) (vI 1) (vI 1) (vI c0) [(.ref a2)])) t
   refine XS.iloadN Xh26.here hx rfl (D d16_11) rfl ?_
   exact kt
  have f27 := (A2.other W23 ne1)
  obtain ⟨cl28, Ar28, q28, S28, N28, H28, G28⟩ := id f27
  have hin28 : ¬ ((1 : Int32) < 0 ∨ cl28.slots.size ≤ ((1 : Int32)).toNatClampNeg) := inb_of S28 ⟨by decide, by decide⟩
  have hat28 : cl28.slots[((1 : Int32)).toNatClampNeg]? = some (.int c1) := H28.at hin28 rfl
  have st28 := Xh26.caload hx (j := (1 : Int32)) (v := (.int c1)) (by rw [e23]; exact Ar28.1) (State.isArrayOf_alike hZ.alike Ar28.2.1) Ar28.2.2 hin28 hat28 (g := (fr_cp5_3 m a2 ta 12 (vI 1) (vI 1) (vI 1) (vI c0) [(iV 1), (.ref a2)])) rfl rfl (D d16_12)
  refine ownBy st28 ?_
  show ownG p.tables e below _ (T23.setTop (fr_cp5_3 m a2 ta 13 (vI 1) (vI 1) (vI 1) (vI c0) [(.int c1)]))
  refine ownBy (A := T23.setTop (fr_cp5_3 m a2 ta 20 (vI 1) (vI 1) (vI 1) (vI c1) [(iV 255), (.int c1)])) (fun t kt => ?_) ?_
  ·refine XS.istore Xh26.here hx rfl (D d16_13) rfl (l' := #[vR a2, vI 1, vR ta, vI 1, vI 3, vI 1, vI c1]) rfl ?_
   refine XS.iload Xh26.here hx rfl (D d16_15) rfl ?_
   refine XS.sipush Xh26.here hx rfl (D d16_17) ?_
   exact kt
  by_cases hc29 : (255 : Int32) < c1
  ·skip
   refine ownBy (A := T23.setTop (fr_cp5_3 m a2 ta 25 (vI 1) (vI 1) (vI 1) (vI c1) [(iV 1)])) (fun t kt => ?_) ?_
   ·refine XS.icmpNo Xh26.here hx rfl (D d16_20) rfl (tlt hc29).2.2.2 ?_
    refine XS.iload Xh26.here hx rfl (D d16_23) rfl ?_
    exact kt
   have f30 := ((Keep.refl h0 [ta]).wr W23 (Or.inl (List.mem_of_getElem? (i := 0) rfl)))
   refine ownRet Xh26 Bd.notSynchronized (v := some (iV 1)) (fun h => by rw [Bd.returns] at h; cases h) ?_ (oLe rfl) (oLe rfl) (fun fs hr => retI Xh26 hx Bd.returns (D d16_25) hr)
   show (Q_cp5_3 Z a2 kC ta kb c0 c1 c2 h0 n0) (some (iV 1)) T23.heap _
   rw [e23]
   exact ⟨_, rfl, Nh26, f30, Or.inr (Or.inr (Or.inl ⟨rfl, hc29⟩))⟩
  ·skip
   refine ownBy (A := T23.setTop (fr_cp5_3 m a2 ta 31 (vI 1) (vI 1) (vI 1) (vI c1) [(.int (c1.toInt8.toInt32)), (iV 1), (.ref ta)])) (fun t kt => ?_) ?_
   ·refine XS.icmpYes Xh26.here hx rfl (pc0 := 20) (pc' := 26) rfl (D d16_20) rfl (flt hc29).2.2.2 (by decide) (by decide) ?_
    refine XS.aloadN Xh26.here hx rfl (D d16_26) rfl rfl ?_
    refine XS.iloadN Xh26.here hx rfl (D d16_27) rfl ?_
    refine XS.iload Xh26.here hx rfl (D d16_28) rfl ?_
    show Steps p.tables e below (T23.setTop (fr_cp5_3 m a2 ta 30 (vI 1) (vI 1) (vI 1) (vI c1) [(.int c1), (iV 1), (.ref ta)])) t
    refine XS.i2b Xh26.here hx rfl (D d16_30) rfl ?_
    exact kt
   obtain ⟨cl31, Ar31, q31, S31, N31, H31, G31⟩ := id V24
   have hin31 : ¬ ((1 : Int32) < 0 ∨ cl31.slots.size ≤ ((1 : Int32)).toNatClampNeg) := inb_of S31 ⟨by decide, by decide⟩
   obtain ⟨T31, h31, X31, e31, W31, st31⟩ := stB Xh26 hx hZ e23 Ar31 (j := (1 : Int32)) hin31 (g := (fr_cp5_3 m a2 ta 31 (vI 1) (vI 1) (vI 1) (vI c1) [(.int (c1.toInt8.toInt32)), (iV 1), (.ref ta)])) rfl rfl (D d16_31)
   have V32 : Arv Z h31 ta kb .byte (3 : Int32) [(.int (oL c0)), (.int (nar .byte (c1.toInt8.toInt32))), (iV 0)] (iV 0) := Arv.set Ar31 q31 S31 N31 H31 G31 (fits_nar_byte _) W31 1 rfl (oLe rfl)
   rw [own_nar_byte c1] at V32
   clear hin31 G31 H31 N31 S31 q31 Ar31 cl31 V24
   have N33 := Fr.snoc X31 Nh26 gt
   obtain ⟨Lh34, Xh34, Nh34⟩ := oHd 0 0 X31 N33 rfl rfl
   refine ownBy st31 ?_
   clear st31
   show ownG p.tables e below _ (T31.setTop (fr_cp5_3 m a2 ta 32 (vI 1) (vI 1) (vI 1) (vI c1) []))
   refine ownBy (A := T31.setTop (fr_cp5_3 m a2 ta 12 (vI 2) (vI 2) (vI 2) (vI c1) [(iV 2), (.ref a2)])) (fun t kt => ?_) ?_
   ·refine XS.iinc Xh34.here hx rfl (D d16_32) rfl (l' := #[vR a2, vI 2, vR ta, vI 1, vI 3, vI 1, vI c1]) rfl ?_
    refine XS.iinc Xh34.here hx rfl (D d16_35) rfl (l' := #[vR a2, vI 2, vR ta, vI 2, vI 3, vI 1, vI c1]) rfl ?_
    refine XS.iinc Xh34.here hx rfl (D d16_38) rfl (l' := #[vR a2, vI 2, vR ta, vI 2, vI 3, vI 2, vI c1]) rfl ?_
    refine XS.goto Xh34.here hx rfl (pc0 := 41) (pc' := 3) rfl (D d16_41) (by decide) (by decide) ?_
    show Steps p.tables e below (T31.setTop (fr_cp5_3 m a2 ta 3 (vI 2) (vI 2) (vI 2) (vI c1) [])) t
    refine XS.iload Xh34.here hx rfl (D d16_3) rfl ?_
    refine XS.iload Xh34.here hx rfl (D d16_5) rfl ?_
    refine XS.icmpNo Xh34.here hx rfl (D d16_7) rfl (tlt ((by decide) : (2 : Int32) < (3 : Int32))).2.1 ?_
    refine XS.aloadN Xh34.here hx rfl (D d16_10) rfl rfl ?_
    show Steps p.tables e below (T31.setTop (fr_cp5_3 m a2 ta 11 (vI 2) (vI 2) (vI 2) (vI c1) [(.ref a2)])) t
    refine XS.iloadN Xh34.here hx rfl (D d16_11) rfl ?_
    exact kt
   have f35 := (f27.other W31 ne1)
   obtain ⟨cl36, Ar36, q36, S36, N36, H36, G36⟩ := id f35
   have hin36 : ¬ ((2 : Int32) < 0 ∨ cl36.slots.size ≤ ((2 : Int32)).toNatClampNeg) := inb_of S36 ⟨by decide, by decide⟩
   have hat36 : cl36.slots[((2 : Int32)).toNatClampNeg]? = some (.int c2) := H36.at hin36 rfl
   have st36 := Xh34.caload hx (j := (2 : Int32)) (v := (.int c2)) (by rw [e31]; exact Ar36.1) (State.isArrayOf_alike hZ.alike Ar36.2.1) Ar36.2.2 hin36 hat36 (g := (fr_cp5_3 m a2 ta 12 (vI 2) (vI 2) (vI 2) (vI c1) [(iV 2), (.ref a2)])) rfl rfl (D d16_12)
   refine ownBy st36 ?_
   show ownG p.tables e below _ (T31.setTop (fr_cp5_3 m a2 ta 13 (vI 2) (vI 2) (vI 2) (vI c1) [(.int c2)]))
   refine ownBy (A := T31.setTop (fr_cp5_3 m a2 ta 20 (vI 2) (vI 2) (vI 2) (vI c2) [(iV 255), (.int c2)])) (fun t kt => ?_) ?_
   ·refine XS.istore Xh34.here hx rfl (D d16_13) rfl (l' := #[vR a2, vI 2, vR ta, vI 2, vI 3, vI 2, vI c2]) rfl ?_
    refine XS.iload Xh34.here hx rfl (D d16_15) rfl ?_
    refine XS.sipush Xh34.here hx rfl (D d16_17) ?_
    exact kt
   by_cases hc37 : (255 : Int32) < c2
   ·skip
    refine ownBy (A := T31.setTop (fr_cp5_3 m a2 ta 25 (vI 2) (vI 2) (vI 2) (vI c2) [(iV 2)])) (fun t kt => ?_) ?_
    ·refine XS.icmpNo Xh34.here hx rfl (D d16_20) rfl (tlt hc37).2.2.2 ?_
     refine XS.iload Xh34.here hx rfl (D d16_23) rfl ?_
     exact kt
    have f38 := (((Keep.refl h0 [ta]).wr W23 (Or.inl (List.mem_of_getElem? (i := 0) rfl))).wr W31 (Or.inl (List.mem_of_getElem? (i := 0) rfl)))
    refine ownRet Xh34 Bd.notSynchronized (v := some (iV 2)) (fun h => by rw [Bd.returns] at h; cases h) ?_ (oLe rfl) (oLe rfl) (fun fs hr => retI Xh34 hx Bd.returns (D d16_25) hr)
    show (Q_cp5_3 Z a2 kC ta kb c0 c1 c2 h0 n0) (some (iV 2)) T31.heap _
    rw [e31]
    exact ⟨_, rfl, Nh34, f38, Or.inr (Or.inr (Or.inr (⟨rfl, hc37⟩)))⟩
   ·skip
    refine ownBy (A := T31.setTop (fr_cp5_3 m a2 ta 31 (vI 2) (vI 2) (vI 2) (vI c2) [(.int (c2.toInt8.toInt32)), (iV 2), (.ref ta)])) (fun t kt => ?_) ?_
    ·refine XS.icmpYes Xh34.here hx rfl (pc0 := 20) (pc' := 26) rfl (D d16_20) rfl (flt hc37).2.2.2 (by decide) (by decide) ?_
     refine XS.aloadN Xh34.here hx rfl (D d16_26) rfl rfl ?_
     refine XS.iloadN Xh34.here hx rfl (D d16_27) rfl ?_
     refine XS.iload Xh34.here hx rfl (D d16_28) rfl ?_
     show Steps p.tables e below (T31.setTop (fr_cp5_3 m a2 ta 30 (vI 2) (vI 2) (vI 2) (vI c2) [(.int c2), (iV 2), (.ref ta)])) t
     refine XS.i2b Xh34.here hx rfl (D d16_30) rfl ?_
     exact kt
    obtain ⟨cl39, Ar39, q39, S39, N39, H39, G39⟩ := id V32
    have hin39 : ¬ ((2 : Int32) < 0 ∨ cl39.slots.size ≤ ((2 : Int32)).toNatClampNeg) := inb_of S39 ⟨by decide, by decide⟩
    obtain ⟨T39, h39, X39, e39, W39, st39⟩ := stB Xh34 hx hZ e31 Ar39 (j := (2 : Int32)) hin39 (g := (fr_cp5_3 m a2 ta 31 (vI 2) (vI 2) (vI 2) (vI c2) [(.int (c2.toInt8.toInt32)), (iV 2), (.ref ta)])) rfl rfl (D d16_31)
    have V40 : Arv Z h39 ta kb .byte (3 : Int32) [(.int (oL c0)), (.int (oL c1)), (.int (nar .byte (c2.toInt8.toInt32)))] (iV 0) := Arv.set Ar39 q39 S39 N39 H39 G39 (fits_nar_byte _) W39 2 rfl (oLe rfl)
    rw [own_nar_byte c2] at V40
    clear hin39 G39 H39 N39 S39 q39 Ar39 cl39 V32
    have N41 := Fr.snoc X39 Nh34 gt
    obtain ⟨Lh42, Xh42, Nh42⟩ := oHd 0 0 X39 N41 rfl rfl
    refine ownBy st39 ?_
    clear st39
    show ownG p.tables e below _ (T39.setTop (fr_cp5_3 m a2 ta 32 (vI 2) (vI 2) (vI 2) (vI c2) []))
    refine ownBy (A := T39.setTop (fr_cp5_3 m a2 ta 46 (vI 3) (vI 3) (vI 3) (vI c2) [(iV 3)])) (fun t kt => ?_) ?_
    ·refine XS.iinc Xh42.here hx rfl (D d16_32) rfl (l' := #[vR a2, vI 3, vR ta, vI 2, vI 3, vI 2, vI c2]) rfl ?_
     refine XS.iinc Xh42.here hx rfl (D d16_35) rfl (l' := #[vR a2, vI 3, vR ta, vI 3, vI 3, vI 2, vI c2]) rfl ?_
     refine XS.iinc Xh42.here hx rfl (D d16_38) rfl (l' := #[vR a2, vI 3, vR ta, vI 3, vI 3, vI 3, vI c2]) rfl ?_
     refine XS.goto Xh42.here hx rfl (pc0 := 41) (pc' := 3) rfl (D d16_41) (by decide) (by decide) ?_
     show Steps p.tables e below (T39.setTop (fr_cp5_3 m a2 ta 3 (vI 3) (vI 3) (vI 3) (vI c2) [])) t
     refine XS.iload Xh42.here hx rfl (D d16_3) rfl ?_
     refine XS.iload Xh42.here hx rfl (D d16_5) rfl ?_
     refine XS.icmpYes Xh42.here hx rfl (pc0 := 7) (pc' := 44) rfl (D d16_7) rfl (flt ((by decide) : ¬ ((3 : Int32) < (3 : Int32)))).2.1 (by decide) (by decide) ?_
     refine XS.iload Xh42.here hx rfl (D d16_44) rfl ?_
     exact kt
    have f43 := ((((Keep.refl h0 [ta]).wr W23 (Or.inl (List.mem_of_getElem? (i := 0) rfl))).wr W31 (Or.inl (List.mem_of_getElem? (i := 0) rfl))).wr W39 (Or.inl (List.mem_of_getElem? (i := 0) rfl)))
    refine ownRet Xh42 Bd.notSynchronized (v := some (iV 3)) (fun h => by rw [Bd.returns] at h; cases h) ?_ (oLe rfl) (oLe rfl) (fun fs hr => retI Xh42 hx Bd.returns (D d16_46) hr)
    show (Q_cp5_3 Z a2 kC ta kb c0 c1 c2 h0 n0) (some (iV 3)) T39.heap _
    rw [e39]
    exact ⟨_, rfl, Nh42, f43, Or.inl ⟨rfl, hc22, hc29, hc37, V40⟩⟩
abbrev fr_cp3_3 (m : MethodId) (a2 : Addr) (pc : Nat) (x3_ x4_ x5_ : Slot) (st : List Value) : JFrame := mkF m pc #[vR a2, vI 0, vI 3, x3_, x4_, x5_] st
def Q_cp3_3 (Z : State) (a2 : Addr) (kC : ClassId) (c0 : Int32) (c1 : Int32) (c2 : Int32) (h0 : Heap) (n0 : Nat) (v : Option Value) (h : Heap) (L : List Loc) : Prop := ∃ (ta : Addr) (kb : ClassId), v = some (.ref ta) ∧ Fr n0 L ∧ Keep h0 h [] ∧ h0.size ≤ ta ∧ ((¬ ((255 : Int32) < c0) ∧ ¬ ((255 : Int32) < c1) ∧ ¬ ((255 : Int32) < c2) ∧ Arv Z h ta kb .byte (3 : Int32) [(.int (oL c0)), (.int (oL c1)), (.int (oL c2))] (iV 0)) ∨ (((255 : Int32) < c0 ∨ (255 : Int32) < c1 ∨ (255 : Int32) < c2) ∧ Arv Z h ta kb .byte (6 : Int32) [(.int (oW c0)), (.int (oH c0)), (.int (oW c1)), (.int (oH c1)), (.int (oW c2)), (.int (oH c2))] (iV 0)))
theorem ef_cp3_3 (m : MethodId) (x0 : Addr) (x1 : Int32) (x2 : Int32)  : entryFrame m #[(.ref x0), (.int x1), (.int x2)] 6 = mkF m 0 #[vR x0, vI x1, vI x2, .unset, .unset, .unset] [] := by first | (simp [entryFrame, mkF, argsToLocals, Value.category]; done) | rfl
set_option maxRecDepth 65536 in
set_option maxHeartbeats 40000000 in
theorem c_cp3_3 (l : Launch) (Z : State) (a0 : Array Value) (hw : ∀ d ∈ tables_1, d.before a0 Z = true) (ws : List Jvm.Cond) (a2 : Addr) (kC : ClassId) (c0 : Int32) (c1 : Int32) (c2 : Int32) (h0 : Heap) (n0 : Nat) (Z0 : n0 ≤ h0.size) (A2 : Arv Z h0 a2 kC .char (3 : Int32) [(.int c0), (.int c1), (.int c2)] (iV 0)) (hc0 : ¬ c0 < 0 ∧ ¬ (65535 : Int32) < c0) (hc1 : ¬ c1 < 0 ∧ ¬ (65535 : Int32) < c1) (hc2 : ¬ c2 < 0 ∧ ¬ (65535 : Int32) < c2) (SA : Sta Z Z.heap "java/lang/StringUTF16" "$assertionsDisabled" "Z" (iV 1)) (SHI : Sta Z Z.heap "java/lang/StringUTF16" "HI_BYTE_SHIFT" "I" (iV 0)) (SLO : Sta Z Z.heap "java/lang/StringUTF16" "LO_BYTE_SHIFT" "I" (iV 8)) (X00 : Old Z n0 h0) :
  MetFree l yM9 (head1 (Jvm.Cond.code yM9 jdk_52_method_16_code 6 (some (.array .byte)) :: ws) ({ frames := 3, cells := 2, slots := 9, locals := 40 } : Room)) (fun a U => a = #[(.ref a2), (iV 0), (iV 3)] ∧ Z.Warmed39 U.vm ∧ U.heap = h0) (fun _ _ _ _ _ => True) (fun _ U o U' => ∃ v L, o = .returned v ∧ (Q_cp3_3 Z a2 kC c0 c1 c2 h0 n0) v U'.heap L ∧ FrameEnd U o U' L ({ frames := 3, cells := 2, slots := 9, locals := 40 } : Room).cells ({ frames := 3, cells := 2, slots := 9, locals := 40 } : Room).slots) := by
 refine MetFree.of_bodySF (plainFor_of_name pn_3) hisR ?_
 intro p e s m args below meth c s₁ Bd hml0 hP hK
 obtain ⟨rfl, hZ, hHp⟩ := hP
 have hx := Bd.exec
 have D := fun {pc : Nat} {r} (h : decode _ pc = r) => hb Bd.bytes h
 have hml : c.maxLocals = 6 := hml0
 have hown : s.vm.findClass "java/lang/StringUTF16" = some m.cls := findClass_of_methodNamed Bd.named
 have hnm := (name_of_methodNamed Bd.named Bd.method).1
 have X0 : Stand p l e ({ frames := 3, cells := 2, slots := 9, locals := 40 } : Room) s m #[(.ref a2), (iV 0), (iV 3)] below meth c s₁ [] 0 0 := Stand.of_body Bd
 have e0 : s₁.heap = h0 := by rw [← hHp, Bd.state]; rfl
 have N0 := Fr.nil n0
 refine ownOut (P := (Q_cp3_3 Z a2 kC c0 c1 c2 h0 n0)) ?_
 refine ownBy (A := s₁.setTop (mkF m 0 #[vR a2, vI 0, vI 3, .unset, .unset, .unset] [])) (fun t k => castTop (ef_cp3_3 m a2 (0 : Int32) (3 : Int32)) k) ?_
 refine ownBy (A := s₁.setTop (fr_cp3_3 m a2 1 .unset .unset .unset [(iV 3)])) (fun t kt => ?_) ?_
 ·refine XS.iloadN X0.here hx rfl (D d15_0) rfl ?_
  exact kt
 obtain ⟨T21, h21, k21, X21, e21, E21, A21, st21⟩ := newP X0 hx hZ (aty := .byte) (Wd21 hw) e0 (g := (fr_cp3_3 m a2 1 .unset .unset .unset [(iV 3)])) rfl (D d15_1) rfl (by decide : ¬ ((3 : Int32) < (0 : Int32))) (cap := 3) (by decide) (by decide) (by decide) (by decide)
 obtain ⟨b21, g21⟩ : ∃ z, z = h0.size := ⟨_, rfl⟩
 rw [← g21] at A21 st21
 have ne22 : a2 ≠ b21 := Nat.ne_of_lt (Nat.lt_of_lt_of_le A2.lt (Nat.le_of_eq g21.symm))
 have g23 : n0 ≤ b21 := Nat.le_trans Z0 (Nat.le_of_eq g21.symm)
 have z24 : h0.size ≤ b21 := Nat.le_trans (Nat.le_refl h0.size) (Nat.le_of_eq g21.symm)
 have V25 : Arv Z h21 b21 k21 .byte (3 : Int32) [(iV 0), (iV 0), (iV 0)] (iV 0) := (Arv.new A21 (by decide)).pad (pad_rep [] (iV 0) 3)
 refine ownBy st21 ?_
 clear st21
 show ownG p.tables e below _ (T21.setTop (fr_cp3_3 m a2 3 .unset .unset .unset [(.ref b21)]))
 refine ownBy (A := T21.setTop (fr_cp3_3 m a2 9 (vR b21) .unset .unset [(iV 3), (iV 0), (.ref b21), (iV 0), (.ref a2)])) (fun t kt => ?_) ?_
 ·refine XS.astoreN X21.here hx rfl (D d15_3) rfl rfl (l' := #[vR a2, vI 0, vI 3, vR b21, .unset, .unset]) rfl ?_
  refine XS.aloadN X21.here hx rfl (D d15_4) rfl rfl ?_
  refine XS.iloadN X21.here hx rfl (D d15_5) rfl ?_
  refine XS.aloadN X21.here hx rfl (D d15_6) rfl rfl ?_
  show Steps p.tables e below (T21.setTop (fr_cp3_3 m a2 7 (vR b21) .unset .unset [(.ref b21), (iV 0), (.ref a2)])) t
  refine XS.iconst X21.here hx rfl (D d15_7) ?_
  refine XS.iloadN X21.here hx rfl (D d15_8) rfl ?_
  exact kt
 have f26 := (A2.ext E21)
 have f27 := (Nat.le_trans Z0 E21.1)
 obtain ⟨vv28, _, ⟨T28, L28, k28, n28⟩, -, X28, ⟨Lc28, hQ28, l28, y28, z28⟩, st28⟩ := Jvm.LawKit.callS X21 hx (y := yM8) hown (mvT hZ (Wd76 hw)) (mvT hZ (Wd77 hw)) (mvT hZ (Wd74 hw)) (mvT hZ (Wd78 hw)) (by decide) (backOf (W := 0) (c_cp5_3 l Z a0 hw [] a2 kC b21 k21 c0 c1 c2 h21 n0 f27 f26 V25 g23 ne22) hZ (Wd78 hw) (Wd74 hw) (by decide) (by decide)) (g := (fr_cp3_3 m a2 9 (vR b21) .unset .unset [(iV 3), (iV 0), (.ref b21), (iV 0), (.ref a2)])) rfl (by rw [hml]; rfl) (argsL := [(.ref a2), (iV 0), (.ref b21), (iV 0), (iV 3)]) (rest := []) (lenOf pd_7 rfl) rfl (by show 2 * 0 + _ ≤ _; exact Nat.le_of_eq rfl) (D d15_9) (fun _ _ => ⟨rfl, e21, (by decide : 1 + 0 ≤ _), (by decide : 3 + 0 ≤ _)⟩)
 dsimp only [Pt.U, Pt.locs, Pt.cells, Pt.slots] at X28 l28 y28 z28 st28 hQ28
 subst l28 y28 z28
 obtain ⟨r28, rfl, Nq28, Kq28, hB28⟩ := hQ28
 rcases hB28 with ⟨rfl, hn28_0, hn28_1, hn28_2, Aq28⟩ | hF
 ·skip
  have N29 := Fr.app N0 Nq28
  obtain ⟨Lh30, Xh30, Nh30⟩ := oHd 1 3 X28 N29 rfl rfl
  refine ownBy st28 ?_
  clear st28
  show ownG p.tables e below _ (T28.setTop (fr_cp3_3 m a2 12 (vR b21) .unset .unset [(iV 3)]))
  refine ownBy (A := T28.setTop (fr_cp3_3 m a2 58 (vR b21) (vI 3) .unset [(.ref b21)])) (fun t kt => ?_) ?_
  ·refine XS.istore Xh30.here hx rfl (D d15_12) rfl (l' := #[vR a2, vI 0, vI 3, vR b21, vI 3, .unset]) rfl ?_
   refine XS.iload Xh30.here hx rfl (D d15_14) rfl ?_
   refine XS.iloadN Xh30.here hx rfl (D d15_16) rfl ?_
   refine XS.icmpYes Xh30.here hx rfl (pc0 := 17) (pc' := 57) rfl (D d15_17) rfl (teq ((by decide) : (3 : Int32) = (3 : Int32))).1 (by decide) (by decide) ?_
   show Steps p.tables e below (T28.setTop (fr_cp3_3 m a2 57 (vR b21) (vI 3) .unset [])) t
   refine XS.aloadN Xh30.here hx rfl (D d15_57) rfl rfl ?_
   exact kt
  have f31 := (((Keep.refl h0 []).ext E21).trans Kq28 (allS (Or.inr z24) all0))
  refine ownRet Xh30 Bd.notSynchronized (v := some (.ref b21)) (fun h => by rw [Bd.returns] at h; cases h) ?_ (oLe rfl) (oLe rfl) (fun fs hr => retOut Xh30 hx Bd.returns rfl (Or.inr (Or.inr (Or.inr (Or.inr ⟨rfl, rfl, rfl⟩)))) (D d15_58) hr)
  show (Q_cp3_3 Z a2 kC c0 c1 c2 h0 n0) (some (.ref b21)) T28.heap _
  exact ⟨b21, k21, rfl, Nh30, f31, z24, Or.inl ⟨hn28_0, hn28_1, hn28_2, Aq28⟩⟩
 ·skip
  have N32 := Fr.app N0 Nq28
  obtain ⟨Lh33, Xh33, Nh33⟩ := oHd 1 3 X28 N32 rfl rfl
  refine ownBy st28 ?_
  clear st28
  show ownG p.tables e below _ (T28.setTop (fr_cp3_3 m a2 12 (vR b21) .unset .unset [(.int r28)]))
  have hr : ¬ (r28 = (3 : Int32)) := by
   rcases hF with ⟨rfl, -⟩ | ⟨rfl, -⟩ | ⟨rfl, -⟩ <;> decide
  refine ownBy (A := T28.setTop (fr_cp3_3 m a2 23 (vR b21) (vI r28) .unset [(iV 3), (iV 0), (.ref a2)])) (fun t kt => ?_) ?_
  ·refine XS.istore Xh33.here hx rfl (D d15_12) rfl (l' := #[vR a2, vI 0, vI 3, vR b21, vI r28, .unset]) rfl ?_
   refine XS.iload Xh33.here hx rfl (D d15_14) rfl ?_
   refine XS.iloadN Xh33.here hx rfl (D d15_16) rfl ?_
   refine XS.icmpNo Xh33.here hx rfl (D d15_17) rfl (feq hr).1 ?_
   show Steps p.tables e below (T28.setTop (fr_cp3_3 m a2 20 (vR b21) (vI r28) .unset [])) t
   refine XS.aloadN Xh33.here hx rfl (D d15_20) rfl rfl ?_
   refine XS.iloadN Xh33.here hx rfl (D d15_21) rfl ?_
   refine XS.iloadN Xh33.here hx rfl (D d15_22) rfl ?_
   exact kt
  have f34 := (f26.keep Kq28 (ninS ne22 nin0))
  have f35 := ((X00.ext E21).keep Kq28 (allS g23 all0))
  have f36 := (Nat.le_trans f27 Kq28.1)
  obtain ⟨vv37, _, ⟨T37, L37, k37, n37⟩, -, X37, ⟨Lc37, hQ37, l37, y37, z37⟩, st37⟩ := Jvm.LawKit.callS Xh33 hx (y := yM7) hown (mvT hZ (Wd85 hw)) (mvT hZ (Wd86 hw)) (mvT hZ (Wd74 hw)) (mvT hZ (Wd87 hw)) (by decide) (backOf (W := 0) (c_tob3 l Z a0 hw [] a2 kC c0 c1 c2 T28.heap n0 f36 f34 SA SHI SLO f35) hZ (Wd87 hw) (Wd74 hw) (by decide) (by decide)) (g := (fr_cp3_3 m a2 23 (vR b21) (vI r28) .unset [(iV 3), (iV 0), (.ref a2)])) rfl (by rw [hml]; rfl) (argsL := [(.ref a2), (iV 0), (iV 3)]) (rest := []) (lenOf pd_8 rfl) rfl (by show 2 * 0 + _ ≤ _; exact Nat.le_of_eq rfl) (D d15_23) (fun _ _ => ⟨rfl, rfl, (by decide : 1 + 1 ≤ _), (by decide : 3 + 6 ≤ _)⟩)
  dsimp only [Pt.U, Pt.locs, Pt.cells, Pt.slots] at X37 l37 y37 z37 st37 hQ37
  subst l37 y37 z37
  obtain ⟨t37, kb37, rfl, Nq37, Kq37, zq37, Aq37⟩ := hQ37
  have ne38 : a2 ≠ t37 := Nat.ne_of_lt (Nat.lt_of_lt_of_le f34.lt zq37)
  have g39 : n0 ≤ t37 := Nat.le_trans f36 zq37
  have f41 := (Nat.le_trans (Nat.le_trans (Nat.le_refl h0.size) E21.1) Kq28.1)
  have z40 : h0.size ≤ t37 := Nat.le_trans f41 zq37
  have N42 := Fr.app Nh33 Nq37
  obtain ⟨Lh43, Xh43, Nh43⟩ := oHd 2 9 X37 N42 rfl rfl
  refine ownBy st37 ?_
  clear st37
  show ownG p.tables e below _ (T37.setTop (fr_cp3_3 m a2 26 (vR b21) (vI r28) .unset [(.ref t37)]))
  refine ownBy (A := T37.setTop (fr_cp3_3 m a2 32 (vR b21) (vI r28) (vR t37) [(.int r28), (.ref t37)])) (fun t kt => ?_) ?_
  ·refine XS.astore Xh43.here hx rfl (D d15_26) rfl rfl (l' := #[vR a2, vI 0, vI 3, vR b21, vI r28, vR t37]) rfl ?_
   refine XS.aload Xh43.here hx rfl (D d15_28) rfl rfl ?_
   refine XS.iload Xh43.here hx rfl (D d15_30) rfl ?_
   exact kt
  obtain ⟨cM, kM, q0, q1, k0, k1, u0, u1, hcM, hgM⟩ : ∃ (cM : Int32) (kM : Nat), (¬ (r28 <<< ((1 : Int32) &&& 31)) < 0 ∧ (r28 <<< ((1 : Int32) &&& 31)) < (6 : Int32)) ∧ (¬ ((r28 <<< ((1 : Int32) &&& 31)) + (1 : Int32)) < 0 ∧ ((r28 <<< ((1 : Int32) &&& 31)) + (1 : Int32)) < (6 : Int32)) ∧ (r28 <<< ((1 : Int32) &&& 31)).toNatClampNeg = kM ∧ ((r28 <<< ((1 : Int32) &&& 31)) + (1 : Int32)).toNatClampNeg = kM + 1 ∧ ([(.int (oW c0)), (.int (oH c0)), (.int (oW c1)), (.int (oH c1)), (.int (oW c2)), (.int (oH c2))] : List Value).getD kM (iV 0) = .int (oW cM) ∧ ([(.int (oW c0)), (.int (oH c0)), (.int (oW c1)), (.int (oH c1)), (.int (oW c2)), (.int (oH c2))] : List Value).getD (kM + 1) (iV 0) = .int (oH cM) ∧ (¬ cM < 0 ∧ ¬ (65535 : Int32) < cM) ∧ (255 : Int32) < cM := by
   rcases hF with ⟨rfl, h⟩ | ⟨rfl, h⟩ | ⟨rfl, h⟩
   ·exact ⟨c0, 0, by decide +kernel, by decide +kernel, by decide +kernel, by decide +kernel, rfl, rfl, hc0, h⟩
   ·exact ⟨c1, 2, by decide +kernel, by decide +kernel, by decide +kernel, by decide +kernel, rfl, rfl, hc1, h⟩
   ·exact ⟨c2, 4, by decide +kernel, by decide +kernel, by decide +kernel, by decide +kernel, rfl, rfl, hc2, h⟩
  have f44 := (f35.keep Kq37 all0)
  have f45 := (Nat.le_trans f36 Kq37.1)
  obtain ⟨vv46, _, ⟨T46, L46, k46, n46⟩, -, X46, ⟨Lc46, hQ46, l46, y46, z46⟩, st46⟩ := Jvm.LawKit.callS Xh43 hx (y := yM5) hown (mvT hZ (Wd101 hw)) (mvT hZ (Wd102 hw)) (mvT hZ (Wd74 hw)) (mvT hZ (Wd103 hw)) (by decide) (backOf (W := 0) (c_getc l Z a0 hw [] t37 kb37 (6 : Int32) [(.int (oW c0)), (.int (oH c0)), (.int (oW c1)), (.int (oH c1)), (.int (oW c2)), (.int (oH c2))] r28 cM kM T37.heap n0 f45 Aq37 q0 q1 k0 k1 u0 u1 hcM SA SHI SLO f44) hZ (Wd103 hw) (Wd74 hw) (by decide) (by decide)) (g := (fr_cp3_3 m a2 32 (vR b21) (vI r28) (vR t37) [(.int r28), (.ref t37)])) rfl (by rw [hml]; rfl) (argsL := [(.ref t37), (.int r28)]) (rest := []) (lenOf pd_9 rfl) rfl (by show 2 * 0 + _ ≤ _; exact Nat.le_of_eq rfl) (D d15_32) (fun _ _ => ⟨rfl, rfl, (by decide : 2 + 0 ≤ _), (by decide : 9 + 0 ≤ _)⟩)
  dsimp only [Pt.U, Pt.locs, Pt.cells, Pt.slots] at X46 l46 y46 z46 st46 hQ46
  subst l46 y46 z46
  obtain ⟨rfl, Nq46, Eq46⟩ := hQ46
  have N47 := Fr.app Nh43 Nq46
  obtain ⟨Lh48, Xh48, Nh48⟩ := oHd 2 9 X46 N47 rfl rfl
  refine ownBy st46 ?_
  clear st46
  show ownG p.tables e below _ (T46.setTop (fr_cp3_3 m a2 35 (vR b21) (vI r28) (vR t37) [(.int cM)]))
  refine ownBy (A := T46.setTop (fr_cp3_3 m a2 56 (vR b21) (vI r28) (vR t37) [(.ref t37)])) (fun t kt => ?_) ?_
  ·refine XS.sipush Xh48.here hx rfl (D d15_35) ?_
   refine XS.icmpYes Xh48.here hx rfl (pc0 := 38) (pc' := 54) rfl (D d15_38) rfl (tlt hgM).2.2.1 (by decide) (by decide) ?_
   refine XS.aload Xh48.here hx rfl (D d15_54) rfl rfl ?_
   exact kt
  have hg3 : (255 : Int32) < c0 ∨ (255 : Int32) < c1 ∨ (255 : Int32) < c2 := by
   rcases hF with ⟨-, h⟩ | ⟨-, h⟩ | ⟨-, h⟩
   ·exact Or.inl h
   ·exact Or.inr (Or.inl h)
   ·exact Or.inr (Or.inr (h))
  have f49 := ((((Keep.refl h0 []).ext E21).trans Kq28 (allS (Or.inr z24) all0)).trans Kq37 all0)
  refine ownRet Xh48 Bd.notSynchronized (v := some (.ref t37)) (fun h => by rw [Bd.returns] at h; cases h) ?_ (oLe rfl) (oLe rfl) (fun fs hr => retOut Xh48 hx Bd.returns rfl (Or.inr (Or.inr (Or.inr (Or.inr ⟨rfl, rfl, rfl⟩)))) (D d15_56) hr)
  show (Q_cp3_3 Z a2 kC c0 c1 c2 h0 n0) (some (.ref t37)) T46.heap _
  rw [Eq46]
  exact ⟨t37, kb37, rfl, Nh48, f49, z40, Or.inr ⟨hg3, Aq37⟩⟩
abbrev fr_ini4_3 (m : MethodId) (a1 : Addr) (a2 : Addr) (pc : Nat) (x5_ : Slot) (st : List Value) : JFrame := mkF m pc #[vR a1, vR a2, vI 0, vI 3, .val .null, x5_] st
def Q_ini4_3 (Z : State) (a1 : Addr) (a2 : Addr) (kC : ClassId) (c0 : Int32) (c1 : Int32) (c2 : Int32) (c9 : Value) (G1 : Int32) (h0 : Heap) (n0 : Nat) (v : Option Value) (h : Heap) (L : List Loc) : Prop := v = none ∧ Fr n0 L ∧ Keep h0 h [a1] ∧ Exa Z h a1 "java/lang/String" ∧ ∃ (ta : Addr) (kb : ClassId) (cd z : Int32) (vs : List Value), h0.size ≤ ta ∧ Fld Z h a1 "java/lang/String" "value" "[B" (.ref ta) ∧ Fld Z h a1 "java/lang/String" "coder" "B" (.int cd) ∧ Arv Z h ta kb .byte z vs (iV 0) ∧ ((cd = (0 : Int32) ∧ z = (3 : Int32) ∧ vs = [(.int (oL c0)), (.int (oL c1)), (.int (oL c2))] ∧ ¬ ((255 : Int32) < c0) ∧ ¬ ((255 : Int32) < c1) ∧ ¬ ((255 : Int32) < c2)) ∨ (cd = (1 : Int32) ∧ z = (6 : Int32) ∧ vs = [(.int (oW c0)), (.int (oH c0)), (.int (oW c1)), (.int (oH c1)), (.int (oW c2)), (.int (oH c2))] ∧ ((255 : Int32) < c0 ∨ (255 : Int32) < c1 ∨ (255 : Int32) < c2)))
theorem ef_ini4_3 (m : MethodId) (x0 : Addr) (x1 : Addr) (x2 : Int32) (x3 : Int32)  : entryFrame m #[(.ref x0), (.ref x1), (.int x2), (.int x3), .null] 6 = mkF m 0 #[vR x0, vR x1, vI x2, vI x3, .val .null, .unset] [] := by first | (simp [entryFrame, mkF, argsToLocals, Value.category]; done) | rfl
set_option maxRecDepth 65536 in
set_option maxHeartbeats 40000000 in
theorem c_ini4_3 (l : Launch) (Z : State) (a0 : Array Value) (hw : ∀ d ∈ tables_1, d.before a0 Z = true) (ws : List Jvm.Cond) (a1 : Addr) (a2 : Addr) (kC : ClassId) (c0 : Int32) (c1 : Int32) (c2 : Int32) (c9 : Value) (G1 : Int32) (h0 : Heap) (n0 : Nat) (Z0 : n0 ≤ h0.size) (E1 : Exa Z h0 a1 "java/lang/String") (F1 : Fld Z h0 a1 "java/lang/String" "value" "[B" .null) (F2 : Fld Z h0 a1 "java/lang/String" "coder" "B" c9) (g1 : n0 ≤ a1) (ne1 : a1 ≠ a2) (A2 : Arv Z h0 a2 kC .char (3 : Int32) [(.int c0), (.int c1), (.int c2)] (iV 0)) (hc0 : ¬ c0 < 0 ∧ ¬ (65535 : Int32) < c0) (hc1 : ¬ c1 < 0 ∧ ¬ (65535 : Int32) < c1) (hc2 : ¬ c2 < 0 ∧ ¬ (65535 : Int32) < c2) (O2 : Sta Z Z.heap "java/lang/String" "COMPACT_STRINGS" "Z" (.int G1)) (P5 : ¬ (G1 = (0 : Int32))) (SA : Sta Z Z.heap "java/lang/StringUTF16" "$assertionsDisabled" "Z" (iV 1)) (SHI : Sta Z Z.heap "java/lang/StringUTF16" "HI_BYTE_SHIFT" "I" (iV 0)) (SLO : Sta Z Z.heap "java/lang/StringUTF16" "LO_BYTE_SHIFT" "I" (iV 8)) (X00 : Old Z n0 h0) :
  MetFree l yM0 (head1 (Jvm.Cond.code yM0 jdk_42_method_149_code 6 none :: ws) ({ frames := 4, cells := 2, slots := 9, locals := 58 } : Room)) (fun a U => a = #[(.ref a1), (.ref a2), (iV 0), (iV 3), .null] ∧ Z.Warmed39 U.vm ∧ U.heap = h0) (fun _ _ _ _ _ => True) (fun _ U o U' => ∃ v L, o = .returned v ∧ (Q_ini4_3 Z a1 a2 kC c0 c1 c2 c9 G1 h0 n0) v U'.heap L ∧ FrameEnd U o U' L ({ frames := 4, cells := 2, slots := 9, locals := 58 } : Room).cells ({ frames := 4, cells := 2, slots := 9, locals := 58 } : Room).slots) := by
 refine MetFree.of_bodySF (plainFor_of_name pn_1) hisR ?_
 intro p e s m args below meth c s₁ Bd hml0 hP hK
 obtain ⟨rfl, hZ, hHp⟩ := hP
 have hx := Bd.exec
 have D := fun {pc : Nat} {r} (h : decode _ pc = r) => hb Bd.bytes h
 have hml : c.maxLocals = 6 := hml0
 have hown : s.vm.findClass "java/lang/String" = some m.cls := findClass_of_methodNamed Bd.named
 have hnm := (name_of_methodNamed Bd.named Bd.method).1
 have X0 : Stand p l e ({ frames := 4, cells := 2, slots := 9, locals := 58 } : Room) s m #[(.ref a1), (.ref a2), (iV 0), (iV 3), .null] below meth c s₁ [] 0 0 := Stand.of_body Bd
 have e0 : s₁.heap = h0 := by rw [← hHp, Bd.state]; rfl
 have N0 := Fr.nil n0
 refine ownOut (P := (Q_ini4_3 Z a1 a2 kC c0 c1 c2 c9 G1 h0 n0)) ?_
 refine ownBy (A := s₁.setTop (mkF m 0 #[vR a1, vR a2, vI 0, vI 3, .val .null, .unset] [])) (fun t k => castTop (ef_ini4_3 m a1 a2 (0 : Int32) (3 : Int32)) k) ?_
 refine ownBy (A := s₁.setTop (fr_ini4_3 m a1 a2 1 .unset [(.ref a1)])) (fun t kt => ?_) ?_
 ·refine XS.aloadN X0.here hx rfl (D d3_0) rfl rfl ?_
  exact kt
 obtain ⟨T21, X21, e21, st21⟩ := initO X0 hx hZ hown (Wd17 hw) (Wd18 hw) (Wd19 hw) e0 (g := (fr_ini4_3 m a1 a2 1 .unset [(.ref a1)])) rfl (by rw [hml]; rfl) rfl (D d3_1) (by decide) (W := 0) (by show 2 * 0 + _ ≤ _; exact Nat.le_of_eq rfl) (by decide)
 refine ownBy st21 ?_
 clear st21
 show ownG p.tables e below _ (T21.setTop (fr_ini4_3 m a1 a2 4 .unset []))
 refine ownBy (A := T21.setTop (fr_ini4_3 m a1 a2 27 .unset [])) (fun t kt => ?_) ?_
 ·refine XS.iloadN X21.here hx rfl (D d3_4) rfl ?_
  refine XS.ifYes X21.here hx rfl (pc0 := 5) (pc' := 27) rfl (D d3_5) rfl ((if0 _ _).trans (feq ((by decide) : ¬ ((3 : Int32) = (0 : Int32)))).2) (by decide) (by decide) ?_
  exact kt
 obtain ⟨T22, X22, e22, st22⟩ := getS2 X21 hx hZ hown (host := "") (Or.inl (Wd47 hw)) Via.refl e21 (O2.ext X00.2) (g := (fr_ini4_3 m a1 a2 27 .unset [])) rfl (D d3_27)
 refine ownBy st22 ?_
 clear st22
 show ownG p.tables e below _ (T22.setTop (fr_ini4_3 m a1 a2 30 .unset [(.int G1)]))
 refine ownBy (A := T22.setTop (fr_ini4_3 m a1 a2 36 .unset [(iV 3), (iV 0), (.ref a2)])) (fun t kt => ?_) ?_
 ·refine XS.ifNo X22.here hx rfl (D d3_30) rfl ((if0 _ _).trans (feq P5).1) ?_
  refine XS.aloadN X22.here hx rfl (D d3_33) rfl rfl ?_
  refine XS.iloadN X22.here hx rfl (D d3_34) rfl ?_
  refine XS.iloadN X22.here hx rfl (D d3_35) rfl ?_
  exact kt
 obtain ⟨vv23, _, ⟨T23, L23, k23, n23⟩, -, X23, ⟨Lc23, hQ23, l23, y23, z23⟩, st23⟩ := Jvm.LawKit.callS X22 hx (y := yM9) hown (mvT hZ (Wd72 hw)) (mvT hZ (Wd73 hw)) (mvT hZ (Wd74 hw)) (mvT hZ (Wd75 hw)) (by decide) (backOf (W := 0) (c_cp3_3 l Z a0 hw [] a2 kC c0 c1 c2 h0 n0 Z0 A2 hc0 hc1 hc2 SA SHI SLO X00) hZ (Wd75 hw) (Wd74 hw) (by decide) (by decide)) (g := (fr_ini4_3 m a1 a2 36 .unset [(iV 3), (iV 0), (.ref a2)])) rfl (by rw [hml]; rfl) (argsL := [(.ref a2), (iV 0), (iV 3)]) (rest := []) (lenOf pd_8 rfl) rfl (by show 2 * 0 + _ ≤ _; exact Nat.le_of_eq rfl) (D d3_36) (fun _ _ => ⟨rfl, e22, (by decide : 0 + 2 ≤ _), (by decide : 0 + 9 ≤ _)⟩)
 dsimp only [Pt.U, Pt.locs, Pt.cells, Pt.slots] at X23 l23 y23 z23 st23 hQ23
 subst l23 y23 z23
 obtain ⟨t23, kb23, rfl, Nq23, Kq23, zq23, hB23⟩ := hQ23
 have ne24 : a1 ≠ t23 := Nat.ne_of_lt (Nat.lt_of_lt_of_le E1.lt zq23)
 have ne25 : a2 ≠ t23 := Nat.ne_of_lt (Nat.lt_of_lt_of_le A2.lt zq23)
 have g26 : n0 ≤ t23 := Nat.le_trans Z0 zq23
 have z27 : h0.size ≤ t23 := Nat.le_trans (Nat.le_refl h0.size) zq23
 rcases hB23 with ⟨hn23_0, hn23_1, hn23_2, Aq23⟩ | ⟨hg23, Aq23⟩
 ·skip
  have N28 := Fr.app N0 Nq23
  obtain ⟨Lh29, Xh29, Nh29⟩ := oHd 2 9 X23 N28 rfl rfl
  refine ownBy st23 ?_
  clear st23
  show ownG p.tables e below _ (T23.setTop (fr_ini4_3 m a1 a2 39 .unset [(.ref t23)]))
  refine ownBy (A := T23.setTop (fr_ini4_3 m a1 a2 45 (vR t23) [(iV 3), (.ref t23), (.ref a1)])) (fun t kt => ?_) ?_
  ·refine XS.astore Xh29.here hx rfl (D d3_39) rfl rfl (l' := #[vR a1, vR a2, vI 0, vI 3, .val .null, vR t23]) rfl ?_
   refine XS.aloadN Xh29.here hx rfl (D d3_41) rfl rfl ?_
   refine XS.aload Xh29.here hx rfl (D d3_42) rfl rfl ?_
   refine XS.iloadN Xh29.here hx rfl (D d3_44) rfl ?_
   exact kt
  have f30 := (Nat.le_trans Z0 Kq23.1)
  obtain ⟨vv31, _, ⟨T31, L31, k31, n31⟩, -, X31, ⟨Lc31, hQ31, l31, y31, z31⟩, st31⟩ := Jvm.LawKit.callS Xh29 hx (y := yM4) hown (mvT hZ (Wd79 hw)) (mvT hZ (Wd80 hw)) (mvT hZ (Wd74 hw)) (mvT hZ (Wd81 hw)) (by decide) (backOf (W := 1) (c_cfa l Z a0 hw [] t23 kb23 (3 : Int32) _ (3 : Int32) (0 : Int32) T23.heap n0 f30 Aq23 (by decide +kernel)) hZ (Wd81 hw) (Wd74 hw) (by decide) (by decide)) (g := (fr_ini4_3 m a1 a2 45 (vR t23) [(iV 3), (.ref t23), (.ref a1)])) rfl (by rw [hml]; rfl) (argsL := [(.ref t23), (iV 3)]) (rest := [(.ref a1)]) (lenOf pd_10 rfl) rfl (by show 2 * 0 + _ ≤ _; exact Nat.le_of_eq rfl) (D d3_45) (fun _ _ => ⟨rfl, rfl, (by decide : 2 + 0 ≤ _), (by decide : 9 + 0 ≤ _)⟩)
  dsimp only [Pt.U, Pt.locs, Pt.cells, Pt.slots] at X31 l31 y31 z31 st31 hQ31
  subst l31 y31 z31
  obtain ⟨rfl, Nq31, Eq31⟩ := hQ31
  have N32 := Fr.app Nh29 Nq31
  obtain ⟨Lh33, Xh33, Nh33⟩ := oHd 2 9 X31 N32 rfl rfl
  refine ownBy st31 ?_
  clear st31
  show ownG p.tables e below _ (T31.setTop (fr_ini4_3 m a1 a2 48 (vR t23) [(iV 0), (.ref a1)]))
  have f35 := (F2.keep Kq23 nin0)
  have f36 := (E1.keep Kq23)
  obtain ⟨T34, h34, X34, e34, W34, st34⟩ := putFN Xh33 hx hZ hown (Wd27 hw) Via.refl Eq31 f35 f36 (Or.inr ⟨(Wd23 hw), rfl, hnm⟩) (Wd8 hw) (ty := .byte) (v' := (iV 0)) (by decide) rfl (fits_nar_byte (0 : Int32)) (g := (fr_ini4_3 m a1 a2 48 (vR t23) [(iV 0), (.ref a1)])) rfl rfl (D d3_48)
  have F37 := f35.same W34
  have N38 := Fr.snoc X34 Nh33 g1
  obtain ⟨Lh39, Xh39, Nh39⟩ := oHd 2 9 X34 N38 rfl rfl
  refine ownBy st34 ?_
  clear st34
  show ownG p.tables e below _ (T34.setTop (fr_ini4_3 m a1 a2 51 (vR t23) []))
  refine ownBy (A := T34.setTop (fr_ini4_3 m a1 a2 54 (vR t23) [(.ref t23), (.ref a1)])) (fun t kt => ?_) ?_
  ·refine XS.aloadN Xh39.here hx rfl (D d3_51) rfl rfl ?_
   refine XS.aload Xh39.here hx rfl (D d3_52) rfl rfl ?_
   exact kt
  have f41 := ((F1.keep Kq23 nin0).other W34 (Or.inr (slot_ne (Or.inr (Wd22 hw)) (Or.inr (Wd23 hw)) (by decide) (t := (.array .byte)) (t' := .byte) (by decide) (by decide))))
  have f42 := (f36.wr W34)
  obtain ⟨T40, h40, X40, e40, W40, st40⟩ := putF Xh39 hx hZ hown (host := "") (Or.inl (Wd26 hw)) Via.refl e34 f41 f42 (Or.inr ⟨(Wd22 hw), rfl, hnm⟩) (Wd8 hw) (ty := (.array .byte)) (by decide) rfl rfl (g := (fr_ini4_3 m a1 a2 54 (vR t23) [(.ref t23), (.ref a1)])) rfl rfl (D d3_54)
  have F43 := f41.same W40
  have N44 := Fr.snoc X40 Nh39 g1
  obtain ⟨Lh45, Xh45, Nh45⟩ := oHd 2 9 X40 N44 rfl rfl
  refine ownBy st40 ?_
  clear st40
  show ownG p.tables e below _ (T40.setTop (fr_ini4_3 m a1 a2 57 (vR t23) []))
  have f46 := ((((Keep.refl h0 [a1]).trans Kq23 all0).wr W34 (Or.inl (List.mem_of_getElem? (i := 0) rfl))).wr W40 (Or.inl (List.mem_of_getElem? (i := 0) rfl)))
  have f47 := (f42.wr W40)
  have f48 := (F37.other W40 (Or.inr (slot_ne (Or.inr (Wd23 hw)) (Or.inr (Wd22 hw)) (by decide) (t := .byte) (t' := (.array .byte)) (by decide) (by decide))))
  have f49 := ((Aq23.other W34 (Ne.symm ne24)).other W40 (Ne.symm ne24))
  refine ownRet Xh45 Bd.notSynchronized (v := none) (fun _ => rfl) ?_ (oLe rfl) (oLe rfl) (fun fs hr => Xh45.returnOut hx Bd.returns (D d3_57) hr)
  show (Q_ini4_3 Z a1 a2 kC c0 c1 c2 c9 G1 h0 n0) (none) T40.heap _
  rw [e40]
  exact ⟨rfl, Nh45, f46, f47, t23, kb23, _, _, _, z27, F43, f48, f49, Or.inl ⟨rfl, rfl, rfl, hn23_0, hn23_1, hn23_2⟩⟩
 ·skip
  have N50 := Fr.app N0 Nq23
  obtain ⟨Lh51, Xh51, Nh51⟩ := oHd 2 9 X23 N50 rfl rfl
  refine ownBy st23 ?_
  clear st23
  show ownG p.tables e below _ (T23.setTop (fr_ini4_3 m a1 a2 39 .unset [(.ref t23)]))
  refine ownBy (A := T23.setTop (fr_ini4_3 m a1 a2 45 (vR t23) [(iV 3), (.ref t23), (.ref a1)])) (fun t kt => ?_) ?_
  ·refine XS.astore Xh51.here hx rfl (D d3_39) rfl rfl (l' := #[vR a1, vR a2, vI 0, vI 3, .val .null, vR t23]) rfl ?_
   refine XS.aloadN Xh51.here hx rfl (D d3_41) rfl rfl ?_
   refine XS.aload Xh51.here hx rfl (D d3_42) rfl rfl ?_
   refine XS.iloadN Xh51.here hx rfl (D d3_44) rfl ?_
   exact kt
  have f52 := (Nat.le_trans Z0 Kq23.1)
  obtain ⟨vv53, _, ⟨T53, L53, k53, n53⟩, -, X53, ⟨Lc53, hQ53, l53, y53, z53⟩, st53⟩ := Jvm.LawKit.callS Xh51 hx (y := yM4) hown (mvT hZ (Wd79 hw)) (mvT hZ (Wd80 hw)) (mvT hZ (Wd74 hw)) (mvT hZ (Wd81 hw)) (by decide) (backOf (W := 1) (c_cfa l Z a0 hw [] t23 kb23 (6 : Int32) _ (3 : Int32) (1 : Int32) T23.heap n0 f52 Aq23 (by decide +kernel)) hZ (Wd81 hw) (Wd74 hw) (by decide) (by decide)) (g := (fr_ini4_3 m a1 a2 45 (vR t23) [(iV 3), (.ref t23), (.ref a1)])) rfl (by rw [hml]; rfl) (argsL := [(.ref t23), (iV 3)]) (rest := [(.ref a1)]) (lenOf pd_10 rfl) rfl (by show 2 * 0 + _ ≤ _; exact Nat.le_of_eq rfl) (D d3_45) (fun _ _ => ⟨rfl, rfl, (by decide : 2 + 0 ≤ _), (by decide : 9 + 0 ≤ _)⟩)
  dsimp only [Pt.U, Pt.locs, Pt.cells, Pt.slots] at X53 l53 y53 z53 st53 hQ53
  subst l53 y53 z53
  obtain ⟨rfl, Nq53, Eq53⟩ := hQ53
  have N54 := Fr.app Nh51 Nq53
  obtain ⟨Lh55, Xh55, Nh55⟩ := oHd 2 9 X53 N54 rfl rfl
  refine ownBy st53 ?_
  clear st53
  show ownG p.tables e below _ (T53.setTop (fr_ini4_3 m a1 a2 48 (vR t23) [(iV 1), (.ref a1)]))
  have f57 := (F2.keep Kq23 nin0)
  have f58 := (E1.keep Kq23)
  obtain ⟨T56, h56, X56, e56, W56, st56⟩ := putFN Xh55 hx hZ hown (Wd27 hw) Via.refl Eq53 f57 f58 (Or.inr ⟨(Wd23 hw), rfl, hnm⟩) (Wd8 hw) (ty := .byte) (v' := (iV 1)) (by decide) rfl (fits_nar_byte (1 : Int32)) (g := (fr_ini4_3 m a1 a2 48 (vR t23) [(iV 1), (.ref a1)])) rfl rfl (D d3_48)
  have F59 := f57.same W56
  have N60 := Fr.snoc X56 Nh55 g1
  obtain ⟨Lh61, Xh61, Nh61⟩ := oHd 2 9 X56 N60 rfl rfl
  refine ownBy st56 ?_
  clear st56
  show ownG p.tables e below _ (T56.setTop (fr_ini4_3 m a1 a2 51 (vR t23) []))
  refine ownBy (A := T56.setTop (fr_ini4_3 m a1 a2 54 (vR t23) [(.ref t23), (.ref a1)])) (fun t kt => ?_) ?_
  ·refine XS.aloadN Xh61.here hx rfl (D d3_51) rfl rfl ?_
   refine XS.aload Xh61.here hx rfl (D d3_52) rfl rfl ?_
   exact kt
  have f63 := ((F1.keep Kq23 nin0).other W56 (Or.inr (slot_ne (Or.inr (Wd22 hw)) (Or.inr (Wd23 hw)) (by decide) (t := (.array .byte)) (t' := .byte) (by decide) (by decide))))
  have f64 := (f58.wr W56)
  obtain ⟨T62, h62, X62, e62, W62, st62⟩ := putF Xh61 hx hZ hown (host := "") (Or.inl (Wd26 hw)) Via.refl e56 f63 f64 (Or.inr ⟨(Wd22 hw), rfl, hnm⟩) (Wd8 hw) (ty := (.array .byte)) (by decide) rfl rfl (g := (fr_ini4_3 m a1 a2 54 (vR t23) [(.ref t23), (.ref a1)])) rfl rfl (D d3_54)
  have F65 := f63.same W62
  have N66 := Fr.snoc X62 Nh61 g1
  obtain ⟨Lh67, Xh67, Nh67⟩ := oHd 2 9 X62 N66 rfl rfl
  refine ownBy st62 ?_
  clear st62
  show ownG p.tables e below _ (T62.setTop (fr_ini4_3 m a1 a2 57 (vR t23) []))
  have f68 := ((((Keep.refl h0 [a1]).trans Kq23 all0).wr W56 (Or.inl (List.mem_of_getElem? (i := 0) rfl))).wr W62 (Or.inl (List.mem_of_getElem? (i := 0) rfl)))
  have f69 := (f64.wr W62)
  have f70 := (F59.other W62 (Or.inr (slot_ne (Or.inr (Wd23 hw)) (Or.inr (Wd22 hw)) (by decide) (t := .byte) (t' := (.array .byte)) (by decide) (by decide))))
  have f71 := ((Aq23.other W56 (Ne.symm ne24)).other W62 (Ne.symm ne24))
  refine ownRet Xh67 Bd.notSynchronized (v := none) (fun _ => rfl) ?_ (oLe rfl) (oLe rfl) (fun fs hr => Xh67.returnOut hx Bd.returns (D d3_57) hr)
  show (Q_ini4_3 Z a1 a2 kC c0 c1 c2 c9 G1 h0 n0) (none) T62.heap _
  rw [e62]
  exact ⟨rfl, Nh67, f68, f69, t23, kb23, _, _, _, z27, F65, f70, f71, Or.inr ⟨rfl, rfl, rfl, hg23⟩⟩
abbrev fr_inC_3 (m : MethodId) (a1 : Addr) (a2 : Addr) (pc : Nat)  (st : List Value) : JFrame := mkF m pc #[vR a1, vR a2] st
def Q_inC_3 (Z : State) (a1 : Addr) (a2 : Addr) (kC : ClassId) (c0 : Int32) (c1 : Int32) (c2 : Int32) (c9 : Value) (G1 : Int32) (h0 : Heap) (n0 : Nat) (v : Option Value) (h : Heap) (L : List Loc) : Prop := v = none ∧ Fr n0 L ∧ Keep h0 h [a1] ∧ Exa Z h a1 "java/lang/String" ∧ ∃ (ta : Addr) (kb : ClassId) (cd z : Int32) (vs : List Value), h0.size ≤ ta ∧ Fld Z h a1 "java/lang/String" "value" "[B" (.ref ta) ∧ Fld Z h a1 "java/lang/String" "coder" "B" (.int cd) ∧ Arv Z h ta kb .byte z vs (iV 0) ∧ ((cd = (0 : Int32) ∧ z = (3 : Int32) ∧ vs = [(.int (oL c0)), (.int (oL c1)), (.int (oL c2))] ∧ ¬ ((255 : Int32) < c0) ∧ ¬ ((255 : Int32) < c1) ∧ ¬ ((255 : Int32) < c2)) ∨ (cd = (1 : Int32) ∧ z = (6 : Int32) ∧ vs = [(.int (oW c0)), (.int (oH c0)), (.int (oW c1)), (.int (oH c1)), (.int (oW c2)), (.int (oH c2))] ∧ ((255 : Int32) < c0 ∨ (255 : Int32) < c1 ∨ (255 : Int32) < c2)))
theorem ef_inC_3 (m : MethodId) (x0 : Addr) (x1 : Addr)  : entryFrame m #[(.ref x0), (.ref x1)] 2 = mkF m 0 #[vR x0, vR x1] [] := by first | (simp [entryFrame, mkF, argsToLocals, Value.category]; done) | rfl
set_option maxRecDepth 65536 in
set_option maxHeartbeats 40000000 in
theorem c_inC_3 (l : Launch) (Z : State) (a0 : Array Value) (hw : ∀ d ∈ tables_1, d.before a0 Z = true) (ws : List Jvm.Cond) (a1 : Addr) (a2 : Addr) (kC : ClassId) (c0 : Int32) (c1 : Int32) (c2 : Int32) (c9 : Value) (G1 : Int32) (h0 : Heap) (n0 : Nat) (Z0 : n0 ≤ h0.size) (E1 : Exa Z h0 a1 "java/lang/String") (F1 : Fld Z h0 a1 "java/lang/String" "value" "[B" .null) (F2 : Fld Z h0 a1 "java/lang/String" "coder" "B" c9) (g1 : n0 ≤ a1) (ne1 : a1 ≠ a2) (A2 : Arv Z h0 a2 kC .char (3 : Int32) [(.int c0), (.int c1), (.int c2)] (iV 0)) (hc0 : ¬ c0 < 0 ∧ ¬ (65535 : Int32) < c0) (hc1 : ¬ c1 < 0 ∧ ¬ (65535 : Int32) < c1) (hc2 : ¬ c2 < 0 ∧ ¬ (65535 : Int32) < c2) (O2 : Sta Z Z.heap "java/lang/String" "COMPACT_STRINGS" "Z" (.int G1)) (P5 : ¬ (G1 = (0 : Int32))) (SA : Sta Z Z.heap "java/lang/StringUTF16" "$assertionsDisabled" "Z" (iV 1)) (SHI : Sta Z Z.heap "java/lang/StringUTF16" "HI_BYTE_SHIFT" "I" (iV 0)) (SLO : Sta Z Z.heap "java/lang/StringUTF16" "LO_BYTE_SHIFT" "I" (iV 8)) (X00 : Old Z n0 h0) :
  MetFree l yM1 (head1 (Jvm.Cond.code yM1 jdk_42_method_3_code 2 none :: ws) ({ frames := 5, cells := 2, slots := 9, locals := 75 } : Room)) (fun a U => a = #[(.ref a1), (.ref a2)] ∧ Z.Warmed39 U.vm ∧ U.heap = h0) (fun _ _ _ _ _ => True) (fun _ U o U' => ∃ v L, o = .returned v ∧ (Q_inC_3 Z a1 a2 kC c0 c1 c2 c9 G1 h0 n0) v U'.heap L ∧ FrameEnd U o U' L ({ frames := 5, cells := 2, slots := 9, locals := 75 } : Room).cells ({ frames := 5, cells := 2, slots := 9, locals := 75 } : Room).slots) := by
 refine MetFree.of_bodySF (plainFor_of_name pn_1) hisR ?_
 intro p e s m args below meth c s₁ Bd hml0 hP hK
 obtain ⟨rfl, hZ, hHp⟩ := hP
 have hx := Bd.exec
 have D := fun {pc : Nat} {r} (h : decode _ pc = r) => hb Bd.bytes h
 have hml : c.maxLocals = 2 := hml0
 have hown : s.vm.findClass "java/lang/String" = some m.cls := findClass_of_methodNamed Bd.named
 have hnm := (name_of_methodNamed Bd.named Bd.method).1
 have X0 : Stand p l e ({ frames := 5, cells := 2, slots := 9, locals := 75 } : Room) s m #[(.ref a1), (.ref a2)] below meth c s₁ [] 0 0 := Stand.of_body Bd
 have e0 : s₁.heap = h0 := by rw [← hHp, Bd.state]; rfl
 have N0 := Fr.nil n0
 refine ownOut (P := (Q_inC_3 Z a1 a2 kC c0 c1 c2 c9 G1 h0 n0)) ?_
 refine ownBy (A := s₁.setTop (mkF m 0 #[vR a1, vR a2] [])) (fun t k => castTop (ef_inC_3 m a1 a2) k) ?_
 refine ownBy (A := s₁.setTop (fr_inC_3 m a1 a2 4  [(.ref a2), (iV 0), (.ref a2), (.ref a1)])) (fun t kt => ?_) ?_
 ·refine XS.aloadN X0.here hx rfl (D d2_0) rfl rfl ?_
  refine XS.aloadN X0.here hx rfl (D d2_1) rfl rfl ?_
  refine XS.iconst X0.here hx rfl (D d2_2) ?_
  refine XS.aloadN X0.here hx rfl (D d2_3) rfl rfl ?_
  exact kt
 obtain ⟨cl21, Ar21, -, S21, N21, -, -⟩ := id A2
 have st21 := X0.arraylength hx (by rw [e0]; exact Ar21.1) (State.isArrayOf_alike hZ.alike Ar21.2.1) (g := (fr_inC_3 m a1 a2 4  [(.ref a2), (iV 0), (.ref a2), (.ref a1)])) rfl rfl (D d2_4)
 rw [len_of S21 N21] at st21
 refine ownBy st21 ?_
 show ownG p.tables e below _ (s₁.setTop (fr_inC_3 m a1 a2 5  [(iV 3), (iV 0), (.ref a2), (.ref a1)]))
 refine ownBy (A := s₁.setTop (fr_inC_3 m a1 a2 6  [.null, (iV 3), (iV 0), (.ref a2), (.ref a1)])) (fun t kt => ?_) ?_
 ·refine XS.aconstNull X0.here hx rfl (D d2_5) ?_
  exact kt
 obtain ⟨vv22, _, ⟨T22, L22, k22, n22⟩, -, X22, ⟨Lc22, hQ22, l22, y22, z22⟩, st22⟩ := X0.specialBack hx (y := yM0) rfl hown (mvT hZ (Wd13 hw)) (mvT hZ (Wd14 hw)) (mvT hZ (Wd16 hw)) (by decide) (backOf (W := 0) (c_ini4_3 l Z a0 hw [] a1 a2 kC c0 c1 c2 _ G1 h0 n0 Z0 E1 F1 F2 g1 ne1 A2 hc0 hc1 hc2 O2 P5 SA SHI SLO X00) hZ (Wd16 hw) (Wd9 hw) (by decide) (by decide)) (g := (fr_inC_3 m a1 a2 6  [.null, (iV 3), (iV 0), (.ref a2), (.ref a1)])) rfl (by rw [hml]; rfl) (Steps.refl _) (a := a1) (argsL := [(.ref a2), (iV 0), (iV 3), .null]) (rest := []) (lenOf pd_2 rfl) rfl (by show 2 * 0 + _ ≤ _; exact Nat.le_of_eq rfl) (D d2_6) (fun _ _ => ⟨rfl, e0, (by decide : 0 + 2 ≤ _), (by decide : 0 + 9 ≤ _)⟩)
 dsimp only [Pt.U, Pt.locs, Pt.cells, Pt.slots] at X22 l22 y22 z22 st22 hQ22
 subst l22 y22 z22
 obtain ⟨rfl, Nq22, Kq22, Eq22, t22, kb22, cd22, z22, vs22, zq22, Vq22, Cq22, Aq22, hrel22⟩ := hQ22
 have ne23 : a1 ≠ t22 := Nat.ne_of_lt (Nat.lt_of_lt_of_le E1.lt zq22)
 have ne24 : a2 ≠ t22 := Nat.ne_of_lt (Nat.lt_of_lt_of_le A2.lt zq22)
 have g25 : n0 ≤ t22 := Nat.le_trans Z0 zq22
 have z26 : h0.size ≤ t22 := Nat.le_trans (Nat.le_refl h0.size) zq22
 have N27 := Fr.app N0 Nq22
 obtain ⟨Lh28, Xh28, Nh28⟩ := oHd 2 9 X22 N27 rfl rfl
 refine ownSt st22 ?_
 clear st22
 show ownG p.tables e below _ (T22.setTop (fr_inC_3 m a1 a2 9  []))
 have f29 := ((Keep.refl h0 [a1]).trans Kq22 (allS (Or.inl (List.mem_of_getElem? (i := 0) rfl)) all0))
 have f30 := (E1.keep Kq22)
 refine ownRet Xh28 Bd.notSynchronized (v := none) (fun _ => rfl) ?_ (oLe rfl) (oLe rfl) (fun fs hr => Xh28.returnOut hx Bd.returns (D d2_9) hr)
 show (Q_inC_3 Z a1 a2 kC c0 c1 c2 c9 G1 h0 n0) (none) T22.heap _
 exact ⟨rfl, Nh28, f29, f30, t22, kb22, _, _, _, z26, Vq22, Cq22, Aq22, hrel22⟩
abbrev fr_nbf4 (m : MethodId)  (pc : Nat)  (st : List Value) : JFrame := mkF m pc #[vI 4] st
def Q_nbf4 (Z : State)  (h0 : Heap) (n0 : Nat) (v : Option Value) (h : Heap) (L : List Loc) : Prop := ∃ (ta : Addr) (kb : ClassId), v = some (.ref ta) ∧ Fr n0 L ∧ Keep h0 h [] ∧ h0.size ≤ ta ∧ Arv Z h ta kb .byte (8 : Int32) [(iV 0), (iV 0), (iV 0), (iV 0), (iV 0), (iV 0), (iV 0), (iV 0)] (iV 0)
theorem ef_nbf4 (m : MethodId) (x0 : Int32)  : entryFrame m #[(.int x0)] 1 = mkF m 0 #[vI x0] [] := by first | (simp [entryFrame, mkF, argsToLocals, Value.category]; done) | rfl
set_option maxRecDepth 65536 in
set_option maxHeartbeats 40000000 in
theorem c_nbf4 (l : Launch) (Z : State) (a0 : Array Value) (hw : ∀ d ∈ tables_1, d.before a0 Z = true) (ws : List Jvm.Cond)  (h0 : Heap) (n0 : Nat) (Z0 : n0 ≤ h0.size) :
  MetFree l yM6 (head1 (Jvm.Cond.code yM6 jdk_52_method_2_code 1 (some (.array .byte)) :: ws) ({ frames := 1, cells := 1, slots := 8, locals := 12 } : Room)) (fun a U => a = #[(iV 4)] ∧ Z.Warmed39 U.vm ∧ U.heap = h0) (fun _ _ _ _ _ => True) (fun _ U o U' => ∃ v L, o = .returned v ∧ (Q_nbf4 Z  h0 n0) v U'.heap L ∧ FrameEnd U o U' L ({ frames := 1, cells := 1, slots := 8, locals := 12 } : Room).cells ({ frames := 1, cells := 1, slots := 8, locals := 12 } : Room).slots) := by
 refine MetFree.of_bodySF (plainFor_of_name pn_3) hisR ?_
 intro p e s m args below meth c s₁ Bd hml0 hP hK
 obtain ⟨rfl, hZ, hHp⟩ := hP
 have hx := Bd.exec
 have D := fun {pc : Nat} {r} (h : decode _ pc = r) => hb Bd.bytes h
 have hml : c.maxLocals = 1 := hml0
 have hown : s.vm.findClass "java/lang/StringUTF16" = some m.cls := findClass_of_methodNamed Bd.named
 have hnm := (name_of_methodNamed Bd.named Bd.method).1
 have X0 : Stand p l e ({ frames := 1, cells := 1, slots := 8, locals := 12 } : Room) s m #[(iV 4)] below meth c s₁ [] 0 0 := Stand.of_body Bd
 have e0 : s₁.heap = h0 := by rw [← hHp, Bd.state]; rfl
 have N0 := Fr.nil n0
 refine ownOut (P := (Q_nbf4 Z  h0 n0)) ?_
 refine ownBy (A := s₁.setTop (mkF m 0 #[vI 4] [])) (fun t k => castTop (ef_nbf4 m (4 : Int32)) k) ?_
 refine ownBy (A := s₁.setTop (fr_nbf4 m  1  [(iV 4)])) (fun t kt => ?_) ?_
 ·refine XS.iloadN X0.here hx rfl (D d20_0) rfl ?_
  exact kt
 obtain ⟨vv21, _, ⟨T21, L21, k21, n21⟩, -, X21, ⟨Lc21, hQ21, l21, y21, z21⟩, st21⟩ := Jvm.LawKit.callS X0 hx (y := yM3) hown (mvT hZ (Wd91 hw)) (mvT hZ (Wd92 hw)) (mvT hZ (Wd74 hw)) (mvT hZ (Wd93 hw)) (by decide) (backOf (W := 0) (c_nbl l Z a0 hw [] (4 : Int32) (8 : Int32) h0 n0 Z0 (by decide) (by decide) (by decide +kernel)) hZ (Wd93 hw) (Wd74 hw) (by decide) (by decide)) (g := (fr_nbf4 m  1  [(iV 4)])) rfl (by rw [hml]; rfl) (argsL := [(iV 4)]) (rest := []) (lenOf pd_4 rfl) rfl (by show 2 * 0 + _ ≤ _; exact Nat.le_of_eq rfl) (D d20_1) (fun _ _ => ⟨rfl, e0, (by decide : 0 + 0 ≤ _), (by decide : 0 + 0 ≤ _)⟩)
 dsimp only [Pt.U, Pt.locs, Pt.cells, Pt.slots] at X21 l21 y21 z21 st21 hQ21
 subst l21 y21 z21
 obtain ⟨rfl, Nq21, Eq21⟩ := hQ21
 have N22 := Fr.app N0 Nq21
 obtain ⟨Lh23, Xh23, Nh23⟩ := oHd 0 0 X21 N22 rfl rfl
 refine ownBy st21 ?_
 clear st21
 show ownG p.tables e below _ (T21.setTop (fr_nbf4 m  4  [(iV 8)]))
 obtain ⟨T24, h24, k24, X24, e24, E24, A24, st24⟩ := newP Xh23 hx hZ (aty := .byte) (Wd21 hw) Eq21 (g := (fr_nbf4 m  4  [(iV 8)])) rfl (D d20_4) rfl (by decide : ¬ ((8 : Int32) < (0 : Int32))) (cap := 8) (by decide) (by decide) (by decide) (by decide)
 obtain ⟨b24, g24⟩ : ∃ z, z = h0.size := ⟨_, rfl⟩
 rw [← g24] at A24 st24
 have g25 : n0 ≤ b24 := Nat.le_trans Z0 (Nat.le_of_eq g24.symm)
 have z26 : h0.size ≤ b24 := Nat.le_trans (Nat.le_refl h0.size) (Nat.le_of_eq g24.symm)
 have V27 : Arv Z h24 b24 k24 .byte (8 : Int32) [(iV 0), (iV 0), (iV 0), (iV 0), (iV 0), (iV 0), (iV 0), (iV 0)] (iV 0) := (Arv.new A24 (by decide)).pad (pad_rep [] (iV 0) 8)
 refine ownBy st24 ?_
 clear st24
 show ownG p.tables e below _ (T24.setTop (fr_nbf4 m  6  [(.ref b24)]))
 have f28 := ((Keep.refl h0 []).ext E24)
 refine ownRet X24 Bd.notSynchronized (v := some (.ref b24)) (fun h => by rw [Bd.returns] at h; cases h) ?_ (oLe rfl) (oLe rfl) (fun fs hr => retOut X24 hx Bd.returns rfl (Or.inr (Or.inr (Or.inr (Or.inr ⟨rfl, rfl, rfl⟩)))) (D d20_6) hr)
 show (Q_nbf4 Z  h0 n0) (some (.ref b24)) T24.heap _
 rw [e24]
 exact ⟨b24, k24, rfl, Nh23, f28, z26, V27⟩
abbrev fr_tob4 (m : MethodId) (a2 : Addr) (pc : Nat) (x1_ x3_ x4_ : Slot) (st : List Value) : JFrame := mkF m pc #[vR a2, x1_, vI 4, x3_, x4_] st
def Q_tob4 (Z : State) (a2 : Addr) (kC : ClassId) (c0 : Int32) (c1 : Int32) (c2 : Int32) (c3 : Int32) (h0 : Heap) (n0 : Nat) (v : Option Value) (h : Heap) (L : List Loc) : Prop := ∃ (ta : Addr) (kb : ClassId), v = some (.ref ta) ∧ Fr n0 L ∧ Keep h0 h [] ∧ h0.size ≤ ta ∧ Arv Z h ta kb .byte (8 : Int32) [(.int (oW c0)), (.int (oH c0)), (.int (oW c1)), (.int (oH c1)), (.int (oW c2)), (.int (oH c2)), (.int (oW c3)), (.int (oH c3))] (iV 0)
theorem ef_tob4 (m : MethodId) (x0 : Addr) (x1 : Int32) (x2 : Int32)  : entryFrame m #[(.ref x0), (.int x1), (.int x2)] 5 = mkF m 0 #[vR x0, vI x1, vI x2, .unset, .unset] [] := by first | (simp [entryFrame, mkF, argsToLocals, Value.category]; done) | rfl
set_option maxRecDepth 65536 in
set_option maxHeartbeats 40000000 in
theorem c_tob4 (l : Launch) (Z : State) (a0 : Array Value) (hw : ∀ d ∈ tables_1, d.before a0 Z = true) (ws : List Jvm.Cond) (a2 : Addr) (kC : ClassId) (c0 : Int32) (c1 : Int32) (c2 : Int32) (c3 : Int32) (h0 : Heap) (n0 : Nat) (Z0 : n0 ≤ h0.size) (A2 : Arv Z h0 a2 kC .char (4 : Int32) [(.int c0), (.int c1), (.int c2), (.int c3)] (iV 0)) (SA : Sta Z Z.heap "java/lang/StringUTF16" "$assertionsDisabled" "Z" (iV 1)) (SHI : Sta Z Z.heap "java/lang/StringUTF16" "HI_BYTE_SHIFT" "I" (iV 0)) (SLO : Sta Z Z.heap "java/lang/StringUTF16" "LO_BYTE_SHIFT" "I" (iV 8)) (X00 : Old Z n0 h0) :
  MetFree l yM7 (head1 (Jvm.Cond.code yM7 jdk_52_method_14_code 5 (some (.array .byte)) :: ws) ({ frames := 2, cells := 1, slots := 8, locals := 24 } : Room)) (fun a U => a = #[(.ref a2), (iV 0), (iV 4)] ∧ Z.Warmed39 U.vm ∧ U.heap = h0) (fun _ _ _ _ _ => True) (fun _ U o U' => ∃ v L, o = .returned v ∧ (Q_tob4 Z a2 kC c0 c1 c2 c3 h0 n0) v U'.heap L ∧ FrameEnd U o U' L ({ frames := 2, cells := 1, slots := 8, locals := 24 } : Room).cells ({ frames := 2, cells := 1, slots := 8, locals := 24 } : Room).slots) := by
 refine MetFree.of_bodySF (plainFor_of_name pn_3) hisR ?_
 intro p e s m args below meth c s₁ Bd hml0 hP hK
 obtain ⟨rfl, hZ, hHp⟩ := hP
 have hx := Bd.exec
 have D := fun {pc : Nat} {r} (h : decode _ pc = r) => hb Bd.bytes h
 have hml : c.maxLocals = 5 := hml0
 have hown : s.vm.findClass "java/lang/StringUTF16" = some m.cls := findClass_of_methodNamed Bd.named
 have hnm := (name_of_methodNamed Bd.named Bd.method).1
 have X0 : Stand p l e ({ frames := 2, cells := 1, slots := 8, locals := 24 } : Room) s m #[(.ref a2), (iV 0), (iV 4)] below meth c s₁ [] 0 0 := Stand.of_body Bd
 have e0 : s₁.heap = h0 := by rw [← hHp, Bd.state]; rfl
 have N0 := Fr.nil n0
 refine ownOut (P := (Q_tob4 Z a2 kC c0 c1 c2 c3 h0 n0)) ?_
 refine ownBy (A := s₁.setTop (mkF m 0 #[vR a2, vI 0, vI 4, .unset, .unset] [])) (fun t k => castTop (ef_tob4 m a2 (0 : Int32) (4 : Int32)) k) ?_
 refine ownBy (A := s₁.setTop (fr_tob4 m a2 1 (vI 0) .unset .unset [(iV 4)])) (fun t kt => ?_) ?_
 ·refine XS.iloadN X0.here hx rfl (D d19_0) rfl ?_
  exact kt
 obtain ⟨vv21, _, ⟨T21, L21, k21, n21⟩, -, X21, ⟨Lc21, hQ21, l21, y21, z21⟩, st21⟩ := Jvm.LawKit.callS X0 hx (y := yM6) hown (mvT hZ (Wd88 hw)) (mvT hZ (Wd89 hw)) (mvT hZ (Wd74 hw)) (mvT hZ (Wd90 hw)) (by decide) (backOf (W := 0) (c_nbf4 l Z a0 hw []  h0 n0 Z0 ) hZ (Wd90 hw) (Wd74 hw) (by decide) (by decide)) (g := (fr_tob4 m a2 1 (vI 0) .unset .unset [(iV 4)])) rfl (by rw [hml]; rfl) (argsL := [(iV 4)]) (rest := []) (lenOf pd_5 rfl) rfl (by show 2 * 0 + _ ≤ _; exact Nat.le_of_eq rfl) (D d19_1) (fun _ _ => ⟨rfl, e0, (by decide : 0 + 1 ≤ _), (by decide : 0 + 8 ≤ _)⟩)
 dsimp only [Pt.U, Pt.locs, Pt.cells, Pt.slots] at X21 l21 y21 z21 st21 hQ21
 subst l21 y21 z21
 obtain ⟨t21, kb21, rfl, Nq21, Kq21, zq21, Aq21⟩ := hQ21
 have ne22 : a2 ≠ t21 := Nat.ne_of_lt (Nat.lt_of_lt_of_le A2.lt zq21)
 have g23 : n0 ≤ t21 := Nat.le_trans Z0 zq21
 have z24 : h0.size ≤ t21 := Nat.le_trans (Nat.le_refl h0.size) zq21
 have N25 := Fr.app N0 Nq21
 obtain ⟨Lh26, Xh26, Nh26⟩ := oHd 1 8 X21 N25 rfl rfl
 refine ownBy st21 ?_
 clear st21
 show ownG p.tables e below _ (T21.setTop (fr_tob4 m a2 4 (vI 0) .unset .unset [(.ref t21)]))
 refine ownBy (A := T21.setTop (fr_tob4 m a2 19 (vI 0) (vR t21) (vI 0) [(iV 0), (.ref a2), (iV 0), (.ref t21)])) (fun t kt => ?_) ?_
 ·refine XS.astoreN Xh26.here hx rfl (D d19_4) rfl rfl (l' := #[vR a2, vI 0, vI 4, vR t21, .unset]) rfl ?_
  refine XS.iconst Xh26.here hx rfl (D d19_5) ?_
  refine XS.istore Xh26.here hx rfl (D d19_6) rfl (l' := #[vR a2, vI 0, vI 4, vR t21, vI 0]) rfl ?_
  refine XS.iload Xh26.here hx rfl (D d19_8) rfl ?_
  show Steps p.tables e below (T21.setTop (fr_tob4 m a2 10 (vI 0) (vR t21) (vI 0) [(iV 0)])) t
  refine XS.iloadN Xh26.here hx rfl (D d19_10) rfl ?_
  refine XS.icmpNo Xh26.here hx rfl (D d19_11) rfl (tlt ((by decide) : (0 : Int32) < (4 : Int32))).2.1 ?_
  refine XS.aloadN Xh26.here hx rfl (D d19_14) rfl rfl ?_
  refine XS.iload Xh26.here hx rfl (D d19_15) rfl ?_
  show Steps p.tables e below (T21.setTop (fr_tob4 m a2 17 (vI 0) (vR t21) (vI 0) [(iV 0), (.ref t21)])) t
  refine XS.aloadN Xh26.here hx rfl (D d19_17) rfl rfl ?_
  refine XS.iloadN Xh26.here hx rfl (D d19_18) rfl ?_
  exact kt
 have f27 := (A2.keep Kq21 nin0)
 obtain ⟨cl28, Ar28, q28, S28, N28, H28, G28⟩ := id f27
 have hin28 : ¬ ((0 : Int32) < 0 ∨ cl28.slots.size ≤ ((0 : Int32)).toNatClampNeg) := inb_of S28 ⟨by decide, by decide⟩
 have hat28 : cl28.slots[((0 : Int32)).toNatClampNeg]? = some (.int c0) := H28.at hin28 rfl
 have st28 := Xh26.caload hx (j := (0 : Int32)) (v := (.int c0)) Ar28.1 (State.isArrayOf_alike hZ.alike Ar28.2.1) Ar28.2.2 hin28 hat28 (g := (fr_tob4 m a2 19 (vI 0) (vR t21) (vI 0) [(iV 0), (.ref a2), (iV 0), (.ref t21)])) rfl rfl (D d19_19)
 refine ownBy st28 ?_
 show ownG p.tables e below _ (T21.setTop (fr_tob4 m a2 20 (vI 0) (vR t21) (vI 0) [(.int c0), (iV 0), (.ref t21)]))
 have f29 := (X00.keep Kq21 all0)
 have f30 := (Nat.le_trans Z0 Kq21.1)
 obtain ⟨vv31, _, ⟨T31, L31, k31, n31⟩, -, X31, ⟨Lc31, hQ31, l31, y31, z31⟩, st31⟩ := Jvm.LawKit.callS Xh26 hx (y := yM2) hown (mvT hZ (Wd95 hw)) (mvT hZ (Wd96 hw)) (mvT hZ (Wd74 hw)) (mvT hZ (Wd97 hw)) (by decide) (backOf (W := 0) (c_put l Z a0 hw [] t21 kb21 (8 : Int32) [(iV 0), (iV 0), (iV 0), (iV 0), (iV 0), (iV 0), (iV 0), (iV 0)] (0 : Int32) c0 0 T21.heap n0 f30 Aq21 g23 ⟨by decide +kernel, by decide +kernel⟩ ⟨by decide +kernel, by decide +kernel⟩ (by decide +kernel) (by decide +kernel) (oLe rfl) SA SHI SLO f29) hZ (Wd97 hw) (Wd74 hw) (by decide) (by decide)) (g := (fr_tob4 m a2 20 (vI 0) (vR t21) (vI 0) [(.int c0), (iV 0), (.ref t21)])) rfl (by rw [hml]; rfl) (argsL := [(.ref t21), (iV 0), (.int c0)]) (rest := []) (lenOf pd_6 rfl) rfl (by show 2 * 0 + _ ≤ _; exact Nat.le_of_eq rfl) (D d19_20) (fun _ _ => ⟨rfl, rfl, (by decide : 1 + 0 ≤ _), (by decide : 8 + 0 ≤ _)⟩)
 dsimp only [Pt.U, Pt.locs, Pt.cells, Pt.slots] at X31 l31 y31 z31 st31 hQ31
 subst l31 y31 z31
 obtain ⟨rfl, Nq31, Kq31, Ap31⟩ := hQ31
 have Aq31 : Arv Z T31.heap t21 kb21 .byte (8 : Int32) [(.int (oW c0)), (.int (oH c0)), (iV 0), (iV 0), (iV 0), (iV 0), (iV 0), (iV 0)] (iV 0) := Ap31
 have N32 := Fr.app Nh26 Nq31
 obtain ⟨Lh33, Xh33, Nh33⟩ := oHd 1 8 X31 N32 rfl rfl
 refine ownBy st31 ?_
 clear st31
 show ownG p.tables e below _ (T31.setTop (fr_tob4 m a2 23 (vI 0) (vR t21) (vI 0) []))
 refine ownBy (A := T31.setTop (fr_tob4 m a2 19 (vI 1) (vR t21) (vI 1) [(iV 1), (.ref a2), (iV 1), (.ref t21)])) (fun t kt => ?_) ?_
 ·refine XS.iinc Xh33.here hx rfl (D d19_23) rfl (l' := #[vR a2, vI 1, vI 4, vR t21, vI 0]) rfl ?_
  refine XS.iinc Xh33.here hx rfl (D d19_26) rfl (l' := #[vR a2, vI 1, vI 4, vR t21, vI 1]) rfl ?_
  refine XS.goto Xh33.here hx rfl (pc0 := 29) (pc' := 8) rfl (D d19_29) (by decide) (by decide) ?_
  refine XS.iload Xh33.here hx rfl (D d19_8) rfl ?_
  show Steps p.tables e below (T31.setTop (fr_tob4 m a2 10 (vI 1) (vR t21) (vI 1) [(iV 1)])) t
  refine XS.iloadN Xh33.here hx rfl (D d19_10) rfl ?_
  refine XS.icmpNo Xh33.here hx rfl (D d19_11) rfl (tlt ((by decide) : (1 : Int32) < (4 : Int32))).2.1 ?_
  refine XS.aloadN Xh33.here hx rfl (D d19_14) rfl rfl ?_
  refine XS.iload Xh33.here hx rfl (D d19_15) rfl ?_
  show Steps p.tables e below (T31.setTop (fr_tob4 m a2 17 (vI 1) (vR t21) (vI 1) [(iV 1), (.ref t21)])) t
  refine XS.aloadN Xh33.here hx rfl (D d19_17) rfl rfl ?_
  refine XS.iloadN Xh33.here hx rfl (D d19_18) rfl ?_
  exact kt
 have f34 := (f27.keep Kq31 (ninS ne22 nin0))
 obtain ⟨cl35, Ar35, q35, S35, N35, H35, G35⟩ := id f34
 have hin35 : ¬ ((1 : Int32) < 0 ∨ cl35.slots.size ≤ ((1 : Int32)).toNatClampNeg) := inb_of S35 ⟨by decide, by decide⟩
 have hat35 : cl35.slots[((1 : Int32)).toNatClampNeg]? = some (.int c1) := H35.at hin35 rfl
 have st35 := Xh33.caload hx (j := (1 : Int32)) (v := (.int c1)) Ar35.1 (State.isArrayOf_alike hZ.alike Ar35.2.1) Ar35.2.2 hin35 hat35 (g := (fr_tob4 m a2 19 (vI 1) (vR t21) (vI 1) [(iV 1), (.ref a2), (iV 1), (.ref t21)])) rfl rfl (D d19_19)
 refine ownBy st35 ?_
 show ownG p.tables e below _ (T31.setTop (fr_tob4 m a2 20 (vI 1) (vR t21) (vI 1) [(.int c1), (iV 1), (.ref t21)]))
 have f36 := (f29.keep Kq31 (allS g23 all0))
 have f37 := (Nat.le_trans f30 Kq31.1)
 obtain ⟨vv38, _, ⟨T38, L38, k38, n38⟩, -, X38, ⟨Lc38, hQ38, l38, y38, z38⟩, st38⟩ := Jvm.LawKit.callS Xh33 hx (y := yM2) hown (mvT hZ (Wd95 hw)) (mvT hZ (Wd96 hw)) (mvT hZ (Wd74 hw)) (mvT hZ (Wd97 hw)) (by decide) (backOf (W := 0) (c_put l Z a0 hw [] t21 kb21 (8 : Int32) [(.int (oW c0)), (.int (oH c0)), (iV 0), (iV 0), (iV 0), (iV 0), (iV 0), (iV 0)] (1 : Int32) c1 2 T31.heap n0 f37 Aq31 g23 ⟨by decide +kernel, by decide +kernel⟩ ⟨by decide +kernel, by decide +kernel⟩ (by decide +kernel) (by decide +kernel) (oLe rfl) SA SHI SLO f36) hZ (Wd97 hw) (Wd74 hw) (by decide) (by decide)) (g := (fr_tob4 m a2 20 (vI 1) (vR t21) (vI 1) [(.int c1), (iV 1), (.ref t21)])) rfl (by rw [hml]; rfl) (argsL := [(.ref t21), (iV 1), (.int c1)]) (rest := []) (lenOf pd_6 rfl) rfl (by show 2 * 0 + _ ≤ _; exact Nat.le_of_eq rfl) (D d19_20) (fun _ _ => ⟨rfl, rfl, (by decide : 1 + 0 ≤ _), (by decide : 8 + 0 ≤ _)⟩)
 dsimp only [Pt.U, Pt.locs, Pt.cells, Pt.slots] at X38 l38 y38 z38 st38 hQ38
 subst l38 y38 z38
 obtain ⟨rfl, Nq38, Kq38, Ap38⟩ := hQ38
 have Aq38 : Arv Z T38.heap t21 kb21 .byte (8 : Int32) [(.int (oW c0)), (.int (oH c0)), (.int (oW c1)), (.int (oH c1)), (iV 0), (iV 0), (iV 0), (iV 0)] (iV 0) := Ap38
 have N39 := Fr.app Nh33 Nq38
 obtain ⟨Lh40, Xh40, Nh40⟩ := oHd 1 8 X38 N39 rfl rfl
 refine ownBy st38 ?_
 clear st38
 show ownG p.tables e below _ (T38.setTop (fr_tob4 m a2 23 (vI 1) (vR t21) (vI 1) []))
 refine ownBy (A := T38.setTop (fr_tob4 m a2 19 (vI 2) (vR t21) (vI 2) [(iV 2), (.ref a2), (iV 2), (.ref t21)])) (fun t kt => ?_) ?_
 ·refine XS.iinc Xh40.here hx rfl (D d19_23) rfl (l' := #[vR a2, vI 2, vI 4, vR t21, vI 1]) rfl ?_
  refine XS.iinc Xh40.here hx rfl (D d19_26) rfl (l' := #[vR a2, vI 2, vI 4, vR t21, vI 2]) rfl ?_
  refine XS.goto Xh40.here hx rfl (pc0 := 29) (pc' := 8) rfl (D d19_29) (by decide) (by decide) ?_
  refine XS.iload Xh40.here hx rfl (D d19_8) rfl ?_
  show Steps p.tables e below (T38.setTop (fr_tob4 m a2 10 (vI 2) (vR t21) (vI 2) [(iV 2)])) t
  refine XS.iloadN Xh40.here hx rfl (D d19_10) rfl ?_
  refine XS.icmpNo Xh40.here hx rfl (D d19_11) rfl (tlt ((by decide) : (2 : Int32) < (4 : Int32))).2.1 ?_
  refine XS.aloadN Xh40.here hx rfl (D d19_14) rfl rfl ?_
  refine XS.iload Xh40.here hx rfl (D d19_15) rfl ?_
  show Steps p.tables e below (T38.setTop (fr_tob4 m a2 17 (vI 2) (vR t21) (vI 2) [(iV 2), (.ref t21)])) t
  refine XS.aloadN Xh40.here hx rfl (D d19_17) rfl rfl ?_
  refine XS.iloadN Xh40.here hx rfl (D d19_18) rfl ?_
  exact kt
 have f41 := (f34.keep Kq38 (ninS ne22 nin0))
 obtain ⟨cl42, Ar42, q42, S42, N42, H42, G42⟩ := id f41
 have hin42 : ¬ ((2 : Int32) < 0 ∨ cl42.slots.size ≤ ((2 : Int32)).toNatClampNeg) := inb_of S42 ⟨by decide, by decide⟩
 have hat42 : cl42.slots[((2 : Int32)).toNatClampNeg]? = some (.int c2) := H42.at hin42 rfl
 have st42 := Xh40.caload hx (j := (2 : Int32)) (v := (.int c2)) Ar42.1 (State.isArrayOf_alike hZ.alike Ar42.2.1) Ar42.2.2 hin42 hat42 (g := (fr_tob4 m a2 19 (vI 2) (vR t21) (vI 2) [(iV 2), (.ref a2), (iV 2), (.ref t21)])) rfl rfl (D d19_19)
 refine ownBy st42 ?_
 show ownG p.tables e below _ (T38.setTop (fr_tob4 m a2 20 (vI 2) (vR t21) (vI 2) [(.int c2), (iV 2), (.ref t21)]))
 have f43 := (f36.keep Kq38 (allS g23 all0))
 have f44 := (Nat.le_trans f37 Kq38.1)
 obtain ⟨vv45, _, ⟨T45, L45, k45, n45⟩, -, X45, ⟨Lc45, hQ45, l45, y45, z45⟩, st45⟩ := Jvm.LawKit.callS Xh40 hx (y := yM2) hown (mvT hZ (Wd95 hw)) (mvT hZ (Wd96 hw)) (mvT hZ (Wd74 hw)) (mvT hZ (Wd97 hw)) (by decide) (backOf (W := 0) (c_put l Z a0 hw [] t21 kb21 (8 : Int32) [(.int (oW c0)), (.int (oH c0)), (.int (oW c1)), (.int (oH c1)), (iV 0), (iV 0), (iV 0), (iV 0)] (2 : Int32) c2 4 T38.heap n0 f44 Aq38 g23 ⟨by decide +kernel, by decide +kernel⟩ ⟨by decide +kernel, by decide +kernel⟩ (by decide +kernel) (by decide +kernel) (oLe rfl) SA SHI SLO f43) hZ (Wd97 hw) (Wd74 hw) (by decide) (by decide)) (g := (fr_tob4 m a2 20 (vI 2) (vR t21) (vI 2) [(.int c2), (iV 2), (.ref t21)])) rfl (by rw [hml]; rfl) (argsL := [(.ref t21), (iV 2), (.int c2)]) (rest := []) (lenOf pd_6 rfl) rfl (by show 2 * 0 + _ ≤ _; exact Nat.le_of_eq rfl) (D d19_20) (fun _ _ => ⟨rfl, rfl, (by decide : 1 + 0 ≤ _), (by decide : 8 + 0 ≤ _)⟩)
 dsimp only [Pt.U, Pt.locs, Pt.cells, Pt.slots] at X45 l45 y45 z45 st45 hQ45
 subst l45 y45 z45
 obtain ⟨rfl, Nq45, Kq45, Ap45⟩ := hQ45
 have Aq45 : Arv Z T45.heap t21 kb21 .byte (8 : Int32) [(.int (oW c0)), (.int (oH c0)), (.int (oW c1)), (.int (oH c1)), (.int (oW c2)), (.int (oH c2)), (iV 0), (iV 0)] (iV 0) := Ap45
 have N46 := Fr.app Nh40 Nq45
 obtain ⟨Lh47, Xh47, Nh47⟩ := oHd 1 8 X45 N46 rfl rfl
 refine ownBy st45 ?_
 clear st45
 show ownG p.tables e below _ (T45.setTop (fr_tob4 m a2 23 (vI 2) (vR t21) (vI 2) []))
 refine ownBy (A := T45.setTop (fr_tob4 m a2 19 (vI 3) (vR t21) (vI 3) [(iV 3), (.ref a2), (iV 3), (.ref t21)])) (fun t kt => ?_) ?_
 ·refine XS.iinc Xh47.here hx rfl (D d19_23) rfl (l' := #[vR a2, vI 3, vI 4, vR t21, vI 2]) rfl ?_
  refine XS.iinc Xh47.here hx rfl (D d19_26) rfl (l' := #[vR a2, vI 3, vI 4, vR t21, vI 3]) rfl ?_
  refine XS.goto Xh47.here hx rfl (pc0 := 29) (pc' := 8) rfl (D d19_29) (by decide) (by decide) ?_
  refine XS.iload Xh47.here hx rfl (D d19_8) rfl ?_
  show Steps p.tables e below (T45.setTop (fr_tob4 m a2 10 (vI 3) (vR t21) (vI 3) [(iV 3)])) t
  refine XS.iloadN Xh47.here hx rfl (D d19_10) rfl ?_
  refine XS.icmpNo Xh47.here hx rfl (D d19_11) rfl (tlt ((by decide) : (3 : Int32) < (4 : Int32))).2.1 ?_
  refine XS.aloadN Xh47.here hx rfl (D d19_14) rfl rfl ?_
  refine XS.iload Xh47.here hx rfl (D d19_15) rfl ?_
  show Steps p.tables e below (T45.setTop (fr_tob4 m a2 17 (vI 3) (vR t21) (vI 3) [(iV 3), (.ref t21)])) t
  refine XS.aloadN Xh47.here hx rfl (D d19_17) rfl rfl ?_
  refine XS.iloadN Xh47.here hx rfl (D d19_18) rfl ?_
  exact kt
 have f48 := (f41.keep Kq45 (ninS ne22 nin0))
 obtain ⟨cl49, Ar49, q49, S49, N49, H49, G49⟩ := id f48
 have hin49 : ¬ ((3 : Int32) < 0 ∨ cl49.slots.size ≤ ((3 : Int32)).toNatClampNeg) := inb_of S49 ⟨by decide, by decide⟩
 have hat49 : cl49.slots[((3 : Int32)).toNatClampNeg]? = some (.int c3) := H49.at hin49 rfl
 have st49 := Xh47.caload hx (j := (3 : Int32)) (v := (.int c3)) Ar49.1 (State.isArrayOf_alike hZ.alike Ar49.2.1) Ar49.2.2 hin49 hat49 (g := (fr_tob4 m a2 19 (vI 3) (vR t21) (vI 3) [(iV 3), (.ref a2), (iV 3), (.ref t21)])) rfl rfl (D d19_19)
 refine ownBy st49 ?_
 show ownG p.tables e below _ (T45.setTop (fr_tob4 m a2 20 (vI 3) (vR t21) (vI 3) [(.int c3), (iV 3), (.ref t21)]))
 have f50 := (f43.keep Kq45 (allS g23 all0))
 have f51 := (Nat.le_trans f44 Kq45.1)
 obtain ⟨vv52, _, ⟨T52, L52, k52, n52⟩, -, X52, ⟨Lc52, hQ52, l52, y52, z52⟩, st52⟩ := Jvm.LawKit.callS Xh47 hx (y := yM2) hown (mvT hZ (Wd95 hw)) (mvT hZ (Wd96 hw)) (mvT hZ (Wd74 hw)) (mvT hZ (Wd97 hw)) (by decide) (backOf (W := 0) (c_put l Z a0 hw [] t21 kb21 (8 : Int32) [(.int (oW c0)), (.int (oH c0)), (.int (oW c1)), (.int (oH c1)), (.int (oW c2)), (.int (oH c2)), (iV 0), (iV 0)] (3 : Int32) c3 6 T45.heap n0 f51 Aq45 g23 ⟨by decide +kernel, by decide +kernel⟩ ⟨by decide +kernel, by decide +kernel⟩ (by decide +kernel) (by decide +kernel) (oLe rfl) SA SHI SLO f50) hZ (Wd97 hw) (Wd74 hw) (by decide) (by decide)) (g := (fr_tob4 m a2 20 (vI 3) (vR t21) (vI 3) [(.int c3), (iV 3), (.ref t21)])) rfl (by rw [hml]; rfl) (argsL := [(.ref t21), (iV 3), (.int c3)]) (rest := []) (lenOf pd_6 rfl) rfl (by show 2 * 0 + _ ≤ _; exact Nat.le_of_eq rfl) (D d19_20) (fun _ _ => ⟨rfl, rfl, (by decide : 1 + 0 ≤ _), (by decide : 8 + 0 ≤ _)⟩)
 dsimp only [Pt.U, Pt.locs, Pt.cells, Pt.slots] at X52 l52 y52 z52 st52 hQ52
 subst l52 y52 z52
 obtain ⟨rfl, Nq52, Kq52, Ap52⟩ := hQ52
 have Aq52 : Arv Z T52.heap t21 kb21 .byte (8 : Int32) [(.int (oW c0)), (.int (oH c0)), (.int (oW c1)), (.int (oH c1)), (.int (oW c2)), (.int (oH c2)), (.int (oW c3)), (.int (oH c3))] (iV 0) := Ap52
 have N53 := Fr.app Nh47 Nq52
 obtain ⟨Lh54, Xh54, Nh54⟩ := oHd 1 8 X52 N53 rfl rfl
 refine ownBy st52 ?_
 clear st52
 show ownG p.tables e below _ (T52.setTop (fr_tob4 m a2 23 (vI 3) (vR t21) (vI 3) []))
 refine ownBy (A := T52.setTop (fr_tob4 m a2 33 (vI 4) (vR t21) (vI 4) [(.ref t21)])) (fun t kt => ?_) ?_
 ·refine XS.iinc Xh54.here hx rfl (D d19_23) rfl (l' := #[vR a2, vI 4, vI 4, vR t21, vI 3]) rfl ?_
  refine XS.iinc Xh54.here hx rfl (D d19_26) rfl (l' := #[vR a2, vI 4, vI 4, vR t21, vI 4]) rfl ?_
  refine XS.goto Xh54.here hx rfl (pc0 := 29) (pc' := 8) rfl (D d19_29) (by decide) (by decide) ?_
  refine XS.iload Xh54.here hx rfl (D d19_8) rfl ?_
  show Steps p.tables e below (T52.setTop (fr_tob4 m a2 10 (vI 4) (vR t21) (vI 4) [(iV 4)])) t
  refine XS.iloadN Xh54.here hx rfl (D d19_10) rfl ?_
  refine XS.icmpYes Xh54.here hx rfl (pc0 := 11) (pc' := 32) rfl (D d19_11) rfl (flt ((by decide) : ¬ ((4 : Int32) < (4 : Int32)))).2.1 (by decide) (by decide) ?_
  refine XS.aloadN Xh54.here hx rfl (D d19_32) rfl rfl ?_
  exact kt
 have f55 := ((((((Keep.refl h0 []).trans Kq21 all0).trans Kq31 (allS (Or.inr z24) all0)).trans Kq38 (allS (Or.inr z24) all0)).trans Kq45 (allS (Or.inr z24) all0)).trans Kq52 (allS (Or.inr z24) all0))
 refine ownRet Xh54 Bd.notSynchronized (v := some (.ref t21)) (fun h => by rw [Bd.returns] at h; cases h) ?_ (oLe rfl) (oLe rfl) (fun fs hr => retOut Xh54 hx Bd.returns rfl (Or.inr (Or.inr (Or.inr (Or.inr ⟨rfl, rfl, rfl⟩)))) (D d19_33) hr)
 show (Q_tob4 Z a2 kC c0 c1 c2 c3 h0 n0) (some (.ref t21)) T52.heap _
 exact ⟨t21, kb21, rfl, Nh54, f55, z24, Aq52⟩
abbrev fr_cp5_4 (m : MethodId) (a2 : Addr) (ta : Addr) (pc : Nat) (x1_ x3_ x5_ x6_ : Slot) (st : List Value) : JFrame := mkF m pc #[vR a2, x1_, vR ta, x3_, vI 4, x5_, x6_] st
def Q_cp5_4 (Z : State) (a2 : Addr) (kC : ClassId) (ta : Addr) (kb : ClassId) (c0 : Int32) (c1 : Int32) (c2 : Int32) (c3 : Int32) (h0 : Heap) (n0 : Nat) (v : Option Value) (h : Heap) (L : List Loc) : Prop := ∃ r : Int32, v = some (.int r) ∧ Fr n0 L ∧ Keep h0 h [ta] ∧ ((r = (4 : Int32) ∧ ¬ ((255 : Int32) < c0) ∧ ¬ ((255 : Int32) < c1) ∧ ¬ ((255 : Int32) < c2) ∧ ¬ ((255 : Int32) < c3) ∧ Arv Z h ta kb .byte (4 : Int32) [(.int (oL c0)), (.int (oL c1)), (.int (oL c2)), (.int (oL c3))] (iV 0)) ∨ (r = (0 : Int32) ∧ (255 : Int32) < c0) ∨ (r = (1 : Int32) ∧ (255 : Int32) < c1) ∨ (r = (2 : Int32) ∧ (255 : Int32) < c2) ∨ (r = (3 : Int32) ∧ (255 : Int32) < c3))
theorem ef_cp5_4 (m : MethodId) (x0 : Addr) (x1 : Int32) (x2 : Addr) (x3 : Int32) (x4 : Int32)  : entryFrame m #[(.ref x0), (.int x1), (.ref x2), (.int x3), (.int x4)] 7 = mkF m 0 #[vR x0, vI x1, vR x2, vI x3, vI x4, .unset, .unset] [] := by first | (simp [entryFrame, mkF, argsToLocals, Value.category]; done) | rfl
set_option maxRecDepth 65536 in
set_option maxHeartbeats 40000000 in
theorem c_cp5_4 (l : Launch) (Z : State) (a0 : Array Value) (hw : ∀ d ∈ tables_1, d.before a0 Z = true) (ws : List Jvm.Cond) (a2 : Addr) (kC : ClassId) (ta : Addr) (kb : ClassId) (c0 : Int32) (c1 : Int32) (c2 : Int32) (c3 : Int32) (h0 : Heap) (n0 : Nat) (Z0 : n0 ≤ h0.size) (A2 : Arv Z h0 a2 kC .char (4 : Int32) [(.int c0), (.int c1), (.int c2), (.int c3)] (iV 0)) (At : Arv Z h0 ta kb .byte (4 : Int32) [(iV 0), (iV 0), (iV 0), (iV 0)] (iV 0)) (gt : n0 ≤ ta) (ne1 : a2 ≠ ta) :
  MetFree l yM8 (head1 (Jvm.Cond.code yM8 jdk_52_method_21_code 7 (some .int) :: ws) ({ frames := 0, cells := 0, slots := 0, locals := 0 } : Room)) (fun a U => a = #[(.ref a2), (iV 0), (.ref ta), (iV 0), (iV 4)] ∧ Z.Warmed39 U.vm ∧ U.heap = h0) (fun _ _ _ _ _ => True) (fun _ U o U' => ∃ v L, o = .returned v ∧ (Q_cp5_4 Z a2 kC ta kb c0 c1 c2 c3 h0 n0) v U'.heap L ∧ FrameEnd U o U' L ({ frames := 0, cells := 0, slots := 0, locals := 0 } : Room).cells ({ frames := 0, cells := 0, slots := 0, locals := 0 } : Room).slots) := by
 refine MetFree.of_bodySF (plainFor_of_name pn_3) hisR ?_
 intro p e s m args below meth c s₁ Bd hml0 hP hK
 obtain ⟨rfl, hZ, hHp⟩ := hP
 have hx := Bd.exec
 have D := fun {pc : Nat} {r} (h : decode _ pc = r) => hb Bd.bytes h
 have hml : c.maxLocals = 7 := hml0
 have hown : s.vm.findClass "java/lang/StringUTF16" = some m.cls := findClass_of_methodNamed Bd.named
 have hnm := (name_of_methodNamed Bd.named Bd.method).1
 have X0 : Stand p l e ({ frames := 0, cells := 0, slots := 0, locals := 0 } : Room) s m #[(.ref a2), (iV 0), (.ref ta), (iV 0), (iV 4)] below meth c s₁ [] 0 0 := Stand.of_body Bd
 have e0 : s₁.heap = h0 := by rw [← hHp, Bd.state]; rfl
 have N0 := Fr.nil n0
 refine ownOut (P := (Q_cp5_4 Z a2 kC ta kb c0 c1 c2 c3 h0 n0)) ?_
 refine ownBy (A := s₁.setTop (mkF m 0 #[vR a2, vI 0, vR ta, vI 0, vI 4, .unset, .unset] [])) (fun t k => castTop (ef_cp5_4 m a2 (0 : Int32) ta (0 : Int32) (4 : Int32)) k) ?_
 refine ownBy (A := s₁.setTop (fr_cp5_4 m a2 ta 12 (vI 0) (vI 0) (vI 0) .unset [(iV 0), (.ref a2)])) (fun t kt => ?_) ?_
 ·refine XS.iconst X0.here hx rfl (D d16_0) ?_
  refine XS.istore X0.here hx rfl (D d16_1) rfl (l' := #[vR a2, vI 0, vR ta, vI 0, vI 4, vI 0, .unset]) rfl ?_
  refine XS.iload X0.here hx rfl (D d16_3) rfl ?_
  refine XS.iload X0.here hx rfl (D d16_5) rfl ?_
  show Steps p.tables e below (s₁.setTop (fr_cp5_4 m a2 ta 7 (vI 0) (vI 0) (vI 0) .unset [(iV 4), (iV 0)])) t
  refine XS.icmpNo X0.here hx rfl (D d16_7) rfl (tlt ((by decide) : (0 : Int32) < (4 : Int32))).2.1 ?_
  refine XS.aloadN X0.here hx rfl (D d16_10) rfl rfl ?_
  refine XS.iloadN X0.here hx rfl (D d16_11) rfl ?_
  exact kt
 obtain ⟨cl21, Ar21, q21, S21, N21, H21, G21⟩ := id A2
 have hin21 : ¬ ((0 : Int32) < 0 ∨ cl21.slots.size ≤ ((0 : Int32)).toNatClampNeg) := inb_of S21 ⟨by decide, by decide⟩
 have hat21 : cl21.slots[((0 : Int32)).toNatClampNeg]? = some (.int c0) := H21.at hin21 rfl
 have st21 := X0.caload hx (j := (0 : Int32)) (v := (.int c0)) (by rw [e0]; exact Ar21.1) (State.isArrayOf_alike hZ.alike Ar21.2.1) Ar21.2.2 hin21 hat21 (g := (fr_cp5_4 m a2 ta 12 (vI 0) (vI 0) (vI 0) .unset [(iV 0), (.ref a2)])) rfl rfl (D d16_12)
 refine ownBy st21 ?_
 show ownG p.tables e below _ (s₁.setTop (fr_cp5_4 m a2 ta 13 (vI 0) (vI 0) (vI 0) .unset [(.int c0)]))
 refine ownBy (A := s₁.setTop (fr_cp5_4 m a2 ta 20 (vI 0) (vI 0) (vI 0) (vI c0) [(iV 255), (.int c0)])) (fun t kt => ?_) ?_
 ·refine XS.istore X0.here hx rfl (D d16_13) rfl (l' := #[vR a2, vI 0, vR ta, vI 0, vI 4, vI 0, vI c0]) rfl ?_
  refine XS.iload X0.here hx rfl (D d16_15) rfl ?_
  refine XS.sipush X0.here hx rfl (D d16_17) ?_
  exact kt
 by_cases hc22 : (255 : Int32) < c0
 ·skip
  refine ownBy (A := s₁.setTop (fr_cp5_4 m a2 ta 25 (vI 0) (vI 0) (vI 0) (vI c0) [(iV 0)])) (fun t kt => ?_) ?_
  ·refine XS.icmpNo X0.here hx rfl (D d16_20) rfl (tlt hc22).2.2.2 ?_
   refine XS.iload X0.here hx rfl (D d16_23) rfl ?_
   exact kt
  refine ownRet X0 Bd.notSynchronized (v := some (iV 0)) (fun h => by rw [Bd.returns] at h; cases h) ?_ (oLe rfl) (oLe rfl) (fun fs hr => retI X0 hx Bd.returns (D d16_25) hr)
  show (Q_cp5_4 Z a2 kC ta kb c0 c1 c2 c3 h0 n0) (some (iV 0)) s₁.heap _
  rw [e0]
  exact ⟨_, rfl, N0, (Keep.refl h0 [ta]), Or.inr (Or.inl ⟨rfl, hc22⟩)⟩
 ·skip
  refine ownBy (A := s₁.setTop (fr_cp5_4 m a2 ta 31 (vI 0) (vI 0) (vI 0) (vI c0) [(.int (c0.toInt8.toInt32)), (iV 0), (.ref ta)])) (fun t kt => ?_) ?_
  ·refine XS.icmpYes X0.here hx rfl (pc0 := 20) (pc' := 26) rfl (D d16_20) rfl (flt hc22).2.2.2 (by decide) (by decide) ?_
   refine XS.aloadN X0.here hx rfl (D d16_26) rfl rfl ?_
   refine XS.iloadN X0.here hx rfl (D d16_27) rfl ?_
   refine XS.iload X0.here hx rfl (D d16_28) rfl ?_
   show Steps p.tables e below (s₁.setTop (fr_cp5_4 m a2 ta 30 (vI 0) (vI 0) (vI 0) (vI c0) [(.int c0), (iV 0), (.ref ta)])) t
   refine XS.i2b X0.here hx rfl (D d16_30) rfl ?_
   exact kt
  obtain ⟨cl23, Ar23, q23, S23, N23, H23, G23⟩ := id At
  have hin23 : ¬ ((0 : Int32) < 0 ∨ cl23.slots.size ≤ ((0 : Int32)).toNatClampNeg) := inb_of S23 ⟨by decide, by decide⟩
  obtain ⟨T23, h23, X23, e23, W23, st23⟩ := stB X0 hx hZ e0 Ar23 (j := (0 : Int32)) hin23 (g := (fr_cp5_4 m a2 ta 31 (vI 0) (vI 0) (vI 0) (vI c0) [(.int (c0.toInt8.toInt32)), (iV 0), (.ref ta)])) rfl rfl (D d16_31)
  have V24 : Arv Z h23 ta kb .byte (4 : Int32) [(.int (nar .byte (c0.toInt8.toInt32))), (iV 0), (iV 0), (iV 0)] (iV 0) := Arv.set Ar23 q23 S23 N23 H23 G23 (fits_nar_byte _) W23 0 rfl (oLe rfl)
  rw [own_nar_byte c0] at V24
  clear hin23 G23 H23 N23 S23 q23 Ar23 cl23
  have N25 := Fr.snoc X23 N0 gt
  obtain ⟨Lh26, Xh26, Nh26⟩ := oHd 0 0 X23 N25 rfl rfl
  refine ownBy st23 ?_
  clear st23
  show ownG p.tables e below _ (T23.setTop (fr_cp5_4 m a2 ta 32 (vI 0) (vI 0) (vI 0) (vI c0) []))
  refine ownBy (A := T23.setTop (fr_cp5_4 m a2 ta 12 (vI 1) (vI 1) (vI 1) (vI c0) [(iV 1), (.ref a2)])) (fun t kt => ?_) ?_
  ·refine XS.iinc Xh26.here hx rfl (D d16_32) rfl (l' := #[vR a2, vI 1, vR ta, vI 0, vI 4, vI 0, vI c0]) rfl ?_
   refine XS.iinc Xh26.here hx rfl (D d16_35) rfl (l' := #[vR a2, vI 1, vR ta, vI 1, vI 4, vI 0, vI c0]) rfl ?_
   refine XS.iinc Xh26.here hx rfl (D d16_38) rfl (l' := #[vR a2, vI 1, vR ta, vI 1, vI 4, vI 1, vI c0]) rfl ?_
   refine XS.goto Xh26.here hx rfl (pc0 := 41) (pc' := 3) rfl (D d16_41) (by decide) (by decide) ?_
   show Steps p.tables e below (T23.setTop (fr_cp5_4 m a2 ta 3 (vI 1) (vI 1) (vI 1) (vI c0) [])) t
   refine XS.iload Xh26.here hx rfl (D d16_3) rfl ?_
   refine XS.iload Xh26.here hx rfl (D d16_5) rfl ?_
   refine XS.icmpNo Xh26.here hx rfl (D d16_7) rfl (tlt ((by decide) : (1 : Int32) < (4 : Int32))).2.1 ?_
   refine XS.aloadN Xh26.here hx rfl (D d16_10) rfl rfl ?_
   show Steps p.tables e below (T23.setTop (fr_cp5_4 m a2 ta 11 (vI 1) (vI 1) (vI 1) (vI c0) [(.ref a2)])) t
   refine XS.iloadN Xh26.here hx rfl (D d16_11) rfl ?_
   exact kt
  have f27 := (A2.other W23 ne1)
  obtain ⟨cl28, Ar28, q28, S28, N28, H28, G28⟩ := id f27
  have hin28 : ¬ ((1 : Int32) < 0 ∨ cl28.slots.size ≤ ((1 : Int32)).toNatClampNeg) := inb_of S28 ⟨by decide, by decide⟩
  have hat28 : cl28.slots[((1 : Int32)).toNatClampNeg]? = some (.int c1) := H28.at hin28 rfl
  have st28 := Xh26.caload hx (j := (1 : Int32)) (v := (.int c1)) (by rw [e23]; exact Ar28.1) (State.isArrayOf_alike hZ.alike Ar28.2.1) Ar28.2.2 hin28 hat28 (g := (fr_cp5_4 m a2 ta 12 (vI 1) (vI 1) (vI 1) (vI c0) [(iV 1), (.ref a2)])) rfl rfl (D d16_12)
  refine ownBy st28 ?_
  show ownG p.tables e below _ (T23.setTop (fr_cp5_4 m a2 ta 13 (vI 1) (vI 1) (vI 1) (vI c0) [(.int c1)]))
  refine ownBy (A := T23.setTop (fr_cp5_4 m a2 ta 20 (vI 1) (vI 1) (vI 1) (vI c1) [(iV 255), (.int c1)])) (fun t kt => ?_) ?_
  ·refine XS.istore Xh26.here hx rfl (D d16_13) rfl (l' := #[vR a2, vI 1, vR ta, vI 1, vI 4, vI 1, vI c1]) rfl ?_
   refine XS.iload Xh26.here hx rfl (D d16_15) rfl ?_
   refine XS.sipush Xh26.here hx rfl (D d16_17) ?_
   exact kt
  by_cases hc29 : (255 : Int32) < c1
  ·skip
   refine ownBy (A := T23.setTop (fr_cp5_4 m a2 ta 25 (vI 1) (vI 1) (vI 1) (vI c1) [(iV 1)])) (fun t kt => ?_) ?_
   ·refine XS.icmpNo Xh26.here hx rfl (D d16_20) rfl (tlt hc29).2.2.2 ?_
    refine XS.iload Xh26.here hx rfl (D d16_23) rfl ?_
    exact kt
   have f30 := ((Keep.refl h0 [ta]).wr W23 (Or.inl (List.mem_of_getElem? (i := 0) rfl)))
   refine ownRet Xh26 Bd.notSynchronized (v := some (iV 1)) (fun h => by rw [Bd.returns] at h; cases h) ?_ (oLe rfl) (oLe rfl) (fun fs hr => retI Xh26 hx Bd.returns (D d16_25) hr)
   show (Q_cp5_4 Z a2 kC ta kb c0 c1 c2 c3 h0 n0) (some (iV 1)) T23.heap _
   rw [e23]
   exact ⟨_, rfl, Nh26, f30, Or.inr (Or.inr (Or.inl ⟨rfl, hc29⟩))⟩
  ·skip
   refine ownBy (A := T23.setTop (fr_cp5_4 m a2 ta 31 (vI 1) (vI 1) (vI 1) (vI c1) [(.int (c1.toInt8.toInt32)), (iV 1), (.ref ta)])) (fun t kt => ?_) ?_
   ·refine XS.icmpYes Xh26.here hx rfl (pc0 := 20) (pc' := 26) rfl (D d16_20) rfl (flt hc29).2.2.2 (by decide) (by decide) ?_
    refine XS.aloadN Xh26.here hx rfl (D d16_26) rfl rfl ?_
    refine XS.iloadN Xh26.here hx rfl (D d16_27) rfl ?_
    refine XS.iload Xh26.here hx rfl (D d16_28) rfl ?_
    show Steps p.tables e below (T23.setTop (fr_cp5_4 m a2 ta 30 (vI 1) (vI 1) (vI 1) (vI c1) [(.int c1), (iV 1), (.ref ta)])) t
    refine XS.i2b Xh26.here hx rfl (D d16_30) rfl ?_
    exact kt
   obtain ⟨cl31, Ar31, q31, S31, N31, H31, G31⟩ := id V24
   have hin31 : ¬ ((1 : Int32) < 0 ∨ cl31.slots.size ≤ ((1 : Int32)).toNatClampNeg) := inb_of S31 ⟨by decide, by decide⟩
   obtain ⟨T31, h31, X31, e31, W31, st31⟩ := stB Xh26 hx hZ e23 Ar31 (j := (1 : Int32)) hin31 (g := (fr_cp5_4 m a2 ta 31 (vI 1) (vI 1) (vI 1) (vI c1) [(.int (c1.toInt8.toInt32)), (iV 1), (.ref ta)])) rfl rfl (D d16_31)
   have V32 : Arv Z h31 ta kb .byte (4 : Int32) [(.int (oL c0)), (.int (nar .byte (c1.toInt8.toInt32))), (iV 0), (iV 0)] (iV 0) := Arv.set Ar31 q31 S31 N31 H31 G31 (fits_nar_byte _) W31 1 rfl (oLe rfl)
   rw [own_nar_byte c1] at V32
   clear hin31 G31 H31 N31 S31 q31 Ar31 cl31 V24
   have N33 := Fr.snoc X31 Nh26 gt
   obtain ⟨Lh34, Xh34, Nh34⟩ := oHd 0 0 X31 N33 rfl rfl
   refine ownBy st31 ?_
   clear st31
   show ownG p.tables e below _ (T31.setTop (fr_cp5_4 m a2 ta 32 (vI 1) (vI 1) (vI 1) (vI c1) []))
   refine ownBy (A := T31.setTop (fr_cp5_4 m a2 ta 12 (vI 2) (vI 2) (vI 2) (vI c1) [(iV 2), (.ref a2)])) (fun t kt => ?_) ?_
   ·refine XS.iinc Xh34.here hx rfl (D d16_32) rfl (l' := #[vR a2, vI 2, vR ta, vI 1, vI 4, vI 1, vI c1]) rfl ?_
    refine XS.iinc Xh34.here hx rfl (D d16_35) rfl (l' := #[vR a2, vI 2, vR ta, vI 2, vI 4, vI 1, vI c1]) rfl ?_
    refine XS.iinc Xh34.here hx rfl (D d16_38) rfl (l' := #[vR a2, vI 2, vR ta, vI 2, vI 4, vI 2, vI c1]) rfl ?_
    refine XS.goto Xh34.here hx rfl (pc0 := 41) (pc' := 3) rfl (D d16_41) (by decide) (by decide) ?_
    show Steps p.tables e below (T31.setTop (fr_cp5_4 m a2 ta 3 (vI 2) (vI 2) (vI 2) (vI c1) [])) t
    refine XS.iload Xh34.here hx rfl (D d16_3) rfl ?_
    refine XS.iload Xh34.here hx rfl (D d16_5) rfl ?_
    refine XS.icmpNo Xh34.here hx rfl (D d16_7) rfl (tlt ((by decide) : (2 : Int32) < (4 : Int32))).2.1 ?_
    refine XS.aloadN Xh34.here hx rfl (D d16_10) rfl rfl ?_
    show Steps p.tables e below (T31.setTop (fr_cp5_4 m a2 ta 11 (vI 2) (vI 2) (vI 2) (vI c1) [(.ref a2)])) t
    refine XS.iloadN Xh34.here hx rfl (D d16_11) rfl ?_
    exact kt
   have f35 := (f27.other W31 ne1)
   obtain ⟨cl36, Ar36, q36, S36, N36, H36, G36⟩ := id f35
   have hin36 : ¬ ((2 : Int32) < 0 ∨ cl36.slots.size ≤ ((2 : Int32)).toNatClampNeg) := inb_of S36 ⟨by decide, by decide⟩
   have hat36 : cl36.slots[((2 : Int32)).toNatClampNeg]? = some (.int c2) := H36.at hin36 rfl
   have st36 := Xh34.caload hx (j := (2 : Int32)) (v := (.int c2)) (by rw [e31]; exact Ar36.1) (State.isArrayOf_alike hZ.alike Ar36.2.1) Ar36.2.2 hin36 hat36 (g := (fr_cp5_4 m a2 ta 12 (vI 2) (vI 2) (vI 2) (vI c1) [(iV 2), (.ref a2)])) rfl rfl (D d16_12)
   refine ownBy st36 ?_
   show ownG p.tables e below _ (T31.setTop (fr_cp5_4 m a2 ta 13 (vI 2) (vI 2) (vI 2) (vI c1) [(.int c2)]))
   refine ownBy (A := T31.setTop (fr_cp5_4 m a2 ta 20 (vI 2) (vI 2) (vI 2) (vI c2) [(iV 255), (.int c2)])) (fun t kt => ?_) ?_
   ·refine XS.istore Xh34.here hx rfl (D d16_13) rfl (l' := #[vR a2, vI 2, vR ta, vI 2, vI 4, vI 2, vI c2]) rfl ?_
    refine XS.iload Xh34.here hx rfl (D d16_15) rfl ?_
    refine XS.sipush Xh34.here hx rfl (D d16_17) ?_
    exact kt
   by_cases hc37 : (255 : Int32) < c2
   ·skip
    refine ownBy (A := T31.setTop (fr_cp5_4 m a2 ta 25 (vI 2) (vI 2) (vI 2) (vI c2) [(iV 2)])) (fun t kt => ?_) ?_
    ·refine XS.icmpNo Xh34.here hx rfl (D d16_20) rfl (tlt hc37).2.2.2 ?_
     refine XS.iload Xh34.here hx rfl (D d16_23) rfl ?_
     exact kt
    have f38 := (((Keep.refl h0 [ta]).wr W23 (Or.inl (List.mem_of_getElem? (i := 0) rfl))).wr W31 (Or.inl (List.mem_of_getElem? (i := 0) rfl)))
    refine ownRet Xh34 Bd.notSynchronized (v := some (iV 2)) (fun h => by rw [Bd.returns] at h; cases h) ?_ (oLe rfl) (oLe rfl) (fun fs hr => retI Xh34 hx Bd.returns (D d16_25) hr)
    show (Q_cp5_4 Z a2 kC ta kb c0 c1 c2 c3 h0 n0) (some (iV 2)) T31.heap _
    rw [e31]
    exact ⟨_, rfl, Nh34, f38, Or.inr (Or.inr (Or.inr (Or.inl ⟨rfl, hc37⟩)))⟩
   ·skip
    refine ownBy (A := T31.setTop (fr_cp5_4 m a2 ta 31 (vI 2) (vI 2) (vI 2) (vI c2) [(.int (c2.toInt8.toInt32)), (iV 2), (.ref ta)])) (fun t kt => ?_) ?_
    ·refine XS.icmpYes Xh34.here hx rfl (pc0 := 20) (pc' := 26) rfl (D d16_20) rfl (flt hc37).2.2.2 (by decide) (by decide) ?_
     refine XS.aloadN Xh34.here hx rfl (D d16_26) rfl rfl ?_
     refine XS.iloadN Xh34.here hx rfl (D d16_27) rfl ?_
     refine XS.iload Xh34.here hx rfl (D d16_28) rfl ?_
     show Steps p.tables e below (T31.setTop (fr_cp5_4 m a2 ta 30 (vI 2) (vI 2) (vI 2) (vI c2) [(.int c2), (iV 2), (.ref ta)])) t
     refine XS.i2b Xh34.here hx rfl (D d16_30) rfl ?_
     exact kt
    obtain ⟨cl39, Ar39, q39, S39, N39, H39, G39⟩ := id V32
    have hin39 : ¬ ((2 : Int32) < 0 ∨ cl39.slots.size ≤ ((2 : Int32)).toNatClampNeg) := inb_of S39 ⟨by decide, by decide⟩
    obtain ⟨T39, h39, X39, e39, W39, st39⟩ := stB Xh34 hx hZ e31 Ar39 (j := (2 : Int32)) hin39 (g := (fr_cp5_4 m a2 ta 31 (vI 2) (vI 2) (vI 2) (vI c2) [(.int (c2.toInt8.toInt32)), (iV 2), (.ref ta)])) rfl rfl (D d16_31)
    have V40 : Arv Z h39 ta kb .byte (4 : Int32) [(.int (oL c0)), (.int (oL c1)), (.int (nar .byte (c2.toInt8.toInt32))), (iV 0)] (iV 0) := Arv.set Ar39 q39 S39 N39 H39 G39 (fits_nar_byte _) W39 2 rfl (oLe rfl)
    rw [own_nar_byte c2] at V40
    clear hin39 G39 H39 N39 S39 q39 Ar39 cl39 V32
    have N41 := Fr.snoc X39 Nh34 gt
    obtain ⟨Lh42, Xh42, Nh42⟩ := oHd 0 0 X39 N41 rfl rfl
    refine ownBy st39 ?_
    clear st39
    show ownG p.tables e below _ (T39.setTop (fr_cp5_4 m a2 ta 32 (vI 2) (vI 2) (vI 2) (vI c2) []))
    refine ownBy (A := T39.setTop (fr_cp5_4 m a2 ta 12 (vI 3) (vI 3) (vI 3) (vI c2) [(iV 3), (.ref a2)])) (fun t kt => ?_) ?_
    ·refine XS.iinc Xh42.here hx rfl (D d16_32) rfl (l' := #[vR a2, vI 3, vR ta, vI 2, vI 4, vI 2, vI c2]) rfl ?_
     refine XS.iinc Xh42.here hx rfl (D d16_35) rfl (l' := #[vR a2, vI 3, vR ta, vI 3, vI 4, vI 2, vI c2]) rfl ?_
     refine XS.iinc Xh42.here hx rfl (D d16_38) rfl (l' := #[vR a2, vI 3, vR ta, vI 3, vI 4, vI 3, vI c2]) rfl ?_
     refine XS.goto Xh42.here hx rfl (pc0 := 41) (pc' := 3) rfl (D d16_41) (by decide) (by decide) ?_
     show Steps p.tables e below (T39.setTop (fr_cp5_4 m a2 ta 3 (vI 3) (vI 3) (vI 3) (vI c2) [])) t
     refine XS.iload Xh42.here hx rfl (D d16_3) rfl ?_
     refine XS.iload Xh42.here hx rfl (D d16_5) rfl ?_
     refine XS.icmpNo Xh42.here hx rfl (D d16_7) rfl (tlt ((by decide) : (3 : Int32) < (4 : Int32))).2.1 ?_
     refine XS.aloadN Xh42.here hx rfl (D d16_10) rfl rfl ?_
     show Steps p.tables e below (T39.setTop (fr_cp5_4 m a2 ta 11 (vI 3) (vI 3) (vI 3) (vI c2) [(.ref a2)])) t
     refine XS.iloadN Xh42.here hx rfl (D d16_11) rfl ?_
     exact kt
    have f43 := (f35.other W39 ne1)
    obtain ⟨cl44, Ar44, q44, S44, N44, H44, G44⟩ := id f43
    have hin44 : ¬ ((3 : Int32) < 0 ∨ cl44.slots.size ≤ ((3 : Int32)).toNatClampNeg) := inb_of S44 ⟨by decide, by decide⟩
    have hat44 : cl44.slots[((3 : Int32)).toNatClampNeg]? = some (.int c3) := H44.at hin44 rfl
    have st44 := Xh42.caload hx (j := (3 : Int32)) (v := (.int c3)) (by rw [e39]; exact Ar44.1) (State.isArrayOf_alike hZ.alike Ar44.2.1) Ar44.2.2 hin44 hat44 (g := (fr_cp5_4 m a2 ta 12 (vI 3) (vI 3) (vI 3) (vI c2) [(iV 3), (.ref a2)])) rfl rfl (D d16_12)
    refine ownBy st44 ?_
    show ownG p.tables e below _ (T39.setTop (fr_cp5_4 m a2 ta 13 (vI 3) (vI 3) (vI 3) (vI c2) [(.int c3)]))
    refine ownBy (A := T39.setTop (fr_cp5_4 m a2 ta 20 (vI 3) (vI 3) (vI 3) (vI c3) [(iV 255), (.int c3)])) (fun t kt => ?_) ?_
    ·refine XS.istore Xh42.here hx rfl (D d16_13) rfl (l' := #[vR a2, vI 3, vR ta, vI 3, vI 4, vI 3, vI c3]) rfl ?_
     refine XS.iload Xh42.here hx rfl (D d16_15) rfl ?_
     refine XS.sipush Xh42.here hx rfl (D d16_17) ?_
     exact kt
    by_cases hc45 : (255 : Int32) < c3
    ·skip
     refine ownBy (A := T39.setTop (fr_cp5_4 m a2 ta 25 (vI 3) (vI 3) (vI 3) (vI c3) [(iV 3)])) (fun t kt => ?_) ?_
     ·refine XS.icmpNo Xh42.here hx rfl (D d16_20) rfl (tlt hc45).2.2.2 ?_
      refine XS.iload Xh42.here hx rfl (D d16_23) rfl ?_
      exact kt
     have f46 := ((((Keep.refl h0 [ta]).wr W23 (Or.inl (List.mem_of_getElem? (i := 0) rfl))).wr W31 (Or.inl (List.mem_of_getElem? (i := 0) rfl))).wr W39 (Or.inl (List.mem_of_getElem? (i := 0) rfl)))
     refine ownRet Xh42 Bd.notSynchronized (v := some (iV 3)) (fun h => by rw [Bd.returns] at h; cases h) ?_ (oLe rfl) (oLe rfl) (fun fs hr => retI Xh42 hx Bd.returns (D d16_25) hr)
     show (Q_cp5_4 Z a2 kC ta kb c0 c1 c2 c3 h0 n0) (some (iV 3)) T39.heap _
     rw [e39]
     exact ⟨_, rfl, Nh42, f46, Or.inr (Or.inr (Or.inr (Or.inr (⟨rfl, hc45⟩))))⟩
    ·skip
     refine ownBy (A := T39.setTop (fr_cp5_4 m a2 ta 31 (vI 3) (vI 3) (vI 3) (vI c3) [(.int (c3.toInt8.toInt32)), (iV 3), (.ref ta)])) (fun t kt => ?_) ?_
     ·refine XS.icmpYes Xh42.here hx rfl (pc0 := 20) (pc' := 26) rfl (D d16_20) rfl (flt hc45).2.2.2 (by decide) (by decide) ?_
      refine XS.aloadN Xh42.here hx rfl (D d16_26) rfl rfl ?_
      refine XS.iloadN Xh42.here hx rfl (D d16_27) rfl ?_
      refine XS.iload Xh42.here hx rfl (D d16_28) rfl ?_
      show Steps p.tables e below (T39.setTop (fr_cp5_4 m a2 ta 30 (vI 3) (vI 3) (vI 3) (vI c3) [(.int c3), (iV 3), (.ref ta)])) t
      refine XS.i2b Xh42.here hx rfl (D d16_30) rfl ?_
      exact kt
     obtain ⟨cl47, Ar47, q47, S47, N47, H47, G47⟩ := id V40
     have hin47 : ¬ ((3 : Int32) < 0 ∨ cl47.slots.size ≤ ((3 : Int32)).toNatClampNeg) := inb_of S47 ⟨by decide, by decide⟩
     obtain ⟨T47, h47, X47, e47, W47, st47⟩ := stB Xh42 hx hZ e39 Ar47 (j := (3 : Int32)) hin47 (g := (fr_cp5_4 m a2 ta 31 (vI 3) (vI 3) (vI 3) (vI c3) [(.int (c3.toInt8.toInt32)), (iV 3), (.ref ta)])) rfl rfl (D d16_31)
     have V48 : Arv Z h47 ta kb .byte (4 : Int32) [(.int (oL c0)), (.int (oL c1)), (.int (oL c2)), (.int (nar .byte (c3.toInt8.toInt32)))] (iV 0) := Arv.set Ar47 q47 S47 N47 H47 G47 (fits_nar_byte _) W47 3 rfl (oLe rfl)
     rw [own_nar_byte c3] at V48
     clear hin47 G47 H47 N47 S47 q47 Ar47 cl47 V40
     have N49 := Fr.snoc X47 Nh42 gt
     obtain ⟨Lh50, Xh50, Nh50⟩ := oHd 0 0 X47 N49 rfl rfl
     refine ownBy st47 ?_
     clear st47
     show ownG p.tables e below _ (T47.setTop (fr_cp5_4 m a2 ta 32 (vI 3) (vI 3) (vI 3) (vI c3) []))
     refine ownBy (A := T47.setTop (fr_cp5_4 m a2 ta 46 (vI 4) (vI 4) (vI 4) (vI c3) [(iV 4)])) (fun t kt => ?_) ?_
     ·refine XS.iinc Xh50.here hx rfl (D d16_32) rfl (l' := #[vR a2, vI 4, vR ta, vI 3, vI 4, vI 3, vI c3]) rfl ?_
      refine XS.iinc Xh50.here hx rfl (D d16_35) rfl (l' := #[vR a2, vI 4, vR ta, vI 4, vI 4, vI 3, vI c3]) rfl ?_
      refine XS.iinc Xh50.here hx rfl (D d16_38) rfl (l' := #[vR a2, vI 4, vR ta, vI 4, vI 4, vI 4, vI c3]) rfl ?_
      refine XS.goto Xh50.here hx rfl (pc0 := 41) (pc' := 3) rfl (D d16_41) (by decide) (by decide) ?_
      show Steps p.tables e below (T47.setTop (fr_cp5_4 m a2 ta 3 (vI 4) (vI 4) (vI 4) (vI c3) [])) t
      refine XS.iload Xh50.here hx rfl (D d16_3) rfl ?_
      refine XS.iload Xh50.here hx rfl (D d16_5) rfl ?_
      refine XS.icmpYes Xh50.here hx rfl (pc0 := 7) (pc' := 44) rfl (D d16_7) rfl (flt ((by decide) : ¬ ((4 : Int32) < (4 : Int32)))).2.1 (by decide) (by decide) ?_
      refine XS.iload Xh50.here hx rfl (D d16_44) rfl ?_
      exact kt
     have f51 := (((((Keep.refl h0 [ta]).wr W23 (Or.inl (List.mem_of_getElem? (i := 0) rfl))).wr W31 (Or.inl (List.mem_of_getElem? (i := 0) rfl))).wr W39 (Or.inl (List.mem_of_getElem? (i := 0) rfl))).wr W47 (Or.inl (List.mem_of_getElem? (i := 0) rfl)))
     refine ownRet Xh50 Bd.notSynchronized (v := some (iV 4)) (fun h => by rw [Bd.returns] at h; cases h) ?_ (oLe rfl) (oLe rfl) (fun fs hr => retI Xh50 hx Bd.returns (D d16_46) hr)
     show (Q_cp5_4 Z a2 kC ta kb c0 c1 c2 c3 h0 n0) (some (iV 4)) T47.heap _
     rw [e47]
     exact ⟨_, rfl, Nh50, f51, Or.inl ⟨rfl, hc22, hc29, hc37, hc45, V48⟩⟩
abbrev fr_cp3_4 (m : MethodId) (a2 : Addr) (pc : Nat) (x3_ x4_ x5_ : Slot) (st : List Value) : JFrame := mkF m pc #[vR a2, vI 0, vI 4, x3_, x4_, x5_] st
def Q_cp3_4 (Z : State) (a2 : Addr) (kC : ClassId) (c0 : Int32) (c1 : Int32) (c2 : Int32) (c3 : Int32) (h0 : Heap) (n0 : Nat) (v : Option Value) (h : Heap) (L : List Loc) : Prop := ∃ (ta : Addr) (kb : ClassId), v = some (.ref ta) ∧ Fr n0 L ∧ Keep h0 h [] ∧ h0.size ≤ ta ∧ ((¬ ((255 : Int32) < c0) ∧ ¬ ((255 : Int32) < c1) ∧ ¬ ((255 : Int32) < c2) ∧ ¬ ((255 : Int32) < c3) ∧ Arv Z h ta kb .byte (4 : Int32) [(.int (oL c0)), (.int (oL c1)), (.int (oL c2)), (.int (oL c3))] (iV 0)) ∨ (((255 : Int32) < c0 ∨ (255 : Int32) < c1 ∨ (255 : Int32) < c2 ∨ (255 : Int32) < c3) ∧ Arv Z h ta kb .byte (8 : Int32) [(.int (oW c0)), (.int (oH c0)), (.int (oW c1)), (.int (oH c1)), (.int (oW c2)), (.int (oH c2)), (.int (oW c3)), (.int (oH c3))] (iV 0)))
theorem ef_cp3_4 (m : MethodId) (x0 : Addr) (x1 : Int32) (x2 : Int32)  : entryFrame m #[(.ref x0), (.int x1), (.int x2)] 6 = mkF m 0 #[vR x0, vI x1, vI x2, .unset, .unset, .unset] [] := by first | (simp [entryFrame, mkF, argsToLocals, Value.category]; done) | rfl
set_option maxRecDepth 65536 in
set_option maxHeartbeats 40000000 in
theorem c_cp3_4 (l : Launch) (Z : State) (a0 : Array Value) (hw : ∀ d ∈ tables_1, d.before a0 Z = true) (ws : List Jvm.Cond) (a2 : Addr) (kC : ClassId) (c0 : Int32) (c1 : Int32) (c2 : Int32) (c3 : Int32) (h0 : Heap) (n0 : Nat) (Z0 : n0 ≤ h0.size) (A2 : Arv Z h0 a2 kC .char (4 : Int32) [(.int c0), (.int c1), (.int c2), (.int c3)] (iV 0)) (hc0 : ¬ c0 < 0 ∧ ¬ (65535 : Int32) < c0) (hc1 : ¬ c1 < 0 ∧ ¬ (65535 : Int32) < c1) (hc2 : ¬ c2 < 0 ∧ ¬ (65535 : Int32) < c2) (hc3 : ¬ c3 < 0 ∧ ¬ (65535 : Int32) < c3) (SA : Sta Z Z.heap "java/lang/StringUTF16" "$assertionsDisabled" "Z" (iV 1)) (SHI : Sta Z Z.heap "java/lang/StringUTF16" "HI_BYTE_SHIFT" "I" (iV 0)) (SLO : Sta Z Z.heap "java/lang/StringUTF16" "LO_BYTE_SHIFT" "I" (iV 8)) (X00 : Old Z n0 h0) :
  MetFree l yM9 (head1 (Jvm.Cond.code yM9 jdk_52_method_16_code 6 (some (.array .byte)) :: ws) ({ frames := 3, cells := 2, slots := 12, locals := 40 } : Room)) (fun a U => a = #[(.ref a2), (iV 0), (iV 4)] ∧ Z.Warmed39 U.vm ∧ U.heap = h0) (fun _ _ _ _ _ => True) (fun _ U o U' => ∃ v L, o = .returned v ∧ (Q_cp3_4 Z a2 kC c0 c1 c2 c3 h0 n0) v U'.heap L ∧ FrameEnd U o U' L ({ frames := 3, cells := 2, slots := 12, locals := 40 } : Room).cells ({ frames := 3, cells := 2, slots := 12, locals := 40 } : Room).slots) := by
 refine MetFree.of_bodySF (plainFor_of_name pn_3) hisR ?_
 intro p e s m args below meth c s₁ Bd hml0 hP hK
 obtain ⟨rfl, hZ, hHp⟩ := hP
 have hx := Bd.exec
 have D := fun {pc : Nat} {r} (h : decode _ pc = r) => hb Bd.bytes h
 have hml : c.maxLocals = 6 := hml0
 have hown : s.vm.findClass "java/lang/StringUTF16" = some m.cls := findClass_of_methodNamed Bd.named
 have hnm := (name_of_methodNamed Bd.named Bd.method).1
 have X0 : Stand p l e ({ frames := 3, cells := 2, slots := 12, locals := 40 } : Room) s m #[(.ref a2), (iV 0), (iV 4)] below meth c s₁ [] 0 0 := Stand.of_body Bd
 have e0 : s₁.heap = h0 := by rw [← hHp, Bd.state]; rfl
 have N0 := Fr.nil n0
 refine ownOut (P := (Q_cp3_4 Z a2 kC c0 c1 c2 c3 h0 n0)) ?_
 refine ownBy (A := s₁.setTop (mkF m 0 #[vR a2, vI 0, vI 4, .unset, .unset, .unset] [])) (fun t k => castTop (ef_cp3_4 m a2 (0 : Int32) (4 : Int32)) k) ?_
 refine ownBy (A := s₁.setTop (fr_cp3_4 m a2 1 .unset .unset .unset [(iV 4)])) (fun t kt => ?_) ?_
 ·refine XS.iloadN X0.here hx rfl (D d15_0) rfl ?_
  exact kt
 obtain ⟨T21, h21, k21, X21, e21, E21, A21, st21⟩ := newP X0 hx hZ (aty := .byte) (Wd21 hw) e0 (g := (fr_cp3_4 m a2 1 .unset .unset .unset [(iV 4)])) rfl (D d15_1) rfl (by decide : ¬ ((4 : Int32) < (0 : Int32))) (cap := 4) (by decide) (by decide) (by decide) (by decide)
 obtain ⟨b21, g21⟩ : ∃ z, z = h0.size := ⟨_, rfl⟩
 rw [← g21] at A21 st21
 have ne22 : a2 ≠ b21 := Nat.ne_of_lt (Nat.lt_of_lt_of_le A2.lt (Nat.le_of_eq g21.symm))
 have g23 : n0 ≤ b21 := Nat.le_trans Z0 (Nat.le_of_eq g21.symm)
 have z24 : h0.size ≤ b21 := Nat.le_trans (Nat.le_refl h0.size) (Nat.le_of_eq g21.symm)
 have V25 : Arv Z h21 b21 k21 .byte (4 : Int32) [(iV 0), (iV 0), (iV 0), (iV 0)] (iV 0) := (Arv.new A21 (by decide)).pad (pad_rep [] (iV 0) 4)
 refine ownBy st21 ?_
 clear st21
 show ownG p.tables e below _ (T21.setTop (fr_cp3_4 m a2 3 .unset .unset .unset [(.ref b21)]))
 refine ownBy (A := T21.setTop (fr_cp3_4 m a2 9 (vR b21) .unset .unset [(iV 4), (iV 0), (.ref b21), (iV 0), (.ref a2)])) (fun t kt => ?_) ?_
 ·refine XS.astoreN X21.here hx rfl (D d15_3) rfl rfl (l' := #[vR a2, vI 0, vI 4, vR b21, .unset, .unset]) rfl ?_
  refine XS.aloadN X21.here hx rfl (D d15_4) rfl rfl ?_
  refine XS.iloadN X21.here hx rfl (D d15_5) rfl ?_
  refine XS.aloadN X21.here hx rfl (D d15_6) rfl rfl ?_
  show Steps p.tables e below (T21.setTop (fr_cp3_4 m a2 7 (vR b21) .unset .unset [(.ref b21), (iV 0), (.ref a2)])) t
  refine XS.iconst X21.here hx rfl (D d15_7) ?_
  refine XS.iloadN X21.here hx rfl (D d15_8) rfl ?_
  exact kt
 have f26 := (A2.ext E21)
 have f27 := (Nat.le_trans Z0 E21.1)
 obtain ⟨vv28, _, ⟨T28, L28, k28, n28⟩, -, X28, ⟨Lc28, hQ28, l28, y28, z28⟩, st28⟩ := Jvm.LawKit.callS X21 hx (y := yM8) hown (mvT hZ (Wd76 hw)) (mvT hZ (Wd77 hw)) (mvT hZ (Wd74 hw)) (mvT hZ (Wd78 hw)) (by decide) (backOf (W := 0) (c_cp5_4 l Z a0 hw [] a2 kC b21 k21 c0 c1 c2 c3 h21 n0 f27 f26 V25 g23 ne22) hZ (Wd78 hw) (Wd74 hw) (by decide) (by decide)) (g := (fr_cp3_4 m a2 9 (vR b21) .unset .unset [(iV 4), (iV 0), (.ref b21), (iV 0), (.ref a2)])) rfl (by rw [hml]; rfl) (argsL := [(.ref a2), (iV 0), (.ref b21), (iV 0), (iV 4)]) (rest := []) (lenOf pd_7 rfl) rfl (by show 2 * 0 + _ ≤ _; exact Nat.le_of_eq rfl) (D d15_9) (fun _ _ => ⟨rfl, e21, (by decide : 1 + 0 ≤ _), (by decide : 4 + 0 ≤ _)⟩)
 dsimp only [Pt.U, Pt.locs, Pt.cells, Pt.slots] at X28 l28 y28 z28 st28 hQ28
 subst l28 y28 z28
 obtain ⟨r28, rfl, Nq28, Kq28, hB28⟩ := hQ28
 rcases hB28 with ⟨rfl, hn28_0, hn28_1, hn28_2, hn28_3, Aq28⟩ | hF
 ·skip
  have N29 := Fr.app N0 Nq28
  obtain ⟨Lh30, Xh30, Nh30⟩ := oHd 1 4 X28 N29 rfl rfl
  refine ownBy st28 ?_
  clear st28
  show ownG p.tables e below _ (T28.setTop (fr_cp3_4 m a2 12 (vR b21) .unset .unset [(iV 4)]))
  refine ownBy (A := T28.setTop (fr_cp3_4 m a2 58 (vR b21) (vI 4) .unset [(.ref b21)])) (fun t kt => ?_) ?_
  ·refine XS.istore Xh30.here hx rfl (D d15_12) rfl (l' := #[vR a2, vI 0, vI 4, vR b21, vI 4, .unset]) rfl ?_
   refine XS.iload Xh30.here hx rfl (D d15_14) rfl ?_
   refine XS.iloadN Xh30.here hx rfl (D d15_16) rfl ?_
   refine XS.icmpYes Xh30.here hx rfl (pc0 := 17) (pc' := 57) rfl (D d15_17) rfl (teq ((by decide) : (4 : Int32) = (4 : Int32))).1 (by decide) (by decide) ?_
   show Steps p.tables e below (T28.setTop (fr_cp3_4 m a2 57 (vR b21) (vI 4) .unset [])) t
   refine XS.aloadN Xh30.here hx rfl (D d15_57) rfl rfl ?_
   exact kt
  have f31 := (((Keep.refl h0 []).ext E21).trans Kq28 (allS (Or.inr z24) all0))
  refine ownRet Xh30 Bd.notSynchronized (v := some (.ref b21)) (fun h => by rw [Bd.returns] at h; cases h) ?_ (oLe rfl) (oLe rfl) (fun fs hr => retOut Xh30 hx Bd.returns rfl (Or.inr (Or.inr (Or.inr (Or.inr ⟨rfl, rfl, rfl⟩)))) (D d15_58) hr)
  show (Q_cp3_4 Z a2 kC c0 c1 c2 c3 h0 n0) (some (.ref b21)) T28.heap _
  exact ⟨b21, k21, rfl, Nh30, f31, z24, Or.inl ⟨hn28_0, hn28_1, hn28_2, hn28_3, Aq28⟩⟩
 ·skip
  have N32 := Fr.app N0 Nq28
  obtain ⟨Lh33, Xh33, Nh33⟩ := oHd 1 4 X28 N32 rfl rfl
  refine ownBy st28 ?_
  clear st28
  show ownG p.tables e below _ (T28.setTop (fr_cp3_4 m a2 12 (vR b21) .unset .unset [(.int r28)]))
  have hr : ¬ (r28 = (4 : Int32)) := by
   rcases hF with ⟨rfl, -⟩ | ⟨rfl, -⟩ | ⟨rfl, -⟩ | ⟨rfl, -⟩ <;> decide
  refine ownBy (A := T28.setTop (fr_cp3_4 m a2 23 (vR b21) (vI r28) .unset [(iV 4), (iV 0), (.ref a2)])) (fun t kt => ?_) ?_
  ·refine XS.istore Xh33.here hx rfl (D d15_12) rfl (l' := #[vR a2, vI 0, vI 4, vR b21, vI r28, .unset]) rfl ?_
   refine XS.iload Xh33.here hx rfl (D d15_14) rfl ?_
   refine XS.iloadN Xh33.here hx rfl (D d15_16) rfl ?_
   refine XS.icmpNo Xh33.here hx rfl (D d15_17) rfl (feq hr).1 ?_
   show Steps p.tables e below (T28.setTop (fr_cp3_4 m a2 20 (vR b21) (vI r28) .unset [])) t
   refine XS.aloadN Xh33.here hx rfl (D d15_20) rfl rfl ?_
   refine XS.iloadN Xh33.here hx rfl (D d15_21) rfl ?_
   refine XS.iloadN Xh33.here hx rfl (D d15_22) rfl ?_
   exact kt
  have f34 := (f26.keep Kq28 (ninS ne22 nin0))
  have f35 := ((X00.ext E21).keep Kq28 (allS g23 all0))
  have f36 := (Nat.le_trans f27 Kq28.1)
  obtain ⟨vv37, _, ⟨T37, L37, k37, n37⟩, -, X37, ⟨Lc37, hQ37, l37, y37, z37⟩, st37⟩ := Jvm.LawKit.callS Xh33 hx (y := yM7) hown (mvT hZ (Wd85 hw)) (mvT hZ (Wd86 hw)) (mvT hZ (Wd74 hw)) (mvT hZ (Wd87 hw)) (by decide) (backOf (W := 0) (c_tob4 l Z a0 hw [] a2 kC c0 c1 c2 c3 T28.heap n0 f36 f34 SA SHI SLO f35) hZ (Wd87 hw) (Wd74 hw) (by decide) (by decide)) (g := (fr_cp3_4 m a2 23 (vR b21) (vI r28) .unset [(iV 4), (iV 0), (.ref a2)])) rfl (by rw [hml]; rfl) (argsL := [(.ref a2), (iV 0), (iV 4)]) (rest := []) (lenOf pd_8 rfl) rfl (by show 2 * 0 + _ ≤ _; exact Nat.le_of_eq rfl) (D d15_23) (fun _ _ => ⟨rfl, rfl, (by decide : 1 + 1 ≤ _), (by decide : 4 + 8 ≤ _)⟩)
  dsimp only [Pt.U, Pt.locs, Pt.cells, Pt.slots] at X37 l37 y37 z37 st37 hQ37
  subst l37 y37 z37
  obtain ⟨t37, kb37, rfl, Nq37, Kq37, zq37, Aq37⟩ := hQ37
  have ne38 : a2 ≠ t37 := Nat.ne_of_lt (Nat.lt_of_lt_of_le f34.lt zq37)
  have g39 : n0 ≤ t37 := Nat.le_trans f36 zq37
  have f41 := (Nat.le_trans (Nat.le_trans (Nat.le_refl h0.size) E21.1) Kq28.1)
  have z40 : h0.size ≤ t37 := Nat.le_trans f41 zq37
  have N42 := Fr.app Nh33 Nq37
  obtain ⟨Lh43, Xh43, Nh43⟩ := oHd 2 12 X37 N42 rfl rfl
  refine ownBy st37 ?_
  clear st37
  show ownG p.tables e below _ (T37.setTop (fr_cp3_4 m a2 26 (vR b21) (vI r28) .unset [(.ref t37)]))
  refine ownBy (A := T37.setTop (fr_cp3_4 m a2 32 (vR b21) (vI r28) (vR t37) [(.int r28), (.ref t37)])) (fun t kt => ?_) ?_
  ·refine XS.astore Xh43.here hx rfl (D d15_26) rfl rfl (l' := #[vR a2, vI 0, vI 4, vR b21, vI r28, vR t37]) rfl ?_
   refine XS.aload Xh43.here hx rfl (D d15_28) rfl rfl ?_
   refine XS.iload Xh43.here hx rfl (D d15_30) rfl ?_
   exact kt
  obtain ⟨cM, kM, q0, q1, k0, k1, u0, u1, hcM, hgM⟩ : ∃ (cM : Int32) (kM : Nat), (¬ (r28 <<< ((1 : Int32) &&& 31)) < 0 ∧ (r28 <<< ((1 : Int32) &&& 31)) < (8 : Int32)) ∧ (¬ ((r28 <<< ((1 : Int32) &&& 31)) + (1 : Int32)) < 0 ∧ ((r28 <<< ((1 : Int32) &&& 31)) + (1 : Int32)) < (8 : Int32)) ∧ (r28 <<< ((1 : Int32) &&& 31)).toNatClampNeg = kM ∧ ((r28 <<< ((1 : Int32) &&& 31)) + (1 : Int32)).toNatClampNeg = kM + 1 ∧ ([(.int (oW c0)), (.int (oH c0)), (.int (oW c1)), (.int (oH c1)), (.int (oW c2)), (.int (oH c2)), (.int (oW c3)), (.int (oH c3))] : List Value).getD kM (iV 0) = .int (oW cM) ∧ ([(.int (oW c0)), (.int (oH c0)), (.int (oW c1)), (.int (oH c1)), (.int (oW c2)), (.int (oH c2)), (.int (oW c3)), (.int (oH c3))] : List Value).getD (kM + 1) (iV 0) = .int (oH cM) ∧ (¬ cM < 0 ∧ ¬ (65535 : Int32) < cM) ∧ (255 : Int32) < cM := by
   rcases hF with ⟨rfl, h⟩ | ⟨rfl, h⟩ | ⟨rfl, h⟩ | ⟨rfl, h⟩
   ·exact ⟨c0, 0, by decide +kernel, by decide +kernel, by decide +kernel, by decide +kernel, rfl, rfl, hc0, h⟩
   ·exact ⟨c1, 2, by decide +kernel, by decide +kernel, by decide +kernel, by decide +kernel, rfl, rfl, hc1, h⟩
   ·exact ⟨c2, 4, by decide +kernel, by decide +kernel, by decide +kernel, by decide +kernel, rfl, rfl, hc2, h⟩
   ·exact ⟨c3, 6, by decide +kernel, by decide +kernel, by decide +kernel, by decide +kernel, rfl, rfl, hc3, h⟩
  have f44 := (f35.keep Kq37 all0)
  have f45 := (Nat.le_trans f36 Kq37.1)
  obtain ⟨vv46, _, ⟨T46, L46, k46, n46⟩, -, X46, ⟨Lc46, hQ46, l46, y46, z46⟩, st46⟩ := Jvm.LawKit.callS Xh43 hx (y := yM5) hown (mvT hZ (Wd101 hw)) (mvT hZ (Wd102 hw)) (mvT hZ (Wd74 hw)) (mvT hZ (Wd103 hw)) (by decide) (backOf (W := 0) (c_getc l Z a0 hw [] t37 kb37 (8 : Int32) [(.int (oW c0)), (.int (oH c0)), (.int (oW c1)), (.int (oH c1)), (.int (oW c2)), (.int (oH c2)), (.int (oW c3)), (.int (oH c3))] r28 cM kM T37.heap n0 f45 Aq37 q0 q1 k0 k1 u0 u1 hcM SA SHI SLO f44) hZ (Wd103 hw) (Wd74 hw) (by decide) (by decide)) (g := (fr_cp3_4 m a2 32 (vR b21) (vI r28) (vR t37) [(.int r28), (.ref t37)])) rfl (by rw [hml]; rfl) (argsL := [(.ref t37), (.int r28)]) (rest := []) (lenOf pd_9 rfl) rfl (by show 2 * 0 + _ ≤ _; exact Nat.le_of_eq rfl) (D d15_32) (fun _ _ => ⟨rfl, rfl, (by decide : 2 + 0 ≤ _), (by decide : 12 + 0 ≤ _)⟩)
  dsimp only [Pt.U, Pt.locs, Pt.cells, Pt.slots] at X46 l46 y46 z46 st46 hQ46
  subst l46 y46 z46
  obtain ⟨rfl, Nq46, Eq46⟩ := hQ46
  have N47 := Fr.app Nh43 Nq46
  obtain ⟨Lh48, Xh48, Nh48⟩ := oHd 2 12 X46 N47 rfl rfl
  refine ownBy st46 ?_
  clear st46
  show ownG p.tables e below _ (T46.setTop (fr_cp3_4 m a2 35 (vR b21) (vI r28) (vR t37) [(.int cM)]))
  refine ownBy (A := T46.setTop (fr_cp3_4 m a2 56 (vR b21) (vI r28) (vR t37) [(.ref t37)])) (fun t kt => ?_) ?_
  ·refine XS.sipush Xh48.here hx rfl (D d15_35) ?_
   refine XS.icmpYes Xh48.here hx rfl (pc0 := 38) (pc' := 54) rfl (D d15_38) rfl (tlt hgM).2.2.1 (by decide) (by decide) ?_
   refine XS.aload Xh48.here hx rfl (D d15_54) rfl rfl ?_
   exact kt
  have hg3 : (255 : Int32) < c0 ∨ (255 : Int32) < c1 ∨ (255 : Int32) < c2 ∨ (255 : Int32) < c3 := by
   rcases hF with ⟨-, h⟩ | ⟨-, h⟩ | ⟨-, h⟩ | ⟨-, h⟩
   ·exact Or.inl h
   ·exact Or.inr (Or.inl h)
   ·exact Or.inr (Or.inr (Or.inl h))
   ·exact Or.inr (Or.inr (Or.inr (h)))
  have f49 := ((((Keep.refl h0 []).ext E21).trans Kq28 (allS (Or.inr z24) all0)).trans Kq37 all0)
  refine ownRet Xh48 Bd.notSynchronized (v := some (.ref t37)) (fun h => by rw [Bd.returns] at h; cases h) ?_ (oLe rfl) (oLe rfl) (fun fs hr => retOut Xh48 hx Bd.returns rfl (Or.inr (Or.inr (Or.inr (Or.inr ⟨rfl, rfl, rfl⟩)))) (D d15_56) hr)
  show (Q_cp3_4 Z a2 kC c0 c1 c2 c3 h0 n0) (some (.ref t37)) T46.heap _
  rw [Eq46]
  exact ⟨t37, kb37, rfl, Nh48, f49, z40, Or.inr ⟨hg3, Aq37⟩⟩
abbrev fr_ini4_4 (m : MethodId) (a1 : Addr) (a2 : Addr) (pc : Nat) (x5_ : Slot) (st : List Value) : JFrame := mkF m pc #[vR a1, vR a2, vI 0, vI 4, .val .null, x5_] st
def Q_ini4_4 (Z : State) (a1 : Addr) (a2 : Addr) (kC : ClassId) (c0 : Int32) (c1 : Int32) (c2 : Int32) (c3 : Int32) (c9 : Value) (G1 : Int32) (h0 : Heap) (n0 : Nat) (v : Option Value) (h : Heap) (L : List Loc) : Prop := v = none ∧ Fr n0 L ∧ Keep h0 h [a1] ∧ Exa Z h a1 "java/lang/String" ∧ ∃ (ta : Addr) (kb : ClassId) (cd z : Int32) (vs : List Value), h0.size ≤ ta ∧ Fld Z h a1 "java/lang/String" "value" "[B" (.ref ta) ∧ Fld Z h a1 "java/lang/String" "coder" "B" (.int cd) ∧ Arv Z h ta kb .byte z vs (iV 0) ∧ ((cd = (0 : Int32) ∧ z = (4 : Int32) ∧ vs = [(.int (oL c0)), (.int (oL c1)), (.int (oL c2)), (.int (oL c3))] ∧ ¬ ((255 : Int32) < c0) ∧ ¬ ((255 : Int32) < c1) ∧ ¬ ((255 : Int32) < c2) ∧ ¬ ((255 : Int32) < c3)) ∨ (cd = (1 : Int32) ∧ z = (8 : Int32) ∧ vs = [(.int (oW c0)), (.int (oH c0)), (.int (oW c1)), (.int (oH c1)), (.int (oW c2)), (.int (oH c2)), (.int (oW c3)), (.int (oH c3))] ∧ ((255 : Int32) < c0 ∨ (255 : Int32) < c1 ∨ (255 : Int32) < c2 ∨ (255 : Int32) < c3)))
theorem ef_ini4_4 (m : MethodId) (x0 : Addr) (x1 : Addr) (x2 : Int32) (x3 : Int32)  : entryFrame m #[(.ref x0), (.ref x1), (.int x2), (.int x3), .null] 6 = mkF m 0 #[vR x0, vR x1, vI x2, vI x3, .val .null, .unset] [] := by first | (simp [entryFrame, mkF, argsToLocals, Value.category]; done) | rfl
set_option maxRecDepth 65536 in
set_option maxHeartbeats 40000000 in
theorem c_ini4_4 (l : Launch) (Z : State) (a0 : Array Value) (hw : ∀ d ∈ tables_1, d.before a0 Z = true) (ws : List Jvm.Cond) (a1 : Addr) (a2 : Addr) (kC : ClassId) (c0 : Int32) (c1 : Int32) (c2 : Int32) (c3 : Int32) (c9 : Value) (G1 : Int32) (h0 : Heap) (n0 : Nat) (Z0 : n0 ≤ h0.size) (E1 : Exa Z h0 a1 "java/lang/String") (F1 : Fld Z h0 a1 "java/lang/String" "value" "[B" .null) (F2 : Fld Z h0 a1 "java/lang/String" "coder" "B" c9) (g1 : n0 ≤ a1) (ne1 : a1 ≠ a2) (A2 : Arv Z h0 a2 kC .char (4 : Int32) [(.int c0), (.int c1), (.int c2), (.int c3)] (iV 0)) (hc0 : ¬ c0 < 0 ∧ ¬ (65535 : Int32) < c0) (hc1 : ¬ c1 < 0 ∧ ¬ (65535 : Int32) < c1) (hc2 : ¬ c2 < 0 ∧ ¬ (65535 : Int32) < c2) (hc3 : ¬ c3 < 0 ∧ ¬ (65535 : Int32) < c3) (O2 : Sta Z Z.heap "java/lang/String" "COMPACT_STRINGS" "Z" (.int G1)) (P5 : ¬ (G1 = (0 : Int32))) (SA : Sta Z Z.heap "java/lang/StringUTF16" "$assertionsDisabled" "Z" (iV 1)) (SHI : Sta Z Z.heap "java/lang/StringUTF16" "HI_BYTE_SHIFT" "I" (iV 0)) (SLO : Sta Z Z.heap "java/lang/StringUTF16" "LO_BYTE_SHIFT" "I" (iV 8)) (X00 : Old Z n0 h0) :
  MetFree l yM0 (head1 (Jvm.Cond.code yM0 jdk_42_method_149_code 6 none :: ws) ({ frames := 4, cells := 2, slots := 12, locals := 58 } : Room)) (fun a U => a = #[(.ref a1), (.ref a2), (iV 0), (iV 4), .null] ∧ Z.Warmed39 U.vm ∧ U.heap = h0) (fun _ _ _ _ _ => True) (fun _ U o U' => ∃ v L, o = .returned v ∧ (Q_ini4_4 Z a1 a2 kC c0 c1 c2 c3 c9 G1 h0 n0) v U'.heap L ∧ FrameEnd U o U' L ({ frames := 4, cells := 2, slots := 12, locals := 58 } : Room).cells ({ frames := 4, cells := 2, slots := 12, locals := 58 } : Room).slots) := by
 refine MetFree.of_bodySF (plainFor_of_name pn_1) hisR ?_
 intro p e s m args below meth c s₁ Bd hml0 hP hK
 obtain ⟨rfl, hZ, hHp⟩ := hP
 have hx := Bd.exec
 have D := fun {pc : Nat} {r} (h : decode _ pc = r) => hb Bd.bytes h
 have hml : c.maxLocals = 6 := hml0
 have hown : s.vm.findClass "java/lang/String" = some m.cls := findClass_of_methodNamed Bd.named
 have hnm := (name_of_methodNamed Bd.named Bd.method).1
 have X0 : Stand p l e ({ frames := 4, cells := 2, slots := 12, locals := 58 } : Room) s m #[(.ref a1), (.ref a2), (iV 0), (iV 4), .null] below meth c s₁ [] 0 0 := Stand.of_body Bd
 have e0 : s₁.heap = h0 := by rw [← hHp, Bd.state]; rfl
 have N0 := Fr.nil n0
 refine ownOut (P := (Q_ini4_4 Z a1 a2 kC c0 c1 c2 c3 c9 G1 h0 n0)) ?_
 refine ownBy (A := s₁.setTop (mkF m 0 #[vR a1, vR a2, vI 0, vI 4, .val .null, .unset] [])) (fun t k => castTop (ef_ini4_4 m a1 a2 (0 : Int32) (4 : Int32)) k) ?_
 refine ownBy (A := s₁.setTop (fr_ini4_4 m a1 a2 1 .unset [(.ref a1)])) (fun t kt => ?_) ?_
 ·refine XS.aloadN X0.here hx rfl (D d3_0) rfl rfl ?_
  exact kt
 obtain ⟨T21, X21, e21, st21⟩ := initO X0 hx hZ hown (Wd17 hw) (Wd18 hw) (Wd19 hw) e0 (g := (fr_ini4_4 m a1 a2 1 .unset [(.ref a1)])) rfl (by rw [hml]; rfl) rfl (D d3_1) (by decide) (W := 0) (by show 2 * 0 + _ ≤ _; exact Nat.le_of_eq rfl) (by decide)
 refine ownBy st21 ?_
 clear st21
 show ownG p.tables e below _ (T21.setTop (fr_ini4_4 m a1 a2 4 .unset []))
 refine ownBy (A := T21.setTop (fr_ini4_4 m a1 a2 27 .unset [])) (fun t kt => ?_) ?_
 ·refine XS.iloadN X21.here hx rfl (D d3_4) rfl ?_
  refine XS.ifYes X21.here hx rfl (pc0 := 5) (pc' := 27) rfl (D d3_5) rfl ((if0 _ _).trans (feq ((by decide) : ¬ ((4 : Int32) = (0 : Int32)))).2) (by decide) (by decide) ?_
  exact kt
 obtain ⟨T22, X22, e22, st22⟩ := getS2 X21 hx hZ hown (host := "") (Or.inl (Wd47 hw)) Via.refl e21 (O2.ext X00.2) (g := (fr_ini4_4 m a1 a2 27 .unset [])) rfl (D d3_27)
 refine ownBy st22 ?_
 clear st22
 show ownG p.tables e below _ (T22.setTop (fr_ini4_4 m a1 a2 30 .unset [(.int G1)]))
 refine ownBy (A := T22.setTop (fr_ini4_4 m a1 a2 36 .unset [(iV 4), (iV 0), (.ref a2)])) (fun t kt => ?_) ?_
 ·refine XS.ifNo X22.here hx rfl (D d3_30) rfl ((if0 _ _).trans (feq P5).1) ?_
  refine XS.aloadN X22.here hx rfl (D d3_33) rfl rfl ?_
  refine XS.iloadN X22.here hx rfl (D d3_34) rfl ?_
  refine XS.iloadN X22.here hx rfl (D d3_35) rfl ?_
  exact kt
 obtain ⟨vv23, _, ⟨T23, L23, k23, n23⟩, -, X23, ⟨Lc23, hQ23, l23, y23, z23⟩, st23⟩ := Jvm.LawKit.callS X22 hx (y := yM9) hown (mvT hZ (Wd72 hw)) (mvT hZ (Wd73 hw)) (mvT hZ (Wd74 hw)) (mvT hZ (Wd75 hw)) (by decide) (backOf (W := 0) (c_cp3_4 l Z a0 hw [] a2 kC c0 c1 c2 c3 h0 n0 Z0 A2 hc0 hc1 hc2 hc3 SA SHI SLO X00) hZ (Wd75 hw) (Wd74 hw) (by decide) (by decide)) (g := (fr_ini4_4 m a1 a2 36 .unset [(iV 4), (iV 0), (.ref a2)])) rfl (by rw [hml]; rfl) (argsL := [(.ref a2), (iV 0), (iV 4)]) (rest := []) (lenOf pd_8 rfl) rfl (by show 2 * 0 + _ ≤ _; exact Nat.le_of_eq rfl) (D d3_36) (fun _ _ => ⟨rfl, e22, (by decide : 0 + 2 ≤ _), (by decide : 0 + 12 ≤ _)⟩)
 dsimp only [Pt.U, Pt.locs, Pt.cells, Pt.slots] at X23 l23 y23 z23 st23 hQ23
 subst l23 y23 z23
 obtain ⟨t23, kb23, rfl, Nq23, Kq23, zq23, hB23⟩ := hQ23
 have ne24 : a1 ≠ t23 := Nat.ne_of_lt (Nat.lt_of_lt_of_le E1.lt zq23)
 have ne25 : a2 ≠ t23 := Nat.ne_of_lt (Nat.lt_of_lt_of_le A2.lt zq23)
 have g26 : n0 ≤ t23 := Nat.le_trans Z0 zq23
 have z27 : h0.size ≤ t23 := Nat.le_trans (Nat.le_refl h0.size) zq23
 rcases hB23 with ⟨hn23_0, hn23_1, hn23_2, hn23_3, Aq23⟩ | ⟨hg23, Aq23⟩
 ·skip
  have N28 := Fr.app N0 Nq23
  obtain ⟨Lh29, Xh29, Nh29⟩ := oHd 2 12 X23 N28 rfl rfl
  refine ownBy st23 ?_
  clear st23
  show ownG p.tables e below _ (T23.setTop (fr_ini4_4 m a1 a2 39 .unset [(.ref t23)]))
  refine ownBy (A := T23.setTop (fr_ini4_4 m a1 a2 45 (vR t23) [(iV 4), (.ref t23), (.ref a1)])) (fun t kt => ?_) ?_
  ·refine XS.astore Xh29.here hx rfl (D d3_39) rfl rfl (l' := #[vR a1, vR a2, vI 0, vI 4, .val .null, vR t23]) rfl ?_
   refine XS.aloadN Xh29.here hx rfl (D d3_41) rfl rfl ?_
   refine XS.aload Xh29.here hx rfl (D d3_42) rfl rfl ?_
   refine XS.iloadN Xh29.here hx rfl (D d3_44) rfl ?_
   exact kt
  have f30 := (Nat.le_trans Z0 Kq23.1)
  obtain ⟨vv31, _, ⟨T31, L31, k31, n31⟩, -, X31, ⟨Lc31, hQ31, l31, y31, z31⟩, st31⟩ := Jvm.LawKit.callS Xh29 hx (y := yM4) hown (mvT hZ (Wd79 hw)) (mvT hZ (Wd80 hw)) (mvT hZ (Wd74 hw)) (mvT hZ (Wd81 hw)) (by decide) (backOf (W := 1) (c_cfa l Z a0 hw [] t23 kb23 (4 : Int32) _ (4 : Int32) (0 : Int32) T23.heap n0 f30 Aq23 (by decide +kernel)) hZ (Wd81 hw) (Wd74 hw) (by decide) (by decide)) (g := (fr_ini4_4 m a1 a2 45 (vR t23) [(iV 4), (.ref t23), (.ref a1)])) rfl (by rw [hml]; rfl) (argsL := [(.ref t23), (iV 4)]) (rest := [(.ref a1)]) (lenOf pd_10 rfl) rfl (by show 2 * 0 + _ ≤ _; exact Nat.le_of_eq rfl) (D d3_45) (fun _ _ => ⟨rfl, rfl, (by decide : 2 + 0 ≤ _), (by decide : 12 + 0 ≤ _)⟩)
  dsimp only [Pt.U, Pt.locs, Pt.cells, Pt.slots] at X31 l31 y31 z31 st31 hQ31
  subst l31 y31 z31
  obtain ⟨rfl, Nq31, Eq31⟩ := hQ31
  have N32 := Fr.app Nh29 Nq31
  obtain ⟨Lh33, Xh33, Nh33⟩ := oHd 2 12 X31 N32 rfl rfl
  refine ownBy st31 ?_
  clear st31
  show ownG p.tables e below _ (T31.setTop (fr_ini4_4 m a1 a2 48 (vR t23) [(iV 0), (.ref a1)]))
  have f35 := (F2.keep Kq23 nin0)
  have f36 := (E1.keep Kq23)
  obtain ⟨T34, h34, X34, e34, W34, st34⟩ := putFN Xh33 hx hZ hown (Wd27 hw) Via.refl Eq31 f35 f36 (Or.inr ⟨(Wd23 hw), rfl, hnm⟩) (Wd8 hw) (ty := .byte) (v' := (iV 0)) (by decide) rfl (fits_nar_byte (0 : Int32)) (g := (fr_ini4_4 m a1 a2 48 (vR t23) [(iV 0), (.ref a1)])) rfl rfl (D d3_48)
  have F37 := f35.same W34
  have N38 := Fr.snoc X34 Nh33 g1
  obtain ⟨Lh39, Xh39, Nh39⟩ := oHd 2 12 X34 N38 rfl rfl
  refine ownBy st34 ?_
  clear st34
  show ownG p.tables e below _ (T34.setTop (fr_ini4_4 m a1 a2 51 (vR t23) []))
  refine ownBy (A := T34.setTop (fr_ini4_4 m a1 a2 54 (vR t23) [(.ref t23), (.ref a1)])) (fun t kt => ?_) ?_
  ·refine XS.aloadN Xh39.here hx rfl (D d3_51) rfl rfl ?_
   refine XS.aload Xh39.here hx rfl (D d3_52) rfl rfl ?_
   exact kt
  have f41 := ((F1.keep Kq23 nin0).other W34 (Or.inr (slot_ne (Or.inr (Wd22 hw)) (Or.inr (Wd23 hw)) (by decide) (t := (.array .byte)) (t' := .byte) (by decide) (by decide))))
  have f42 := (f36.wr W34)
  obtain ⟨T40, h40, X40, e40, W40, st40⟩ := putF Xh39 hx hZ hown (host := "") (Or.inl (Wd26 hw)) Via.refl e34 f41 f42 (Or.inr ⟨(Wd22 hw), rfl, hnm⟩) (Wd8 hw) (ty := (.array .byte)) (by decide) rfl rfl (g := (fr_ini4_4 m a1 a2 54 (vR t23) [(.ref t23), (.ref a1)])) rfl rfl (D d3_54)
  have F43 := f41.same W40
  have N44 := Fr.snoc X40 Nh39 g1
  obtain ⟨Lh45, Xh45, Nh45⟩ := oHd 2 12 X40 N44 rfl rfl
  refine ownBy st40 ?_
  clear st40
  show ownG p.tables e below _ (T40.setTop (fr_ini4_4 m a1 a2 57 (vR t23) []))
  have f46 := ((((Keep.refl h0 [a1]).trans Kq23 all0).wr W34 (Or.inl (List.mem_of_getElem? (i := 0) rfl))).wr W40 (Or.inl (List.mem_of_getElem? (i := 0) rfl)))
  have f47 := (f42.wr W40)
  have f48 := (F37.other W40 (Or.inr (slot_ne (Or.inr (Wd23 hw)) (Or.inr (Wd22 hw)) (by decide) (t := .byte) (t' := (.array .byte)) (by decide) (by decide))))
  have f49 := ((Aq23.other W34 (Ne.symm ne24)).other W40 (Ne.symm ne24))
  refine ownRet Xh45 Bd.notSynchronized (v := none) (fun _ => rfl) ?_ (oLe rfl) (oLe rfl) (fun fs hr => Xh45.returnOut hx Bd.returns (D d3_57) hr)
  show (Q_ini4_4 Z a1 a2 kC c0 c1 c2 c3 c9 G1 h0 n0) (none) T40.heap _
  rw [e40]
  exact ⟨rfl, Nh45, f46, f47, t23, kb23, _, _, _, z27, F43, f48, f49, Or.inl ⟨rfl, rfl, rfl, hn23_0, hn23_1, hn23_2, hn23_3⟩⟩
 ·skip
  have N50 := Fr.app N0 Nq23
  obtain ⟨Lh51, Xh51, Nh51⟩ := oHd 2 12 X23 N50 rfl rfl
  refine ownBy st23 ?_
  clear st23
  show ownG p.tables e below _ (T23.setTop (fr_ini4_4 m a1 a2 39 .unset [(.ref t23)]))
  refine ownBy (A := T23.setTop (fr_ini4_4 m a1 a2 45 (vR t23) [(iV 4), (.ref t23), (.ref a1)])) (fun t kt => ?_) ?_
  ·refine XS.astore Xh51.here hx rfl (D d3_39) rfl rfl (l' := #[vR a1, vR a2, vI 0, vI 4, .val .null, vR t23]) rfl ?_
   refine XS.aloadN Xh51.here hx rfl (D d3_41) rfl rfl ?_
   refine XS.aload Xh51.here hx rfl (D d3_42) rfl rfl ?_
   refine XS.iloadN Xh51.here hx rfl (D d3_44) rfl ?_
   exact kt
  have f52 := (Nat.le_trans Z0 Kq23.1)
  obtain ⟨vv53, _, ⟨T53, L53, k53, n53⟩, -, X53, ⟨Lc53, hQ53, l53, y53, z53⟩, st53⟩ := Jvm.LawKit.callS Xh51 hx (y := yM4) hown (mvT hZ (Wd79 hw)) (mvT hZ (Wd80 hw)) (mvT hZ (Wd74 hw)) (mvT hZ (Wd81 hw)) (by decide) (backOf (W := 1) (c_cfa l Z a0 hw [] t23 kb23 (8 : Int32) _ (4 : Int32) (1 : Int32) T23.heap n0 f52 Aq23 (by decide +kernel)) hZ (Wd81 hw) (Wd74 hw) (by decide) (by decide)) (g := (fr_ini4_4 m a1 a2 45 (vR t23) [(iV 4), (.ref t23), (.ref a1)])) rfl (by rw [hml]; rfl) (argsL := [(.ref t23), (iV 4)]) (rest := [(.ref a1)]) (lenOf pd_10 rfl) rfl (by show 2 * 0 + _ ≤ _; exact Nat.le_of_eq rfl) (D d3_45) (fun _ _ => ⟨rfl, rfl, (by decide : 2 + 0 ≤ _), (by decide : 12 + 0 ≤ _)⟩)
  dsimp only [Pt.U, Pt.locs, Pt.cells, Pt.slots] at X53 l53 y53 z53 st53 hQ53
  subst l53 y53 z53
  obtain ⟨rfl, Nq53, Eq53⟩ := hQ53
  have N54 := Fr.app Nh51 Nq53
  obtain ⟨Lh55, Xh55, Nh55⟩ := oHd 2 12 X53 N54 rfl rfl
  refine ownBy st53 ?_
  clear st53
  show ownG p.tables e below _ (T53.setTop (fr_ini4_4 m a1 a2 48 (vR t23) [(iV 1), (.ref a1)]))
  have f57 := (F2.keep Kq23 nin0)
  have f58 := (E1.keep Kq23)
  obtain ⟨T56, h56, X56, e56, W56, st56⟩ := putFN Xh55 hx hZ hown (Wd27 hw) Via.refl Eq53 f57 f58 (Or.inr ⟨(Wd23 hw), rfl, hnm⟩) (Wd8 hw) (ty := .byte) (v' := (iV 1)) (by decide) rfl (fits_nar_byte (1 : Int32)) (g := (fr_ini4_4 m a1 a2 48 (vR t23) [(iV 1), (.ref a1)])) rfl rfl (D d3_48)
  have F59 := f57.same W56
  have N60 := Fr.snoc X56 Nh55 g1
  obtain ⟨Lh61, Xh61, Nh61⟩ := oHd 2 12 X56 N60 rfl rfl
  refine ownBy st56 ?_
  clear st56
  show ownG p.tables e below _ (T56.setTop (fr_ini4_4 m a1 a2 51 (vR t23) []))
  refine ownBy (A := T56.setTop (fr_ini4_4 m a1 a2 54 (vR t23) [(.ref t23), (.ref a1)])) (fun t kt => ?_) ?_
  ·refine XS.aloadN Xh61.here hx rfl (D d3_51) rfl rfl ?_
   refine XS.aload Xh61.here hx rfl (D d3_52) rfl rfl ?_
   exact kt
  have f63 := ((F1.keep Kq23 nin0).other W56 (Or.inr (slot_ne (Or.inr (Wd22 hw)) (Or.inr (Wd23 hw)) (by decide) (t := (.array .byte)) (t' := .byte) (by decide) (by decide))))
  have f64 := (f58.wr W56)
  obtain ⟨T62, h62, X62, e62, W62, st62⟩ := putF Xh61 hx hZ hown (host := "") (Or.inl (Wd26 hw)) Via.refl e56 f63 f64 (Or.inr ⟨(Wd22 hw), rfl, hnm⟩) (Wd8 hw) (ty := (.array .byte)) (by decide) rfl rfl (g := (fr_ini4_4 m a1 a2 54 (vR t23) [(.ref t23), (.ref a1)])) rfl rfl (D d3_54)
  have F65 := f63.same W62
  have N66 := Fr.snoc X62 Nh61 g1
  obtain ⟨Lh67, Xh67, Nh67⟩ := oHd 2 12 X62 N66 rfl rfl
  refine ownBy st62 ?_
  clear st62
  show ownG p.tables e below _ (T62.setTop (fr_ini4_4 m a1 a2 57 (vR t23) []))
  have f68 := ((((Keep.refl h0 [a1]).trans Kq23 all0).wr W56 (Or.inl (List.mem_of_getElem? (i := 0) rfl))).wr W62 (Or.inl (List.mem_of_getElem? (i := 0) rfl)))
  have f69 := (f64.wr W62)
  have f70 := (F59.other W62 (Or.inr (slot_ne (Or.inr (Wd23 hw)) (Or.inr (Wd22 hw)) (by decide) (t := .byte) (t' := (.array .byte)) (by decide) (by decide))))
  have f71 := ((Aq23.other W56 (Ne.symm ne24)).other W62 (Ne.symm ne24))
  refine ownRet Xh67 Bd.notSynchronized (v := none) (fun _ => rfl) ?_ (oLe rfl) (oLe rfl) (fun fs hr => Xh67.returnOut hx Bd.returns (D d3_57) hr)
  show (Q_ini4_4 Z a1 a2 kC c0 c1 c2 c3 c9 G1 h0 n0) (none) T62.heap _
  rw [e62]
  exact ⟨rfl, Nh67, f68, f69, t23, kb23, _, _, _, z27, F65, f70, f71, Or.inr ⟨rfl, rfl, rfl, hg23⟩⟩
abbrev fr_inC_4 (m : MethodId) (a1 : Addr) (a2 : Addr) (pc : Nat)  (st : List Value) : JFrame := mkF m pc #[vR a1, vR a2] st
def Q_inC_4 (Z : State) (a1 : Addr) (a2 : Addr) (kC : ClassId) (c0 : Int32) (c1 : Int32) (c2 : Int32) (c3 : Int32) (c9 : Value) (G1 : Int32) (h0 : Heap) (n0 : Nat) (v : Option Value) (h : Heap) (L : List Loc) : Prop := v = none ∧ Fr n0 L ∧ Keep h0 h [a1] ∧ Exa Z h a1 "java/lang/String" ∧ ∃ (ta : Addr) (kb : ClassId) (cd z : Int32) (vs : List Value), h0.size ≤ ta ∧ Fld Z h a1 "java/lang/String" "value" "[B" (.ref ta) ∧ Fld Z h a1 "java/lang/String" "coder" "B" (.int cd) ∧ Arv Z h ta kb .byte z vs (iV 0) ∧ ((cd = (0 : Int32) ∧ z = (4 : Int32) ∧ vs = [(.int (oL c0)), (.int (oL c1)), (.int (oL c2)), (.int (oL c3))] ∧ ¬ ((255 : Int32) < c0) ∧ ¬ ((255 : Int32) < c1) ∧ ¬ ((255 : Int32) < c2) ∧ ¬ ((255 : Int32) < c3)) ∨ (cd = (1 : Int32) ∧ z = (8 : Int32) ∧ vs = [(.int (oW c0)), (.int (oH c0)), (.int (oW c1)), (.int (oH c1)), (.int (oW c2)), (.int (oH c2)), (.int (oW c3)), (.int (oH c3))] ∧ ((255 : Int32) < c0 ∨ (255 : Int32) < c1 ∨ (255 : Int32) < c2 ∨ (255 : Int32) < c3)))
theorem ef_inC_4 (m : MethodId) (x0 : Addr) (x1 : Addr)  : entryFrame m #[(.ref x0), (.ref x1)] 2 = mkF m 0 #[vR x0, vR x1] [] := by first | (simp [entryFrame, mkF, argsToLocals, Value.category]; done) | rfl
set_option maxRecDepth 65536 in
set_option maxHeartbeats 40000000 in
theorem c_inC_4 (l : Launch) (Z : State) (a0 : Array Value) (hw : ∀ d ∈ tables_1, d.before a0 Z = true) (ws : List Jvm.Cond) (a1 : Addr) (a2 : Addr) (kC : ClassId) (c0 : Int32) (c1 : Int32) (c2 : Int32) (c3 : Int32) (c9 : Value) (G1 : Int32) (h0 : Heap) (n0 : Nat) (Z0 : n0 ≤ h0.size) (E1 : Exa Z h0 a1 "java/lang/String") (F1 : Fld Z h0 a1 "java/lang/String" "value" "[B" .null) (F2 : Fld Z h0 a1 "java/lang/String" "coder" "B" c9) (g1 : n0 ≤ a1) (ne1 : a1 ≠ a2) (A2 : Arv Z h0 a2 kC .char (4 : Int32) [(.int c0), (.int c1), (.int c2), (.int c3)] (iV 0)) (hc0 : ¬ c0 < 0 ∧ ¬ (65535 : Int32) < c0) (hc1 : ¬ c1 < 0 ∧ ¬ (65535 : Int32) < c1) (hc2 : ¬ c2 < 0 ∧ ¬ (65535 : Int32) < c2) (hc3 : ¬ c3 < 0 ∧ ¬ (65535 : Int32) < c3) (O2 : Sta Z Z.heap "java/lang/String" "COMPACT_STRINGS" "Z" (.int G1)) (P5 : ¬ (G1 = (0 : Int32))) (SA : Sta Z Z.heap "java/lang/StringUTF16" "$assertionsDisabled" "Z" (iV 1)) (SHI : Sta Z Z.heap "java/lang/StringUTF16" "HI_BYTE_SHIFT" "I" (iV 0)) (SLO : Sta Z Z.heap "java/lang/StringUTF16" "LO_BYTE_SHIFT" "I" (iV 8)) (X00 : Old Z n0 h0) :
  MetFree l yM1 (head1 (Jvm.Cond.code yM1 jdk_42_method_3_code 2 none :: ws) ({ frames := 5, cells := 2, slots := 12, locals := 75 } : Room)) (fun a U => a = #[(.ref a1), (.ref a2)] ∧ Z.Warmed39 U.vm ∧ U.heap = h0) (fun _ _ _ _ _ => True) (fun _ U o U' => ∃ v L, o = .returned v ∧ (Q_inC_4 Z a1 a2 kC c0 c1 c2 c3 c9 G1 h0 n0) v U'.heap L ∧ FrameEnd U o U' L ({ frames := 5, cells := 2, slots := 12, locals := 75 } : Room).cells ({ frames := 5, cells := 2, slots := 12, locals := 75 } : Room).slots) := by
 refine MetFree.of_bodySF (plainFor_of_name pn_1) hisR ?_
 intro p e s m args below meth c s₁ Bd hml0 hP hK
 obtain ⟨rfl, hZ, hHp⟩ := hP
 have hx := Bd.exec
 have D := fun {pc : Nat} {r} (h : decode _ pc = r) => hb Bd.bytes h
 have hml : c.maxLocals = 2 := hml0
 have hown : s.vm.findClass "java/lang/String" = some m.cls := findClass_of_methodNamed Bd.named
 have hnm := (name_of_methodNamed Bd.named Bd.method).1
 have X0 : Stand p l e ({ frames := 5, cells := 2, slots := 12, locals := 75 } : Room) s m #[(.ref a1), (.ref a2)] below meth c s₁ [] 0 0 := Stand.of_body Bd
 have e0 : s₁.heap = h0 := by rw [← hHp, Bd.state]; rfl
 have N0 := Fr.nil n0
 refine ownOut (P := (Q_inC_4 Z a1 a2 kC c0 c1 c2 c3 c9 G1 h0 n0)) ?_
 refine ownBy (A := s₁.setTop (mkF m 0 #[vR a1, vR a2] [])) (fun t k => castTop (ef_inC_4 m a1 a2) k) ?_
 refine ownBy (A := s₁.setTop (fr_inC_4 m a1 a2 4  [(.ref a2), (iV 0), (.ref a2), (.ref a1)])) (fun t kt => ?_) ?_
 ·refine XS.aloadN X0.here hx rfl (D d2_0) rfl rfl ?_
  refine XS.aloadN X0.here hx rfl (D d2_1) rfl rfl ?_
  refine XS.iconst X0.here hx rfl (D d2_2) ?_
  refine XS.aloadN X0.here hx rfl (D d2_3) rfl rfl ?_
  exact kt
 obtain ⟨cl21, Ar21, -, S21, N21, -, -⟩ := id A2
 have st21 := X0.arraylength hx (by rw [e0]; exact Ar21.1) (State.isArrayOf_alike hZ.alike Ar21.2.1) (g := (fr_inC_4 m a1 a2 4  [(.ref a2), (iV 0), (.ref a2), (.ref a1)])) rfl rfl (D d2_4)
 rw [len_of S21 N21] at st21
 refine ownBy st21 ?_
 show ownG p.tables e below _ (s₁.setTop (fr_inC_4 m a1 a2 5  [(iV 4), (iV 0), (.ref a2), (.ref a1)]))
 refine ownBy (A := s₁.setTop (fr_inC_4 m a1 a2 6  [.null, (iV 4), (iV 0), (.ref a2), (.ref a1)])) (fun t kt => ?_) ?_
 ·refine XS.aconstNull X0.here hx rfl (D d2_5) ?_
  exact kt
 obtain ⟨vv22, _, ⟨T22, L22, k22, n22⟩, -, X22, ⟨Lc22, hQ22, l22, y22, z22⟩, st22⟩ := X0.specialBack hx (y := yM0) rfl hown (mvT hZ (Wd13 hw)) (mvT hZ (Wd14 hw)) (mvT hZ (Wd16 hw)) (by decide) (backOf (W := 0) (c_ini4_4 l Z a0 hw [] a1 a2 kC c0 c1 c2 c3 _ G1 h0 n0 Z0 E1 F1 F2 g1 ne1 A2 hc0 hc1 hc2 hc3 O2 P5 SA SHI SLO X00) hZ (Wd16 hw) (Wd9 hw) (by decide) (by decide)) (g := (fr_inC_4 m a1 a2 6  [.null, (iV 4), (iV 0), (.ref a2), (.ref a1)])) rfl (by rw [hml]; rfl) (Steps.refl _) (a := a1) (argsL := [(.ref a2), (iV 0), (iV 4), .null]) (rest := []) (lenOf pd_2 rfl) rfl (by show 2 * 0 + _ ≤ _; exact Nat.le_of_eq rfl) (D d2_6) (fun _ _ => ⟨rfl, e0, (by decide : 0 + 2 ≤ _), (by decide : 0 + 12 ≤ _)⟩)
 dsimp only [Pt.U, Pt.locs, Pt.cells, Pt.slots] at X22 l22 y22 z22 st22 hQ22
 subst l22 y22 z22
 obtain ⟨rfl, Nq22, Kq22, Eq22, t22, kb22, cd22, z22, vs22, zq22, Vq22, Cq22, Aq22, hrel22⟩ := hQ22
 have ne23 : a1 ≠ t22 := Nat.ne_of_lt (Nat.lt_of_lt_of_le E1.lt zq22)
 have ne24 : a2 ≠ t22 := Nat.ne_of_lt (Nat.lt_of_lt_of_le A2.lt zq22)
 have g25 : n0 ≤ t22 := Nat.le_trans Z0 zq22
 have z26 : h0.size ≤ t22 := Nat.le_trans (Nat.le_refl h0.size) zq22
 have N27 := Fr.app N0 Nq22
 obtain ⟨Lh28, Xh28, Nh28⟩ := oHd 2 12 X22 N27 rfl rfl
 refine ownSt st22 ?_
 clear st22
 show ownG p.tables e below _ (T22.setTop (fr_inC_4 m a1 a2 9  []))
 have f29 := ((Keep.refl h0 [a1]).trans Kq22 (allS (Or.inl (List.mem_of_getElem? (i := 0) rfl)) all0))
 have f30 := (E1.keep Kq22)
 refine ownRet Xh28 Bd.notSynchronized (v := none) (fun _ => rfl) ?_ (oLe rfl) (oLe rfl) (fun fs hr => Xh28.returnOut hx Bd.returns (D d2_9) hr)
 show (Q_inC_4 Z a1 a2 kC c0 c1 c2 c3 c9 G1 h0 n0) (none) T22.heap _
 exact ⟨rfl, Nh28, f29, f30, t22, kb22, _, _, _, z26, Vq22, Cq22, Aq22, hrel22⟩
abbrev fr_nbf5 (m : MethodId)  (pc : Nat)  (st : List Value) : JFrame := mkF m pc #[vI 5] st
def Q_nbf5 (Z : State)  (h0 : Heap) (n0 : Nat) (v : Option Value) (h : Heap) (L : List Loc) : Prop := ∃ (ta : Addr) (kb : ClassId), v = some (.ref ta) ∧ Fr n0 L ∧ Keep h0 h [] ∧ h0.size ≤ ta ∧ Arv Z h ta kb .byte (10 : Int32) [(iV 0), (iV 0), (iV 0), (iV 0), (iV 0), (iV 0), (iV 0), (iV 0), (iV 0), (iV 0)] (iV 0)
theorem ef_nbf5 (m : MethodId) (x0 : Int32)  : entryFrame m #[(.int x0)] 1 = mkF m 0 #[vI x0] [] := by first | (simp [entryFrame, mkF, argsToLocals, Value.category]; done) | rfl
set_option maxRecDepth 65536 in
set_option maxHeartbeats 40000000 in
theorem c_nbf5 (l : Launch) (Z : State) (a0 : Array Value) (hw : ∀ d ∈ tables_1, d.before a0 Z = true) (ws : List Jvm.Cond)  (h0 : Heap) (n0 : Nat) (Z0 : n0 ≤ h0.size) :
  MetFree l yM6 (head1 (Jvm.Cond.code yM6 jdk_52_method_2_code 1 (some (.array .byte)) :: ws) ({ frames := 1, cells := 1, slots := 10, locals := 12 } : Room)) (fun a U => a = #[(iV 5)] ∧ Z.Warmed39 U.vm ∧ U.heap = h0) (fun _ _ _ _ _ => True) (fun _ U o U' => ∃ v L, o = .returned v ∧ (Q_nbf5 Z  h0 n0) v U'.heap L ∧ FrameEnd U o U' L ({ frames := 1, cells := 1, slots := 10, locals := 12 } : Room).cells ({ frames := 1, cells := 1, slots := 10, locals := 12 } : Room).slots) := by
 refine MetFree.of_bodySF (plainFor_of_name pn_3) hisR ?_
 intro p e s m args below meth c s₁ Bd hml0 hP hK
 obtain ⟨rfl, hZ, hHp⟩ := hP
 have hx := Bd.exec
 have D := fun {pc : Nat} {r} (h : decode _ pc = r) => hb Bd.bytes h
 have hml : c.maxLocals = 1 := hml0
 have hown : s.vm.findClass "java/lang/StringUTF16" = some m.cls := findClass_of_methodNamed Bd.named
 have hnm := (name_of_methodNamed Bd.named Bd.method).1
 have X0 : Stand p l e ({ frames := 1, cells := 1, slots := 10, locals := 12 } : Room) s m #[(iV 5)] below meth c s₁ [] 0 0 := Stand.of_body Bd
 have e0 : s₁.heap = h0 := by rw [← hHp, Bd.state]; rfl
 have N0 := Fr.nil n0
 refine ownOut (P := (Q_nbf5 Z  h0 n0)) ?_
 refine ownBy (A := s₁.setTop (mkF m 0 #[vI 5] [])) (fun t k => castTop (ef_nbf5 m (5 : Int32)) k) ?_
 refine ownBy (A := s₁.setTop (fr_nbf5 m  1  [(iV 5)])) (fun t kt => ?_) ?_
 ·refine XS.iloadN X0.here hx rfl (D d20_0) rfl ?_
  exact kt
 obtain ⟨vv21, _, ⟨T21, L21, k21, n21⟩, -, X21, ⟨Lc21, hQ21, l21, y21, z21⟩, st21⟩ := Jvm.LawKit.callS X0 hx (y := yM3) hown (mvT hZ (Wd91 hw)) (mvT hZ (Wd92 hw)) (mvT hZ (Wd74 hw)) (mvT hZ (Wd93 hw)) (by decide) (backOf (W := 0) (c_nbl l Z a0 hw [] (5 : Int32) (10 : Int32) h0 n0 Z0 (by decide) (by decide) (by decide +kernel)) hZ (Wd93 hw) (Wd74 hw) (by decide) (by decide)) (g := (fr_nbf5 m  1  [(iV 5)])) rfl (by rw [hml]; rfl) (argsL := [(iV 5)]) (rest := []) (lenOf pd_4 rfl) rfl (by show 2 * 0 + _ ≤ _; exact Nat.le_of_eq rfl) (D d20_1) (fun _ _ => ⟨rfl, e0, (by decide : 0 + 0 ≤ _), (by decide : 0 + 0 ≤ _)⟩)
 dsimp only [Pt.U, Pt.locs, Pt.cells, Pt.slots] at X21 l21 y21 z21 st21 hQ21
 subst l21 y21 z21
 obtain ⟨rfl, Nq21, Eq21⟩ := hQ21
 have N22 := Fr.app N0 Nq21
 obtain ⟨Lh23, Xh23, Nh23⟩ := oHd 0 0 X21 N22 rfl rfl
 refine ownBy st21 ?_
 clear st21
 show ownG p.tables e below _ (T21.setTop (fr_nbf5 m  4  [(iV 10)]))
 obtain ⟨T24, h24, k24, X24, e24, E24, A24, st24⟩ := newP Xh23 hx hZ (aty := .byte) (Wd21 hw) Eq21 (g := (fr_nbf5 m  4  [(iV 10)])) rfl (D d20_4) rfl (by decide : ¬ ((10 : Int32) < (0 : Int32))) (cap := 10) (by decide) (by decide) (by decide) (by decide)
 obtain ⟨b24, g24⟩ : ∃ z, z = h0.size := ⟨_, rfl⟩
 rw [← g24] at A24 st24
 have g25 : n0 ≤ b24 := Nat.le_trans Z0 (Nat.le_of_eq g24.symm)
 have z26 : h0.size ≤ b24 := Nat.le_trans (Nat.le_refl h0.size) (Nat.le_of_eq g24.symm)
 have V27 : Arv Z h24 b24 k24 .byte (10 : Int32) [(iV 0), (iV 0), (iV 0), (iV 0), (iV 0), (iV 0), (iV 0), (iV 0), (iV 0), (iV 0)] (iV 0) := (Arv.new A24 (by decide)).pad (pad_rep [] (iV 0) 10)
 refine ownBy st24 ?_
 clear st24
 show ownG p.tables e below _ (T24.setTop (fr_nbf5 m  6  [(.ref b24)]))
 have f28 := ((Keep.refl h0 []).ext E24)
 refine ownRet X24 Bd.notSynchronized (v := some (.ref b24)) (fun h => by rw [Bd.returns] at h; cases h) ?_ (oLe rfl) (oLe rfl) (fun fs hr => retOut X24 hx Bd.returns rfl (Or.inr (Or.inr (Or.inr (Or.inr ⟨rfl, rfl, rfl⟩)))) (D d20_6) hr)
 show (Q_nbf5 Z  h0 n0) (some (.ref b24)) T24.heap _
 rw [e24]
 exact ⟨b24, k24, rfl, Nh23, f28, z26, V27⟩
abbrev fr_tob5 (m : MethodId) (a2 : Addr) (pc : Nat) (x1_ x3_ x4_ : Slot) (st : List Value) : JFrame := mkF m pc #[vR a2, x1_, vI 5, x3_, x4_] st
def Q_tob5 (Z : State) (a2 : Addr) (kC : ClassId) (c0 : Int32) (c1 : Int32) (c2 : Int32) (c3 : Int32) (c4 : Int32) (h0 : Heap) (n0 : Nat) (v : Option Value) (h : Heap) (L : List Loc) : Prop := ∃ (ta : Addr) (kb : ClassId), v = some (.ref ta) ∧ Fr n0 L ∧ Keep h0 h [] ∧ h0.size ≤ ta ∧ Arv Z h ta kb .byte (10 : Int32) [(.int (oW c0)), (.int (oH c0)), (.int (oW c1)), (.int (oH c1)), (.int (oW c2)), (.int (oH c2)), (.int (oW c3)), (.int (oH c3)), (.int (oW c4)), (.int (oH c4))] (iV 0)
theorem ef_tob5 (m : MethodId) (x0 : Addr) (x1 : Int32) (x2 : Int32)  : entryFrame m #[(.ref x0), (.int x1), (.int x2)] 5 = mkF m 0 #[vR x0, vI x1, vI x2, .unset, .unset] [] := by first | (simp [entryFrame, mkF, argsToLocals, Value.category]; done) | rfl
set_option maxRecDepth 65536 in
set_option maxHeartbeats 40000000 in
theorem c_tob5 (l : Launch) (Z : State) (a0 : Array Value) (hw : ∀ d ∈ tables_1, d.before a0 Z = true) (ws : List Jvm.Cond) (a2 : Addr) (kC : ClassId) (c0 : Int32) (c1 : Int32) (c2 : Int32) (c3 : Int32) (c4 : Int32) (h0 : Heap) (n0 : Nat) (Z0 : n0 ≤ h0.size) (A2 : Arv Z h0 a2 kC .char (5 : Int32) [(.int c0), (.int c1), (.int c2), (.int c3), (.int c4)] (iV 0)) (SA : Sta Z Z.heap "java/lang/StringUTF16" "$assertionsDisabled" "Z" (iV 1)) (SHI : Sta Z Z.heap "java/lang/StringUTF16" "HI_BYTE_SHIFT" "I" (iV 0)) (SLO : Sta Z Z.heap "java/lang/StringUTF16" "LO_BYTE_SHIFT" "I" (iV 8)) (X00 : Old Z n0 h0) :
  MetFree l yM7 (head1 (Jvm.Cond.code yM7 jdk_52_method_14_code 5 (some (.array .byte)) :: ws) ({ frames := 2, cells := 1, slots := 10, locals := 24 } : Room)) (fun a U => a = #[(.ref a2), (iV 0), (iV 5)] ∧ Z.Warmed39 U.vm ∧ U.heap = h0) (fun _ _ _ _ _ => True) (fun _ U o U' => ∃ v L, o = .returned v ∧ (Q_tob5 Z a2 kC c0 c1 c2 c3 c4 h0 n0) v U'.heap L ∧ FrameEnd U o U' L ({ frames := 2, cells := 1, slots := 10, locals := 24 } : Room).cells ({ frames := 2, cells := 1, slots := 10, locals := 24 } : Room).slots) := by
 refine MetFree.of_bodySF (plainFor_of_name pn_3) hisR ?_
 intro p e s m args below meth c s₁ Bd hml0 hP hK
 obtain ⟨rfl, hZ, hHp⟩ := hP
 have hx := Bd.exec
 have D := fun {pc : Nat} {r} (h : decode _ pc = r) => hb Bd.bytes h
 have hml : c.maxLocals = 5 := hml0
 have hown : s.vm.findClass "java/lang/StringUTF16" = some m.cls := findClass_of_methodNamed Bd.named
 have hnm := (name_of_methodNamed Bd.named Bd.method).1
 have X0 : Stand p l e ({ frames := 2, cells := 1, slots := 10, locals := 24 } : Room) s m #[(.ref a2), (iV 0), (iV 5)] below meth c s₁ [] 0 0 := Stand.of_body Bd
 have e0 : s₁.heap = h0 := by rw [← hHp, Bd.state]; rfl
 have N0 := Fr.nil n0
 refine ownOut (P := (Q_tob5 Z a2 kC c0 c1 c2 c3 c4 h0 n0)) ?_
 refine ownBy (A := s₁.setTop (mkF m 0 #[vR a2, vI 0, vI 5, .unset, .unset] [])) (fun t k => castTop (ef_tob5 m a2 (0 : Int32) (5 : Int32)) k) ?_
 refine ownBy (A := s₁.setTop (fr_tob5 m a2 1 (vI 0) .unset .unset [(iV 5)])) (fun t kt => ?_) ?_
 ·refine XS.iloadN X0.here hx rfl (D d19_0) rfl ?_
  exact kt
 obtain ⟨vv21, _, ⟨T21, L21, k21, n21⟩, -, X21, ⟨Lc21, hQ21, l21, y21, z21⟩, st21⟩ := Jvm.LawKit.callS X0 hx (y := yM6) hown (mvT hZ (Wd88 hw)) (mvT hZ (Wd89 hw)) (mvT hZ (Wd74 hw)) (mvT hZ (Wd90 hw)) (by decide) (backOf (W := 0) (c_nbf5 l Z a0 hw []  h0 n0 Z0 ) hZ (Wd90 hw) (Wd74 hw) (by decide) (by decide)) (g := (fr_tob5 m a2 1 (vI 0) .unset .unset [(iV 5)])) rfl (by rw [hml]; rfl) (argsL := [(iV 5)]) (rest := []) (lenOf pd_5 rfl) rfl (by show 2 * 0 + _ ≤ _; exact Nat.le_of_eq rfl) (D d19_1) (fun _ _ => ⟨rfl, e0, (by decide : 0 + 1 ≤ _), (by decide : 0 + 10 ≤ _)⟩)
 dsimp only [Pt.U, Pt.locs, Pt.cells, Pt.slots] at X21 l21 y21 z21 st21 hQ21
 subst l21 y21 z21
 obtain ⟨t21, kb21, rfl, Nq21, Kq21, zq21, Aq21⟩ := hQ21
 have ne22 : a2 ≠ t21 := Nat.ne_of_lt (Nat.lt_of_lt_of_le A2.lt zq21)
 have g23 : n0 ≤ t21 := Nat.le_trans Z0 zq21
 have z24 : h0.size ≤ t21 := Nat.le_trans (Nat.le_refl h0.size) zq21
 have N25 := Fr.app N0 Nq21
 obtain ⟨Lh26, Xh26, Nh26⟩ := oHd 1 10 X21 N25 rfl rfl
 refine ownBy st21 ?_
 clear st21
 show ownG p.tables e below _ (T21.setTop (fr_tob5 m a2 4 (vI 0) .unset .unset [(.ref t21)]))
 refine ownBy (A := T21.setTop (fr_tob5 m a2 19 (vI 0) (vR t21) (vI 0) [(iV 0), (.ref a2), (iV 0), (.ref t21)])) (fun t kt => ?_) ?_
 ·refine XS.astoreN Xh26.here hx rfl (D d19_4) rfl rfl (l' := #[vR a2, vI 0, vI 5, vR t21, .unset]) rfl ?_
  refine XS.iconst Xh26.here hx rfl (D d19_5) ?_
  refine XS.istore Xh26.here hx rfl (D d19_6) rfl (l' := #[vR a2, vI 0, vI 5, vR t21, vI 0]) rfl ?_
  refine XS.iload Xh26.here hx rfl (D d19_8) rfl ?_
  show Steps p.tables e below (T21.setTop (fr_tob5 m a2 10 (vI 0) (vR t21) (vI 0) [(iV 0)])) t
  refine XS.iloadN Xh26.here hx rfl (D d19_10) rfl ?_
  refine XS.icmpNo Xh26.here hx rfl (D d19_11) rfl (tlt ((by decide) : (0 : Int32) < (5 : Int32))).2.1 ?_
  refine XS.aloadN Xh26.here hx rfl (D d19_14) rfl rfl ?_
  refine XS.iload Xh26.here hx rfl (D d19_15) rfl ?_
  show Steps p.tables e below (T21.setTop (fr_tob5 m a2 17 (vI 0) (vR t21) (vI 0) [(iV 0), (.ref t21)])) t
  refine XS.aloadN Xh26.here hx rfl (D d19_17) rfl rfl ?_
  refine XS.iloadN Xh26.here hx rfl (D d19_18) rfl ?_
  exact kt
 have f27 := (A2.keep Kq21 nin0)
 obtain ⟨cl28, Ar28, q28, S28, N28, H28, G28⟩ := id f27
 have hin28 : ¬ ((0 : Int32) < 0 ∨ cl28.slots.size ≤ ((0 : Int32)).toNatClampNeg) := inb_of S28 ⟨by decide, by decide⟩
 have hat28 : cl28.slots[((0 : Int32)).toNatClampNeg]? = some (.int c0) := H28.at hin28 rfl
 have st28 := Xh26.caload hx (j := (0 : Int32)) (v := (.int c0)) Ar28.1 (State.isArrayOf_alike hZ.alike Ar28.2.1) Ar28.2.2 hin28 hat28 (g := (fr_tob5 m a2 19 (vI 0) (vR t21) (vI 0) [(iV 0), (.ref a2), (iV 0), (.ref t21)])) rfl rfl (D d19_19)
 refine ownBy st28 ?_
 show ownG p.tables e below _ (T21.setTop (fr_tob5 m a2 20 (vI 0) (vR t21) (vI 0) [(.int c0), (iV 0), (.ref t21)]))
 have f29 := (X00.keep Kq21 all0)
 have f30 := (Nat.le_trans Z0 Kq21.1)
 obtain ⟨vv31, _, ⟨T31, L31, k31, n31⟩, -, X31, ⟨Lc31, hQ31, l31, y31, z31⟩, st31⟩ := Jvm.LawKit.callS Xh26 hx (y := yM2) hown (mvT hZ (Wd95 hw)) (mvT hZ (Wd96 hw)) (mvT hZ (Wd74 hw)) (mvT hZ (Wd97 hw)) (by decide) (backOf (W := 0) (c_put l Z a0 hw [] t21 kb21 (10 : Int32) [(iV 0), (iV 0), (iV 0), (iV 0), (iV 0), (iV 0), (iV 0), (iV 0), (iV 0), (iV 0)] (0 : Int32) c0 0 T21.heap n0 f30 Aq21 g23 ⟨by decide +kernel, by decide +kernel⟩ ⟨by decide +kernel, by decide +kernel⟩ (by decide +kernel) (by decide +kernel) (oLe rfl) SA SHI SLO f29) hZ (Wd97 hw) (Wd74 hw) (by decide) (by decide)) (g := (fr_tob5 m a2 20 (vI 0) (vR t21) (vI 0) [(.int c0), (iV 0), (.ref t21)])) rfl (by rw [hml]; rfl) (argsL := [(.ref t21), (iV 0), (.int c0)]) (rest := []) (lenOf pd_6 rfl) rfl (by show 2 * 0 + _ ≤ _; exact Nat.le_of_eq rfl) (D d19_20) (fun _ _ => ⟨rfl, rfl, (by decide : 1 + 0 ≤ _), (by decide : 10 + 0 ≤ _)⟩)
 dsimp only [Pt.U, Pt.locs, Pt.cells, Pt.slots] at X31 l31 y31 z31 st31 hQ31
 subst l31 y31 z31
 obtain ⟨rfl, Nq31, Kq31, Ap31⟩ := hQ31
 have Aq31 : Arv Z T31.heap t21 kb21 .byte (10 : Int32) [(.int (oW c0)), (.int (oH c0)), (iV 0), (iV 0), (iV 0), (iV 0), (iV 0), (iV 0), (iV 0), (iV 0)] (iV 0) := Ap31
 have N32 := Fr.app Nh26 Nq31
 obtain ⟨Lh33, Xh33, Nh33⟩ := oHd 1 10 X31 N32 rfl rfl
 refine ownBy st31 ?_
 clear st31
 show ownG p.tables e below _ (T31.setTop (fr_tob5 m a2 23 (vI 0) (vR t21) (vI 0) []))
 refine ownBy (A := T31.setTop (fr_tob5 m a2 19 (vI 1) (vR t21) (vI 1) [(iV 1), (.ref a2), (iV 1), (.ref t21)])) (fun t kt => ?_) ?_
 ·refine XS.iinc Xh33.here hx rfl (D d19_23) rfl (l' := #[vR a2, vI 1, vI 5, vR t21, vI 0]) rfl ?_
  refine XS.iinc Xh33.here hx rfl (D d19_26) rfl (l' := #[vR a2, vI 1, vI 5, vR t21, vI 1]) rfl ?_
  refine XS.goto Xh33.here hx rfl (pc0 := 29) (pc' := 8) rfl (D d19_29) (by decide) (by decide) ?_
  refine XS.iload Xh33.here hx rfl (D d19_8) rfl ?_
  show Steps p.tables e below (T31.setTop (fr_tob5 m a2 10 (vI 1) (vR t21) (vI 1) [(iV 1)])) t
  refine XS.iloadN Xh33.here hx rfl (D d19_10) rfl ?_
  refine XS.icmpNo Xh33.here hx rfl (D d19_11) rfl (tlt ((by decide) : (1 : Int32) < (5 : Int32))).2.1 ?_
  refine XS.aloadN Xh33.here hx rfl (D d19_14) rfl rfl ?_
  refine XS.iload Xh33.here hx rfl (D d19_15) rfl ?_
  show Steps p.tables e below (T31.setTop (fr_tob5 m a2 17 (vI 1) (vR t21) (vI 1) [(iV 1), (.ref t21)])) t
  refine XS.aloadN Xh33.here hx rfl (D d19_17) rfl rfl ?_
  refine XS.iloadN Xh33.here hx rfl (D d19_18) rfl ?_
  exact kt
 have f34 := (f27.keep Kq31 (ninS ne22 nin0))
 obtain ⟨cl35, Ar35, q35, S35, N35, H35, G35⟩ := id f34
 have hin35 : ¬ ((1 : Int32) < 0 ∨ cl35.slots.size ≤ ((1 : Int32)).toNatClampNeg) := inb_of S35 ⟨by decide, by decide⟩
 have hat35 : cl35.slots[((1 : Int32)).toNatClampNeg]? = some (.int c1) := H35.at hin35 rfl
 have st35 := Xh33.caload hx (j := (1 : Int32)) (v := (.int c1)) Ar35.1 (State.isArrayOf_alike hZ.alike Ar35.2.1) Ar35.2.2 hin35 hat35 (g := (fr_tob5 m a2 19 (vI 1) (vR t21) (vI 1) [(iV 1), (.ref a2), (iV 1), (.ref t21)])) rfl rfl (D d19_19)
 refine ownBy st35 ?_
 show ownG p.tables e below _ (T31.setTop (fr_tob5 m a2 20 (vI 1) (vR t21) (vI 1) [(.int c1), (iV 1), (.ref t21)]))
 have f36 := (f29.keep Kq31 (allS g23 all0))
 have f37 := (Nat.le_trans f30 Kq31.1)
 obtain ⟨vv38, _, ⟨T38, L38, k38, n38⟩, -, X38, ⟨Lc38, hQ38, l38, y38, z38⟩, st38⟩ := Jvm.LawKit.callS Xh33 hx (y := yM2) hown (mvT hZ (Wd95 hw)) (mvT hZ (Wd96 hw)) (mvT hZ (Wd74 hw)) (mvT hZ (Wd97 hw)) (by decide) (backOf (W := 0) (c_put l Z a0 hw [] t21 kb21 (10 : Int32) [(.int (oW c0)), (.int (oH c0)), (iV 0), (iV 0), (iV 0), (iV 0), (iV 0), (iV 0), (iV 0), (iV 0)] (1 : Int32) c1 2 T31.heap n0 f37 Aq31 g23 ⟨by decide +kernel, by decide +kernel⟩ ⟨by decide +kernel, by decide +kernel⟩ (by decide +kernel) (by decide +kernel) (oLe rfl) SA SHI SLO f36) hZ (Wd97 hw) (Wd74 hw) (by decide) (by decide)) (g := (fr_tob5 m a2 20 (vI 1) (vR t21) (vI 1) [(.int c1), (iV 1), (.ref t21)])) rfl (by rw [hml]; rfl) (argsL := [(.ref t21), (iV 1), (.int c1)]) (rest := []) (lenOf pd_6 rfl) rfl (by show 2 * 0 + _ ≤ _; exact Nat.le_of_eq rfl) (D d19_20) (fun _ _ => ⟨rfl, rfl, (by decide : 1 + 0 ≤ _), (by decide : 10 + 0 ≤ _)⟩)
 dsimp only [Pt.U, Pt.locs, Pt.cells, Pt.slots] at X38 l38 y38 z38 st38 hQ38
 subst l38 y38 z38
 obtain ⟨rfl, Nq38, Kq38, Ap38⟩ := hQ38
 have Aq38 : Arv Z T38.heap t21 kb21 .byte (10 : Int32) [(.int (oW c0)), (.int (oH c0)), (.int (oW c1)), (.int (oH c1)), (iV 0), (iV 0), (iV 0), (iV 0), (iV 0), (iV 0)] (iV 0) := Ap38
 have N39 := Fr.app Nh33 Nq38
 obtain ⟨Lh40, Xh40, Nh40⟩ := oHd 1 10 X38 N39 rfl rfl
 refine ownBy st38 ?_
 clear st38
 show ownG p.tables e below _ (T38.setTop (fr_tob5 m a2 23 (vI 1) (vR t21) (vI 1) []))
 refine ownBy (A := T38.setTop (fr_tob5 m a2 19 (vI 2) (vR t21) (vI 2) [(iV 2), (.ref a2), (iV 2), (.ref t21)])) (fun t kt => ?_) ?_
 ·refine XS.iinc Xh40.here hx rfl (D d19_23) rfl (l' := #[vR a2, vI 2, vI 5, vR t21, vI 1]) rfl ?_
  refine XS.iinc Xh40.here hx rfl (D d19_26) rfl (l' := #[vR a2, vI 2, vI 5, vR t21, vI 2]) rfl ?_
  refine XS.goto Xh40.here hx rfl (pc0 := 29) (pc' := 8) rfl (D d19_29) (by decide) (by decide) ?_
  refine XS.iload Xh40.here hx rfl (D d19_8) rfl ?_
  show Steps p.tables e below (T38.setTop (fr_tob5 m a2 10 (vI 2) (vR t21) (vI 2) [(iV 2)])) t
  refine XS.iloadN Xh40.here hx rfl (D d19_10) rfl ?_
  refine XS.icmpNo Xh40.here hx rfl (D d19_11) rfl (tlt ((by decide) : (2 : Int32) < (5 : Int32))).2.1 ?_
  refine XS.aloadN Xh40.here hx rfl (D d19_14) rfl rfl ?_
  refine XS.iload Xh40.here hx rfl (D d19_15) rfl ?_
  show Steps p.tables e below (T38.setTop (fr_tob5 m a2 17 (vI 2) (vR t21) (vI 2) [(iV 2), (.ref t21)])) t
  refine XS.aloadN Xh40.here hx rfl (D d19_17) rfl rfl ?_
  refine XS.iloadN Xh40.here hx rfl (D d19_18) rfl ?_
  exact kt
 have f41 := (f34.keep Kq38 (ninS ne22 nin0))
 obtain ⟨cl42, Ar42, q42, S42, N42, H42, G42⟩ := id f41
 have hin42 : ¬ ((2 : Int32) < 0 ∨ cl42.slots.size ≤ ((2 : Int32)).toNatClampNeg) := inb_of S42 ⟨by decide, by decide⟩
 have hat42 : cl42.slots[((2 : Int32)).toNatClampNeg]? = some (.int c2) := H42.at hin42 rfl
 have st42 := Xh40.caload hx (j := (2 : Int32)) (v := (.int c2)) Ar42.1 (State.isArrayOf_alike hZ.alike Ar42.2.1) Ar42.2.2 hin42 hat42 (g := (fr_tob5 m a2 19 (vI 2) (vR t21) (vI 2) [(iV 2), (.ref a2), (iV 2), (.ref t21)])) rfl rfl (D d19_19)
 refine ownBy st42 ?_
 show ownG p.tables e below _ (T38.setTop (fr_tob5 m a2 20 (vI 2) (vR t21) (vI 2) [(.int c2), (iV 2), (.ref t21)]))
 have f43 := (f36.keep Kq38 (allS g23 all0))
 have f44 := (Nat.le_trans f37 Kq38.1)
 obtain ⟨vv45, _, ⟨T45, L45, k45, n45⟩, -, X45, ⟨Lc45, hQ45, l45, y45, z45⟩, st45⟩ := Jvm.LawKit.callS Xh40 hx (y := yM2) hown (mvT hZ (Wd95 hw)) (mvT hZ (Wd96 hw)) (mvT hZ (Wd74 hw)) (mvT hZ (Wd97 hw)) (by decide) (backOf (W := 0) (c_put l Z a0 hw [] t21 kb21 (10 : Int32) [(.int (oW c0)), (.int (oH c0)), (.int (oW c1)), (.int (oH c1)), (iV 0), (iV 0), (iV 0), (iV 0), (iV 0), (iV 0)] (2 : Int32) c2 4 T38.heap n0 f44 Aq38 g23 ⟨by decide +kernel, by decide +kernel⟩ ⟨by decide +kernel, by decide +kernel⟩ (by decide +kernel) (by decide +kernel) (oLe rfl) SA SHI SLO f43) hZ (Wd97 hw) (Wd74 hw) (by decide) (by decide)) (g := (fr_tob5 m a2 20 (vI 2) (vR t21) (vI 2) [(.int c2), (iV 2), (.ref t21)])) rfl (by rw [hml]; rfl) (argsL := [(.ref t21), (iV 2), (.int c2)]) (rest := []) (lenOf pd_6 rfl) rfl (by show 2 * 0 + _ ≤ _; exact Nat.le_of_eq rfl) (D d19_20) (fun _ _ => ⟨rfl, rfl, (by decide : 1 + 0 ≤ _), (by decide : 10 + 0 ≤ _)⟩)
 dsimp only [Pt.U, Pt.locs, Pt.cells, Pt.slots] at X45 l45 y45 z45 st45 hQ45
 subst l45 y45 z45
 obtain ⟨rfl, Nq45, Kq45, Ap45⟩ := hQ45
 have Aq45 : Arv Z T45.heap t21 kb21 .byte (10 : Int32) [(.int (oW c0)), (.int (oH c0)), (.int (oW c1)), (.int (oH c1)), (.int (oW c2)), (.int (oH c2)), (iV 0), (iV 0), (iV 0), (iV 0)] (iV 0) := Ap45
 have N46 := Fr.app Nh40 Nq45
 obtain ⟨Lh47, Xh47, Nh47⟩ := oHd 1 10 X45 N46 rfl rfl
 refine ownBy st45 ?_
 clear st45
 show ownG p.tables e below _ (T45.setTop (fr_tob5 m a2 23 (vI 2) (vR t21) (vI 2) []))
 refine ownBy (A := T45.setTop (fr_tob5 m a2 19 (vI 3) (vR t21) (vI 3) [(iV 3), (.ref a2), (iV 3), (.ref t21)])) (fun t kt => ?_) ?_
 ·refine XS.iinc Xh47.here hx rfl (D d19_23) rfl (l' := #[vR a2, vI 3, vI 5, vR t21, vI 2]) rfl ?_
  refine XS.iinc Xh47.here hx rfl (D d19_26) rfl (l' := #[vR a2, vI 3, vI 5, vR t21, vI 3]) rfl ?_
  refine XS.goto Xh47.here hx rfl (pc0 := 29) (pc' := 8) rfl (D d19_29) (by decide) (by decide) ?_
  refine XS.iload Xh47.here hx rfl (D d19_8) rfl ?_
  show Steps p.tables e below (T45.setTop (fr_tob5 m a2 10 (vI 3) (vR t21) (vI 3) [(iV 3)])) t
  refine XS.iloadN Xh47.here hx rfl (D d19_10) rfl ?_
  refine XS.icmpNo Xh47.here hx rfl (D d19_11) rfl (tlt ((by decide) : (3 : Int32) < (5 : Int32))).2.1 ?_
  refine XS.aloadN Xh47.here hx rfl (D d19_14) rfl rfl ?_
  refine XS.iload Xh47.here hx rfl (D d19_15) rfl ?_
  show Steps p.tables e below (T45.setTop (fr_tob5 m a2 17 (vI 3) (vR t21) (vI 3) [(iV 3), (.ref t21)])) t
  refine XS.aloadN Xh47.here hx rfl (D d19_17) rfl rfl ?_
  refine XS.iloadN Xh47.here hx rfl (D d19_18) rfl ?_
  exact kt
 have f48 := (f41.keep Kq45 (ninS ne22 nin0))
 obtain ⟨cl49, Ar49, q49, S49, N49, H49, G49⟩ := id f48
 have hin49 : ¬ ((3 : Int32) < 0 ∨ cl49.slots.size ≤ ((3 : Int32)).toNatClampNeg) := inb_of S49 ⟨by decide, by decide⟩
 have hat49 : cl49.slots[((3 : Int32)).toNatClampNeg]? = some (.int c3) := H49.at hin49 rfl
 have st49 := Xh47.caload hx (j := (3 : Int32)) (v := (.int c3)) Ar49.1 (State.isArrayOf_alike hZ.alike Ar49.2.1) Ar49.2.2 hin49 hat49 (g := (fr_tob5 m a2 19 (vI 3) (vR t21) (vI 3) [(iV 3), (.ref a2), (iV 3), (.ref t21)])) rfl rfl (D d19_19)
 refine ownBy st49 ?_
 show ownG p.tables e below _ (T45.setTop (fr_tob5 m a2 20 (vI 3) (vR t21) (vI 3) [(.int c3), (iV 3), (.ref t21)]))
 have f50 := (f43.keep Kq45 (allS g23 all0))
 have f51 := (Nat.le_trans f44 Kq45.1)
 obtain ⟨vv52, _, ⟨T52, L52, k52, n52⟩, -, X52, ⟨Lc52, hQ52, l52, y52, z52⟩, st52⟩ := Jvm.LawKit.callS Xh47 hx (y := yM2) hown (mvT hZ (Wd95 hw)) (mvT hZ (Wd96 hw)) (mvT hZ (Wd74 hw)) (mvT hZ (Wd97 hw)) (by decide) (backOf (W := 0) (c_put l Z a0 hw [] t21 kb21 (10 : Int32) [(.int (oW c0)), (.int (oH c0)), (.int (oW c1)), (.int (oH c1)), (.int (oW c2)), (.int (oH c2)), (iV 0), (iV 0), (iV 0), (iV 0)] (3 : Int32) c3 6 T45.heap n0 f51 Aq45 g23 ⟨by decide +kernel, by decide +kernel⟩ ⟨by decide +kernel, by decide +kernel⟩ (by decide +kernel) (by decide +kernel) (oLe rfl) SA SHI SLO f50) hZ (Wd97 hw) (Wd74 hw) (by decide) (by decide)) (g := (fr_tob5 m a2 20 (vI 3) (vR t21) (vI 3) [(.int c3), (iV 3), (.ref t21)])) rfl (by rw [hml]; rfl) (argsL := [(.ref t21), (iV 3), (.int c3)]) (rest := []) (lenOf pd_6 rfl) rfl (by show 2 * 0 + _ ≤ _; exact Nat.le_of_eq rfl) (D d19_20) (fun _ _ => ⟨rfl, rfl, (by decide : 1 + 0 ≤ _), (by decide : 10 + 0 ≤ _)⟩)
 dsimp only [Pt.U, Pt.locs, Pt.cells, Pt.slots] at X52 l52 y52 z52 st52 hQ52
 subst l52 y52 z52
 obtain ⟨rfl, Nq52, Kq52, Ap52⟩ := hQ52
 have Aq52 : Arv Z T52.heap t21 kb21 .byte (10 : Int32) [(.int (oW c0)), (.int (oH c0)), (.int (oW c1)), (.int (oH c1)), (.int (oW c2)), (.int (oH c2)), (.int (oW c3)), (.int (oH c3)), (iV 0), (iV 0)] (iV 0) := Ap52
 have N53 := Fr.app Nh47 Nq52
 obtain ⟨Lh54, Xh54, Nh54⟩ := oHd 1 10 X52 N53 rfl rfl
 refine ownBy st52 ?_
 clear st52
 show ownG p.tables e below _ (T52.setTop (fr_tob5 m a2 23 (vI 3) (vR t21) (vI 3) []))
 refine ownBy (A := T52.setTop (fr_tob5 m a2 19 (vI 4) (vR t21) (vI 4) [(iV 4), (.ref a2), (iV 4), (.ref t21)])) (fun t kt => ?_) ?_
 ·refine XS.iinc Xh54.here hx rfl (D d19_23) rfl (l' := #[vR a2, vI 4, vI 5, vR t21, vI 3]) rfl ?_
  refine XS.iinc Xh54.here hx rfl (D d19_26) rfl (l' := #[vR a2, vI 4, vI 5, vR t21, vI 4]) rfl ?_
  refine XS.goto Xh54.here hx rfl (pc0 := 29) (pc' := 8) rfl (D d19_29) (by decide) (by decide) ?_
  refine XS.iload Xh54.here hx rfl (D d19_8) rfl ?_
  show Steps p.tables e below (T52.setTop (fr_tob5 m a2 10 (vI 4) (vR t21) (vI 4) [(iV 4)])) t
  refine XS.iloadN Xh54.here hx rfl (D d19_10) rfl ?_
  refine XS.icmpNo Xh54.here hx rfl (D d19_11) rfl (tlt ((by decide) : (4 : Int32) < (5 : Int32))).2.1 ?_
  refine XS.aloadN Xh54.here hx rfl (D d19_14) rfl rfl ?_
  refine XS.iload Xh54.here hx rfl (D d19_15) rfl ?_
  show Steps p.tables e below (T52.setTop (fr_tob5 m a2 17 (vI 4) (vR t21) (vI 4) [(iV 4), (.ref t21)])) t
  refine XS.aloadN Xh54.here hx rfl (D d19_17) rfl rfl ?_
  refine XS.iloadN Xh54.here hx rfl (D d19_18) rfl ?_
  exact kt
 have f55 := (f48.keep Kq52 (ninS ne22 nin0))
 obtain ⟨cl56, Ar56, q56, S56, N56, H56, G56⟩ := id f55
 have hin56 : ¬ ((4 : Int32) < 0 ∨ cl56.slots.size ≤ ((4 : Int32)).toNatClampNeg) := inb_of S56 ⟨by decide, by decide⟩
 have hat56 : cl56.slots[((4 : Int32)).toNatClampNeg]? = some (.int c4) := H56.at hin56 rfl
 have st56 := Xh54.caload hx (j := (4 : Int32)) (v := (.int c4)) Ar56.1 (State.isArrayOf_alike hZ.alike Ar56.2.1) Ar56.2.2 hin56 hat56 (g := (fr_tob5 m a2 19 (vI 4) (vR t21) (vI 4) [(iV 4), (.ref a2), (iV 4), (.ref t21)])) rfl rfl (D d19_19)
 refine ownBy st56 ?_
 show ownG p.tables e below _ (T52.setTop (fr_tob5 m a2 20 (vI 4) (vR t21) (vI 4) [(.int c4), (iV 4), (.ref t21)]))
 have f57 := (f50.keep Kq52 (allS g23 all0))
 have f58 := (Nat.le_trans f51 Kq52.1)
 obtain ⟨vv59, _, ⟨T59, L59, k59, n59⟩, -, X59, ⟨Lc59, hQ59, l59, y59, z59⟩, st59⟩ := Jvm.LawKit.callS Xh54 hx (y := yM2) hown (mvT hZ (Wd95 hw)) (mvT hZ (Wd96 hw)) (mvT hZ (Wd74 hw)) (mvT hZ (Wd97 hw)) (by decide) (backOf (W := 0) (c_put l Z a0 hw [] t21 kb21 (10 : Int32) [(.int (oW c0)), (.int (oH c0)), (.int (oW c1)), (.int (oH c1)), (.int (oW c2)), (.int (oH c2)), (.int (oW c3)), (.int (oH c3)), (iV 0), (iV 0)] (4 : Int32) c4 8 T52.heap n0 f58 Aq52 g23 ⟨by decide +kernel, by decide +kernel⟩ ⟨by decide +kernel, by decide +kernel⟩ (by decide +kernel) (by decide +kernel) (oLe rfl) SA SHI SLO f57) hZ (Wd97 hw) (Wd74 hw) (by decide) (by decide)) (g := (fr_tob5 m a2 20 (vI 4) (vR t21) (vI 4) [(.int c4), (iV 4), (.ref t21)])) rfl (by rw [hml]; rfl) (argsL := [(.ref t21), (iV 4), (.int c4)]) (rest := []) (lenOf pd_6 rfl) rfl (by show 2 * 0 + _ ≤ _; exact Nat.le_of_eq rfl) (D d19_20) (fun _ _ => ⟨rfl, rfl, (by decide : 1 + 0 ≤ _), (by decide : 10 + 0 ≤ _)⟩)
 dsimp only [Pt.U, Pt.locs, Pt.cells, Pt.slots] at X59 l59 y59 z59 st59 hQ59
 subst l59 y59 z59
 obtain ⟨rfl, Nq59, Kq59, Ap59⟩ := hQ59
 have Aq59 : Arv Z T59.heap t21 kb21 .byte (10 : Int32) [(.int (oW c0)), (.int (oH c0)), (.int (oW c1)), (.int (oH c1)), (.int (oW c2)), (.int (oH c2)), (.int (oW c3)), (.int (oH c3)), (.int (oW c4)), (.int (oH c4))] (iV 0) := Ap59
 have N60 := Fr.app Nh54 Nq59
 obtain ⟨Lh61, Xh61, Nh61⟩ := oHd 1 10 X59 N60 rfl rfl
 refine ownBy st59 ?_
 clear st59
 show ownG p.tables e below _ (T59.setTop (fr_tob5 m a2 23 (vI 4) (vR t21) (vI 4) []))
 refine ownBy (A := T59.setTop (fr_tob5 m a2 33 (vI 5) (vR t21) (vI 5) [(.ref t21)])) (fun t kt => ?_) ?_
 ·refine XS.iinc Xh61.here hx rfl (D d19_23) rfl (l' := #[vR a2, vI 5, vI 5, vR t21, vI 4]) rfl ?_
  refine XS.iinc Xh61.here hx rfl (D d19_26) rfl (l' := #[vR a2, vI 5, vI 5, vR t21, vI 5]) rfl ?_
  refine XS.goto Xh61.here hx rfl (pc0 := 29) (pc' := 8) rfl (D d19_29) (by decide) (by decide) ?_
  refine XS.iload Xh61.here hx rfl (D d19_8) rfl ?_
  show Steps p.tables e below (T59.setTop (fr_tob5 m a2 10 (vI 5) (vR t21) (vI 5) [(iV 5)])) t
  refine XS.iloadN Xh61.here hx rfl (D d19_10) rfl ?_
  refine XS.icmpYes Xh61.here hx rfl (pc0 := 11) (pc' := 32) rfl (D d19_11) rfl (flt ((by decide) : ¬ ((5 : Int32) < (5 : Int32)))).2.1 (by decide) (by decide) ?_
  refine XS.aloadN Xh61.here hx rfl (D d19_32) rfl rfl ?_
  exact kt
 have f62 := (((((((Keep.refl h0 []).trans Kq21 all0).trans Kq31 (allS (Or.inr z24) all0)).trans Kq38 (allS (Or.inr z24) all0)).trans Kq45 (allS (Or.inr z24) all0)).trans Kq52 (allS (Or.inr z24) all0)).trans Kq59 (allS (Or.inr z24) all0))
 refine ownRet Xh61 Bd.notSynchronized (v := some (.ref t21)) (fun h => by rw [Bd.returns] at h; cases h) ?_ (oLe rfl) (oLe rfl) (fun fs hr => retOut Xh61 hx Bd.returns rfl (Or.inr (Or.inr (Or.inr (Or.inr ⟨rfl, rfl, rfl⟩)))) (D d19_33) hr)
 show (Q_tob5 Z a2 kC c0 c1 c2 c3 c4 h0 n0) (some (.ref t21)) T59.heap _
 exact ⟨t21, kb21, rfl, Nh61, f62, z24, Aq59⟩
abbrev fr_cp5_5 (m : MethodId) (a2 : Addr) (ta : Addr) (pc : Nat) (x1_ x3_ x5_ x6_ : Slot) (st : List Value) : JFrame := mkF m pc #[vR a2, x1_, vR ta, x3_, vI 5, x5_, x6_] st
def Q_cp5_5 (Z : State) (a2 : Addr) (kC : ClassId) (ta : Addr) (kb : ClassId) (c0 : Int32) (c1 : Int32) (c2 : Int32) (c3 : Int32) (c4 : Int32) (h0 : Heap) (n0 : Nat) (v : Option Value) (h : Heap) (L : List Loc) : Prop := ∃ r : Int32, v = some (.int r) ∧ Fr n0 L ∧ Keep h0 h [ta] ∧ ((r = (5 : Int32) ∧ ¬ ((255 : Int32) < c0) ∧ ¬ ((255 : Int32) < c1) ∧ ¬ ((255 : Int32) < c2) ∧ ¬ ((255 : Int32) < c3) ∧ ¬ ((255 : Int32) < c4) ∧ Arv Z h ta kb .byte (5 : Int32) [(.int (oL c0)), (.int (oL c1)), (.int (oL c2)), (.int (oL c3)), (.int (oL c4))] (iV 0)) ∨ (r = (0 : Int32) ∧ (255 : Int32) < c0) ∨ (r = (1 : Int32) ∧ (255 : Int32) < c1) ∨ (r = (2 : Int32) ∧ (255 : Int32) < c2) ∨ (r = (3 : Int32) ∧ (255 : Int32) < c3) ∨ (r = (4 : Int32) ∧ (255 : Int32) < c4))
theorem ef_cp5_5 (m : MethodId) (x0 : Addr) (x1 : Int32) (x2 : Addr) (x3 : Int32) (x4 : Int32)  : entryFrame m #[(.ref x0), (.int x1), (.ref x2), (.int x3), (.int x4)] 7 = mkF m 0 #[vR x0, vI x1, vR x2, vI x3, vI x4, .unset, .unset] [] := by first | (simp [entryFrame, mkF, argsToLocals, Value.category]; done) | rfl
set_option maxRecDepth 65536 in
set_option maxHeartbeats 40000000 in
theorem c_cp5_5 (l : Launch) (Z : State) (a0 : Array Value) (hw : ∀ d ∈ tables_1, d.before a0 Z = true) (ws : List Jvm.Cond) (a2 : Addr) (kC : ClassId) (ta : Addr) (kb : ClassId) (c0 : Int32) (c1 : Int32) (c2 : Int32) (c3 : Int32) (c4 : Int32) (h0 : Heap) (n0 : Nat) (Z0 : n0 ≤ h0.size) (A2 : Arv Z h0 a2 kC .char (5 : Int32) [(.int c0), (.int c1), (.int c2), (.int c3), (.int c4)] (iV 0)) (At : Arv Z h0 ta kb .byte (5 : Int32) [(iV 0), (iV 0), (iV 0), (iV 0), (iV 0)] (iV 0)) (gt : n0 ≤ ta) (ne1 : a2 ≠ ta) :
  MetFree l yM8 (head1 (Jvm.Cond.code yM8 jdk_52_method_21_code 7 (some .int) :: ws) ({ frames := 0, cells := 0, slots := 0, locals := 0 } : Room)) (fun a U => a = #[(.ref a2), (iV 0), (.ref ta), (iV 0), (iV 5)] ∧ Z.Warmed39 U.vm ∧ U.heap = h0) (fun _ _ _ _ _ => True) (fun _ U o U' => ∃ v L, o = .returned v ∧ (Q_cp5_5 Z a2 kC ta kb c0 c1 c2 c3 c4 h0 n0) v U'.heap L ∧ FrameEnd U o U' L ({ frames := 0, cells := 0, slots := 0, locals := 0 } : Room).cells ({ frames := 0, cells := 0, slots := 0, locals := 0 } : Room).slots) := by
 refine MetFree.of_bodySF (plainFor_of_name pn_3) hisR ?_
 intro p e s m args below meth c s₁ Bd hml0 hP hK
 obtain ⟨rfl, hZ, hHp⟩ := hP
 have hx := Bd.exec
 have D := fun {pc : Nat} {r} (h : decode _ pc = r) => hb Bd.bytes h
 have hml : c.maxLocals = 7 := hml0
 have hown : s.vm.findClass "java/lang/StringUTF16" = some m.cls := findClass_of_methodNamed Bd.named
 have hnm := (name_of_methodNamed Bd.named Bd.method).1
 have X0 : Stand p l e ({ frames := 0, cells := 0, slots := 0, locals := 0 } : Room) s m #[(.ref a2), (iV 0), (.ref ta), (iV 0), (iV 5)] below meth c s₁ [] 0 0 := Stand.of_body Bd
 have e0 : s₁.heap = h0 := by rw [← hHp, Bd.state]; rfl
 have N0 := Fr.nil n0
 refine ownOut (P := (Q_cp5_5 Z a2 kC ta kb c0 c1 c2 c3 c4 h0 n0)) ?_
 refine ownBy (A := s₁.setTop (mkF m 0 #[vR a2, vI 0, vR ta, vI 0, vI 5, .unset, .unset] [])) (fun t k => castTop (ef_cp5_5 m a2 (0 : Int32) ta (0 : Int32) (5 : Int32)) k) ?_
 refine ownBy (A := s₁.setTop (fr_cp5_5 m a2 ta 12 (vI 0) (vI 0) (vI 0) .unset [(iV 0), (.ref a2)])) (fun t kt => ?_) ?_
 ·refine XS.iconst X0.here hx rfl (D d16_0) ?_
  refine XS.istore X0.here hx rfl (D d16_1) rfl (l' := #[vR a2, vI 0, vR ta, vI 0, vI 5, vI 0, .unset]) rfl ?_
  refine XS.iload X0.here hx rfl (D d16_3) rfl ?_
  refine XS.iload X0.here hx rfl (D d16_5) rfl ?_
  show Steps p.tables e below (s₁.setTop (fr_cp5_5 m a2 ta 7 (vI 0) (vI 0) (vI 0) .unset [(iV 5), (iV 0)])) t
  refine XS.icmpNo X0.here hx rfl (D d16_7) rfl (tlt ((by decide) : (0 : Int32) < (5 : Int32))).2.1 ?_
  refine XS.aloadN X0.here hx rfl (D d16_10) rfl rfl ?_
  refine XS.iloadN X0.here hx rfl (D d16_11) rfl ?_
  exact kt
 obtain ⟨cl21, Ar21, q21, S21, N21, H21, G21⟩ := id A2
 have hin21 : ¬ ((0 : Int32) < 0 ∨ cl21.slots.size ≤ ((0 : Int32)).toNatClampNeg) := inb_of S21 ⟨by decide, by decide⟩
 have hat21 : cl21.slots[((0 : Int32)).toNatClampNeg]? = some (.int c0) := H21.at hin21 rfl
 have st21 := X0.caload hx (j := (0 : Int32)) (v := (.int c0)) (by rw [e0]; exact Ar21.1) (State.isArrayOf_alike hZ.alike Ar21.2.1) Ar21.2.2 hin21 hat21 (g := (fr_cp5_5 m a2 ta 12 (vI 0) (vI 0) (vI 0) .unset [(iV 0), (.ref a2)])) rfl rfl (D d16_12)
 refine ownBy st21 ?_
 show ownG p.tables e below _ (s₁.setTop (fr_cp5_5 m a2 ta 13 (vI 0) (vI 0) (vI 0) .unset [(.int c0)]))
 refine ownBy (A := s₁.setTop (fr_cp5_5 m a2 ta 20 (vI 0) (vI 0) (vI 0) (vI c0) [(iV 255), (.int c0)])) (fun t kt => ?_) ?_
 ·refine XS.istore X0.here hx rfl (D d16_13) rfl (l' := #[vR a2, vI 0, vR ta, vI 0, vI 5, vI 0, vI c0]) rfl ?_
  refine XS.iload X0.here hx rfl (D d16_15) rfl ?_
  refine XS.sipush X0.here hx rfl (D d16_17) ?_
  exact kt
 by_cases hc22 : (255 : Int32) < c0
 ·skip
  refine ownBy (A := s₁.setTop (fr_cp5_5 m a2 ta 25 (vI 0) (vI 0) (vI 0) (vI c0) [(iV 0)])) (fun t kt => ?_) ?_
  ·refine XS.icmpNo X0.here hx rfl (D d16_20) rfl (tlt hc22).2.2.2 ?_
   refine XS.iload X0.here hx rfl (D d16_23) rfl ?_
   exact kt
  refine ownRet X0 Bd.notSynchronized (v := some (iV 0)) (fun h => by rw [Bd.returns] at h; cases h) ?_ (oLe rfl) (oLe rfl) (fun fs hr => retI X0 hx Bd.returns (D d16_25) hr)
  show (Q_cp5_5 Z a2 kC ta kb c0 c1 c2 c3 c4 h0 n0) (some (iV 0)) s₁.heap _
  rw [e0]
  exact ⟨_, rfl, N0, (Keep.refl h0 [ta]), Or.inr (Or.inl ⟨rfl, hc22⟩)⟩
 ·skip
  refine ownBy (A := s₁.setTop (fr_cp5_5 m a2 ta 31 (vI 0) (vI 0) (vI 0) (vI c0) [(.int (c0.toInt8.toInt32)), (iV 0), (.ref ta)])) (fun t kt => ?_) ?_
  ·refine XS.icmpYes X0.here hx rfl (pc0 := 20) (pc' := 26) rfl (D d16_20) rfl (flt hc22).2.2.2 (by decide) (by decide) ?_
   refine XS.aloadN X0.here hx rfl (D d16_26) rfl rfl ?_
   refine XS.iloadN X0.here hx rfl (D d16_27) rfl ?_
   refine XS.iload X0.here hx rfl (D d16_28) rfl ?_
   show Steps p.tables e below (s₁.setTop (fr_cp5_5 m a2 ta 30 (vI 0) (vI 0) (vI 0) (vI c0) [(.int c0), (iV 0), (.ref ta)])) t
   refine XS.i2b X0.here hx rfl (D d16_30) rfl ?_
   exact kt
  obtain ⟨cl23, Ar23, q23, S23, N23, H23, G23⟩ := id At
  have hin23 : ¬ ((0 : Int32) < 0 ∨ cl23.slots.size ≤ ((0 : Int32)).toNatClampNeg) := inb_of S23 ⟨by decide, by decide⟩
  obtain ⟨T23, h23, X23, e23, W23, st23⟩ := stB X0 hx hZ e0 Ar23 (j := (0 : Int32)) hin23 (g := (fr_cp5_5 m a2 ta 31 (vI 0) (vI 0) (vI 0) (vI c0) [(.int (c0.toInt8.toInt32)), (iV 0), (.ref ta)])) rfl rfl (D d16_31)
  have V24 : Arv Z h23 ta kb .byte (5 : Int32) [(.int (nar .byte (c0.toInt8.toInt32))), (iV 0), (iV 0), (iV 0), (iV 0)] (iV 0) := Arv.set Ar23 q23 S23 N23 H23 G23 (fits_nar_byte _) W23 0 rfl (oLe rfl)
  rw [own_nar_byte c0] at V24
  clear hin23 G23 H23 N23 S23 q23 Ar23 cl23
  have N25 := Fr.snoc X23 N0 gt
  obtain ⟨Lh26, Xh26, Nh26⟩ := oHd 0 0 X23 N25 rfl rfl
  refine ownBy st23 ?_
  clear st23
  show ownG p.tables e below _ (T23.setTop (fr_cp5_5 m a2 ta 32 (vI 0) (vI 0) (vI 0) (vI c0) []))
  refine ownBy (A := T23.setTop (fr_cp5_5 m a2 ta 12 (vI 1) (vI 1) (vI 1) (vI c0) [(iV 1), (.ref a2)])) (fun t kt => ?_) ?_
  ·refine XS.iinc Xh26.here hx rfl (D d16_32) rfl (l' := #[vR a2, vI 1, vR ta, vI 0, vI 5, vI 0, vI c0]) rfl ?_
   refine XS.iinc Xh26.here hx rfl (D d16_35) rfl (l' := #[vR a2, vI 1, vR ta, vI 1, vI 5, vI 0, vI c0]) rfl ?_
   refine XS.iinc Xh26.here hx rfl (D d16_38) rfl (l' := #[vR a2, vI 1, vR ta, vI 1, vI 5, vI 1, vI c0]) rfl ?_
   refine XS.goto Xh26.here hx rfl (pc0 := 41) (pc' := 3) rfl (D d16_41) (by decide) (by decide) ?_
   show Steps p.tables e below (T23.setTop (fr_cp5_5 m a2 ta 3 (vI 1) (vI 1) (vI 1) (vI c0) [])) t
   refine XS.iload Xh26.here hx rfl (D d16_3) rfl ?_
   refine XS.iload Xh26.here hx rfl (D d16_5) rfl ?_
   refine XS.icmpNo Xh26.here hx rfl (D d16_7) rfl (tlt ((by decide) : (1 : Int32) < (5 : Int32))).2.1 ?_
   refine XS.aloadN Xh26.here hx rfl (D d16_10) rfl rfl ?_
   show Steps p.tables e below (T23.setTop (fr_cp5_5 m a2 ta 11 (vI 1) (vI 1) (vI 1) (vI c0) [(.ref a2)])) t
   refine XS.iloadN Xh26.here hx rfl (D d16_11) rfl ?_
   exact kt
  have f27 := (A2.other W23 ne1)
  obtain ⟨cl28, Ar28, q28, S28, N28, H28, G28⟩ := id f27
  have hin28 : ¬ ((1 : Int32) < 0 ∨ cl28.slots.size ≤ ((1 : Int32)).toNatClampNeg) := inb_of S28 ⟨by decide, by decide⟩
  have hat28 : cl28.slots[((1 : Int32)).toNatClampNeg]? = some (.int c1) := H28.at hin28 rfl
  have st28 := Xh26.caload hx (j := (1 : Int32)) (v := (.int c1)) (by rw [e23]; exact Ar28.1) (State.isArrayOf_alike hZ.alike Ar28.2.1) Ar28.2.2 hin28 hat28 (g := (fr_cp5_5 m a2 ta 12 (vI 1) (vI 1) (vI 1) (vI c0) [(iV 1), (.ref a2)])) rfl rfl (D d16_12)
  refine ownBy st28 ?_
  show ownG p.tables e below _ (T23.setTop (fr_cp5_5 m a2 ta 13 (vI 1) (vI 1) (vI 1) (vI c0) [(.int c1)]))
  refine ownBy (A := T23.setTop (fr_cp5_5 m a2 ta 20 (vI 1) (vI 1) (vI 1) (vI c1) [(iV 255), (.int c1)])) (fun t kt => ?_) ?_
  ·refine XS.istore Xh26.here hx rfl (D d16_13) rfl (l' := #[vR a2, vI 1, vR ta, vI 1, vI 5, vI 1, vI c1]) rfl ?_
   refine XS.iload Xh26.here hx rfl (D d16_15) rfl ?_
   refine XS.sipush Xh26.here hx rfl (D d16_17) ?_
   exact kt
  by_cases hc29 : (255 : Int32) < c1
  ·skip
   refine ownBy (A := T23.setTop (fr_cp5_5 m a2 ta 25 (vI 1) (vI 1) (vI 1) (vI c1) [(iV 1)])) (fun t kt => ?_) ?_
   ·refine XS.icmpNo Xh26.here hx rfl (D d16_20) rfl (tlt hc29).2.2.2 ?_
    refine XS.iload Xh26.here hx rfl (D d16_23) rfl ?_
    exact kt
   have f30 := ((Keep.refl h0 [ta]).wr W23 (Or.inl (List.mem_of_getElem? (i := 0) rfl)))
   refine ownRet Xh26 Bd.notSynchronized (v := some (iV 1)) (fun h => by rw [Bd.returns] at h; cases h) ?_ (oLe rfl) (oLe rfl) (fun fs hr => retI Xh26 hx Bd.returns (D d16_25) hr)
   show (Q_cp5_5 Z a2 kC ta kb c0 c1 c2 c3 c4 h0 n0) (some (iV 1)) T23.heap _
   rw [e23]
   exact ⟨_, rfl, Nh26, f30, Or.inr (Or.inr (Or.inl ⟨rfl, hc29⟩))⟩
  ·skip
   refine ownBy (A := T23.setTop (fr_cp5_5 m a2 ta 31 (vI 1) (vI 1) (vI 1) (vI c1) [(.int (c1.toInt8.toInt32)), (iV 1), (.ref ta)])) (fun t kt => ?_) ?_
   ·refine XS.icmpYes Xh26.here hx rfl (pc0 := 20) (pc' := 26) rfl (D d16_20) rfl (flt hc29).2.2.2 (by decide) (by decide) ?_
    refine XS.aloadN Xh26.here hx rfl (D d16_26) rfl rfl ?_
    refine XS.iloadN Xh26.here hx rfl (D d16_27) rfl ?_
    refine XS.iload Xh26.here hx rfl (D d16_28) rfl ?_
    show Steps p.tables e below (T23.setTop (fr_cp5_5 m a2 ta 30 (vI 1) (vI 1) (vI 1) (vI c1) [(.int c1), (iV 1), (.ref ta)])) t
    refine XS.i2b Xh26.here hx rfl (D d16_30) rfl ?_
    exact kt
   obtain ⟨cl31, Ar31, q31, S31, N31, H31, G31⟩ := id V24
   have hin31 : ¬ ((1 : Int32) < 0 ∨ cl31.slots.size ≤ ((1 : Int32)).toNatClampNeg) := inb_of S31 ⟨by decide, by decide⟩
   obtain ⟨T31, h31, X31, e31, W31, st31⟩ := stB Xh26 hx hZ e23 Ar31 (j := (1 : Int32)) hin31 (g := (fr_cp5_5 m a2 ta 31 (vI 1) (vI 1) (vI 1) (vI c1) [(.int (c1.toInt8.toInt32)), (iV 1), (.ref ta)])) rfl rfl (D d16_31)
   have V32 : Arv Z h31 ta kb .byte (5 : Int32) [(.int (oL c0)), (.int (nar .byte (c1.toInt8.toInt32))), (iV 0), (iV 0), (iV 0)] (iV 0) := Arv.set Ar31 q31 S31 N31 H31 G31 (fits_nar_byte _) W31 1 rfl (oLe rfl)
   rw [own_nar_byte c1] at V32
   clear hin31 G31 H31 N31 S31 q31 Ar31 cl31 V24
   have N33 := Fr.snoc X31 Nh26 gt
   obtain ⟨Lh34, Xh34, Nh34⟩ := oHd 0 0 X31 N33 rfl rfl
   refine ownBy st31 ?_
   clear st31
   show ownG p.tables e below _ (T31.setTop (fr_cp5_5 m a2 ta 32 (vI 1) (vI 1) (vI 1) (vI c1) []))
   refine ownBy (A := T31.setTop (fr_cp5_5 m a2 ta 12 (vI 2) (vI 2) (vI 2) (vI c1) [(iV 2), (.ref a2)])) (fun t kt => ?_) ?_
   ·refine XS.iinc Xh34.here hx rfl (D d16_32) rfl (l' := #[vR a2, vI 2, vR ta, vI 1, vI 5, vI 1, vI c1]) rfl ?_
    refine XS.iinc Xh34.here hx rfl (D d16_35) rfl (l' := #[vR a2, vI 2, vR ta, vI 2, vI 5, vI 1, vI c1]) rfl ?_
    refine XS.iinc Xh34.here hx rfl (D d16_38) rfl (l' := #[vR a2, vI 2, vR ta, vI 2, vI 5, vI 2, vI c1]) rfl ?_
    refine XS.goto Xh34.here hx rfl (pc0 := 41) (pc' := 3) rfl (D d16_41) (by decide) (by decide) ?_
    show Steps p.tables e below (T31.setTop (fr_cp5_5 m a2 ta 3 (vI 2) (vI 2) (vI 2) (vI c1) [])) t
    refine XS.iload Xh34.here hx rfl (D d16_3) rfl ?_
    refine XS.iload Xh34.here hx rfl (D d16_5) rfl ?_
    refine XS.icmpNo Xh34.here hx rfl (D d16_7) rfl (tlt ((by decide) : (2 : Int32) < (5 : Int32))).2.1 ?_
    refine XS.aloadN Xh34.here hx rfl (D d16_10) rfl rfl ?_
    show Steps p.tables e below (T31.setTop (fr_cp5_5 m a2 ta 11 (vI 2) (vI 2) (vI 2) (vI c1) [(.ref a2)])) t
    refine XS.iloadN Xh34.here hx rfl (D d16_11) rfl ?_
    exact kt
   have f35 := (f27.other W31 ne1)
   obtain ⟨cl36, Ar36, q36, S36, N36, H36, G36⟩ := id f35
   have hin36 : ¬ ((2 : Int32) < 0 ∨ cl36.slots.size ≤ ((2 : Int32)).toNatClampNeg) := inb_of S36 ⟨by decide, by decide⟩
   have hat36 : cl36.slots[((2 : Int32)).toNatClampNeg]? = some (.int c2) := H36.at hin36 rfl
   have st36 := Xh34.caload hx (j := (2 : Int32)) (v := (.int c2)) (by rw [e31]; exact Ar36.1) (State.isArrayOf_alike hZ.alike Ar36.2.1) Ar36.2.2 hin36 hat36 (g := (fr_cp5_5 m a2 ta 12 (vI 2) (vI 2) (vI 2) (vI c1) [(iV 2), (.ref a2)])) rfl rfl (D d16_12)
   refine ownBy st36 ?_
   show ownG p.tables e below _ (T31.setTop (fr_cp5_5 m a2 ta 13 (vI 2) (vI 2) (vI 2) (vI c1) [(.int c2)]))
   refine ownBy (A := T31.setTop (fr_cp5_5 m a2 ta 20 (vI 2) (vI 2) (vI 2) (vI c2) [(iV 255), (.int c2)])) (fun t kt => ?_) ?_
   ·refine XS.istore Xh34.here hx rfl (D d16_13) rfl (l' := #[vR a2, vI 2, vR ta, vI 2, vI 5, vI 2, vI c2]) rfl ?_
    refine XS.iload Xh34.here hx rfl (D d16_15) rfl ?_
    refine XS.sipush Xh34.here hx rfl (D d16_17) ?_
    exact kt
   by_cases hc37 : (255 : Int32) < c2
   ·skip
    refine ownBy (A := T31.setTop (fr_cp5_5 m a2 ta 25 (vI 2) (vI 2) (vI 2) (vI c2) [(iV 2)])) (fun t kt => ?_) ?_
    ·refine XS.icmpNo Xh34.here hx rfl (D d16_20) rfl (tlt hc37).2.2.2 ?_
     refine XS.iload Xh34.here hx rfl (D d16_23) rfl ?_
     exact kt
    have f38 := (((Keep.refl h0 [ta]).wr W23 (Or.inl (List.mem_of_getElem? (i := 0) rfl))).wr W31 (Or.inl (List.mem_of_getElem? (i := 0) rfl)))
    refine ownRet Xh34 Bd.notSynchronized (v := some (iV 2)) (fun h => by rw [Bd.returns] at h; cases h) ?_ (oLe rfl) (oLe rfl) (fun fs hr => retI Xh34 hx Bd.returns (D d16_25) hr)
    show (Q_cp5_5 Z a2 kC ta kb c0 c1 c2 c3 c4 h0 n0) (some (iV 2)) T31.heap _
    rw [e31]
    exact ⟨_, rfl, Nh34, f38, Or.inr (Or.inr (Or.inr (Or.inl ⟨rfl, hc37⟩)))⟩
   ·skip
    refine ownBy (A := T31.setTop (fr_cp5_5 m a2 ta 31 (vI 2) (vI 2) (vI 2) (vI c2) [(.int (c2.toInt8.toInt32)), (iV 2), (.ref ta)])) (fun t kt => ?_) ?_
    ·refine XS.icmpYes Xh34.here hx rfl (pc0 := 20) (pc' := 26) rfl (D d16_20) rfl (flt hc37).2.2.2 (by decide) (by decide) ?_
     refine XS.aloadN Xh34.here hx rfl (D d16_26) rfl rfl ?_
     refine XS.iloadN Xh34.here hx rfl (D d16_27) rfl ?_
     refine XS.iload Xh34.here hx rfl (D d16_28) rfl ?_
     show Steps p.tables e below (T31.setTop (fr_cp5_5 m a2 ta 30 (vI 2) (vI 2) (vI 2) (vI c2) [(.int c2), (iV 2), (.ref ta)])) t
     refine XS.i2b Xh34.here hx rfl (D d16_30) rfl ?_
     exact kt
    obtain ⟨cl39, Ar39, q39, S39, N39, H39, G39⟩ := id V32
    have hin39 : ¬ ((2 : Int32) < 0 ∨ cl39.slots.size ≤ ((2 : Int32)).toNatClampNeg) := inb_of S39 ⟨by decide, by decide⟩
    obtain ⟨T39, h39, X39, e39, W39, st39⟩ := stB Xh34 hx hZ e31 Ar39 (j := (2 : Int32)) hin39 (g := (fr_cp5_5 m a2 ta 31 (vI 2) (vI 2) (vI 2) (vI c2) [(.int (c2.toInt8.toInt32)), (iV 2), (.ref ta)])) rfl rfl (D d16_31)
    have V40 : Arv Z h39 ta kb .byte (5 : Int32) [(.int (oL c0)), (.int (oL c1)), (.int (nar .byte (c2.toInt8.toInt32))), (iV 0), (iV 0)] (iV 0) := Arv.set Ar39 q39 S39 N39 H39 G39 (fits_nar_byte _) W39 2 rfl (oLe rfl)
    rw [own_nar_byte c2] at V40
    clear hin39 G39 H39 N39 S39 q39 Ar39 cl39 V32
    have N41 := Fr.snoc X39 Nh34 gt
    obtain ⟨Lh42, Xh42, Nh42⟩ := oHd 0 0 X39 N41 rfl rfl
    refine ownBy st39 ?_
    clear st39
    show ownG p.tables e below _ (T39.setTop (fr_cp5_5 m a2 ta 32 (vI 2) (vI 2) (vI 2) (vI c2) []))
    refine ownBy (A := T39.setTop (fr_cp5_5 m a2 ta 12 (vI 3) (vI 3) (vI 3) (vI c2) [(iV 3), (.ref a2)])) (fun t kt => ?_) ?_
    ·refine XS.iinc Xh42.here hx rfl (D d16_32) rfl (l' := #[vR a2, vI 3, vR ta, vI 2, vI 5, vI 2, vI c2]) rfl ?_
     refine XS.iinc Xh42.here hx rfl (D d16_35) rfl (l' := #[vR a2, vI 3, vR ta, vI 3, vI 5, vI 2, vI c2]) rfl ?_
     refine XS.iinc Xh42.here hx rfl (D d16_38) rfl (l' := #[vR a2, vI 3, vR ta, vI 3, vI 5, vI 3, vI c2]) rfl ?_
     refine XS.goto Xh42.here hx rfl (pc0 := 41) (pc' := 3) rfl (D d16_41) (by decide) (by decide) ?_
     show Steps p.tables e below (T39.setTop (fr_cp5_5 m a2 ta 3 (vI 3) (vI 3) (vI 3) (vI c2) [])) t
     refine XS.iload Xh42.here hx rfl (D d16_3) rfl ?_
     refine XS.iload Xh42.here hx rfl (D d16_5) rfl ?_
     refine XS.icmpNo Xh42.here hx rfl (D d16_7) rfl (tlt ((by decide) : (3 : Int32) < (5 : Int32))).2.1 ?_
     refine XS.aloadN Xh42.here hx rfl (D d16_10) rfl rfl ?_
     show Steps p.tables e below (T39.setTop (fr_cp5_5 m a2 ta 11 (vI 3) (vI 3) (vI 3) (vI c2) [(.ref a2)])) t
     refine XS.iloadN Xh42.here hx rfl (D d16_11) rfl ?_
     exact kt
    have f43 := (f35.other W39 ne1)
    obtain ⟨cl44, Ar44, q44, S44, N44, H44, G44⟩ := id f43
    have hin44 : ¬ ((3 : Int32) < 0 ∨ cl44.slots.size ≤ ((3 : Int32)).toNatClampNeg) := inb_of S44 ⟨by decide, by decide⟩
    have hat44 : cl44.slots[((3 : Int32)).toNatClampNeg]? = some (.int c3) := H44.at hin44 rfl
    have st44 := Xh42.caload hx (j := (3 : Int32)) (v := (.int c3)) (by rw [e39]; exact Ar44.1) (State.isArrayOf_alike hZ.alike Ar44.2.1) Ar44.2.2 hin44 hat44 (g := (fr_cp5_5 m a2 ta 12 (vI 3) (vI 3) (vI 3) (vI c2) [(iV 3), (.ref a2)])) rfl rfl (D d16_12)
    refine ownBy st44 ?_
    show ownG p.tables e below _ (T39.setTop (fr_cp5_5 m a2 ta 13 (vI 3) (vI 3) (vI 3) (vI c2) [(.int c3)]))
    refine ownBy (A := T39.setTop (fr_cp5_5 m a2 ta 20 (vI 3) (vI 3) (vI 3) (vI c3) [(iV 255), (.int c3)])) (fun t kt => ?_) ?_
    ·refine XS.istore Xh42.here hx rfl (D d16_13) rfl (l' := #[vR a2, vI 3, vR ta, vI 3, vI 5, vI 3, vI c3]) rfl ?_
     refine XS.iload Xh42.here hx rfl (D d16_15) rfl ?_
     refine XS.sipush Xh42.here hx rfl (D d16_17) ?_
     exact kt
    by_cases hc45 : (255 : Int32) < c3
    ·skip
     refine ownBy (A := T39.setTop (fr_cp5_5 m a2 ta 25 (vI 3) (vI 3) (vI 3) (vI c3) [(iV 3)])) (fun t kt => ?_) ?_
     ·refine XS.icmpNo Xh42.here hx rfl (D d16_20) rfl (tlt hc45).2.2.2 ?_
      refine XS.iload Xh42.here hx rfl (D d16_23) rfl ?_
      exact kt
     have f46 := ((((Keep.refl h0 [ta]).wr W23 (Or.inl (List.mem_of_getElem? (i := 0) rfl))).wr W31 (Or.inl (List.mem_of_getElem? (i := 0) rfl))).wr W39 (Or.inl (List.mem_of_getElem? (i := 0) rfl)))
     refine ownRet Xh42 Bd.notSynchronized (v := some (iV 3)) (fun h => by rw [Bd.returns] at h; cases h) ?_ (oLe rfl) (oLe rfl) (fun fs hr => retI Xh42 hx Bd.returns (D d16_25) hr)
     show (Q_cp5_5 Z a2 kC ta kb c0 c1 c2 c3 c4 h0 n0) (some (iV 3)) T39.heap _
     rw [e39]
     exact ⟨_, rfl, Nh42, f46, Or.inr (Or.inr (Or.inr (Or.inr (Or.inl ⟨rfl, hc45⟩))))⟩
    ·skip
     refine ownBy (A := T39.setTop (fr_cp5_5 m a2 ta 31 (vI 3) (vI 3) (vI 3) (vI c3) [(.int (c3.toInt8.toInt32)), (iV 3), (.ref ta)])) (fun t kt => ?_) ?_
     ·refine XS.icmpYes Xh42.here hx rfl (pc0 := 20) (pc' := 26) rfl (D d16_20) rfl (flt hc45).2.2.2 (by decide) (by decide) ?_
      refine XS.aloadN Xh42.here hx rfl (D d16_26) rfl rfl ?_
      refine XS.iloadN Xh42.here hx rfl (D d16_27) rfl ?_
      refine XS.iload Xh42.here hx rfl (D d16_28) rfl ?_
      show Steps p.tables e below (T39.setTop (fr_cp5_5 m a2 ta 30 (vI 3) (vI 3) (vI 3) (vI c3) [(.int c3), (iV 3), (.ref ta)])) t
      refine XS.i2b Xh42.here hx rfl (D d16_30) rfl ?_
      exact kt
     obtain ⟨cl47, Ar47, q47, S47, N47, H47, G47⟩ := id V40
     have hin47 : ¬ ((3 : Int32) < 0 ∨ cl47.slots.size ≤ ((3 : Int32)).toNatClampNeg) := inb_of S47 ⟨by decide, by decide⟩
     obtain ⟨T47, h47, X47, e47, W47, st47⟩ := stB Xh42 hx hZ e39 Ar47 (j := (3 : Int32)) hin47 (g := (fr_cp5_5 m a2 ta 31 (vI 3) (vI 3) (vI 3) (vI c3) [(.int (c3.toInt8.toInt32)), (iV 3), (.ref ta)])) rfl rfl (D d16_31)
     have V48 : Arv Z h47 ta kb .byte (5 : Int32) [(.int (oL c0)), (.int (oL c1)), (.int (oL c2)), (.int (nar .byte (c3.toInt8.toInt32))), (iV 0)] (iV 0) := Arv.set Ar47 q47 S47 N47 H47 G47 (fits_nar_byte _) W47 3 rfl (oLe rfl)
     rw [own_nar_byte c3] at V48
     clear hin47 G47 H47 N47 S47 q47 Ar47 cl47 V40
     have N49 := Fr.snoc X47 Nh42 gt
     obtain ⟨Lh50, Xh50, Nh50⟩ := oHd 0 0 X47 N49 rfl rfl
     refine ownBy st47 ?_
     clear st47
     show ownG p.tables e below _ (T47.setTop (fr_cp5_5 m a2 ta 32 (vI 3) (vI 3) (vI 3) (vI c3) []))
     refine ownBy (A := T47.setTop (fr_cp5_5 m a2 ta 12 (vI 4) (vI 4) (vI 4) (vI c3) [(iV 4), (.ref a2)])) (fun t kt => ?_) ?_
     ·refine XS.iinc Xh50.here hx rfl (D d16_32) rfl (l' := #[vR a2, vI 4, vR ta, vI 3, vI 5, vI 3, vI c3]) rfl ?_
      refine XS.iinc Xh50.here hx rfl (D d16_35) rfl (l' := #[vR a2, vI 4, vR ta, vI 4, vI 5, vI 3, vI c3]) rfl ?_
      refine XS.iinc Xh50.here hx rfl (D d16_38) rfl (l' := #[vR a2, vI 4, vR ta, vI 4, vI 5, vI 4, vI c3]) rfl ?_
      refine XS.goto Xh50.here hx rfl (pc0 := 41) (pc' := 3) rfl (D d16_41) (by decide) (by decide) ?_
      show Steps p.tables e below (T47.setTop (fr_cp5_5 m a2 ta 3 (vI 4) (vI 4) (vI 4) (vI c3) [])) t
      refine XS.iload Xh50.here hx rfl (D d16_3) rfl ?_
      refine XS.iload Xh50.here hx rfl (D d16_5) rfl ?_
      refine XS.icmpNo Xh50.here hx rfl (D d16_7) rfl (tlt ((by decide) : (4 : Int32) < (5 : Int32))).2.1 ?_
      refine XS.aloadN Xh50.here hx rfl (D d16_10) rfl rfl ?_
      show Steps p.tables e below (T47.setTop (fr_cp5_5 m a2 ta 11 (vI 4) (vI 4) (vI 4) (vI c3) [(.ref a2)])) t
      refine XS.iloadN Xh50.here hx rfl (D d16_11) rfl ?_
      exact kt
     have f51 := (f43.other W47 ne1)
     obtain ⟨cl52, Ar52, q52, S52, N52, H52, G52⟩ := id f51
     have hin52 : ¬ ((4 : Int32) < 0 ∨ cl52.slots.size ≤ ((4 : Int32)).toNatClampNeg) := inb_of S52 ⟨by decide, by decide⟩
     have hat52 : cl52.slots[((4 : Int32)).toNatClampNeg]? = some (.int c4) := H52.at hin52 rfl
     have st52 := Xh50.caload hx (j := (4 : Int32)) (v := (.int c4)) (by rw [e47]; exact Ar52.1) (State.isArrayOf_alike hZ.alike Ar52.2.1) Ar52.2.2 hin52 hat52 (g := (fr_cp5_5 m a2 ta 12 (vI 4) (vI 4) (vI 4) (vI c3) [(iV 4), (.ref a2)])) rfl rfl (D d16_12)
     refine ownBy st52 ?_
     show ownG p.tables e below _ (T47.setTop (fr_cp5_5 m a2 ta 13 (vI 4) (vI 4) (vI 4) (vI c3) [(.int c4)]))
     refine ownBy (A := T47.setTop (fr_cp5_5 m a2 ta 20 (vI 4) (vI 4) (vI 4) (vI c4) [(iV 255), (.int c4)])) (fun t kt => ?_) ?_
     ·refine XS.istore Xh50.here hx rfl (D d16_13) rfl (l' := #[vR a2, vI 4, vR ta, vI 4, vI 5, vI 4, vI c4]) rfl ?_
      refine XS.iload Xh50.here hx rfl (D d16_15) rfl ?_
      refine XS.sipush Xh50.here hx rfl (D d16_17) ?_
      exact kt
     by_cases hc53 : (255 : Int32) < c4
     ·skip
      refine ownBy (A := T47.setTop (fr_cp5_5 m a2 ta 25 (vI 4) (vI 4) (vI 4) (vI c4) [(iV 4)])) (fun t kt => ?_) ?_
      ·refine XS.icmpNo Xh50.here hx rfl (D d16_20) rfl (tlt hc53).2.2.2 ?_
       refine XS.iload Xh50.here hx rfl (D d16_23) rfl ?_
       exact kt
      have f54 := (((((Keep.refl h0 [ta]).wr W23 (Or.inl (List.mem_of_getElem? (i := 0) rfl))).wr W31 (Or.inl (List.mem_of_getElem? (i := 0) rfl))).wr W39 (Or.inl (List.mem_of_getElem? (i := 0) rfl))).wr W47 (Or.inl (List.mem_of_getElem? (i := 0) rfl)))
      refine ownRet Xh50 Bd.notSynchronized (v := some (iV 4)) (fun h => by rw [Bd.returns] at h; cases h) ?_ (oLe rfl) (oLe rfl) (fun fs hr => retI Xh50 hx Bd.returns (D d16_25) hr)
      show (Q_cp5_5 Z a2 kC ta kb c0 c1 c2 c3 c4 h0 n0) (some (iV 4)) T47.heap _
      rw [e47]
      exact ⟨_, rfl, Nh50, f54, Or.inr (Or.inr (Or.inr (Or.inr (Or.inr (⟨rfl, hc53⟩)))))⟩
     ·skip
      refine ownBy (A := T47.setTop (fr_cp5_5 m a2 ta 31 (vI 4) (vI 4) (vI 4) (vI c4) [(.int (c4.toInt8.toInt32)), (iV 4), (.ref ta)])) (fun t kt => ?_) ?_
      ·refine XS.icmpYes Xh50.here hx rfl (pc0 := 20) (pc' := 26) rfl (D d16_20) rfl (flt hc53).2.2.2 (by decide) (by decide) ?_
       refine XS.aloadN Xh50.here hx rfl (D d16_26) rfl rfl ?_
       refine XS.iloadN Xh50.here hx rfl (D d16_27) rfl ?_
       refine XS.iload Xh50.here hx rfl (D d16_28) rfl ?_
       show Steps p.tables e below (T47.setTop (fr_cp5_5 m a2 ta 30 (vI 4) (vI 4) (vI 4) (vI c4) [(.int c4), (iV 4), (.ref ta)])) t
       refine XS.i2b Xh50.here hx rfl (D d16_30) rfl ?_
       exact kt
      obtain ⟨cl55, Ar55, q55, S55, N55, H55, G55⟩ := id V48
      have hin55 : ¬ ((4 : Int32) < 0 ∨ cl55.slots.size ≤ ((4 : Int32)).toNatClampNeg) := inb_of S55 ⟨by decide, by decide⟩
      obtain ⟨T55, h55, X55, e55, W55, st55⟩ := stB Xh50 hx hZ e47 Ar55 (j := (4 : Int32)) hin55 (g := (fr_cp5_5 m a2 ta 31 (vI 4) (vI 4) (vI 4) (vI c4) [(.int (c4.toInt8.toInt32)), (iV 4), (.ref ta)])) rfl rfl (D d16_31)
      have V56 : Arv Z h55 ta kb .byte (5 : Int32) [(.int (oL c0)), (.int (oL c1)), (.int (oL c2)), (.int (oL c3)), (.int (nar .byte (c4.toInt8.toInt32)))] (iV 0) := Arv.set Ar55 q55 S55 N55 H55 G55 (fits_nar_byte _) W55 4 rfl (oLe rfl)
      rw [own_nar_byte c4] at V56
      clear hin55 G55 H55 N55 S55 q55 Ar55 cl55 V48
      have N57 := Fr.snoc X55 Nh50 gt
      obtain ⟨Lh58, Xh58, Nh58⟩ := oHd 0 0 X55 N57 rfl rfl
      refine ownBy st55 ?_
      clear st55
      show ownG p.tables e below _ (T55.setTop (fr_cp5_5 m a2 ta 32 (vI 4) (vI 4) (vI 4) (vI c4) []))
      refine ownBy (A := T55.setTop (fr_cp5_5 m a2 ta 46 (vI 5) (vI 5) (vI 5) (vI c4) [(iV 5)])) (fun t kt => ?_) ?_
      ·refine XS.iinc Xh58.here hx rfl (D d16_32) rfl (l' := #[vR a2, vI 5, vR ta, vI 4, vI 5, vI 4, vI c4]) rfl ?_
       refine XS.iinc Xh58.here hx rfl (D d16_35) rfl (l' := #[vR a2, vI 5, vR ta, vI 5, vI 5, vI 4, vI c4]) rfl ?_
       refine XS.iinc Xh58.here hx rfl (D d16_38) rfl (l' := #[vR a2, vI 5, vR ta, vI 5, vI 5, vI 5, vI c4]) rfl ?_
       refine XS.goto Xh58.here hx rfl (pc0 := 41) (pc' := 3) rfl (D d16_41) (by decide) (by decide) ?_
       show Steps p.tables e below (T55.setTop (fr_cp5_5 m a2 ta 3 (vI 5) (vI 5) (vI 5) (vI c4) [])) t
       refine XS.iload Xh58.here hx rfl (D d16_3) rfl ?_
       refine XS.iload Xh58.here hx rfl (D d16_5) rfl ?_
       refine XS.icmpYes Xh58.here hx rfl (pc0 := 7) (pc' := 44) rfl (D d16_7) rfl (flt ((by decide) : ¬ ((5 : Int32) < (5 : Int32)))).2.1 (by decide) (by decide) ?_
       refine XS.iload Xh58.here hx rfl (D d16_44) rfl ?_
       exact kt
      have f59 := ((((((Keep.refl h0 [ta]).wr W23 (Or.inl (List.mem_of_getElem? (i := 0) rfl))).wr W31 (Or.inl (List.mem_of_getElem? (i := 0) rfl))).wr W39 (Or.inl (List.mem_of_getElem? (i := 0) rfl))).wr W47 (Or.inl (List.mem_of_getElem? (i := 0) rfl))).wr W55 (Or.inl (List.mem_of_getElem? (i := 0) rfl)))
      refine ownRet Xh58 Bd.notSynchronized (v := some (iV 5)) (fun h => by rw [Bd.returns] at h; cases h) ?_ (oLe rfl) (oLe rfl) (fun fs hr => retI Xh58 hx Bd.returns (D d16_46) hr)
      show (Q_cp5_5 Z a2 kC ta kb c0 c1 c2 c3 c4 h0 n0) (some (iV 5)) T55.heap _
      rw [e55]
      exact ⟨_, rfl, Nh58, f59, Or.inl ⟨rfl, hc22, hc29, hc37, hc45, hc53, V56⟩⟩
abbrev fr_cp3_5 (m : MethodId) (a2 : Addr) (pc : Nat) (x3_ x4_ x5_ : Slot) (st : List Value) : JFrame := mkF m pc #[vR a2, vI 0, vI 5, x3_, x4_, x5_] st
def Q_cp3_5 (Z : State) (a2 : Addr) (kC : ClassId) (c0 : Int32) (c1 : Int32) (c2 : Int32) (c3 : Int32) (c4 : Int32) (h0 : Heap) (n0 : Nat) (v : Option Value) (h : Heap) (L : List Loc) : Prop := ∃ (ta : Addr) (kb : ClassId), v = some (.ref ta) ∧ Fr n0 L ∧ Keep h0 h [] ∧ h0.size ≤ ta ∧ ((¬ ((255 : Int32) < c0) ∧ ¬ ((255 : Int32) < c1) ∧ ¬ ((255 : Int32) < c2) ∧ ¬ ((255 : Int32) < c3) ∧ ¬ ((255 : Int32) < c4) ∧ Arv Z h ta kb .byte (5 : Int32) [(.int (oL c0)), (.int (oL c1)), (.int (oL c2)), (.int (oL c3)), (.int (oL c4))] (iV 0)) ∨ (((255 : Int32) < c0 ∨ (255 : Int32) < c1 ∨ (255 : Int32) < c2 ∨ (255 : Int32) < c3 ∨ (255 : Int32) < c4) ∧ Arv Z h ta kb .byte (10 : Int32) [(.int (oW c0)), (.int (oH c0)), (.int (oW c1)), (.int (oH c1)), (.int (oW c2)), (.int (oH c2)), (.int (oW c3)), (.int (oH c3)), (.int (oW c4)), (.int (oH c4))] (iV 0)))
theorem ef_cp3_5 (m : MethodId) (x0 : Addr) (x1 : Int32) (x2 : Int32)  : entryFrame m #[(.ref x0), (.int x1), (.int x2)] 6 = mkF m 0 #[vR x0, vI x1, vI x2, .unset, .unset, .unset] [] := by first | (simp [entryFrame, mkF, argsToLocals, Value.category]; done) | rfl
set_option maxRecDepth 65536 in
set_option maxHeartbeats 40000000 in
theorem c_cp3_5 (l : Launch) (Z : State) (a0 : Array Value) (hw : ∀ d ∈ tables_1, d.before a0 Z = true) (ws : List Jvm.Cond) (a2 : Addr) (kC : ClassId) (c0 : Int32) (c1 : Int32) (c2 : Int32) (c3 : Int32) (c4 : Int32) (h0 : Heap) (n0 : Nat) (Z0 : n0 ≤ h0.size) (A2 : Arv Z h0 a2 kC .char (5 : Int32) [(.int c0), (.int c1), (.int c2), (.int c3), (.int c4)] (iV 0)) (hc0 : ¬ c0 < 0 ∧ ¬ (65535 : Int32) < c0) (hc1 : ¬ c1 < 0 ∧ ¬ (65535 : Int32) < c1) (hc2 : ¬ c2 < 0 ∧ ¬ (65535 : Int32) < c2) (hc3 : ¬ c3 < 0 ∧ ¬ (65535 : Int32) < c3) (hc4 : ¬ c4 < 0 ∧ ¬ (65535 : Int32) < c4) (SA : Sta Z Z.heap "java/lang/StringUTF16" "$assertionsDisabled" "Z" (iV 1)) (SHI : Sta Z Z.heap "java/lang/StringUTF16" "HI_BYTE_SHIFT" "I" (iV 0)) (SLO : Sta Z Z.heap "java/lang/StringUTF16" "LO_BYTE_SHIFT" "I" (iV 8)) (X00 : Old Z n0 h0) :
  MetFree l yM9 (head1 (Jvm.Cond.code yM9 jdk_52_method_16_code 6 (some (.array .byte)) :: ws) ({ frames := 3, cells := 2, slots := 15, locals := 40 } : Room)) (fun a U => a = #[(.ref a2), (iV 0), (iV 5)] ∧ Z.Warmed39 U.vm ∧ U.heap = h0) (fun _ _ _ _ _ => True) (fun _ U o U' => ∃ v L, o = .returned v ∧ (Q_cp3_5 Z a2 kC c0 c1 c2 c3 c4 h0 n0) v U'.heap L ∧ FrameEnd U o U' L ({ frames := 3, cells := 2, slots := 15, locals := 40 } : Room).cells ({ frames := 3, cells := 2, slots := 15, locals := 40 } : Room).slots) := by
 refine MetFree.of_bodySF (plainFor_of_name pn_3) hisR ?_
 intro p e s m args below meth c s₁ Bd hml0 hP hK
 obtain ⟨rfl, hZ, hHp⟩ := hP
 have hx := Bd.exec
 have D := fun {pc : Nat} {r} (h : decode _ pc = r) => hb Bd.bytes h
 have hml : c.maxLocals = 6 := hml0
 have hown : s.vm.findClass "java/lang/StringUTF16" = some m.cls := findClass_of_methodNamed Bd.named
 have hnm := (name_of_methodNamed Bd.named Bd.method).1
 have X0 : Stand p l e ({ frames := 3, cells := 2, slots := 15, locals := 40 } : Room) s m #[(.ref a2), (iV 0), (iV 5)] below meth c s₁ [] 0 0 := Stand.of_body Bd
 have e0 : s₁.heap = h0 := by rw [← hHp, Bd.state]; rfl
 have N0 := Fr.nil n0
 refine ownOut (P := (Q_cp3_5 Z a2 kC c0 c1 c2 c3 c4 h0 n0)) ?_
 refine ownBy (A := s₁.setTop (mkF m 0 #[vR a2, vI 0, vI 5, .unset, .unset, .unset] [])) (fun t k => castTop (ef_cp3_5 m a2 (0 : Int32) (5 : Int32)) k) ?_
 refine ownBy (A := s₁.setTop (fr_cp3_5 m a2 1 .unset .unset .unset [(iV 5)])) (fun t kt => ?_) ?_
 ·refine XS.iloadN X0.here hx rfl (D d15_0) rfl ?_
  exact kt
 obtain ⟨T21, h21, k21, X21, e21, E21, A21, st21⟩ := newP X0 hx hZ (aty := .byte) (Wd21 hw) e0 (g := (fr_cp3_5 m a2 1 .unset .unset .unset [(iV 5)])) rfl (D d15_1) rfl (by decide : ¬ ((5 : Int32) < (0 : Int32))) (cap := 5) (by decide) (by decide) (by decide) (by decide)
 obtain ⟨b21, g21⟩ : ∃ z, z = h0.size := ⟨_, rfl⟩
 rw [← g21] at A21 st21
 have ne22 : a2 ≠ b21 := Nat.ne_of_lt (Nat.lt_of_lt_of_le A2.lt (Nat.le_of_eq g21.symm))
 have g23 : n0 ≤ b21 := Nat.le_trans Z0 (Nat.le_of_eq g21.symm)
 have z24 : h0.size ≤ b21 := Nat.le_trans (Nat.le_refl h0.size) (Nat.le_of_eq g21.symm)
 have V25 : Arv Z h21 b21 k21 .byte (5 : Int32) [(iV 0), (iV 0), (iV 0), (iV 0), (iV 0)] (iV 0) := (Arv.new A21 (by decide)).pad (pad_rep [] (iV 0) 5)
 refine ownBy st21 ?_
 clear st21
 show ownG p.tables e below _ (T21.setTop (fr_cp3_5 m a2 3 .unset .unset .unset [(.ref b21)]))
 refine ownBy (A := T21.setTop (fr_cp3_5 m a2 9 (vR b21) .unset .unset [(iV 5), (iV 0), (.ref b21), (iV 0), (.ref a2)])) (fun t kt => ?_) ?_
 ·refine XS.astoreN X21.here hx rfl (D d15_3) rfl rfl (l' := #[vR a2, vI 0, vI 5, vR b21, .unset, .unset]) rfl ?_
  refine XS.aloadN X21.here hx rfl (D d15_4) rfl rfl ?_
  refine XS.iloadN X21.here hx rfl (D d15_5) rfl ?_
  refine XS.aloadN X21.here hx rfl (D d15_6) rfl rfl ?_
  show Steps p.tables e below (T21.setTop (fr_cp3_5 m a2 7 (vR b21) .unset .unset [(.ref b21), (iV 0), (.ref a2)])) t
  refine XS.iconst X21.here hx rfl (D d15_7) ?_
  refine XS.iloadN X21.here hx rfl (D d15_8) rfl ?_
  exact kt
 have f26 := (A2.ext E21)
 have f27 := (Nat.le_trans Z0 E21.1)
 obtain ⟨vv28, _, ⟨T28, L28, k28, n28⟩, -, X28, ⟨Lc28, hQ28, l28, y28, z28⟩, st28⟩ := Jvm.LawKit.callS X21 hx (y := yM8) hown (mvT hZ (Wd76 hw)) (mvT hZ (Wd77 hw)) (mvT hZ (Wd74 hw)) (mvT hZ (Wd78 hw)) (by decide) (backOf (W := 0) (c_cp5_5 l Z a0 hw [] a2 kC b21 k21 c0 c1 c2 c3 c4 h21 n0 f27 f26 V25 g23 ne22) hZ (Wd78 hw) (Wd74 hw) (by decide) (by decide)) (g := (fr_cp3_5 m a2 9 (vR b21) .unset .unset [(iV 5), (iV 0), (.ref b21), (iV 0), (.ref a2)])) rfl (by rw [hml]; rfl) (argsL := [(.ref a2), (iV 0), (.ref b21), (iV 0), (iV 5)]) (rest := []) (lenOf pd_7 rfl) rfl (by show 2 * 0 + _ ≤ _; exact Nat.le_of_eq rfl) (D d15_9) (fun _ _ => ⟨rfl, e21, (by decide : 1 + 0 ≤ _), (by decide : 5 + 0 ≤ _)⟩)
 dsimp only [Pt.U, Pt.locs, Pt.cells, Pt.slots] at X28 l28 y28 z28 st28 hQ28
 subst l28 y28 z28
 obtain ⟨r28, rfl, Nq28, Kq28, hB28⟩ := hQ28
 rcases hB28 with ⟨rfl, hn28_0, hn28_1, hn28_2, hn28_3, hn28_4, Aq28⟩ | hF
 ·skip
  have N29 := Fr.app N0 Nq28
  obtain ⟨Lh30, Xh30, Nh30⟩ := oHd 1 5 X28 N29 rfl rfl
  refine ownBy st28 ?_
  clear st28
  show ownG p.tables e below _ (T28.setTop (fr_cp3_5 m a2 12 (vR b21) .unset .unset [(iV 5)]))
  refine ownBy (A := T28.setTop (fr_cp3_5 m a2 58 (vR b21) (vI 5) .unset [(.ref b21)])) (fun t kt => ?_) ?_
  ·refine XS.istore Xh30.here hx rfl (D d15_12) rfl (l' := #[vR a2, vI 0, vI 5, vR b21, vI 5, .unset]) rfl ?_
   refine XS.iload Xh30.here hx rfl (D d15_14) rfl ?_
   refine XS.iloadN Xh30.here hx rfl (D d15_16) rfl ?_
   refine XS.icmpYes Xh30.here hx rfl (pc0 := 17) (pc' := 57) rfl (D d15_17) rfl (teq ((by decide) : (5 : Int32) = (5 : Int32))).1 (by decide) (by decide) ?_
   show Steps p.tables e below (T28.setTop (fr_cp3_5 m a2 57 (vR b21) (vI 5) .unset [])) t
   refine XS.aloadN Xh30.here hx rfl (D d15_57) rfl rfl ?_
   exact kt
  have f31 := (((Keep.refl h0 []).ext E21).trans Kq28 (allS (Or.inr z24) all0))
  refine ownRet Xh30 Bd.notSynchronized (v := some (.ref b21)) (fun h => by rw [Bd.returns] at h; cases h) ?_ (oLe rfl) (oLe rfl) (fun fs hr => retOut Xh30 hx Bd.returns rfl (Or.inr (Or.inr (Or.inr (Or.inr ⟨rfl, rfl, rfl⟩)))) (D d15_58) hr)
  show (Q_cp3_5 Z a2 kC c0 c1 c2 c3 c4 h0 n0) (some (.ref b21)) T28.heap _
  exact ⟨b21, k21, rfl, Nh30, f31, z24, Or.inl ⟨hn28_0, hn28_1, hn28_2, hn28_3, hn28_4, Aq28⟩⟩
 ·skip
  have N32 := Fr.app N0 Nq28
  obtain ⟨Lh33, Xh33, Nh33⟩ := oHd 1 5 X28 N32 rfl rfl
  refine ownBy st28 ?_
  clear st28
  show ownG p.tables e below _ (T28.setTop (fr_cp3_5 m a2 12 (vR b21) .unset .unset [(.int r28)]))
  have hr : ¬ (r28 = (5 : Int32)) := by
   rcases hF with ⟨rfl, -⟩ | ⟨rfl, -⟩ | ⟨rfl, -⟩ | ⟨rfl, -⟩ | ⟨rfl, -⟩ <;> decide
  refine ownBy (A := T28.setTop (fr_cp3_5 m a2 23 (vR b21) (vI r28) .unset [(iV 5), (iV 0), (.ref a2)])) (fun t kt => ?_) ?_
  ·refine XS.istore Xh33.here hx rfl (D d15_12) rfl (l' := #[vR a2, vI 0, vI 5, vR b21, vI r28, .unset]) rfl ?_
   refine XS.iload Xh33.here hx rfl (D d15_14) rfl ?_
   refine XS.iloadN Xh33.here hx rfl (D d15_16) rfl ?_
   refine XS.icmpNo Xh33.here hx rfl (D d15_17) rfl (feq hr).1 ?_
   show Steps p.tables e below (T28.setTop (fr_cp3_5 m a2 20 (vR b21) (vI r28) .unset [])) t
   refine XS.aloadN Xh33.here hx rfl (D d15_20) rfl rfl ?_
   refine XS.iloadN Xh33.here hx rfl (D d15_21) rfl ?_
   refine XS.iloadN Xh33.here hx rfl (D d15_22) rfl ?_
   exact kt
  have f34 := (f26.keep Kq28 (ninS ne22 nin0))
  have f35 := ((X00.ext E21).keep Kq28 (allS g23 all0))
  have f36 := (Nat.le_trans f27 Kq28.1)
  obtain ⟨vv37, _, ⟨T37, L37, k37, n37⟩, -, X37, ⟨Lc37, hQ37, l37, y37, z37⟩, st37⟩ := Jvm.LawKit.callS Xh33 hx (y := yM7) hown (mvT hZ (Wd85 hw)) (mvT hZ (Wd86 hw)) (mvT hZ (Wd74 hw)) (mvT hZ (Wd87 hw)) (by decide) (backOf (W := 0) (c_tob5 l Z a0 hw [] a2 kC c0 c1 c2 c3 c4 T28.heap n0 f36 f34 SA SHI SLO f35) hZ (Wd87 hw) (Wd74 hw) (by decide) (by decide)) (g := (fr_cp3_5 m a2 23 (vR b21) (vI r28) .unset [(iV 5), (iV 0), (.ref a2)])) rfl (by rw [hml]; rfl) (argsL := [(.ref a2), (iV 0), (iV 5)]) (rest := []) (lenOf pd_8 rfl) rfl (by show 2 * 0 + _ ≤ _; exact Nat.le_of_eq rfl) (D d15_23) (fun _ _ => ⟨rfl, rfl, (by decide : 1 + 1 ≤ _), (by decide : 5 + 10 ≤ _)⟩)
  dsimp only [Pt.U, Pt.locs, Pt.cells, Pt.slots] at X37 l37 y37 z37 st37 hQ37
  subst l37 y37 z37
  obtain ⟨t37, kb37, rfl, Nq37, Kq37, zq37, Aq37⟩ := hQ37
  have ne38 : a2 ≠ t37 := Nat.ne_of_lt (Nat.lt_of_lt_of_le f34.lt zq37)
  have g39 : n0 ≤ t37 := Nat.le_trans f36 zq37
  have f41 := (Nat.le_trans (Nat.le_trans (Nat.le_refl h0.size) E21.1) Kq28.1)
  have z40 : h0.size ≤ t37 := Nat.le_trans f41 zq37
  have N42 := Fr.app Nh33 Nq37
  obtain ⟨Lh43, Xh43, Nh43⟩ := oHd 2 15 X37 N42 rfl rfl
  refine ownBy st37 ?_
  clear st37
  show ownG p.tables e below _ (T37.setTop (fr_cp3_5 m a2 26 (vR b21) (vI r28) .unset [(.ref t37)]))
  refine ownBy (A := T37.setTop (fr_cp3_5 m a2 32 (vR b21) (vI r28) (vR t37) [(.int r28), (.ref t37)])) (fun t kt => ?_) ?_
  ·refine XS.astore Xh43.here hx rfl (D d15_26) rfl rfl (l' := #[vR a2, vI 0, vI 5, vR b21, vI r28, vR t37]) rfl ?_
   refine XS.aload Xh43.here hx rfl (D d15_28) rfl rfl ?_
   refine XS.iload Xh43.here hx rfl (D d15_30) rfl ?_
   exact kt
  obtain ⟨cM, kM, q0, q1, k0, k1, u0, u1, hcM, hgM⟩ : ∃ (cM : Int32) (kM : Nat), (¬ (r28 <<< ((1 : Int32) &&& 31)) < 0 ∧ (r28 <<< ((1 : Int32) &&& 31)) < (10 : Int32)) ∧ (¬ ((r28 <<< ((1 : Int32) &&& 31)) + (1 : Int32)) < 0 ∧ ((r28 <<< ((1 : Int32) &&& 31)) + (1 : Int32)) < (10 : Int32)) ∧ (r28 <<< ((1 : Int32) &&& 31)).toNatClampNeg = kM ∧ ((r28 <<< ((1 : Int32) &&& 31)) + (1 : Int32)).toNatClampNeg = kM + 1 ∧ ([(.int (oW c0)), (.int (oH c0)), (.int (oW c1)), (.int (oH c1)), (.int (oW c2)), (.int (oH c2)), (.int (oW c3)), (.int (oH c3)), (.int (oW c4)), (.int (oH c4))] : List Value).getD kM (iV 0) = .int (oW cM) ∧ ([(.int (oW c0)), (.int (oH c0)), (.int (oW c1)), (.int (oH c1)), (.int (oW c2)), (.int (oH c2)), (.int (oW c3)), (.int (oH c3)), (.int (oW c4)), (.int (oH c4))] : List Value).getD (kM + 1) (iV 0) = .int (oH cM) ∧ (¬ cM < 0 ∧ ¬ (65535 : Int32) < cM) ∧ (255 : Int32) < cM := by
   rcases hF with ⟨rfl, h⟩ | ⟨rfl, h⟩ | ⟨rfl, h⟩ | ⟨rfl, h⟩ | ⟨rfl, h⟩
   ·exact ⟨c0, 0, by decide +kernel, by decide +kernel, by decide +kernel, by decide +kernel, rfl, rfl, hc0, h⟩
   ·exact ⟨c1, 2, by decide +kernel, by decide +kernel, by decide +kernel, by decide +kernel, rfl, rfl, hc1, h⟩
   ·exact ⟨c2, 4, by decide +kernel, by decide +kernel, by decide +kernel, by decide +kernel, rfl, rfl, hc2, h⟩
   ·exact ⟨c3, 6, by decide +kernel, by decide +kernel, by decide +kernel, by decide +kernel, rfl, rfl, hc3, h⟩
   ·exact ⟨c4, 8, by decide +kernel, by decide +kernel, by decide +kernel, by decide +kernel, rfl, rfl, hc4, h⟩
  have f44 := (f35.keep Kq37 all0)
  have f45 := (Nat.le_trans f36 Kq37.1)
  obtain ⟨vv46, _, ⟨T46, L46, k46, n46⟩, -, X46, ⟨Lc46, hQ46, l46, y46, z46⟩, st46⟩ := Jvm.LawKit.callS Xh43 hx (y := yM5) hown (mvT hZ (Wd101 hw)) (mvT hZ (Wd102 hw)) (mvT hZ (Wd74 hw)) (mvT hZ (Wd103 hw)) (by decide) (backOf (W := 0) (c_getc l Z a0 hw [] t37 kb37 (10 : Int32) [(.int (oW c0)), (.int (oH c0)), (.int (oW c1)), (.int (oH c1)), (.int (oW c2)), (.int (oH c2)), (.int (oW c3)), (.int (oH c3)), (.int (oW c4)), (.int (oH c4))] r28 cM kM T37.heap n0 f45 Aq37 q0 q1 k0 k1 u0 u1 hcM SA SHI SLO f44) hZ (Wd103 hw) (Wd74 hw) (by decide) (by decide)) (g := (fr_cp3_5 m a2 32 (vR b21) (vI r28) (vR t37) [(.int r28), (.ref t37)])) rfl (by rw [hml]; rfl) (argsL := [(.ref t37), (.int r28)]) (rest := []) (lenOf pd_9 rfl) rfl (by show 2 * 0 + _ ≤ _; exact Nat.le_of_eq rfl) (D d15_32) (fun _ _ => ⟨rfl, rfl, (by decide : 2 + 0 ≤ _), (by decide : 15 + 0 ≤ _)⟩)
  dsimp only [Pt.U, Pt.locs, Pt.cells, Pt.slots] at X46 l46 y46 z46 st46 hQ46
  subst l46 y46 z46
  obtain ⟨rfl, Nq46, Eq46⟩ := hQ46
  have N47 := Fr.app Nh43 Nq46
  obtain ⟨Lh48, Xh48, Nh48⟩ := oHd 2 15 X46 N47 rfl rfl
  refine ownBy st46 ?_
  clear st46
  show ownG p.tables e below _ (T46.setTop (fr_cp3_5 m a2 35 (vR b21) (vI r28) (vR t37) [(.int cM)]))
  refine ownBy (A := T46.setTop (fr_cp3_5 m a2 56 (vR b21) (vI r28) (vR t37) [(.ref t37)])) (fun t kt => ?_) ?_
  ·refine XS.sipush Xh48.here hx rfl (D d15_35) ?_
   refine XS.icmpYes Xh48.here hx rfl (pc0 := 38) (pc' := 54) rfl (D d15_38) rfl (tlt hgM).2.2.1 (by decide) (by decide) ?_
   refine XS.aload Xh48.here hx rfl (D d15_54) rfl rfl ?_
   exact kt
  have hg3 : (255 : Int32) < c0 ∨ (255 : Int32) < c1 ∨ (255 : Int32) < c2 ∨ (255 : Int32) < c3 ∨ (255 : Int32) < c4 := by
   rcases hF with ⟨-, h⟩ | ⟨-, h⟩ | ⟨-, h⟩ | ⟨-, h⟩ | ⟨-, h⟩
   ·exact Or.inl h
   ·exact Or.inr (Or.inl h)
   ·exact Or.inr (Or.inr (Or.inl h))
   ·exact Or.inr (Or.inr (Or.inr (Or.inl h)))
   ·exact Or.inr (Or.inr (Or.inr (Or.inr (h))))
  have f49 := ((((Keep.refl h0 []).ext E21).trans Kq28 (allS (Or.inr z24) all0)).trans Kq37 all0)
  refine ownRet Xh48 Bd.notSynchronized (v := some (.ref t37)) (fun h => by rw [Bd.returns] at h; cases h) ?_ (oLe rfl) (oLe rfl) (fun fs hr => retOut Xh48 hx Bd.returns rfl (Or.inr (Or.inr (Or.inr (Or.inr ⟨rfl, rfl, rfl⟩)))) (D d15_56) hr)
  show (Q_cp3_5 Z a2 kC c0 c1 c2 c3 c4 h0 n0) (some (.ref t37)) T46.heap _
  rw [Eq46]
  exact ⟨t37, kb37, rfl, Nh48, f49, z40, Or.inr ⟨hg3, Aq37⟩⟩
abbrev fr_ini4_5 (m : MethodId) (a1 : Addr) (a2 : Addr) (pc : Nat) (x5_ : Slot) (st : List Value) : JFrame := mkF m pc #[vR a1, vR a2, vI 0, vI 5, .val .null, x5_] st
def Q_ini4_5 (Z : State) (a1 : Addr) (a2 : Addr) (kC : ClassId) (c0 : Int32) (c1 : Int32) (c2 : Int32) (c3 : Int32) (c4 : Int32) (c9 : Value) (G1 : Int32) (h0 : Heap) (n0 : Nat) (v : Option Value) (h : Heap) (L : List Loc) : Prop := v = none ∧ Fr n0 L ∧ Keep h0 h [a1] ∧ Exa Z h a1 "java/lang/String" ∧ ∃ (ta : Addr) (kb : ClassId) (cd z : Int32) (vs : List Value), h0.size ≤ ta ∧ Fld Z h a1 "java/lang/String" "value" "[B" (.ref ta) ∧ Fld Z h a1 "java/lang/String" "coder" "B" (.int cd) ∧ Arv Z h ta kb .byte z vs (iV 0) ∧ ((cd = (0 : Int32) ∧ z = (5 : Int32) ∧ vs = [(.int (oL c0)), (.int (oL c1)), (.int (oL c2)), (.int (oL c3)), (.int (oL c4))] ∧ ¬ ((255 : Int32) < c0) ∧ ¬ ((255 : Int32) < c1) ∧ ¬ ((255 : Int32) < c2) ∧ ¬ ((255 : Int32) < c3) ∧ ¬ ((255 : Int32) < c4)) ∨ (cd = (1 : Int32) ∧ z = (10 : Int32) ∧ vs = [(.int (oW c0)), (.int (oH c0)), (.int (oW c1)), (.int (oH c1)), (.int (oW c2)), (.int (oH c2)), (.int (oW c3)), (.int (oH c3)), (.int (oW c4)), (.int (oH c4))] ∧ ((255 : Int32) < c0 ∨ (255 : Int32) < c1 ∨ (255 : Int32) < c2 ∨ (255 : Int32) < c3 ∨ (255 : Int32) < c4)))
theorem ef_ini4_5 (m : MethodId) (x0 : Addr) (x1 : Addr) (x2 : Int32) (x3 : Int32)  : entryFrame m #[(.ref x0), (.ref x1), (.int x2), (.int x3), .null] 6 = mkF m 0 #[vR x0, vR x1, vI x2, vI x3, .val .null, .unset] [] := by first | (simp [entryFrame, mkF, argsToLocals, Value.category]; done) | rfl
set_option maxRecDepth 65536 in
set_option maxHeartbeats 40000000 in
theorem c_ini4_5 (l : Launch) (Z : State) (a0 : Array Value) (hw : ∀ d ∈ tables_1, d.before a0 Z = true) (ws : List Jvm.Cond) (a1 : Addr) (a2 : Addr) (kC : ClassId) (c0 : Int32) (c1 : Int32) (c2 : Int32) (c3 : Int32) (c4 : Int32) (c9 : Value) (G1 : Int32) (h0 : Heap) (n0 : Nat) (Z0 : n0 ≤ h0.size) (E1 : Exa Z h0 a1 "java/lang/String") (F1 : Fld Z h0 a1 "java/lang/String" "value" "[B" .null) (F2 : Fld Z h0 a1 "java/lang/String" "coder" "B" c9) (g1 : n0 ≤ a1) (ne1 : a1 ≠ a2) (A2 : Arv Z h0 a2 kC .char (5 : Int32) [(.int c0), (.int c1), (.int c2), (.int c3), (.int c4)] (iV 0)) (hc0 : ¬ c0 < 0 ∧ ¬ (65535 : Int32) < c0) (hc1 : ¬ c1 < 0 ∧ ¬ (65535 : Int32) < c1) (hc2 : ¬ c2 < 0 ∧ ¬ (65535 : Int32) < c2) (hc3 : ¬ c3 < 0 ∧ ¬ (65535 : Int32) < c3) (hc4 : ¬ c4 < 0 ∧ ¬ (65535 : Int32) < c4) (O2 : Sta Z Z.heap "java/lang/String" "COMPACT_STRINGS" "Z" (.int G1)) (P5 : ¬ (G1 = (0 : Int32))) (SA : Sta Z Z.heap "java/lang/StringUTF16" "$assertionsDisabled" "Z" (iV 1)) (SHI : Sta Z Z.heap "java/lang/StringUTF16" "HI_BYTE_SHIFT" "I" (iV 0)) (SLO : Sta Z Z.heap "java/lang/StringUTF16" "LO_BYTE_SHIFT" "I" (iV 8)) (X00 : Old Z n0 h0) :
  MetFree l yM0 (head1 (Jvm.Cond.code yM0 jdk_42_method_149_code 6 none :: ws) ({ frames := 4, cells := 2, slots := 15, locals := 58 } : Room)) (fun a U => a = #[(.ref a1), (.ref a2), (iV 0), (iV 5), .null] ∧ Z.Warmed39 U.vm ∧ U.heap = h0) (fun _ _ _ _ _ => True) (fun _ U o U' => ∃ v L, o = .returned v ∧ (Q_ini4_5 Z a1 a2 kC c0 c1 c2 c3 c4 c9 G1 h0 n0) v U'.heap L ∧ FrameEnd U o U' L ({ frames := 4, cells := 2, slots := 15, locals := 58 } : Room).cells ({ frames := 4, cells := 2, slots := 15, locals := 58 } : Room).slots) := by
 refine MetFree.of_bodySF (plainFor_of_name pn_1) hisR ?_
 intro p e s m args below meth c s₁ Bd hml0 hP hK
 obtain ⟨rfl, hZ, hHp⟩ := hP
 have hx := Bd.exec
 have D := fun {pc : Nat} {r} (h : decode _ pc = r) => hb Bd.bytes h
 have hml : c.maxLocals = 6 := hml0
 have hown : s.vm.findClass "java/lang/String" = some m.cls := findClass_of_methodNamed Bd.named
 have hnm := (name_of_methodNamed Bd.named Bd.method).1
 have X0 : Stand p l e ({ frames := 4, cells := 2, slots := 15, locals := 58 } : Room) s m #[(.ref a1), (.ref a2), (iV 0), (iV 5), .null] below meth c s₁ [] 0 0 := Stand.of_body Bd
 have e0 : s₁.heap = h0 := by rw [← hHp, Bd.state]; rfl
 have N0 := Fr.nil n0
 refine ownOut (P := (Q_ini4_5 Z a1 a2 kC c0 c1 c2 c3 c4 c9 G1 h0 n0)) ?_
 refine ownBy (A := s₁.setTop (mkF m 0 #[vR a1, vR a2, vI 0, vI 5, .val .null, .unset] [])) (fun t k => castTop (ef_ini4_5 m a1 a2 (0 : Int32) (5 : Int32)) k) ?_
 refine ownBy (A := s₁.setTop (fr_ini4_5 m a1 a2 1 .unset [(.ref a1)])) (fun t kt => ?_) ?_
 ·refine XS.aloadN X0.here hx rfl (D d3_0) rfl rfl ?_
  exact kt
 obtain ⟨T21, X21, e21, st21⟩ := initO X0 hx hZ hown (Wd17 hw) (Wd18 hw) (Wd19 hw) e0 (g := (fr_ini4_5 m a1 a2 1 .unset [(.ref a1)])) rfl (by rw [hml]; rfl) rfl (D d3_1) (by decide) (W := 0) (by show 2 * 0 + _ ≤ _; exact Nat.le_of_eq rfl) (by decide)
 refine ownBy st21 ?_
 clear st21
 show ownG p.tables e below _ (T21.setTop (fr_ini4_5 m a1 a2 4 .unset []))
 refine ownBy (A := T21.setTop (fr_ini4_5 m a1 a2 27 .unset [])) (fun t kt => ?_) ?_
 ·refine XS.iloadN X21.here hx rfl (D d3_4) rfl ?_
  refine XS.ifYes X21.here hx rfl (pc0 := 5) (pc' := 27) rfl (D d3_5) rfl ((if0 _ _).trans (feq ((by decide) : ¬ ((5 : Int32) = (0 : Int32)))).2) (by decide) (by decide) ?_
  exact kt
 obtain ⟨T22, X22, e22, st22⟩ := getS2 X21 hx hZ hown (host := "") (Or.inl (Wd47 hw)) Via.refl e21 (O2.ext X00.2) (g := (fr_ini4_5 m a1 a2 27 .unset [])) rfl (D d3_27)
 refine ownBy st22 ?_
 clear st22
 show ownG p.tables e below _ (T22.setTop (fr_ini4_5 m a1 a2 30 .unset [(.int G1)]))
 refine ownBy (A := T22.setTop (fr_ini4_5 m a1 a2 36 .unset [(iV 5), (iV 0), (.ref a2)])) (fun t kt => ?_) ?_
 ·refine XS.ifNo X22.here hx rfl (D d3_30) rfl ((if0 _ _).trans (feq P5).1) ?_
  refine XS.aloadN X22.here hx rfl (D d3_33) rfl rfl ?_
  refine XS.iloadN X22.here hx rfl (D d3_34) rfl ?_
  refine XS.iloadN X22.here hx rfl (D d3_35) rfl ?_
  exact kt
 obtain ⟨vv23, _, ⟨T23, L23, k23, n23⟩, -, X23, ⟨Lc23, hQ23, l23, y23, z23⟩, st23⟩ := Jvm.LawKit.callS X22 hx (y := yM9) hown (mvT hZ (Wd72 hw)) (mvT hZ (Wd73 hw)) (mvT hZ (Wd74 hw)) (mvT hZ (Wd75 hw)) (by decide) (backOf (W := 0) (c_cp3_5 l Z a0 hw [] a2 kC c0 c1 c2 c3 c4 h0 n0 Z0 A2 hc0 hc1 hc2 hc3 hc4 SA SHI SLO X00) hZ (Wd75 hw) (Wd74 hw) (by decide) (by decide)) (g := (fr_ini4_5 m a1 a2 36 .unset [(iV 5), (iV 0), (.ref a2)])) rfl (by rw [hml]; rfl) (argsL := [(.ref a2), (iV 0), (iV 5)]) (rest := []) (lenOf pd_8 rfl) rfl (by show 2 * 0 + _ ≤ _; exact Nat.le_of_eq rfl) (D d3_36) (fun _ _ => ⟨rfl, e22, (by decide : 0 + 2 ≤ _), (by decide : 0 + 15 ≤ _)⟩)
 dsimp only [Pt.U, Pt.locs, Pt.cells, Pt.slots] at X23 l23 y23 z23 st23 hQ23
 subst l23 y23 z23
 obtain ⟨t23, kb23, rfl, Nq23, Kq23, zq23, hB23⟩ := hQ23
 have ne24 : a1 ≠ t23 := Nat.ne_of_lt (Nat.lt_of_lt_of_le E1.lt zq23)
 have ne25 : a2 ≠ t23 := Nat.ne_of_lt (Nat.lt_of_lt_of_le A2.lt zq23)
 have g26 : n0 ≤ t23 := Nat.le_trans Z0 zq23
 have z27 : h0.size ≤ t23 := Nat.le_trans (Nat.le_refl h0.size) zq23
 rcases hB23 with ⟨hn23_0, hn23_1, hn23_2, hn23_3, hn23_4, Aq23⟩ | ⟨hg23, Aq23⟩
 ·skip
  have N28 := Fr.app N0 Nq23
  obtain ⟨Lh29, Xh29, Nh29⟩ := oHd 2 15 X23 N28 rfl rfl
  refine ownBy st23 ?_
  clear st23
  show ownG p.tables e below _ (T23.setTop (fr_ini4_5 m a1 a2 39 .unset [(.ref t23)]))
  refine ownBy (A := T23.setTop (fr_ini4_5 m a1 a2 45 (vR t23) [(iV 5), (.ref t23), (.ref a1)])) (fun t kt => ?_) ?_
  ·refine XS.astore Xh29.here hx rfl (D d3_39) rfl rfl (l' := #[vR a1, vR a2, vI 0, vI 5, .val .null, vR t23]) rfl ?_
   refine XS.aloadN Xh29.here hx rfl (D d3_41) rfl rfl ?_
   refine XS.aload Xh29.here hx rfl (D d3_42) rfl rfl ?_
   refine XS.iloadN Xh29.here hx rfl (D d3_44) rfl ?_
   exact kt
  have f30 := (Nat.le_trans Z0 Kq23.1)
  obtain ⟨vv31, _, ⟨T31, L31, k31, n31⟩, -, X31, ⟨Lc31, hQ31, l31, y31, z31⟩, st31⟩ := Jvm.LawKit.callS Xh29 hx (y := yM4) hown (mvT hZ (Wd79 hw)) (mvT hZ (Wd80 hw)) (mvT hZ (Wd74 hw)) (mvT hZ (Wd81 hw)) (by decide) (backOf (W := 1) (c_cfa l Z a0 hw [] t23 kb23 (5 : Int32) _ (5 : Int32) (0 : Int32) T23.heap n0 f30 Aq23 (by decide +kernel)) hZ (Wd81 hw) (Wd74 hw) (by decide) (by decide)) (g := (fr_ini4_5 m a1 a2 45 (vR t23) [(iV 5), (.ref t23), (.ref a1)])) rfl (by rw [hml]; rfl) (argsL := [(.ref t23), (iV 5)]) (rest := [(.ref a1)]) (lenOf pd_10 rfl) rfl (by show 2 * 0 + _ ≤ _; exact Nat.le_of_eq rfl) (D d3_45) (fun _ _ => ⟨rfl, rfl, (by decide : 2 + 0 ≤ _), (by decide : 15 + 0 ≤ _)⟩)
  dsimp only [Pt.U, Pt.locs, Pt.cells, Pt.slots] at X31 l31 y31 z31 st31 hQ31
  subst l31 y31 z31
  obtain ⟨rfl, Nq31, Eq31⟩ := hQ31
  have N32 := Fr.app Nh29 Nq31
  obtain ⟨Lh33, Xh33, Nh33⟩ := oHd 2 15 X31 N32 rfl rfl
  refine ownBy st31 ?_
  clear st31
  show ownG p.tables e below _ (T31.setTop (fr_ini4_5 m a1 a2 48 (vR t23) [(iV 0), (.ref a1)]))
  have f35 := (F2.keep Kq23 nin0)
  have f36 := (E1.keep Kq23)
  obtain ⟨T34, h34, X34, e34, W34, st34⟩ := putFN Xh33 hx hZ hown (Wd27 hw) Via.refl Eq31 f35 f36 (Or.inr ⟨(Wd23 hw), rfl, hnm⟩) (Wd8 hw) (ty := .byte) (v' := (iV 0)) (by decide) rfl (fits_nar_byte (0 : Int32)) (g := (fr_ini4_5 m a1 a2 48 (vR t23) [(iV 0), (.ref a1)])) rfl rfl (D d3_48)
  have F37 := f35.same W34
  have N38 := Fr.snoc X34 Nh33 g1
  obtain ⟨Lh39, Xh39, Nh39⟩ := oHd 2 15 X34 N38 rfl rfl
  refine ownBy st34 ?_
  clear st34
  show ownG p.tables e below _ (T34.setTop (fr_ini4_5 m a1 a2 51 (vR t23) []))
  refine ownBy (A := T34.setTop (fr_ini4_5 m a1 a2 54 (vR t23) [(.ref t23), (.ref a1)])) (fun t kt => ?_) ?_
  ·refine XS.aloadN Xh39.here hx rfl (D d3_51) rfl rfl ?_
   refine XS.aload Xh39.here hx rfl (D d3_52) rfl rfl ?_
   exact kt
  have f41 := ((F1.keep Kq23 nin0).other W34 (Or.inr (slot_ne (Or.inr (Wd22 hw)) (Or.inr (Wd23 hw)) (by decide) (t := (.array .byte)) (t' := .byte) (by decide) (by decide))))
  have f42 := (f36.wr W34)
  obtain ⟨T40, h40, X40, e40, W40, st40⟩ := putF Xh39 hx hZ hown (host := "") (Or.inl (Wd26 hw)) Via.refl e34 f41 f42 (Or.inr ⟨(Wd22 hw), rfl, hnm⟩) (Wd8 hw) (ty := (.array .byte)) (by decide) rfl rfl (g := (fr_ini4_5 m a1 a2 54 (vR t23) [(.ref t23), (.ref a1)])) rfl rfl (D d3_54)
  have F43 := f41.same W40
  have N44 := Fr.snoc X40 Nh39 g1
  obtain ⟨Lh45, Xh45, Nh45⟩ := oHd 2 15 X40 N44 rfl rfl
  refine ownBy st40 ?_
  clear st40
  show ownG p.tables e below _ (T40.setTop (fr_ini4_5 m a1 a2 57 (vR t23) []))
  have f46 := ((((Keep.refl h0 [a1]).trans Kq23 all0).wr W34 (Or.inl (List.mem_of_getElem? (i := 0) rfl))).wr W40 (Or.inl (List.mem_of_getElem? (i := 0) rfl)))
  have f47 := (f42.wr W40)
  have f48 := (F37.other W40 (Or.inr (slot_ne (Or.inr (Wd23 hw)) (Or.inr (Wd22 hw)) (by decide) (t := .byte) (t' := (.array .byte)) (by decide) (by decide))))
  have f49 := ((Aq23.other W34 (Ne.symm ne24)).other W40 (Ne.symm ne24))
  refine ownRet Xh45 Bd.notSynchronized (v := none) (fun _ => rfl) ?_ (oLe rfl) (oLe rfl) (fun fs hr => Xh45.returnOut hx Bd.returns (D d3_57) hr)
  show (Q_ini4_5 Z a1 a2 kC c0 c1 c2 c3 c4 c9 G1 h0 n0) (none) T40.heap _
  rw [e40]
  exact ⟨rfl, Nh45, f46, f47, t23, kb23, _, _, _, z27, F43, f48, f49, Or.inl ⟨rfl, rfl, rfl, hn23_0, hn23_1, hn23_2, hn23_3, hn23_4⟩⟩
 ·skip
  have N50 := Fr.app N0 Nq23
  obtain ⟨Lh51, Xh51, Nh51⟩ := oHd 2 15 X23 N50 rfl rfl
  refine ownBy st23 ?_
  clear st23
  show ownG p.tables e below _ (T23.setTop (fr_ini4_5 m a1 a2 39 .unset [(.ref t23)]))
  refine ownBy (A := T23.setTop (fr_ini4_5 m a1 a2 45 (vR t23) [(iV 5), (.ref t23), (.ref a1)])) (fun t kt => ?_) ?_
  ·refine XS.astore Xh51.here hx rfl (D d3_39) rfl rfl (l' := #[vR a1, vR a2, vI 0, vI 5, .val .null, vR t23]) rfl ?_
   refine XS.aloadN Xh51.here hx rfl (D d3_41) rfl rfl ?_
   refine XS.aload Xh51.here hx rfl (D d3_42) rfl rfl ?_
   refine XS.iloadN Xh51.here hx rfl (D d3_44) rfl ?_
   exact kt
  have f52 := (Nat.le_trans Z0 Kq23.1)
  obtain ⟨vv53, _, ⟨T53, L53, k53, n53⟩, -, X53, ⟨Lc53, hQ53, l53, y53, z53⟩, st53⟩ := Jvm.LawKit.callS Xh51 hx (y := yM4) hown (mvT hZ (Wd79 hw)) (mvT hZ (Wd80 hw)) (mvT hZ (Wd74 hw)) (mvT hZ (Wd81 hw)) (by decide) (backOf (W := 1) (c_cfa l Z a0 hw [] t23 kb23 (10 : Int32) _ (5 : Int32) (1 : Int32) T23.heap n0 f52 Aq23 (by decide +kernel)) hZ (Wd81 hw) (Wd74 hw) (by decide) (by decide)) (g := (fr_ini4_5 m a1 a2 45 (vR t23) [(iV 5), (.ref t23), (.ref a1)])) rfl (by rw [hml]; rfl) (argsL := [(.ref t23), (iV 5)]) (rest := [(.ref a1)]) (lenOf pd_10 rfl) rfl (by show 2 * 0 + _ ≤ _; exact Nat.le_of_eq rfl) (D d3_45) (fun _ _ => ⟨rfl, rfl, (by decide : 2 + 0 ≤ _), (by decide : 15 + 0 ≤ _)⟩)
  dsimp only [Pt.U, Pt.locs, Pt.cells, Pt.slots] at X53 l53 y53 z53 st53 hQ53
  subst l53 y53 z53
  obtain ⟨rfl, Nq53, Eq53⟩ := hQ53
  have N54 := Fr.app Nh51 Nq53
  obtain ⟨Lh55, Xh55, Nh55⟩ := oHd 2 15 X53 N54 rfl rfl
  refine ownBy st53 ?_
  clear st53
  show ownG p.tables e below _ (T53.setTop (fr_ini4_5 m a1 a2 48 (vR t23) [(iV 1), (.ref a1)]))
  have f57 := (F2.keep Kq23 nin0)
  have f58 := (E1.keep Kq23)
  obtain ⟨T56, h56, X56, e56, W56, st56⟩ := putFN Xh55 hx hZ hown (Wd27 hw) Via.refl Eq53 f57 f58 (Or.inr ⟨(Wd23 hw), rfl, hnm⟩) (Wd8 hw) (ty := .byte) (v' := (iV 1)) (by decide) rfl (fits_nar_byte (1 : Int32)) (g := (fr_ini4_5 m a1 a2 48 (vR t23) [(iV 1), (.ref a1)])) rfl rfl (D d3_48)
  have F59 := f57.same W56
  have N60 := Fr.snoc X56 Nh55 g1
  obtain ⟨Lh61, Xh61, Nh61⟩ := oHd 2 15 X56 N60 rfl rfl
  refine ownBy st56 ?_
  clear st56
  show ownG p.tables e below _ (T56.setTop (fr_ini4_5 m a1 a2 51 (vR t23) []))
  refine ownBy (A := T56.setTop (fr_ini4_5 m a1 a2 54 (vR t23) [(.ref t23), (.ref a1)])) (fun t kt => ?_) ?_
  ·refine XS.aloadN Xh61.here hx rfl (D d3_51) rfl rfl ?_
   refine XS.aload Xh61.here hx rfl (D d3_52) rfl rfl ?_
   exact kt
  have f63 := ((F1.keep Kq23 nin0).other W56 (Or.inr (slot_ne (Or.inr (Wd22 hw)) (Or.inr (Wd23 hw)) (by decide) (t := (.array .byte)) (t' := .byte) (by decide) (by decide))))
  have f64 := (f58.wr W56)
  obtain ⟨T62, h62, X62, e62, W62, st62⟩ := putF Xh61 hx hZ hown (host := "") (Or.inl (Wd26 hw)) Via.refl e56 f63 f64 (Or.inr ⟨(Wd22 hw), rfl, hnm⟩) (Wd8 hw) (ty := (.array .byte)) (by decide) rfl rfl (g := (fr_ini4_5 m a1 a2 54 (vR t23) [(.ref t23), (.ref a1)])) rfl rfl (D d3_54)
  have F65 := f63.same W62
  have N66 := Fr.snoc X62 Nh61 g1
  obtain ⟨Lh67, Xh67, Nh67⟩ := oHd 2 15 X62 N66 rfl rfl
  refine ownBy st62 ?_
  clear st62
  show ownG p.tables e below _ (T62.setTop (fr_ini4_5 m a1 a2 57 (vR t23) []))
  have f68 := ((((Keep.refl h0 [a1]).trans Kq23 all0).wr W56 (Or.inl (List.mem_of_getElem? (i := 0) rfl))).wr W62 (Or.inl (List.mem_of_getElem? (i := 0) rfl)))
  have f69 := (f64.wr W62)
  have f70 := (F59.other W62 (Or.inr (slot_ne (Or.inr (Wd23 hw)) (Or.inr (Wd22 hw)) (by decide) (t := .byte) (t' := (.array .byte)) (by decide) (by decide))))
  have f71 := ((Aq23.other W56 (Ne.symm ne24)).other W62 (Ne.symm ne24))
  refine ownRet Xh67 Bd.notSynchronized (v := none) (fun _ => rfl) ?_ (oLe rfl) (oLe rfl) (fun fs hr => Xh67.returnOut hx Bd.returns (D d3_57) hr)
  show (Q_ini4_5 Z a1 a2 kC c0 c1 c2 c3 c4 c9 G1 h0 n0) (none) T62.heap _
  rw [e62]
  exact ⟨rfl, Nh67, f68, f69, t23, kb23, _, _, _, z27, F65, f70, f71, Or.inr ⟨rfl, rfl, rfl, hg23⟩⟩
abbrev fr_inC_5 (m : MethodId) (a1 : Addr) (a2 : Addr) (pc : Nat)  (st : List Value) : JFrame := mkF m pc #[vR a1, vR a2] st
def Q_inC_5 (Z : State) (a1 : Addr) (a2 : Addr) (kC : ClassId) (c0 : Int32) (c1 : Int32) (c2 : Int32) (c3 : Int32) (c4 : Int32) (c9 : Value) (G1 : Int32) (h0 : Heap) (n0 : Nat) (v : Option Value) (h : Heap) (L : List Loc) : Prop := v = none ∧ Fr n0 L ∧ Keep h0 h [a1] ∧ Exa Z h a1 "java/lang/String" ∧ ∃ (ta : Addr) (kb : ClassId) (cd z : Int32) (vs : List Value), h0.size ≤ ta ∧ Fld Z h a1 "java/lang/String" "value" "[B" (.ref ta) ∧ Fld Z h a1 "java/lang/String" "coder" "B" (.int cd) ∧ Arv Z h ta kb .byte z vs (iV 0) ∧ ((cd = (0 : Int32) ∧ z = (5 : Int32) ∧ vs = [(.int (oL c0)), (.int (oL c1)), (.int (oL c2)), (.int (oL c3)), (.int (oL c4))] ∧ ¬ ((255 : Int32) < c0) ∧ ¬ ((255 : Int32) < c1) ∧ ¬ ((255 : Int32) < c2) ∧ ¬ ((255 : Int32) < c3) ∧ ¬ ((255 : Int32) < c4)) ∨ (cd = (1 : Int32) ∧ z = (10 : Int32) ∧ vs = [(.int (oW c0)), (.int (oH c0)), (.int (oW c1)), (.int (oH c1)), (.int (oW c2)), (.int (oH c2)), (.int (oW c3)), (.int (oH c3)), (.int (oW c4)), (.int (oH c4))] ∧ ((255 : Int32) < c0 ∨ (255 : Int32) < c1 ∨ (255 : Int32) < c2 ∨ (255 : Int32) < c3 ∨ (255 : Int32) < c4)))
theorem ef_inC_5 (m : MethodId) (x0 : Addr) (x1 : Addr)  : entryFrame m #[(.ref x0), (.ref x1)] 2 = mkF m 0 #[vR x0, vR x1] [] := by first | (simp [entryFrame, mkF, argsToLocals, Value.category]; done) | rfl
set_option maxRecDepth 65536 in
set_option maxHeartbeats 40000000 in
theorem c_inC_5 (l : Launch) (Z : State) (a0 : Array Value) (hw : ∀ d ∈ tables_1, d.before a0 Z = true) (ws : List Jvm.Cond) (a1 : Addr) (a2 : Addr) (kC : ClassId) (c0 : Int32) (c1 : Int32) (c2 : Int32) (c3 : Int32) (c4 : Int32) (c9 : Value) (G1 : Int32) (h0 : Heap) (n0 : Nat) (Z0 : n0 ≤ h0.size) (E1 : Exa Z h0 a1 "java/lang/String") (F1 : Fld Z h0 a1 "java/lang/String" "value" "[B" .null) (F2 : Fld Z h0 a1 "java/lang/String" "coder" "B" c9) (g1 : n0 ≤ a1) (ne1 : a1 ≠ a2) (A2 : Arv Z h0 a2 kC .char (5 : Int32) [(.int c0), (.int c1), (.int c2), (.int c3), (.int c4)] (iV 0)) (hc0 : ¬ c0 < 0 ∧ ¬ (65535 : Int32) < c0) (hc1 : ¬ c1 < 0 ∧ ¬ (65535 : Int32) < c1) (hc2 : ¬ c2 < 0 ∧ ¬ (65535 : Int32) < c2) (hc3 : ¬ c3 < 0 ∧ ¬ (65535 : Int32) < c3) (hc4 : ¬ c4 < 0 ∧ ¬ (65535 : Int32) < c4) (O2 : Sta Z Z.heap "java/lang/String" "COMPACT_STRINGS" "Z" (.int G1)) (P5 : ¬ (G1 = (0 : Int32))) (SA : Sta Z Z.heap "java/lang/StringUTF16" "$assertionsDisabled" "Z" (iV 1)) (SHI : Sta Z Z.heap "java/lang/StringUTF16" "HI_BYTE_SHIFT" "I" (iV 0)) (SLO : Sta Z Z.heap "java/lang/StringUTF16" "LO_BYTE_SHIFT" "I" (iV 8)) (X00 : Old Z n0 h0) :
  MetFree l yM1 (head1 (Jvm.Cond.code yM1 jdk_42_method_3_code 2 none :: ws) ({ frames := 5, cells := 2, slots := 15, locals := 75 } : Room)) (fun a U => a = #[(.ref a1), (.ref a2)] ∧ Z.Warmed39 U.vm ∧ U.heap = h0) (fun _ _ _ _ _ => True) (fun _ U o U' => ∃ v L, o = .returned v ∧ (Q_inC_5 Z a1 a2 kC c0 c1 c2 c3 c4 c9 G1 h0 n0) v U'.heap L ∧ FrameEnd U o U' L ({ frames := 5, cells := 2, slots := 15, locals := 75 } : Room).cells ({ frames := 5, cells := 2, slots := 15, locals := 75 } : Room).slots) := by
 refine MetFree.of_bodySF (plainFor_of_name pn_1) hisR ?_
 intro p e s m args below meth c s₁ Bd hml0 hP hK
 obtain ⟨rfl, hZ, hHp⟩ := hP
 have hx := Bd.exec
 have D := fun {pc : Nat} {r} (h : decode _ pc = r) => hb Bd.bytes h
 have hml : c.maxLocals = 2 := hml0
 have hown : s.vm.findClass "java/lang/String" = some m.cls := findClass_of_methodNamed Bd.named
 have hnm := (name_of_methodNamed Bd.named Bd.method).1
 have X0 : Stand p l e ({ frames := 5, cells := 2, slots := 15, locals := 75 } : Room) s m #[(.ref a1), (.ref a2)] below meth c s₁ [] 0 0 := Stand.of_body Bd
 have e0 : s₁.heap = h0 := by rw [← hHp, Bd.state]; rfl
 have N0 := Fr.nil n0
 refine ownOut (P := (Q_inC_5 Z a1 a2 kC c0 c1 c2 c3 c4 c9 G1 h0 n0)) ?_
 refine ownBy (A := s₁.setTop (mkF m 0 #[vR a1, vR a2] [])) (fun t k => castTop (ef_inC_5 m a1 a2) k) ?_
 refine ownBy (A := s₁.setTop (fr_inC_5 m a1 a2 4  [(.ref a2), (iV 0), (.ref a2), (.ref a1)])) (fun t kt => ?_) ?_
 ·refine XS.aloadN X0.here hx rfl (D d2_0) rfl rfl ?_
  refine XS.aloadN X0.here hx rfl (D d2_1) rfl rfl ?_
  refine XS.iconst X0.here hx rfl (D d2_2) ?_
  refine XS.aloadN X0.here hx rfl (D d2_3) rfl rfl ?_
  exact kt
 obtain ⟨cl21, Ar21, -, S21, N21, -, -⟩ := id A2
 have st21 := X0.arraylength hx (by rw [e0]; exact Ar21.1) (State.isArrayOf_alike hZ.alike Ar21.2.1) (g := (fr_inC_5 m a1 a2 4  [(.ref a2), (iV 0), (.ref a2), (.ref a1)])) rfl rfl (D d2_4)
 rw [len_of S21 N21] at st21
 refine ownBy st21 ?_
 show ownG p.tables e below _ (s₁.setTop (fr_inC_5 m a1 a2 5  [(iV 5), (iV 0), (.ref a2), (.ref a1)]))
 refine ownBy (A := s₁.setTop (fr_inC_5 m a1 a2 6  [.null, (iV 5), (iV 0), (.ref a2), (.ref a1)])) (fun t kt => ?_) ?_
 ·refine XS.aconstNull X0.here hx rfl (D d2_5) ?_
  exact kt
 obtain ⟨vv22, _, ⟨T22, L22, k22, n22⟩, -, X22, ⟨Lc22, hQ22, l22, y22, z22⟩, st22⟩ := X0.specialBack hx (y := yM0) rfl hown (mvT hZ (Wd13 hw)) (mvT hZ (Wd14 hw)) (mvT hZ (Wd16 hw)) (by decide) (backOf (W := 0) (c_ini4_5 l Z a0 hw [] a1 a2 kC c0 c1 c2 c3 c4 _ G1 h0 n0 Z0 E1 F1 F2 g1 ne1 A2 hc0 hc1 hc2 hc3 hc4 O2 P5 SA SHI SLO X00) hZ (Wd16 hw) (Wd9 hw) (by decide) (by decide)) (g := (fr_inC_5 m a1 a2 6  [.null, (iV 5), (iV 0), (.ref a2), (.ref a1)])) rfl (by rw [hml]; rfl) (Steps.refl _) (a := a1) (argsL := [(.ref a2), (iV 0), (iV 5), .null]) (rest := []) (lenOf pd_2 rfl) rfl (by show 2 * 0 + _ ≤ _; exact Nat.le_of_eq rfl) (D d2_6) (fun _ _ => ⟨rfl, e0, (by decide : 0 + 2 ≤ _), (by decide : 0 + 15 ≤ _)⟩)
 dsimp only [Pt.U, Pt.locs, Pt.cells, Pt.slots] at X22 l22 y22 z22 st22 hQ22
 subst l22 y22 z22
 obtain ⟨rfl, Nq22, Kq22, Eq22, t22, kb22, cd22, z22, vs22, zq22, Vq22, Cq22, Aq22, hrel22⟩ := hQ22
 have ne23 : a1 ≠ t22 := Nat.ne_of_lt (Nat.lt_of_lt_of_le E1.lt zq22)
 have ne24 : a2 ≠ t22 := Nat.ne_of_lt (Nat.lt_of_lt_of_le A2.lt zq22)
 have g25 : n0 ≤ t22 := Nat.le_trans Z0 zq22
 have z26 : h0.size ≤ t22 := Nat.le_trans (Nat.le_refl h0.size) zq22
 have N27 := Fr.app N0 Nq22
 obtain ⟨Lh28, Xh28, Nh28⟩ := oHd 2 15 X22 N27 rfl rfl
 refine ownSt st22 ?_
 clear st22
 show ownG p.tables e below _ (T22.setTop (fr_inC_5 m a1 a2 9  []))
 have f29 := ((Keep.refl h0 [a1]).trans Kq22 (allS (Or.inl (List.mem_of_getElem? (i := 0) rfl)) all0))
 have f30 := (E1.keep Kq22)
 refine ownRet Xh28 Bd.notSynchronized (v := none) (fun _ => rfl) ?_ (oLe rfl) (oLe rfl) (fun fs hr => Xh28.returnOut hx Bd.returns (D d2_9) hr)
 show (Q_inC_5 Z a1 a2 kC c0 c1 c2 c3 c4 c9 G1 h0 n0) (none) T22.heap _
 exact ⟨rfl, Nh28, f29, f30, t22, kb22, _, _, _, z26, Vq22, Cq22, Aq22, hrel22⟩
abbrev fr_cod0 (m : MethodId) (x : Addr) (pc : Nat)  (st : List Value) : JFrame := mkF m pc #[vR x] st
def Q_cod0 (Z : State) (x : Addr) (G1 : Int32) (h0 : Heap) (n0 : Nat) (v : Option Value) (h : Heap) (L : List Loc) : Prop := v = some (iV 0) ∧ Fr n0 L ∧ h = h0
theorem ef_cod0 (m : MethodId) (x0 : Addr)  : entryFrame m #[(.ref x0)] 1 = mkF m 0 #[vR x0] [] := by first | (simp [entryFrame, mkF, argsToLocals, Value.category]; done) | rfl
set_option maxRecDepth 65536 in
set_option maxHeartbeats 40000000 in
theorem c_cod0 (l : Launch) (Z : State) (a0 : Array Value) (hw : ∀ d ∈ tables_1, d.before a0 Z = true) (ws : List Jvm.Cond) (x : Addr) (G1 : Int32) (h0 : Heap) (n0 : Nat) (Z0 : n0 ≤ h0.size) (Es : Exa Z h0 x "java/lang/String") (Cs : Fld Z h0 x "java/lang/String" "coder" "B" (iV 0)) (O2 : Sta Z Z.heap "java/lang/String" "COMPACT_STRINGS" "Z" (.int G1)) (P5 : ¬ (G1 = (0 : Int32))) (X00 : Old Z n0 h0) :
  MetFree l yM10 (head1 (Jvm.Cond.code yM10 jdk_42_method_152_code 1 (some .byte) :: ws) ({ frames := 0, cells := 0, slots := 0, locals := 0 } : Room)) (fun a U => a = #[(.ref x)] ∧ Z.Warmed39 U.vm ∧ U.heap = h0) (fun _ _ _ _ _ => True) (fun _ U o U' => ∃ v L, o = .returned v ∧ (Q_cod0 Z x G1 h0 n0) v U'.heap L ∧ FrameEnd U o U' L ({ frames := 0, cells := 0, slots := 0, locals := 0 } : Room).cells ({ frames := 0, cells := 0, slots := 0, locals := 0 } : Room).slots) := by
 refine MetFree.of_bodySF (plainFor_of_name pn_1) hisR ?_
 intro p e s m args below meth c s₁ Bd hml0 hP hK
 obtain ⟨rfl, hZ, hHp⟩ := hP
 have hx := Bd.exec
 have D := fun {pc : Nat} {r} (h : decode _ pc = r) => hb Bd.bytes h
 have hml : c.maxLocals = 1 := hml0
 have hown : s.vm.findClass "java/lang/String" = some m.cls := findClass_of_methodNamed Bd.named
 have hnm := (name_of_methodNamed Bd.named Bd.method).1
 have X0 : Stand p l e ({ frames := 0, cells := 0, slots := 0, locals := 0 } : Room) s m #[(.ref x)] below meth c s₁ [] 0 0 := Stand.of_body Bd
 have e0 : s₁.heap = h0 := by rw [← hHp, Bd.state]; rfl
 have N0 := Fr.nil n0
 refine ownOut (P := (Q_cod0 Z x G1 h0 n0)) ?_
 refine ownBy (A := s₁.setTop (mkF m 0 #[vR x] [])) (fun t k => castTop (ef_cod0 m x) k) ?_
 obtain ⟨T21, X21, e21, st21⟩ := getS2 X0 hx hZ hown (host := "") (Or.inl (Wd47 hw)) Via.refl e0 (O2.ext X00.2) (g := (fr_cod0 m x 0  [])) rfl (D d10_0)
 refine ownBy st21 ?_
 clear st21
 show ownG p.tables e below _ (T21.setTop (fr_cod0 m x 3  [(.int G1)]))
 refine ownBy (A := T21.setTop (fr_cod0 m x 7  [(.ref x)])) (fun t kt => ?_) ?_
 ·refine XS.ifNo X21.here hx rfl (D d10_3) rfl ((if0 _ _).trans (feq P5).1) ?_
  refine XS.aloadN X21.here hx rfl (D d10_6) rfl rfl ?_
  exact kt
 refine own_getF X21 hx hZ hown (host := "") (Or.inl (Wd27 hw)) Via.refl e21 Cs (D d10_7) (fun T22 X22 e22 => ?_)
 refine ownBy (A := T22.setTop (fr_cod0 m x 14  [(iV 0)])) (fun t kt => ?_) ?_
 ·refine XS.goto X22.here hx rfl (pc0 := 10) (pc' := 14) rfl (D d10_10) (by decide) (by decide) ?_
  exact kt
 refine ownRet X22 Bd.notSynchronized (v := some (.int (nar .byte (0 : Int32)))) (fun h => by rw [Bd.returns] at h; cases h) ?_ (oLe rfl) (oLe rfl) (fun fs hr => retN X22 hx (t := .byte) Bd.returns (by simp) (D d10_14) hr)
 show (Q_cod0 Z x G1 h0 n0) (some (.int (nar .byte (0 : Int32)))) T22.heap _
 rw [e22]
 exact ⟨rfl, N0, rfl⟩
abbrev fr_isl0 (m : MethodId) (x : Addr) (pc : Nat)  (st : List Value) : JFrame := mkF m pc #[vR x] st
def Q_isl0 (Z : State) (x : Addr) (G1 : Int32) (h0 : Heap) (n0 : Nat) (v : Option Value) (h : Heap) (L : List Loc) : Prop := v = some (iV 1) ∧ Fr n0 L ∧ h = h0
theorem ef_isl0 (m : MethodId) (x0 : Addr)  : entryFrame m #[(.ref x0)] 1 = mkF m 0 #[vR x0] [] := by first | (simp [entryFrame, mkF, argsToLocals, Value.category]; done) | rfl
set_option maxRecDepth 65536 in
set_option maxHeartbeats 40000000 in
theorem c_isl0 (l : Launch) (Z : State) (a0 : Array Value) (hw : ∀ d ∈ tables_1, d.before a0 Z = true) (ws : List Jvm.Cond) (x : Addr) (G1 : Int32) (h0 : Heap) (n0 : Nat) (Z0 : n0 ≤ h0.size) (Es : Exa Z h0 x "java/lang/String") (Cs : Fld Z h0 x "java/lang/String" "coder" "B" (iV 0)) (O2 : Sta Z Z.heap "java/lang/String" "COMPACT_STRINGS" "Z" (.int G1)) (P5 : ¬ (G1 = (0 : Int32))) (X00 : Old Z n0 h0) :
  MetFree l yM11 (head1 (Jvm.Cond.code yM11 jdk_42_method_154_code 1 (some .boolean) :: ws) ({ frames := 0, cells := 0, slots := 0, locals := 0 } : Room)) (fun a U => a = #[(.ref x)] ∧ Z.Warmed39 U.vm ∧ U.heap = h0) (fun _ _ _ _ _ => True) (fun _ U o U' => ∃ v L, o = .returned v ∧ (Q_isl0 Z x G1 h0 n0) v U'.heap L ∧ FrameEnd U o U' L ({ frames := 0, cells := 0, slots := 0, locals := 0 } : Room).cells ({ frames := 0, cells := 0, slots := 0, locals := 0 } : Room).slots) := by
 refine MetFree.of_bodySF (plainFor_of_name pn_1) hisR ?_
 intro p e s m args below meth c s₁ Bd hml0 hP hK
 obtain ⟨rfl, hZ, hHp⟩ := hP
 have hx := Bd.exec
 have D := fun {pc : Nat} {r} (h : decode _ pc = r) => hb Bd.bytes h
 have hml : c.maxLocals = 1 := hml0
 have hown : s.vm.findClass "java/lang/String" = some m.cls := findClass_of_methodNamed Bd.named
 have hnm := (name_of_methodNamed Bd.named Bd.method).1
 have X0 : Stand p l e ({ frames := 0, cells := 0, slots := 0, locals := 0 } : Room) s m #[(.ref x)] below meth c s₁ [] 0 0 := Stand.of_body Bd
 have e0 : s₁.heap = h0 := by rw [← hHp, Bd.state]; rfl
 have N0 := Fr.nil n0
 refine ownOut (P := (Q_isl0 Z x G1 h0 n0)) ?_
 refine ownBy (A := s₁.setTop (mkF m 0 #[vR x] [])) (fun t k => castTop (ef_isl0 m x) k) ?_
 obtain ⟨T21, X21, e21, st21⟩ := getS2 X0 hx hZ hown (host := "") (Or.inl (Wd47 hw)) Via.refl e0 (O2.ext X00.2) (g := (fr_isl0 m x 0  [])) rfl (D d8_0)
 refine ownBy st21 ?_
 clear st21
 show ownG p.tables e below _ (T21.setTop (fr_isl0 m x 3  [(.int G1)]))
 refine ownBy (A := T21.setTop (fr_isl0 m x 7  [(.ref x)])) (fun t kt => ?_) ?_
 ·refine XS.ifNo X21.here hx rfl (D d8_3) rfl ((if0 _ _).trans (feq P5).1) ?_
  refine XS.aloadN X21.here hx rfl (D d8_6) rfl rfl ?_
  exact kt
 refine own_getF X21 hx hZ hown (host := "") (Or.inl (Wd27 hw)) Via.refl e21 Cs (D d8_7) (fun T22 X22 e22 => ?_)
 refine ownBy (A := T22.setTop (fr_isl0 m x 18  [(iV 1)])) (fun t kt => ?_) ?_
 ·refine XS.ifNo X22.here hx rfl (D d8_10) rfl ((if0 _ _).trans (teq ((by decide) : (0 : Int32) = (0 : Int32))).2) ?_
  refine XS.iconst X22.here hx rfl (D d8_13) ?_
  refine XS.goto X22.here hx rfl (pc0 := 14) (pc' := 18) rfl (D d8_14) (by decide) (by decide) ?_
  exact kt
 refine ownRet X22 Bd.notSynchronized (v := some (.int (nar .boolean (1 : Int32)))) (fun h => by rw [Bd.returns] at h; cases h) ?_ (oLe rfl) (oLe rfl) (fun fs hr => retN X22 hx (t := .boolean) Bd.returns (by simp) (D d8_18) hr)
 show (Q_isl0 Z x G1 h0 n0) (some (.int (nar .boolean (1 : Int32)))) T22.heap _
 rw [e22]
 exact ⟨rfl, N0, rfl⟩
abbrev fr_cod1 (m : MethodId) (x : Addr) (pc : Nat)  (st : List Value) : JFrame := mkF m pc #[vR x] st
def Q_cod1 (Z : State) (x : Addr) (G1 : Int32) (h0 : Heap) (n0 : Nat) (v : Option Value) (h : Heap) (L : List Loc) : Prop := v = some (iV 1) ∧ Fr n0 L ∧ h = h0
theorem ef_cod1 (m : MethodId) (x0 : Addr)  : entryFrame m #[(.ref x0)] 1 = mkF m 0 #[vR x0] [] := by first | (simp [entryFrame, mkF, argsToLocals, Value.category]; done) | rfl
set_option maxRecDepth 65536 in
set_option maxHeartbeats 40000000 in
theorem c_cod1 (l : Launch) (Z : State) (a0 : Array Value) (hw : ∀ d ∈ tables_1, d.before a0 Z = true) (ws : List Jvm.Cond) (x : Addr) (G1 : Int32) (h0 : Heap) (n0 : Nat) (Z0 : n0 ≤ h0.size) (Es : Exa Z h0 x "java/lang/String") (Cs : Fld Z h0 x "java/lang/String" "coder" "B" (iV 1)) (O2 : Sta Z Z.heap "java/lang/String" "COMPACT_STRINGS" "Z" (.int G1)) (P5 : ¬ (G1 = (0 : Int32))) (X00 : Old Z n0 h0) :
  MetFree l yM10 (head1 (Jvm.Cond.code yM10 jdk_42_method_152_code 1 (some .byte) :: ws) ({ frames := 0, cells := 0, slots := 0, locals := 0 } : Room)) (fun a U => a = #[(.ref x)] ∧ Z.Warmed39 U.vm ∧ U.heap = h0) (fun _ _ _ _ _ => True) (fun _ U o U' => ∃ v L, o = .returned v ∧ (Q_cod1 Z x G1 h0 n0) v U'.heap L ∧ FrameEnd U o U' L ({ frames := 0, cells := 0, slots := 0, locals := 0 } : Room).cells ({ frames := 0, cells := 0, slots := 0, locals := 0 } : Room).slots) := by
 refine MetFree.of_bodySF (plainFor_of_name pn_1) hisR ?_
 intro p e s m args below meth c s₁ Bd hml0 hP hK
 obtain ⟨rfl, hZ, hHp⟩ := hP
 have hx := Bd.exec
 have D := fun {pc : Nat} {r} (h : decode _ pc = r) => hb Bd.bytes h
 have hml : c.maxLocals = 1 := hml0
 have hown : s.vm.findClass "java/lang/String" = some m.cls := findClass_of_methodNamed Bd.named
 have hnm := (name_of_methodNamed Bd.named Bd.method).1
 have X0 : Stand p l e ({ frames := 0, cells := 0, slots := 0, locals := 0 } : Room) s m #[(.ref x)] below meth c s₁ [] 0 0 := Stand.of_body Bd
 have e0 : s₁.heap = h0 := by rw [← hHp, Bd.state]; rfl
 have N0 := Fr.nil n0
 refine ownOut (P := (Q_cod1 Z x G1 h0 n0)) ?_
 refine ownBy (A := s₁.setTop (mkF m 0 #[vR x] [])) (fun t k => castTop (ef_cod1 m x) k) ?_
 obtain ⟨T21, X21, e21, st21⟩ := getS2 X0 hx hZ hown (host := "") (Or.inl (Wd47 hw)) Via.refl e0 (O2.ext X00.2) (g := (fr_cod1 m x 0  [])) rfl (D d10_0)
 refine ownBy st21 ?_
 clear st21
 show ownG p.tables e below _ (T21.setTop (fr_cod1 m x 3  [(.int G1)]))
 refine ownBy (A := T21.setTop (fr_cod1 m x 7  [(.ref x)])) (fun t kt => ?_) ?_
 ·refine XS.ifNo X21.here hx rfl (D d10_3) rfl ((if0 _ _).trans (feq P5).1) ?_
  refine XS.aloadN X21.here hx rfl (D d10_6) rfl rfl ?_
  exact kt
 refine own_getF X21 hx hZ hown (host := "") (Or.inl (Wd27 hw)) Via.refl e21 Cs (D d10_7) (fun T22 X22 e22 => ?_)
 refine ownBy (A := T22.setTop (fr_cod1 m x 14  [(iV 1)])) (fun t kt => ?_) ?_
 ·refine XS.goto X22.here hx rfl (pc0 := 10) (pc' := 14) rfl (D d10_10) (by decide) (by decide) ?_
  exact kt
 refine ownRet X22 Bd.notSynchronized (v := some (.int (nar .byte (1 : Int32)))) (fun h => by rw [Bd.returns] at h; cases h) ?_ (oLe rfl) (oLe rfl) (fun fs hr => retN X22 hx (t := .byte) Bd.returns (by simp) (D d10_14) hr)
 show (Q_cod1 Z x G1 h0 n0) (some (.int (nar .byte (1 : Int32)))) T22.heap _
 rw [e22]
 exact ⟨rfl, N0, rfl⟩
abbrev fr_isl1 (m : MethodId) (x : Addr) (pc : Nat)  (st : List Value) : JFrame := mkF m pc #[vR x] st
def Q_isl1 (Z : State) (x : Addr) (G1 : Int32) (h0 : Heap) (n0 : Nat) (v : Option Value) (h : Heap) (L : List Loc) : Prop := v = some (iV 0) ∧ Fr n0 L ∧ h = h0
theorem ef_isl1 (m : MethodId) (x0 : Addr)  : entryFrame m #[(.ref x0)] 1 = mkF m 0 #[vR x0] [] := by first | (simp [entryFrame, mkF, argsToLocals, Value.category]; done) | rfl
set_option maxRecDepth 65536 in
set_option maxHeartbeats 40000000 in
theorem c_isl1 (l : Launch) (Z : State) (a0 : Array Value) (hw : ∀ d ∈ tables_1, d.before a0 Z = true) (ws : List Jvm.Cond) (x : Addr) (G1 : Int32) (h0 : Heap) (n0 : Nat) (Z0 : n0 ≤ h0.size) (Es : Exa Z h0 x "java/lang/String") (Cs : Fld Z h0 x "java/lang/String" "coder" "B" (iV 1)) (O2 : Sta Z Z.heap "java/lang/String" "COMPACT_STRINGS" "Z" (.int G1)) (P5 : ¬ (G1 = (0 : Int32))) (X00 : Old Z n0 h0) :
  MetFree l yM11 (head1 (Jvm.Cond.code yM11 jdk_42_method_154_code 1 (some .boolean) :: ws) ({ frames := 0, cells := 0, slots := 0, locals := 0 } : Room)) (fun a U => a = #[(.ref x)] ∧ Z.Warmed39 U.vm ∧ U.heap = h0) (fun _ _ _ _ _ => True) (fun _ U o U' => ∃ v L, o = .returned v ∧ (Q_isl1 Z x G1 h0 n0) v U'.heap L ∧ FrameEnd U o U' L ({ frames := 0, cells := 0, slots := 0, locals := 0 } : Room).cells ({ frames := 0, cells := 0, slots := 0, locals := 0 } : Room).slots) := by
 refine MetFree.of_bodySF (plainFor_of_name pn_1) hisR ?_
 intro p e s m args below meth c s₁ Bd hml0 hP hK
 obtain ⟨rfl, hZ, hHp⟩ := hP
 have hx := Bd.exec
 have D := fun {pc : Nat} {r} (h : decode _ pc = r) => hb Bd.bytes h
 have hml : c.maxLocals = 1 := hml0
 have hown : s.vm.findClass "java/lang/String" = some m.cls := findClass_of_methodNamed Bd.named
 have hnm := (name_of_methodNamed Bd.named Bd.method).1
 have X0 : Stand p l e ({ frames := 0, cells := 0, slots := 0, locals := 0 } : Room) s m #[(.ref x)] below meth c s₁ [] 0 0 := Stand.of_body Bd
 have e0 : s₁.heap = h0 := by rw [← hHp, Bd.state]; rfl
 have N0 := Fr.nil n0
 refine ownOut (P := (Q_isl1 Z x G1 h0 n0)) ?_
 refine ownBy (A := s₁.setTop (mkF m 0 #[vR x] [])) (fun t k => castTop (ef_isl1 m x) k) ?_
 obtain ⟨T21, X21, e21, st21⟩ := getS2 X0 hx hZ hown (host := "") (Or.inl (Wd47 hw)) Via.refl e0 (O2.ext X00.2) (g := (fr_isl1 m x 0  [])) rfl (D d8_0)
 refine ownBy st21 ?_
 clear st21
 show ownG p.tables e below _ (T21.setTop (fr_isl1 m x 3  [(.int G1)]))
 refine ownBy (A := T21.setTop (fr_isl1 m x 7  [(.ref x)])) (fun t kt => ?_) ?_
 ·refine XS.ifNo X21.here hx rfl (D d8_3) rfl ((if0 _ _).trans (feq P5).1) ?_
  refine XS.aloadN X21.here hx rfl (D d8_6) rfl rfl ?_
  exact kt
 refine own_getF X21 hx hZ hown (host := "") (Or.inl (Wd27 hw)) Via.refl e21 Cs (D d8_7) (fun T22 X22 e22 => ?_)
 refine ownBy (A := T22.setTop (fr_isl1 m x 18  [(iV 0)])) (fun t kt => ?_) ?_
 ·refine XS.ifYes X22.here hx rfl (pc0 := 10) (pc' := 17) rfl (D d8_10) rfl ((if0 _ _).trans (feq ((by decide) : ¬ ((1 : Int32) = (0 : Int32)))).2) (by decide) (by decide) ?_
  refine XS.iconst X22.here hx rfl (D d8_17) ?_
  exact kt
 refine ownRet X22 Bd.notSynchronized (v := some (.int (nar .boolean (0 : Int32)))) (fun h => by rw [Bd.returns] at h; cases h) ?_ (oLe rfl) (oLe rfl) (fun fs hr => retN X22 hx (t := .boolean) Bd.returns (by simp) (D d8_18) hr)
 show (Q_isl1 Z x G1 h0 n0) (some (.int (nar .boolean (0 : Int32)))) T22.heap _
 rw [e22]
 exact ⟨rfl, N0, rfl⟩
def Q_can (Z : State)  (h0 : Heap) (n0 : Nat) (v : Option Value) (h : Heap) (L : List Loc) : Prop := v = some (iV 1) ∧ Fr n0 L ∧ h = h0
theorem ef_can (m : MethodId) (x0 : Int32)  : entryFrame m #[(.int x0)] 1 = mkF m 0 #[vI x0] [] := by first | (simp [entryFrame, mkF, argsToLocals, Value.category]; done) | rfl
set_option maxRecDepth 65536 in
set_option maxHeartbeats 40000000 in
theorem c_can (l : Launch) (Z : State) (a0 : Array Value) (hw : ∀ d ∈ tables_1, d.before a0 Z = true) (ws : List Jvm.Cond)  (h0 : Heap) (n0 : Nat) (Z0 : n0 ≤ h0.size) :
  MetFree l yM12 (head1 (Jvm.Cond.code yM12 jdk_43_method_4_code 1 (some .boolean) :: ws) ({ frames := 0, cells := 0, slots := 0, locals := 0 } : Room)) (fun a U => a = #[(iV 42)] ∧ Z.Warmed39 U.vm ∧ U.heap = h0) (fun _ _ _ _ _ => True) (fun _ U o U' => ∃ v L, o = .returned v ∧ (Q_can Z  h0 n0) v U'.heap L ∧ FrameEnd U o U' L ({ frames := 0, cells := 0, slots := 0, locals := 0 } : Room).cells ({ frames := 0, cells := 0, slots := 0, locals := 0 } : Room).slots) := by
 refine MetFree.of_bodySF (plainFor_of_name pn_11) hisR ?_
 intro p e s m args below meth c s₁ Bd hml0 hP hK
 obtain ⟨rfl, hZ, hHp⟩ := hP
 have hx := Bd.exec
 have D := fun {pc : Nat} {r} (h : decode _ pc = r) => hb Bd.bytes h
 have hml : c.maxLocals = 1 := hml0
 have hown : s.vm.findClass "java/lang/StringLatin1" = some m.cls := findClass_of_methodNamed Bd.named
 have hnm := (name_of_methodNamed Bd.named Bd.method).1
 have X0 : Stand p l e ({ frames := 0, cells := 0, slots := 0, locals := 0 } : Room) s m #[(iV 42)] below meth c s₁ [] 0 0 := Stand.of_body Bd
 have e0 : s₁.heap = h0 := by rw [← hHp, Bd.state]; rfl
 have N0 := Fr.nil n0
 refine ownOut (P := (Q_can Z  h0 n0)) ?_
 refine ownBy (A := s₁.setTop (mkF m 0 #[vI 42] [])) (fun t k => castTop (ef_can m (42 : Int32)) k) ?_
 refine ownBy (A := s₁.setTop (mkF m 16 #[vI 42] [(iV 1)])) (fun t kt => ?_) ?_
 ·refine XS.iloadN X0.here hx rfl (D d12_0) rfl ?_
  refine XS.ifNo X0.here hx rfl (D d12_1) rfl ((if0 _ _).trans (flt ((by decide) : ¬ ((42 : Int32) < (0 : Int32)))).1) ?_
  refine XS.iloadN X0.here hx rfl (D d12_4) rfl ?_
  refine XS.sipush X0.here hx rfl (D d12_5) ?_
  show Steps p.tables e below (s₁.setTop (mkF m 8 #[vI 42] [(iV 255), (iV 42)])) t
  refine XS.icmpNo X0.here hx rfl (D d12_8) rfl (flt ((by decide) : ¬ ((255 : Int32) < (42 : Int32)))).2.2.1 ?_
  refine XS.iconst X0.here hx rfl (D d12_11) ?_
  refine XS.goto X0.here hx rfl (pc0 := 12) (pc' := 16) rfl (D d12_12) (by decide) (by decide) ?_
  exact kt
 refine ownRet X0 Bd.notSynchronized (v := some (.int (nar .boolean (1 : Int32)))) (fun h => by rw [Bd.returns] at h; cases h) ?_ (oLe rfl) (oLe rfl) (fun fs hr => retN X0 hx (t := .boolean) Bd.returns (by simp) (D d12_16) hr)
 show (Q_can Z  h0 n0) (some (.int (nar .boolean (1 : Int32)))) s₁.heap _
 rw [e0]
 exact ⟨rfl, N0, rfl⟩
def Q_mmax (Z : State)  (h0 : Heap) (n0 : Nat) (v : Option Value) (h : Heap) (L : List Loc) : Prop := v = some (iV 0) ∧ Fr n0 L ∧ h = h0
theorem ef_mmax (m : MethodId) (x0 : Int32) (x1 : Int32)  : entryFrame m #[(.int x0), (.int x1)] 2 = mkF m 0 #[vI x0, vI x1] [] := by first | (simp [entryFrame, mkF, argsToLocals, Value.category]; done) | rfl
set_option maxRecDepth 65536 in
set_option maxHeartbeats 40000000 in
theorem c_mmax (l : Launch) (Z : State) (a0 : Array Value) (hw : ∀ d ∈ tables_1, d.before a0 Z = true) (ws : List Jvm.Cond)  (h0 : Heap) (n0 : Nat) (Z0 : n0 ≤ h0.size) :
  MetFree l yM13 (head1 (Jvm.Cond.code yM13 jdk_29_method_65_code 2 (some .int) :: ws) ({ frames := 0, cells := 0, slots := 0, locals := 0 } : Room)) (fun a U => a = #[(iV 0), (iV 0)] ∧ Z.Warmed39 U.vm ∧ U.heap = h0) (fun _ _ _ _ _ => True) (fun _ U o U' => ∃ v L, o = .returned v ∧ (Q_mmax Z  h0 n0) v U'.heap L ∧ FrameEnd U o U' L ({ frames := 0, cells := 0, slots := 0, locals := 0 } : Room).cells ({ frames := 0, cells := 0, slots := 0, locals := 0 } : Room).slots) := by
 refine MetFree.of_bodySF (Jvm.Free.JP.mathPlain rfl (by decide +kernel)) hisR ?_
 intro p e s m args below meth c s₁ Bd hml0 hP hK
 obtain ⟨rfl, hZ, hHp⟩ := hP
 have hx := Bd.exec
 have D := fun {pc : Nat} {r} (h : decode _ pc = r) => hb Bd.bytes h
 have hml : c.maxLocals = 2 := hml0
 have hown : s.vm.findClass "java/lang/Math" = some m.cls := findClass_of_methodNamed Bd.named
 have hnm := (name_of_methodNamed Bd.named Bd.method).1
 have X0 : Stand p l e ({ frames := 0, cells := 0, slots := 0, locals := 0 } : Room) s m #[(iV 0), (iV 0)] below meth c s₁ [] 0 0 := Stand.of_body Bd
 have e0 : s₁.heap = h0 := by rw [← hHp, Bd.state]; rfl
 have N0 := Fr.nil n0
 refine ownOut (P := (Q_mmax Z  h0 n0)) ?_
 refine ownBy (A := s₁.setTop (mkF m 0 #[vI 0, vI 0] [])) (fun t k => castTop (ef_mmax m (0 : Int32) (0 : Int32)) k) ?_
 refine ownBy (A := s₁.setTop (mkF m 10 #[vI 0, vI 0] [(iV 0)])) (fun t kt => ?_) ?_
 ·refine XS.iloadN X0.here hx rfl (D d13_0) rfl ?_
  refine XS.iloadN X0.here hx rfl (D d13_1) rfl ?_
  refine XS.icmpNo X0.here hx rfl (D d13_2) rfl (flt ((by decide) : ¬ ((0 : Int32) < (0 : Int32)))).1 ?_
  refine XS.iloadN X0.here hx rfl (D d13_5) rfl ?_
  show Steps p.tables e below (s₁.setTop (mkF m 6 #[vI 0, vI 0] [(iV 0)])) t
  refine XS.goto X0.here hx rfl (pc0 := 6) (pc' := 10) rfl (D d13_6) (by decide) (by decide) ?_
  exact kt
 refine ownRet X0 Bd.notSynchronized (v := some (iV 0)) (fun h => by rw [Bd.returns] at h; cases h) ?_ (oLe rfl) (oLe rfl) (fun fs hr => retI X0 hx Bd.returns (D d13_10) hr)
 show (Q_mmax Z  h0 n0) (some (iV 0)) s₁.heap _
 rw [e0]
 exact ⟨rfl, N0, rfl⟩
def Q_mmin (Z : State) (m1 : Int32) (m2 : Int32) (h0 : Heap) (n0 : Nat) (v : Option Value) (h : Heap) (L : List Loc) : Prop := v = some (.int m1) ∧ Fr n0 L ∧ h = h0
theorem ef_mmin (m : MethodId) (x0 : Int32) (x1 : Int32)  : entryFrame m #[(.int x0), (.int x1)] 2 = mkF m 0 #[vI x0, vI x1] [] := by first | (simp [entryFrame, mkF, argsToLocals, Value.category]; done) | rfl
set_option maxRecDepth 65536 in
set_option maxHeartbeats 40000000 in
theorem c_mmin (l : Launch) (Z : State) (a0 : Array Value) (hw : ∀ d ∈ tables_1, d.before a0 Z = true) (ws : List Jvm.Cond) (m1 : Int32) (m2 : Int32) (h0 : Heap) (n0 : Nat) (Z0 : n0 ≤ h0.size) (hm : ¬ m2 < m1) :
  MetFree l yM14 (head1 (Jvm.Cond.code yM14 jdk_29_method_69_code 2 (some .int) :: ws) ({ frames := 0, cells := 0, slots := 0, locals := 0 } : Room)) (fun a U => a = #[(.int m1), (.int m2)] ∧ Z.Warmed39 U.vm ∧ U.heap = h0) (fun _ _ _ _ _ => True) (fun _ U o U' => ∃ v L, o = .returned v ∧ (Q_mmin Z m1 m2 h0 n0) v U'.heap L ∧ FrameEnd U o U' L ({ frames := 0, cells := 0, slots := 0, locals := 0 } : Room).cells ({ frames := 0, cells := 0, slots := 0, locals := 0 } : Room).slots) := by
 refine MetFree.of_bodySF (Jvm.Free.JP.mathPlain rfl (by decide +kernel)) hisR ?_
 intro p e s m args below meth c s₁ Bd hml0 hP hK
 obtain ⟨rfl, hZ, hHp⟩ := hP
 have hx := Bd.exec
 have D := fun {pc : Nat} {r} (h : decode _ pc = r) => hb Bd.bytes h
 have hml : c.maxLocals = 2 := hml0
 have hown : s.vm.findClass "java/lang/Math" = some m.cls := findClass_of_methodNamed Bd.named
 have hnm := (name_of_methodNamed Bd.named Bd.method).1
 have X0 : Stand p l e ({ frames := 0, cells := 0, slots := 0, locals := 0 } : Room) s m #[(.int m1), (.int m2)] below meth c s₁ [] 0 0 := Stand.of_body Bd
 have e0 : s₁.heap = h0 := by rw [← hHp, Bd.state]; rfl
 have N0 := Fr.nil n0
 refine ownOut (P := (Q_mmin Z m1 m2 h0 n0)) ?_
 refine ownBy (A := s₁.setTop (mkF m 0 #[vI m1, vI m2] [])) (fun t k => castTop (ef_mmin m m1 m2) k) ?_
 refine ownBy (A := s₁.setTop (mkF m 10 #[vI m1, vI m2] [(.int m1)])) (fun t kt => ?_) ?_
 ·refine XS.iloadN X0.here hx rfl (D d14_0) rfl ?_
  refine XS.iloadN X0.here hx rfl (D d14_1) rfl ?_
  refine XS.icmpNo X0.here hx rfl (D d14_2) rfl (flt hm).2.2.1 ?_
  refine XS.iloadN X0.here hx rfl (D d14_5) rfl ?_
  show Steps p.tables e below (s₁.setTop (mkF m 6 #[vI m1, vI m2] [(.int m1)])) t
  refine XS.goto X0.here hx rfl (pc0 := 6) (pc' := 10) rfl (D d14_6) (by decide) (by decide) ?_
  exact kt
 refine ownRet X0 Bd.notSynchronized (v := some (.int m1)) (fun h => by rw [Bd.returns] at h; cases h) ?_ (oLe rfl) (oLe rfl) (fun fs hr => retI X0 hx Bd.returns (D d14_10) hr)
 show (Q_mmin Z m1 m2 h0 n0) (some (.int m1)) s₁.heap _
 rw [e0]
 exact ⟨rfl, N0, rfl⟩
abbrev fr_len0 (m : MethodId) (x : Addr) (pc : Nat)  (st : List Value) : JFrame := mkF m pc #[vR x] st
def Q_len0 (Z : State) (x : Addr) (ta : Addr) (kb : ClassId) (z : Int32) (vs : List Value) (m1 : Int32) (G1 : Int32) (h0 : Heap) (n0 : Nat) (v : Option Value) (h : Heap) (L : List Loc) : Prop := v = some (.int m1) ∧ Fr n0 L ∧ h = h0
theorem ef_len0 (m : MethodId) (x0 : Addr)  : entryFrame m #[(.ref x0)] 1 = mkF m 0 #[vR x0] [] := by first | (simp [entryFrame, mkF, argsToLocals, Value.category]; done) | rfl
set_option maxRecDepth 65536 in
set_option maxHeartbeats 40000000 in
theorem c_len0 (l : Launch) (Z : State) (a0 : Array Value) (hw : ∀ d ∈ tables_1, d.before a0 Z = true) (ws : List Jvm.Cond) (x : Addr) (ta : Addr) (kb : ClassId) (z : Int32) (vs : List Value) (m1 : Int32) (G1 : Int32) (h0 : Heap) (n0 : Nat) (Z0 : n0 ≤ h0.size) (Es : Exa Z h0 x "java/lang/String") (Vs : Fld Z h0 x "java/lang/String" "value" "[B" (.ref ta)) (Cs : Fld Z h0 x "java/lang/String" "coder" "B" (iV 0)) (Ks : Arv Z h0 ta kb .byte z vs (iV 0)) (hz : (z >>> ((0 : Int32) &&& 31)) = m1) (O2 : Sta Z Z.heap "java/lang/String" "COMPACT_STRINGS" "Z" (.int G1)) (P5 : ¬ (G1 = (0 : Int32))) (X00 : Old Z n0 h0) :
  MetFree l yM15 (head1 (Jvm.Cond.code yM15 jdk_42_method_54_code 1 (some .int) :: ws) ({ frames := 1, cells := 0, slots := 0, locals := 13 } : Room)) (fun a U => a = #[(.ref x)] ∧ Z.Warmed39 U.vm ∧ U.heap = h0) (fun _ _ _ _ _ => True) (fun _ U o U' => ∃ v L, o = .returned v ∧ (Q_len0 Z x ta kb z vs m1 G1 h0 n0) v U'.heap L ∧ FrameEnd U o U' L ({ frames := 1, cells := 0, slots := 0, locals := 13 } : Room).cells ({ frames := 1, cells := 0, slots := 0, locals := 13 } : Room).slots) := by
 refine MetFree.of_bodySF (plainFor_of_name pn_1) hisR ?_
 intro p e s m args below meth c s₁ Bd hml0 hP hK
 obtain ⟨rfl, hZ, hHp⟩ := hP
 have hx := Bd.exec
 have D := fun {pc : Nat} {r} (h : decode _ pc = r) => hb Bd.bytes h
 have hml : c.maxLocals = 1 := hml0
 have hown : s.vm.findClass "java/lang/String" = some m.cls := findClass_of_methodNamed Bd.named
 have hnm := (name_of_methodNamed Bd.named Bd.method).1
 have X0 : Stand p l e ({ frames := 1, cells := 0, slots := 0, locals := 13 } : Room) s m #[(.ref x)] below meth c s₁ [] 0 0 := Stand.of_body Bd
 have e0 : s₁.heap = h0 := by rw [← hHp, Bd.state]; rfl
 have N0 := Fr.nil n0
 refine ownOut (P := (Q_len0 Z x ta kb z vs m1 G1 h0 n0)) ?_
 refine ownBy (A := s₁.setTop (mkF m 0 #[vR x] [])) (fun t k => castTop (ef_len0 m x) k) ?_
 refine ownBy (A := s₁.setTop (fr_len0 m x 1  [(.ref x)])) (fun t kt => ?_) ?_
 ·refine XS.aloadN X0.here hx rfl (D d9_0) rfl rfl ?_
  exact kt
 refine own_getF X0 hx hZ hown (host := "") (Or.inl (Wd26 hw)) Via.refl e0 Vs (D d9_1) (fun T21 X21 e21 => ?_)
 obtain ⟨cl22, Ar22, -, S22, N22, -, -⟩ := id Ks
 have st22 := X21.arraylength hx (by rw [e21]; exact Ar22.1) (State.isArrayOf_alike hZ.alike Ar22.2.1) (g := (fr_len0 m x 4  [(.ref ta)])) rfl rfl (D d9_4)
 rw [len_of S22 N22] at st22
 refine ownBy st22 ?_
 show ownG p.tables e below _ (T21.setTop (fr_len0 m x 5  [(.int z)]))
 refine ownBy (A := T21.setTop (fr_len0 m x 6  [(.ref x), (.int z)])) (fun t kt => ?_) ?_
 ·refine XS.aloadN X21.here hx rfl (D d9_5) rfl rfl ?_
  exact kt
 obtain ⟨cq23, kq23, q23a, q23b, q23c⟩ := isOf hZ e21 Es
 obtain ⟨vv23, _, ⟨T23, L23, k23, n23⟩, -, X23, ⟨Lc23, hQ23, l23, y23, z23⟩, st23⟩ := X21.virtualBack hx (y := yM10) (z := yM10) hown (mvT hZ (Wd53 hw)) (mvT hZ (Wd54 hw)) (notFace_of_selects (args := #[]) (mvT hZ (Wd56 hw))) (mvT hZ (Wd56 hw)) (mvT hZ (Wd55 hw)) (by decide) (backOf (W := 1) (c_cod0 l Z a0 hw [] x G1 h0 n0 Z0 Es Cs O2 P5 X00) hZ (Wd57 hw) (Wd9 hw) (by decide) (by decide)) q23a q23c (g := (fr_len0 m x 6  [(.ref x), (.int z)])) rfl (by rw [hml]; rfl) (Steps.refl _) (argsL := []) (rest := [(.int z)]) (lenOf pd_12 rfl) rfl (by show 2 * 0 + _ ≤ _; exact Nat.le_of_eq rfl) (D d9_6) (fun _ _ => ⟨rfl, e21, (by decide : 0 + 0 ≤ _), (by decide : 0 + 0 ≤ _)⟩)
 dsimp only [Pt.U, Pt.locs, Pt.cells, Pt.slots] at X23 l23 y23 z23 st23 hQ23
 subst l23 y23 z23
 obtain ⟨rfl, Nq23, Eq23⟩ := hQ23
 have N24 := Fr.app N0 Nq23
 obtain ⟨Lh25, Xh25, Nh25⟩ := oHd 0 0 X23 N24 rfl rfl
 refine ownSt st23 ?_
 clear st23
 show ownG p.tables e below _ (T23.setTop (fr_len0 m x 9  [(iV 0), (.int z)]))
 refine ownBy (A := T23.setTop (fr_len0 m x 10  [(.int (z >>> ((0 : Int32) &&& 31)))])) (fun t kt => ?_) ?_
 ·refine XS.ishr Xh25.here hx rfl (D d9_9) rfl ?_
  exact kt
 refine ownRet Xh25 Bd.notSynchronized (v := some (.int (z >>> ((0 : Int32) &&& 31)))) (fun h => by rw [Bd.returns] at h; cases h) ?_ (oLe rfl) (oLe rfl) (fun fs hr => retI Xh25 hx Bd.returns (D d9_10) hr)
 show (Q_len0 Z x ta kb z vs m1 G1 h0 n0) (some (.int (z >>> ((0 : Int32) &&& 31)))) T23.heap _
 rw [Eq23]
 refine ⟨?_, Nh25, rfl⟩
 rw [hz]
abbrev fr_len1 (m : MethodId) (x : Addr) (pc : Nat)  (st : List Value) : JFrame := mkF m pc #[vR x] st
def Q_len1 (Z : State) (x : Addr) (ta : Addr) (kb : ClassId) (z : Int32) (vs : List Value) (m1 : Int32) (G1 : Int32) (h0 : Heap) (n0 : Nat) (v : Option Value) (h : Heap) (L : List Loc) : Prop := v = some (.int m1) ∧ Fr n0 L ∧ h = h0
theorem ef_len1 (m : MethodId) (x0 : Addr)  : entryFrame m #[(.ref x0)] 1 = mkF m 0 #[vR x0] [] := by first | (simp [entryFrame, mkF, argsToLocals, Value.category]; done) | rfl
set_option maxRecDepth 65536 in
set_option maxHeartbeats 40000000 in
theorem c_len1 (l : Launch) (Z : State) (a0 : Array Value) (hw : ∀ d ∈ tables_1, d.before a0 Z = true) (ws : List Jvm.Cond) (x : Addr) (ta : Addr) (kb : ClassId) (z : Int32) (vs : List Value) (m1 : Int32) (G1 : Int32) (h0 : Heap) (n0 : Nat) (Z0 : n0 ≤ h0.size) (Es : Exa Z h0 x "java/lang/String") (Vs : Fld Z h0 x "java/lang/String" "value" "[B" (.ref ta)) (Cs : Fld Z h0 x "java/lang/String" "coder" "B" (iV 1)) (Ks : Arv Z h0 ta kb .byte z vs (iV 0)) (hz : (z >>> ((1 : Int32) &&& 31)) = m1) (O2 : Sta Z Z.heap "java/lang/String" "COMPACT_STRINGS" "Z" (.int G1)) (P5 : ¬ (G1 = (0 : Int32))) (X00 : Old Z n0 h0) :
  MetFree l yM15 (head1 (Jvm.Cond.code yM15 jdk_42_method_54_code 1 (some .int) :: ws) ({ frames := 1, cells := 0, slots := 0, locals := 13 } : Room)) (fun a U => a = #[(.ref x)] ∧ Z.Warmed39 U.vm ∧ U.heap = h0) (fun _ _ _ _ _ => True) (fun _ U o U' => ∃ v L, o = .returned v ∧ (Q_len1 Z x ta kb z vs m1 G1 h0 n0) v U'.heap L ∧ FrameEnd U o U' L ({ frames := 1, cells := 0, slots := 0, locals := 13 } : Room).cells ({ frames := 1, cells := 0, slots := 0, locals := 13 } : Room).slots) := by
 refine MetFree.of_bodySF (plainFor_of_name pn_1) hisR ?_
 intro p e s m args below meth c s₁ Bd hml0 hP hK
 obtain ⟨rfl, hZ, hHp⟩ := hP
 have hx := Bd.exec
 have D := fun {pc : Nat} {r} (h : decode _ pc = r) => hb Bd.bytes h
 have hml : c.maxLocals = 1 := hml0
 have hown : s.vm.findClass "java/lang/String" = some m.cls := findClass_of_methodNamed Bd.named
 have hnm := (name_of_methodNamed Bd.named Bd.method).1
 have X0 : Stand p l e ({ frames := 1, cells := 0, slots := 0, locals := 13 } : Room) s m #[(.ref x)] below meth c s₁ [] 0 0 := Stand.of_body Bd
 have e0 : s₁.heap = h0 := by rw [← hHp, Bd.state]; rfl
 have N0 := Fr.nil n0
 refine ownOut (P := (Q_len1 Z x ta kb z vs m1 G1 h0 n0)) ?_
 refine ownBy (A := s₁.setTop (mkF m 0 #[vR x] [])) (fun t k => castTop (ef_len1 m x) k) ?_
 refine ownBy (A := s₁.setTop (fr_len1 m x 1  [(.ref x)])) (fun t kt => ?_) ?_
 ·refine XS.aloadN X0.here hx rfl (D d9_0) rfl rfl ?_
  exact kt
 refine own_getF X0 hx hZ hown (host := "") (Or.inl (Wd26 hw)) Via.refl e0 Vs (D d9_1) (fun T21 X21 e21 => ?_)
 obtain ⟨cl22, Ar22, -, S22, N22, -, -⟩ := id Ks
 have st22 := X21.arraylength hx (by rw [e21]; exact Ar22.1) (State.isArrayOf_alike hZ.alike Ar22.2.1) (g := (fr_len1 m x 4  [(.ref ta)])) rfl rfl (D d9_4)
 rw [len_of S22 N22] at st22
 refine ownBy st22 ?_
 show ownG p.tables e below _ (T21.setTop (fr_len1 m x 5  [(.int z)]))
 refine ownBy (A := T21.setTop (fr_len1 m x 6  [(.ref x), (.int z)])) (fun t kt => ?_) ?_
 ·refine XS.aloadN X21.here hx rfl (D d9_5) rfl rfl ?_
  exact kt
 obtain ⟨cq23, kq23, q23a, q23b, q23c⟩ := isOf hZ e21 Es
 obtain ⟨vv23, _, ⟨T23, L23, k23, n23⟩, -, X23, ⟨Lc23, hQ23, l23, y23, z23⟩, st23⟩ := X21.virtualBack hx (y := yM10) (z := yM10) hown (mvT hZ (Wd53 hw)) (mvT hZ (Wd54 hw)) (notFace_of_selects (args := #[]) (mvT hZ (Wd56 hw))) (mvT hZ (Wd56 hw)) (mvT hZ (Wd55 hw)) (by decide) (backOf (W := 1) (c_cod1 l Z a0 hw [] x G1 h0 n0 Z0 Es Cs O2 P5 X00) hZ (Wd57 hw) (Wd9 hw) (by decide) (by decide)) q23a q23c (g := (fr_len1 m x 6  [(.ref x), (.int z)])) rfl (by rw [hml]; rfl) (Steps.refl _) (argsL := []) (rest := [(.int z)]) (lenOf pd_12 rfl) rfl (by show 2 * 0 + _ ≤ _; exact Nat.le_of_eq rfl) (D d9_6) (fun _ _ => ⟨rfl, e21, (by decide : 0 + 0 ≤ _), (by decide : 0 + 0 ≤ _)⟩)
 dsimp only [Pt.U, Pt.locs, Pt.cells, Pt.slots] at X23 l23 y23 z23 st23 hQ23
 subst l23 y23 z23
 obtain ⟨rfl, Nq23, Eq23⟩ := hQ23
 have N24 := Fr.app N0 Nq23
 obtain ⟨Lh25, Xh25, Nh25⟩ := oHd 0 0 X23 N24 rfl rfl
 refine ownSt st23 ?_
 clear st23
 show ownG p.tables e below _ (T23.setTop (fr_len1 m x 9  [(iV 1), (.int z)]))
 refine ownBy (A := T23.setTop (fr_len1 m x 10  [(.int (z >>> ((1 : Int32) &&& 31)))])) (fun t kt => ?_) ?_
 ·refine XS.ishr Xh25.here hx rfl (D d9_9) rfl ?_
  exact kt
 refine ownRet Xh25 Bd.notSynchronized (v := some (.int (z >>> ((1 : Int32) &&& 31)))) (fun h => by rw [Bd.returns] at h; cases h) ?_ (oLe rfl) (oLe rfl) (fun fs hr => retI Xh25 hx Bd.returns (D d9_10) hr)
 show (Q_len1 Z x ta kb z vs m1 G1 h0 n0) (some (.int (z >>> ((1 : Int32) &&& 31)))) T23.heap _
 rw [Eq23]
 refine ⟨?_, Nh25, rfl⟩
 rw [hz]
abbrev fr_ul (m : MethodId) (ta : Addr) (pc : Nat)  (st : List Value) : JFrame := mkF m pc #[vR ta] st
def Q_ul (Z : State) (ta : Addr) (kb : ClassId) (z : Int32) (vs : List Value) (m1 : Int32) (h0 : Heap) (n0 : Nat) (v : Option Value) (h : Heap) (L : List Loc) : Prop := v = some (.int m1) ∧ Fr n0 L ∧ h = h0
theorem ef_ul (m : MethodId) (x0 : Addr)  : entryFrame m #[(.ref x0)] 1 = mkF m 0 #[vR x0] [] := by first | (simp [entryFrame, mkF, argsToLocals, Value.category]; done) | rfl
set_option maxRecDepth 65536 in
set_option maxHeartbeats 40000000 in
theorem c_ul (l : Launch) (Z : State) (a0 : Array Value) (hw : ∀ d ∈ tables_1, d.before a0 Z = true) (ws : List Jvm.Cond) (ta : Addr) (kb : ClassId) (z : Int32) (vs : List Value) (m1 : Int32) (h0 : Heap) (n0 : Nat) (Z0 : n0 ≤ h0.size) (Ks : Arv Z h0 ta kb .byte z vs (iV 0)) (hz : (z >>> ((1 : Int32) &&& 31)) = m1) :
  MetFree l yM16 (head1 (Jvm.Cond.code yM16 jdk_52_method_6_code 1 (some .int) :: ws) ({ frames := 0, cells := 0, slots := 0, locals := 0 } : Room)) (fun a U => a = #[(.ref ta)] ∧ Z.Warmed39 U.vm ∧ U.heap = h0) (fun _ _ _ _ _ => True) (fun _ U o U' => ∃ v L, o = .returned v ∧ (Q_ul Z ta kb z vs m1 h0 n0) v U'.heap L ∧ FrameEnd U o U' L ({ frames := 0, cells := 0, slots := 0, locals := 0 } : Room).cells ({ frames := 0, cells := 0, slots := 0, locals := 0 } : Room).slots) := by
 refine MetFree.of_bodySF (plainFor_of_name pn_3) hisR ?_
 intro p e s m args below meth c s₁ Bd hml0 hP hK
 obtain ⟨rfl, hZ, hHp⟩ := hP
 have hx := Bd.exec
 have D := fun {pc : Nat} {r} (h : decode _ pc = r) => hb Bd.bytes h
 have hml : c.maxLocals = 1 := hml0
 have hown : s.vm.findClass "java/lang/StringUTF16" = some m.cls := findClass_of_methodNamed Bd.named
 have hnm := (name_of_methodNamed Bd.named Bd.method).1
 have X0 : Stand p l e ({ frames := 0, cells := 0, slots := 0, locals := 0 } : Room) s m #[(.ref ta)] below meth c s₁ [] 0 0 := Stand.of_body Bd
 have e0 : s₁.heap = h0 := by rw [← hHp, Bd.state]; rfl
 have N0 := Fr.nil n0
 refine ownOut (P := (Q_ul Z ta kb z vs m1 h0 n0)) ?_
 refine ownBy (A := s₁.setTop (mkF m 0 #[vR ta] [])) (fun t k => castTop (ef_ul m ta) k) ?_
 refine ownBy (A := s₁.setTop (fr_ul m ta 1  [(.ref ta)])) (fun t kt => ?_) ?_
 ·refine XS.aloadN X0.here hx rfl (D d27_0) rfl rfl ?_
  exact kt
 obtain ⟨cl21, Ar21, -, S21, N21, -, -⟩ := id Ks
 have st21 := X0.arraylength hx (by rw [e0]; exact Ar21.1) (State.isArrayOf_alike hZ.alike Ar21.2.1) (g := (fr_ul m ta 1  [(.ref ta)])) rfl rfl (D d27_1)
 rw [len_of S21 N21] at st21
 refine ownBy st21 ?_
 show ownG p.tables e below _ (s₁.setTop (fr_ul m ta 2  [(.int z)]))
 refine ownBy (A := s₁.setTop (fr_ul m ta 4  [(.int (z >>> ((1 : Int32) &&& 31)))])) (fun t kt => ?_) ?_
 ·refine XS.iconst X0.here hx rfl (D d27_2) ?_
  refine XS.ishr X0.here hx rfl (D d27_3) rfl ?_
  exact kt
 refine ownRet X0 Bd.notSynchronized (v := some (.int (z >>> ((1 : Int32) &&& 31)))) (fun h => by rw [Bd.returns] at h; cases h) ?_ (oLe rfl) (oLe rfl) (fun fs hr => retI X0 hx Bd.returns (D d27_4) hr)
 show (Q_ul Z ta kb z vs m1 h0 n0) (some (.int (z >>> ((1 : Int32) &&& 31)))) s₁.heap _
 rw [e0]
 refine ⟨?_, N0, rfl⟩
 rw [hz]
def Q_cft (Z : State) (G3 : Value) (m1 : Int32) (h0 : Heap) (n0 : Nat) (v : Option Value) (h : Heap) (L : List Loc) : Prop := v = some (iV 0) ∧ Fr n0 L ∧ h = h0
theorem ef_cft (m : MethodId) (x0 : Int32) (x1 : Int32) (x2 : Int32) (x3 : Value) (r3 : x3.isRef = true) : entryFrame m #[(.int x0), (.int x1), (.int x2), x3] 4 = mkF m 0 #[vI x0, vI x1, vI x2, .val x3] [] := by
 rcases ref_cases r3 with rfl | ⟨y3, rfl⟩ <;> first | (simp [entryFrame, mkF, argsToLocals, Value.category]; done) | rfl
set_option maxRecDepth 65536 in
set_option maxHeartbeats 40000000 in
theorem c_cft (l : Launch) (Z : State) (a0 : Array Value) (hw : ∀ d ∈ tables_1, d.before a0 Z = true) (ws : List Jvm.Cond) (G3 : Value) (m1 : Int32) (h0 : Heap) (n0 : Nat) (Z0 : n0 ≤ h0.size) (rG3 : G3.isRef = true) (hm : ¬ m1 < (0 : Int32)) :
  MetFree l yM17 (head1 (Jvm.Cond.code yM17 jdk_41_method_12_code 4 (some .int) :: ws) ({ frames := 0, cells := 0, slots := 0, locals := 0 } : Room)) (fun a U => a = #[(iV 0), (.int m1), (.int m1), G3] ∧ Z.Warmed39 U.vm ∧ U.heap = h0) (fun _ _ _ _ _ => True) (fun _ U o U' => ∃ v L, o = .returned v ∧ (Q_cft Z G3 m1 h0 n0) v U'.heap L ∧ FrameEnd U o U' L ({ frames := 0, cells := 0, slots := 0, locals := 0 } : Room).cells ({ frames := 0, cells := 0, slots := 0, locals := 0 } : Room).slots) := by
 refine MetFree.of_bodySF (plainFor_of_name pn_13) hisR ?_
 intro p e s m args below meth c s₁ Bd hml0 hP hK
 obtain ⟨rfl, hZ, hHp⟩ := hP
 have hx := Bd.exec
 have D := fun {pc : Nat} {r} (h : decode _ pc = r) => hb Bd.bytes h
 have hml : c.maxLocals = 4 := hml0
 have hown : s.vm.findClass "jdk/internal/util/Preconditions" = some m.cls := findClass_of_methodNamed Bd.named
 have hnm := (name_of_methodNamed Bd.named Bd.method).1
 have X0 : Stand p l e ({ frames := 0, cells := 0, slots := 0, locals := 0 } : Room) s m #[(iV 0), (.int m1), (.int m1), G3] below meth c s₁ [] 0 0 := Stand.of_body Bd
 have e0 : s₁.heap = h0 := by rw [← hHp, Bd.state]; rfl
 have N0 := Fr.nil n0
 refine ownOut (P := (Q_cft Z G3 m1 h0 n0)) ?_
 refine ownBy (A := s₁.setTop (mkF m 0 #[vI 0, vI m1, vI m1, .val G3] [])) (fun t k => castTop (ef_cft m (0 : Int32) m1 m1 G3 rG3) k) ?_
 refine ownBy (A := s₁.setTop (mkF m 23 #[vI 0, vI m1, vI m1, .val G3] [(iV 0)])) (fun t kt => ?_) ?_
 ·refine XS.iloadN X0.here hx rfl (D d29_0) rfl ?_
  refine XS.ifNo X0.here hx rfl (D d29_1) rfl ((if0 _ _).trans (flt ((by decide) : ¬ ((0 : Int32) < (0 : Int32)))).1) ?_
  refine XS.iloadN X0.here hx rfl (D d29_4) rfl ?_
  refine XS.iloadN X0.here hx rfl (D d29_5) rfl ?_
  show Steps p.tables e below (s₁.setTop (mkF m 6 #[vI 0, vI m1, vI m1, .val G3] [(.int m1), (iV 0)])) t
  refine XS.icmpNo X0.here hx rfl (D d29_6) rfl (flt hm).2.2.1 ?_
  refine XS.iloadN X0.here hx rfl (D d29_9) rfl ?_
  refine XS.iloadN X0.here hx rfl (D d29_10) rfl ?_
  refine XS.icmpYes X0.here hx rfl (pc0 := 11) (pc' := 22) rfl (D d29_11) rfl (flt (own_irr m1)).2.2.2 (by decide) (by decide) ?_
  show Steps p.tables e below (s₁.setTop (mkF m 22 #[vI 0, vI m1, vI m1, .val G3] [])) t
  refine XS.iloadN X0.here hx rfl (D d29_22) rfl ?_
  exact kt
 refine ownRet X0 Bd.notSynchronized (v := some (iV 0)) (fun h => by rw [Bd.returns] at h; cases h) ?_ (oLe rfl) (oLe rfl) (fun fs hr => retI X0 hx Bd.returns (D d29_23) hr)
 show (Q_cft Z G3 m1 h0 n0) (some (iV 0)) s₁.heap _
 rw [e0]
 exact ⟨rfl, N0, rfl⟩
abbrev fr_scb (m : MethodId) (m1 : Int32) (pc : Nat)  (st : List Value) : JFrame := mkF m pc #[vI 0, vI m1, vI m1] st
def Q_scb (Z : State) (G3 : Value) (m1 : Int32) (h0 : Heap) (n0 : Nat) (v : Option Value) (h : Heap) (L : List Loc) : Prop := v = none ∧ Fr n0 L ∧ h = h0
theorem ef_scb (m : MethodId) (x0 : Int32) (x1 : Int32) (x2 : Int32)  : entryFrame m #[(.int x0), (.int x1), (.int x2)] 3 = mkF m 0 #[vI x0, vI x1, vI x2] [] := by first | (simp [entryFrame, mkF, argsToLocals, Value.category]; done) | rfl
set_option maxRecDepth 65536 in
set_option maxHeartbeats 40000000 in
theorem c_scb (l : Launch) (Z : State) (a0 : Array Value) (hw : ∀ d ∈ tables_1, d.before a0 Z = true) (ws : List Jvm.Cond) (G3 : Value) (m1 : Int32) (h0 : Heap) (n0 : Nat) (Z0 : n0 ≤ h0.size) (O4 : Sta Z Z.heap "jdk/internal/util/Preconditions" "SIOOBE_FORMATTER" "Ljava/util/function/BiFunction;" G3) (rG3 : G3.isRef = true) (hm : ¬ m1 < (0 : Int32)) (X00 : Old Z n0 h0) :
  MetFree l yM18 (head1 (Jvm.Cond.code yM18 jdk_42_method_158_code 3 none :: ws) ({ frames := 1, cells := 0, slots := 0, locals := 15 } : Room)) (fun a U => a = #[(iV 0), (.int m1), (.int m1)] ∧ Z.Warmed39 U.vm ∧ U.heap = h0) (fun _ _ _ _ _ => True) (fun _ U o U' => ∃ v L, o = .returned v ∧ (Q_scb Z G3 m1 h0 n0) v U'.heap L ∧ FrameEnd U o U' L ({ frames := 1, cells := 0, slots := 0, locals := 15 } : Room).cells ({ frames := 1, cells := 0, slots := 0, locals := 15 } : Room).slots) := by
 refine MetFree.of_bodySF (plainFor_of_name pn_1) hisR ?_
 intro p e s m args below meth c s₁ Bd hml0 hP hK
 obtain ⟨rfl, hZ, hHp⟩ := hP
 have hx := Bd.exec
 have D := fun {pc : Nat} {r} (h : decode _ pc = r) => hb Bd.bytes h
 have hml : c.maxLocals = 3 := hml0
 have hown : s.vm.findClass "java/lang/String" = some m.cls := findClass_of_methodNamed Bd.named
 have hnm := (name_of_methodNamed Bd.named Bd.method).1
 have X0 : Stand p l e ({ frames := 1, cells := 0, slots := 0, locals := 15 } : Room) s m #[(iV 0), (.int m1), (.int m1)] below meth c s₁ [] 0 0 := Stand.of_body Bd
 have e0 : s₁.heap = h0 := by rw [← hHp, Bd.state]; rfl
 have N0 := Fr.nil n0
 refine ownOut (P := (Q_scb Z G3 m1 h0 n0)) ?_
 refine ownBy (A := s₁.setTop (mkF m 0 #[vI 0, vI m1, vI m1] [])) (fun t k => castTop (ef_scb m (0 : Int32) m1 m1) k) ?_
 refine ownBy (A := s₁.setTop (fr_scb m m1 3  [(.int m1), (.int m1), (iV 0)])) (fun t kt => ?_) ?_
 ·refine XS.iloadN X0.here hx rfl (D d28_0) rfl ?_
  refine XS.iloadN X0.here hx rfl (D d28_1) rfl ?_
  refine XS.iloadN X0.here hx rfl (D d28_2) rfl ?_
  exact kt
 obtain ⟨T21, X21, e21, st21⟩ := getS2 X0 hx hZ hown (host := "") (Or.inl (Wd122 hw)) Via.refl e0 (O4.ext X00.2) (g := (fr_scb m m1 3  [(.int m1), (.int m1), (iV 0)])) rfl (D d28_3)
 refine ownBy st21 ?_
 clear st21
 show ownG p.tables e below _ (T21.setTop (fr_scb m m1 6  [G3, (.int m1), (.int m1), (iV 0)]))
 obtain ⟨vv22, _, ⟨T22, L22, k22, n22⟩, -, X22, ⟨Lc22, hQ22, l22, y22, z22⟩, st22⟩ := Jvm.LawKit.callS X21 hx (y := yM17) hown (mvT hZ (Wd124 hw)) (mvT hZ (Wd125 hw)) (mvT hZ (Wd123 hw)) (mvT hZ (Wd126 hw)) (by decide) (backOf (W := 0) (c_cft l Z a0 hw [] G3 m1 h0 n0 Z0 rG3 hm) hZ (Wd126 hw) (Wd123 hw) (by decide) (by decide)) (g := (fr_scb m m1 6  [G3, (.int m1), (.int m1), (iV 0)])) rfl (by rw [hml]; rfl) (argsL := [(iV 0), (.int m1), (.int m1), G3]) (rest := []) (lenOf pd_14 rfl) rfl (by show 2 * 0 + _ ≤ _; exact Nat.le_of_eq rfl) (D d28_6) (fun _ _ => ⟨rfl, e21, (by decide : 0 + 0 ≤ _), (by decide : 0 + 0 ≤ _)⟩)
 dsimp only [Pt.U, Pt.locs, Pt.cells, Pt.slots] at X22 l22 y22 z22 st22 hQ22
 subst l22 y22 z22
 obtain ⟨rfl, Nq22, Eq22⟩ := hQ22
 have N23 := Fr.app N0 Nq22
 obtain ⟨Lh24, Xh24, Nh24⟩ := oHd 0 0 X22 N23 rfl rfl
 refine ownBy st22 ?_
 clear st22
 show ownG p.tables e below _ (T22.setTop (fr_scb m m1 9  [(iV 0)]))
 refine ownBy (A := T22.setTop (fr_scb m m1 10  [])) (fun t kt => ?_) ?_
 ·refine XS.pop Xh24.here hx rfl (D d28_9) rfl rfl ?_
  exact kt
 refine ownRet Xh24 Bd.notSynchronized (v := none) (fun _ => rfl) ?_ (oLe rfl) (oLe rfl) (fun fs hr => Xh24.returnOut hx Bd.returns (D d28_10) hr)
 show (Q_scb Z G3 m1 h0 n0) (none) T22.heap _
 rw [Eq22]
 exact ⟨rfl, Nh24, rfl⟩
abbrev fr_ucb (m : MethodId) (m1 : Int32) (ta : Addr) (pc : Nat)  (st : List Value) : JFrame := mkF m pc #[vI 0, vI m1, vR ta] st
def Q_ucb (Z : State) (ta : Addr) (kb : ClassId) (z : Int32) (vs : List Value) (m1 : Int32) (G3 : Value) (h0 : Heap) (n0 : Nat) (v : Option Value) (h : Heap) (L : List Loc) : Prop := v = none ∧ Fr n0 L ∧ h = h0
theorem ef_ucb (m : MethodId) (x0 : Int32) (x1 : Int32) (x2 : Addr)  : entryFrame m #[(.int x0), (.int x1), (.ref x2)] 3 = mkF m 0 #[vI x0, vI x1, vR x2] [] := by first | (simp [entryFrame, mkF, argsToLocals, Value.category]; done) | rfl
set_option maxRecDepth 65536 in
set_option maxHeartbeats 40000000 in
theorem c_ucb (l : Launch) (Z : State) (a0 : Array Value) (hw : ∀ d ∈ tables_1, d.before a0 Z = true) (ws : List Jvm.Cond) (ta : Addr) (kb : ClassId) (z : Int32) (vs : List Value) (m1 : Int32) (G3 : Value) (h0 : Heap) (n0 : Nat) (Z0 : n0 ≤ h0.size) (Ks : Arv Z h0 ta kb .byte z vs (iV 0)) (hz : (z >>> ((1 : Int32) &&& 31)) = m1) (O4 : Sta Z Z.heap "jdk/internal/util/Preconditions" "SIOOBE_FORMATTER" "Ljava/util/function/BiFunction;" G3) (rG3 : G3.isRef = true) (hm : ¬ m1 < (0 : Int32)) (X00 : Old Z n0 h0) :
  MetFree l yM19 (head1 (Jvm.Cond.code yM19 jdk_52_method_93_code 3 none :: ws) ({ frames := 2, cells := 0, slots := 0, locals := 29 } : Room)) (fun a U => a = #[(iV 0), (.int m1), (.ref ta)] ∧ Z.Warmed39 U.vm ∧ U.heap = h0) (fun _ _ _ _ _ => True) (fun _ U o U' => ∃ v L, o = .returned v ∧ (Q_ucb Z ta kb z vs m1 G3 h0 n0) v U'.heap L ∧ FrameEnd U o U' L ({ frames := 2, cells := 0, slots := 0, locals := 29 } : Room).cells ({ frames := 2, cells := 0, slots := 0, locals := 29 } : Room).slots) := by
 refine MetFree.of_bodySF (plainFor_of_name pn_3) hisR ?_
 intro p e s m args below meth c s₁ Bd hml0 hP hK
 obtain ⟨rfl, hZ, hHp⟩ := hP
 have hx := Bd.exec
 have D := fun {pc : Nat} {r} (h : decode _ pc = r) => hb Bd.bytes h
 have hml : c.maxLocals = 3 := hml0
 have hown : s.vm.findClass "java/lang/StringUTF16" = some m.cls := findClass_of_methodNamed Bd.named
 have hnm := (name_of_methodNamed Bd.named Bd.method).1
 have X0 : Stand p l e ({ frames := 2, cells := 0, slots := 0, locals := 29 } : Room) s m #[(iV 0), (.int m1), (.ref ta)] below meth c s₁ [] 0 0 := Stand.of_body Bd
 have e0 : s₁.heap = h0 := by rw [← hHp, Bd.state]; rfl
 have N0 := Fr.nil n0
 refine ownOut (P := (Q_ucb Z ta kb z vs m1 G3 h0 n0)) ?_
 refine ownBy (A := s₁.setTop (mkF m 0 #[vI 0, vI m1, vR ta] [])) (fun t k => castTop (ef_ucb m (0 : Int32) m1 ta) k) ?_
 refine ownBy (A := s₁.setTop (fr_ucb m m1 ta 3  [(.ref ta), (.int m1), (iV 0)])) (fun t kt => ?_) ?_
 ·refine XS.iloadN X0.here hx rfl (D d26_0) rfl ?_
  refine XS.iloadN X0.here hx rfl (D d26_1) rfl ?_
  refine XS.aloadN X0.here hx rfl (D d26_2) rfl rfl ?_
  exact kt
 obtain ⟨vv21, _, ⟨T21, L21, k21, n21⟩, -, X21, ⟨Lc21, hQ21, l21, y21, z21⟩, st21⟩ := Jvm.LawKit.callS X0 hx (y := yM16) hown (mvT hZ (Wd116 hw)) (mvT hZ (Wd117 hw)) (mvT hZ (Wd74 hw)) (mvT hZ (Wd118 hw)) (by decide) (backOf (W := 2) (c_ul l Z a0 hw [] ta kb z vs m1 h0 n0 Z0 Ks hz) hZ (Wd118 hw) (Wd74 hw) (by decide) (by decide)) (g := (fr_ucb m m1 ta 3  [(.ref ta), (.int m1), (iV 0)])) rfl (by rw [hml]; rfl) (argsL := [(.ref ta)]) (rest := [(.int m1), (iV 0)]) (lenOf pd_15 rfl) rfl (by show 2 * 0 + _ ≤ _; exact Nat.le_of_eq rfl) (D d26_3) (fun _ _ => ⟨rfl, e0, (by decide : 0 + 0 ≤ _), (by decide : 0 + 0 ≤ _)⟩)
 dsimp only [Pt.U, Pt.locs, Pt.cells, Pt.slots] at X21 l21 y21 z21 st21 hQ21
 subst l21 y21 z21
 obtain ⟨rfl, Nq21, Eq21⟩ := hQ21
 have N22 := Fr.app N0 Nq21
 obtain ⟨Lh23, Xh23, Nh23⟩ := oHd 0 0 X21 N22 rfl rfl
 refine ownBy st21 ?_
 clear st21
 show ownG p.tables e below _ (T21.setTop (fr_ucb m m1 ta 6  [(.int m1), (.int m1), (iV 0)]))
 obtain ⟨vv24, _, ⟨T24, L24, k24, n24⟩, -, X24, ⟨Lc24, hQ24, l24, y24, z24⟩, st24⟩ := Jvm.LawKit.callS Xh23 hx (y := yM18) hown (mvT hZ (Wd119 hw)) (mvT hZ (Wd120 hw)) (mvT hZ (Wd9 hw)) (mvT hZ (Wd121 hw)) (by decide) (backOf (W := 0) (c_scb l Z a0 hw [] G3 m1 h0 n0 Z0 O4 rG3 hm X00) hZ (Wd121 hw) (Wd9 hw) (by decide) (by decide)) (g := (fr_ucb m m1 ta 6  [(.int m1), (.int m1), (iV 0)])) rfl (by rw [hml]; rfl) (argsL := [(iV 0), (.int m1), (.int m1)]) (rest := []) (lenOf pd_16 rfl) rfl (by show 2 * 0 + _ ≤ _; exact Nat.le_of_eq rfl) (D d26_6) (fun _ _ => ⟨rfl, Eq21, (by decide : 0 + 0 ≤ _), (by decide : 0 + 0 ≤ _)⟩)
 dsimp only [Pt.U, Pt.locs, Pt.cells, Pt.slots] at X24 l24 y24 z24 st24 hQ24
 subst l24 y24 z24
 obtain ⟨rfl, Nq24, Eq24⟩ := hQ24
 have N25 := Fr.app Nh23 Nq24
 obtain ⟨Lh26, Xh26, Nh26⟩ := oHd 0 0 X24 N25 rfl rfl
 refine ownBy st24 ?_
 clear st24
 show ownG p.tables e below _ (T24.setTop (fr_ucb m m1 ta 9  []))
 refine ownRet Xh26 Bd.notSynchronized (v := none) (fun _ => rfl) ?_ (oLe rfl) (oLe rfl) (fun fs hr => Xh26.returnOut hx Bd.returns (D d26_9) hr)
 show (Q_ucb Z ta kb z vs m1 G3 h0 n0) (none) T24.heap _
 rw [Eq24]
 exact ⟨rfl, Nh26, rfl⟩
abbrev fr_xl (m : MethodId) (ta : Addr) (m1 : Int32) (pc : Nat)  (st : List Value) : JFrame := mkF m pc #[vR ta, vI 42, vI 0, vI m1] st
def Q_xl (Z : State) (ta : Addr) (kb : ClassId) (m1 : Int32) (vs : List Value) (M : Prop) (h0 : Heap) (n0 : Nat) (v : Option Value) (h : Heap) (L : List Loc) : Prop := QX M h0 n0 v h L
theorem ef_xl (m : MethodId) (x0 : Addr) (x1 : Int32) (x2 : Int32) (x3 : Int32)  : entryFrame m #[(.ref x0), (.int x1), (.int x2), (.int x3)] 4 = mkF m 0 #[vR x0, vI x1, vI x2, vI x3] [] := by first | (simp [entryFrame, mkF, argsToLocals, Value.category]; done) | rfl
set_option maxRecDepth 65536 in
set_option maxHeartbeats 40000000 in
theorem c_xl (l : Launch) (Z : State) (a0 : Array Value) (hw : ∀ d ∈ tables_1, d.before a0 Z = true) (ws : List Jvm.Cond) (ta : Addr) (kb : ClassId) (m1 : Int32) (vs : List Value) (M : Prop) (h0 : Heap) (n0 : Nat) (Z0 : n0 ≤ h0.size) (Ks : Arv Z h0 ta kb .byte m1 vs (iV 0)) (hpos : (0 : Int32) < m1) (HX : ∀ (H : Heap) (n1 : Nat), n1 ≤ H.size → Arv Z H ta kb .byte m1 vs (iV 0) → MetFree l yM20 (head1 (Jvm.Cond.code yM20 jdk_43_method_23_code 6 (some .int) :: []) ({ frames := 0, cells := 0, slots := 0, locals := 0 } : Room)) (fun a U => a = #[(.ref ta), (iV 42), (iV 0), (.int m1)] ∧ Z.Warmed39 U.vm ∧ U.heap = H) (fun _ _ _ _ _ => True) (fun _ U o U' => ∃ v L, o = .returned v ∧ (QX M H n1) v U'.heap L ∧ FrameEnd U o U' L ({ frames := 0, cells := 0, slots := 0, locals := 0 } : Room).cells ({ frames := 0, cells := 0, slots := 0, locals := 0 } : Room).slots)) :
  MetFree l yM22 (head1 (Jvm.Cond.code yM22 jdk_43_method_22_code 4 (some .int) :: ws) ({ frames := 1, cells := 0, slots := 0, locals := 17 } : Room)) (fun a U => a = #[(.ref ta), (iV 42), (iV 0), (.int m1)] ∧ Z.Warmed39 U.vm ∧ U.heap = h0) (fun _ _ _ _ _ => True) (fun _ U o U' => ∃ v L, o = .returned v ∧ (Q_xl Z ta kb m1 vs M h0 n0) v U'.heap L ∧ FrameEnd U o U' L ({ frames := 1, cells := 0, slots := 0, locals := 17 } : Room).cells ({ frames := 1, cells := 0, slots := 0, locals := 17 } : Room).slots) := by
 refine MetFree.of_bodySF (plainFor_of_name pn_11) hisR ?_
 intro p e s m args below meth c s₁ Bd hml0 hP hK
 obtain ⟨rfl, hZ, hHp⟩ := hP
 have hx := Bd.exec
 have D := fun {pc : Nat} {r} (h : decode _ pc = r) => hb Bd.bytes h
 have hml : c.maxLocals = 4 := hml0
 have hown : s.vm.findClass "java/lang/StringLatin1" = some m.cls := findClass_of_methodNamed Bd.named
 have hnm := (name_of_methodNamed Bd.named Bd.method).1
 have X0 : Stand p l e ({ frames := 1, cells := 0, slots := 0, locals := 17 } : Room) s m #[(.ref ta), (iV 42), (iV 0), (.int m1)] below meth c s₁ [] 0 0 := Stand.of_body Bd
 have e0 : s₁.heap = h0 := by rw [← hHp, Bd.state]; rfl
 have N0 := Fr.nil n0
 refine ownOut (P := (Q_xl Z ta kb m1 vs M h0 n0)) ?_
 refine ownBy (A := s₁.setTop (mkF m 0 #[vR ta, vI 42, vI 0, vI m1] [])) (fun t k => castTop (ef_xl m ta (42 : Int32) (0 : Int32) m1) k) ?_
 refine ownBy (A := s₁.setTop (fr_xl m ta m1 1  [(iV 42)])) (fun t kt => ?_) ?_
 ·refine XS.iloadN X0.here hx rfl (D d11_0) rfl ?_
  exact kt
 obtain ⟨vv21, _, ⟨T21, L21, k21, n21⟩, -, X21, ⟨Lc21, hQ21, l21, y21, z21⟩, st21⟩ := Jvm.LawKit.callS X0 hx (y := yM12) hown (mvT hZ (Wd62 hw)) (mvT hZ (Wd63 hw)) (mvT hZ (Wd60 hw)) (mvT hZ (Wd64 hw)) (by decide) (backOf (W := 0) (c_can l Z a0 hw []  h0 n0 Z0 ) hZ (Wd64 hw) (Wd60 hw) (by decide) (by decide)) (g := (fr_xl m ta m1 1  [(iV 42)])) rfl (by rw [hml]; rfl) (argsL := [(iV 42)]) (rest := []) (lenOf pd_17 rfl) rfl (by show 2 * 0 + _ ≤ _; exact Nat.le_of_eq rfl) (D d11_1) (fun _ _ => ⟨rfl, e0, (by decide : 0 + 0 ≤ _), (by decide : 0 + 0 ≤ _)⟩)
 dsimp only [Pt.U, Pt.locs, Pt.cells, Pt.slots] at X21 l21 y21 z21 st21 hQ21
 subst l21 y21 z21
 obtain ⟨rfl, Nq21, Eq21⟩ := hQ21
 have N22 := Fr.app N0 Nq21
 obtain ⟨Lh23, Xh23, Nh23⟩ := oHd 0 0 X21 N22 rfl rfl
 refine ownBy st21 ?_
 clear st21
 show ownG p.tables e below _ (T21.setTop (fr_xl m ta m1 4  [(iV 1)]))
 refine ownBy (A := T21.setTop (fr_xl m ta m1 11  [(iV 0), (iV 0)])) (fun t kt => ?_) ?_
 ·refine XS.ifYes Xh23.here hx rfl (pc0 := 4) (pc' := 9) rfl (D d11_4) rfl ((if0 _ _).trans (feq ((by decide) : ¬ ((1 : Int32) = (0 : Int32)))).2) (by decide) (by decide) ?_
  refine XS.iloadN Xh23.here hx rfl (D d11_9) rfl ?_
  refine XS.iconst Xh23.here hx rfl (D d11_10) ?_
  exact kt
 obtain ⟨vv24, _, ⟨T24, L24, k24, n24⟩, -, X24, ⟨Lc24, hQ24, l24, y24, z24⟩, st24⟩ := Jvm.LawKit.callS Xh23 hx (y := yM13) hown (mvT hZ (Wd65 hw)) (mvT hZ (Wd66 hw)) (mvT hZ (Wd67 hw)) (mvT hZ (Wd68 hw)) (by decide) (backOf (W := 0) (c_mmax l Z a0 hw []  h0 n0 Z0 ) hZ (Wd68 hw) (Wd67 hw) (by decide) (by decide)) (g := (fr_xl m ta m1 11  [(iV 0), (iV 0)])) rfl (by rw [hml]; rfl) (argsL := [(iV 0), (iV 0)]) (rest := []) (lenOf pd_18 rfl) rfl (by show 2 * 0 + _ ≤ _; exact Nat.le_of_eq rfl) (D d11_11) (fun _ _ => ⟨rfl, Eq21, (by decide : 0 + 0 ≤ _), (by decide : 0 + 0 ≤ _)⟩)
 dsimp only [Pt.U, Pt.locs, Pt.cells, Pt.slots] at X24 l24 y24 z24 st24 hQ24
 subst l24 y24 z24
 obtain ⟨rfl, Nq24, Eq24⟩ := hQ24
 have N25 := Fr.app Nh23 Nq24
 obtain ⟨Lh26, Xh26, Nh26⟩ := oHd 0 0 X24 N25 rfl rfl
 refine ownBy st24 ?_
 clear st24
 show ownG p.tables e below _ (T24.setTop (fr_xl m ta m1 14  [(iV 0)]))
 refine ownBy (A := T24.setTop (fr_xl m ta m1 17  [(.ref ta), (.int m1)])) (fun t kt => ?_) ?_
 ·refine XS.istoreN Xh26.here hx rfl (D d11_14) rfl (l' := #[vR ta, vI 42, vI 0, vI m1]) rfl ?_
  refine XS.iloadN Xh26.here hx rfl (D d11_15) rfl ?_
  refine XS.aloadN Xh26.here hx rfl (D d11_16) rfl rfl ?_
  exact kt
 obtain ⟨cl27, Ar27, -, S27, N27, -, -⟩ := id Ks
 have st27 := Xh26.arraylength hx (by rw [Eq24]; exact Ar27.1) (State.isArrayOf_alike hZ.alike Ar27.2.1) (g := (fr_xl m ta m1 17  [(.ref ta), (.int m1)])) rfl rfl (D d11_17)
 rw [len_of S27 N27] at st27
 refine ownBy st27 ?_
 show ownG p.tables e below _ (T24.setTop (fr_xl m ta m1 18  [(.int m1), (.int m1)]))
 obtain ⟨vv28, _, ⟨T28, L28, k28, n28⟩, -, X28, ⟨Lc28, hQ28, l28, y28, z28⟩, st28⟩ := Jvm.LawKit.callS Xh26 hx (y := yM14) hown (mvT hZ (Wd69 hw)) (mvT hZ (Wd70 hw)) (mvT hZ (Wd67 hw)) (mvT hZ (Wd71 hw)) (by decide) (backOf (W := 0) (c_mmin l Z a0 hw [] m1 m1 h0 n0 Z0 (own_irr _)) hZ (Wd71 hw) (Wd67 hw) (by decide) (by decide)) (g := (fr_xl m ta m1 18  [(.int m1), (.int m1)])) rfl (by rw [hml]; rfl) (argsL := [(.int m1), (.int m1)]) (rest := []) (lenOf pd_18 rfl) rfl (by show 2 * 0 + _ ≤ _; exact Nat.le_of_eq rfl) (D d11_18) (fun _ _ => ⟨rfl, Eq24, (by decide : 0 + 0 ≤ _), (by decide : 0 + 0 ≤ _)⟩)
 dsimp only [Pt.U, Pt.locs, Pt.cells, Pt.slots] at X28 l28 y28 z28 st28 hQ28
 subst l28 y28 z28
 obtain ⟨rfl, Nq28, Eq28⟩ := hQ28
 have N29 := Fr.app Nh26 Nq28
 obtain ⟨Lh30, Xh30, Nh30⟩ := oHd 0 0 X28 N29 rfl rfl
 refine ownBy st28 ?_
 clear st28
 show ownG p.tables e below _ (T28.setTop (fr_xl m ta m1 21  [(.int m1)]))
 refine ownBy (A := T28.setTop (fr_xl m ta m1 33  [(.int m1), (iV 0), (iV 42), (.ref ta)])) (fun t kt => ?_) ?_
 ·refine XS.istoreN Xh30.here hx rfl (D d11_21) rfl (l' := #[vR ta, vI 42, vI 0, vI m1]) rfl ?_
  refine XS.iloadN Xh30.here hx rfl (D d11_22) rfl ?_
  refine XS.iloadN Xh30.here hx rfl (D d11_23) rfl ?_
  refine XS.icmpYes Xh30.here hx rfl (pc0 := 24) (pc' := 29) rfl (D d11_24) rfl (tlt hpos).1 (by decide) (by decide) ?_
  show Steps p.tables e below (T28.setTop (fr_xl m ta m1 29  [])) t
  refine XS.aloadN Xh30.here hx rfl (D d11_29) rfl rfl ?_
  refine XS.iloadN Xh30.here hx rfl (D d11_30) rfl ?_
  refine XS.iloadN Xh30.here hx rfl (D d11_31) rfl ?_
  refine XS.iloadN Xh30.here hx rfl (D d11_32) rfl ?_
  exact kt
 obtain ⟨vv31, _, ⟨T31, L31, k31, n31⟩, -, X31, ⟨Lc31, hQ31, l31, y31, z31⟩, st31⟩ := Jvm.LawKit.callS Xh30 hx (y := yM20) hown (mvT hZ (Wd82 hw)) (mvT hZ (Wd83 hw)) (mvT hZ (Wd60 hw)) (mvT hZ (Wd84 hw)) (by decide) (backOf (W := 0) (HX h0 n0 Z0 Ks) hZ (Wd84 hw) (Wd60 hw) (by decide) (by decide)) (g := (fr_xl m ta m1 33  [(.int m1), (iV 0), (iV 42), (.ref ta)])) rfl (by rw [hml]; rfl) (argsL := [(.ref ta), (iV 42), (iV 0), (.int m1)]) (rest := []) (lenOf pd_19 rfl) rfl (by show 2 * 0 + _ ≤ _; exact Nat.le_of_eq rfl) (D d11_33) (fun _ _ => ⟨rfl, Eq28, (by decide : 0 + 0 ≤ _), (by decide : 0 + 0 ≤ _)⟩)
 dsimp only [Pt.U, Pt.locs, Pt.cells, Pt.slots] at X31 l31 y31 z31 st31 hQ31
 subst l31 y31 z31
 obtain ⟨r31, rfl, Nq31, Eq31, hB31⟩ := hQ31
 have N32 := Fr.app Nh30 Nq31
 obtain ⟨Lh33, Xh33, Nh33⟩ := oHd 0 0 X31 N32 rfl rfl
 refine ownBy st31 ?_
 clear st31
 show ownG p.tables e below _ (T31.setTop (fr_xl m ta m1 36  [(.int r31)]))
 refine ownRet Xh33 Bd.notSynchronized (v := some (.int r31)) (fun h => by rw [Bd.returns] at h; cases h) ?_ (oLe rfl) (oLe rfl) (fun fs hr => retI Xh33 hx Bd.returns (D d11_36) hr)
 show (Q_xl Z ta kb m1 vs M h0 n0) (some (.int r31)) T31.heap _
 rw [Eq31]
 exact ⟨_, rfl, Nh33, rfl, hB31⟩
abbrev fr_xl0 (m : MethodId) (ta : Addr) (pc : Nat)  (st : List Value) : JFrame := mkF m pc #[vR ta, vI 42, vI 0, vI 0] st
def Q_xl0 (Z : State) (ta : Addr) (kb : ClassId) (vs : List Value) (h0 : Heap) (n0 : Nat) (v : Option Value) (h : Heap) (L : List Loc) : Prop := QX False h0 n0 v h L
theorem ef_xl0 (m : MethodId) (x0 : Addr) (x1 : Int32) (x2 : Int32) (x3 : Int32)  : entryFrame m #[(.ref x0), (.int x1), (.int x2), (.int x3)] 4 = mkF m 0 #[vR x0, vI x1, vI x2, vI x3] [] := by first | (simp [entryFrame, mkF, argsToLocals, Value.category]; done) | rfl
set_option maxRecDepth 65536 in
set_option maxHeartbeats 40000000 in
theorem c_xl0 (l : Launch) (Z : State) (a0 : Array Value) (hw : ∀ d ∈ tables_1, d.before a0 Z = true) (ws : List Jvm.Cond) (ta : Addr) (kb : ClassId) (vs : List Value) (h0 : Heap) (n0 : Nat) (Z0 : n0 ≤ h0.size) (Ks : Arv Z h0 ta kb .byte (0 : Int32) vs (iV 0)) :
  MetFree l yM22 (head1 (Jvm.Cond.code yM22 jdk_43_method_22_code 4 (some .int) :: ws) ({ frames := 1, cells := 0, slots := 0, locals := 17 } : Room)) (fun a U => a = #[(.ref ta), (iV 42), (iV 0), (iV 0)] ∧ Z.Warmed39 U.vm ∧ U.heap = h0) (fun _ _ _ _ _ => True) (fun _ U o U' => ∃ v L, o = .returned v ∧ (Q_xl0 Z ta kb vs h0 n0) v U'.heap L ∧ FrameEnd U o U' L ({ frames := 1, cells := 0, slots := 0, locals := 17 } : Room).cells ({ frames := 1, cells := 0, slots := 0, locals := 17 } : Room).slots) := by
 refine MetFree.of_bodySF (plainFor_of_name pn_11) hisR ?_
 intro p e s m args below meth c s₁ Bd hml0 hP hK
 obtain ⟨rfl, hZ, hHp⟩ := hP
 have hx := Bd.exec
 have D := fun {pc : Nat} {r} (h : decode _ pc = r) => hb Bd.bytes h
 have hml : c.maxLocals = 4 := hml0
 have hown : s.vm.findClass "java/lang/StringLatin1" = some m.cls := findClass_of_methodNamed Bd.named
 have hnm := (name_of_methodNamed Bd.named Bd.method).1
 have X0 : Stand p l e ({ frames := 1, cells := 0, slots := 0, locals := 17 } : Room) s m #[(.ref ta), (iV 42), (iV 0), (iV 0)] below meth c s₁ [] 0 0 := Stand.of_body Bd
 have e0 : s₁.heap = h0 := by rw [← hHp, Bd.state]; rfl
 have N0 := Fr.nil n0
 refine ownOut (P := (Q_xl0 Z ta kb vs h0 n0)) ?_
 refine ownBy (A := s₁.setTop (mkF m 0 #[vR ta, vI 42, vI 0, vI 0] [])) (fun t k => castTop (ef_xl0 m ta (42 : Int32) (0 : Int32) (0 : Int32)) k) ?_
 refine ownBy (A := s₁.setTop (fr_xl0 m ta 1  [(iV 42)])) (fun t kt => ?_) ?_
 ·refine XS.iloadN X0.here hx rfl (D d11_0) rfl ?_
  exact kt
 obtain ⟨vv21, _, ⟨T21, L21, k21, n21⟩, -, X21, ⟨Lc21, hQ21, l21, y21, z21⟩, st21⟩ := Jvm.LawKit.callS X0 hx (y := yM12) hown (mvT hZ (Wd62 hw)) (mvT hZ (Wd63 hw)) (mvT hZ (Wd60 hw)) (mvT hZ (Wd64 hw)) (by decide) (backOf (W := 0) (c_can l Z a0 hw []  h0 n0 Z0 ) hZ (Wd64 hw) (Wd60 hw) (by decide) (by decide)) (g := (fr_xl0 m ta 1  [(iV 42)])) rfl (by rw [hml]; rfl) (argsL := [(iV 42)]) (rest := []) (lenOf pd_17 rfl) rfl (by show 2 * 0 + _ ≤ _; exact Nat.le_of_eq rfl) (D d11_1) (fun _ _ => ⟨rfl, e0, (by decide : 0 + 0 ≤ _), (by decide : 0 + 0 ≤ _)⟩)
 dsimp only [Pt.U, Pt.locs, Pt.cells, Pt.slots] at X21 l21 y21 z21 st21 hQ21
 subst l21 y21 z21
 obtain ⟨rfl, Nq21, Eq21⟩ := hQ21
 have N22 := Fr.app N0 Nq21
 obtain ⟨Lh23, Xh23, Nh23⟩ := oHd 0 0 X21 N22 rfl rfl
 refine ownBy st21 ?_
 clear st21
 show ownG p.tables e below _ (T21.setTop (fr_xl0 m ta 4  [(iV 1)]))
 refine ownBy (A := T21.setTop (fr_xl0 m ta 11  [(iV 0), (iV 0)])) (fun t kt => ?_) ?_
 ·refine XS.ifYes Xh23.here hx rfl (pc0 := 4) (pc' := 9) rfl (D d11_4) rfl ((if0 _ _).trans (feq ((by decide) : ¬ ((1 : Int32) = (0 : Int32)))).2) (by decide) (by decide) ?_
  refine XS.iloadN Xh23.here hx rfl (D d11_9) rfl ?_
  refine XS.iconst Xh23.here hx rfl (D d11_10) ?_
  exact kt
 obtain ⟨vv24, _, ⟨T24, L24, k24, n24⟩, -, X24, ⟨Lc24, hQ24, l24, y24, z24⟩, st24⟩ := Jvm.LawKit.callS Xh23 hx (y := yM13) hown (mvT hZ (Wd65 hw)) (mvT hZ (Wd66 hw)) (mvT hZ (Wd67 hw)) (mvT hZ (Wd68 hw)) (by decide) (backOf (W := 0) (c_mmax l Z a0 hw []  h0 n0 Z0 ) hZ (Wd68 hw) (Wd67 hw) (by decide) (by decide)) (g := (fr_xl0 m ta 11  [(iV 0), (iV 0)])) rfl (by rw [hml]; rfl) (argsL := [(iV 0), (iV 0)]) (rest := []) (lenOf pd_18 rfl) rfl (by show 2 * 0 + _ ≤ _; exact Nat.le_of_eq rfl) (D d11_11) (fun _ _ => ⟨rfl, Eq21, (by decide : 0 + 0 ≤ _), (by decide : 0 + 0 ≤ _)⟩)
 dsimp only [Pt.U, Pt.locs, Pt.cells, Pt.slots] at X24 l24 y24 z24 st24 hQ24
 subst l24 y24 z24
 obtain ⟨rfl, Nq24, Eq24⟩ := hQ24
 have N25 := Fr.app Nh23 Nq24
 obtain ⟨Lh26, Xh26, Nh26⟩ := oHd 0 0 X24 N25 rfl rfl
 refine ownBy st24 ?_
 clear st24
 show ownG p.tables e below _ (T24.setTop (fr_xl0 m ta 14  [(iV 0)]))
 refine ownBy (A := T24.setTop (fr_xl0 m ta 17  [(.ref ta), (iV 0)])) (fun t kt => ?_) ?_
 ·refine XS.istoreN Xh26.here hx rfl (D d11_14) rfl (l' := #[vR ta, vI 42, vI 0, vI 0]) rfl ?_
  refine XS.iloadN Xh26.here hx rfl (D d11_15) rfl ?_
  refine XS.aloadN Xh26.here hx rfl (D d11_16) rfl rfl ?_
  exact kt
 obtain ⟨cl27, Ar27, -, S27, N27, -, -⟩ := id Ks
 have st27 := Xh26.arraylength hx (by rw [Eq24]; exact Ar27.1) (State.isArrayOf_alike hZ.alike Ar27.2.1) (g := (fr_xl0 m ta 17  [(.ref ta), (iV 0)])) rfl rfl (D d11_17)
 rw [len_of S27 N27] at st27
 refine ownBy st27 ?_
 show ownG p.tables e below _ (T24.setTop (fr_xl0 m ta 18  [(iV 0), (iV 0)]))
 obtain ⟨vv28, _, ⟨T28, L28, k28, n28⟩, -, X28, ⟨Lc28, hQ28, l28, y28, z28⟩, st28⟩ := Jvm.LawKit.callS Xh26 hx (y := yM14) hown (mvT hZ (Wd69 hw)) (mvT hZ (Wd70 hw)) (mvT hZ (Wd67 hw)) (mvT hZ (Wd71 hw)) (by decide) (backOf (W := 0) (c_mmin l Z a0 hw [] (0 : Int32) (0 : Int32) h0 n0 Z0 (own_irr _)) hZ (Wd71 hw) (Wd67 hw) (by decide) (by decide)) (g := (fr_xl0 m ta 18  [(iV 0), (iV 0)])) rfl (by rw [hml]; rfl) (argsL := [(iV 0), (iV 0)]) (rest := []) (lenOf pd_18 rfl) rfl (by show 2 * 0 + _ ≤ _; exact Nat.le_of_eq rfl) (D d11_18) (fun _ _ => ⟨rfl, Eq24, (by decide : 0 + 0 ≤ _), (by decide : 0 + 0 ≤ _)⟩)
 dsimp only [Pt.U, Pt.locs, Pt.cells, Pt.slots] at X28 l28 y28 z28 st28 hQ28
 subst l28 y28 z28
 obtain ⟨rfl, Nq28, Eq28⟩ := hQ28
 have N29 := Fr.app Nh26 Nq28
 obtain ⟨Lh30, Xh30, Nh30⟩ := oHd 0 0 X28 N29 rfl rfl
 refine ownBy st28 ?_
 clear st28
 show ownG p.tables e below _ (T28.setTop (fr_xl0 m ta 21  [(iV 0)]))
 refine ownBy (A := T28.setTop (fr_xl0 m ta 28  [(.int (-1 : Int32))])) (fun t kt => ?_) ?_
 ·refine XS.istoreN Xh30.here hx rfl (D d11_21) rfl (l' := #[vR ta, vI 42, vI 0, vI 0]) rfl ?_
  refine XS.iloadN Xh30.here hx rfl (D d11_22) rfl ?_
  refine XS.iloadN Xh30.here hx rfl (D d11_23) rfl ?_
  refine XS.icmpNo Xh30.here hx rfl (D d11_24) rfl (flt ((by decide) : ¬ ((0 : Int32) < (0 : Int32)))).1 ?_
  show Steps p.tables e below (T28.setTop (fr_xl0 m ta 27  [])) t
  refine XS.iconst Xh30.here hx rfl (D d11_27) ?_
  exact kt
 refine ownRet Xh30 Bd.notSynchronized (v := some (.int (-1 : Int32))) (fun h => by rw [Bd.returns] at h; cases h) ?_ (oLe rfl) (oLe rfl) (fun fs hr => retI Xh30 hx Bd.returns (D d11_28) hr)
 show (Q_xl0 Z ta kb vs h0 n0) (some (.int (-1 : Int32))) T28.heap _
 rw [Eq28]
 exact ⟨_, rfl, Nh30, rfl, Or.inl ⟨by decide, fun q => q⟩⟩
abbrev fr_xou (m : MethodId) (ta : Addr) (m1 : Int32) (pc : Nat)  (st : List Value) : JFrame := mkF m pc #[vR ta, vI 42, vI 0, vI m1] st
def Q_xou (Z : State) (ta : Addr) (kb : ClassId) (z : Int32) (m1 : Int32) (vs : List Value) (M : Prop) (G3 : Value) (h0 : Heap) (n0 : Nat) (v : Option Value) (h : Heap) (L : List Loc) : Prop := QX M h0 n0 v h L
theorem ef_xou (m : MethodId) (x0 : Addr) (x1 : Int32) (x2 : Int32) (x3 : Int32)  : entryFrame m #[(.ref x0), (.int x1), (.int x2), (.int x3)] 4 = mkF m 0 #[vR x0, vI x1, vI x2, vI x3] [] := by first | (simp [entryFrame, mkF, argsToLocals, Value.category]; done) | rfl
set_option maxRecDepth 65536 in
set_option maxHeartbeats 40000000 in
theorem c_xou (l : Launch) (Z : State) (a0 : Array Value) (hw : ∀ d ∈ tables_1, d.before a0 Z = true) (ws : List Jvm.Cond) (ta : Addr) (kb : ClassId) (z : Int32) (m1 : Int32) (vs : List Value) (M : Prop) (G3 : Value) (h0 : Heap) (n0 : Nat) (Z0 : n0 ≤ h0.size) (Ks : Arv Z h0 ta kb .byte z vs (iV 0)) (hz : (z >>> ((1 : Int32) &&& 31)) = m1) (hm : ¬ m1 < (0 : Int32)) (O4 : Sta Z Z.heap "jdk/internal/util/Preconditions" "SIOOBE_FORMATTER" "Ljava/util/function/BiFunction;" G3) (rG3 : G3.isRef = true) (HX : ∀ (H : Heap) (n1 : Nat), n1 ≤ H.size → Arv Z H ta kb .byte z vs (iV 0) → Old Z n1 H → MetFree l yM21 (head1 (Jvm.Cond.code yM21 jdk_52_method_48_code 5 (some .int) :: []) ({ frames := 1, cells := 0, slots := 0, locals := 13 } : Room)) (fun a U => a = #[(.ref ta), (iV 42), (iV 0), (.int m1)] ∧ Z.Warmed39 U.vm ∧ U.heap = H) (fun _ _ _ _ _ => True) (fun _ U o U' => ∃ v L, o = .returned v ∧ (QX M H n1) v U'.heap L ∧ FrameEnd U o U' L ({ frames := 1, cells := 0, slots := 0, locals := 13 } : Room).cells ({ frames := 1, cells := 0, slots := 0, locals := 13 } : Room).slots)) (X00 : Old Z n0 h0) :
  MetFree l yM23 (head1 (Jvm.Cond.code yM23 jdk_52_method_47_code 4 (some .int) :: ws) ({ frames := 3, cells := 0, slots := 0, locals := 43 } : Room)) (fun a U => a = #[(.ref ta), (iV 42), (iV 0), (.int m1)] ∧ Z.Warmed39 U.vm ∧ U.heap = h0) (fun _ _ _ _ _ => True) (fun _ U o U' => ∃ v L, o = .returned v ∧ (Q_xou Z ta kb z m1 vs M G3 h0 n0) v U'.heap L ∧ FrameEnd U o U' L ({ frames := 3, cells := 0, slots := 0, locals := 43 } : Room).cells ({ frames := 3, cells := 0, slots := 0, locals := 43 } : Room).slots) := by
 refine MetFree.of_bodySF (plainFor_of_name pn_3) hisR ?_
 intro p e s m args below meth c s₁ Bd hml0 hP hK
 obtain ⟨rfl, hZ, hHp⟩ := hP
 have hx := Bd.exec
 have D := fun {pc : Nat} {r} (h : decode _ pc = r) => hb Bd.bytes h
 have hml : c.maxLocals = 4 := hml0
 have hown : s.vm.findClass "java/lang/StringUTF16" = some m.cls := findClass_of_methodNamed Bd.named
 have hnm := (name_of_methodNamed Bd.named Bd.method).1
 have X0 : Stand p l e ({ frames := 3, cells := 0, slots := 0, locals := 43 } : Room) s m #[(.ref ta), (iV 42), (iV 0), (.int m1)] below meth c s₁ [] 0 0 := Stand.of_body Bd
 have e0 : s₁.heap = h0 := by rw [← hHp, Bd.state]; rfl
 have N0 := Fr.nil n0
 refine ownOut (P := (Q_xou Z ta kb z m1 vs M G3 h0 n0)) ?_
 refine ownBy (A := s₁.setTop (mkF m 0 #[vR ta, vI 42, vI 0, vI m1] [])) (fun t k => castTop (ef_xou m ta (42 : Int32) (0 : Int32) m1) k) ?_
 refine ownBy (A := s₁.setTop (fr_xou m ta m1 3  [(.ref ta), (.int m1), (iV 0)])) (fun t kt => ?_) ?_
 ·refine XS.iloadN X0.here hx rfl (D d25_0) rfl ?_
  refine XS.iloadN X0.here hx rfl (D d25_1) rfl ?_
  refine XS.aloadN X0.here hx rfl (D d25_2) rfl rfl ?_
  exact kt
 obtain ⟨vv21, _, ⟨T21, L21, k21, n21⟩, -, X21, ⟨Lc21, hQ21, l21, y21, z21⟩, st21⟩ := Jvm.LawKit.callS X0 hx (y := yM19) hown (mvT hZ (Wd113 hw)) (mvT hZ (Wd114 hw)) (mvT hZ (Wd74 hw)) (mvT hZ (Wd115 hw)) (by decide) (backOf (W := 0) (c_ucb l Z a0 hw [] ta kb z _ m1 G3 h0 n0 Z0 Ks hz O4 rG3 hm X00) hZ (Wd115 hw) (Wd74 hw) (by decide) (by decide)) (g := (fr_xou m ta m1 3  [(.ref ta), (.int m1), (iV 0)])) rfl (by rw [hml]; rfl) (argsL := [(iV 0), (.int m1), (.ref ta)]) (rest := []) (lenOf pd_20 rfl) rfl (by show 2 * 0 + _ ≤ _; exact Nat.le_of_eq rfl) (D d25_3) (fun _ _ => ⟨rfl, e0, (by decide : 0 + 0 ≤ _), (by decide : 0 + 0 ≤ _)⟩)
 dsimp only [Pt.U, Pt.locs, Pt.cells, Pt.slots] at X21 l21 y21 z21 st21 hQ21
 subst l21 y21 z21
 obtain ⟨rfl, Nq21, Eq21⟩ := hQ21
 have N22 := Fr.app N0 Nq21
 obtain ⟨Lh23, Xh23, Nh23⟩ := oHd 0 0 X21 N22 rfl rfl
 refine ownBy st21 ?_
 clear st21
 show ownG p.tables e below _ (T21.setTop (fr_xou m ta m1 6  []))
 refine ownBy (A := T21.setTop (fr_xou m ta m1 10  [(.int m1), (iV 0), (iV 42), (.ref ta)])) (fun t kt => ?_) ?_
 ·refine XS.aloadN Xh23.here hx rfl (D d25_6) rfl rfl ?_
  refine XS.iloadN Xh23.here hx rfl (D d25_7) rfl ?_
  refine XS.iloadN Xh23.here hx rfl (D d25_8) rfl ?_
  refine XS.iloadN Xh23.here hx rfl (D d25_9) rfl ?_
  exact kt
 obtain ⟨vv24, _, ⟨T24, L24, k24, n24⟩, -, X24, ⟨Lc24, hQ24, l24, y24, z24⟩, st24⟩ := Jvm.LawKit.callS Xh23 hx (y := yM21) hown (mvT hZ (Wd127 hw)) (mvT hZ (Wd128 hw)) (mvT hZ (Wd74 hw)) (mvT hZ (Wd129 hw)) (by decide) (backOf (W := 0) (HX h0 n0 Z0 Ks X00) hZ (Wd129 hw) (Wd74 hw) (by decide) (by decide)) (g := (fr_xou m ta m1 10  [(.int m1), (iV 0), (iV 42), (.ref ta)])) rfl (by rw [hml]; rfl) (argsL := [(.ref ta), (iV 42), (iV 0), (.int m1)]) (rest := []) (lenOf pd_19 rfl) rfl (by show 2 * 0 + _ ≤ _; exact Nat.le_of_eq rfl) (D d25_10) (fun _ _ => ⟨rfl, Eq21, (by decide : 0 + 0 ≤ _), (by decide : 0 + 0 ≤ _)⟩)
 dsimp only [Pt.U, Pt.locs, Pt.cells, Pt.slots] at X24 l24 y24 z24 st24 hQ24
 subst l24 y24 z24
 obtain ⟨r24, rfl, Nq24, Eq24, hB24⟩ := hQ24
 have N25 := Fr.app Nh23 Nq24
 obtain ⟨Lh26, Xh26, Nh26⟩ := oHd 0 0 X24 N25 rfl rfl
 refine ownBy st24 ?_
 clear st24
 show ownG p.tables e below _ (T24.setTop (fr_xou m ta m1 13  [(.int r24)]))
 refine ownRet Xh26 Bd.notSynchronized (v := some (.int r24)) (fun h => by rw [Bd.returns] at h; cases h) ?_ (oLe rfl) (oLe rfl) (fun fs hr => retI Xh26 hx Bd.returns (D d25_13) hr)
 show (Q_xou Z ta kb z m1 vs M G3 h0 n0) (some (.int r24)) T24.heap _
 rw [Eq24]
 exact ⟨_, rfl, Nh26, rfl, hB24⟩
abbrev fr_xu (m : MethodId) (ta : Addr) (m1 : Int32) (pc : Nat)  (st : List Value) : JFrame := mkF m pc #[vR ta, vI 42, vI 0, vI m1] st
def Q_xu (Z : State) (ta : Addr) (kb : ClassId) (z : Int32) (m1 : Int32) (vs : List Value) (M : Prop) (G3 : Value) (h0 : Heap) (n0 : Nat) (v : Option Value) (h : Heap) (L : List Loc) : Prop := QX M h0 n0 v h L
theorem ef_xu (m : MethodId) (x0 : Addr) (x1 : Int32) (x2 : Int32) (x3 : Int32)  : entryFrame m #[(.ref x0), (.int x1), (.int x2), (.int x3)] 4 = mkF m 0 #[vR x0, vI x1, vI x2, vI x3] [] := by first | (simp [entryFrame, mkF, argsToLocals, Value.category]; done) | rfl
set_option maxRecDepth 65536 in
set_option maxHeartbeats 40000000 in
theorem c_xu (l : Launch) (Z : State) (a0 : Array Value) (hw : ∀ d ∈ tables_1, d.before a0 Z = true) (ws : List Jvm.Cond) (ta : Addr) (kb : ClassId) (z : Int32) (m1 : Int32) (vs : List Value) (M : Prop) (G3 : Value) (h0 : Heap) (n0 : Nat) (Z0 : n0 ≤ h0.size) (Ks : Arv Z h0 ta kb .byte z vs (iV 0)) (hz : (z >>> ((1 : Int32) &&& 31)) = m1) (hm : ¬ m1 < (0 : Int32)) (hpos : (0 : Int32) < m1) (O4 : Sta Z Z.heap "jdk/internal/util/Preconditions" "SIOOBE_FORMATTER" "Ljava/util/function/BiFunction;" G3) (rG3 : G3.isRef = true) (HX : ∀ (H : Heap) (n1 : Nat), n1 ≤ H.size → Arv Z H ta kb .byte z vs (iV 0) → Old Z n1 H → MetFree l yM21 (head1 (Jvm.Cond.code yM21 jdk_52_method_48_code 5 (some .int) :: []) ({ frames := 1, cells := 0, slots := 0, locals := 13 } : Room)) (fun a U => a = #[(.ref ta), (iV 42), (iV 0), (.int m1)] ∧ Z.Warmed39 U.vm ∧ U.heap = H) (fun _ _ _ _ _ => True) (fun _ U o U' => ∃ v L, o = .returned v ∧ (QX M H n1) v U'.heap L ∧ FrameEnd U o U' L ({ frames := 1, cells := 0, slots := 0, locals := 13 } : Room).cells ({ frames := 1, cells := 0, slots := 0, locals := 13 } : Room).slots)) (X00 : Old Z n0 h0) :
  MetFree l yM24 (head1 (Jvm.Cond.code yM24 jdk_52_method_40_code 4 (some .int) :: ws) ({ frames := 4, cells := 0, slots := 0, locals := 58 } : Room)) (fun a U => a = #[(.ref ta), (iV 42), (iV 0), (.int m1)] ∧ Z.Warmed39 U.vm ∧ U.heap = h0) (fun _ _ _ _ _ => True) (fun _ U o U' => ∃ v L, o = .returned v ∧ (Q_xu Z ta kb z m1 vs M G3 h0 n0) v U'.heap L ∧ FrameEnd U o U' L ({ frames := 4, cells := 0, slots := 0, locals := 58 } : Room).cells ({ frames := 4, cells := 0, slots := 0, locals := 58 } : Room).slots) := by
 refine MetFree.of_bodySF (plainFor_of_name pn_3) hisR ?_
 intro p e s m args below meth c s₁ Bd hml0 hP hK
 obtain ⟨rfl, hZ, hHp⟩ := hP
 have hx := Bd.exec
 have D := fun {pc : Nat} {r} (h : decode _ pc = r) => hb Bd.bytes h
 have hml : c.maxLocals = 4 := hml0
 have hown : s.vm.findClass "java/lang/StringUTF16" = some m.cls := findClass_of_methodNamed Bd.named
 have hnm := (name_of_methodNamed Bd.named Bd.method).1
 have X0 : Stand p l e ({ frames := 4, cells := 0, slots := 0, locals := 58 } : Room) s m #[(.ref ta), (iV 42), (iV 0), (.int m1)] below meth c s₁ [] 0 0 := Stand.of_body Bd
 have e0 : s₁.heap = h0 := by rw [← hHp, Bd.state]; rfl
 have N0 := Fr.nil n0
 refine ownOut (P := (Q_xu Z ta kb z m1 vs M G3 h0 n0)) ?_
 refine ownBy (A := s₁.setTop (mkF m 0 #[vR ta, vI 42, vI 0, vI m1] [])) (fun t k => castTop (ef_xu m ta (42 : Int32) (0 : Int32) m1) k) ?_
 refine ownBy (A := s₁.setTop (fr_xu m ta m1 2  [(iV 0), (iV 0)])) (fun t kt => ?_) ?_
 ·refine XS.iloadN X0.here hx rfl (D d24_0) rfl ?_
  refine XS.iconst X0.here hx rfl (D d24_1) ?_
  exact kt
 obtain ⟨vv21, _, ⟨T21, L21, k21, n21⟩, -, X21, ⟨Lc21, hQ21, l21, y21, z21⟩, st21⟩ := Jvm.LawKit.callS X0 hx (y := yM13) hown (mvT hZ (Wd107 hw)) (mvT hZ (Wd66 hw)) (mvT hZ (Wd67 hw)) (mvT hZ (Wd68 hw)) (by decide) (backOf (W := 0) (c_mmax l Z a0 hw []  h0 n0 Z0 ) hZ (Wd68 hw) (Wd67 hw) (by decide) (by decide)) (g := (fr_xu m ta m1 2  [(iV 0), (iV 0)])) rfl (by rw [hml]; rfl) (argsL := [(iV 0), (iV 0)]) (rest := []) (lenOf pd_18 rfl) rfl (by show 2 * 0 + _ ≤ _; exact Nat.le_of_eq rfl) (D d24_2) (fun _ _ => ⟨rfl, e0, (by decide : 0 + 0 ≤ _), (by decide : 0 + 0 ≤ _)⟩)
 dsimp only [Pt.U, Pt.locs, Pt.cells, Pt.slots] at X21 l21 y21 z21 st21 hQ21
 subst l21 y21 z21
 obtain ⟨rfl, Nq21, Eq21⟩ := hQ21
 have N22 := Fr.app N0 Nq21
 obtain ⟨Lh23, Xh23, Nh23⟩ := oHd 0 0 X21 N22 rfl rfl
 refine ownBy st21 ?_
 clear st21
 show ownG p.tables e below _ (T21.setTop (fr_xu m ta m1 5  [(iV 0)]))
 refine ownBy (A := T21.setTop (fr_xu m ta m1 8  [(.ref ta), (.int m1)])) (fun t kt => ?_) ?_
 ·refine XS.istoreN Xh23.here hx rfl (D d24_5) rfl (l' := #[vR ta, vI 42, vI 0, vI m1]) rfl ?_
  refine XS.iloadN Xh23.here hx rfl (D d24_6) rfl ?_
  refine XS.aloadN Xh23.here hx rfl (D d24_7) rfl rfl ?_
  exact kt
 obtain ⟨cl24, Ar24, -, S24, N24, -, -⟩ := id Ks
 have st24 := Xh23.arraylength hx (by rw [Eq21]; exact Ar24.1) (State.isArrayOf_alike hZ.alike Ar24.2.1) (g := (fr_xu m ta m1 8  [(.ref ta), (.int m1)])) rfl rfl (D d24_8)
 rw [len_of S24 N24] at st24
 refine ownBy st24 ?_
 show ownG p.tables e below _ (T21.setTop (fr_xu m ta m1 9  [(.int z), (.int m1)]))
 refine ownBy (A := T21.setTop (fr_xu m ta m1 11  [(.int (z >>> ((1 : Int32) &&& 31))), (.int m1)])) (fun t kt => ?_) ?_
 ·refine XS.iconst Xh23.here hx rfl (D d24_9) ?_
  refine XS.ishr Xh23.here hx rfl (D d24_10) rfl ?_
  exact kt
 obtain ⟨vv25, _, ⟨T25, L25, k25, n25⟩, -, X25, ⟨Lc25, hQ25, l25, y25, z25⟩, st25⟩ := Jvm.LawKit.callS Xh23 hx (y := yM14) hown (mvT hZ (Wd108 hw)) (mvT hZ (Wd70 hw)) (mvT hZ (Wd67 hw)) (mvT hZ (Wd71 hw)) (by decide) (backOf (W := 0) (c_mmin l Z a0 hw [] m1 (z >>> ((1 : Int32) &&& 31)) h0 n0 Z0 (by rw [hz]; exact own_irr _)) hZ (Wd71 hw) (Wd67 hw) (by decide) (by decide)) (g := (fr_xu m ta m1 11  [(.int (z >>> ((1 : Int32) &&& 31))), (.int m1)])) rfl (by rw [hml]; rfl) (argsL := [(.int m1), (.int (z >>> ((1 : Int32) &&& 31)))]) (rest := []) (lenOf pd_18 rfl) rfl (by show 2 * 0 + _ ≤ _; exact Nat.le_of_eq rfl) (D d24_11) (fun _ _ => ⟨rfl, Eq21, (by decide : 0 + 0 ≤ _), (by decide : 0 + 0 ≤ _)⟩)
 dsimp only [Pt.U, Pt.locs, Pt.cells, Pt.slots] at X25 l25 y25 z25 st25 hQ25
 subst l25 y25 z25
 obtain ⟨rfl, Nq25, Eq25⟩ := hQ25
 have N26 := Fr.app Nh23 Nq25
 obtain ⟨Lh27, Xh27, Nh27⟩ := oHd 0 0 X25 N26 rfl rfl
 refine ownBy st25 ?_
 clear st25
 show ownG p.tables e below _ (T25.setTop (fr_xu m ta m1 14  [(.int m1)]))
 refine ownBy (A := T25.setTop (fr_xu m ta m1 23  [(iV 42)])) (fun t kt => ?_) ?_
 ·refine XS.istoreN Xh27.here hx rfl (D d24_14) rfl (l' := #[vR ta, vI 42, vI 0, vI m1]) rfl ?_
  refine XS.iloadN Xh27.here hx rfl (D d24_15) rfl ?_
  refine XS.iloadN Xh27.here hx rfl (D d24_16) rfl ?_
  refine XS.icmpYes Xh27.here hx rfl (pc0 := 17) (pc' := 22) rfl (D d24_17) rfl (tlt hpos).1 (by decide) (by decide) ?_
  show Steps p.tables e below (T25.setTop (fr_xu m ta m1 22  [])) t
  refine XS.iloadN Xh27.here hx rfl (D d24_22) rfl ?_
  exact kt
 refine ownBy (Xh27.ldcInt hx hown (mvT hZ (Wd109 hw)) (g := (fr_xu m ta m1 23  [(iV 42)])) rfl (D d24_23)) ?_
 show ownG p.tables e below _ (T25.setTop (fr_xu m ta m1 25  [(iV 65536), (iV 42)]))
 refine ownBy (A := T25.setTop (fr_xu m ta m1 32  [(.int m1), (iV 0), (iV 42), (.ref ta)])) (fun t kt => ?_) ?_
 ·refine XS.icmpNo Xh27.here hx rfl (D d24_25) rfl (tlt ((by decide) : (42 : Int32) < (65536 : Int32))).2.1 ?_
  refine XS.aloadN Xh27.here hx rfl (D d24_28) rfl rfl ?_
  refine XS.iloadN Xh27.here hx rfl (D d24_29) rfl ?_
  refine XS.iloadN Xh27.here hx rfl (D d24_30) rfl ?_
  show Steps p.tables e below (T25.setTop (fr_xu m ta m1 31  [(iV 0), (iV 42), (.ref ta)])) t
  refine XS.iloadN Xh27.here hx rfl (D d24_31) rfl ?_
  exact kt
 obtain ⟨vv29, _, ⟨T29, L29, k29, n29⟩, -, X29, ⟨Lc29, hQ29, l29, y29, z29⟩, st29⟩ := Jvm.LawKit.callS Xh27 hx (y := yM23) hown (mvT hZ (Wd110 hw)) (mvT hZ (Wd111 hw)) (mvT hZ (Wd74 hw)) (mvT hZ (Wd112 hw)) (by decide) (backOf (W := 0) (c_xou l Z a0 hw [] ta kb z m1 vs M G3 h0 n0 Z0 Ks hz hm O4 rG3 HX X00) hZ (Wd112 hw) (Wd74 hw) (by decide) (by decide)) (g := (fr_xu m ta m1 32  [(.int m1), (iV 0), (iV 42), (.ref ta)])) rfl (by rw [hml]; rfl) (argsL := [(.ref ta), (iV 42), (iV 0), (.int m1)]) (rest := []) (lenOf pd_19 rfl) rfl (by show 2 * 0 + _ ≤ _; exact Nat.le_of_eq rfl) (D d24_32) (fun _ _ => ⟨rfl, Eq25, (by decide : 0 + 0 ≤ _), (by decide : 0 + 0 ≤ _)⟩)
 dsimp only [Pt.U, Pt.locs, Pt.cells, Pt.slots] at X29 l29 y29 z29 st29 hQ29
 subst l29 y29 z29
 obtain ⟨r29, rfl, Nq29, Eq29, hB29⟩ := hQ29
 have N30 := Fr.app Nh27 Nq29
 obtain ⟨Lh31, Xh31, Nh31⟩ := oHd 0 0 X29 N30 rfl rfl
 refine ownBy st29 ?_
 clear st29
 show ownG p.tables e below _ (T29.setTop (fr_xu m ta m1 35  [(.int r29)]))
 refine ownRet Xh31 Bd.notSynchronized (v := some (.int r29)) (fun h => by rw [Bd.returns] at h; cases h) ?_ (oLe rfl) (oLe rfl) (fun fs hr => retI Xh31 hx Bd.returns (D d24_35) hr)
 show (Q_xu Z ta kb z m1 vs M G3 h0 n0) (some (.int r29)) T29.heap _
 rw [Eq29]
 exact ⟨_, rfl, Nh31, rfl, hB29⟩
abbrev fr_xbl (m : MethodId) (x : Addr) (pc : Nat)  (st : List Value) : JFrame := mkF m pc #[vR x, vI 42, vI 0] st
def Q_xbl (Z : State) (x : Addr) (ta : Addr) (kb : ClassId) (m1 : Int32) (vs : List Value) (M : Prop) (G1 : Int32) (h0 : Heap) (n0 : Nat) (v : Option Value) (h : Heap) (L : List Loc) : Prop := QX M h0 n0 v h L
theorem ef_xbl (m : MethodId) (x0 : Addr) (x1 : Int32) (x2 : Int32)  : entryFrame m #[(.ref x0), (.int x1), (.int x2)] 3 = mkF m 0 #[vR x0, vI x1, vI x2] [] := by first | (simp [entryFrame, mkF, argsToLocals, Value.category]; done) | rfl
set_option maxRecDepth 65536 in
set_option maxHeartbeats 40000000 in
theorem c_xbl (l : Launch) (Z : State) (a0 : Array Value) (hw : ∀ d ∈ tables_1, d.before a0 Z = true) (ws : List Jvm.Cond) (x : Addr) (ta : Addr) (kb : ClassId) (m1 : Int32) (vs : List Value) (M : Prop) (G1 : Int32) (h0 : Heap) (n0 : Nat) (Z0 : n0 ≤ h0.size) (Es : Exa Z h0 x "java/lang/String") (Vs : Fld Z h0 x "java/lang/String" "value" "[B" (.ref ta)) (Cs : Fld Z h0 x "java/lang/String" "coder" "B" (iV 0)) (Ks : Arv Z h0 ta kb .byte m1 vs (iV 0)) (hz : (m1 >>> ((0 : Int32) &&& 31)) = m1) (hpos : (0 : Int32) < m1) (HX : ∀ (H : Heap) (n1 : Nat), n1 ≤ H.size → Arv Z H ta kb .byte m1 vs (iV 0) → MetFree l yM20 (head1 (Jvm.Cond.code yM20 jdk_43_method_23_code 6 (some .int) :: []) ({ frames := 0, cells := 0, slots := 0, locals := 0 } : Room)) (fun a U => a = #[(.ref ta), (iV 42), (iV 0), (.int m1)] ∧ Z.Warmed39 U.vm ∧ U.heap = H) (fun _ _ _ _ _ => True) (fun _ U o U' => ∃ v L, o = .returned v ∧ (QX M H n1) v U'.heap L ∧ FrameEnd U o U' L ({ frames := 0, cells := 0, slots := 0, locals := 0 } : Room).cells ({ frames := 0, cells := 0, slots := 0, locals := 0 } : Room).slots)) (O2 : Sta Z Z.heap "java/lang/String" "COMPACT_STRINGS" "Z" (.int G1)) (P5 : ¬ (G1 = (0 : Int32))) (X00 : Old Z n0 h0) :
  MetFree l yM25 (head1 (Jvm.Cond.code yM25 jdk_42_method_80_code 3 (some .int) :: ws) ({ frames := 5, cells := 0, slots := 0, locals := 73 } : Room)) (fun a U => a = #[(.ref x), (iV 42), (iV 0)] ∧ Z.Warmed39 U.vm ∧ U.heap = h0) (fun _ _ _ _ _ => True) (fun _ U o U' => ∃ v L, o = .returned v ∧ (Q_xbl Z x ta kb m1 vs M G1 h0 n0) v U'.heap L ∧ FrameEnd U o U' L ({ frames := 5, cells := 0, slots := 0, locals := 73 } : Room).cells ({ frames := 5, cells := 0, slots := 0, locals := 73 } : Room).slots) := by
 refine MetFree.of_bodySF (plainFor_of_name pn_1) hisR ?_
 intro p e s m args below meth c s₁ Bd hml0 hP hK
 obtain ⟨rfl, hZ, hHp⟩ := hP
 have hx := Bd.exec
 have D := fun {pc : Nat} {r} (h : decode _ pc = r) => hb Bd.bytes h
 have hml : c.maxLocals = 3 := hml0
 have hown : s.vm.findClass "java/lang/String" = some m.cls := findClass_of_methodNamed Bd.named
 have hnm := (name_of_methodNamed Bd.named Bd.method).1
 have X0 : Stand p l e ({ frames := 5, cells := 0, slots := 0, locals := 73 } : Room) s m #[(.ref x), (iV 42), (iV 0)] below meth c s₁ [] 0 0 := Stand.of_body Bd
 have e0 : s₁.heap = h0 := by rw [← hHp, Bd.state]; rfl
 have N0 := Fr.nil n0
 refine ownOut (P := (Q_xbl Z x ta kb m1 vs M G1 h0 n0)) ?_
 refine ownBy (A := s₁.setTop (mkF m 0 #[vR x, vI 42, vI 0] [])) (fun t k => castTop (ef_xbl m x (42 : Int32) (0 : Int32)) k) ?_
 refine ownBy (A := s₁.setTop (fr_xbl m x 1  [(.ref x)])) (fun t kt => ?_) ?_
 ·refine XS.aloadN X0.here hx rfl (D d7_0) rfl rfl ?_
  exact kt
 obtain ⟨cq21, kq21, q21a, q21b, q21c⟩ := isOf hZ e0 Es
 obtain ⟨vv21, _, ⟨T21, L21, k21, n21⟩, -, X21, ⟨Lc21, hQ21, l21, y21, z21⟩, st21⟩ := X0.virtualBack hx (y := yM11) (z := yM11) hown (mvT hZ (Wd42 hw)) (mvT hZ (Wd43 hw)) (notFace_of_selects (args := #[]) (mvT hZ (Wd45 hw))) (mvT hZ (Wd45 hw)) (mvT hZ (Wd44 hw)) (by decide) (backOf (W := 0) (c_isl0 l Z a0 hw [] x G1 h0 n0 Z0 Es Cs O2 P5 X00) hZ (Wd46 hw) (Wd9 hw) (by decide) (by decide)) q21a q21c (g := (fr_xbl m x 1  [(.ref x)])) rfl (by rw [hml]; rfl) (Steps.refl _) (argsL := []) (rest := []) (lenOf pd_21 rfl) rfl (by show 2 * 0 + _ ≤ _; exact Nat.le_of_eq rfl) (D d7_1) (fun _ _ => ⟨rfl, e0, (by decide : 0 + 0 ≤ _), (by decide : 0 + 0 ≤ _)⟩)
 dsimp only [Pt.U, Pt.locs, Pt.cells, Pt.slots] at X21 l21 y21 z21 st21 hQ21
 subst l21 y21 z21
 obtain ⟨rfl, Nq21, Eq21⟩ := hQ21
 have N22 := Fr.app N0 Nq21
 obtain ⟨Lh23, Xh23, Nh23⟩ := oHd 0 0 X21 N22 rfl rfl
 refine ownSt st21 ?_
 clear st21
 show ownG p.tables e below _ (T21.setTop (fr_xbl m x 4  [(iV 1)]))
 refine ownBy (A := T21.setTop (fr_xbl m x 8  [(.ref x)])) (fun t kt => ?_) ?_
 ·refine XS.ifNo Xh23.here hx rfl (D d7_4) rfl ((if0 _ _).trans (feq ((by decide) : ¬ ((1 : Int32) = (0 : Int32)))).1) ?_
  refine XS.aloadN Xh23.here hx rfl (D d7_7) rfl rfl ?_
  exact kt
 refine own_getF Xh23 hx hZ hown (host := "") (Or.inl (Wd26 hw)) Via.refl Eq21 Vs (D d7_8) (fun T24 X24 e24 => ?_)
 refine ownBy (A := T24.setTop (fr_xbl m x 14  [(.ref x), (iV 0), (iV 42), (.ref ta)])) (fun t kt => ?_) ?_
 ·refine XS.iloadN X24.here hx rfl (D d7_11) rfl ?_
  refine XS.iloadN X24.here hx rfl (D d7_12) rfl ?_
  refine XS.aloadN X24.here hx rfl (D d7_13) rfl rfl ?_
  exact kt
 obtain ⟨cq25, kq25, q25a, q25b, q25c⟩ := isOf hZ e24 Es
 obtain ⟨vv25, _, ⟨T25, L25, k25, n25⟩, -, X25, ⟨Lc25, hQ25, l25, y25, z25⟩, st25⟩ := X24.virtualBack hx (y := yM15) (z := yM15) hown (mvT hZ (Wd48 hw)) (mvT hZ (Wd49 hw)) (notFace_of_selects (args := #[]) (mvT hZ (Wd51 hw))) (mvT hZ (Wd51 hw)) (mvT hZ (Wd50 hw)) (by decide) (backOf (W := 3) (c_len0 l Z a0 hw [] x ta kb m1 _ m1 G1 h0 n0 Z0 Es Vs Cs Ks hz O2 P5 X00) hZ (Wd52 hw) (Wd9 hw) (by decide) (by decide)) q25a q25c (g := (fr_xbl m x 14  [(.ref x), (iV 0), (iV 42), (.ref ta)])) rfl (by rw [hml]; rfl) (Steps.refl _) (argsL := []) (rest := [(iV 0), (iV 42), (.ref ta)]) (lenOf pd_22 rfl) rfl (by show 2 * 0 + _ ≤ _; exact Nat.le_of_eq rfl) (D d7_14) (fun _ _ => ⟨rfl, e24, (by decide : 0 + 0 ≤ _), (by decide : 0 + 0 ≤ _)⟩)
 dsimp only [Pt.U, Pt.locs, Pt.cells, Pt.slots] at X25 l25 y25 z25 st25 hQ25
 subst l25 y25 z25
 obtain ⟨rfl, Nq25, Eq25⟩ := hQ25
 have N26 := Fr.app Nh23 Nq25
 obtain ⟨Lh27, Xh27, Nh27⟩ := oHd 0 0 X25 N26 rfl rfl
 refine ownSt st25 ?_
 clear st25
 show ownG p.tables e below _ (T25.setTop (fr_xbl m x 17  [(.int m1), (iV 0), (iV 42), (.ref ta)]))
 obtain ⟨vv28, _, ⟨T28, L28, k28, n28⟩, -, X28, ⟨Lc28, hQ28, l28, y28, z28⟩, st28⟩ := Jvm.LawKit.callS Xh27 hx (y := yM22) hown (mvT hZ (Wd58 hw)) (mvT hZ (Wd59 hw)) (mvT hZ (Wd60 hw)) (mvT hZ (Wd61 hw)) (by decide) (backOf (W := 0) (c_xl l Z a0 hw [] ta kb m1 vs M h0 n0 Z0 Ks hpos HX) hZ (Wd61 hw) (Wd60 hw) (by decide) (by decide)) (g := (fr_xbl m x 17  [(.int m1), (iV 0), (iV 42), (.ref ta)])) rfl (by rw [hml]; rfl) (argsL := [(.ref ta), (iV 42), (iV 0), (.int m1)]) (rest := []) (lenOf pd_19 rfl) rfl (by show 2 * 0 + _ ≤ _; exact Nat.le_of_eq rfl) (D d7_17) (fun _ _ => ⟨rfl, Eq25, (by decide : 0 + 0 ≤ _), (by decide : 0 + 0 ≤ _)⟩)
 dsimp only [Pt.U, Pt.locs, Pt.cells, Pt.slots] at X28 l28 y28 z28 st28 hQ28
 subst l28 y28 z28
 obtain ⟨r28, rfl, Nq28, Eq28, hB28⟩ := hQ28
 have N29 := Fr.app Nh27 Nq28
 obtain ⟨Lh30, Xh30, Nh30⟩ := oHd 0 0 X28 N29 rfl rfl
 refine ownBy st28 ?_
 clear st28
 show ownG p.tables e below _ (T28.setTop (fr_xbl m x 20  [(.int r28)]))
 refine ownBy (A := T28.setTop (fr_xbl m x 36  [(.int r28)])) (fun t kt => ?_) ?_
 ·refine XS.goto Xh30.here hx rfl (pc0 := 20) (pc' := 36) rfl (D d7_20) (by decide) (by decide) ?_
  exact kt
 refine ownRet Xh30 Bd.notSynchronized (v := some (.int r28)) (fun h => by rw [Bd.returns] at h; cases h) ?_ (oLe rfl) (oLe rfl) (fun fs hr => retI Xh30 hx Bd.returns (D d7_36) hr)
 show (Q_xbl Z x ta kb m1 vs M G1 h0 n0) (some (.int r28)) T28.heap _
 rw [Eq28]
 exact ⟨_, rfl, Nh30, rfl, hB28⟩
abbrev fr_xbz (m : MethodId) (x : Addr) (pc : Nat)  (st : List Value) : JFrame := mkF m pc #[vR x, vI 42, vI 0] st
def Q_xbz (Z : State) (x : Addr) (ta : Addr) (kb : ClassId) (vs : List Value) (G1 : Int32) (h0 : Heap) (n0 : Nat) (v : Option Value) (h : Heap) (L : List Loc) : Prop := QX False h0 n0 v h L
theorem ef_xbz (m : MethodId) (x0 : Addr) (x1 : Int32) (x2 : Int32)  : entryFrame m #[(.ref x0), (.int x1), (.int x2)] 3 = mkF m 0 #[vR x0, vI x1, vI x2] [] := by first | (simp [entryFrame, mkF, argsToLocals, Value.category]; done) | rfl
set_option maxRecDepth 65536 in
set_option maxHeartbeats 40000000 in
theorem c_xbz (l : Launch) (Z : State) (a0 : Array Value) (hw : ∀ d ∈ tables_1, d.before a0 Z = true) (ws : List Jvm.Cond) (x : Addr) (ta : Addr) (kb : ClassId) (vs : List Value) (G1 : Int32) (h0 : Heap) (n0 : Nat) (Z0 : n0 ≤ h0.size) (Es : Exa Z h0 x "java/lang/String") (Vs : Fld Z h0 x "java/lang/String" "value" "[B" (.ref ta)) (Cs : Fld Z h0 x "java/lang/String" "coder" "B" (iV 0)) (Ks : Arv Z h0 ta kb .byte (0 : Int32) vs (iV 0)) (O2 : Sta Z Z.heap "java/lang/String" "COMPACT_STRINGS" "Z" (.int G1)) (P5 : ¬ (G1 = (0 : Int32))) (X00 : Old Z n0 h0) :
  MetFree l yM25 (head1 (Jvm.Cond.code yM25 jdk_42_method_80_code 3 (some .int) :: ws) ({ frames := 5, cells := 0, slots := 0, locals := 73 } : Room)) (fun a U => a = #[(.ref x), (iV 42), (iV 0)] ∧ Z.Warmed39 U.vm ∧ U.heap = h0) (fun _ _ _ _ _ => True) (fun _ U o U' => ∃ v L, o = .returned v ∧ (Q_xbz Z x ta kb vs G1 h0 n0) v U'.heap L ∧ FrameEnd U o U' L ({ frames := 5, cells := 0, slots := 0, locals := 73 } : Room).cells ({ frames := 5, cells := 0, slots := 0, locals := 73 } : Room).slots) := by
 refine MetFree.of_bodySF (plainFor_of_name pn_1) hisR ?_
 intro p e s m args below meth c s₁ Bd hml0 hP hK
 obtain ⟨rfl, hZ, hHp⟩ := hP
 have hx := Bd.exec
 have D := fun {pc : Nat} {r} (h : decode _ pc = r) => hb Bd.bytes h
 have hml : c.maxLocals = 3 := hml0
 have hown : s.vm.findClass "java/lang/String" = some m.cls := findClass_of_methodNamed Bd.named
 have hnm := (name_of_methodNamed Bd.named Bd.method).1
 have X0 : Stand p l e ({ frames := 5, cells := 0, slots := 0, locals := 73 } : Room) s m #[(.ref x), (iV 42), (iV 0)] below meth c s₁ [] 0 0 := Stand.of_body Bd
 have e0 : s₁.heap = h0 := by rw [← hHp, Bd.state]; rfl
 have N0 := Fr.nil n0
 refine ownOut (P := (Q_xbz Z x ta kb vs G1 h0 n0)) ?_
 refine ownBy (A := s₁.setTop (mkF m 0 #[vR x, vI 42, vI 0] [])) (fun t k => castTop (ef_xbz m x (42 : Int32) (0 : Int32)) k) ?_
 refine ownBy (A := s₁.setTop (fr_xbz m x 1  [(.ref x)])) (fun t kt => ?_) ?_
 ·refine XS.aloadN X0.here hx rfl (D d7_0) rfl rfl ?_
  exact kt
 obtain ⟨cq21, kq21, q21a, q21b, q21c⟩ := isOf hZ e0 Es
 obtain ⟨vv21, _, ⟨T21, L21, k21, n21⟩, -, X21, ⟨Lc21, hQ21, l21, y21, z21⟩, st21⟩ := X0.virtualBack hx (y := yM11) (z := yM11) hown (mvT hZ (Wd42 hw)) (mvT hZ (Wd43 hw)) (notFace_of_selects (args := #[]) (mvT hZ (Wd45 hw))) (mvT hZ (Wd45 hw)) (mvT hZ (Wd44 hw)) (by decide) (backOf (W := 0) (c_isl0 l Z a0 hw [] x G1 h0 n0 Z0 Es Cs O2 P5 X00) hZ (Wd46 hw) (Wd9 hw) (by decide) (by decide)) q21a q21c (g := (fr_xbz m x 1  [(.ref x)])) rfl (by rw [hml]; rfl) (Steps.refl _) (argsL := []) (rest := []) (lenOf pd_21 rfl) rfl (by show 2 * 0 + _ ≤ _; exact Nat.le_of_eq rfl) (D d7_1) (fun _ _ => ⟨rfl, e0, (by decide : 0 + 0 ≤ _), (by decide : 0 + 0 ≤ _)⟩)
 dsimp only [Pt.U, Pt.locs, Pt.cells, Pt.slots] at X21 l21 y21 z21 st21 hQ21
 subst l21 y21 z21
 obtain ⟨rfl, Nq21, Eq21⟩ := hQ21
 have N22 := Fr.app N0 Nq21
 obtain ⟨Lh23, Xh23, Nh23⟩ := oHd 0 0 X21 N22 rfl rfl
 refine ownSt st21 ?_
 clear st21
 show ownG p.tables e below _ (T21.setTop (fr_xbz m x 4  [(iV 1)]))
 refine ownBy (A := T21.setTop (fr_xbz m x 8  [(.ref x)])) (fun t kt => ?_) ?_
 ·refine XS.ifNo Xh23.here hx rfl (D d7_4) rfl ((if0 _ _).trans (feq ((by decide) : ¬ ((1 : Int32) = (0 : Int32)))).1) ?_
  refine XS.aloadN Xh23.here hx rfl (D d7_7) rfl rfl ?_
  exact kt
 refine own_getF Xh23 hx hZ hown (host := "") (Or.inl (Wd26 hw)) Via.refl Eq21 Vs (D d7_8) (fun T24 X24 e24 => ?_)
 refine ownBy (A := T24.setTop (fr_xbz m x 14  [(.ref x), (iV 0), (iV 42), (.ref ta)])) (fun t kt => ?_) ?_
 ·refine XS.iloadN X24.here hx rfl (D d7_11) rfl ?_
  refine XS.iloadN X24.here hx rfl (D d7_12) rfl ?_
  refine XS.aloadN X24.here hx rfl (D d7_13) rfl rfl ?_
  exact kt
 obtain ⟨cq25, kq25, q25a, q25b, q25c⟩ := isOf hZ e24 Es
 obtain ⟨vv25, _, ⟨T25, L25, k25, n25⟩, -, X25, ⟨Lc25, hQ25, l25, y25, z25⟩, st25⟩ := X24.virtualBack hx (y := yM15) (z := yM15) hown (mvT hZ (Wd48 hw)) (mvT hZ (Wd49 hw)) (notFace_of_selects (args := #[]) (mvT hZ (Wd51 hw))) (mvT hZ (Wd51 hw)) (mvT hZ (Wd50 hw)) (by decide) (backOf (W := 3) (c_len0 l Z a0 hw [] x ta kb (0 : Int32) _ (0 : Int32) G1 h0 n0 Z0 Es Vs Cs Ks (by decide +kernel) O2 P5 X00) hZ (Wd52 hw) (Wd9 hw) (by decide) (by decide)) q25a q25c (g := (fr_xbz m x 14  [(.ref x), (iV 0), (iV 42), (.ref ta)])) rfl (by rw [hml]; rfl) (Steps.refl _) (argsL := []) (rest := [(iV 0), (iV 42), (.ref ta)]) (lenOf pd_22 rfl) rfl (by show 2 * 0 + _ ≤ _; exact Nat.le_of_eq rfl) (D d7_14) (fun _ _ => ⟨rfl, e24, (by decide : 0 + 0 ≤ _), (by decide : 0 + 0 ≤ _)⟩)
 dsimp only [Pt.U, Pt.locs, Pt.cells, Pt.slots] at X25 l25 y25 z25 st25 hQ25
 subst l25 y25 z25
 obtain ⟨rfl, Nq25, Eq25⟩ := hQ25
 have N26 := Fr.app Nh23 Nq25
 obtain ⟨Lh27, Xh27, Nh27⟩ := oHd 0 0 X25 N26 rfl rfl
 refine ownSt st25 ?_
 clear st25
 show ownG p.tables e below _ (T25.setTop (fr_xbz m x 17  [(iV 0), (iV 0), (iV 42), (.ref ta)]))
 obtain ⟨vv28, _, ⟨T28, L28, k28, n28⟩, -, X28, ⟨Lc28, hQ28, l28, y28, z28⟩, st28⟩ := Jvm.LawKit.callS Xh27 hx (y := yM22) hown (mvT hZ (Wd58 hw)) (mvT hZ (Wd59 hw)) (mvT hZ (Wd60 hw)) (mvT hZ (Wd61 hw)) (by decide) (backOf (W := 0) (c_xl0 l Z a0 hw [] ta kb vs h0 n0 Z0 Ks) hZ (Wd61 hw) (Wd60 hw) (by decide) (by decide)) (g := (fr_xbz m x 17  [(iV 0), (iV 0), (iV 42), (.ref ta)])) rfl (by rw [hml]; rfl) (argsL := [(.ref ta), (iV 42), (iV 0), (iV 0)]) (rest := []) (lenOf pd_19 rfl) rfl (by show 2 * 0 + _ ≤ _; exact Nat.le_of_eq rfl) (D d7_17) (fun _ _ => ⟨rfl, Eq25, (by decide : 0 + 0 ≤ _), (by decide : 0 + 0 ≤ _)⟩)
 dsimp only [Pt.U, Pt.locs, Pt.cells, Pt.slots] at X28 l28 y28 z28 st28 hQ28
 subst l28 y28 z28
 obtain ⟨r28, rfl, Nq28, Eq28, hB28⟩ := hQ28
 have N29 := Fr.app Nh27 Nq28
 obtain ⟨Lh30, Xh30, Nh30⟩ := oHd 0 0 X28 N29 rfl rfl
 refine ownBy st28 ?_
 clear st28
 show ownG p.tables e below _ (T28.setTop (fr_xbz m x 20  [(.int r28)]))
 refine ownBy (A := T28.setTop (fr_xbz m x 36  [(.int r28)])) (fun t kt => ?_) ?_
 ·refine XS.goto Xh30.here hx rfl (pc0 := 20) (pc' := 36) rfl (D d7_20) (by decide) (by decide) ?_
  exact kt
 refine ownRet Xh30 Bd.notSynchronized (v := some (.int r28)) (fun h => by rw [Bd.returns] at h; cases h) ?_ (oLe rfl) (oLe rfl) (fun fs hr => retI Xh30 hx Bd.returns (D d7_36) hr)
 show (Q_xbz Z x ta kb vs G1 h0 n0) (some (.int r28)) T28.heap _
 rw [Eq28]
 exact ⟨_, rfl, Nh30, rfl, hB28⟩
abbrev fr_xbu (m : MethodId) (x : Addr) (pc : Nat)  (st : List Value) : JFrame := mkF m pc #[vR x, vI 42, vI 0] st
def Q_xbu (Z : State) (x : Addr) (ta : Addr) (kb : ClassId) (z : Int32) (m1 : Int32) (vs : List Value) (M : Prop) (G1 : Int32) (G3 : Value) (h0 : Heap) (n0 : Nat) (v : Option Value) (h : Heap) (L : List Loc) : Prop := QX M h0 n0 v h L
theorem ef_xbu (m : MethodId) (x0 : Addr) (x1 : Int32) (x2 : Int32)  : entryFrame m #[(.ref x0), (.int x1), (.int x2)] 3 = mkF m 0 #[vR x0, vI x1, vI x2] [] := by first | (simp [entryFrame, mkF, argsToLocals, Value.category]; done) | rfl
set_option maxRecDepth 65536 in
set_option maxHeartbeats 40000000 in
theorem c_xbu (l : Launch) (Z : State) (a0 : Array Value) (hw : ∀ d ∈ tables_1, d.before a0 Z = true) (ws : List Jvm.Cond) (x : Addr) (ta : Addr) (kb : ClassId) (z : Int32) (m1 : Int32) (vs : List Value) (M : Prop) (G1 : Int32) (G3 : Value) (h0 : Heap) (n0 : Nat) (Z0 : n0 ≤ h0.size) (Es : Exa Z h0 x "java/lang/String") (Vs : Fld Z h0 x "java/lang/String" "value" "[B" (.ref ta)) (Cs : Fld Z h0 x "java/lang/String" "coder" "B" (iV 1)) (Ks : Arv Z h0 ta kb .byte z vs (iV 0)) (hz : (z >>> ((1 : Int32) &&& 31)) = m1) (hm : ¬ m1 < (0 : Int32)) (hpos : (0 : Int32) < m1) (HX : ∀ (H : Heap) (n1 : Nat), n1 ≤ H.size → Arv Z H ta kb .byte z vs (iV 0) → Old Z n1 H → MetFree l yM21 (head1 (Jvm.Cond.code yM21 jdk_52_method_48_code 5 (some .int) :: []) ({ frames := 1, cells := 0, slots := 0, locals := 13 } : Room)) (fun a U => a = #[(.ref ta), (iV 42), (iV 0), (.int m1)] ∧ Z.Warmed39 U.vm ∧ U.heap = H) (fun _ _ _ _ _ => True) (fun _ U o U' => ∃ v L, o = .returned v ∧ (QX M H n1) v U'.heap L ∧ FrameEnd U o U' L ({ frames := 1, cells := 0, slots := 0, locals := 13 } : Room).cells ({ frames := 1, cells := 0, slots := 0, locals := 13 } : Room).slots)) (O2 : Sta Z Z.heap "java/lang/String" "COMPACT_STRINGS" "Z" (.int G1)) (P5 : ¬ (G1 = (0 : Int32))) (O4 : Sta Z Z.heap "jdk/internal/util/Preconditions" "SIOOBE_FORMATTER" "Ljava/util/function/BiFunction;" G3) (rG3 : G3.isRef = true) (X00 : Old Z n0 h0) :
  MetFree l yM25 (head1 (Jvm.Cond.code yM25 jdk_42_method_80_code 3 (some .int) :: ws) ({ frames := 5, cells := 0, slots := 0, locals := 73 } : Room)) (fun a U => a = #[(.ref x), (iV 42), (iV 0)] ∧ Z.Warmed39 U.vm ∧ U.heap = h0) (fun _ _ _ _ _ => True) (fun _ U o U' => ∃ v L, o = .returned v ∧ (Q_xbu Z x ta kb z m1 vs M G1 G3 h0 n0) v U'.heap L ∧ FrameEnd U o U' L ({ frames := 5, cells := 0, slots := 0, locals := 73 } : Room).cells ({ frames := 5, cells := 0, slots := 0, locals := 73 } : Room).slots) := by
 refine MetFree.of_bodySF (plainFor_of_name pn_1) hisR ?_
 intro p e s m args below meth c s₁ Bd hml0 hP hK
 obtain ⟨rfl, hZ, hHp⟩ := hP
 have hx := Bd.exec
 have D := fun {pc : Nat} {r} (h : decode _ pc = r) => hb Bd.bytes h
 have hml : c.maxLocals = 3 := hml0
 have hown : s.vm.findClass "java/lang/String" = some m.cls := findClass_of_methodNamed Bd.named
 have hnm := (name_of_methodNamed Bd.named Bd.method).1
 have X0 : Stand p l e ({ frames := 5, cells := 0, slots := 0, locals := 73 } : Room) s m #[(.ref x), (iV 42), (iV 0)] below meth c s₁ [] 0 0 := Stand.of_body Bd
 have e0 : s₁.heap = h0 := by rw [← hHp, Bd.state]; rfl
 have N0 := Fr.nil n0
 refine ownOut (P := (Q_xbu Z x ta kb z m1 vs M G1 G3 h0 n0)) ?_
 refine ownBy (A := s₁.setTop (mkF m 0 #[vR x, vI 42, vI 0] [])) (fun t k => castTop (ef_xbu m x (42 : Int32) (0 : Int32)) k) ?_
 refine ownBy (A := s₁.setTop (fr_xbu m x 1  [(.ref x)])) (fun t kt => ?_) ?_
 ·refine XS.aloadN X0.here hx rfl (D d7_0) rfl rfl ?_
  exact kt
 obtain ⟨cq21, kq21, q21a, q21b, q21c⟩ := isOf hZ e0 Es
 obtain ⟨vv21, _, ⟨T21, L21, k21, n21⟩, -, X21, ⟨Lc21, hQ21, l21, y21, z21⟩, st21⟩ := X0.virtualBack hx (y := yM11) (z := yM11) hown (mvT hZ (Wd42 hw)) (mvT hZ (Wd43 hw)) (notFace_of_selects (args := #[]) (mvT hZ (Wd45 hw))) (mvT hZ (Wd45 hw)) (mvT hZ (Wd44 hw)) (by decide) (backOf (W := 0) (c_isl1 l Z a0 hw [] x G1 h0 n0 Z0 Es Cs O2 P5 X00) hZ (Wd46 hw) (Wd9 hw) (by decide) (by decide)) q21a q21c (g := (fr_xbu m x 1  [(.ref x)])) rfl (by rw [hml]; rfl) (Steps.refl _) (argsL := []) (rest := []) (lenOf pd_21 rfl) rfl (by show 2 * 0 + _ ≤ _; exact Nat.le_of_eq rfl) (D d7_1) (fun _ _ => ⟨rfl, e0, (by decide : 0 + 0 ≤ _), (by decide : 0 + 0 ≤ _)⟩)
 dsimp only [Pt.U, Pt.locs, Pt.cells, Pt.slots] at X21 l21 y21 z21 st21 hQ21
 subst l21 y21 z21
 obtain ⟨rfl, Nq21, Eq21⟩ := hQ21
 have N22 := Fr.app N0 Nq21
 obtain ⟨Lh23, Xh23, Nh23⟩ := oHd 0 0 X21 N22 rfl rfl
 refine ownSt st21 ?_
 clear st21
 show ownG p.tables e below _ (T21.setTop (fr_xbu m x 4  [(iV 0)]))
 refine ownBy (A := T21.setTop (fr_xbu m x 24  [(.ref x)])) (fun t kt => ?_) ?_
 ·refine XS.ifYes Xh23.here hx rfl (pc0 := 4) (pc' := 23) rfl (D d7_4) rfl ((if0 _ _).trans (teq ((by decide) : (0 : Int32) = (0 : Int32))).1) (by decide) (by decide) ?_
  refine XS.aloadN Xh23.here hx rfl (D d7_23) rfl rfl ?_
  exact kt
 refine own_getF Xh23 hx hZ hown (host := "") (Or.inl (Wd26 hw)) Via.refl Eq21 Vs (D d7_24) (fun T24 X24 e24 => ?_)
 refine ownBy (A := T24.setTop (fr_xbu m x 30  [(.ref x), (iV 0), (iV 42), (.ref ta)])) (fun t kt => ?_) ?_
 ·refine XS.iloadN X24.here hx rfl (D d7_27) rfl ?_
  refine XS.iloadN X24.here hx rfl (D d7_28) rfl ?_
  refine XS.aloadN X24.here hx rfl (D d7_29) rfl rfl ?_
  exact kt
 obtain ⟨cq25, kq25, q25a, q25b, q25c⟩ := isOf hZ e24 Es
 obtain ⟨vv25, _, ⟨T25, L25, k25, n25⟩, -, X25, ⟨Lc25, hQ25, l25, y25, z25⟩, st25⟩ := X24.virtualBack hx (y := yM15) (z := yM15) hown (mvT hZ (Wd48 hw)) (mvT hZ (Wd49 hw)) (notFace_of_selects (args := #[]) (mvT hZ (Wd51 hw))) (mvT hZ (Wd51 hw)) (mvT hZ (Wd50 hw)) (by decide) (backOf (W := 3) (c_len1 l Z a0 hw [] x ta kb z _ m1 G1 h0 n0 Z0 Es Vs Cs Ks hz O2 P5 X00) hZ (Wd52 hw) (Wd9 hw) (by decide) (by decide)) q25a q25c (g := (fr_xbu m x 30  [(.ref x), (iV 0), (iV 42), (.ref ta)])) rfl (by rw [hml]; rfl) (Steps.refl _) (argsL := []) (rest := [(iV 0), (iV 42), (.ref ta)]) (lenOf pd_22 rfl) rfl (by show 2 * 0 + _ ≤ _; exact Nat.le_of_eq rfl) (D d7_30) (fun _ _ => ⟨rfl, e24, (by decide : 0 + 0 ≤ _), (by decide : 0 + 0 ≤ _)⟩)
 dsimp only [Pt.U, Pt.locs, Pt.cells, Pt.slots] at X25 l25 y25 z25 st25 hQ25
 subst l25 y25 z25
 obtain ⟨rfl, Nq25, Eq25⟩ := hQ25
 have N26 := Fr.app Nh23 Nq25
 obtain ⟨Lh27, Xh27, Nh27⟩ := oHd 0 0 X25 N26 rfl rfl
 refine ownSt st25 ?_
 clear st25
 show ownG p.tables e below _ (T25.setTop (fr_xbu m x 33  [(.int m1), (iV 0), (iV 42), (.ref ta)]))
 obtain ⟨vv28, _, ⟨T28, L28, k28, n28⟩, -, X28, ⟨Lc28, hQ28, l28, y28, z28⟩, st28⟩ := Jvm.LawKit.callS Xh27 hx (y := yM24) hown (mvT hZ (Wd104 hw)) (mvT hZ (Wd105 hw)) (mvT hZ (Wd74 hw)) (mvT hZ (Wd106 hw)) (by decide) (backOf (W := 0) (c_xu l Z a0 hw [] ta kb z m1 vs M G3 h0 n0 Z0 Ks hz hm hpos O4 rG3 HX X00) hZ (Wd106 hw) (Wd74 hw) (by decide) (by decide)) (g := (fr_xbu m x 33  [(.int m1), (iV 0), (iV 42), (.ref ta)])) rfl (by rw [hml]; rfl) (argsL := [(.ref ta), (iV 42), (iV 0), (.int m1)]) (rest := []) (lenOf pd_19 rfl) rfl (by show 2 * 0 + _ ≤ _; exact Nat.le_of_eq rfl) (D d7_33) (fun _ _ => ⟨rfl, Eq25, (by decide : 0 + 0 ≤ _), (by decide : 0 + 0 ≤ _)⟩)
 dsimp only [Pt.U, Pt.locs, Pt.cells, Pt.slots] at X28 l28 y28 z28 st28 hQ28
 subst l28 y28 z28
 obtain ⟨r28, rfl, Nq28, Eq28, hB28⟩ := hQ28
 have N29 := Fr.app Nh27 Nq28
 obtain ⟨Lh30, Xh30, Nh30⟩ := oHd 0 0 X28 N29 rfl rfl
 refine ownBy st28 ?_
 clear st28
 show ownG p.tables e below _ (T28.setTop (fr_xbu m x 36  [(.int r28)]))
 refine ownRet Xh30 Bd.notSynchronized (v := some (.int r28)) (fun h => by rw [Bd.returns] at h; cases h) ?_ (oLe rfl) (oLe rfl) (fun fs hr => retI Xh30 hx Bd.returns (D d7_36) hr)
 show (Q_xbu Z x ta kb z m1 vs M G1 G3 h0 n0) (some (.int r28)) T28.heap _
 rw [Eq28]
 exact ⟨_, rfl, Nh30, rfl, hB28⟩
def Q_xa (Z : State) (x : Addr) (ta : Addr) (kb : ClassId) (cd : Int32) (z : Int32) (vs : List Value) (M : Prop) (h0 : Heap) (n0 : Nat) (v : Option Value) (h : Heap) (L : List Loc) : Prop := QX M h0 n0 v h L
theorem ef_xa (m : MethodId) (x0 : Addr) (x1 : Int32)  : entryFrame m #[(.ref x0), (.int x1)] 2 = mkF m 0 #[vR x0, vI x1] [] := by first | (simp [entryFrame, mkF, argsToLocals, Value.category]; done) | rfl
set_option maxRecDepth 65536 in
set_option maxHeartbeats 40000000 in
theorem c_xa (l : Launch) (Z : State) (a0 : Array Value) (hw : ∀ d ∈ tables_1, d.before a0 Z = true) (ws : List Jvm.Cond) (x : Addr) (ta : Addr) (kb : ClassId) (cd : Int32) (z : Int32) (vs : List Value) (M : Prop) (h0 : Heap) (n0 : Nat) (Z0 : n0 ≤ h0.size) (Es : Exa Z h0 x "java/lang/String") (Vs : Fld Z h0 x "java/lang/String" "value" "[B" (.ref ta)) (Cs : Fld Z h0 x "java/lang/String" "coder" "B" (.int cd)) (Ks : Arv Z h0 ta kb .byte z vs (iV 0)) (HB : ∀ (H : Heap) (n1 : Nat), n1 ≤ H.size → Exa Z H x "java/lang/String" → Fld Z H x "java/lang/String" "value" "[B" (.ref ta) → Fld Z H x "java/lang/String" "coder" "B" (.int cd) → Arv Z H ta kb .byte z vs (iV 0) → Old Z n1 H → MetFree l yM25 (head1 (Jvm.Cond.code yM25 jdk_42_method_80_code 3 (some .int) :: []) ({ frames := 5, cells := 0, slots := 0, locals := 73 } : Room)) (fun a U => a = #[(.ref x), (iV 42), (iV 0)] ∧ Z.Warmed39 U.vm ∧ U.heap = H) (fun _ _ _ _ _ => True) (fun _ U o U' => ∃ v L, o = .returned v ∧ (QX M H n1) v U'.heap L ∧ FrameEnd U o U' L ({ frames := 5, cells := 0, slots := 0, locals := 73 } : Room).cells ({ frames := 5, cells := 0, slots := 0, locals := 73 } : Room).slots)) (X00 : Old Z n0 h0) :
  MetFree l yM26 (head1 (Jvm.Cond.code yM26 jdk_42_method_79_code 2 (some .int) :: ws) ({ frames := 6, cells := 0, slots := 0, locals := 87 } : Room)) (fun a U => a = #[(.ref x), (iV 42)] ∧ Z.Warmed39 U.vm ∧ U.heap = h0) (fun _ _ _ _ _ => True) (fun _ U o U' => ∃ v L, o = .returned v ∧ (Q_xa Z x ta kb cd z vs M h0 n0) v U'.heap L ∧ FrameEnd U o U' L ({ frames := 6, cells := 0, slots := 0, locals := 87 } : Room).cells ({ frames := 6, cells := 0, slots := 0, locals := 87 } : Room).slots) := by
 refine MetFree.of_bodySF (plainFor_of_name pn_1) hisR ?_
 intro p e s m args below meth c s₁ Bd hml0 hP hK
 obtain ⟨rfl, hZ, hHp⟩ := hP
 have hx := Bd.exec
 have D := fun {pc : Nat} {r} (h : decode _ pc = r) => hb Bd.bytes h
 have hml : c.maxLocals = 2 := hml0
 have hown : s.vm.findClass "java/lang/String" = some m.cls := findClass_of_methodNamed Bd.named
 have hnm := (name_of_methodNamed Bd.named Bd.method).1
 have X0 : Stand p l e ({ frames := 6, cells := 0, slots := 0, locals := 87 } : Room) s m #[(.ref x), (iV 42)] below meth c s₁ [] 0 0 := Stand.of_body Bd
 have e0 : s₁.heap = h0 := by rw [← hHp, Bd.state]; rfl
 have N0 := Fr.nil n0
 refine ownOut (P := (Q_xa Z x ta kb cd z vs M h0 n0)) ?_
 refine ownBy (A := s₁.setTop (mkF m 0 #[vR x, vI 42] [])) (fun t k => castTop (ef_xa m x (42 : Int32)) k) ?_
 refine ownBy (A := s₁.setTop (mkF m 3 #[vR x, vI 42] [(iV 0), (iV 42), (.ref x)])) (fun t kt => ?_) ?_
 ·refine XS.aloadN X0.here hx rfl (D d6_0) rfl rfl ?_
  refine XS.iloadN X0.here hx rfl (D d6_1) rfl ?_
  refine XS.iconst X0.here hx rfl (D d6_2) ?_
  exact kt
 obtain ⟨cq21, kq21, q21a, q21b, q21c⟩ := isOf hZ e0 Es
 obtain ⟨vv21, _, ⟨T21, L21, k21, n21⟩, -, X21, ⟨Lc21, hQ21, l21, y21, z21⟩, st21⟩ := X0.virtualBack hx (y := yM25) (z := yM25) hown (mvT hZ (Wd37 hw)) (mvT hZ (Wd38 hw)) (notFace_of_selects (args := #[]) (mvT hZ (Wd40 hw))) (mvT hZ (Wd40 hw)) (mvT hZ (Wd39 hw)) (by decide) (backOf (W := 0) (HB h0 n0 Z0 Es Vs Cs Ks X00) hZ (Wd41 hw) (Wd9 hw) (by decide) (by decide)) q21a q21c (g := (mkF m 3 #[vR x, vI 42] [(iV 0), (iV 42), (.ref x)])) rfl (by rw [hml]; rfl) (Steps.refl _) (argsL := [(iV 42), (iV 0)]) (rest := []) (lenOf pd_18 rfl) rfl (by show 2 * 0 + _ ≤ _; exact Nat.le_of_eq rfl) (D d6_3) (fun _ _ => ⟨rfl, e0, (by decide : 0 + 0 ≤ _), (by decide : 0 + 0 ≤ _)⟩)
 dsimp only [Pt.U, Pt.locs, Pt.cells, Pt.slots] at X21 l21 y21 z21 st21 hQ21
 subst l21 y21 z21
 obtain ⟨r21, rfl, Nq21, Eq21, hB21⟩ := hQ21
 have N22 := Fr.app N0 Nq21
 obtain ⟨Lh23, Xh23, Nh23⟩ := oHd 0 0 X21 N22 rfl rfl
 refine ownSt st21 ?_
 clear st21
 show ownG p.tables e below _ (T21.setTop (mkF m 6 #[vR x, vI 42] [(.int r21)]))
 refine ownRet Xh23 Bd.notSynchronized (v := some (.int r21)) (fun h => by rw [Bd.returns] at h; cases h) ?_ (oLe rfl) (oLe rfl) (fun fs hr => retI Xh23 hx Bd.returns (D d6_6) hr)
 show (Q_xa Z x ta kb cd z vs M h0 n0) (some (.int r21)) T21.heap _
 rw [Eq21]
 exact ⟨_, rfl, Nh23, rfl, hB21⟩
abbrev fr_isin (m : MethodId) (x : Addr) (pc : Nat)  (st : List Value) : JFrame := mkF m pc #[vR x] st
def Q_isin (Z : State) (x : Addr) (ta : Addr) (kb : ClassId) (cd : Int32) (z : Int32) (vs : List Value) (M : Prop) (h0 : Heap) (n0 : Nat) (v : Option Value) (h : Heap) (L : List Loc) : Prop := Fr n0 L ∧ h = h0 ∧ ((M ∧ v = some (iV 1)) ∨ (¬ M ∧ v = some (iV 0)))
theorem ef_isin (m : MethodId) (x0 : Addr)  : entryFrame m #[(.ref x0)] 1 = mkF m 0 #[vR x0] [] := by first | (simp [entryFrame, mkF, argsToLocals, Value.category]; done) | rfl
set_option maxRecDepth 65536 in
set_option maxHeartbeats 40000000 in
theorem c_isin (l : Launch) (Z : State) (a0 : Array Value) (hw : ∀ d ∈ tables_1, d.before a0 Z = true) (ws : List Jvm.Cond) (x : Addr) (ta : Addr) (kb : ClassId) (cd : Int32) (z : Int32) (vs : List Value) (M : Prop) (h0 : Heap) (n0 : Nat) (Z0 : n0 ≤ h0.size) (Es : Exa Z h0 x "java/lang/String") (Vs : Fld Z h0 x "java/lang/String" "value" "[B" (.ref ta)) (Cs : Fld Z h0 x "java/lang/String" "coder" "B" (.int cd)) (Ks : Arv Z h0 ta kb .byte z vs (iV 0)) (HB : ∀ (H : Heap) (n1 : Nat), n1 ≤ H.size → Exa Z H x "java/lang/String" → Fld Z H x "java/lang/String" "value" "[B" (.ref ta) → Fld Z H x "java/lang/String" "coder" "B" (.int cd) → Arv Z H ta kb .byte z vs (iV 0) → Old Z n1 H → MetFree l yM25 (head1 (Jvm.Cond.code yM25 jdk_42_method_80_code 3 (some .int) :: []) ({ frames := 5, cells := 0, slots := 0, locals := 73 } : Room)) (fun a U => a = #[(.ref x), (iV 42), (iV 0)] ∧ Z.Warmed39 U.vm ∧ U.heap = H) (fun _ _ _ _ _ => True) (fun _ U o U' => ∃ v L, o = .returned v ∧ (QX M H n1) v U'.heap L ∧ FrameEnd U o U' L ({ frames := 5, cells := 0, slots := 0, locals := 73 } : Room).cells ({ frames := 5, cells := 0, slots := 0, locals := 73 } : Room).slots)) (X00 : Old Z n0 h0) :
  MetFree l yM27 (head1 (Jvm.Cond.code yM27 prog_22_method_2_code 1 (some .boolean) :: ws) ({ frames := 7, cells := 0, slots := 0, locals := 100 } : Room)) (fun a U => a = #[(.ref x)] ∧ Z.Warmed39 U.vm ∧ U.heap = h0) (fun _ _ _ _ _ => True) (fun _ U o U' => ∃ v L, o = .returned v ∧ (Q_isin Z x ta kb cd z vs M h0 n0) v U'.heap L ∧ FrameEnd U o U' L ({ frames := 7, cells := 0, slots := 0, locals := 100 } : Room).cells ({ frames := 7, cells := 0, slots := 0, locals := 100 } : Room).slots) := by
 refine MetFree.of_bodySF (plainFor_of_name pn_23) hisR ?_
 intro p e s m args below meth c s₁ Bd hml0 hP hK
 obtain ⟨rfl, hZ, hHp⟩ := hP
 have hx := Bd.exec
 have D := fun {pc : Nat} {r} (h : decode _ pc = r) => hb Bd.bytes h
 have hml : c.maxLocals = 1 := hml0
 have hown : s.vm.findClass "com/example/sakuin/sakuin/engine/Wildcard" = some m.cls := findClass_of_methodNamed Bd.named
 have hnm := (name_of_methodNamed Bd.named Bd.method).1
 have X0 : Stand p l e ({ frames := 7, cells := 0, slots := 0, locals := 100 } : Room) s m #[(.ref x)] below meth c s₁ [] 0 0 := Stand.of_body Bd
 have e0 : s₁.heap = h0 := by rw [← hHp, Bd.state]; rfl
 have N0 := Fr.nil n0
 refine ownOut (P := (Q_isin Z x ta kb cd z vs M h0 n0)) ?_
 refine ownBy (A := s₁.setTop (mkF m 0 #[vR x] [])) (fun t k => castTop (ef_isin m x) k) ?_
 refine ownBy (A := s₁.setTop (fr_isin m x 3  [(iV 42), (.ref x)])) (fun t kt => ?_) ?_
 ·refine XS.aloadN X0.here hx rfl (D d5_0) rfl rfl ?_
  refine XS.bipush X0.here hx rfl (D d5_1) ?_
  exact kt
 obtain ⟨cq21, kq21, q21a, q21b, q21c⟩ := isOf hZ e0 Es
 obtain ⟨vv21, _, ⟨T21, L21, k21, n21⟩, -, X21, ⟨Lc21, hQ21, l21, y21, z21⟩, st21⟩ := X0.virtualBack hx (y := yM26) (z := yM26) hown (mvT hZ (Wd32 hw)) (mvT hZ (Wd33 hw)) (notFace_of_selects (args := #[]) (mvT hZ (Wd35 hw))) (mvT hZ (Wd35 hw)) (mvT hZ (Wd34 hw)) (by decide) (backOf (W := 0) (c_xa l Z a0 hw [] x ta kb cd z vs M h0 n0 Z0 Es Vs Cs Ks HB X00) hZ (Wd36 hw) (Wd9 hw) (by decide) (by decide)) q21a q21c (g := (fr_isin m x 3  [(iV 42), (.ref x)])) rfl (by rw [hml]; rfl) (Steps.refl _) (argsL := [(iV 42)]) (rest := []) (lenOf pd_4 rfl) rfl (by show 2 * 0 + _ ≤ _; exact Nat.le_of_eq rfl) (D d5_3) (fun _ _ => ⟨rfl, e0, (by decide : 0 + 0 ≤ _), (by decide : 0 + 0 ≤ _)⟩)
 dsimp only [Pt.U, Pt.locs, Pt.cells, Pt.slots] at X21 l21 y21 z21 st21 hQ21
 subst l21 y21 z21
 obtain ⟨r21, rfl, Nq21, Eq21, hB21⟩ := hQ21
 have N22 := Fr.app N0 Nq21
 obtain ⟨Lh23, Xh23, Nh23⟩ := oHd 0 0 X21 N22 rfl rfl
 refine ownSt st21 ?_
 clear st21
 show ownG p.tables e below _ (T21.setTop (fr_isin m x 6  [(.int r21)]))
 by_cases hc24 : r21 < (0 : Int32)
 ·skip
  refine ownBy (A := T21.setTop (fr_isin m x 14  [(iV 0)])) (fun t kt => ?_) ?_
  ·refine XS.ifYes Xh23.here hx rfl (pc0 := 6) (pc' := 13) rfl (D d5_6) rfl ((if0 _ _).trans (tlt hc24).1) (by decide) (by decide) ?_
   refine XS.iconst Xh23.here hx rfl (D d5_13) ?_
   exact kt
  refine ownRet Xh23 Bd.notSynchronized (v := some (.int (nar .boolean (0 : Int32)))) (fun h => by rw [Bd.returns] at h; cases h) ?_ (oLe rfl) (oLe rfl) (fun fs hr => retN Xh23 hx (t := .boolean) Bd.returns (by simp) (D d5_14) hr)
  show (Q_isin Z x ta kb cd z vs M h0 n0) (some (.int (nar .boolean (0 : Int32)))) T21.heap _
  rw [Eq21]
  exact ⟨Nh23, rfl, Or.inr ⟨hB21.elim (fun q => q.2) (fun q => absurd hc24 q.1), rfl⟩⟩
 ·skip
  refine ownBy (A := T21.setTop (fr_isin m x 14  [(iV 1)])) (fun t kt => ?_) ?_
  ·refine XS.ifNo Xh23.here hx rfl (D d5_6) rfl ((if0 _ _).trans (flt hc24).1) ?_
   refine XS.iconst Xh23.here hx rfl (D d5_9) ?_
   refine XS.goto Xh23.here hx rfl (pc0 := 10) (pc' := 14) rfl (D d5_10) (by decide) (by decide) ?_
   exact kt
  refine ownRet Xh23 Bd.notSynchronized (v := some (.int (nar .boolean (1 : Int32)))) (fun h => by rw [Bd.returns] at h; cases h) ?_ (oLe rfl) (oLe rfl) (fun fs hr => retN Xh23 hx (t := .boolean) Bd.returns (by simp) (D d5_14) hr)
  show (Q_isin Z x ta kb cd z vs M h0 n0) (some (.int (nar .boolean (1 : Int32)))) T21.heap _
  rw [Eq21]
  exact ⟨Nh23, rfl, Or.inl ⟨hB21.elim (fun q => absurd q.1 hc24) (fun q => q.2), rfl⟩⟩
theorem hb0 (l : Launch) (Z : State) (a0 : Array Value) (hw : ∀ d ∈ tables_1, d.before a0 Z = true) (x : Addr) (ta : Addr) (kb : ClassId) (cd : Int32) (z : Int32) (vs : List Value) (G1 : Int32) (G3 : Value) (hrel : cd = (0 : Int32) ∧ z = (0 : Int32) ∧ vs = []) (O2 : Sta Z Z.heap "java/lang/String" "COMPACT_STRINGS" "Z" (.int G1)) (P5 : ¬ (G1 = (0 : Int32))) (SA : Sta Z Z.heap "java/lang/StringUTF16" "$assertionsDisabled" "Z" (iV 1)) (SHI : Sta Z Z.heap "java/lang/StringUTF16" "HI_BYTE_SHIFT" "I" (iV 0)) (SLO : Sta Z Z.heap "java/lang/StringUTF16" "LO_BYTE_SHIFT" "I" (iV 8)) (O4 : Sta Z Z.heap "jdk/internal/util/Preconditions" "SIOOBE_FORMATTER" "Ljava/util/function/BiFunction;" G3) (rG3 : G3.isRef = true) : ∀ (H : Heap) (n1 : Nat), n1 ≤ H.size → Exa Z H x "java/lang/String" → Fld Z H x "java/lang/String" "value" "[B" (.ref ta) → Fld Z H x "java/lang/String" "coder" "B" (.int cd) → Arv Z H ta kb .byte z vs (iV 0) → Old Z n1 H → MetFree l yM25 (head1 (Jvm.Cond.code yM25 jdk_42_method_80_code 3 (some .int) :: []) ({ frames := 5, cells := 0, slots := 0, locals := 73 } : Room)) (fun a U => a = #[(.ref x), (iV 42), (iV 0)] ∧ Z.Warmed39 U.vm ∧ U.heap = H) (fun _ _ _ _ _ => True) (fun _ U o U' => ∃ v L, o = .returned v ∧ (QX (False) H n1) v U'.heap L ∧ FrameEnd U o U' L ({ frames := 5, cells := 0, slots := 0, locals := 73 } : Room).cells ({ frames := 5, cells := 0, slots := 0, locals := 73 } : Room).slots) := by
 obtain ⟨rfl, rfl, rfl⟩ := hrel
 exact fun H n1 zz E V C K X => c_xbz l Z a0 hw [] x ta kb [] G1 H n1 zz E V C K O2 P5 X
abbrev fr_xol1 (m : MethodId) (ta : Addr) (pc : Nat) (x5_ : Slot) (st : List Value) : JFrame := mkF m pc #[vR ta, vI 42, vI 0, vI 1, vI 42, x5_] st
def Q_xol1 (Z : State) (ta : Addr) (kb : ClassId) (c0 : Int32) (h0 : Heap) (n0 : Nat) (v : Option Value) (h : Heap) (L : List Loc) : Prop := QX (c0 = (42 : Int32)) h0 n0 v h L
theorem ef_xol1 (m : MethodId) (x0 : Addr) (x1 : Int32) (x2 : Int32) (x3 : Int32)  : entryFrame m #[(.ref x0), (.int x1), (.int x2), (.int x3)] 6 = mkF m 0 #[vR x0, vI x1, vI x2, vI x3, .unset, .unset] [] := by first | (simp [entryFrame, mkF, argsToLocals, Value.category]; done) | rfl
set_option maxRecDepth 65536 in
set_option maxHeartbeats 40000000 in
theorem c_xol1 (l : Launch) (Z : State) (a0 : Array Value) (hw : ∀ d ∈ tables_1, d.before a0 Z = true) (ws : List Jvm.Cond) (ta : Addr) (kb : ClassId) (c0 : Int32) (h0 : Heap) (n0 : Nat) (Z0 : n0 ≤ h0.size) (Ks : Arv Z h0 ta kb .byte (1 : Int32) [(.int (oL c0))] (iV 0)) (hc0 : ¬ c0 < 0 ∧ ¬ (65535 : Int32) < c0) (hnl0 : ¬ ((255 : Int32) < c0)) :
  MetFree l yM20 (head1 (Jvm.Cond.code yM20 jdk_43_method_23_code 6 (some .int) :: ws) ({ frames := 0, cells := 0, slots := 0, locals := 0 } : Room)) (fun a U => a = #[(.ref ta), (iV 42), (iV 0), (iV 1)] ∧ Z.Warmed39 U.vm ∧ U.heap = h0) (fun _ _ _ _ _ => True) (fun _ U o U' => ∃ v L, o = .returned v ∧ (Q_xol1 Z ta kb c0 h0 n0) v U'.heap L ∧ FrameEnd U o U' L ({ frames := 0, cells := 0, slots := 0, locals := 0 } : Room).cells ({ frames := 0, cells := 0, slots := 0, locals := 0 } : Room).slots) := by
 refine MetFree.of_bodySF (plainFor_of_name pn_11) hisR ?_
 intro p e s m args below meth c s₁ Bd hml0 hP hK
 obtain ⟨rfl, hZ, hHp⟩ := hP
 have hx := Bd.exec
 have D := fun {pc : Nat} {r} (h : decode _ pc = r) => hb Bd.bytes h
 have hml : c.maxLocals = 6 := hml0
 have hown : s.vm.findClass "java/lang/StringLatin1" = some m.cls := findClass_of_methodNamed Bd.named
 have hnm := (name_of_methodNamed Bd.named Bd.method).1
 have X0 : Stand p l e ({ frames := 0, cells := 0, slots := 0, locals := 0 } : Room) s m #[(.ref ta), (iV 42), (iV 0), (iV 1)] below meth c s₁ [] 0 0 := Stand.of_body Bd
 have e0 : s₁.heap = h0 := by rw [← hHp, Bd.state]; rfl
 have N0 := Fr.nil n0
 refine ownOut (P := (Q_xol1 Z ta kb c0 h0 n0)) ?_
 refine ownBy (A := s₁.setTop (mkF m 0 #[vR ta, vI 42, vI 0, vI 1, .unset, .unset] [])) (fun t k => castTop (ef_xol1 m ta (42 : Int32) (0 : Int32) (1 : Int32)) k) ?_
 refine ownBy (A := s₁.setTop (fr_xol1 m ta 16 (vI 0) [(iV 0), (.ref ta)])) (fun t kt => ?_) ?_
 ·refine XS.iloadN X0.here hx rfl (D d18_0) rfl ?_
  refine XS.i2b X0.here hx rfl (D d18_1) rfl ?_
  refine XS.istore X0.here hx rfl (D d18_2) rfl (l' := #[vR ta, vI 42, vI 0, vI 1, vI 42, .unset]) rfl ?_
  refine XS.iloadN X0.here hx rfl (D d18_4) rfl ?_
  show Steps p.tables e below (s₁.setTop (fr_xol1 m ta 5 .unset [(iV 0)])) t
  refine XS.istore X0.here hx rfl (D d18_5) rfl (l' := #[vR ta, vI 42, vI 0, vI 1, vI 42, vI 0]) rfl ?_
  refine XS.iload X0.here hx rfl (D d18_7) rfl ?_
  refine XS.iloadN X0.here hx rfl (D d18_9) rfl ?_
  refine XS.icmpNo X0.here hx rfl (D d18_10) rfl (tlt ((by decide) : (0 : Int32) < (1 : Int32))).2.1 ?_
  show Steps p.tables e below (s₁.setTop (fr_xol1 m ta 13 (vI 0) [])) t
  refine XS.aloadN X0.here hx rfl (D d18_13) rfl rfl ?_
  refine XS.iload X0.here hx rfl (D d18_14) rfl ?_
  exact kt
 obtain ⟨cl21, Ar21, q21, S21, N21, H21, G21⟩ := id Ks
 have hin21 : ¬ ((0 : Int32) < 0 ∨ cl21.slots.size ≤ ((0 : Int32)).toNatClampNeg) := inb_of S21 ⟨by decide, by decide⟩
 have hat21 : cl21.slots[((0 : Int32)).toNatClampNeg]? = some (.int (oL c0)) := H21.at hin21 rfl
 have st21 := X0.baloadBytes hx (j := (0 : Int32)) (v := (.int (oL c0))) (by rw [e0]; exact Ar21.1) (State.isArrayOf_alike hZ.alike Ar21.2.1) Ar21.2.2 hin21 hat21 (g := (fr_xol1 m ta 16 (vI 0) [(iV 0), (.ref ta)])) rfl rfl (D d18_16)
 refine ownBy st21 ?_
 show ownG p.tables e below _ (s₁.setTop (fr_xol1 m ta 17 (vI 0) [(.int (oL c0))]))
 refine ownBy (A := s₁.setTop (fr_xol1 m ta 19 (vI 0) [(iV 42), (.int (oL c0))])) (fun t kt => ?_) ?_
 ·refine XS.iload X0.here hx rfl (D d18_17) rfl ?_
  exact kt
 by_cases hc22 : (oL c0) = (42 : Int32)
 ·skip
  refine ownBy (A := s₁.setTop (fr_xol1 m ta 24 (vI 0) [(iV 0)])) (fun t kt => ?_) ?_
  ·refine XS.icmpNo X0.here hx rfl (D d18_19) rfl (teq hc22).2 ?_
   refine XS.iload X0.here hx rfl (D d18_22) rfl ?_
   exact kt
  refine ownRet X0 Bd.notSynchronized (v := some (iV 0)) (fun h => by rw [Bd.returns] at h; cases h) ?_ (oLe rfl) (oLe rfl) (fun fs hr => retI X0 hx Bd.returns (D d18_24) hr)
  show (Q_xol1 Z ta kb c0 h0 n0) (some (iV 0)) s₁.heap _
  rw [e0]
  exact ⟨_, rfl, N0, rfl, Or.inr ⟨by decide, (own_of_lo hc0 hnl0 hc22)⟩⟩
 ·skip
  refine ownBy (A := s₁.setTop (fr_xol1 m ta 32 (vI 1) [(.int (-1 : Int32))])) (fun t kt => ?_) ?_
  ·refine XS.icmpYes X0.here hx rfl (pc0 := 19) (pc' := 25) rfl (D d18_19) rfl (feq hc22).2 (by decide) (by decide) ?_
   refine XS.iinc X0.here hx rfl (D d18_25) rfl (l' := #[vR ta, vI 42, vI 0, vI 1, vI 42, vI 1]) rfl ?_
   refine XS.goto X0.here hx rfl (pc0 := 28) (pc' := 7) rfl (D d18_28) (by decide) (by decide) ?_
   refine XS.iload X0.here hx rfl (D d18_7) rfl ?_
   show Steps p.tables e below (s₁.setTop (fr_xol1 m ta 9 (vI 1) [(iV 1)])) t
   refine XS.iloadN X0.here hx rfl (D d18_9) rfl ?_
   refine XS.icmpYes X0.here hx rfl (pc0 := 10) (pc' := 31) rfl (D d18_10) rfl (flt ((by decide) : ¬ ((1 : Int32) < (1 : Int32)))).2.1 (by decide) (by decide) ?_
   refine XS.iconst X0.here hx rfl (D d18_31) ?_
   exact kt
  refine ownRet X0 Bd.notSynchronized (v := some (.int (-1 : Int32))) (fun h => by rw [Bd.returns] at h; cases h) ?_ (oLe rfl) (oLe rfl) (fun fs hr => retI X0 hx Bd.returns (D d18_32) hr)
  show (Q_xol1 Z ta kb c0 h0 n0) (some (.int (-1 : Int32))) s₁.heap _
  rw [e0]
  exact ⟨_, rfl, N0, rfl, Or.inl ⟨by decide, (fun q => hc22 (own_lo_of q))⟩⟩
abbrev fr_xuu1 (m : MethodId) (ta : Addr) (pc : Nat) (x4_ : Slot) (st : List Value) : JFrame := mkF m pc #[vR ta, vI 42, vI 0, vI 1, x4_] st
def Q_xuu1 (Z : State) (ta : Addr) (kb : ClassId) (c0 : Int32) (h0 : Heap) (n0 : Nat) (v : Option Value) (h : Heap) (L : List Loc) : Prop := QX (c0 = (42 : Int32)) h0 n0 v h L
theorem ef_xuu1 (m : MethodId) (x0 : Addr) (x1 : Int32) (x2 : Int32) (x3 : Int32)  : entryFrame m #[(.ref x0), (.int x1), (.int x2), (.int x3)] 5 = mkF m 0 #[vR x0, vI x1, vI x2, vI x3, .unset] [] := by first | (simp [entryFrame, mkF, argsToLocals, Value.category]; done) | rfl
set_option maxRecDepth 65536 in
set_option maxHeartbeats 40000000 in
theorem c_xuu1 (l : Launch) (Z : State) (a0 : Array Value) (hw : ∀ d ∈ tables_1, d.before a0 Z = true) (ws : List Jvm.Cond) (ta : Addr) (kb : ClassId) (c0 : Int32) (h0 : Heap) (n0 : Nat) (Z0 : n0 ≤ h0.size) (Ks : Arv Z h0 ta kb .byte (2 : Int32) [(.int (oW c0)), (.int (oH c0))] (iV 0)) (hc0 : ¬ c0 < 0 ∧ ¬ (65535 : Int32) < c0) (SA : Sta Z Z.heap "java/lang/StringUTF16" "$assertionsDisabled" "Z" (iV 1)) (SHI : Sta Z Z.heap "java/lang/StringUTF16" "HI_BYTE_SHIFT" "I" (iV 0)) (SLO : Sta Z Z.heap "java/lang/StringUTF16" "LO_BYTE_SHIFT" "I" (iV 8)) (X00 : Old Z n0 h0) :
  MetFree l yM21 (head1 (Jvm.Cond.code yM21 jdk_52_method_48_code 5 (some .int) :: ws) ({ frames := 1, cells := 0, slots := 0, locals := 13 } : Room)) (fun a U => a = #[(.ref ta), (iV 42), (iV 0), (iV 1)] ∧ Z.Warmed39 U.vm ∧ U.heap = h0) (fun _ _ _ _ _ => True) (fun _ U o U' => ∃ v L, o = .returned v ∧ (Q_xuu1 Z ta kb c0 h0 n0) v U'.heap L ∧ FrameEnd U o U' L ({ frames := 1, cells := 0, slots := 0, locals := 13 } : Room).cells ({ frames := 1, cells := 0, slots := 0, locals := 13 } : Room).slots) := by
 refine MetFree.of_bodySF (plainFor_of_name pn_3) hisR ?_
 intro p e s m args below meth c s₁ Bd hml0 hP hK
 obtain ⟨rfl, hZ, hHp⟩ := hP
 have hx := Bd.exec
 have D := fun {pc : Nat} {r} (h : decode _ pc = r) => hb Bd.bytes h
 have hml : c.maxLocals = 5 := hml0
 have hown : s.vm.findClass "java/lang/StringUTF16" = some m.cls := findClass_of_methodNamed Bd.named
 have hnm := (name_of_methodNamed Bd.named Bd.method).1
 have X0 : Stand p l e ({ frames := 1, cells := 0, slots := 0, locals := 13 } : Room) s m #[(.ref ta), (iV 42), (iV 0), (iV 1)] below meth c s₁ [] 0 0 := Stand.of_body Bd
 have e0 : s₁.heap = h0 := by rw [← hHp, Bd.state]; rfl
 have N0 := Fr.nil n0
 refine ownOut (P := (Q_xuu1 Z ta kb c0 h0 n0)) ?_
 refine ownBy (A := s₁.setTop (mkF m 0 #[vR ta, vI 42, vI 0, vI 1, .unset] [])) (fun t k => castTop (ef_xuu1 m ta (42 : Int32) (0 : Int32) (1 : Int32)) k) ?_
 refine ownBy (A := s₁.setTop (fr_xuu1 m ta 12 (vI 0) [(iV 0), (.ref ta)])) (fun t kt => ?_) ?_
 ·refine XS.iloadN X0.here hx rfl (D d30_0) rfl ?_
  refine XS.istore X0.here hx rfl (D d30_1) rfl (l' := #[vR ta, vI 42, vI 0, vI 1, vI 0]) rfl ?_
  refine XS.iload X0.here hx rfl (D d30_3) rfl ?_
  refine XS.iloadN X0.here hx rfl (D d30_5) rfl ?_
  show Steps p.tables e below (s₁.setTop (fr_xuu1 m ta 6 (vI 0) [(iV 1), (iV 0)])) t
  refine XS.icmpNo X0.here hx rfl (D d30_6) rfl (tlt ((by decide) : (0 : Int32) < (1 : Int32))).2.1 ?_
  refine XS.aloadN X0.here hx rfl (D d30_9) rfl rfl ?_
  refine XS.iload X0.here hx rfl (D d30_10) rfl ?_
  exact kt
 obtain ⟨vv21, _, ⟨T21, L21, k21, n21⟩, -, X21, ⟨Lc21, hQ21, l21, y21, z21⟩, st21⟩ := Jvm.LawKit.callS X0 hx (y := yM5) hown (mvT hZ (Wd101 hw)) (mvT hZ (Wd102 hw)) (mvT hZ (Wd74 hw)) (mvT hZ (Wd103 hw)) (by decide) (backOf (W := 0) (c_getc l Z a0 hw [] ta kb (2 : Int32) [(.int (oW c0)), (.int (oH c0))] (0 : Int32) c0 0 h0 n0 Z0 Ks ⟨by decide +kernel, by decide +kernel⟩ ⟨by decide +kernel, by decide +kernel⟩ (by decide +kernel) (by decide +kernel) rfl rfl hc0 SA SHI SLO X00) hZ (Wd103 hw) (Wd74 hw) (by decide) (by decide)) (g := (fr_xuu1 m ta 12 (vI 0) [(iV 0), (.ref ta)])) rfl (by rw [hml]; rfl) (argsL := [(.ref ta), (iV 0)]) (rest := []) (lenOf pd_9 rfl) rfl (by show 2 * 0 + _ ≤ _; exact Nat.le_of_eq rfl) (D d30_12) (fun _ _ => ⟨rfl, e0, (by decide : 0 + 0 ≤ _), (by decide : 0 + 0 ≤ _)⟩)
 dsimp only [Pt.U, Pt.locs, Pt.cells, Pt.slots] at X21 l21 y21 z21 st21 hQ21
 subst l21 y21 z21
 obtain ⟨rfl, Nq21, Eq21⟩ := hQ21
 have N22 := Fr.app N0 Nq21
 obtain ⟨Lh23, Xh23, Nh23⟩ := oHd 0 0 X21 N22 rfl rfl
 refine ownBy st21 ?_
 clear st21
 show ownG p.tables e below _ (T21.setTop (fr_xuu1 m ta 15 (vI 0) [(.int c0)]))
 refine ownBy (A := T21.setTop (fr_xuu1 m ta 16 (vI 0) [(iV 42), (.int c0)])) (fun t kt => ?_) ?_
 ·refine XS.iloadN Xh23.here hx rfl (D d30_15) rfl ?_
  exact kt
 by_cases hc24 : c0 = (42 : Int32)
 ·skip
  refine ownBy (A := T21.setTop (fr_xuu1 m ta 21 (vI 0) [(iV 0)])) (fun t kt => ?_) ?_
  ·refine XS.icmpNo Xh23.here hx rfl (D d30_16) rfl (teq hc24).2 ?_
   refine XS.iload Xh23.here hx rfl (D d30_19) rfl ?_
   exact kt
  refine ownRet Xh23 Bd.notSynchronized (v := some (iV 0)) (fun h => by rw [Bd.returns] at h; cases h) ?_ (oLe rfl) (oLe rfl) (fun fs hr => retI Xh23 hx Bd.returns (D d30_21) hr)
  show (Q_xuu1 Z ta kb c0 h0 n0) (some (iV 0)) T21.heap _
  rw [Eq21]
  exact ⟨_, rfl, Nh23, rfl, Or.inr ⟨by decide, hc24⟩⟩
 ·skip
  refine ownBy (A := T21.setTop (fr_xuu1 m ta 29 (vI 1) [(.int (-1 : Int32))])) (fun t kt => ?_) ?_
  ·refine XS.icmpYes Xh23.here hx rfl (pc0 := 16) (pc' := 22) rfl (D d30_16) rfl (feq hc24).2 (by decide) (by decide) ?_
   refine XS.iinc Xh23.here hx rfl (D d30_22) rfl (l' := #[vR ta, vI 42, vI 0, vI 1, vI 1]) rfl ?_
   refine XS.goto Xh23.here hx rfl (pc0 := 25) (pc' := 3) rfl (D d30_25) (by decide) (by decide) ?_
   refine XS.iload Xh23.here hx rfl (D d30_3) rfl ?_
   show Steps p.tables e below (T21.setTop (fr_xuu1 m ta 5 (vI 1) [(iV 1)])) t
   refine XS.iloadN Xh23.here hx rfl (D d30_5) rfl ?_
   refine XS.icmpYes Xh23.here hx rfl (pc0 := 6) (pc' := 28) rfl (D d30_6) rfl (flt ((by decide) : ¬ ((1 : Int32) < (1 : Int32)))).2.1 (by decide) (by decide) ?_
   refine XS.iconst Xh23.here hx rfl (D d30_28) ?_
   exact kt
  refine ownRet Xh23 Bd.notSynchronized (v := some (.int (-1 : Int32))) (fun h => by rw [Bd.returns] at h; cases h) ?_ (oLe rfl) (oLe rfl) (fun fs hr => retI Xh23 hx Bd.returns (D d30_29) hr)
  show (Q_xuu1 Z ta kb c0 h0 n0) (some (.int (-1 : Int32))) T21.heap _
  rw [Eq21]
  exact ⟨_, rfl, Nh23, rfl, Or.inl ⟨by decide, hc24⟩⟩
theorem hb1 (l : Launch) (Z : State) (a0 : Array Value) (hw : ∀ d ∈ tables_1, d.before a0 Z = true) (x : Addr) (ta : Addr) (kb : ClassId) (cd : Int32) (z : Int32) (vs : List Value) (c0 : Int32) (G1 : Int32) (G3 : Value) (hrel : ((cd = (0 : Int32) ∧ z = (1 : Int32) ∧ vs = [(.int (oL c0))] ∧ ¬ ((255 : Int32) < c0)) ∨ (cd = (1 : Int32) ∧ z = (2 : Int32) ∧ vs = [(.int (oW c0)), (.int (oH c0))] ∧ ((255 : Int32) < c0)))) (hc0 : ¬ c0 < 0 ∧ ¬ (65535 : Int32) < c0) (O2 : Sta Z Z.heap "java/lang/String" "COMPACT_STRINGS" "Z" (.int G1)) (P5 : ¬ (G1 = (0 : Int32))) (SA : Sta Z Z.heap "java/lang/StringUTF16" "$assertionsDisabled" "Z" (iV 1)) (SHI : Sta Z Z.heap "java/lang/StringUTF16" "HI_BYTE_SHIFT" "I" (iV 0)) (SLO : Sta Z Z.heap "java/lang/StringUTF16" "LO_BYTE_SHIFT" "I" (iV 8)) (O4 : Sta Z Z.heap "jdk/internal/util/Preconditions" "SIOOBE_FORMATTER" "Ljava/util/function/BiFunction;" G3) (rG3 : G3.isRef = true) : ∀ (H : Heap) (n1 : Nat), n1 ≤ H.size → Exa Z H x "java/lang/String" → Fld Z H x "java/lang/String" "value" "[B" (.ref ta) → Fld Z H x "java/lang/String" "coder" "B" (.int cd) → Arv Z H ta kb .byte z vs (iV 0) → Old Z n1 H → MetFree l yM25 (head1 (Jvm.Cond.code yM25 jdk_42_method_80_code 3 (some .int) :: []) ({ frames := 5, cells := 0, slots := 0, locals := 73 } : Room)) (fun a U => a = #[(.ref x), (iV 42), (iV 0)] ∧ Z.Warmed39 U.vm ∧ U.heap = H) (fun _ _ _ _ _ => True) (fun _ U o U' => ∃ v L, o = .returned v ∧ (QX (c0 = (42 : Int32)) H n1) v U'.heap L ∧ FrameEnd U o U' L ({ frames := 5, cells := 0, slots := 0, locals := 73 } : Room).cells ({ frames := 5, cells := 0, slots := 0, locals := 73 } : Room).slots) := by
 rcases hrel with ⟨rfl, rfl, rfl, hnl0⟩ | ⟨rfl, rfl, rfl, hgt⟩
 ·exact fun H n1 zz E V C K X => c_xbl l Z a0 hw [] x ta kb (1 : Int32) [(.int (oL c0))] (c0 = (42 : Int32)) G1 H n1 zz E V C K (by decide +kernel) (by decide) (fun H n1 zz K => c_xol1 l Z a0 hw [] ta kb c0 H n1 zz K hc0 hnl0) O2 P5 X
 ·exact fun H n1 zz E V C K X => c_xbu l Z a0 hw [] x ta kb (2 : Int32) (1 : Int32) [(.int (oW c0)), (.int (oH c0))] (c0 = (42 : Int32)) G1 G3 H n1 zz E V C K (by decide +kernel) (by decide) (by decide) (fun H n1 zz K X => c_xuu1 l Z a0 hw [] ta kb c0 H n1 zz K hc0 SA SHI SLO X) O2 P5 O4 rG3 X
abbrev fr_xol2 (m : MethodId) (ta : Addr) (pc : Nat) (x5_ : Slot) (st : List Value) : JFrame := mkF m pc #[vR ta, vI 42, vI 0, vI 2, vI 42, x5_] st
def Q_xol2 (Z : State) (ta : Addr) (kb : ClassId) (c0 : Int32) (c1 : Int32) (h0 : Heap) (n0 : Nat) (v : Option Value) (h : Heap) (L : List Loc) : Prop := QX (c0 = (42 : Int32) ∨ c1 = (42 : Int32)) h0 n0 v h L
theorem ef_xol2 (m : MethodId) (x0 : Addr) (x1 : Int32) (x2 : Int32) (x3 : Int32)  : entryFrame m #[(.ref x0), (.int x1), (.int x2), (.int x3)] 6 = mkF m 0 #[vR x0, vI x1, vI x2, vI x3, .unset, .unset] [] := by first | (simp [entryFrame, mkF, argsToLocals, Value.category]; done) | rfl
set_option maxRecDepth 65536 in
set_option maxHeartbeats 40000000 in
theorem c_xol2 (l : Launch) (Z : State) (a0 : Array Value) (hw : ∀ d ∈ tables_1, d.before a0 Z = true) (ws : List Jvm.Cond) (ta : Addr) (kb : ClassId) (c0 : Int32) (c1 : Int32) (h0 : Heap) (n0 : Nat) (Z0 : n0 ≤ h0.size) (Ks : Arv Z h0 ta kb .byte (2 : Int32) [(.int (oL c0)), (.int (oL c1))] (iV 0)) (hc0 : ¬ c0 < 0 ∧ ¬ (65535 : Int32) < c0) (hc1 : ¬ c1 < 0 ∧ ¬ (65535 : Int32) < c1) (hnl0 : ¬ ((255 : Int32) < c0)) (hnl1 : ¬ ((255 : Int32) < c1)) :
  MetFree l yM20 (head1 (Jvm.Cond.code yM20 jdk_43_method_23_code 6 (some .int) :: ws) ({ frames := 0, cells := 0, slots := 0, locals := 0 } : Room)) (fun a U => a = #[(.ref ta), (iV 42), (iV 0), (iV 2)] ∧ Z.Warmed39 U.vm ∧ U.heap = h0) (fun _ _ _ _ _ => True) (fun _ U o U' => ∃ v L, o = .returned v ∧ (Q_xol2 Z ta kb c0 c1 h0 n0) v U'.heap L ∧ FrameEnd U o U' L ({ frames := 0, cells := 0, slots := 0, locals := 0 } : Room).cells ({ frames := 0, cells := 0, slots := 0, locals := 0 } : Room).slots) := by
 refine MetFree.of_bodySF (plainFor_of_name pn_11) hisR ?_
 intro p e s m args below meth c s₁ Bd hml0 hP hK
 obtain ⟨rfl, hZ, hHp⟩ := hP
 have hx := Bd.exec
 have D := fun {pc : Nat} {r} (h : decode _ pc = r) => hb Bd.bytes h
 have hml : c.maxLocals = 6 := hml0
 have hown : s.vm.findClass "java/lang/StringLatin1" = some m.cls := findClass_of_methodNamed Bd.named
 have hnm := (name_of_methodNamed Bd.named Bd.method).1
 have X0 : Stand p l e ({ frames := 0, cells := 0, slots := 0, locals := 0 } : Room) s m #[(.ref ta), (iV 42), (iV 0), (iV 2)] below meth c s₁ [] 0 0 := Stand.of_body Bd
 have e0 : s₁.heap = h0 := by rw [← hHp, Bd.state]; rfl
 have N0 := Fr.nil n0
 refine ownOut (P := (Q_xol2 Z ta kb c0 c1 h0 n0)) ?_
 refine ownBy (A := s₁.setTop (mkF m 0 #[vR ta, vI 42, vI 0, vI 2, .unset, .unset] [])) (fun t k => castTop (ef_xol2 m ta (42 : Int32) (0 : Int32) (2 : Int32)) k) ?_
 refine ownBy (A := s₁.setTop (fr_xol2 m ta 16 (vI 0) [(iV 0), (.ref ta)])) (fun t kt => ?_) ?_
 ·refine XS.iloadN X0.here hx rfl (D d18_0) rfl ?_
  refine XS.i2b X0.here hx rfl (D d18_1) rfl ?_
  refine XS.istore X0.here hx rfl (D d18_2) rfl (l' := #[vR ta, vI 42, vI 0, vI 2, vI 42, .unset]) rfl ?_
  refine XS.iloadN X0.here hx rfl (D d18_4) rfl ?_
  show Steps p.tables e below (s₁.setTop (fr_xol2 m ta 5 .unset [(iV 0)])) t
  refine XS.istore X0.here hx rfl (D d18_5) rfl (l' := #[vR ta, vI 42, vI 0, vI 2, vI 42, vI 0]) rfl ?_
  refine XS.iload X0.here hx rfl (D d18_7) rfl ?_
  refine XS.iloadN X0.here hx rfl (D d18_9) rfl ?_
  refine XS.icmpNo X0.here hx rfl (D d18_10) rfl (tlt ((by decide) : (0 : Int32) < (2 : Int32))).2.1 ?_
  show Steps p.tables e below (s₁.setTop (fr_xol2 m ta 13 (vI 0) [])) t
  refine XS.aloadN X0.here hx rfl (D d18_13) rfl rfl ?_
  refine XS.iload X0.here hx rfl (D d18_14) rfl ?_
  exact kt
 obtain ⟨cl21, Ar21, q21, S21, N21, H21, G21⟩ := id Ks
 have hin21 : ¬ ((0 : Int32) < 0 ∨ cl21.slots.size ≤ ((0 : Int32)).toNatClampNeg) := inb_of S21 ⟨by decide, by decide⟩
 have hat21 : cl21.slots[((0 : Int32)).toNatClampNeg]? = some (.int (oL c0)) := H21.at hin21 rfl
 have st21 := X0.baloadBytes hx (j := (0 : Int32)) (v := (.int (oL c0))) (by rw [e0]; exact Ar21.1) (State.isArrayOf_alike hZ.alike Ar21.2.1) Ar21.2.2 hin21 hat21 (g := (fr_xol2 m ta 16 (vI 0) [(iV 0), (.ref ta)])) rfl rfl (D d18_16)
 refine ownBy st21 ?_
 show ownG p.tables e below _ (s₁.setTop (fr_xol2 m ta 17 (vI 0) [(.int (oL c0))]))
 refine ownBy (A := s₁.setTop (fr_xol2 m ta 19 (vI 0) [(iV 42), (.int (oL c0))])) (fun t kt => ?_) ?_
 ·refine XS.iload X0.here hx rfl (D d18_17) rfl ?_
  exact kt
 by_cases hc22 : (oL c0) = (42 : Int32)
 ·skip
  refine ownBy (A := s₁.setTop (fr_xol2 m ta 24 (vI 0) [(iV 0)])) (fun t kt => ?_) ?_
  ·refine XS.icmpNo X0.here hx rfl (D d18_19) rfl (teq hc22).2 ?_
   refine XS.iload X0.here hx rfl (D d18_22) rfl ?_
   exact kt
  refine ownRet X0 Bd.notSynchronized (v := some (iV 0)) (fun h => by rw [Bd.returns] at h; cases h) ?_ (oLe rfl) (oLe rfl) (fun fs hr => retI X0 hx Bd.returns (D d18_24) hr)
  show (Q_xol2 Z ta kb c0 c1 h0 n0) (some (iV 0)) s₁.heap _
  rw [e0]
  exact ⟨_, rfl, N0, rfl, Or.inr ⟨by decide, Or.inl (own_of_lo hc0 hnl0 hc22)⟩⟩
 ·skip
  refine ownBy (A := s₁.setTop (fr_xol2 m ta 16 (vI 1) [(iV 1), (.ref ta)])) (fun t kt => ?_) ?_
  ·refine XS.icmpYes X0.here hx rfl (pc0 := 19) (pc' := 25) rfl (D d18_19) rfl (feq hc22).2 (by decide) (by decide) ?_
   refine XS.iinc X0.here hx rfl (D d18_25) rfl (l' := #[vR ta, vI 42, vI 0, vI 2, vI 42, vI 1]) rfl ?_
   refine XS.goto X0.here hx rfl (pc0 := 28) (pc' := 7) rfl (D d18_28) (by decide) (by decide) ?_
   refine XS.iload X0.here hx rfl (D d18_7) rfl ?_
   show Steps p.tables e below (s₁.setTop (fr_xol2 m ta 9 (vI 1) [(iV 1)])) t
   refine XS.iloadN X0.here hx rfl (D d18_9) rfl ?_
   refine XS.icmpNo X0.here hx rfl (D d18_10) rfl (tlt ((by decide) : (1 : Int32) < (2 : Int32))).2.1 ?_
   refine XS.aloadN X0.here hx rfl (D d18_13) rfl rfl ?_
   refine XS.iload X0.here hx rfl (D d18_14) rfl ?_
   exact kt
  obtain ⟨cl23, Ar23, q23, S23, N23, H23, G23⟩ := id Ks
  have hin23 : ¬ ((1 : Int32) < 0 ∨ cl23.slots.size ≤ ((1 : Int32)).toNatClampNeg) := inb_of S23 ⟨by decide, by decide⟩
  have hat23 : cl23.slots[((1 : Int32)).toNatClampNeg]? = some (.int (oL c1)) := H23.at hin23 rfl
  have st23 := X0.baloadBytes hx (j := (1 : Int32)) (v := (.int (oL c1))) (by rw [e0]; exact Ar23.1) (State.isArrayOf_alike hZ.alike Ar23.2.1) Ar23.2.2 hin23 hat23 (g := (fr_xol2 m ta 16 (vI 1) [(iV 1), (.ref ta)])) rfl rfl (D d18_16)
  refine ownBy st23 ?_
  show ownG p.tables e below _ (s₁.setTop (fr_xol2 m ta 17 (vI 1) [(.int (oL c1))]))
  refine ownBy (A := s₁.setTop (fr_xol2 m ta 19 (vI 1) [(iV 42), (.int (oL c1))])) (fun t kt => ?_) ?_
  ·refine XS.iload X0.here hx rfl (D d18_17) rfl ?_
   exact kt
  by_cases hc24 : (oL c1) = (42 : Int32)
  ·skip
   refine ownBy (A := s₁.setTop (fr_xol2 m ta 24 (vI 1) [(iV 1)])) (fun t kt => ?_) ?_
   ·refine XS.icmpNo X0.here hx rfl (D d18_19) rfl (teq hc24).2 ?_
    refine XS.iload X0.here hx rfl (D d18_22) rfl ?_
    exact kt
   refine ownRet X0 Bd.notSynchronized (v := some (iV 1)) (fun h => by rw [Bd.returns] at h; cases h) ?_ (oLe rfl) (oLe rfl) (fun fs hr => retI X0 hx Bd.returns (D d18_24) hr)
   show (Q_xol2 Z ta kb c0 c1 h0 n0) (some (iV 1)) s₁.heap _
   rw [e0]
   exact ⟨_, rfl, N0, rfl, Or.inr ⟨by decide, Or.inr ((own_of_lo hc1 hnl1 hc24))⟩⟩
  ·skip
   refine ownBy (A := s₁.setTop (fr_xol2 m ta 32 (vI 2) [(.int (-1 : Int32))])) (fun t kt => ?_) ?_
   ·refine XS.icmpYes X0.here hx rfl (pc0 := 19) (pc' := 25) rfl (D d18_19) rfl (feq hc24).2 (by decide) (by decide) ?_
    refine XS.iinc X0.here hx rfl (D d18_25) rfl (l' := #[vR ta, vI 42, vI 0, vI 2, vI 42, vI 2]) rfl ?_
    refine XS.goto X0.here hx rfl (pc0 := 28) (pc' := 7) rfl (D d18_28) (by decide) (by decide) ?_
    refine XS.iload X0.here hx rfl (D d18_7) rfl ?_
    show Steps p.tables e below (s₁.setTop (fr_xol2 m ta 9 (vI 2) [(iV 2)])) t
    refine XS.iloadN X0.here hx rfl (D d18_9) rfl ?_
    refine XS.icmpYes X0.here hx rfl (pc0 := 10) (pc' := 31) rfl (D d18_10) rfl (flt ((by decide) : ¬ ((2 : Int32) < (2 : Int32)))).2.1 (by decide) (by decide) ?_
    refine XS.iconst X0.here hx rfl (D d18_31) ?_
    exact kt
   refine ownRet X0 Bd.notSynchronized (v := some (.int (-1 : Int32))) (fun h => by rw [Bd.returns] at h; cases h) ?_ (oLe rfl) (oLe rfl) (fun fs hr => retI X0 hx Bd.returns (D d18_32) hr)
   show (Q_xol2 Z ta kb c0 c1 h0 n0) (some (.int (-1 : Int32))) s₁.heap _
   rw [e0]
   exact ⟨_, rfl, N0, rfl, Or.inl ⟨by decide, (fun q => q.elim (fun q => hc22 (own_lo_of q)) (fun q => hc24 (own_lo_of q)))⟩⟩
abbrev fr_xuu2 (m : MethodId) (ta : Addr) (pc : Nat) (x4_ : Slot) (st : List Value) : JFrame := mkF m pc #[vR ta, vI 42, vI 0, vI 2, x4_] st
def Q_xuu2 (Z : State) (ta : Addr) (kb : ClassId) (c0 : Int32) (c1 : Int32) (h0 : Heap) (n0 : Nat) (v : Option Value) (h : Heap) (L : List Loc) : Prop := QX (c0 = (42 : Int32) ∨ c1 = (42 : Int32)) h0 n0 v h L
theorem ef_xuu2 (m : MethodId) (x0 : Addr) (x1 : Int32) (x2 : Int32) (x3 : Int32)  : entryFrame m #[(.ref x0), (.int x1), (.int x2), (.int x3)] 5 = mkF m 0 #[vR x0, vI x1, vI x2, vI x3, .unset] [] := by first | (simp [entryFrame, mkF, argsToLocals, Value.category]; done) | rfl
set_option maxRecDepth 65536 in
set_option maxHeartbeats 40000000 in
theorem c_xuu2 (l : Launch) (Z : State) (a0 : Array Value) (hw : ∀ d ∈ tables_1, d.before a0 Z = true) (ws : List Jvm.Cond) (ta : Addr) (kb : ClassId) (c0 : Int32) (c1 : Int32) (h0 : Heap) (n0 : Nat) (Z0 : n0 ≤ h0.size) (Ks : Arv Z h0 ta kb .byte (4 : Int32) [(.int (oW c0)), (.int (oH c0)), (.int (oW c1)), (.int (oH c1))] (iV 0)) (hc0 : ¬ c0 < 0 ∧ ¬ (65535 : Int32) < c0) (hc1 : ¬ c1 < 0 ∧ ¬ (65535 : Int32) < c1) (SA : Sta Z Z.heap "java/lang/StringUTF16" "$assertionsDisabled" "Z" (iV 1)) (SHI : Sta Z Z.heap "java/lang/StringUTF16" "HI_BYTE_SHIFT" "I" (iV 0)) (SLO : Sta Z Z.heap "java/lang/StringUTF16" "LO_BYTE_SHIFT" "I" (iV 8)) (X00 : Old Z n0 h0) :
  MetFree l yM21 (head1 (Jvm.Cond.code yM21 jdk_52_method_48_code 5 (some .int) :: ws) ({ frames := 1, cells := 0, slots := 0, locals := 13 } : Room)) (fun a U => a = #[(.ref ta), (iV 42), (iV 0), (iV 2)] ∧ Z.Warmed39 U.vm ∧ U.heap = h0) (fun _ _ _ _ _ => True) (fun _ U o U' => ∃ v L, o = .returned v ∧ (Q_xuu2 Z ta kb c0 c1 h0 n0) v U'.heap L ∧ FrameEnd U o U' L ({ frames := 1, cells := 0, slots := 0, locals := 13 } : Room).cells ({ frames := 1, cells := 0, slots := 0, locals := 13 } : Room).slots) := by
 refine MetFree.of_bodySF (plainFor_of_name pn_3) hisR ?_
 intro p e s m args below meth c s₁ Bd hml0 hP hK
 obtain ⟨rfl, hZ, hHp⟩ := hP
 have hx := Bd.exec
 have D := fun {pc : Nat} {r} (h : decode _ pc = r) => hb Bd.bytes h
 have hml : c.maxLocals = 5 := hml0
 have hown : s.vm.findClass "java/lang/StringUTF16" = some m.cls := findClass_of_methodNamed Bd.named
 have hnm := (name_of_methodNamed Bd.named Bd.method).1
 have X0 : Stand p l e ({ frames := 1, cells := 0, slots := 0, locals := 13 } : Room) s m #[(.ref ta), (iV 42), (iV 0), (iV 2)] below meth c s₁ [] 0 0 := Stand.of_body Bd
 have e0 : s₁.heap = h0 := by rw [← hHp, Bd.state]; rfl
 have N0 := Fr.nil n0
 refine ownOut (P := (Q_xuu2 Z ta kb c0 c1 h0 n0)) ?_
 refine ownBy (A := s₁.setTop (mkF m 0 #[vR ta, vI 42, vI 0, vI 2, .unset] [])) (fun t k => castTop (ef_xuu2 m ta (42 : Int32) (0 : Int32) (2 : Int32)) k) ?_
 refine ownBy (A := s₁.setTop (fr_xuu2 m ta 12 (vI 0) [(iV 0), (.ref ta)])) (fun t kt => ?_) ?_
 ·refine XS.iloadN X0.here hx rfl (D d30_0) rfl ?_
  refine XS.istore X0.here hx rfl (D d30_1) rfl (l' := #[vR ta, vI 42, vI 0, vI 2, vI 0]) rfl ?_
  refine XS.iload X0.here hx rfl (D d30_3) rfl ?_
  refine XS.iloadN X0.here hx rfl (D d30_5) rfl ?_
  show Steps p.tables e below (s₁.setTop (fr_xuu2 m ta 6 (vI 0) [(iV 2), (iV 0)])) t
  refine XS.icmpNo X0.here hx rfl (D d30_6) rfl (tlt ((by decide) : (0 : Int32) < (2 : Int32))).2.1 ?_
  refine XS.aloadN X0.here hx rfl (D d30_9) rfl rfl ?_
  refine XS.iload X0.here hx rfl (D d30_10) rfl ?_
  exact kt
 obtain ⟨vv21, _, ⟨T21, L21, k21, n21⟩, -, X21, ⟨Lc21, hQ21, l21, y21, z21⟩, st21⟩ := Jvm.LawKit.callS X0 hx (y := yM5) hown (mvT hZ (Wd101 hw)) (mvT hZ (Wd102 hw)) (mvT hZ (Wd74 hw)) (mvT hZ (Wd103 hw)) (by decide) (backOf (W := 0) (c_getc l Z a0 hw [] ta kb (4 : Int32) [(.int (oW c0)), (.int (oH c0)), (.int (oW c1)), (.int (oH c1))] (0 : Int32) c0 0 h0 n0 Z0 Ks ⟨by decide +kernel, by decide +kernel⟩ ⟨by decide +kernel, by decide +kernel⟩ (by decide +kernel) (by decide +kernel) rfl rfl hc0 SA SHI SLO X00) hZ (Wd103 hw) (Wd74 hw) (by decide) (by decide)) (g := (fr_xuu2 m ta 12 (vI 0) [(iV 0), (.ref ta)])) rfl (by rw [hml]; rfl) (argsL := [(.ref ta), (iV 0)]) (rest := []) (lenOf pd_9 rfl) rfl (by show 2 * 0 + _ ≤ _; exact Nat.le_of_eq rfl) (D d30_12) (fun _ _ => ⟨rfl, e0, (by decide : 0 + 0 ≤ _), (by decide : 0 + 0 ≤ _)⟩)
 dsimp only [Pt.U, Pt.locs, Pt.cells, Pt.slots] at X21 l21 y21 z21 st21 hQ21
 subst l21 y21 z21
 obtain ⟨rfl, Nq21, Eq21⟩ := hQ21
 have N22 := Fr.app N0 Nq21
 obtain ⟨Lh23, Xh23, Nh23⟩ := oHd 0 0 X21 N22 rfl rfl
 refine ownBy st21 ?_
 clear st21
 show ownG p.tables e below _ (T21.setTop (fr_xuu2 m ta 15 (vI 0) [(.int c0)]))
 refine ownBy (A := T21.setTop (fr_xuu2 m ta 16 (vI 0) [(iV 42), (.int c0)])) (fun t kt => ?_) ?_
 ·refine XS.iloadN Xh23.here hx rfl (D d30_15) rfl ?_
  exact kt
 by_cases hc24 : c0 = (42 : Int32)
 ·skip
  refine ownBy (A := T21.setTop (fr_xuu2 m ta 21 (vI 0) [(iV 0)])) (fun t kt => ?_) ?_
  ·refine XS.icmpNo Xh23.here hx rfl (D d30_16) rfl (teq hc24).2 ?_
   refine XS.iload Xh23.here hx rfl (D d30_19) rfl ?_
   exact kt
  refine ownRet Xh23 Bd.notSynchronized (v := some (iV 0)) (fun h => by rw [Bd.returns] at h; cases h) ?_ (oLe rfl) (oLe rfl) (fun fs hr => retI Xh23 hx Bd.returns (D d30_21) hr)
  show (Q_xuu2 Z ta kb c0 c1 h0 n0) (some (iV 0)) T21.heap _
  rw [Eq21]
  exact ⟨_, rfl, Nh23, rfl, Or.inr ⟨by decide, Or.inl hc24⟩⟩
 ·skip
  refine ownBy (A := T21.setTop (fr_xuu2 m ta 12 (vI 1) [(iV 1), (.ref ta)])) (fun t kt => ?_) ?_
  ·refine XS.icmpYes Xh23.here hx rfl (pc0 := 16) (pc' := 22) rfl (D d30_16) rfl (feq hc24).2 (by decide) (by decide) ?_
   refine XS.iinc Xh23.here hx rfl (D d30_22) rfl (l' := #[vR ta, vI 42, vI 0, vI 2, vI 1]) rfl ?_
   refine XS.goto Xh23.here hx rfl (pc0 := 25) (pc' := 3) rfl (D d30_25) (by decide) (by decide) ?_
   refine XS.iload Xh23.here hx rfl (D d30_3) rfl ?_
   show Steps p.tables e below (T21.setTop (fr_xuu2 m ta 5 (vI 1) [(iV 1)])) t
   refine XS.iloadN Xh23.here hx rfl (D d30_5) rfl ?_
   refine XS.icmpNo Xh23.here hx rfl (D d30_6) rfl (tlt ((by decide) : (1 : Int32) < (2 : Int32))).2.1 ?_
   refine XS.aloadN Xh23.here hx rfl (D d30_9) rfl rfl ?_
   refine XS.iload Xh23.here hx rfl (D d30_10) rfl ?_
   exact kt
  obtain ⟨vv25, _, ⟨T25, L25, k25, n25⟩, -, X25, ⟨Lc25, hQ25, l25, y25, z25⟩, st25⟩ := Jvm.LawKit.callS Xh23 hx (y := yM5) hown (mvT hZ (Wd101 hw)) (mvT hZ (Wd102 hw)) (mvT hZ (Wd74 hw)) (mvT hZ (Wd103 hw)) (by decide) (backOf (W := 0) (c_getc l Z a0 hw [] ta kb (4 : Int32) [(.int (oW c0)), (.int (oH c0)), (.int (oW c1)), (.int (oH c1))] (1 : Int32) c1 2 h0 n0 Z0 Ks ⟨by decide +kernel, by decide +kernel⟩ ⟨by decide +kernel, by decide +kernel⟩ (by decide +kernel) (by decide +kernel) rfl rfl hc1 SA SHI SLO X00) hZ (Wd103 hw) (Wd74 hw) (by decide) (by decide)) (g := (fr_xuu2 m ta 12 (vI 1) [(iV 1), (.ref ta)])) rfl (by rw [hml]; rfl) (argsL := [(.ref ta), (iV 1)]) (rest := []) (lenOf pd_9 rfl) rfl (by show 2 * 0 + _ ≤ _; exact Nat.le_of_eq rfl) (D d30_12) (fun _ _ => ⟨rfl, Eq21, (by decide : 0 + 0 ≤ _), (by decide : 0 + 0 ≤ _)⟩)
  dsimp only [Pt.U, Pt.locs, Pt.cells, Pt.slots] at X25 l25 y25 z25 st25 hQ25
  subst l25 y25 z25
  obtain ⟨rfl, Nq25, Eq25⟩ := hQ25
  have N26 := Fr.app Nh23 Nq25
  obtain ⟨Lh27, Xh27, Nh27⟩ := oHd 0 0 X25 N26 rfl rfl
  refine ownBy st25 ?_
  clear st25
  show ownG p.tables e below _ (T25.setTop (fr_xuu2 m ta 15 (vI 1) [(.int c1)]))
  refine ownBy (A := T25.setTop (fr_xuu2 m ta 16 (vI 1) [(iV 42), (.int c1)])) (fun t kt => ?_) ?_
  ·refine XS.iloadN Xh27.here hx rfl (D d30_15) rfl ?_
   exact kt
  by_cases hc28 : c1 = (42 : Int32)
  ·skip
   refine ownBy (A := T25.setTop (fr_xuu2 m ta 21 (vI 1) [(iV 1)])) (fun t kt => ?_) ?_
   ·refine XS.icmpNo Xh27.here hx rfl (D d30_16) rfl (teq hc28).2 ?_
    refine XS.iload Xh27.here hx rfl (D d30_19) rfl ?_
    exact kt
   refine ownRet Xh27 Bd.notSynchronized (v := some (iV 1)) (fun h => by rw [Bd.returns] at h; cases h) ?_ (oLe rfl) (oLe rfl) (fun fs hr => retI Xh27 hx Bd.returns (D d30_21) hr)
   show (Q_xuu2 Z ta kb c0 c1 h0 n0) (some (iV 1)) T25.heap _
   rw [Eq25]
   exact ⟨_, rfl, Nh27, rfl, Or.inr ⟨by decide, Or.inr (hc28)⟩⟩
  ·skip
   refine ownBy (A := T25.setTop (fr_xuu2 m ta 29 (vI 2) [(.int (-1 : Int32))])) (fun t kt => ?_) ?_
   ·refine XS.icmpYes Xh27.here hx rfl (pc0 := 16) (pc' := 22) rfl (D d30_16) rfl (feq hc28).2 (by decide) (by decide) ?_
    refine XS.iinc Xh27.here hx rfl (D d30_22) rfl (l' := #[vR ta, vI 42, vI 0, vI 2, vI 2]) rfl ?_
    refine XS.goto Xh27.here hx rfl (pc0 := 25) (pc' := 3) rfl (D d30_25) (by decide) (by decide) ?_
    refine XS.iload Xh27.here hx rfl (D d30_3) rfl ?_
    show Steps p.tables e below (T25.setTop (fr_xuu2 m ta 5 (vI 2) [(iV 2)])) t
    refine XS.iloadN Xh27.here hx rfl (D d30_5) rfl ?_
    refine XS.icmpYes Xh27.here hx rfl (pc0 := 6) (pc' := 28) rfl (D d30_6) rfl (flt ((by decide) : ¬ ((2 : Int32) < (2 : Int32)))).2.1 (by decide) (by decide) ?_
    refine XS.iconst Xh27.here hx rfl (D d30_28) ?_
    exact kt
   refine ownRet Xh27 Bd.notSynchronized (v := some (.int (-1 : Int32))) (fun h => by rw [Bd.returns] at h; cases h) ?_ (oLe rfl) (oLe rfl) (fun fs hr => retI Xh27 hx Bd.returns (D d30_29) hr)
   show (Q_xuu2 Z ta kb c0 c1 h0 n0) (some (.int (-1 : Int32))) T25.heap _
   rw [Eq25]
   exact ⟨_, rfl, Nh27, rfl, Or.inl ⟨by decide, (fun q => q.elim hc24 hc28)⟩⟩
theorem hb2 (l : Launch) (Z : State) (a0 : Array Value) (hw : ∀ d ∈ tables_1, d.before a0 Z = true) (x : Addr) (ta : Addr) (kb : ClassId) (cd : Int32) (z : Int32) (vs : List Value) (c0 : Int32) (c1 : Int32) (G1 : Int32) (G3 : Value) (hrel : ((cd = (0 : Int32) ∧ z = (2 : Int32) ∧ vs = [(.int (oL c0)), (.int (oL c1))] ∧ ¬ ((255 : Int32) < c0) ∧ ¬ ((255 : Int32) < c1)) ∨ (cd = (1 : Int32) ∧ z = (4 : Int32) ∧ vs = [(.int (oW c0)), (.int (oH c0)), (.int (oW c1)), (.int (oH c1))] ∧ ((255 : Int32) < c0 ∨ (255 : Int32) < c1)))) (hc0 : ¬ c0 < 0 ∧ ¬ (65535 : Int32) < c0) (hc1 : ¬ c1 < 0 ∧ ¬ (65535 : Int32) < c1) (O2 : Sta Z Z.heap "java/lang/String" "COMPACT_STRINGS" "Z" (.int G1)) (P5 : ¬ (G1 = (0 : Int32))) (SA : Sta Z Z.heap "java/lang/StringUTF16" "$assertionsDisabled" "Z" (iV 1)) (SHI : Sta Z Z.heap "java/lang/StringUTF16" "HI_BYTE_SHIFT" "I" (iV 0)) (SLO : Sta Z Z.heap "java/lang/StringUTF16" "LO_BYTE_SHIFT" "I" (iV 8)) (O4 : Sta Z Z.heap "jdk/internal/util/Preconditions" "SIOOBE_FORMATTER" "Ljava/util/function/BiFunction;" G3) (rG3 : G3.isRef = true) : ∀ (H : Heap) (n1 : Nat), n1 ≤ H.size → Exa Z H x "java/lang/String" → Fld Z H x "java/lang/String" "value" "[B" (.ref ta) → Fld Z H x "java/lang/String" "coder" "B" (.int cd) → Arv Z H ta kb .byte z vs (iV 0) → Old Z n1 H → MetFree l yM25 (head1 (Jvm.Cond.code yM25 jdk_42_method_80_code 3 (some .int) :: []) ({ frames := 5, cells := 0, slots := 0, locals := 73 } : Room)) (fun a U => a = #[(.ref x), (iV 42), (iV 0)] ∧ Z.Warmed39 U.vm ∧ U.heap = H) (fun _ _ _ _ _ => True) (fun _ U o U' => ∃ v L, o = .returned v ∧ (QX (c0 = (42 : Int32) ∨ c1 = (42 : Int32)) H n1) v U'.heap L ∧ FrameEnd U o U' L ({ frames := 5, cells := 0, slots := 0, locals := 73 } : Room).cells ({ frames := 5, cells := 0, slots := 0, locals := 73 } : Room).slots) := by
 rcases hrel with ⟨rfl, rfl, rfl, hnl0, hnl1⟩ | ⟨rfl, rfl, rfl, hgt⟩
 ·exact fun H n1 zz E V C K X => c_xbl l Z a0 hw [] x ta kb (2 : Int32) [(.int (oL c0)), (.int (oL c1))] (c0 = (42 : Int32) ∨ c1 = (42 : Int32)) G1 H n1 zz E V C K (by decide +kernel) (by decide) (fun H n1 zz K => c_xol2 l Z a0 hw [] ta kb c0 c1 H n1 zz K hc0 hc1 hnl0 hnl1) O2 P5 X
 ·exact fun H n1 zz E V C K X => c_xbu l Z a0 hw [] x ta kb (4 : Int32) (2 : Int32) [(.int (oW c0)), (.int (oH c0)), (.int (oW c1)), (.int (oH c1))] (c0 = (42 : Int32) ∨ c1 = (42 : Int32)) G1 G3 H n1 zz E V C K (by decide +kernel) (by decide) (by decide) (fun H n1 zz K X => c_xuu2 l Z a0 hw [] ta kb c0 c1 H n1 zz K hc0 hc1 SA SHI SLO X) O2 P5 O4 rG3 X
abbrev fr_xol3 (m : MethodId) (ta : Addr) (pc : Nat) (x5_ : Slot) (st : List Value) : JFrame := mkF m pc #[vR ta, vI 42, vI 0, vI 3, vI 42, x5_] st
def Q_xol3 (Z : State) (ta : Addr) (kb : ClassId) (c0 : Int32) (c1 : Int32) (c2 : Int32) (h0 : Heap) (n0 : Nat) (v : Option Value) (h : Heap) (L : List Loc) : Prop := QX (c0 = (42 : Int32) ∨ c1 = (42 : Int32) ∨ c2 = (42 : Int32)) h0 n0 v h L
theorem ef_xol3 (m : MethodId) (x0 : Addr) (x1 : Int32) (x2 : Int32) (x3 : Int32)  : entryFrame m #[(.ref x0), (.int x1), (.int x2), (.int x3)] 6 = mkF m 0 #[vR x0, vI x1, vI x2, vI x3, .unset, .unset] [] := by first | (simp [entryFrame, mkF, argsToLocals, Value.category]; done) | rfl
set_option maxRecDepth 65536 in
set_option maxHeartbeats 40000000 in
theorem c_xol3 (l : Launch) (Z : State) (a0 : Array Value) (hw : ∀ d ∈ tables_1, d.before a0 Z = true) (ws : List Jvm.Cond) (ta : Addr) (kb : ClassId) (c0 : Int32) (c1 : Int32) (c2 : Int32) (h0 : Heap) (n0 : Nat) (Z0 : n0 ≤ h0.size) (Ks : Arv Z h0 ta kb .byte (3 : Int32) [(.int (oL c0)), (.int (oL c1)), (.int (oL c2))] (iV 0)) (hc0 : ¬ c0 < 0 ∧ ¬ (65535 : Int32) < c0) (hc1 : ¬ c1 < 0 ∧ ¬ (65535 : Int32) < c1) (hc2 : ¬ c2 < 0 ∧ ¬ (65535 : Int32) < c2) (hnl0 : ¬ ((255 : Int32) < c0)) (hnl1 : ¬ ((255 : Int32) < c1)) (hnl2 : ¬ ((255 : Int32) < c2)) :
  MetFree l yM20 (head1 (Jvm.Cond.code yM20 jdk_43_method_23_code 6 (some .int) :: ws) ({ frames := 0, cells := 0, slots := 0, locals := 0 } : Room)) (fun a U => a = #[(.ref ta), (iV 42), (iV 0), (iV 3)] ∧ Z.Warmed39 U.vm ∧ U.heap = h0) (fun _ _ _ _ _ => True) (fun _ U o U' => ∃ v L, o = .returned v ∧ (Q_xol3 Z ta kb c0 c1 c2 h0 n0) v U'.heap L ∧ FrameEnd U o U' L ({ frames := 0, cells := 0, slots := 0, locals := 0 } : Room).cells ({ frames := 0, cells := 0, slots := 0, locals := 0 } : Room).slots) := by
 refine MetFree.of_bodySF (plainFor_of_name pn_11) hisR ?_
 intro p e s m args below meth c s₁ Bd hml0 hP hK
 obtain ⟨rfl, hZ, hHp⟩ := hP
 have hx := Bd.exec
 have D := fun {pc : Nat} {r} (h : decode _ pc = r) => hb Bd.bytes h
 have hml : c.maxLocals = 6 := hml0
 have hown : s.vm.findClass "java/lang/StringLatin1" = some m.cls := findClass_of_methodNamed Bd.named
 have hnm := (name_of_methodNamed Bd.named Bd.method).1
 have X0 : Stand p l e ({ frames := 0, cells := 0, slots := 0, locals := 0 } : Room) s m #[(.ref ta), (iV 42), (iV 0), (iV 3)] below meth c s₁ [] 0 0 := Stand.of_body Bd
 have e0 : s₁.heap = h0 := by rw [← hHp, Bd.state]; rfl
 have N0 := Fr.nil n0
 refine ownOut (P := (Q_xol3 Z ta kb c0 c1 c2 h0 n0)) ?_
 refine ownBy (A := s₁.setTop (mkF m 0 #[vR ta, vI 42, vI 0, vI 3, .unset, .unset] [])) (fun t k => castTop (ef_xol3 m ta (42 : Int32) (0 : Int32) (3 : Int32)) k) ?_
 refine ownBy (A := s₁.setTop (fr_xol3 m ta 16 (vI 0) [(iV 0), (.ref ta)])) (fun t kt => ?_) ?_
 ·refine XS.iloadN X0.here hx rfl (D d18_0) rfl ?_
  refine XS.i2b X0.here hx rfl (D d18_1) rfl ?_
  refine XS.istore X0.here hx rfl (D d18_2) rfl (l' := #[vR ta, vI 42, vI 0, vI 3, vI 42, .unset]) rfl ?_
  refine XS.iloadN X0.here hx rfl (D d18_4) rfl ?_
  show Steps p.tables e below (s₁.setTop (fr_xol3 m ta 5 .unset [(iV 0)])) t
  refine XS.istore X0.here hx rfl (D d18_5) rfl (l' := #[vR ta, vI 42, vI 0, vI 3, vI 42, vI 0]) rfl ?_
  refine XS.iload X0.here hx rfl (D d18_7) rfl ?_
  refine XS.iloadN X0.here hx rfl (D d18_9) rfl ?_
  refine XS.icmpNo X0.here hx rfl (D d18_10) rfl (tlt ((by decide) : (0 : Int32) < (3 : Int32))).2.1 ?_
  show Steps p.tables e below (s₁.setTop (fr_xol3 m ta 13 (vI 0) [])) t
  refine XS.aloadN X0.here hx rfl (D d18_13) rfl rfl ?_
  refine XS.iload X0.here hx rfl (D d18_14) rfl ?_
  exact kt
 obtain ⟨cl21, Ar21, q21, S21, N21, H21, G21⟩ := id Ks
 have hin21 : ¬ ((0 : Int32) < 0 ∨ cl21.slots.size ≤ ((0 : Int32)).toNatClampNeg) := inb_of S21 ⟨by decide, by decide⟩
 have hat21 : cl21.slots[((0 : Int32)).toNatClampNeg]? = some (.int (oL c0)) := H21.at hin21 rfl
 have st21 := X0.baloadBytes hx (j := (0 : Int32)) (v := (.int (oL c0))) (by rw [e0]; exact Ar21.1) (State.isArrayOf_alike hZ.alike Ar21.2.1) Ar21.2.2 hin21 hat21 (g := (fr_xol3 m ta 16 (vI 0) [(iV 0), (.ref ta)])) rfl rfl (D d18_16)
 refine ownBy st21 ?_
 show ownG p.tables e below _ (s₁.setTop (fr_xol3 m ta 17 (vI 0) [(.int (oL c0))]))
 refine ownBy (A := s₁.setTop (fr_xol3 m ta 19 (vI 0) [(iV 42), (.int (oL c0))])) (fun t kt => ?_) ?_
 ·refine XS.iload X0.here hx rfl (D d18_17) rfl ?_
  exact kt
 by_cases hc22 : (oL c0) = (42 : Int32)
 ·skip
  refine ownBy (A := s₁.setTop (fr_xol3 m ta 24 (vI 0) [(iV 0)])) (fun t kt => ?_) ?_
  ·refine XS.icmpNo X0.here hx rfl (D d18_19) rfl (teq hc22).2 ?_
   refine XS.iload X0.here hx rfl (D d18_22) rfl ?_
   exact kt
  refine ownRet X0 Bd.notSynchronized (v := some (iV 0)) (fun h => by rw [Bd.returns] at h; cases h) ?_ (oLe rfl) (oLe rfl) (fun fs hr => retI X0 hx Bd.returns (D d18_24) hr)
  show (Q_xol3 Z ta kb c0 c1 c2 h0 n0) (some (iV 0)) s₁.heap _
  rw [e0]
  exact ⟨_, rfl, N0, rfl, Or.inr ⟨by decide, Or.inl (own_of_lo hc0 hnl0 hc22)⟩⟩
 ·skip
  refine ownBy (A := s₁.setTop (fr_xol3 m ta 16 (vI 1) [(iV 1), (.ref ta)])) (fun t kt => ?_) ?_
  ·refine XS.icmpYes X0.here hx rfl (pc0 := 19) (pc' := 25) rfl (D d18_19) rfl (feq hc22).2 (by decide) (by decide) ?_
   refine XS.iinc X0.here hx rfl (D d18_25) rfl (l' := #[vR ta, vI 42, vI 0, vI 3, vI 42, vI 1]) rfl ?_
   refine XS.goto X0.here hx rfl (pc0 := 28) (pc' := 7) rfl (D d18_28) (by decide) (by decide) ?_
   refine XS.iload X0.here hx rfl (D d18_7) rfl ?_
   show Steps p.tables e below (s₁.setTop (fr_xol3 m ta 9 (vI 1) [(iV 1)])) t
   refine XS.iloadN X0.here hx rfl (D d18_9) rfl ?_
   refine XS.icmpNo X0.here hx rfl (D d18_10) rfl (tlt ((by decide) : (1 : Int32) < (3 : Int32))).2.1 ?_
   refine XS.aloadN X0.here hx rfl (D d18_13) rfl rfl ?_
   refine XS.iload X0.here hx rfl (D d18_14) rfl ?_
   exact kt
  obtain ⟨cl23, Ar23, q23, S23, N23, H23, G23⟩ := id Ks
  have hin23 : ¬ ((1 : Int32) < 0 ∨ cl23.slots.size ≤ ((1 : Int32)).toNatClampNeg) := inb_of S23 ⟨by decide, by decide⟩
  have hat23 : cl23.slots[((1 : Int32)).toNatClampNeg]? = some (.int (oL c1)) := H23.at hin23 rfl
  have st23 := X0.baloadBytes hx (j := (1 : Int32)) (v := (.int (oL c1))) (by rw [e0]; exact Ar23.1) (State.isArrayOf_alike hZ.alike Ar23.2.1) Ar23.2.2 hin23 hat23 (g := (fr_xol3 m ta 16 (vI 1) [(iV 1), (.ref ta)])) rfl rfl (D d18_16)
  refine ownBy st23 ?_
  show ownG p.tables e below _ (s₁.setTop (fr_xol3 m ta 17 (vI 1) [(.int (oL c1))]))
  refine ownBy (A := s₁.setTop (fr_xol3 m ta 19 (vI 1) [(iV 42), (.int (oL c1))])) (fun t kt => ?_) ?_
  ·refine XS.iload X0.here hx rfl (D d18_17) rfl ?_
   exact kt
  by_cases hc24 : (oL c1) = (42 : Int32)
  ·skip
   refine ownBy (A := s₁.setTop (fr_xol3 m ta 24 (vI 1) [(iV 1)])) (fun t kt => ?_) ?_
   ·refine XS.icmpNo X0.here hx rfl (D d18_19) rfl (teq hc24).2 ?_
    refine XS.iload X0.here hx rfl (D d18_22) rfl ?_
    exact kt
   refine ownRet X0 Bd.notSynchronized (v := some (iV 1)) (fun h => by rw [Bd.returns] at h; cases h) ?_ (oLe rfl) (oLe rfl) (fun fs hr => retI X0 hx Bd.returns (D d18_24) hr)
   show (Q_xol3 Z ta kb c0 c1 c2 h0 n0) (some (iV 1)) s₁.heap _
   rw [e0]
   exact ⟨_, rfl, N0, rfl, Or.inr ⟨by decide, Or.inr (Or.inl (own_of_lo hc1 hnl1 hc24))⟩⟩
  ·skip
   refine ownBy (A := s₁.setTop (fr_xol3 m ta 16 (vI 2) [(iV 2), (.ref ta)])) (fun t kt => ?_) ?_
   ·refine XS.icmpYes X0.here hx rfl (pc0 := 19) (pc' := 25) rfl (D d18_19) rfl (feq hc24).2 (by decide) (by decide) ?_
    refine XS.iinc X0.here hx rfl (D d18_25) rfl (l' := #[vR ta, vI 42, vI 0, vI 3, vI 42, vI 2]) rfl ?_
    refine XS.goto X0.here hx rfl (pc0 := 28) (pc' := 7) rfl (D d18_28) (by decide) (by decide) ?_
    refine XS.iload X0.here hx rfl (D d18_7) rfl ?_
    show Steps p.tables e below (s₁.setTop (fr_xol3 m ta 9 (vI 2) [(iV 2)])) t
    refine XS.iloadN X0.here hx rfl (D d18_9) rfl ?_
    refine XS.icmpNo X0.here hx rfl (D d18_10) rfl (tlt ((by decide) : (2 : Int32) < (3 : Int32))).2.1 ?_
    refine XS.aloadN X0.here hx rfl (D d18_13) rfl rfl ?_
    refine XS.iload X0.here hx rfl (D d18_14) rfl ?_
    exact kt
   obtain ⟨cl25, Ar25, q25, S25, N25, H25, G25⟩ := id Ks
   have hin25 : ¬ ((2 : Int32) < 0 ∨ cl25.slots.size ≤ ((2 : Int32)).toNatClampNeg) := inb_of S25 ⟨by decide, by decide⟩
   have hat25 : cl25.slots[((2 : Int32)).toNatClampNeg]? = some (.int (oL c2)) := H25.at hin25 rfl
   have st25 := X0.baloadBytes hx (j := (2 : Int32)) (v := (.int (oL c2))) (by rw [e0]; exact Ar25.1) (State.isArrayOf_alike hZ.alike Ar25.2.1) Ar25.2.2 hin25 hat25 (g := (fr_xol3 m ta 16 (vI 2) [(iV 2), (.ref ta)])) rfl rfl (D d18_16)
   refine ownBy st25 ?_
   show ownG p.tables e below _ (s₁.setTop (fr_xol3 m ta 17 (vI 2) [(.int (oL c2))]))
   refine ownBy (A := s₁.setTop (fr_xol3 m ta 19 (vI 2) [(iV 42), (.int (oL c2))])) (fun t kt => ?_) ?_
   ·refine XS.iload X0.here hx rfl (D d18_17) rfl ?_
    exact kt
   by_cases hc26 : (oL c2) = (42 : Int32)
   ·skip
    refine ownBy (A := s₁.setTop (fr_xol3 m ta 24 (vI 2) [(iV 2)])) (fun t kt => ?_) ?_
    ·refine XS.icmpNo X0.here hx rfl (D d18_19) rfl (teq hc26).2 ?_
     refine XS.iload X0.here hx rfl (D d18_22) rfl ?_
     exact kt
    refine ownRet X0 Bd.notSynchronized (v := some (iV 2)) (fun h => by rw [Bd.returns] at h; cases h) ?_ (oLe rfl) (oLe rfl) (fun fs hr => retI X0 hx Bd.returns (D d18_24) hr)
    show (Q_xol3 Z ta kb c0 c1 c2 h0 n0) (some (iV 2)) s₁.heap _
    rw [e0]
    exact ⟨_, rfl, N0, rfl, Or.inr ⟨by decide, Or.inr (Or.inr ((own_of_lo hc2 hnl2 hc26)))⟩⟩
   ·skip
    refine ownBy (A := s₁.setTop (fr_xol3 m ta 32 (vI 3) [(.int (-1 : Int32))])) (fun t kt => ?_) ?_
    ·refine XS.icmpYes X0.here hx rfl (pc0 := 19) (pc' := 25) rfl (D d18_19) rfl (feq hc26).2 (by decide) (by decide) ?_
     refine XS.iinc X0.here hx rfl (D d18_25) rfl (l' := #[vR ta, vI 42, vI 0, vI 3, vI 42, vI 3]) rfl ?_
     refine XS.goto X0.here hx rfl (pc0 := 28) (pc' := 7) rfl (D d18_28) (by decide) (by decide) ?_
     refine XS.iload X0.here hx rfl (D d18_7) rfl ?_
     show Steps p.tables e below (s₁.setTop (fr_xol3 m ta 9 (vI 3) [(iV 3)])) t
     refine XS.iloadN X0.here hx rfl (D d18_9) rfl ?_
     refine XS.icmpYes X0.here hx rfl (pc0 := 10) (pc' := 31) rfl (D d18_10) rfl (flt ((by decide) : ¬ ((3 : Int32) < (3 : Int32)))).2.1 (by decide) (by decide) ?_
     refine XS.iconst X0.here hx rfl (D d18_31) ?_
     exact kt
    refine ownRet X0 Bd.notSynchronized (v := some (.int (-1 : Int32))) (fun h => by rw [Bd.returns] at h; cases h) ?_ (oLe rfl) (oLe rfl) (fun fs hr => retI X0 hx Bd.returns (D d18_32) hr)
    show (Q_xol3 Z ta kb c0 c1 c2 h0 n0) (some (.int (-1 : Int32))) s₁.heap _
    rw [e0]
    exact ⟨_, rfl, N0, rfl, Or.inl ⟨by decide, (fun q => q.elim (fun q => hc22 (own_lo_of q)) (fun q => q.elim (fun q => hc24 (own_lo_of q)) (fun q => hc26 (own_lo_of q))))⟩⟩
abbrev fr_xuu3 (m : MethodId) (ta : Addr) (pc : Nat) (x4_ : Slot) (st : List Value) : JFrame := mkF m pc #[vR ta, vI 42, vI 0, vI 3, x4_] st
def Q_xuu3 (Z : State) (ta : Addr) (kb : ClassId) (c0 : Int32) (c1 : Int32) (c2 : Int32) (h0 : Heap) (n0 : Nat) (v : Option Value) (h : Heap) (L : List Loc) : Prop := QX (c0 = (42 : Int32) ∨ c1 = (42 : Int32) ∨ c2 = (42 : Int32)) h0 n0 v h L
theorem ef_xuu3 (m : MethodId) (x0 : Addr) (x1 : Int32) (x2 : Int32) (x3 : Int32)  : entryFrame m #[(.ref x0), (.int x1), (.int x2), (.int x3)] 5 = mkF m 0 #[vR x0, vI x1, vI x2, vI x3, .unset] [] := by first | (simp [entryFrame, mkF, argsToLocals, Value.category]; done) | rfl
set_option maxRecDepth 65536 in
set_option maxHeartbeats 40000000 in
theorem c_xuu3 (l : Launch) (Z : State) (a0 : Array Value) (hw : ∀ d ∈ tables_1, d.before a0 Z = true) (ws : List Jvm.Cond) (ta : Addr) (kb : ClassId) (c0 : Int32) (c1 : Int32) (c2 : Int32) (h0 : Heap) (n0 : Nat) (Z0 : n0 ≤ h0.size) (Ks : Arv Z h0 ta kb .byte (6 : Int32) [(.int (oW c0)), (.int (oH c0)), (.int (oW c1)), (.int (oH c1)), (.int (oW c2)), (.int (oH c2))] (iV 0)) (hc0 : ¬ c0 < 0 ∧ ¬ (65535 : Int32) < c0) (hc1 : ¬ c1 < 0 ∧ ¬ (65535 : Int32) < c1) (hc2 : ¬ c2 < 0 ∧ ¬ (65535 : Int32) < c2) (SA : Sta Z Z.heap "java/lang/StringUTF16" "$assertionsDisabled" "Z" (iV 1)) (SHI : Sta Z Z.heap "java/lang/StringUTF16" "HI_BYTE_SHIFT" "I" (iV 0)) (SLO : Sta Z Z.heap "java/lang/StringUTF16" "LO_BYTE_SHIFT" "I" (iV 8)) (X00 : Old Z n0 h0) :
  MetFree l yM21 (head1 (Jvm.Cond.code yM21 jdk_52_method_48_code 5 (some .int) :: ws) ({ frames := 1, cells := 0, slots := 0, locals := 13 } : Room)) (fun a U => a = #[(.ref ta), (iV 42), (iV 0), (iV 3)] ∧ Z.Warmed39 U.vm ∧ U.heap = h0) (fun _ _ _ _ _ => True) (fun _ U o U' => ∃ v L, o = .returned v ∧ (Q_xuu3 Z ta kb c0 c1 c2 h0 n0) v U'.heap L ∧ FrameEnd U o U' L ({ frames := 1, cells := 0, slots := 0, locals := 13 } : Room).cells ({ frames := 1, cells := 0, slots := 0, locals := 13 } : Room).slots) := by
 refine MetFree.of_bodySF (plainFor_of_name pn_3) hisR ?_
 intro p e s m args below meth c s₁ Bd hml0 hP hK
 obtain ⟨rfl, hZ, hHp⟩ := hP
 have hx := Bd.exec
 have D := fun {pc : Nat} {r} (h : decode _ pc = r) => hb Bd.bytes h
 have hml : c.maxLocals = 5 := hml0
 have hown : s.vm.findClass "java/lang/StringUTF16" = some m.cls := findClass_of_methodNamed Bd.named
 have hnm := (name_of_methodNamed Bd.named Bd.method).1
 have X0 : Stand p l e ({ frames := 1, cells := 0, slots := 0, locals := 13 } : Room) s m #[(.ref ta), (iV 42), (iV 0), (iV 3)] below meth c s₁ [] 0 0 := Stand.of_body Bd
 have e0 : s₁.heap = h0 := by rw [← hHp, Bd.state]; rfl
 have N0 := Fr.nil n0
 refine ownOut (P := (Q_xuu3 Z ta kb c0 c1 c2 h0 n0)) ?_
 refine ownBy (A := s₁.setTop (mkF m 0 #[vR ta, vI 42, vI 0, vI 3, .unset] [])) (fun t k => castTop (ef_xuu3 m ta (42 : Int32) (0 : Int32) (3 : Int32)) k) ?_
 refine ownBy (A := s₁.setTop (fr_xuu3 m ta 12 (vI 0) [(iV 0), (.ref ta)])) (fun t kt => ?_) ?_
 ·refine XS.iloadN X0.here hx rfl (D d30_0) rfl ?_
  refine XS.istore X0.here hx rfl (D d30_1) rfl (l' := #[vR ta, vI 42, vI 0, vI 3, vI 0]) rfl ?_
  refine XS.iload X0.here hx rfl (D d30_3) rfl ?_
  refine XS.iloadN X0.here hx rfl (D d30_5) rfl ?_
  show Steps p.tables e below (s₁.setTop (fr_xuu3 m ta 6 (vI 0) [(iV 3), (iV 0)])) t
  refine XS.icmpNo X0.here hx rfl (D d30_6) rfl (tlt ((by decide) : (0 : Int32) < (3 : Int32))).2.1 ?_
  refine XS.aloadN X0.here hx rfl (D d30_9) rfl rfl ?_
  refine XS.iload X0.here hx rfl (D d30_10) rfl ?_
  exact kt
 obtain ⟨vv21, _, ⟨T21, L21, k21, n21⟩, -, X21, ⟨Lc21, hQ21, l21, y21, z21⟩, st21⟩ := Jvm.LawKit.callS X0 hx (y := yM5) hown (mvT hZ (Wd101 hw)) (mvT hZ (Wd102 hw)) (mvT hZ (Wd74 hw)) (mvT hZ (Wd103 hw)) (by decide) (backOf (W := 0) (c_getc l Z a0 hw [] ta kb (6 : Int32) [(.int (oW c0)), (.int (oH c0)), (.int (oW c1)), (.int (oH c1)), (.int (oW c2)), (.int (oH c2))] (0 : Int32) c0 0 h0 n0 Z0 Ks ⟨by decide +kernel, by decide +kernel⟩ ⟨by decide +kernel, by decide +kernel⟩ (by decide +kernel) (by decide +kernel) rfl rfl hc0 SA SHI SLO X00) hZ (Wd103 hw) (Wd74 hw) (by decide) (by decide)) (g := (fr_xuu3 m ta 12 (vI 0) [(iV 0), (.ref ta)])) rfl (by rw [hml]; rfl) (argsL := [(.ref ta), (iV 0)]) (rest := []) (lenOf pd_9 rfl) rfl (by show 2 * 0 + _ ≤ _; exact Nat.le_of_eq rfl) (D d30_12) (fun _ _ => ⟨rfl, e0, (by decide : 0 + 0 ≤ _), (by decide : 0 + 0 ≤ _)⟩)
 dsimp only [Pt.U, Pt.locs, Pt.cells, Pt.slots] at X21 l21 y21 z21 st21 hQ21
 subst l21 y21 z21
 obtain ⟨rfl, Nq21, Eq21⟩ := hQ21
 have N22 := Fr.app N0 Nq21
 obtain ⟨Lh23, Xh23, Nh23⟩ := oHd 0 0 X21 N22 rfl rfl
 refine ownBy st21 ?_
 clear st21
 show ownG p.tables e below _ (T21.setTop (fr_xuu3 m ta 15 (vI 0) [(.int c0)]))
 refine ownBy (A := T21.setTop (fr_xuu3 m ta 16 (vI 0) [(iV 42), (.int c0)])) (fun t kt => ?_) ?_
 ·refine XS.iloadN Xh23.here hx rfl (D d30_15) rfl ?_
  exact kt
 by_cases hc24 : c0 = (42 : Int32)
 ·skip
  refine ownBy (A := T21.setTop (fr_xuu3 m ta 21 (vI 0) [(iV 0)])) (fun t kt => ?_) ?_
  ·refine XS.icmpNo Xh23.here hx rfl (D d30_16) rfl (teq hc24).2 ?_
   refine XS.iload Xh23.here hx rfl (D d30_19) rfl ?_
   exact kt
  refine ownRet Xh23 Bd.notSynchronized (v := some (iV 0)) (fun h => by rw [Bd.returns] at h; cases h) ?_ (oLe rfl) (oLe rfl) (fun fs hr => retI Xh23 hx Bd.returns (D d30_21) hr)
  show (Q_xuu3 Z ta kb c0 c1 c2 h0 n0) (some (iV 0)) T21.heap _
  rw [Eq21]
  exact ⟨_, rfl, Nh23, rfl, Or.inr ⟨by decide, Or.inl hc24⟩⟩
 ·skip
  refine ownBy (A := T21.setTop (fr_xuu3 m ta 12 (vI 1) [(iV 1), (.ref ta)])) (fun t kt => ?_) ?_
  ·refine XS.icmpYes Xh23.here hx rfl (pc0 := 16) (pc' := 22) rfl (D d30_16) rfl (feq hc24).2 (by decide) (by decide) ?_
   refine XS.iinc Xh23.here hx rfl (D d30_22) rfl (l' := #[vR ta, vI 42, vI 0, vI 3, vI 1]) rfl ?_
   refine XS.goto Xh23.here hx rfl (pc0 := 25) (pc' := 3) rfl (D d30_25) (by decide) (by decide) ?_
   refine XS.iload Xh23.here hx rfl (D d30_3) rfl ?_
   show Steps p.tables e below (T21.setTop (fr_xuu3 m ta 5 (vI 1) [(iV 1)])) t
   refine XS.iloadN Xh23.here hx rfl (D d30_5) rfl ?_
   refine XS.icmpNo Xh23.here hx rfl (D d30_6) rfl (tlt ((by decide) : (1 : Int32) < (3 : Int32))).2.1 ?_
   refine XS.aloadN Xh23.here hx rfl (D d30_9) rfl rfl ?_
   refine XS.iload Xh23.here hx rfl (D d30_10) rfl ?_
   exact kt
  obtain ⟨vv25, _, ⟨T25, L25, k25, n25⟩, -, X25, ⟨Lc25, hQ25, l25, y25, z25⟩, st25⟩ := Jvm.LawKit.callS Xh23 hx (y := yM5) hown (mvT hZ (Wd101 hw)) (mvT hZ (Wd102 hw)) (mvT hZ (Wd74 hw)) (mvT hZ (Wd103 hw)) (by decide) (backOf (W := 0) (c_getc l Z a0 hw [] ta kb (6 : Int32) [(.int (oW c0)), (.int (oH c0)), (.int (oW c1)), (.int (oH c1)), (.int (oW c2)), (.int (oH c2))] (1 : Int32) c1 2 h0 n0 Z0 Ks ⟨by decide +kernel, by decide +kernel⟩ ⟨by decide +kernel, by decide +kernel⟩ (by decide +kernel) (by decide +kernel) rfl rfl hc1 SA SHI SLO X00) hZ (Wd103 hw) (Wd74 hw) (by decide) (by decide)) (g := (fr_xuu3 m ta 12 (vI 1) [(iV 1), (.ref ta)])) rfl (by rw [hml]; rfl) (argsL := [(.ref ta), (iV 1)]) (rest := []) (lenOf pd_9 rfl) rfl (by show 2 * 0 + _ ≤ _; exact Nat.le_of_eq rfl) (D d30_12) (fun _ _ => ⟨rfl, Eq21, (by decide : 0 + 0 ≤ _), (by decide : 0 + 0 ≤ _)⟩)
  dsimp only [Pt.U, Pt.locs, Pt.cells, Pt.slots] at X25 l25 y25 z25 st25 hQ25
  subst l25 y25 z25
  obtain ⟨rfl, Nq25, Eq25⟩ := hQ25
  have N26 := Fr.app Nh23 Nq25
  obtain ⟨Lh27, Xh27, Nh27⟩ := oHd 0 0 X25 N26 rfl rfl
  refine ownBy st25 ?_
  clear st25
  show ownG p.tables e below _ (T25.setTop (fr_xuu3 m ta 15 (vI 1) [(.int c1)]))
  refine ownBy (A := T25.setTop (fr_xuu3 m ta 16 (vI 1) [(iV 42), (.int c1)])) (fun t kt => ?_) ?_
  ·refine XS.iloadN Xh27.here hx rfl (D d30_15) rfl ?_
   exact kt
  by_cases hc28 : c1 = (42 : Int32)
  ·skip
   refine ownBy (A := T25.setTop (fr_xuu3 m ta 21 (vI 1) [(iV 1)])) (fun t kt => ?_) ?_
   ·refine XS.icmpNo Xh27.here hx rfl (D d30_16) rfl (teq hc28).2 ?_
    refine XS.iload Xh27.here hx rfl (D d30_19) rfl ?_
    exact kt
   refine ownRet Xh27 Bd.notSynchronized (v := some (iV 1)) (fun h => by rw [Bd.returns] at h; cases h) ?_ (oLe rfl) (oLe rfl) (fun fs hr => retI Xh27 hx Bd.returns (D d30_21) hr)
   show (Q_xuu3 Z ta kb c0 c1 c2 h0 n0) (some (iV 1)) T25.heap _
   rw [Eq25]
   exact ⟨_, rfl, Nh27, rfl, Or.inr ⟨by decide, Or.inr (Or.inl hc28)⟩⟩
  ·skip
   refine ownBy (A := T25.setTop (fr_xuu3 m ta 12 (vI 2) [(iV 2), (.ref ta)])) (fun t kt => ?_) ?_
   ·refine XS.icmpYes Xh27.here hx rfl (pc0 := 16) (pc' := 22) rfl (D d30_16) rfl (feq hc28).2 (by decide) (by decide) ?_
    refine XS.iinc Xh27.here hx rfl (D d30_22) rfl (l' := #[vR ta, vI 42, vI 0, vI 3, vI 2]) rfl ?_
    refine XS.goto Xh27.here hx rfl (pc0 := 25) (pc' := 3) rfl (D d30_25) (by decide) (by decide) ?_
    refine XS.iload Xh27.here hx rfl (D d30_3) rfl ?_
    show Steps p.tables e below (T25.setTop (fr_xuu3 m ta 5 (vI 2) [(iV 2)])) t
    refine XS.iloadN Xh27.here hx rfl (D d30_5) rfl ?_
    refine XS.icmpNo Xh27.here hx rfl (D d30_6) rfl (tlt ((by decide) : (2 : Int32) < (3 : Int32))).2.1 ?_
    refine XS.aloadN Xh27.here hx rfl (D d30_9) rfl rfl ?_
    refine XS.iload Xh27.here hx rfl (D d30_10) rfl ?_
    exact kt
   obtain ⟨vv29, _, ⟨T29, L29, k29, n29⟩, -, X29, ⟨Lc29, hQ29, l29, y29, z29⟩, st29⟩ := Jvm.LawKit.callS Xh27 hx (y := yM5) hown (mvT hZ (Wd101 hw)) (mvT hZ (Wd102 hw)) (mvT hZ (Wd74 hw)) (mvT hZ (Wd103 hw)) (by decide) (backOf (W := 0) (c_getc l Z a0 hw [] ta kb (6 : Int32) [(.int (oW c0)), (.int (oH c0)), (.int (oW c1)), (.int (oH c1)), (.int (oW c2)), (.int (oH c2))] (2 : Int32) c2 4 h0 n0 Z0 Ks ⟨by decide +kernel, by decide +kernel⟩ ⟨by decide +kernel, by decide +kernel⟩ (by decide +kernel) (by decide +kernel) rfl rfl hc2 SA SHI SLO X00) hZ (Wd103 hw) (Wd74 hw) (by decide) (by decide)) (g := (fr_xuu3 m ta 12 (vI 2) [(iV 2), (.ref ta)])) rfl (by rw [hml]; rfl) (argsL := [(.ref ta), (iV 2)]) (rest := []) (lenOf pd_9 rfl) rfl (by show 2 * 0 + _ ≤ _; exact Nat.le_of_eq rfl) (D d30_12) (fun _ _ => ⟨rfl, Eq25, (by decide : 0 + 0 ≤ _), (by decide : 0 + 0 ≤ _)⟩)
   dsimp only [Pt.U, Pt.locs, Pt.cells, Pt.slots] at X29 l29 y29 z29 st29 hQ29
   subst l29 y29 z29
   obtain ⟨rfl, Nq29, Eq29⟩ := hQ29
   have N30 := Fr.app Nh27 Nq29
   obtain ⟨Lh31, Xh31, Nh31⟩ := oHd 0 0 X29 N30 rfl rfl
   refine ownBy st29 ?_
   clear st29
   show ownG p.tables e below _ (T29.setTop (fr_xuu3 m ta 15 (vI 2) [(.int c2)]))
   refine ownBy (A := T29.setTop (fr_xuu3 m ta 16 (vI 2) [(iV 42), (.int c2)])) (fun t kt => ?_) ?_
   ·refine XS.iloadN Xh31.here hx rfl (D d30_15) rfl ?_
    exact kt
   by_cases hc32 : c2 = (42 : Int32)
   ·skip
    refine ownBy (A := T29.setTop (fr_xuu3 m ta 21 (vI 2) [(iV 2)])) (fun t kt => ?_) ?_
    ·refine XS.icmpNo Xh31.here hx rfl (D d30_16) rfl (teq hc32).2 ?_
     refine XS.iload Xh31.here hx rfl (D d30_19) rfl ?_
     exact kt
    refine ownRet Xh31 Bd.notSynchronized (v := some (iV 2)) (fun h => by rw [Bd.returns] at h; cases h) ?_ (oLe rfl) (oLe rfl) (fun fs hr => retI Xh31 hx Bd.returns (D d30_21) hr)
    show (Q_xuu3 Z ta kb c0 c1 c2 h0 n0) (some (iV 2)) T29.heap _
    rw [Eq29]
    exact ⟨_, rfl, Nh31, rfl, Or.inr ⟨by decide, Or.inr (Or.inr (hc32))⟩⟩
   ·skip
    refine ownBy (A := T29.setTop (fr_xuu3 m ta 29 (vI 3) [(.int (-1 : Int32))])) (fun t kt => ?_) ?_
    ·refine XS.icmpYes Xh31.here hx rfl (pc0 := 16) (pc' := 22) rfl (D d30_16) rfl (feq hc32).2 (by decide) (by decide) ?_
     refine XS.iinc Xh31.here hx rfl (D d30_22) rfl (l' := #[vR ta, vI 42, vI 0, vI 3, vI 3]) rfl ?_
     refine XS.goto Xh31.here hx rfl (pc0 := 25) (pc' := 3) rfl (D d30_25) (by decide) (by decide) ?_
     refine XS.iload Xh31.here hx rfl (D d30_3) rfl ?_
     show Steps p.tables e below (T29.setTop (fr_xuu3 m ta 5 (vI 3) [(iV 3)])) t
     refine XS.iloadN Xh31.here hx rfl (D d30_5) rfl ?_
     refine XS.icmpYes Xh31.here hx rfl (pc0 := 6) (pc' := 28) rfl (D d30_6) rfl (flt ((by decide) : ¬ ((3 : Int32) < (3 : Int32)))).2.1 (by decide) (by decide) ?_
     refine XS.iconst Xh31.here hx rfl (D d30_28) ?_
     exact kt
    refine ownRet Xh31 Bd.notSynchronized (v := some (.int (-1 : Int32))) (fun h => by rw [Bd.returns] at h; cases h) ?_ (oLe rfl) (oLe rfl) (fun fs hr => retI Xh31 hx Bd.returns (D d30_29) hr)
    show (Q_xuu3 Z ta kb c0 c1 c2 h0 n0) (some (.int (-1 : Int32))) T29.heap _
    rw [Eq29]
    exact ⟨_, rfl, Nh31, rfl, Or.inl ⟨by decide, (fun q => q.elim hc24 (fun q => q.elim hc28 hc32))⟩⟩
theorem hb3 (l : Launch) (Z : State) (a0 : Array Value) (hw : ∀ d ∈ tables_1, d.before a0 Z = true) (x : Addr) (ta : Addr) (kb : ClassId) (cd : Int32) (z : Int32) (vs : List Value) (c0 : Int32) (c1 : Int32) (c2 : Int32) (G1 : Int32) (G3 : Value) (hrel : ((cd = (0 : Int32) ∧ z = (3 : Int32) ∧ vs = [(.int (oL c0)), (.int (oL c1)), (.int (oL c2))] ∧ ¬ ((255 : Int32) < c0) ∧ ¬ ((255 : Int32) < c1) ∧ ¬ ((255 : Int32) < c2)) ∨ (cd = (1 : Int32) ∧ z = (6 : Int32) ∧ vs = [(.int (oW c0)), (.int (oH c0)), (.int (oW c1)), (.int (oH c1)), (.int (oW c2)), (.int (oH c2))] ∧ ((255 : Int32) < c0 ∨ (255 : Int32) < c1 ∨ (255 : Int32) < c2)))) (hc0 : ¬ c0 < 0 ∧ ¬ (65535 : Int32) < c0) (hc1 : ¬ c1 < 0 ∧ ¬ (65535 : Int32) < c1) (hc2 : ¬ c2 < 0 ∧ ¬ (65535 : Int32) < c2) (O2 : Sta Z Z.heap "java/lang/String" "COMPACT_STRINGS" "Z" (.int G1)) (P5 : ¬ (G1 = (0 : Int32))) (SA : Sta Z Z.heap "java/lang/StringUTF16" "$assertionsDisabled" "Z" (iV 1)) (SHI : Sta Z Z.heap "java/lang/StringUTF16" "HI_BYTE_SHIFT" "I" (iV 0)) (SLO : Sta Z Z.heap "java/lang/StringUTF16" "LO_BYTE_SHIFT" "I" (iV 8)) (O4 : Sta Z Z.heap "jdk/internal/util/Preconditions" "SIOOBE_FORMATTER" "Ljava/util/function/BiFunction;" G3) (rG3 : G3.isRef = true) : ∀ (H : Heap) (n1 : Nat), n1 ≤ H.size → Exa Z H x "java/lang/String" → Fld Z H x "java/lang/String" "value" "[B" (.ref ta) → Fld Z H x "java/lang/String" "coder" "B" (.int cd) → Arv Z H ta kb .byte z vs (iV 0) → Old Z n1 H → MetFree l yM25 (head1 (Jvm.Cond.code yM25 jdk_42_method_80_code 3 (some .int) :: []) ({ frames := 5, cells := 0, slots := 0, locals := 73 } : Room)) (fun a U => a = #[(.ref x), (iV 42), (iV 0)] ∧ Z.Warmed39 U.vm ∧ U.heap = H) (fun _ _ _ _ _ => True) (fun _ U o U' => ∃ v L, o = .returned v ∧ (QX (c0 = (42 : Int32) ∨ c1 = (42 : Int32) ∨ c2 = (42 : Int32)) H n1) v U'.heap L ∧ FrameEnd U o U' L ({ frames := 5, cells := 0, slots := 0, locals := 73 } : Room).cells ({ frames := 5, cells := 0, slots := 0, locals := 73 } : Room).slots) := by
 rcases hrel with ⟨rfl, rfl, rfl, hnl0, hnl1, hnl2⟩ | ⟨rfl, rfl, rfl, hgt⟩
 ·exact fun H n1 zz E V C K X => c_xbl l Z a0 hw [] x ta kb (3 : Int32) [(.int (oL c0)), (.int (oL c1)), (.int (oL c2))] (c0 = (42 : Int32) ∨ c1 = (42 : Int32) ∨ c2 = (42 : Int32)) G1 H n1 zz E V C K (by decide +kernel) (by decide) (fun H n1 zz K => c_xol3 l Z a0 hw [] ta kb c0 c1 c2 H n1 zz K hc0 hc1 hc2 hnl0 hnl1 hnl2) O2 P5 X
 ·exact fun H n1 zz E V C K X => c_xbu l Z a0 hw [] x ta kb (6 : Int32) (3 : Int32) [(.int (oW c0)), (.int (oH c0)), (.int (oW c1)), (.int (oH c1)), (.int (oW c2)), (.int (oH c2))] (c0 = (42 : Int32) ∨ c1 = (42 : Int32) ∨ c2 = (42 : Int32)) G1 G3 H n1 zz E V C K (by decide +kernel) (by decide) (by decide) (fun H n1 zz K X => c_xuu3 l Z a0 hw [] ta kb c0 c1 c2 H n1 zz K hc0 hc1 hc2 SA SHI SLO X) O2 P5 O4 rG3 X
abbrev fr_xol4 (m : MethodId) (ta : Addr) (pc : Nat) (x5_ : Slot) (st : List Value) : JFrame := mkF m pc #[vR ta, vI 42, vI 0, vI 4, vI 42, x5_] st
def Q_xol4 (Z : State) (ta : Addr) (kb : ClassId) (c0 : Int32) (c1 : Int32) (c2 : Int32) (c3 : Int32) (h0 : Heap) (n0 : Nat) (v : Option Value) (h : Heap) (L : List Loc) : Prop := QX (c0 = (42 : Int32) ∨ c1 = (42 : Int32) ∨ c2 = (42 : Int32) ∨ c3 = (42 : Int32)) h0 n0 v h L
theorem ef_xol4 (m : MethodId) (x0 : Addr) (x1 : Int32) (x2 : Int32) (x3 : Int32)  : entryFrame m #[(.ref x0), (.int x1), (.int x2), (.int x3)] 6 = mkF m 0 #[vR x0, vI x1, vI x2, vI x3, .unset, .unset] [] := by first | (simp [entryFrame, mkF, argsToLocals, Value.category]; done) | rfl
set_option maxRecDepth 65536 in
set_option maxHeartbeats 40000000 in
theorem c_xol4 (l : Launch) (Z : State) (a0 : Array Value) (hw : ∀ d ∈ tables_1, d.before a0 Z = true) (ws : List Jvm.Cond) (ta : Addr) (kb : ClassId) (c0 : Int32) (c1 : Int32) (c2 : Int32) (c3 : Int32) (h0 : Heap) (n0 : Nat) (Z0 : n0 ≤ h0.size) (Ks : Arv Z h0 ta kb .byte (4 : Int32) [(.int (oL c0)), (.int (oL c1)), (.int (oL c2)), (.int (oL c3))] (iV 0)) (hc0 : ¬ c0 < 0 ∧ ¬ (65535 : Int32) < c0) (hc1 : ¬ c1 < 0 ∧ ¬ (65535 : Int32) < c1) (hc2 : ¬ c2 < 0 ∧ ¬ (65535 : Int32) < c2) (hc3 : ¬ c3 < 0 ∧ ¬ (65535 : Int32) < c3) (hnl0 : ¬ ((255 : Int32) < c0)) (hnl1 : ¬ ((255 : Int32) < c1)) (hnl2 : ¬ ((255 : Int32) < c2)) (hnl3 : ¬ ((255 : Int32) < c3)) :
  MetFree l yM20 (head1 (Jvm.Cond.code yM20 jdk_43_method_23_code 6 (some .int) :: ws) ({ frames := 0, cells := 0, slots := 0, locals := 0 } : Room)) (fun a U => a = #[(.ref ta), (iV 42), (iV 0), (iV 4)] ∧ Z.Warmed39 U.vm ∧ U.heap = h0) (fun _ _ _ _ _ => True) (fun _ U o U' => ∃ v L, o = .returned v ∧ (Q_xol4 Z ta kb c0 c1 c2 c3 h0 n0) v U'.heap L ∧ FrameEnd U o U' L ({ frames := 0, cells := 0, slots := 0, locals := 0 } : Room).cells ({ frames := 0, cells := 0, slots := 0, locals := 0 } : Room).slots) := by
 refine MetFree.of_bodySF (plainFor_of_name pn_11) hisR ?_
 intro p e s m args below meth c s₁ Bd hml0 hP hK
 obtain ⟨rfl, hZ, hHp⟩ := hP
 have hx := Bd.exec
 have D := fun {pc : Nat} {r} (h : decode _ pc = r) => hb Bd.bytes h
 have hml : c.maxLocals = 6 := hml0
 have hown : s.vm.findClass "java/lang/StringLatin1" = some m.cls := findClass_of_methodNamed Bd.named
 have hnm := (name_of_methodNamed Bd.named Bd.method).1
 have X0 : Stand p l e ({ frames := 0, cells := 0, slots := 0, locals := 0 } : Room) s m #[(.ref ta), (iV 42), (iV 0), (iV 4)] below meth c s₁ [] 0 0 := Stand.of_body Bd
 have e0 : s₁.heap = h0 := by rw [← hHp, Bd.state]; rfl
 have N0 := Fr.nil n0
 refine ownOut (P := (Q_xol4 Z ta kb c0 c1 c2 c3 h0 n0)) ?_
 refine ownBy (A := s₁.setTop (mkF m 0 #[vR ta, vI 42, vI 0, vI 4, .unset, .unset] [])) (fun t k => castTop (ef_xol4 m ta (42 : Int32) (0 : Int32) (4 : Int32)) k) ?_
 refine ownBy (A := s₁.setTop (fr_xol4 m ta 16 (vI 0) [(iV 0), (.ref ta)])) (fun t kt => ?_) ?_
 ·refine XS.iloadN X0.here hx rfl (D d18_0) rfl ?_
  refine XS.i2b X0.here hx rfl (D d18_1) rfl ?_
  refine XS.istore X0.here hx rfl (D d18_2) rfl (l' := #[vR ta, vI 42, vI 0, vI 4, vI 42, .unset]) rfl ?_
  refine XS.iloadN X0.here hx rfl (D d18_4) rfl ?_
  show Steps p.tables e below (s₁.setTop (fr_xol4 m ta 5 .unset [(iV 0)])) t
  refine XS.istore X0.here hx rfl (D d18_5) rfl (l' := #[vR ta, vI 42, vI 0, vI 4, vI 42, vI 0]) rfl ?_
  refine XS.iload X0.here hx rfl (D d18_7) rfl ?_
  refine XS.iloadN X0.here hx rfl (D d18_9) rfl ?_
  refine XS.icmpNo X0.here hx rfl (D d18_10) rfl (tlt ((by decide) : (0 : Int32) < (4 : Int32))).2.1 ?_
  show Steps p.tables e below (s₁.setTop (fr_xol4 m ta 13 (vI 0) [])) t
  refine XS.aloadN X0.here hx rfl (D d18_13) rfl rfl ?_
  refine XS.iload X0.here hx rfl (D d18_14) rfl ?_
  exact kt
 obtain ⟨cl21, Ar21, q21, S21, N21, H21, G21⟩ := id Ks
 have hin21 : ¬ ((0 : Int32) < 0 ∨ cl21.slots.size ≤ ((0 : Int32)).toNatClampNeg) := inb_of S21 ⟨by decide, by decide⟩
 have hat21 : cl21.slots[((0 : Int32)).toNatClampNeg]? = some (.int (oL c0)) := H21.at hin21 rfl
 have st21 := X0.baloadBytes hx (j := (0 : Int32)) (v := (.int (oL c0))) (by rw [e0]; exact Ar21.1) (State.isArrayOf_alike hZ.alike Ar21.2.1) Ar21.2.2 hin21 hat21 (g := (fr_xol4 m ta 16 (vI 0) [(iV 0), (.ref ta)])) rfl rfl (D d18_16)
 refine ownBy st21 ?_
 show ownG p.tables e below _ (s₁.setTop (fr_xol4 m ta 17 (vI 0) [(.int (oL c0))]))
 refine ownBy (A := s₁.setTop (fr_xol4 m ta 19 (vI 0) [(iV 42), (.int (oL c0))])) (fun t kt => ?_) ?_
 ·refine XS.iload X0.here hx rfl (D d18_17) rfl ?_
  exact kt
 by_cases hc22 : (oL c0) = (42 : Int32)
 ·skip
  refine ownBy (A := s₁.setTop (fr_xol4 m ta 24 (vI 0) [(iV 0)])) (fun t kt => ?_) ?_
  ·refine XS.icmpNo X0.here hx rfl (D d18_19) rfl (teq hc22).2 ?_
   refine XS.iload X0.here hx rfl (D d18_22) rfl ?_
   exact kt
  refine ownRet X0 Bd.notSynchronized (v := some (iV 0)) (fun h => by rw [Bd.returns] at h; cases h) ?_ (oLe rfl) (oLe rfl) (fun fs hr => retI X0 hx Bd.returns (D d18_24) hr)
  show (Q_xol4 Z ta kb c0 c1 c2 c3 h0 n0) (some (iV 0)) s₁.heap _
  rw [e0]
  exact ⟨_, rfl, N0, rfl, Or.inr ⟨by decide, Or.inl (own_of_lo hc0 hnl0 hc22)⟩⟩
 ·skip
  refine ownBy (A := s₁.setTop (fr_xol4 m ta 16 (vI 1) [(iV 1), (.ref ta)])) (fun t kt => ?_) ?_
  ·refine XS.icmpYes X0.here hx rfl (pc0 := 19) (pc' := 25) rfl (D d18_19) rfl (feq hc22).2 (by decide) (by decide) ?_
   refine XS.iinc X0.here hx rfl (D d18_25) rfl (l' := #[vR ta, vI 42, vI 0, vI 4, vI 42, vI 1]) rfl ?_
   refine XS.goto X0.here hx rfl (pc0 := 28) (pc' := 7) rfl (D d18_28) (by decide) (by decide) ?_
   refine XS.iload X0.here hx rfl (D d18_7) rfl ?_
   show Steps p.tables e below (s₁.setTop (fr_xol4 m ta 9 (vI 1) [(iV 1)])) t
   refine XS.iloadN X0.here hx rfl (D d18_9) rfl ?_
   refine XS.icmpNo X0.here hx rfl (D d18_10) rfl (tlt ((by decide) : (1 : Int32) < (4 : Int32))).2.1 ?_
   refine XS.aloadN X0.here hx rfl (D d18_13) rfl rfl ?_
   refine XS.iload X0.here hx rfl (D d18_14) rfl ?_
   exact kt
  obtain ⟨cl23, Ar23, q23, S23, N23, H23, G23⟩ := id Ks
  have hin23 : ¬ ((1 : Int32) < 0 ∨ cl23.slots.size ≤ ((1 : Int32)).toNatClampNeg) := inb_of S23 ⟨by decide, by decide⟩
  have hat23 : cl23.slots[((1 : Int32)).toNatClampNeg]? = some (.int (oL c1)) := H23.at hin23 rfl
  have st23 := X0.baloadBytes hx (j := (1 : Int32)) (v := (.int (oL c1))) (by rw [e0]; exact Ar23.1) (State.isArrayOf_alike hZ.alike Ar23.2.1) Ar23.2.2 hin23 hat23 (g := (fr_xol4 m ta 16 (vI 1) [(iV 1), (.ref ta)])) rfl rfl (D d18_16)
  refine ownBy st23 ?_
  show ownG p.tables e below _ (s₁.setTop (fr_xol4 m ta 17 (vI 1) [(.int (oL c1))]))
  refine ownBy (A := s₁.setTop (fr_xol4 m ta 19 (vI 1) [(iV 42), (.int (oL c1))])) (fun t kt => ?_) ?_
  ·refine XS.iload X0.here hx rfl (D d18_17) rfl ?_
   exact kt
  by_cases hc24 : (oL c1) = (42 : Int32)
  ·skip
   refine ownBy (A := s₁.setTop (fr_xol4 m ta 24 (vI 1) [(iV 1)])) (fun t kt => ?_) ?_
   ·refine XS.icmpNo X0.here hx rfl (D d18_19) rfl (teq hc24).2 ?_
    refine XS.iload X0.here hx rfl (D d18_22) rfl ?_
    exact kt
   refine ownRet X0 Bd.notSynchronized (v := some (iV 1)) (fun h => by rw [Bd.returns] at h; cases h) ?_ (oLe rfl) (oLe rfl) (fun fs hr => retI X0 hx Bd.returns (D d18_24) hr)
   show (Q_xol4 Z ta kb c0 c1 c2 c3 h0 n0) (some (iV 1)) s₁.heap _
   rw [e0]
   exact ⟨_, rfl, N0, rfl, Or.inr ⟨by decide, Or.inr (Or.inl (own_of_lo hc1 hnl1 hc24))⟩⟩
  ·skip
   refine ownBy (A := s₁.setTop (fr_xol4 m ta 16 (vI 2) [(iV 2), (.ref ta)])) (fun t kt => ?_) ?_
   ·refine XS.icmpYes X0.here hx rfl (pc0 := 19) (pc' := 25) rfl (D d18_19) rfl (feq hc24).2 (by decide) (by decide) ?_
    refine XS.iinc X0.here hx rfl (D d18_25) rfl (l' := #[vR ta, vI 42, vI 0, vI 4, vI 42, vI 2]) rfl ?_
    refine XS.goto X0.here hx rfl (pc0 := 28) (pc' := 7) rfl (D d18_28) (by decide) (by decide) ?_
    refine XS.iload X0.here hx rfl (D d18_7) rfl ?_
    show Steps p.tables e below (s₁.setTop (fr_xol4 m ta 9 (vI 2) [(iV 2)])) t
    refine XS.iloadN X0.here hx rfl (D d18_9) rfl ?_
    refine XS.icmpNo X0.here hx rfl (D d18_10) rfl (tlt ((by decide) : (2 : Int32) < (4 : Int32))).2.1 ?_
    refine XS.aloadN X0.here hx rfl (D d18_13) rfl rfl ?_
    refine XS.iload X0.here hx rfl (D d18_14) rfl ?_
    exact kt
   obtain ⟨cl25, Ar25, q25, S25, N25, H25, G25⟩ := id Ks
   have hin25 : ¬ ((2 : Int32) < 0 ∨ cl25.slots.size ≤ ((2 : Int32)).toNatClampNeg) := inb_of S25 ⟨by decide, by decide⟩
   have hat25 : cl25.slots[((2 : Int32)).toNatClampNeg]? = some (.int (oL c2)) := H25.at hin25 rfl
   have st25 := X0.baloadBytes hx (j := (2 : Int32)) (v := (.int (oL c2))) (by rw [e0]; exact Ar25.1) (State.isArrayOf_alike hZ.alike Ar25.2.1) Ar25.2.2 hin25 hat25 (g := (fr_xol4 m ta 16 (vI 2) [(iV 2), (.ref ta)])) rfl rfl (D d18_16)
   refine ownBy st25 ?_
   show ownG p.tables e below _ (s₁.setTop (fr_xol4 m ta 17 (vI 2) [(.int (oL c2))]))
   refine ownBy (A := s₁.setTop (fr_xol4 m ta 19 (vI 2) [(iV 42), (.int (oL c2))])) (fun t kt => ?_) ?_
   ·refine XS.iload X0.here hx rfl (D d18_17) rfl ?_
    exact kt
   by_cases hc26 : (oL c2) = (42 : Int32)
   ·skip
    refine ownBy (A := s₁.setTop (fr_xol4 m ta 24 (vI 2) [(iV 2)])) (fun t kt => ?_) ?_
    ·refine XS.icmpNo X0.here hx rfl (D d18_19) rfl (teq hc26).2 ?_
     refine XS.iload X0.here hx rfl (D d18_22) rfl ?_
     exact kt
    refine ownRet X0 Bd.notSynchronized (v := some (iV 2)) (fun h => by rw [Bd.returns] at h; cases h) ?_ (oLe rfl) (oLe rfl) (fun fs hr => retI X0 hx Bd.returns (D d18_24) hr)
    show (Q_xol4 Z ta kb c0 c1 c2 c3 h0 n0) (some (iV 2)) s₁.heap _
    rw [e0]
    exact ⟨_, rfl, N0, rfl, Or.inr ⟨by decide, Or.inr (Or.inr (Or.inl (own_of_lo hc2 hnl2 hc26)))⟩⟩
   ·skip
    refine ownBy (A := s₁.setTop (fr_xol4 m ta 16 (vI 3) [(iV 3), (.ref ta)])) (fun t kt => ?_) ?_
    ·refine XS.icmpYes X0.here hx rfl (pc0 := 19) (pc' := 25) rfl (D d18_19) rfl (feq hc26).2 (by decide) (by decide) ?_
     refine XS.iinc X0.here hx rfl (D d18_25) rfl (l' := #[vR ta, vI 42, vI 0, vI 4, vI 42, vI 3]) rfl ?_
     refine XS.goto X0.here hx rfl (pc0 := 28) (pc' := 7) rfl (D d18_28) (by decide) (by decide) ?_
     refine XS.iload X0.here hx rfl (D d18_7) rfl ?_
     show Steps p.tables e below (s₁.setTop (fr_xol4 m ta 9 (vI 3) [(iV 3)])) t
     refine XS.iloadN X0.here hx rfl (D d18_9) rfl ?_
     refine XS.icmpNo X0.here hx rfl (D d18_10) rfl (tlt ((by decide) : (3 : Int32) < (4 : Int32))).2.1 ?_
     refine XS.aloadN X0.here hx rfl (D d18_13) rfl rfl ?_
     refine XS.iload X0.here hx rfl (D d18_14) rfl ?_
     exact kt
    obtain ⟨cl27, Ar27, q27, S27, N27, H27, G27⟩ := id Ks
    have hin27 : ¬ ((3 : Int32) < 0 ∨ cl27.slots.size ≤ ((3 : Int32)).toNatClampNeg) := inb_of S27 ⟨by decide, by decide⟩
    have hat27 : cl27.slots[((3 : Int32)).toNatClampNeg]? = some (.int (oL c3)) := H27.at hin27 rfl
    have st27 := X0.baloadBytes hx (j := (3 : Int32)) (v := (.int (oL c3))) (by rw [e0]; exact Ar27.1) (State.isArrayOf_alike hZ.alike Ar27.2.1) Ar27.2.2 hin27 hat27 (g := (fr_xol4 m ta 16 (vI 3) [(iV 3), (.ref ta)])) rfl rfl (D d18_16)
    refine ownBy st27 ?_
    show ownG p.tables e below _ (s₁.setTop (fr_xol4 m ta 17 (vI 3) [(.int (oL c3))]))
    refine ownBy (A := s₁.setTop (fr_xol4 m ta 19 (vI 3) [(iV 42), (.int (oL c3))])) (fun t kt => ?_) ?_
    ·refine XS.iload X0.here hx rfl (D d18_17) rfl ?_
     exact kt
    by_cases hc28 : (oL c3) = (42 : Int32)
    ·skip
     refine ownBy (A := s₁.setTop (fr_xol4 m ta 24 (vI 3) [(iV 3)])) (fun t kt => ?_) ?_
     ·refine XS.icmpNo X0.here hx rfl (D d18_19) rfl (teq hc28).2 ?_
      refine XS.iload X0.here hx rfl (D d18_22) rfl ?_
      exact kt
     refine ownRet X0 Bd.notSynchronized (v := some (iV 3)) (fun h => by rw [Bd.returns] at h; cases h) ?_ (oLe rfl) (oLe rfl) (fun fs hr => retI X0 hx Bd.returns (D d18_24) hr)
     show (Q_xol4 Z ta kb c0 c1 c2 c3 h0 n0) (some (iV 3)) s₁.heap _
     rw [e0]
     exact ⟨_, rfl, N0, rfl, Or.inr ⟨by decide, Or.inr (Or.inr (Or.inr ((own_of_lo hc3 hnl3 hc28))))⟩⟩
    ·skip
     refine ownBy (A := s₁.setTop (fr_xol4 m ta 32 (vI 4) [(.int (-1 : Int32))])) (fun t kt => ?_) ?_
     ·refine XS.icmpYes X0.here hx rfl (pc0 := 19) (pc' := 25) rfl (D d18_19) rfl (feq hc28).2 (by decide) (by decide) ?_
      refine XS.iinc X0.here hx rfl (D d18_25) rfl (l' := #[vR ta, vI 42, vI 0, vI 4, vI 42, vI 4]) rfl ?_
      refine XS.goto X0.here hx rfl (pc0 := 28) (pc' := 7) rfl (D d18_28) (by decide) (by decide) ?_
      refine XS.iload X0.here hx rfl (D d18_7) rfl ?_
      show Steps p.tables e below (s₁.setTop (fr_xol4 m ta 9 (vI 4) [(iV 4)])) t
      refine XS.iloadN X0.here hx rfl (D d18_9) rfl ?_
      refine XS.icmpYes X0.here hx rfl (pc0 := 10) (pc' := 31) rfl (D d18_10) rfl (flt ((by decide) : ¬ ((4 : Int32) < (4 : Int32)))).2.1 (by decide) (by decide) ?_
      refine XS.iconst X0.here hx rfl (D d18_31) ?_
      exact kt
     refine ownRet X0 Bd.notSynchronized (v := some (.int (-1 : Int32))) (fun h => by rw [Bd.returns] at h; cases h) ?_ (oLe rfl) (oLe rfl) (fun fs hr => retI X0 hx Bd.returns (D d18_32) hr)
     show (Q_xol4 Z ta kb c0 c1 c2 c3 h0 n0) (some (.int (-1 : Int32))) s₁.heap _
     rw [e0]
     exact ⟨_, rfl, N0, rfl, Or.inl ⟨by decide, (fun q => q.elim (fun q => hc22 (own_lo_of q)) (fun q => q.elim (fun q => hc24 (own_lo_of q)) (fun q => q.elim (fun q => hc26 (own_lo_of q)) (fun q => hc28 (own_lo_of q)))))⟩⟩
abbrev fr_xuu4 (m : MethodId) (ta : Addr) (pc : Nat) (x4_ : Slot) (st : List Value) : JFrame := mkF m pc #[vR ta, vI 42, vI 0, vI 4, x4_] st
def Q_xuu4 (Z : State) (ta : Addr) (kb : ClassId) (c0 : Int32) (c1 : Int32) (c2 : Int32) (c3 : Int32) (h0 : Heap) (n0 : Nat) (v : Option Value) (h : Heap) (L : List Loc) : Prop := QX (c0 = (42 : Int32) ∨ c1 = (42 : Int32) ∨ c2 = (42 : Int32) ∨ c3 = (42 : Int32)) h0 n0 v h L
theorem ef_xuu4 (m : MethodId) (x0 : Addr) (x1 : Int32) (x2 : Int32) (x3 : Int32)  : entryFrame m #[(.ref x0), (.int x1), (.int x2), (.int x3)] 5 = mkF m 0 #[vR x0, vI x1, vI x2, vI x3, .unset] [] := by first | (simp [entryFrame, mkF, argsToLocals, Value.category]; done) | rfl
set_option maxRecDepth 65536 in
set_option maxHeartbeats 40000000 in
theorem c_xuu4 (l : Launch) (Z : State) (a0 : Array Value) (hw : ∀ d ∈ tables_1, d.before a0 Z = true) (ws : List Jvm.Cond) (ta : Addr) (kb : ClassId) (c0 : Int32) (c1 : Int32) (c2 : Int32) (c3 : Int32) (h0 : Heap) (n0 : Nat) (Z0 : n0 ≤ h0.size) (Ks : Arv Z h0 ta kb .byte (8 : Int32) [(.int (oW c0)), (.int (oH c0)), (.int (oW c1)), (.int (oH c1)), (.int (oW c2)), (.int (oH c2)), (.int (oW c3)), (.int (oH c3))] (iV 0)) (hc0 : ¬ c0 < 0 ∧ ¬ (65535 : Int32) < c0) (hc1 : ¬ c1 < 0 ∧ ¬ (65535 : Int32) < c1) (hc2 : ¬ c2 < 0 ∧ ¬ (65535 : Int32) < c2) (hc3 : ¬ c3 < 0 ∧ ¬ (65535 : Int32) < c3) (SA : Sta Z Z.heap "java/lang/StringUTF16" "$assertionsDisabled" "Z" (iV 1)) (SHI : Sta Z Z.heap "java/lang/StringUTF16" "HI_BYTE_SHIFT" "I" (iV 0)) (SLO : Sta Z Z.heap "java/lang/StringUTF16" "LO_BYTE_SHIFT" "I" (iV 8)) (X00 : Old Z n0 h0) :
  MetFree l yM21 (head1 (Jvm.Cond.code yM21 jdk_52_method_48_code 5 (some .int) :: ws) ({ frames := 1, cells := 0, slots := 0, locals := 13 } : Room)) (fun a U => a = #[(.ref ta), (iV 42), (iV 0), (iV 4)] ∧ Z.Warmed39 U.vm ∧ U.heap = h0) (fun _ _ _ _ _ => True) (fun _ U o U' => ∃ v L, o = .returned v ∧ (Q_xuu4 Z ta kb c0 c1 c2 c3 h0 n0) v U'.heap L ∧ FrameEnd U o U' L ({ frames := 1, cells := 0, slots := 0, locals := 13 } : Room).cells ({ frames := 1, cells := 0, slots := 0, locals := 13 } : Room).slots) := by
 refine MetFree.of_bodySF (plainFor_of_name pn_3) hisR ?_
 intro p e s m args below meth c s₁ Bd hml0 hP hK
 obtain ⟨rfl, hZ, hHp⟩ := hP
 have hx := Bd.exec
 have D := fun {pc : Nat} {r} (h : decode _ pc = r) => hb Bd.bytes h
 have hml : c.maxLocals = 5 := hml0
 have hown : s.vm.findClass "java/lang/StringUTF16" = some m.cls := findClass_of_methodNamed Bd.named
 have hnm := (name_of_methodNamed Bd.named Bd.method).1
 have X0 : Stand p l e ({ frames := 1, cells := 0, slots := 0, locals := 13 } : Room) s m #[(.ref ta), (iV 42), (iV 0), (iV 4)] below meth c s₁ [] 0 0 := Stand.of_body Bd
 have e0 : s₁.heap = h0 := by rw [← hHp, Bd.state]; rfl
 have N0 := Fr.nil n0
 refine ownOut (P := (Q_xuu4 Z ta kb c0 c1 c2 c3 h0 n0)) ?_
 refine ownBy (A := s₁.setTop (mkF m 0 #[vR ta, vI 42, vI 0, vI 4, .unset] [])) (fun t k => castTop (ef_xuu4 m ta (42 : Int32) (0 : Int32) (4 : Int32)) k) ?_
 refine ownBy (A := s₁.setTop (fr_xuu4 m ta 12 (vI 0) [(iV 0), (.ref ta)])) (fun t kt => ?_) ?_
 ·refine XS.iloadN X0.here hx rfl (D d30_0) rfl ?_
  refine XS.istore X0.here hx rfl (D d30_1) rfl (l' := #[vR ta, vI 42, vI 0, vI 4, vI 0]) rfl ?_
  refine XS.iload X0.here hx rfl (D d30_3) rfl ?_
  refine XS.iloadN X0.here hx rfl (D d30_5) rfl ?_
  show Steps p.tables e below (s₁.setTop (fr_xuu4 m ta 6 (vI 0) [(iV 4), (iV 0)])) t
  refine XS.icmpNo X0.here hx rfl (D d30_6) rfl (tlt ((by decide) : (0 : Int32) < (4 : Int32))).2.1 ?_
  refine XS.aloadN X0.here hx rfl (D d30_9) rfl rfl ?_
  refine XS.iload X0.here hx rfl (D d30_10) rfl ?_
  exact kt
 obtain ⟨vv21, _, ⟨T21, L21, k21, n21⟩, -, X21, ⟨Lc21, hQ21, l21, y21, z21⟩, st21⟩ := Jvm.LawKit.callS X0 hx (y := yM5) hown (mvT hZ (Wd101 hw)) (mvT hZ (Wd102 hw)) (mvT hZ (Wd74 hw)) (mvT hZ (Wd103 hw)) (by decide) (backOf (W := 0) (c_getc l Z a0 hw [] ta kb (8 : Int32) [(.int (oW c0)), (.int (oH c0)), (.int (oW c1)), (.int (oH c1)), (.int (oW c2)), (.int (oH c2)), (.int (oW c3)), (.int (oH c3))] (0 : Int32) c0 0 h0 n0 Z0 Ks ⟨by decide +kernel, by decide +kernel⟩ ⟨by decide +kernel, by decide +kernel⟩ (by decide +kernel) (by decide +kernel) rfl rfl hc0 SA SHI SLO X00) hZ (Wd103 hw) (Wd74 hw) (by decide) (by decide)) (g := (fr_xuu4 m ta 12 (vI 0) [(iV 0), (.ref ta)])) rfl (by rw [hml]; rfl) (argsL := [(.ref ta), (iV 0)]) (rest := []) (lenOf pd_9 rfl) rfl (by show 2 * 0 + _ ≤ _; exact Nat.le_of_eq rfl) (D d30_12) (fun _ _ => ⟨rfl, e0, (by decide : 0 + 0 ≤ _), (by decide : 0 + 0 ≤ _)⟩)
 dsimp only [Pt.U, Pt.locs, Pt.cells, Pt.slots] at X21 l21 y21 z21 st21 hQ21
 subst l21 y21 z21
 obtain ⟨rfl, Nq21, Eq21⟩ := hQ21
 have N22 := Fr.app N0 Nq21
 obtain ⟨Lh23, Xh23, Nh23⟩ := oHd 0 0 X21 N22 rfl rfl
 refine ownBy st21 ?_
 clear st21
 show ownG p.tables e below _ (T21.setTop (fr_xuu4 m ta 15 (vI 0) [(.int c0)]))
 refine ownBy (A := T21.setTop (fr_xuu4 m ta 16 (vI 0) [(iV 42), (.int c0)])) (fun t kt => ?_) ?_
 ·refine XS.iloadN Xh23.here hx rfl (D d30_15) rfl ?_
  exact kt
 by_cases hc24 : c0 = (42 : Int32)
 ·skip
  refine ownBy (A := T21.setTop (fr_xuu4 m ta 21 (vI 0) [(iV 0)])) (fun t kt => ?_) ?_
  ·refine XS.icmpNo Xh23.here hx rfl (D d30_16) rfl (teq hc24).2 ?_
   refine XS.iload Xh23.here hx rfl (D d30_19) rfl ?_
   exact kt
  refine ownRet Xh23 Bd.notSynchronized (v := some (iV 0)) (fun h => by rw [Bd.returns] at h; cases h) ?_ (oLe rfl) (oLe rfl) (fun fs hr => retI Xh23 hx Bd.returns (D d30_21) hr)
  show (Q_xuu4 Z ta kb c0 c1 c2 c3 h0 n0) (some (iV 0)) T21.heap _
  rw [Eq21]
  exact ⟨_, rfl, Nh23, rfl, Or.inr ⟨by decide, Or.inl hc24⟩⟩
 ·skip
  refine ownBy (A := T21.setTop (fr_xuu4 m ta 12 (vI 1) [(iV 1), (.ref ta)])) (fun t kt => ?_) ?_
  ·refine XS.icmpYes Xh23.here hx rfl (pc0 := 16) (pc' := 22) rfl (D d30_16) rfl (feq hc24).2 (by decide) (by decide) ?_
   refine XS.iinc Xh23.here hx rfl (D d30_22) rfl (l' := #[vR ta, vI 42, vI 0, vI 4, vI 1]) rfl ?_
   refine XS.goto Xh23.here hx rfl (pc0 := 25) (pc' := 3) rfl (D d30_25) (by decide) (by decide) ?_
   refine XS.iload Xh23.here hx rfl (D d30_3) rfl ?_
   show Steps p.tables e below (T21.setTop (fr_xuu4 m ta 5 (vI 1) [(iV 1)])) t
   refine XS.iloadN Xh23.here hx rfl (D d30_5) rfl ?_
   refine XS.icmpNo Xh23.here hx rfl (D d30_6) rfl (tlt ((by decide) : (1 : Int32) < (4 : Int32))).2.1 ?_
   refine XS.aloadN Xh23.here hx rfl (D d30_9) rfl rfl ?_
   refine XS.iload Xh23.here hx rfl (D d30_10) rfl ?_
   exact kt
  obtain ⟨vv25, _, ⟨T25, L25, k25, n25⟩, -, X25, ⟨Lc25, hQ25, l25, y25, z25⟩, st25⟩ := Jvm.LawKit.callS Xh23 hx (y := yM5) hown (mvT hZ (Wd101 hw)) (mvT hZ (Wd102 hw)) (mvT hZ (Wd74 hw)) (mvT hZ (Wd103 hw)) (by decide) (backOf (W := 0) (c_getc l Z a0 hw [] ta kb (8 : Int32) [(.int (oW c0)), (.int (oH c0)), (.int (oW c1)), (.int (oH c1)), (.int (oW c2)), (.int (oH c2)), (.int (oW c3)), (.int (oH c3))] (1 : Int32) c1 2 h0 n0 Z0 Ks ⟨by decide +kernel, by decide +kernel⟩ ⟨by decide +kernel, by decide +kernel⟩ (by decide +kernel) (by decide +kernel) rfl rfl hc1 SA SHI SLO X00) hZ (Wd103 hw) (Wd74 hw) (by decide) (by decide)) (g := (fr_xuu4 m ta 12 (vI 1) [(iV 1), (.ref ta)])) rfl (by rw [hml]; rfl) (argsL := [(.ref ta), (iV 1)]) (rest := []) (lenOf pd_9 rfl) rfl (by show 2 * 0 + _ ≤ _; exact Nat.le_of_eq rfl) (D d30_12) (fun _ _ => ⟨rfl, Eq21, (by decide : 0 + 0 ≤ _), (by decide : 0 + 0 ≤ _)⟩)
  dsimp only [Pt.U, Pt.locs, Pt.cells, Pt.slots] at X25 l25 y25 z25 st25 hQ25
  subst l25 y25 z25
  obtain ⟨rfl, Nq25, Eq25⟩ := hQ25
  have N26 := Fr.app Nh23 Nq25
  obtain ⟨Lh27, Xh27, Nh27⟩ := oHd 0 0 X25 N26 rfl rfl
  refine ownBy st25 ?_
  clear st25
  show ownG p.tables e below _ (T25.setTop (fr_xuu4 m ta 15 (vI 1) [(.int c1)]))
  refine ownBy (A := T25.setTop (fr_xuu4 m ta 16 (vI 1) [(iV 42), (.int c1)])) (fun t kt => ?_) ?_
  ·refine XS.iloadN Xh27.here hx rfl (D d30_15) rfl ?_
   exact kt
  by_cases hc28 : c1 = (42 : Int32)
  ·skip
   refine ownBy (A := T25.setTop (fr_xuu4 m ta 21 (vI 1) [(iV 1)])) (fun t kt => ?_) ?_
   ·refine XS.icmpNo Xh27.here hx rfl (D d30_16) rfl (teq hc28).2 ?_
    refine XS.iload Xh27.here hx rfl (D d30_19) rfl ?_
    exact kt
   refine ownRet Xh27 Bd.notSynchronized (v := some (iV 1)) (fun h => by rw [Bd.returns] at h; cases h) ?_ (oLe rfl) (oLe rfl) (fun fs hr => retI Xh27 hx Bd.returns (D d30_21) hr)
   show (Q_xuu4 Z ta kb c0 c1 c2 c3 h0 n0) (some (iV 1)) T25.heap _
   rw [Eq25]
   exact ⟨_, rfl, Nh27, rfl, Or.inr ⟨by decide, Or.inr (Or.inl hc28)⟩⟩
  ·skip
   refine ownBy (A := T25.setTop (fr_xuu4 m ta 12 (vI 2) [(iV 2), (.ref ta)])) (fun t kt => ?_) ?_
   ·refine XS.icmpYes Xh27.here hx rfl (pc0 := 16) (pc' := 22) rfl (D d30_16) rfl (feq hc28).2 (by decide) (by decide) ?_
    refine XS.iinc Xh27.here hx rfl (D d30_22) rfl (l' := #[vR ta, vI 42, vI 0, vI 4, vI 2]) rfl ?_
    refine XS.goto Xh27.here hx rfl (pc0 := 25) (pc' := 3) rfl (D d30_25) (by decide) (by decide) ?_
    refine XS.iload Xh27.here hx rfl (D d30_3) rfl ?_
    show Steps p.tables e below (T25.setTop (fr_xuu4 m ta 5 (vI 2) [(iV 2)])) t
    refine XS.iloadN Xh27.here hx rfl (D d30_5) rfl ?_
    refine XS.icmpNo Xh27.here hx rfl (D d30_6) rfl (tlt ((by decide) : (2 : Int32) < (4 : Int32))).2.1 ?_
    refine XS.aloadN Xh27.here hx rfl (D d30_9) rfl rfl ?_
    refine XS.iload Xh27.here hx rfl (D d30_10) rfl ?_
    exact kt
   obtain ⟨vv29, _, ⟨T29, L29, k29, n29⟩, -, X29, ⟨Lc29, hQ29, l29, y29, z29⟩, st29⟩ := Jvm.LawKit.callS Xh27 hx (y := yM5) hown (mvT hZ (Wd101 hw)) (mvT hZ (Wd102 hw)) (mvT hZ (Wd74 hw)) (mvT hZ (Wd103 hw)) (by decide) (backOf (W := 0) (c_getc l Z a0 hw [] ta kb (8 : Int32) [(.int (oW c0)), (.int (oH c0)), (.int (oW c1)), (.int (oH c1)), (.int (oW c2)), (.int (oH c2)), (.int (oW c3)), (.int (oH c3))] (2 : Int32) c2 4 h0 n0 Z0 Ks ⟨by decide +kernel, by decide +kernel⟩ ⟨by decide +kernel, by decide +kernel⟩ (by decide +kernel) (by decide +kernel) rfl rfl hc2 SA SHI SLO X00) hZ (Wd103 hw) (Wd74 hw) (by decide) (by decide)) (g := (fr_xuu4 m ta 12 (vI 2) [(iV 2), (.ref ta)])) rfl (by rw [hml]; rfl) (argsL := [(.ref ta), (iV 2)]) (rest := []) (lenOf pd_9 rfl) rfl (by show 2 * 0 + _ ≤ _; exact Nat.le_of_eq rfl) (D d30_12) (fun _ _ => ⟨rfl, Eq25, (by decide : 0 + 0 ≤ _), (by decide : 0 + 0 ≤ _)⟩)
   dsimp only [Pt.U, Pt.locs, Pt.cells, Pt.slots] at X29 l29 y29 z29 st29 hQ29
   subst l29 y29 z29
   obtain ⟨rfl, Nq29, Eq29⟩ := hQ29
   have N30 := Fr.app Nh27 Nq29
   obtain ⟨Lh31, Xh31, Nh31⟩ := oHd 0 0 X29 N30 rfl rfl
   refine ownBy st29 ?_
   clear st29
   show ownG p.tables e below _ (T29.setTop (fr_xuu4 m ta 15 (vI 2) [(.int c2)]))
   refine ownBy (A := T29.setTop (fr_xuu4 m ta 16 (vI 2) [(iV 42), (.int c2)])) (fun t kt => ?_) ?_
   ·refine XS.iloadN Xh31.here hx rfl (D d30_15) rfl ?_
    exact kt
   by_cases hc32 : c2 = (42 : Int32)
   ·skip
    refine ownBy (A := T29.setTop (fr_xuu4 m ta 21 (vI 2) [(iV 2)])) (fun t kt => ?_) ?_
    ·refine XS.icmpNo Xh31.here hx rfl (D d30_16) rfl (teq hc32).2 ?_
     refine XS.iload Xh31.here hx rfl (D d30_19) rfl ?_
     exact kt
    refine ownRet Xh31 Bd.notSynchronized (v := some (iV 2)) (fun h => by rw [Bd.returns] at h; cases h) ?_ (oLe rfl) (oLe rfl) (fun fs hr => retI Xh31 hx Bd.returns (D d30_21) hr)
    show (Q_xuu4 Z ta kb c0 c1 c2 c3 h0 n0) (some (iV 2)) T29.heap _
    rw [Eq29]
    exact ⟨_, rfl, Nh31, rfl, Or.inr ⟨by decide, Or.inr (Or.inr (Or.inl hc32))⟩⟩
   ·skip
    refine ownBy (A := T29.setTop (fr_xuu4 m ta 12 (vI 3) [(iV 3), (.ref ta)])) (fun t kt => ?_) ?_
    ·refine XS.icmpYes Xh31.here hx rfl (pc0 := 16) (pc' := 22) rfl (D d30_16) rfl (feq hc32).2 (by decide) (by decide) ?_
     refine XS.iinc Xh31.here hx rfl (D d30_22) rfl (l' := #[vR ta, vI 42, vI 0, vI 4, vI 3]) rfl ?_
     refine XS.goto Xh31.here hx rfl (pc0 := 25) (pc' := 3) rfl (D d30_25) (by decide) (by decide) ?_
     refine XS.iload Xh31.here hx rfl (D d30_3) rfl ?_
     show Steps p.tables e below (T29.setTop (fr_xuu4 m ta 5 (vI 3) [(iV 3)])) t
     refine XS.iloadN Xh31.here hx rfl (D d30_5) rfl ?_
     refine XS.icmpNo Xh31.here hx rfl (D d30_6) rfl (tlt ((by decide) : (3 : Int32) < (4 : Int32))).2.1 ?_
     refine XS.aloadN Xh31.here hx rfl (D d30_9) rfl rfl ?_
     refine XS.iload Xh31.here hx rfl (D d30_10) rfl ?_
     exact kt
    obtain ⟨vv33, _, ⟨T33, L33, k33, n33⟩, -, X33, ⟨Lc33, hQ33, l33, y33, z33⟩, st33⟩ := Jvm.LawKit.callS Xh31 hx (y := yM5) hown (mvT hZ (Wd101 hw)) (mvT hZ (Wd102 hw)) (mvT hZ (Wd74 hw)) (mvT hZ (Wd103 hw)) (by decide) (backOf (W := 0) (c_getc l Z a0 hw [] ta kb (8 : Int32) [(.int (oW c0)), (.int (oH c0)), (.int (oW c1)), (.int (oH c1)), (.int (oW c2)), (.int (oH c2)), (.int (oW c3)), (.int (oH c3))] (3 : Int32) c3 6 h0 n0 Z0 Ks ⟨by decide +kernel, by decide +kernel⟩ ⟨by decide +kernel, by decide +kernel⟩ (by decide +kernel) (by decide +kernel) rfl rfl hc3 SA SHI SLO X00) hZ (Wd103 hw) (Wd74 hw) (by decide) (by decide)) (g := (fr_xuu4 m ta 12 (vI 3) [(iV 3), (.ref ta)])) rfl (by rw [hml]; rfl) (argsL := [(.ref ta), (iV 3)]) (rest := []) (lenOf pd_9 rfl) rfl (by show 2 * 0 + _ ≤ _; exact Nat.le_of_eq rfl) (D d30_12) (fun _ _ => ⟨rfl, Eq29, (by decide : 0 + 0 ≤ _), (by decide : 0 + 0 ≤ _)⟩)
    dsimp only [Pt.U, Pt.locs, Pt.cells, Pt.slots] at X33 l33 y33 z33 st33 hQ33
    subst l33 y33 z33
    obtain ⟨rfl, Nq33, Eq33⟩ := hQ33
    have N34 := Fr.app Nh31 Nq33
    obtain ⟨Lh35, Xh35, Nh35⟩ := oHd 0 0 X33 N34 rfl rfl
    refine ownBy st33 ?_
    clear st33
    show ownG p.tables e below _ (T33.setTop (fr_xuu4 m ta 15 (vI 3) [(.int c3)]))
    refine ownBy (A := T33.setTop (fr_xuu4 m ta 16 (vI 3) [(iV 42), (.int c3)])) (fun t kt => ?_) ?_
    ·refine XS.iloadN Xh35.here hx rfl (D d30_15) rfl ?_
     exact kt
    by_cases hc36 : c3 = (42 : Int32)
    ·skip
     refine ownBy (A := T33.setTop (fr_xuu4 m ta 21 (vI 3) [(iV 3)])) (fun t kt => ?_) ?_
     ·refine XS.icmpNo Xh35.here hx rfl (D d30_16) rfl (teq hc36).2 ?_
      refine XS.iload Xh35.here hx rfl (D d30_19) rfl ?_
      exact kt
     refine ownRet Xh35 Bd.notSynchronized (v := some (iV 3)) (fun h => by rw [Bd.returns] at h; cases h) ?_ (oLe rfl) (oLe rfl) (fun fs hr => retI Xh35 hx Bd.returns (D d30_21) hr)
     show (Q_xuu4 Z ta kb c0 c1 c2 c3 h0 n0) (some (iV 3)) T33.heap _
     rw [Eq33]
     exact ⟨_, rfl, Nh35, rfl, Or.inr ⟨by decide, Or.inr (Or.inr (Or.inr (hc36)))⟩⟩
    ·skip
     refine ownBy (A := T33.setTop (fr_xuu4 m ta 29 (vI 4) [(.int (-1 : Int32))])) (fun t kt => ?_) ?_
     ·refine XS.icmpYes Xh35.here hx rfl (pc0 := 16) (pc' := 22) rfl (D d30_16) rfl (feq hc36).2 (by decide) (by decide) ?_
      refine XS.iinc Xh35.here hx rfl (D d30_22) rfl (l' := #[vR ta, vI 42, vI 0, vI 4, vI 4]) rfl ?_
      refine XS.goto Xh35.here hx rfl (pc0 := 25) (pc' := 3) rfl (D d30_25) (by decide) (by decide) ?_
      refine XS.iload Xh35.here hx rfl (D d30_3) rfl ?_
      show Steps p.tables e below (T33.setTop (fr_xuu4 m ta 5 (vI 4) [(iV 4)])) t
      refine XS.iloadN Xh35.here hx rfl (D d30_5) rfl ?_
      refine XS.icmpYes Xh35.here hx rfl (pc0 := 6) (pc' := 28) rfl (D d30_6) rfl (flt ((by decide) : ¬ ((4 : Int32) < (4 : Int32)))).2.1 (by decide) (by decide) ?_
      refine XS.iconst Xh35.here hx rfl (D d30_28) ?_
      exact kt
     refine ownRet Xh35 Bd.notSynchronized (v := some (.int (-1 : Int32))) (fun h => by rw [Bd.returns] at h; cases h) ?_ (oLe rfl) (oLe rfl) (fun fs hr => retI Xh35 hx Bd.returns (D d30_29) hr)
     show (Q_xuu4 Z ta kb c0 c1 c2 c3 h0 n0) (some (.int (-1 : Int32))) T33.heap _
     rw [Eq33]
     exact ⟨_, rfl, Nh35, rfl, Or.inl ⟨by decide, (fun q => q.elim hc24 (fun q => q.elim hc28 (fun q => q.elim hc32 hc36)))⟩⟩
theorem hb4 (l : Launch) (Z : State) (a0 : Array Value) (hw : ∀ d ∈ tables_1, d.before a0 Z = true) (x : Addr) (ta : Addr) (kb : ClassId) (cd : Int32) (z : Int32) (vs : List Value) (c0 : Int32) (c1 : Int32) (c2 : Int32) (c3 : Int32) (G1 : Int32) (G3 : Value) (hrel : ((cd = (0 : Int32) ∧ z = (4 : Int32) ∧ vs = [(.int (oL c0)), (.int (oL c1)), (.int (oL c2)), (.int (oL c3))] ∧ ¬ ((255 : Int32) < c0) ∧ ¬ ((255 : Int32) < c1) ∧ ¬ ((255 : Int32) < c2) ∧ ¬ ((255 : Int32) < c3)) ∨ (cd = (1 : Int32) ∧ z = (8 : Int32) ∧ vs = [(.int (oW c0)), (.int (oH c0)), (.int (oW c1)), (.int (oH c1)), (.int (oW c2)), (.int (oH c2)), (.int (oW c3)), (.int (oH c3))] ∧ ((255 : Int32) < c0 ∨ (255 : Int32) < c1 ∨ (255 : Int32) < c2 ∨ (255 : Int32) < c3)))) (hc0 : ¬ c0 < 0 ∧ ¬ (65535 : Int32) < c0) (hc1 : ¬ c1 < 0 ∧ ¬ (65535 : Int32) < c1) (hc2 : ¬ c2 < 0 ∧ ¬ (65535 : Int32) < c2) (hc3 : ¬ c3 < 0 ∧ ¬ (65535 : Int32) < c3) (O2 : Sta Z Z.heap "java/lang/String" "COMPACT_STRINGS" "Z" (.int G1)) (P5 : ¬ (G1 = (0 : Int32))) (SA : Sta Z Z.heap "java/lang/StringUTF16" "$assertionsDisabled" "Z" (iV 1)) (SHI : Sta Z Z.heap "java/lang/StringUTF16" "HI_BYTE_SHIFT" "I" (iV 0)) (SLO : Sta Z Z.heap "java/lang/StringUTF16" "LO_BYTE_SHIFT" "I" (iV 8)) (O4 : Sta Z Z.heap "jdk/internal/util/Preconditions" "SIOOBE_FORMATTER" "Ljava/util/function/BiFunction;" G3) (rG3 : G3.isRef = true) : ∀ (H : Heap) (n1 : Nat), n1 ≤ H.size → Exa Z H x "java/lang/String" → Fld Z H x "java/lang/String" "value" "[B" (.ref ta) → Fld Z H x "java/lang/String" "coder" "B" (.int cd) → Arv Z H ta kb .byte z vs (iV 0) → Old Z n1 H → MetFree l yM25 (head1 (Jvm.Cond.code yM25 jdk_42_method_80_code 3 (some .int) :: []) ({ frames := 5, cells := 0, slots := 0, locals := 73 } : Room)) (fun a U => a = #[(.ref x), (iV 42), (iV 0)] ∧ Z.Warmed39 U.vm ∧ U.heap = H) (fun _ _ _ _ _ => True) (fun _ U o U' => ∃ v L, o = .returned v ∧ (QX (c0 = (42 : Int32) ∨ c1 = (42 : Int32) ∨ c2 = (42 : Int32) ∨ c3 = (42 : Int32)) H n1) v U'.heap L ∧ FrameEnd U o U' L ({ frames := 5, cells := 0, slots := 0, locals := 73 } : Room).cells ({ frames := 5, cells := 0, slots := 0, locals := 73 } : Room).slots) := by
 rcases hrel with ⟨rfl, rfl, rfl, hnl0, hnl1, hnl2, hnl3⟩ | ⟨rfl, rfl, rfl, hgt⟩
 ·exact fun H n1 zz E V C K X => c_xbl l Z a0 hw [] x ta kb (4 : Int32) [(.int (oL c0)), (.int (oL c1)), (.int (oL c2)), (.int (oL c3))] (c0 = (42 : Int32) ∨ c1 = (42 : Int32) ∨ c2 = (42 : Int32) ∨ c3 = (42 : Int32)) G1 H n1 zz E V C K (by decide +kernel) (by decide) (fun H n1 zz K => c_xol4 l Z a0 hw [] ta kb c0 c1 c2 c3 H n1 zz K hc0 hc1 hc2 hc3 hnl0 hnl1 hnl2 hnl3) O2 P5 X
 ·exact fun H n1 zz E V C K X => c_xbu l Z a0 hw [] x ta kb (8 : Int32) (4 : Int32) [(.int (oW c0)), (.int (oH c0)), (.int (oW c1)), (.int (oH c1)), (.int (oW c2)), (.int (oH c2)), (.int (oW c3)), (.int (oH c3))] (c0 = (42 : Int32) ∨ c1 = (42 : Int32) ∨ c2 = (42 : Int32) ∨ c3 = (42 : Int32)) G1 G3 H n1 zz E V C K (by decide +kernel) (by decide) (by decide) (fun H n1 zz K X => c_xuu4 l Z a0 hw [] ta kb c0 c1 c2 c3 H n1 zz K hc0 hc1 hc2 hc3 SA SHI SLO X) O2 P5 O4 rG3 X
abbrev fr_xol5 (m : MethodId) (ta : Addr) (pc : Nat) (x5_ : Slot) (st : List Value) : JFrame := mkF m pc #[vR ta, vI 42, vI 0, vI 5, vI 42, x5_] st
def Q_xol5 (Z : State) (ta : Addr) (kb : ClassId) (c0 : Int32) (c1 : Int32) (c2 : Int32) (c3 : Int32) (c4 : Int32) (h0 : Heap) (n0 : Nat) (v : Option Value) (h : Heap) (L : List Loc) : Prop := QX (c0 = (42 : Int32) ∨ c1 = (42 : Int32) ∨ c2 = (42 : Int32) ∨ c3 = (42 : Int32) ∨ c4 = (42 : Int32)) h0 n0 v h L
theorem ef_xol5 (m : MethodId) (x0 : Addr) (x1 : Int32) (x2 : Int32) (x3 : Int32)  : entryFrame m #[(.ref x0), (.int x1), (.int x2), (.int x3)] 6 = mkF m 0 #[vR x0, vI x1, vI x2, vI x3, .unset, .unset] [] := by first | (simp [entryFrame, mkF, argsToLocals, Value.category]; done) | rfl
set_option maxRecDepth 65536 in
set_option maxHeartbeats 40000000 in
theorem c_xol5 (l : Launch) (Z : State) (a0 : Array Value) (hw : ∀ d ∈ tables_1, d.before a0 Z = true) (ws : List Jvm.Cond) (ta : Addr) (kb : ClassId) (c0 : Int32) (c1 : Int32) (c2 : Int32) (c3 : Int32) (c4 : Int32) (h0 : Heap) (n0 : Nat) (Z0 : n0 ≤ h0.size) (Ks : Arv Z h0 ta kb .byte (5 : Int32) [(.int (oL c0)), (.int (oL c1)), (.int (oL c2)), (.int (oL c3)), (.int (oL c4))] (iV 0)) (hc0 : ¬ c0 < 0 ∧ ¬ (65535 : Int32) < c0) (hc1 : ¬ c1 < 0 ∧ ¬ (65535 : Int32) < c1) (hc2 : ¬ c2 < 0 ∧ ¬ (65535 : Int32) < c2) (hc3 : ¬ c3 < 0 ∧ ¬ (65535 : Int32) < c3) (hc4 : ¬ c4 < 0 ∧ ¬ (65535 : Int32) < c4) (hnl0 : ¬ ((255 : Int32) < c0)) (hnl1 : ¬ ((255 : Int32) < c1)) (hnl2 : ¬ ((255 : Int32) < c2)) (hnl3 : ¬ ((255 : Int32) < c3)) (hnl4 : ¬ ((255 : Int32) < c4)) :
  MetFree l yM20 (head1 (Jvm.Cond.code yM20 jdk_43_method_23_code 6 (some .int) :: ws) ({ frames := 0, cells := 0, slots := 0, locals := 0 } : Room)) (fun a U => a = #[(.ref ta), (iV 42), (iV 0), (iV 5)] ∧ Z.Warmed39 U.vm ∧ U.heap = h0) (fun _ _ _ _ _ => True) (fun _ U o U' => ∃ v L, o = .returned v ∧ (Q_xol5 Z ta kb c0 c1 c2 c3 c4 h0 n0) v U'.heap L ∧ FrameEnd U o U' L ({ frames := 0, cells := 0, slots := 0, locals := 0 } : Room).cells ({ frames := 0, cells := 0, slots := 0, locals := 0 } : Room).slots) := by
 refine MetFree.of_bodySF (plainFor_of_name pn_11) hisR ?_
 intro p e s m args below meth c s₁ Bd hml0 hP hK
 obtain ⟨rfl, hZ, hHp⟩ := hP
 have hx := Bd.exec
 have D := fun {pc : Nat} {r} (h : decode _ pc = r) => hb Bd.bytes h
 have hml : c.maxLocals = 6 := hml0
 have hown : s.vm.findClass "java/lang/StringLatin1" = some m.cls := findClass_of_methodNamed Bd.named
 have hnm := (name_of_methodNamed Bd.named Bd.method).1
 have X0 : Stand p l e ({ frames := 0, cells := 0, slots := 0, locals := 0 } : Room) s m #[(.ref ta), (iV 42), (iV 0), (iV 5)] below meth c s₁ [] 0 0 := Stand.of_body Bd
 have e0 : s₁.heap = h0 := by rw [← hHp, Bd.state]; rfl
 have N0 := Fr.nil n0
 refine ownOut (P := (Q_xol5 Z ta kb c0 c1 c2 c3 c4 h0 n0)) ?_
 refine ownBy (A := s₁.setTop (mkF m 0 #[vR ta, vI 42, vI 0, vI 5, .unset, .unset] [])) (fun t k => castTop (ef_xol5 m ta (42 : Int32) (0 : Int32) (5 : Int32)) k) ?_
 refine ownBy (A := s₁.setTop (fr_xol5 m ta 16 (vI 0) [(iV 0), (.ref ta)])) (fun t kt => ?_) ?_
 ·refine XS.iloadN X0.here hx rfl (D d18_0) rfl ?_
  refine XS.i2b X0.here hx rfl (D d18_1) rfl ?_
  refine XS.istore X0.here hx rfl (D d18_2) rfl (l' := #[vR ta, vI 42, vI 0, vI 5, vI 42, .unset]) rfl ?_
  refine XS.iloadN X0.here hx rfl (D d18_4) rfl ?_
  show Steps p.tables e below (s₁.setTop (fr_xol5 m ta 5 .unset [(iV 0)])) t
  refine XS.istore X0.here hx rfl (D d18_5) rfl (l' := #[vR ta, vI 42, vI 0, vI 5, vI 42, vI 0]) rfl ?_
  refine XS.iload X0.here hx rfl (D d18_7) rfl ?_
  refine XS.iloadN X0.here hx rfl (D d18_9) rfl ?_
  refine XS.icmpNo X0.here hx rfl (D d18_10) rfl (tlt ((by decide) : (0 : Int32) < (5 : Int32))).2.1 ?_
  show Steps p.tables e below (s₁.setTop (fr_xol5 m ta 13 (vI 0) [])) t
  refine XS.aloadN X0.here hx rfl (D d18_13) rfl rfl ?_
  refine XS.iload X0.here hx rfl (D d18_14) rfl ?_
  exact kt
 obtain ⟨cl21, Ar21, q21, S21, N21, H21, G21⟩ := id Ks
 have hin21 : ¬ ((0 : Int32) < 0 ∨ cl21.slots.size ≤ ((0 : Int32)).toNatClampNeg) := inb_of S21 ⟨by decide, by decide⟩
 have hat21 : cl21.slots[((0 : Int32)).toNatClampNeg]? = some (.int (oL c0)) := H21.at hin21 rfl
 have st21 := X0.baloadBytes hx (j := (0 : Int32)) (v := (.int (oL c0))) (by rw [e0]; exact Ar21.1) (State.isArrayOf_alike hZ.alike Ar21.2.1) Ar21.2.2 hin21 hat21 (g := (fr_xol5 m ta 16 (vI 0) [(iV 0), (.ref ta)])) rfl rfl (D d18_16)
 refine ownBy st21 ?_
 show ownG p.tables e below _ (s₁.setTop (fr_xol5 m ta 17 (vI 0) [(.int (oL c0))]))
 refine ownBy (A := s₁.setTop (fr_xol5 m ta 19 (vI 0) [(iV 42), (.int (oL c0))])) (fun t kt => ?_) ?_
 ·refine XS.iload X0.here hx rfl (D d18_17) rfl ?_
  exact kt
 by_cases hc22 : (oL c0) = (42 : Int32)
 ·skip
  refine ownBy (A := s₁.setTop (fr_xol5 m ta 24 (vI 0) [(iV 0)])) (fun t kt => ?_) ?_
  ·refine XS.icmpNo X0.here hx rfl (D d18_19) rfl (teq hc22).2 ?_
   refine XS.iload X0.here hx rfl (D d18_22) rfl ?_
   exact kt
  refine ownRet X0 Bd.notSynchronized (v := some (iV 0)) (fun h => by rw [Bd.returns] at h; cases h) ?_ (oLe rfl) (oLe rfl) (fun fs hr => retI X0 hx Bd.returns (D d18_24) hr)
  show (Q_xol5 Z ta kb c0 c1 c2 c3 c4 h0 n0) (some (iV 0)) s₁.heap _
  rw [e0]
  exact ⟨_, rfl, N0, rfl, Or.inr ⟨by decide, Or.inl (own_of_lo hc0 hnl0 hc22)⟩⟩
 ·skip
  refine ownBy (A := s₁.setTop (fr_xol5 m ta 16 (vI 1) [(iV 1), (.ref ta)])) (fun t kt => ?_) ?_
  ·refine XS.icmpYes X0.here hx rfl (pc0 := 19) (pc' := 25) rfl (D d18_19) rfl (feq hc22).2 (by decide) (by decide) ?_
   refine XS.iinc X0.here hx rfl (D d18_25) rfl (l' := #[vR ta, vI 42, vI 0, vI 5, vI 42, vI 1]) rfl ?_
   refine XS.goto X0.here hx rfl (pc0 := 28) (pc' := 7) rfl (D d18_28) (by decide) (by decide) ?_
   refine XS.iload X0.here hx rfl (D d18_7) rfl ?_
   show Steps p.tables e below (s₁.setTop (fr_xol5 m ta 9 (vI 1) [(iV 1)])) t
   refine XS.iloadN X0.here hx rfl (D d18_9) rfl ?_
   refine XS.icmpNo X0.here hx rfl (D d18_10) rfl (tlt ((by decide) : (1 : Int32) < (5 : Int32))).2.1 ?_
   refine XS.aloadN X0.here hx rfl (D d18_13) rfl rfl ?_
   refine XS.iload X0.here hx rfl (D d18_14) rfl ?_
   exact kt
  obtain ⟨cl23, Ar23, q23, S23, N23, H23, G23⟩ := id Ks
  have hin23 : ¬ ((1 : Int32) < 0 ∨ cl23.slots.size ≤ ((1 : Int32)).toNatClampNeg) := inb_of S23 ⟨by decide, by decide⟩
  have hat23 : cl23.slots[((1 : Int32)).toNatClampNeg]? = some (.int (oL c1)) := H23.at hin23 rfl
  have st23 := X0.baloadBytes hx (j := (1 : Int32)) (v := (.int (oL c1))) (by rw [e0]; exact Ar23.1) (State.isArrayOf_alike hZ.alike Ar23.2.1) Ar23.2.2 hin23 hat23 (g := (fr_xol5 m ta 16 (vI 1) [(iV 1), (.ref ta)])) rfl rfl (D d18_16)
  refine ownBy st23 ?_
  show ownG p.tables e below _ (s₁.setTop (fr_xol5 m ta 17 (vI 1) [(.int (oL c1))]))
  refine ownBy (A := s₁.setTop (fr_xol5 m ta 19 (vI 1) [(iV 42), (.int (oL c1))])) (fun t kt => ?_) ?_
  ·refine XS.iload X0.here hx rfl (D d18_17) rfl ?_
   exact kt
  by_cases hc24 : (oL c1) = (42 : Int32)
  ·skip
   refine ownBy (A := s₁.setTop (fr_xol5 m ta 24 (vI 1) [(iV 1)])) (fun t kt => ?_) ?_
   ·refine XS.icmpNo X0.here hx rfl (D d18_19) rfl (teq hc24).2 ?_
    refine XS.iload X0.here hx rfl (D d18_22) rfl ?_
    exact kt
   refine ownRet X0 Bd.notSynchronized (v := some (iV 1)) (fun h => by rw [Bd.returns] at h; cases h) ?_ (oLe rfl) (oLe rfl) (fun fs hr => retI X0 hx Bd.returns (D d18_24) hr)
   show (Q_xol5 Z ta kb c0 c1 c2 c3 c4 h0 n0) (some (iV 1)) s₁.heap _
   rw [e0]
   exact ⟨_, rfl, N0, rfl, Or.inr ⟨by decide, Or.inr (Or.inl (own_of_lo hc1 hnl1 hc24))⟩⟩
  ·skip
   refine ownBy (A := s₁.setTop (fr_xol5 m ta 16 (vI 2) [(iV 2), (.ref ta)])) (fun t kt => ?_) ?_
   ·refine XS.icmpYes X0.here hx rfl (pc0 := 19) (pc' := 25) rfl (D d18_19) rfl (feq hc24).2 (by decide) (by decide) ?_
    refine XS.iinc X0.here hx rfl (D d18_25) rfl (l' := #[vR ta, vI 42, vI 0, vI 5, vI 42, vI 2]) rfl ?_
    refine XS.goto X0.here hx rfl (pc0 := 28) (pc' := 7) rfl (D d18_28) (by decide) (by decide) ?_
    refine XS.iload X0.here hx rfl (D d18_7) rfl ?_
    show Steps p.tables e below (s₁.setTop (fr_xol5 m ta 9 (vI 2) [(iV 2)])) t
    refine XS.iloadN X0.here hx rfl (D d18_9) rfl ?_
    refine XS.icmpNo X0.here hx rfl (D d18_10) rfl (tlt ((by decide) : (2 : Int32) < (5 : Int32))).2.1 ?_
    refine XS.aloadN X0.here hx rfl (D d18_13) rfl rfl ?_
    refine XS.iload X0.here hx rfl (D d18_14) rfl ?_
    exact kt
   obtain ⟨cl25, Ar25, q25, S25, N25, H25, G25⟩ := id Ks
   have hin25 : ¬ ((2 : Int32) < 0 ∨ cl25.slots.size ≤ ((2 : Int32)).toNatClampNeg) := inb_of S25 ⟨by decide, by decide⟩
   have hat25 : cl25.slots[((2 : Int32)).toNatClampNeg]? = some (.int (oL c2)) := H25.at hin25 rfl
   have st25 := X0.baloadBytes hx (j := (2 : Int32)) (v := (.int (oL c2))) (by rw [e0]; exact Ar25.1) (State.isArrayOf_alike hZ.alike Ar25.2.1) Ar25.2.2 hin25 hat25 (g := (fr_xol5 m ta 16 (vI 2) [(iV 2), (.ref ta)])) rfl rfl (D d18_16)
   refine ownBy st25 ?_
   show ownG p.tables e below _ (s₁.setTop (fr_xol5 m ta 17 (vI 2) [(.int (oL c2))]))
   refine ownBy (A := s₁.setTop (fr_xol5 m ta 19 (vI 2) [(iV 42), (.int (oL c2))])) (fun t kt => ?_) ?_
   ·refine XS.iload X0.here hx rfl (D d18_17) rfl ?_
    exact kt
   by_cases hc26 : (oL c2) = (42 : Int32)
   ·skip
    refine ownBy (A := s₁.setTop (fr_xol5 m ta 24 (vI 2) [(iV 2)])) (fun t kt => ?_) ?_
    ·refine XS.icmpNo X0.here hx rfl (D d18_19) rfl (teq hc26).2 ?_
     refine XS.iload X0.here hx rfl (D d18_22) rfl ?_
     exact kt
    refine ownRet X0 Bd.notSynchronized (v := some (iV 2)) (fun h => by rw [Bd.returns] at h; cases h) ?_ (oLe rfl) (oLe rfl) (fun fs hr => retI X0 hx Bd.returns (D d18_24) hr)
    show (Q_xol5 Z ta kb c0 c1 c2 c3 c4 h0 n0) (some (iV 2)) s₁.heap _
    rw [e0]
    exact ⟨_, rfl, N0, rfl, Or.inr ⟨by decide, Or.inr (Or.inr (Or.inl (own_of_lo hc2 hnl2 hc26)))⟩⟩
   ·skip
    refine ownBy (A := s₁.setTop (fr_xol5 m ta 16 (vI 3) [(iV 3), (.ref ta)])) (fun t kt => ?_) ?_
    ·refine XS.icmpYes X0.here hx rfl (pc0 := 19) (pc' := 25) rfl (D d18_19) rfl (feq hc26).2 (by decide) (by decide) ?_
     refine XS.iinc X0.here hx rfl (D d18_25) rfl (l' := #[vR ta, vI 42, vI 0, vI 5, vI 42, vI 3]) rfl ?_
     refine XS.goto X0.here hx rfl (pc0 := 28) (pc' := 7) rfl (D d18_28) (by decide) (by decide) ?_
     refine XS.iload X0.here hx rfl (D d18_7) rfl ?_
     show Steps p.tables e below (s₁.setTop (fr_xol5 m ta 9 (vI 3) [(iV 3)])) t
     refine XS.iloadN X0.here hx rfl (D d18_9) rfl ?_
     refine XS.icmpNo X0.here hx rfl (D d18_10) rfl (tlt ((by decide) : (3 : Int32) < (5 : Int32))).2.1 ?_
     refine XS.aloadN X0.here hx rfl (D d18_13) rfl rfl ?_
     refine XS.iload X0.here hx rfl (D d18_14) rfl ?_
     exact kt
    obtain ⟨cl27, Ar27, q27, S27, N27, H27, G27⟩ := id Ks
    have hin27 : ¬ ((3 : Int32) < 0 ∨ cl27.slots.size ≤ ((3 : Int32)).toNatClampNeg) := inb_of S27 ⟨by decide, by decide⟩
    have hat27 : cl27.slots[((3 : Int32)).toNatClampNeg]? = some (.int (oL c3)) := H27.at hin27 rfl
    have st27 := X0.baloadBytes hx (j := (3 : Int32)) (v := (.int (oL c3))) (by rw [e0]; exact Ar27.1) (State.isArrayOf_alike hZ.alike Ar27.2.1) Ar27.2.2 hin27 hat27 (g := (fr_xol5 m ta 16 (vI 3) [(iV 3), (.ref ta)])) rfl rfl (D d18_16)
    refine ownBy st27 ?_
    show ownG p.tables e below _ (s₁.setTop (fr_xol5 m ta 17 (vI 3) [(.int (oL c3))]))
    refine ownBy (A := s₁.setTop (fr_xol5 m ta 19 (vI 3) [(iV 42), (.int (oL c3))])) (fun t kt => ?_) ?_
    ·refine XS.iload X0.here hx rfl (D d18_17) rfl ?_
     exact kt
    by_cases hc28 : (oL c3) = (42 : Int32)
    ·skip
     refine ownBy (A := s₁.setTop (fr_xol5 m ta 24 (vI 3) [(iV 3)])) (fun t kt => ?_) ?_
     ·refine XS.icmpNo X0.here hx rfl (D d18_19) rfl (teq hc28).2 ?_
      refine XS.iload X0.here hx rfl (D d18_22) rfl ?_
      exact kt
     refine ownRet X0 Bd.notSynchronized (v := some (iV 3)) (fun h => by rw [Bd.returns] at h; cases h) ?_ (oLe rfl) (oLe rfl) (fun fs hr => retI X0 hx Bd.returns (D d18_24) hr)
     show (Q_xol5 Z ta kb c0 c1 c2 c3 c4 h0 n0) (some (iV 3)) s₁.heap _
     rw [e0]
     exact ⟨_, rfl, N0, rfl, Or.inr ⟨by decide, Or.inr (Or.inr (Or.inr (Or.inl (own_of_lo hc3 hnl3 hc28))))⟩⟩
    ·skip
     refine ownBy (A := s₁.setTop (fr_xol5 m ta 16 (vI 4) [(iV 4), (.ref ta)])) (fun t kt => ?_) ?_
     ·refine XS.icmpYes X0.here hx rfl (pc0 := 19) (pc' := 25) rfl (D d18_19) rfl (feq hc28).2 (by decide) (by decide) ?_
      refine XS.iinc X0.here hx rfl (D d18_25) rfl (l' := #[vR ta, vI 42, vI 0, vI 5, vI 42, vI 4]) rfl ?_
      refine XS.goto X0.here hx rfl (pc0 := 28) (pc' := 7) rfl (D d18_28) (by decide) (by decide) ?_
      refine XS.iload X0.here hx rfl (D d18_7) rfl ?_
      show Steps p.tables e below (s₁.setTop (fr_xol5 m ta 9 (vI 4) [(iV 4)])) t
      refine XS.iloadN X0.here hx rfl (D d18_9) rfl ?_
      refine XS.icmpNo X0.here hx rfl (D d18_10) rfl (tlt ((by decide) : (4 : Int32) < (5 : Int32))).2.1 ?_
      refine XS.aloadN X0.here hx rfl (D d18_13) rfl rfl ?_
      refine XS.iload X0.here hx rfl (D d18_14) rfl ?_
      exact kt
     obtain ⟨cl29, Ar29, q29, S29, N29, H29, G29⟩ := id Ks
     have hin29 : ¬ ((4 : Int32) < 0 ∨ cl29.slots.size ≤ ((4 : Int32)).toNatClampNeg) := inb_of S29 ⟨by decide, by decide⟩
     have hat29 : cl29.slots[((4 : Int32)).toNatClampNeg]? = some (.int (oL c4)) := H29.at hin29 rfl
     have st29 := X0.baloadBytes hx (j := (4 : Int32)) (v := (.int (oL c4))) (by rw [e0]; exact Ar29.1) (State.isArrayOf_alike hZ.alike Ar29.2.1) Ar29.2.2 hin29 hat29 (g := (fr_xol5 m ta 16 (vI 4) [(iV 4), (.ref ta)])) rfl rfl (D d18_16)
     refine ownBy st29 ?_
     show ownG p.tables e below _ (s₁.setTop (fr_xol5 m ta 17 (vI 4) [(.int (oL c4))]))
     refine ownBy (A := s₁.setTop (fr_xol5 m ta 19 (vI 4) [(iV 42), (.int (oL c4))])) (fun t kt => ?_) ?_
     ·refine XS.iload X0.here hx rfl (D d18_17) rfl ?_
      exact kt
     by_cases hc30 : (oL c4) = (42 : Int32)
     ·skip
      refine ownBy (A := s₁.setTop (fr_xol5 m ta 24 (vI 4) [(iV 4)])) (fun t kt => ?_) ?_
      ·refine XS.icmpNo X0.here hx rfl (D d18_19) rfl (teq hc30).2 ?_
       refine XS.iload X0.here hx rfl (D d18_22) rfl ?_
       exact kt
      refine ownRet X0 Bd.notSynchronized (v := some (iV 4)) (fun h => by rw [Bd.returns] at h; cases h) ?_ (oLe rfl) (oLe rfl) (fun fs hr => retI X0 hx Bd.returns (D d18_24) hr)
      show (Q_xol5 Z ta kb c0 c1 c2 c3 c4 h0 n0) (some (iV 4)) s₁.heap _
      rw [e0]
      exact ⟨_, rfl, N0, rfl, Or.inr ⟨by decide, Or.inr (Or.inr (Or.inr (Or.inr ((own_of_lo hc4 hnl4 hc30)))))⟩⟩
     ·skip
      refine ownBy (A := s₁.setTop (fr_xol5 m ta 32 (vI 5) [(.int (-1 : Int32))])) (fun t kt => ?_) ?_
      ·refine XS.icmpYes X0.here hx rfl (pc0 := 19) (pc' := 25) rfl (D d18_19) rfl (feq hc30).2 (by decide) (by decide) ?_
       refine XS.iinc X0.here hx rfl (D d18_25) rfl (l' := #[vR ta, vI 42, vI 0, vI 5, vI 42, vI 5]) rfl ?_
       refine XS.goto X0.here hx rfl (pc0 := 28) (pc' := 7) rfl (D d18_28) (by decide) (by decide) ?_
       refine XS.iload X0.here hx rfl (D d18_7) rfl ?_
       show Steps p.tables e below (s₁.setTop (fr_xol5 m ta 9 (vI 5) [(iV 5)])) t
       refine XS.iloadN X0.here hx rfl (D d18_9) rfl ?_
       refine XS.icmpYes X0.here hx rfl (pc0 := 10) (pc' := 31) rfl (D d18_10) rfl (flt ((by decide) : ¬ ((5 : Int32) < (5 : Int32)))).2.1 (by decide) (by decide) ?_
       refine XS.iconst X0.here hx rfl (D d18_31) ?_
       exact kt
      refine ownRet X0 Bd.notSynchronized (v := some (.int (-1 : Int32))) (fun h => by rw [Bd.returns] at h; cases h) ?_ (oLe rfl) (oLe rfl) (fun fs hr => retI X0 hx Bd.returns (D d18_32) hr)
      show (Q_xol5 Z ta kb c0 c1 c2 c3 c4 h0 n0) (some (.int (-1 : Int32))) s₁.heap _
      rw [e0]
      exact ⟨_, rfl, N0, rfl, Or.inl ⟨by decide, (fun q => q.elim (fun q => hc22 (own_lo_of q)) (fun q => q.elim (fun q => hc24 (own_lo_of q)) (fun q => q.elim (fun q => hc26 (own_lo_of q)) (fun q => q.elim (fun q => hc28 (own_lo_of q)) (fun q => hc30 (own_lo_of q))))))⟩⟩
abbrev fr_xuu5 (m : MethodId) (ta : Addr) (pc : Nat) (x4_ : Slot) (st : List Value) : JFrame := mkF m pc #[vR ta, vI 42, vI 0, vI 5, x4_] st
def Q_xuu5 (Z : State) (ta : Addr) (kb : ClassId) (c0 : Int32) (c1 : Int32) (c2 : Int32) (c3 : Int32) (c4 : Int32) (h0 : Heap) (n0 : Nat) (v : Option Value) (h : Heap) (L : List Loc) : Prop := QX (c0 = (42 : Int32) ∨ c1 = (42 : Int32) ∨ c2 = (42 : Int32) ∨ c3 = (42 : Int32) ∨ c4 = (42 : Int32)) h0 n0 v h L
theorem ef_xuu5 (m : MethodId) (x0 : Addr) (x1 : Int32) (x2 : Int32) (x3 : Int32)  : entryFrame m #[(.ref x0), (.int x1), (.int x2), (.int x3)] 5 = mkF m 0 #[vR x0, vI x1, vI x2, vI x3, .unset] [] := by first | (simp [entryFrame, mkF, argsToLocals, Value.category]; done) | rfl
set_option maxRecDepth 65536 in
set_option maxHeartbeats 40000000 in
theorem c_xuu5 (l : Launch) (Z : State) (a0 : Array Value) (hw : ∀ d ∈ tables_1, d.before a0 Z = true) (ws : List Jvm.Cond) (ta : Addr) (kb : ClassId) (c0 : Int32) (c1 : Int32) (c2 : Int32) (c3 : Int32) (c4 : Int32) (h0 : Heap) (n0 : Nat) (Z0 : n0 ≤ h0.size) (Ks : Arv Z h0 ta kb .byte (10 : Int32) [(.int (oW c0)), (.int (oH c0)), (.int (oW c1)), (.int (oH c1)), (.int (oW c2)), (.int (oH c2)), (.int (oW c3)), (.int (oH c3)), (.int (oW c4)), (.int (oH c4))] (iV 0)) (hc0 : ¬ c0 < 0 ∧ ¬ (65535 : Int32) < c0) (hc1 : ¬ c1 < 0 ∧ ¬ (65535 : Int32) < c1) (hc2 : ¬ c2 < 0 ∧ ¬ (65535 : Int32) < c2) (hc3 : ¬ c3 < 0 ∧ ¬ (65535 : Int32) < c3) (hc4 : ¬ c4 < 0 ∧ ¬ (65535 : Int32) < c4) (SA : Sta Z Z.heap "java/lang/StringUTF16" "$assertionsDisabled" "Z" (iV 1)) (SHI : Sta Z Z.heap "java/lang/StringUTF16" "HI_BYTE_SHIFT" "I" (iV 0)) (SLO : Sta Z Z.heap "java/lang/StringUTF16" "LO_BYTE_SHIFT" "I" (iV 8)) (X00 : Old Z n0 h0) :
  MetFree l yM21 (head1 (Jvm.Cond.code yM21 jdk_52_method_48_code 5 (some .int) :: ws) ({ frames := 1, cells := 0, slots := 0, locals := 13 } : Room)) (fun a U => a = #[(.ref ta), (iV 42), (iV 0), (iV 5)] ∧ Z.Warmed39 U.vm ∧ U.heap = h0) (fun _ _ _ _ _ => True) (fun _ U o U' => ∃ v L, o = .returned v ∧ (Q_xuu5 Z ta kb c0 c1 c2 c3 c4 h0 n0) v U'.heap L ∧ FrameEnd U o U' L ({ frames := 1, cells := 0, slots := 0, locals := 13 } : Room).cells ({ frames := 1, cells := 0, slots := 0, locals := 13 } : Room).slots) := by
 refine MetFree.of_bodySF (plainFor_of_name pn_3) hisR ?_
 intro p e s m args below meth c s₁ Bd hml0 hP hK
 obtain ⟨rfl, hZ, hHp⟩ := hP
 have hx := Bd.exec
 have D := fun {pc : Nat} {r} (h : decode _ pc = r) => hb Bd.bytes h
 have hml : c.maxLocals = 5 := hml0
 have hown : s.vm.findClass "java/lang/StringUTF16" = some m.cls := findClass_of_methodNamed Bd.named
 have hnm := (name_of_methodNamed Bd.named Bd.method).1
 have X0 : Stand p l e ({ frames := 1, cells := 0, slots := 0, locals := 13 } : Room) s m #[(.ref ta), (iV 42), (iV 0), (iV 5)] below meth c s₁ [] 0 0 := Stand.of_body Bd
 have e0 : s₁.heap = h0 := by rw [← hHp, Bd.state]; rfl
 have N0 := Fr.nil n0
 refine ownOut (P := (Q_xuu5 Z ta kb c0 c1 c2 c3 c4 h0 n0)) ?_
 refine ownBy (A := s₁.setTop (mkF m 0 #[vR ta, vI 42, vI 0, vI 5, .unset] [])) (fun t k => castTop (ef_xuu5 m ta (42 : Int32) (0 : Int32) (5 : Int32)) k) ?_
 refine ownBy (A := s₁.setTop (fr_xuu5 m ta 12 (vI 0) [(iV 0), (.ref ta)])) (fun t kt => ?_) ?_
 ·refine XS.iloadN X0.here hx rfl (D d30_0) rfl ?_
  refine XS.istore X0.here hx rfl (D d30_1) rfl (l' := #[vR ta, vI 42, vI 0, vI 5, vI 0]) rfl ?_
  refine XS.iload X0.here hx rfl (D d30_3) rfl ?_
  refine XS.iloadN X0.here hx rfl (D d30_5) rfl ?_
  show Steps p.tables e below (s₁.setTop (fr_xuu5 m ta 6 (vI 0) [(iV 5), (iV 0)])) t
  refine XS.icmpNo X0.here hx rfl (D d30_6) rfl (tlt ((by decide) : (0 : Int32) < (5 : Int32))).2.1 ?_
  refine XS.aloadN X0.here hx rfl (D d30_9) rfl rfl ?_
  refine XS.iload X0.here hx rfl (D d30_10) rfl ?_
  exact kt
 obtain ⟨vv21, _, ⟨T21, L21, k21, n21⟩, -, X21, ⟨Lc21, hQ21, l21, y21, z21⟩, st21⟩ := Jvm.LawKit.callS X0 hx (y := yM5) hown (mvT hZ (Wd101 hw)) (mvT hZ (Wd102 hw)) (mvT hZ (Wd74 hw)) (mvT hZ (Wd103 hw)) (by decide) (backOf (W := 0) (c_getc l Z a0 hw [] ta kb (10 : Int32) [(.int (oW c0)), (.int (oH c0)), (.int (oW c1)), (.int (oH c1)), (.int (oW c2)), (.int (oH c2)), (.int (oW c3)), (.int (oH c3)), (.int (oW c4)), (.int (oH c4))] (0 : Int32) c0 0 h0 n0 Z0 Ks ⟨by decide +kernel, by decide +kernel⟩ ⟨by decide +kernel, by decide +kernel⟩ (by decide +kernel) (by decide +kernel) rfl rfl hc0 SA SHI SLO X00) hZ (Wd103 hw) (Wd74 hw) (by decide) (by decide)) (g := (fr_xuu5 m ta 12 (vI 0) [(iV 0), (.ref ta)])) rfl (by rw [hml]; rfl) (argsL := [(.ref ta), (iV 0)]) (rest := []) (lenOf pd_9 rfl) rfl (by show 2 * 0 + _ ≤ _; exact Nat.le_of_eq rfl) (D d30_12) (fun _ _ => ⟨rfl, e0, (by decide : 0 + 0 ≤ _), (by decide : 0 + 0 ≤ _)⟩)
 dsimp only [Pt.U, Pt.locs, Pt.cells, Pt.slots] at X21 l21 y21 z21 st21 hQ21
 subst l21 y21 z21
 obtain ⟨rfl, Nq21, Eq21⟩ := hQ21
 have N22 := Fr.app N0 Nq21
 obtain ⟨Lh23, Xh23, Nh23⟩ := oHd 0 0 X21 N22 rfl rfl
 refine ownBy st21 ?_
 clear st21
 show ownG p.tables e below _ (T21.setTop (fr_xuu5 m ta 15 (vI 0) [(.int c0)]))
 refine ownBy (A := T21.setTop (fr_xuu5 m ta 16 (vI 0) [(iV 42), (.int c0)])) (fun t kt => ?_) ?_
 ·refine XS.iloadN Xh23.here hx rfl (D d30_15) rfl ?_
  exact kt
 by_cases hc24 : c0 = (42 : Int32)
 ·skip
  refine ownBy (A := T21.setTop (fr_xuu5 m ta 21 (vI 0) [(iV 0)])) (fun t kt => ?_) ?_
  ·refine XS.icmpNo Xh23.here hx rfl (D d30_16) rfl (teq hc24).2 ?_
   refine XS.iload Xh23.here hx rfl (D d30_19) rfl ?_
   exact kt
  refine ownRet Xh23 Bd.notSynchronized (v := some (iV 0)) (fun h => by rw [Bd.returns] at h; cases h) ?_ (oLe rfl) (oLe rfl) (fun fs hr => retI Xh23 hx Bd.returns (D d30_21) hr)
  show (Q_xuu5 Z ta kb c0 c1 c2 c3 c4 h0 n0) (some (iV 0)) T21.heap _
  rw [Eq21]
  exact ⟨_, rfl, Nh23, rfl, Or.inr ⟨by decide, Or.inl hc24⟩⟩
 ·skip
  refine ownBy (A := T21.setTop (fr_xuu5 m ta 12 (vI 1) [(iV 1), (.ref ta)])) (fun t kt => ?_) ?_
  ·refine XS.icmpYes Xh23.here hx rfl (pc0 := 16) (pc' := 22) rfl (D d30_16) rfl (feq hc24).2 (by decide) (by decide) ?_
   refine XS.iinc Xh23.here hx rfl (D d30_22) rfl (l' := #[vR ta, vI 42, vI 0, vI 5, vI 1]) rfl ?_
   refine XS.goto Xh23.here hx rfl (pc0 := 25) (pc' := 3) rfl (D d30_25) (by decide) (by decide) ?_
   refine XS.iload Xh23.here hx rfl (D d30_3) rfl ?_
   show Steps p.tables e below (T21.setTop (fr_xuu5 m ta 5 (vI 1) [(iV 1)])) t
   refine XS.iloadN Xh23.here hx rfl (D d30_5) rfl ?_
   refine XS.icmpNo Xh23.here hx rfl (D d30_6) rfl (tlt ((by decide) : (1 : Int32) < (5 : Int32))).2.1 ?_
   refine XS.aloadN Xh23.here hx rfl (D d30_9) rfl rfl ?_
   refine XS.iload Xh23.here hx rfl (D d30_10) rfl ?_
   exact kt
  obtain ⟨vv25, _, ⟨T25, L25, k25, n25⟩, -, X25, ⟨Lc25, hQ25, l25, y25, z25⟩, st25⟩ := Jvm.LawKit.callS Xh23 hx (y := yM5) hown (mvT hZ (Wd101 hw)) (mvT hZ (Wd102 hw)) (mvT hZ (Wd74 hw)) (mvT hZ (Wd103 hw)) (by decide) (backOf (W := 0) (c_getc l Z a0 hw [] ta kb (10 : Int32) [(.int (oW c0)), (.int (oH c0)), (.int (oW c1)), (.int (oH c1)), (.int (oW c2)), (.int (oH c2)), (.int (oW c3)), (.int (oH c3)), (.int (oW c4)), (.int (oH c4))] (1 : Int32) c1 2 h0 n0 Z0 Ks ⟨by decide +kernel, by decide +kernel⟩ ⟨by decide +kernel, by decide +kernel⟩ (by decide +kernel) (by decide +kernel) rfl rfl hc1 SA SHI SLO X00) hZ (Wd103 hw) (Wd74 hw) (by decide) (by decide)) (g := (fr_xuu5 m ta 12 (vI 1) [(iV 1), (.ref ta)])) rfl (by rw [hml]; rfl) (argsL := [(.ref ta), (iV 1)]) (rest := []) (lenOf pd_9 rfl) rfl (by show 2 * 0 + _ ≤ _; exact Nat.le_of_eq rfl) (D d30_12) (fun _ _ => ⟨rfl, Eq21, (by decide : 0 + 0 ≤ _), (by decide : 0 + 0 ≤ _)⟩)
  dsimp only [Pt.U, Pt.locs, Pt.cells, Pt.slots] at X25 l25 y25 z25 st25 hQ25
  subst l25 y25 z25
  obtain ⟨rfl, Nq25, Eq25⟩ := hQ25
  have N26 := Fr.app Nh23 Nq25
  obtain ⟨Lh27, Xh27, Nh27⟩ := oHd 0 0 X25 N26 rfl rfl
  refine ownBy st25 ?_
  clear st25
  show ownG p.tables e below _ (T25.setTop (fr_xuu5 m ta 15 (vI 1) [(.int c1)]))
  refine ownBy (A := T25.setTop (fr_xuu5 m ta 16 (vI 1) [(iV 42), (.int c1)])) (fun t kt => ?_) ?_
  ·refine XS.iloadN Xh27.here hx rfl (D d30_15) rfl ?_
   exact kt
  by_cases hc28 : c1 = (42 : Int32)
  ·skip
   refine ownBy (A := T25.setTop (fr_xuu5 m ta 21 (vI 1) [(iV 1)])) (fun t kt => ?_) ?_
   ·refine XS.icmpNo Xh27.here hx rfl (D d30_16) rfl (teq hc28).2 ?_
    refine XS.iload Xh27.here hx rfl (D d30_19) rfl ?_
    exact kt
   refine ownRet Xh27 Bd.notSynchronized (v := some (iV 1)) (fun h => by rw [Bd.returns] at h; cases h) ?_ (oLe rfl) (oLe rfl) (fun fs hr => retI Xh27 hx Bd.returns (D d30_21) hr)
   show (Q_xuu5 Z ta kb c0 c1 c2 c3 c4 h0 n0) (some (iV 1)) T25.heap _
   rw [Eq25]
   exact ⟨_, rfl, Nh27, rfl, Or.inr ⟨by decide, Or.inr (Or.inl hc28)⟩⟩
  ·skip
   refine ownBy (A := T25.setTop (fr_xuu5 m ta 12 (vI 2) [(iV 2), (.ref ta)])) (fun t kt => ?_) ?_
   ·refine XS.icmpYes Xh27.here hx rfl (pc0 := 16) (pc' := 22) rfl (D d30_16) rfl (feq hc28).2 (by decide) (by decide) ?_
    refine XS.iinc Xh27.here hx rfl (D d30_22) rfl (l' := #[vR ta, vI 42, vI 0, vI 5, vI 2]) rfl ?_
    refine XS.goto Xh27.here hx rfl (pc0 := 25) (pc' := 3) rfl (D d30_25) (by decide) (by decide) ?_
    refine XS.iload Xh27.here hx rfl (D d30_3) rfl ?_
    show Steps p.tables e below (T25.setTop (fr_xuu5 m ta 5 (vI 2) [(iV 2)])) t
    refine XS.iloadN Xh27.here hx rfl (D d30_5) rfl ?_
    refine XS.icmpNo Xh27.here hx rfl (D d30_6) rfl (tlt ((by decide) : (2 : Int32) < (5 : Int32))).2.1 ?_
    refine XS.aloadN Xh27.here hx rfl (D d30_9) rfl rfl ?_
    refine XS.iload Xh27.here hx rfl (D d30_10) rfl ?_
    exact kt
   obtain ⟨vv29, _, ⟨T29, L29, k29, n29⟩, -, X29, ⟨Lc29, hQ29, l29, y29, z29⟩, st29⟩ := Jvm.LawKit.callS Xh27 hx (y := yM5) hown (mvT hZ (Wd101 hw)) (mvT hZ (Wd102 hw)) (mvT hZ (Wd74 hw)) (mvT hZ (Wd103 hw)) (by decide) (backOf (W := 0) (c_getc l Z a0 hw [] ta kb (10 : Int32) [(.int (oW c0)), (.int (oH c0)), (.int (oW c1)), (.int (oH c1)), (.int (oW c2)), (.int (oH c2)), (.int (oW c3)), (.int (oH c3)), (.int (oW c4)), (.int (oH c4))] (2 : Int32) c2 4 h0 n0 Z0 Ks ⟨by decide +kernel, by decide +kernel⟩ ⟨by decide +kernel, by decide +kernel⟩ (by decide +kernel) (by decide +kernel) rfl rfl hc2 SA SHI SLO X00) hZ (Wd103 hw) (Wd74 hw) (by decide) (by decide)) (g := (fr_xuu5 m ta 12 (vI 2) [(iV 2), (.ref ta)])) rfl (by rw [hml]; rfl) (argsL := [(.ref ta), (iV 2)]) (rest := []) (lenOf pd_9 rfl) rfl (by show 2 * 0 + _ ≤ _; exact Nat.le_of_eq rfl) (D d30_12) (fun _ _ => ⟨rfl, Eq25, (by decide : 0 + 0 ≤ _), (by decide : 0 + 0 ≤ _)⟩)
   dsimp only [Pt.U, Pt.locs, Pt.cells, Pt.slots] at X29 l29 y29 z29 st29 hQ29
   subst l29 y29 z29
   obtain ⟨rfl, Nq29, Eq29⟩ := hQ29
   have N30 := Fr.app Nh27 Nq29
   obtain ⟨Lh31, Xh31, Nh31⟩ := oHd 0 0 X29 N30 rfl rfl
   refine ownBy st29 ?_
   clear st29
   show ownG p.tables e below _ (T29.setTop (fr_xuu5 m ta 15 (vI 2) [(.int c2)]))
   refine ownBy (A := T29.setTop (fr_xuu5 m ta 16 (vI 2) [(iV 42), (.int c2)])) (fun t kt => ?_) ?_
   ·refine XS.iloadN Xh31.here hx rfl (D d30_15) rfl ?_
    exact kt
   by_cases hc32 : c2 = (42 : Int32)
   ·skip
    refine ownBy (A := T29.setTop (fr_xuu5 m ta 21 (vI 2) [(iV 2)])) (fun t kt => ?_) ?_
    ·refine XS.icmpNo Xh31.here hx rfl (D d30_16) rfl (teq hc32).2 ?_
     refine XS.iload Xh31.here hx rfl (D d30_19) rfl ?_
     exact kt
    refine ownRet Xh31 Bd.notSynchronized (v := some (iV 2)) (fun h => by rw [Bd.returns] at h; cases h) ?_ (oLe rfl) (oLe rfl) (fun fs hr => retI Xh31 hx Bd.returns (D d30_21) hr)
    show (Q_xuu5 Z ta kb c0 c1 c2 c3 c4 h0 n0) (some (iV 2)) T29.heap _
    rw [Eq29]
    exact ⟨_, rfl, Nh31, rfl, Or.inr ⟨by decide, Or.inr (Or.inr (Or.inl hc32))⟩⟩
   ·skip
    refine ownBy (A := T29.setTop (fr_xuu5 m ta 12 (vI 3) [(iV 3), (.ref ta)])) (fun t kt => ?_) ?_
    ·refine XS.icmpYes Xh31.here hx rfl (pc0 := 16) (pc' := 22) rfl (D d30_16) rfl (feq hc32).2 (by decide) (by decide) ?_
     refine XS.iinc Xh31.here hx rfl (D d30_22) rfl (l' := #[vR ta, vI 42, vI 0, vI 5, vI 3]) rfl ?_
     refine XS.goto Xh31.here hx rfl (pc0 := 25) (pc' := 3) rfl (D d30_25) (by decide) (by decide) ?_
     refine XS.iload Xh31.here hx rfl (D d30_3) rfl ?_
     show Steps p.tables e below (T29.setTop (fr_xuu5 m ta 5 (vI 3) [(iV 3)])) t
     refine XS.iloadN Xh31.here hx rfl (D d30_5) rfl ?_
     refine XS.icmpNo Xh31.here hx rfl (D d30_6) rfl (tlt ((by decide) : (3 : Int32) < (5 : Int32))).2.1 ?_
     refine XS.aloadN Xh31.here hx rfl (D d30_9) rfl rfl ?_
     refine XS.iload Xh31.here hx rfl (D d30_10) rfl ?_
     exact kt
    obtain ⟨vv33, _, ⟨T33, L33, k33, n33⟩, -, X33, ⟨Lc33, hQ33, l33, y33, z33⟩, st33⟩ := Jvm.LawKit.callS Xh31 hx (y := yM5) hown (mvT hZ (Wd101 hw)) (mvT hZ (Wd102 hw)) (mvT hZ (Wd74 hw)) (mvT hZ (Wd103 hw)) (by decide) (backOf (W := 0) (c_getc l Z a0 hw [] ta kb (10 : Int32) [(.int (oW c0)), (.int (oH c0)), (.int (oW c1)), (.int (oH c1)), (.int (oW c2)), (.int (oH c2)), (.int (oW c3)), (.int (oH c3)), (.int (oW c4)), (.int (oH c4))] (3 : Int32) c3 6 h0 n0 Z0 Ks ⟨by decide +kernel, by decide +kernel⟩ ⟨by decide +kernel, by decide +kernel⟩ (by decide +kernel) (by decide +kernel) rfl rfl hc3 SA SHI SLO X00) hZ (Wd103 hw) (Wd74 hw) (by decide) (by decide)) (g := (fr_xuu5 m ta 12 (vI 3) [(iV 3), (.ref ta)])) rfl (by rw [hml]; rfl) (argsL := [(.ref ta), (iV 3)]) (rest := []) (lenOf pd_9 rfl) rfl (by show 2 * 0 + _ ≤ _; exact Nat.le_of_eq rfl) (D d30_12) (fun _ _ => ⟨rfl, Eq29, (by decide : 0 + 0 ≤ _), (by decide : 0 + 0 ≤ _)⟩)
    dsimp only [Pt.U, Pt.locs, Pt.cells, Pt.slots] at X33 l33 y33 z33 st33 hQ33
    subst l33 y33 z33
    obtain ⟨rfl, Nq33, Eq33⟩ := hQ33
    have N34 := Fr.app Nh31 Nq33
    obtain ⟨Lh35, Xh35, Nh35⟩ := oHd 0 0 X33 N34 rfl rfl
    refine ownBy st33 ?_
    clear st33
    show ownG p.tables e below _ (T33.setTop (fr_xuu5 m ta 15 (vI 3) [(.int c3)]))
    refine ownBy (A := T33.setTop (fr_xuu5 m ta 16 (vI 3) [(iV 42), (.int c3)])) (fun t kt => ?_) ?_
    ·refine XS.iloadN Xh35.here hx rfl (D d30_15) rfl ?_
     exact kt
    by_cases hc36 : c3 = (42 : Int32)
    ·skip
     refine ownBy (A := T33.setTop (fr_xuu5 m ta 21 (vI 3) [(iV 3)])) (fun t kt => ?_) ?_
     ·refine XS.icmpNo Xh35.here hx rfl (D d30_16) rfl (teq hc36).2 ?_
      refine XS.iload Xh35.here hx rfl (D d30_19) rfl ?_
      exact kt
     refine ownRet Xh35 Bd.notSynchronized (v := some (iV 3)) (fun h => by rw [Bd.returns] at h; cases h) ?_ (oLe rfl) (oLe rfl) (fun fs hr => retI Xh35 hx Bd.returns (D d30_21) hr)
     show (Q_xuu5 Z ta kb c0 c1 c2 c3 c4 h0 n0) (some (iV 3)) T33.heap _
     rw [Eq33]
     exact ⟨_, rfl, Nh35, rfl, Or.inr ⟨by decide, Or.inr (Or.inr (Or.inr (Or.inl hc36)))⟩⟩
    ·skip
     refine ownBy (A := T33.setTop (fr_xuu5 m ta 12 (vI 4) [(iV 4), (.ref ta)])) (fun t kt => ?_) ?_
     ·refine XS.icmpYes Xh35.here hx rfl (pc0 := 16) (pc' := 22) rfl (D d30_16) rfl (feq hc36).2 (by decide) (by decide) ?_
      refine XS.iinc Xh35.here hx rfl (D d30_22) rfl (l' := #[vR ta, vI 42, vI 0, vI 5, vI 4]) rfl ?_
      refine XS.goto Xh35.here hx rfl (pc0 := 25) (pc' := 3) rfl (D d30_25) (by decide) (by decide) ?_
      refine XS.iload Xh35.here hx rfl (D d30_3) rfl ?_
      show Steps p.tables e below (T33.setTop (fr_xuu5 m ta 5 (vI 4) [(iV 4)])) t
      refine XS.iloadN Xh35.here hx rfl (D d30_5) rfl ?_
      refine XS.icmpNo Xh35.here hx rfl (D d30_6) rfl (tlt ((by decide) : (4 : Int32) < (5 : Int32))).2.1 ?_
      refine XS.aloadN Xh35.here hx rfl (D d30_9) rfl rfl ?_
      refine XS.iload Xh35.here hx rfl (D d30_10) rfl ?_
      exact kt
     obtain ⟨vv37, _, ⟨T37, L37, k37, n37⟩, -, X37, ⟨Lc37, hQ37, l37, y37, z37⟩, st37⟩ := Jvm.LawKit.callS Xh35 hx (y := yM5) hown (mvT hZ (Wd101 hw)) (mvT hZ (Wd102 hw)) (mvT hZ (Wd74 hw)) (mvT hZ (Wd103 hw)) (by decide) (backOf (W := 0) (c_getc l Z a0 hw [] ta kb (10 : Int32) [(.int (oW c0)), (.int (oH c0)), (.int (oW c1)), (.int (oH c1)), (.int (oW c2)), (.int (oH c2)), (.int (oW c3)), (.int (oH c3)), (.int (oW c4)), (.int (oH c4))] (4 : Int32) c4 8 h0 n0 Z0 Ks ⟨by decide +kernel, by decide +kernel⟩ ⟨by decide +kernel, by decide +kernel⟩ (by decide +kernel) (by decide +kernel) rfl rfl hc4 SA SHI SLO X00) hZ (Wd103 hw) (Wd74 hw) (by decide) (by decide)) (g := (fr_xuu5 m ta 12 (vI 4) [(iV 4), (.ref ta)])) rfl (by rw [hml]; rfl) (argsL := [(.ref ta), (iV 4)]) (rest := []) (lenOf pd_9 rfl) rfl (by show 2 * 0 + _ ≤ _; exact Nat.le_of_eq rfl) (D d30_12) (fun _ _ => ⟨rfl, Eq33, (by decide : 0 + 0 ≤ _), (by decide : 0 + 0 ≤ _)⟩)
     dsimp only [Pt.U, Pt.locs, Pt.cells, Pt.slots] at X37 l37 y37 z37 st37 hQ37
     subst l37 y37 z37
     obtain ⟨rfl, Nq37, Eq37⟩ := hQ37
     have N38 := Fr.app Nh35 Nq37
     obtain ⟨Lh39, Xh39, Nh39⟩ := oHd 0 0 X37 N38 rfl rfl
     refine ownBy st37 ?_
     clear st37
     show ownG p.tables e below _ (T37.setTop (fr_xuu5 m ta 15 (vI 4) [(.int c4)]))
     refine ownBy (A := T37.setTop (fr_xuu5 m ta 16 (vI 4) [(iV 42), (.int c4)])) (fun t kt => ?_) ?_
     ·refine XS.iloadN Xh39.here hx rfl (D d30_15) rfl ?_
      exact kt
     by_cases hc40 : c4 = (42 : Int32)
     ·skip
      refine ownBy (A := T37.setTop (fr_xuu5 m ta 21 (vI 4) [(iV 4)])) (fun t kt => ?_) ?_
      ·refine XS.icmpNo Xh39.here hx rfl (D d30_16) rfl (teq hc40).2 ?_
       refine XS.iload Xh39.here hx rfl (D d30_19) rfl ?_
       exact kt
      refine ownRet Xh39 Bd.notSynchronized (v := some (iV 4)) (fun h => by rw [Bd.returns] at h; cases h) ?_ (oLe rfl) (oLe rfl) (fun fs hr => retI Xh39 hx Bd.returns (D d30_21) hr)
      show (Q_xuu5 Z ta kb c0 c1 c2 c3 c4 h0 n0) (some (iV 4)) T37.heap _
      rw [Eq37]
      exact ⟨_, rfl, Nh39, rfl, Or.inr ⟨by decide, Or.inr (Or.inr (Or.inr (Or.inr (hc40))))⟩⟩
     ·skip
      refine ownBy (A := T37.setTop (fr_xuu5 m ta 29 (vI 5) [(.int (-1 : Int32))])) (fun t kt => ?_) ?_
      ·refine XS.icmpYes Xh39.here hx rfl (pc0 := 16) (pc' := 22) rfl (D d30_16) rfl (feq hc40).2 (by decide) (by decide) ?_
       refine XS.iinc Xh39.here hx rfl (D d30_22) rfl (l' := #[vR ta, vI 42, vI 0, vI 5, vI 5]) rfl ?_
       refine XS.goto Xh39.here hx rfl (pc0 := 25) (pc' := 3) rfl (D d30_25) (by decide) (by decide) ?_
       refine XS.iload Xh39.here hx rfl (D d30_3) rfl ?_
       show Steps p.tables e below (T37.setTop (fr_xuu5 m ta 5 (vI 5) [(iV 5)])) t
       refine XS.iloadN Xh39.here hx rfl (D d30_5) rfl ?_
       refine XS.icmpYes Xh39.here hx rfl (pc0 := 6) (pc' := 28) rfl (D d30_6) rfl (flt ((by decide) : ¬ ((5 : Int32) < (5 : Int32)))).2.1 (by decide) (by decide) ?_
       refine XS.iconst Xh39.here hx rfl (D d30_28) ?_
       exact kt
      refine ownRet Xh39 Bd.notSynchronized (v := some (.int (-1 : Int32))) (fun h => by rw [Bd.returns] at h; cases h) ?_ (oLe rfl) (oLe rfl) (fun fs hr => retI Xh39 hx Bd.returns (D d30_29) hr)
      show (Q_xuu5 Z ta kb c0 c1 c2 c3 c4 h0 n0) (some (.int (-1 : Int32))) T37.heap _
      rw [Eq37]
      exact ⟨_, rfl, Nh39, rfl, Or.inl ⟨by decide, (fun q => q.elim hc24 (fun q => q.elim hc28 (fun q => q.elim hc32 (fun q => q.elim hc36 hc40))))⟩⟩
theorem hb5 (l : Launch) (Z : State) (a0 : Array Value) (hw : ∀ d ∈ tables_1, d.before a0 Z = true) (x : Addr) (ta : Addr) (kb : ClassId) (cd : Int32) (z : Int32) (vs : List Value) (c0 : Int32) (c1 : Int32) (c2 : Int32) (c3 : Int32) (c4 : Int32) (G1 : Int32) (G3 : Value) (hrel : ((cd = (0 : Int32) ∧ z = (5 : Int32) ∧ vs = [(.int (oL c0)), (.int (oL c1)), (.int (oL c2)), (.int (oL c3)), (.int (oL c4))] ∧ ¬ ((255 : Int32) < c0) ∧ ¬ ((255 : Int32) < c1) ∧ ¬ ((255 : Int32) < c2) ∧ ¬ ((255 : Int32) < c3) ∧ ¬ ((255 : Int32) < c4)) ∨ (cd = (1 : Int32) ∧ z = (10 : Int32) ∧ vs = [(.int (oW c0)), (.int (oH c0)), (.int (oW c1)), (.int (oH c1)), (.int (oW c2)), (.int (oH c2)), (.int (oW c3)), (.int (oH c3)), (.int (oW c4)), (.int (oH c4))] ∧ ((255 : Int32) < c0 ∨ (255 : Int32) < c1 ∨ (255 : Int32) < c2 ∨ (255 : Int32) < c3 ∨ (255 : Int32) < c4)))) (hc0 : ¬ c0 < 0 ∧ ¬ (65535 : Int32) < c0) (hc1 : ¬ c1 < 0 ∧ ¬ (65535 : Int32) < c1) (hc2 : ¬ c2 < 0 ∧ ¬ (65535 : Int32) < c2) (hc3 : ¬ c3 < 0 ∧ ¬ (65535 : Int32) < c3) (hc4 : ¬ c4 < 0 ∧ ¬ (65535 : Int32) < c4) (O2 : Sta Z Z.heap "java/lang/String" "COMPACT_STRINGS" "Z" (.int G1)) (P5 : ¬ (G1 = (0 : Int32))) (SA : Sta Z Z.heap "java/lang/StringUTF16" "$assertionsDisabled" "Z" (iV 1)) (SHI : Sta Z Z.heap "java/lang/StringUTF16" "HI_BYTE_SHIFT" "I" (iV 0)) (SLO : Sta Z Z.heap "java/lang/StringUTF16" "LO_BYTE_SHIFT" "I" (iV 8)) (O4 : Sta Z Z.heap "jdk/internal/util/Preconditions" "SIOOBE_FORMATTER" "Ljava/util/function/BiFunction;" G3) (rG3 : G3.isRef = true) : ∀ (H : Heap) (n1 : Nat), n1 ≤ H.size → Exa Z H x "java/lang/String" → Fld Z H x "java/lang/String" "value" "[B" (.ref ta) → Fld Z H x "java/lang/String" "coder" "B" (.int cd) → Arv Z H ta kb .byte z vs (iV 0) → Old Z n1 H → MetFree l yM25 (head1 (Jvm.Cond.code yM25 jdk_42_method_80_code 3 (some .int) :: []) ({ frames := 5, cells := 0, slots := 0, locals := 73 } : Room)) (fun a U => a = #[(.ref x), (iV 42), (iV 0)] ∧ Z.Warmed39 U.vm ∧ U.heap = H) (fun _ _ _ _ _ => True) (fun _ U o U' => ∃ v L, o = .returned v ∧ (QX (c0 = (42 : Int32) ∨ c1 = (42 : Int32) ∨ c2 = (42 : Int32) ∨ c3 = (42 : Int32) ∨ c4 = (42 : Int32)) H n1) v U'.heap L ∧ FrameEnd U o U' L ({ frames := 5, cells := 0, slots := 0, locals := 73 } : Room).cells ({ frames := 5, cells := 0, slots := 0, locals := 73 } : Room).slots) := by
 rcases hrel with ⟨rfl, rfl, rfl, hnl0, hnl1, hnl2, hnl3, hnl4⟩ | ⟨rfl, rfl, rfl, hgt⟩
 ·exact fun H n1 zz E V C K X => c_xbl l Z a0 hw [] x ta kb (5 : Int32) [(.int (oL c0)), (.int (oL c1)), (.int (oL c2)), (.int (oL c3)), (.int (oL c4))] (c0 = (42 : Int32) ∨ c1 = (42 : Int32) ∨ c2 = (42 : Int32) ∨ c3 = (42 : Int32) ∨ c4 = (42 : Int32)) G1 H n1 zz E V C K (by decide +kernel) (by decide) (fun H n1 zz K => c_xol5 l Z a0 hw [] ta kb c0 c1 c2 c3 c4 H n1 zz K hc0 hc1 hc2 hc3 hc4 hnl0 hnl1 hnl2 hnl3 hnl4) O2 P5 X
 ·exact fun H n1 zz E V C K X => c_xbu l Z a0 hw [] x ta kb (10 : Int32) (5 : Int32) [(.int (oW c0)), (.int (oH c0)), (.int (oW c1)), (.int (oH c1)), (.int (oW c2)), (.int (oH c2)), (.int (oW c3)), (.int (oH c3)), (.int (oW c4)), (.int (oH c4))] (c0 = (42 : Int32) ∨ c1 = (42 : Int32) ∨ c2 = (42 : Int32) ∨ c3 = (42 : Int32) ∨ c4 = (42 : Int32)) G1 G3 H n1 zz E V C K (by decide +kernel) (by decide) (by decide) (fun H n1 zz K X => c_xuu5 l Z a0 hw [] ta kb c0 c1 c2 c3 c4 H n1 zz K hc0 hc1 hc2 hc3 hc4 SA SHI SLO X) O2 P5 O4 rG3 X
abbrev fr_ch (m : MethodId) (p1 : Int32) (pc : Nat)  (st : List Value) : JFrame := mkF m pc #[vI p1] st
def Q_ch (Z : State) (p1 : Int32) (h0 : Heap) (n0 : Nat) (v : Option Value) (h : Heap) (L : List Loc) : Prop := ∃ r : Int32, v = some (.int r) ∧ Fr n0 L ∧ h = h0 ∧ (¬ r < 0 ∧ ¬ (65535 : Int32) < r)
theorem ef_ch (m : MethodId) (x0 : Int32)  : entryFrame m #[(.int x0)] 1 = mkF m 0 #[vI x0] [] := by first | (simp [entryFrame, mkF, argsToLocals, Value.category]; done) | rfl
set_option maxRecDepth 65536 in
set_option maxHeartbeats 40000000 in
theorem c_ch (l : Launch) (Z : State) (a0 : Array Value) (hw : ∀ d ∈ tables_1, d.before a0 Z = true) (ws : List Jvm.Cond) (p1 : Int32) (h0 : Heap) (n0 : Nat) (Z0 : n0 ≤ h0.size) :
  MetFree l yM28 (head1 (Jvm.Cond.code yM28 method_2_code 1 (some .char) :: ws) ({ frames := 0, cells := 0, slots := 0, locals := 0 } : Room)) (fun a U => a = #[(.int p1)] ∧ Z.Warmed39 U.vm ∧ U.heap = h0) (fun _ _ _ _ _ => True) (fun _ U o U' => ∃ v L, o = .returned v ∧ (Q_ch Z p1 h0 n0) v U'.heap L ∧ FrameEnd U o U' L ({ frames := 0, cells := 0, slots := 0, locals := 0 } : Room).cells ({ frames := 0, cells := 0, slots := 0, locals := 0 } : Room).slots) := by
 refine MetFree.of_bodySF (plainFor_of_name pn_24) hisR ?_
 intro p e s m args below meth c s₁ Bd hml0 hP hK
 obtain ⟨rfl, hZ, hHp⟩ := hP
 have hx := Bd.exec
 have D := fun {pc : Nat} {r} (h : decode _ pc = r) => hb Bd.bytes h
 have hml : c.maxLocals = 1 := hml0
 have hown : s.vm.findClass "com/example/sakuin/sakuin/engine/WildcardIsInPinLaw" = some m.cls := findClass_of_methodNamed Bd.named
 have hnm := (name_of_methodNamed Bd.named Bd.method).1
 have X0 : Stand p l e ({ frames := 0, cells := 0, slots := 0, locals := 0 } : Room) s m #[(.int p1)] below meth c s₁ [] 0 0 := Stand.of_body Bd
 have e0 : s₁.heap = h0 := by rw [← hHp, Bd.state]; rfl
 have N0 := Fr.nil n0
 refine ownOut (P := (Q_ch Z p1 h0 n0)) ?_
 refine ownBy (A := s₁.setTop (mkF m 0 #[vI p1] [])) (fun t k => castTop (ef_ch m p1) k) ?_
 refine ownBy (A := s₁.setTop (fr_ch m p1 3  [(.int (p1 &&& (1 : Int32)))])) (fun t kt => ?_) ?_
 ·refine XS.iloadN X0.here hx rfl (D d1_0) rfl ?_
  refine XS.iconst X0.here hx rfl (D d1_1) ?_
  refine XS.iand X0.here hx rfl (D d1_2) rfl ?_
  exact kt
 by_cases hc21 : (p1 &&& (1 : Int32)) = (0 : Int32)
 ·skip
  refine ownBy (A := s₁.setTop (fr_ch m p1 8  [(iV 42)])) (fun t kt => ?_) ?_
  ·refine XS.ifNo X0.here hx rfl (D d1_3) rfl ((if0 _ _).trans (teq hc21).2) ?_
   refine XS.bipush X0.here hx rfl (D d1_6) ?_
   exact kt
  refine ownRet X0 Bd.notSynchronized (v := some (.int (nar .char (42 : Int32)))) (fun h => by rw [Bd.returns] at h; cases h) ?_ (oLe rfl) (oLe rfl) (fun fs hr => retN X0 hx (t := .char) Bd.returns (by simp) (D d1_8) hr)
  show (Q_ch Z p1 h0 n0) (some (.int (nar .char (42 : Int32)))) s₁.heap _
  rw [e0]
  exact ⟨_, rfl, N0, rfl, own_n16 _⟩
 ·skip
  refine ownBy (A := s₁.setTop (fr_ch m p1 12  [(.int ((p1.toUInt32 >>> ((1 : Int32) &&& 31).toUInt32).toInt32))])) (fun t kt => ?_) ?_
  ·refine XS.ifYes X0.here hx rfl (pc0 := 3) (pc' := 9) rfl (D d1_3) rfl ((if0 _ _).trans (feq hc21).2) (by decide) (by decide) ?_
   refine XS.iloadN X0.here hx rfl (D d1_9) rfl ?_
   refine XS.iconst X0.here hx rfl (D d1_10) ?_
   refine XS.iushr X0.here hx rfl (D d1_11) rfl ?_
   exact kt
  refine ownBy (X0.ldcInt hx hown (mvT hZ (Wd5 hw)) (g := (fr_ch m p1 12  [(.int ((p1.toUInt32 >>> ((1 : Int32) &&& 31).toUInt32).toInt32))])) rfl (D d1_12)) ?_
  show ownG p.tables e below _ (s₁.setTop (fr_ch m p1 14  [(iV 65535), (.int ((p1.toUInt32 >>> ((1 : Int32) &&& 31).toUInt32).toInt32))]))
  refine ownBy (A := s₁.setTop (fr_ch m p1 16  [(.int ((((p1.toUInt32 >>> ((1 : Int32) &&& 31).toUInt32).toInt32) &&& (65535 : Int32)).toUInt32.toUInt16.toUInt32.toInt32))])) (fun t kt => ?_) ?_
  ·refine XS.iand X0.here hx rfl (D d1_14) rfl ?_
   refine XS.i2c X0.here hx rfl (D d1_15) rfl ?_
   exact kt
  refine ownRet X0 Bd.notSynchronized (v := some (.int (nar .char ((((p1.toUInt32 >>> ((1 : Int32) &&& 31).toUInt32).toInt32) &&& (65535 : Int32)).toUInt32.toUInt16.toUInt32.toInt32)))) (fun h => by rw [Bd.returns] at h; cases h) ?_ (oLe rfl) (oLe rfl) (fun fs hr => retN X0 hx (t := .char) Bd.returns (by simp) (D d1_16) hr)
  show (Q_ch Z p1 h0 n0) (some (.int (nar .char ((((p1.toUInt32 >>> ((1 : Int32) &&& 31).toUInt32).toInt32) &&& (65535 : Int32)).toUInt32.toUInt16.toUInt32.toInt32)))) s₁.heap _
  rw [e0]
  exact ⟨_, rfl, N0, rfl, own_n16 _⟩
abbrev fr_law (m : MethodId) (p1 : Int32) (p2 : Int32) (p3 : Int32) (p4 : Int32) (p5 : Int32) (p6 : Int32) (pc : Nat) (x6_ x7_ x8_ x9_ x10_ x11_ x12_ x13_ x14_ : Slot) (st : List Value) : JFrame := mkF m pc #[vI p1, vI p2, vI p3, vI p4, vI p5, vI p6, x6_, x7_, x8_, x9_, x10_, x11_, x12_, x13_, x14_] st
def Q_law (Z : State) (p1 : Int32) (p2 : Int32) (p3 : Int32) (p4 : Int32) (p5 : Int32) (p6 : Int32) (G1 : Int32) (G3 : Value) (h0 : Heap) (n0 : Nat) (v : Option Value) (h : Heap) (L : List Loc) : Prop := v = some (.int 1) ∧ Fr n0 L
theorem ef_law (m : MethodId) (x0 : Int32) (x1 : Int32) (x2 : Int32) (x3 : Int32) (x4 : Int32) (x5 : Int32)  : entryFrame m #[(.int x0), (.int x1), (.int x2), (.int x3), (.int x4), (.int x5)] maxLocals = mkF m 0 #[vI x0, vI x1, vI x2, vI x3, vI x4, vI x5, .unset, .unset, .unset, .unset, .unset, .unset, .unset, .unset, .unset] [] := by first | (simp [entryFrame, mkF, argsToLocals, Value.category, maxLocals]; done) | rfl
set_option maxRecDepth 65536 in
set_option maxHeartbeats 40000000 in
theorem c_law (l : Launch) (Z : State) (a0 : Array Value) (hw : ∀ d ∈ tables_1, d.before a0 Z = true) (ws : List Jvm.Cond) (p1 : Int32) (p2 : Int32) (p3 : Int32) (p4 : Int32) (p5 : Int32) (p6 : Int32) (G1 : Int32) (G3 : Value) (h0 : Heap) (n0 : Nat) (Z0 : n0 ≤ h0.size) (O2 : Sta Z Z.heap "java/lang/String" "COMPACT_STRINGS" "Z" (.int G1)) (P5 : ¬ (G1 = (0 : Int32))) (SA : Sta Z Z.heap "java/lang/StringUTF16" "$assertionsDisabled" "Z" (iV 1)) (SHI : Sta Z Z.heap "java/lang/StringUTF16" "HI_BYTE_SHIFT" "I" (iV 0)) (SLO : Sta Z Z.heap "java/lang/StringUTF16" "LO_BYTE_SHIFT" "I" (iV 8)) (O4 : Sta Z Z.heap "jdk/internal/util/Preconditions" "SIOOBE_FORMATTER" "Ljava/util/function/BiFunction;" G3) (rG3 : G3.isRef = true) (X00 : Old Z n0 h0) :
  MetFree l x (head1 (Jvm.Cond.code x code maxLocals ret :: ws) room_1) (fun a U => a = #[(.int p1), (.int p2), (.int p3), (.int p4), (.int p5), (.int p6)] ∧ Z.Warmed39 U.vm ∧ U.heap = h0 ∧ CHv Z ownEL U.vm h0) (fun _ _ _ _ _ => True) (fun _ U o U' => ∃ v L, o = .returned v ∧ (Q_law Z p1 p2 p3 p4 p5 p6 G1 G3 h0 n0) v U'.heap L ∧ CHr Z ownEL U.vm U.heap U'.vm U'.heap ∧ ReturnedEndW U o U' L 24 1152) := by
 refine MetFree.of_bodySF (plainFor_of_name pn_24) hisR ?_
 intro p e s m args below meth c s₁ Bd hml0 hP hK
 obtain ⟨rfl, hZ, hHp, hCH⟩ := hP
 have hx := Bd.exec
 have D := fun {pc : Nat} {r} (h : decode _ pc = r) => hb Bd.bytes h
 have hml : c.maxLocals = 15 := hml0
 have hown : s.vm.findClass "com/example/sakuin/sakuin/engine/WildcardIsInPinLaw" = some m.cls := findClass_of_methodNamed Bd.named
 have hnm := (name_of_methodNamed Bd.named Bd.method).1
 have X0 : Stand p l e room_1 (s.setVm s.vm) m #[(.int p1), (.int p2), (.int p3), (.int p4), (.int p5), (.int p6)] below meth c s₁ [] 0 0 := Stand.of_body Bd
 have e0 : s₁.heap = h0 := by rw [← hHp, Bd.state]; rfl
 have N0 := Fr.nil n0
 refine ownOutH hHp (P := (Q_law Z p1 p2 p3 p4 p5 p6 G1 G3 h0 n0)) ?_
 refine ownBy (A := s₁.setTop (mkF m 0 #[vI p1, vI p2, vI p3, vI p4, vI p5, vI p6, .unset, .unset, .unset, .unset, .unset, .unset, .unset, .unset, .unset] [])) (fun t k => castTop (ef_law m p1 p2 p3 p4 p5 p6) k) ?_
 have hS0 : s.Since s.vm h0.size := own_since
 have hEL := own_EW hw
 have R0 := CHr.refl hCH
 have wS := own_wS hw
 refine ownBy (A := s₁.setTop (fr_law m p1 p2 p3 p4 p5 p6 1 .unset .unset .unset .unset .unset .unset .unset .unset .unset [(.int p1)])) (fun t kt => ?_) ?_
 ·refine XS.iloadN X0.here hx rfl (D at_0) rfl ?_
  exact kt
 refine ownBy (X0.ldcInt hx hown (mvT hZ (Wd0 hw)) (g := (fr_law m p1 p2 p3 p4 p5 p6 1 .unset .unset .unset .unset .unset .unset .unset .unset .unset [(.int p1)])) rfl (D at_1)) ?_
 show ownG p.tables e below _ (s₁.setTop (fr_law m p1 p2 p3 p4 p5 p6 3 .unset .unset .unset .unset .unset .unset .unset .unset .unset [(iV 2147483647), (.int p1)]))
 refine ownBy (A := s₁.setTop (fr_law m p1 p2 p3 p4 p5 p6 9 (.val (.int ((p1 &&& (2147483647 : Int32)) % (6 : Int32)))) .unset .unset .unset .unset .unset .unset .unset .unset [])) (fun t kt => ?_) ?_
 ·refine XS.iand X0.here hx rfl (D at_3) rfl ?_
  refine XS.bipush X0.here hx rfl (D at_4) ?_
  refine iremM X0 hx rfl (D at_6) rfl (by decide) ?_
  refine XS.istore X0.here hx rfl (D at_7) rfl (l' := #[vI p1, vI p2, vI p3, vI p4, vI p5, vI p6, .val (.int ((p1 &&& (2147483647 : Int32)) % (6 : Int32))), .unset, .unset, .unset, .unset, .unset, .unset, .unset, .unset]) rfl ?_
  exact kt
 show ownG p.tables e below _ (s₁.setTop (fr_law m p1 p2 p3 p4 p5 p6 9 (.val (.int ((p1 &&& (2147483647 : Int32)) % (6 : Int32)))) .unset .unset .unset .unset .unset .unset .unset .unset []))
 generalize hd_nn : ((p1 &&& (2147483647 : Int32)) % (6 : Int32)) = nn
 have hnn := own_six31 p1
 rw [hd_nn] at hnn
 clear hd_nn
 refine ownBy (A := s₁.setTop (fr_law m p1 p2 p3 p4 p5 p6 10 (vI nn) .unset .unset .unset .unset .unset .unset .unset .unset [(.int p2)])) (fun t kt => ?_) ?_
 ·refine XS.iloadN X0.here hx rfl (D at_9) rfl ?_
  exact kt
 obtain ⟨vv22, _, ⟨T22, L22, k22, n22⟩, -, X22, ⟨Lc22, hQ22, l22, y22, z22⟩, st22⟩ := Jvm.LawKit.callS X0 hx (y := yM28) hown (mvT hZ (Wd1 hw)) (mvT hZ (Wd2 hw)) (mvT hZ (Wd3 hw)) (mvT hZ (Wd4 hw)) (by decide) (backOf (W := 0) (c_ch l Z a0 hw [] p2 h0 n0 Z0 ) hZ (Wd4 hw) (Wd3 hw) (by decide) (by decide)) (g := (fr_law m p1 p2 p3 p4 p5 p6 10 (vI nn) .unset .unset .unset .unset .unset .unset .unset .unset [(.int p2)])) rfl (by rw [hml]; rfl) (argsL := [(.int p2)]) (rest := []) (lenOf pd_25 rfl) rfl (by show 2 * 0 + _ ≤ _; exact Nat.le_of_eq rfl) (D at_10) (fun _ _ => ⟨rfl, e0, (by decide : 0 + 0 ≤ _), (by decide : 0 + 0 ≤ _)⟩)
 dsimp only [Pt.U, Pt.locs, Pt.cells, Pt.slots] at X22 l22 y22 z22 st22 hQ22
 subst l22 y22 z22
 obtain ⟨r22, rfl, Nq22, Eq22, hR22⟩ := hQ22
 have N23 := Fr.app N0 Nq22
 obtain ⟨Lh24, Xh24, Nh24⟩ := oHd 0 0 X22 N23 rfl rfl
 refine ownBy st22 ?_
 clear st22
 show ownG p.tables e below _ (T22.setTop (fr_law m p1 p2 p3 p4 p5 p6 13 (vI nn) .unset .unset .unset .unset .unset .unset .unset .unset [(.int r22)]))
 refine ownBy (A := T22.setTop (fr_law m p1 p2 p3 p4 p5 p6 16 (vI nn) (vI r22) .unset .unset .unset .unset .unset .unset .unset [(.int p3)])) (fun t kt => ?_) ?_
 ·refine XS.istore Xh24.here hx rfl (D at_13) rfl (l' := #[vI p1, vI p2, vI p3, vI p4, vI p5, vI p6, vI nn, vI r22, .unset, .unset, .unset, .unset, .unset, .unset, .unset]) rfl ?_
  refine XS.iloadN Xh24.here hx rfl (D at_15) rfl ?_
  exact kt
 obtain ⟨vv25, _, ⟨T25, L25, k25, n25⟩, -, X25, ⟨Lc25, hQ25, l25, y25, z25⟩, st25⟩ := Jvm.LawKit.callS Xh24 hx (y := yM28) hown (mvT hZ (Wd1 hw)) (mvT hZ (Wd2 hw)) (mvT hZ (Wd3 hw)) (mvT hZ (Wd4 hw)) (by decide) (backOf (W := 0) (c_ch l Z a0 hw [] p3 h0 n0 Z0 ) hZ (Wd4 hw) (Wd3 hw) (by decide) (by decide)) (g := (fr_law m p1 p2 p3 p4 p5 p6 16 (vI nn) (vI r22) .unset .unset .unset .unset .unset .unset .unset [(.int p3)])) rfl (by rw [hml]; rfl) (argsL := [(.int p3)]) (rest := []) (lenOf pd_25 rfl) rfl (by show 2 * 0 + _ ≤ _; exact Nat.le_of_eq rfl) (D at_16) (fun _ _ => ⟨rfl, Eq22, (by decide : 0 + 0 ≤ _), (by decide : 0 + 0 ≤ _)⟩)
 dsimp only [Pt.U, Pt.locs, Pt.cells, Pt.slots] at X25 l25 y25 z25 st25 hQ25
 subst l25 y25 z25
 obtain ⟨r25, rfl, Nq25, Eq25, hR25⟩ := hQ25
 have N26 := Fr.app Nh24 Nq25
 obtain ⟨Lh27, Xh27, Nh27⟩ := oHd 0 0 X25 N26 rfl rfl
 refine ownBy st25 ?_
 clear st25
 show ownG p.tables e below _ (T25.setTop (fr_law m p1 p2 p3 p4 p5 p6 19 (vI nn) (vI r22) .unset .unset .unset .unset .unset .unset .unset [(.int r25)]))
 refine ownBy (A := T25.setTop (fr_law m p1 p2 p3 p4 p5 p6 22 (vI nn) (vI r22) (vI r25) .unset .unset .unset .unset .unset .unset [(.int p4)])) (fun t kt => ?_) ?_
 ·refine XS.istore Xh27.here hx rfl (D at_19) rfl (l' := #[vI p1, vI p2, vI p3, vI p4, vI p5, vI p6, vI nn, vI r22, vI r25, .unset, .unset, .unset, .unset, .unset, .unset]) rfl ?_
  refine XS.iloadN Xh27.here hx rfl (D at_21) rfl ?_
  exact kt
 obtain ⟨vv28, _, ⟨T28, L28, k28, n28⟩, -, X28, ⟨Lc28, hQ28, l28, y28, z28⟩, st28⟩ := Jvm.LawKit.callS Xh27 hx (y := yM28) hown (mvT hZ (Wd1 hw)) (mvT hZ (Wd2 hw)) (mvT hZ (Wd3 hw)) (mvT hZ (Wd4 hw)) (by decide) (backOf (W := 0) (c_ch l Z a0 hw [] p4 h0 n0 Z0 ) hZ (Wd4 hw) (Wd3 hw) (by decide) (by decide)) (g := (fr_law m p1 p2 p3 p4 p5 p6 22 (vI nn) (vI r22) (vI r25) .unset .unset .unset .unset .unset .unset [(.int p4)])) rfl (by rw [hml]; rfl) (argsL := [(.int p4)]) (rest := []) (lenOf pd_25 rfl) rfl (by show 2 * 0 + _ ≤ _; exact Nat.le_of_eq rfl) (D at_22) (fun _ _ => ⟨rfl, Eq25, (by decide : 0 + 0 ≤ _), (by decide : 0 + 0 ≤ _)⟩)
 dsimp only [Pt.U, Pt.locs, Pt.cells, Pt.slots] at X28 l28 y28 z28 st28 hQ28
 subst l28 y28 z28
 obtain ⟨r28, rfl, Nq28, Eq28, hR28⟩ := hQ28
 have N29 := Fr.app Nh27 Nq28
 obtain ⟨Lh30, Xh30, Nh30⟩ := oHd 0 0 X28 N29 rfl rfl
 refine ownBy st28 ?_
 clear st28
 show ownG p.tables e below _ (T28.setTop (fr_law m p1 p2 p3 p4 p5 p6 25 (vI nn) (vI r22) (vI r25) .unset .unset .unset .unset .unset .unset [(.int r28)]))
 refine ownBy (A := T28.setTop (fr_law m p1 p2 p3 p4 p5 p6 29 (vI nn) (vI r22) (vI r25) (vI r28) .unset .unset .unset .unset .unset [(.int p5)])) (fun t kt => ?_) ?_
 ·refine XS.istore Xh30.here hx rfl (D at_25) rfl (l' := #[vI p1, vI p2, vI p3, vI p4, vI p5, vI p6, vI nn, vI r22, vI r25, vI r28, .unset, .unset, .unset, .unset, .unset]) rfl ?_
  refine XS.iload Xh30.here hx rfl (D at_27) rfl ?_
  exact kt
 obtain ⟨vv31, _, ⟨T31, L31, k31, n31⟩, -, X31, ⟨Lc31, hQ31, l31, y31, z31⟩, st31⟩ := Jvm.LawKit.callS Xh30 hx (y := yM28) hown (mvT hZ (Wd1 hw)) (mvT hZ (Wd2 hw)) (mvT hZ (Wd3 hw)) (mvT hZ (Wd4 hw)) (by decide) (backOf (W := 0) (c_ch l Z a0 hw [] p5 h0 n0 Z0 ) hZ (Wd4 hw) (Wd3 hw) (by decide) (by decide)) (g := (fr_law m p1 p2 p3 p4 p5 p6 29 (vI nn) (vI r22) (vI r25) (vI r28) .unset .unset .unset .unset .unset [(.int p5)])) rfl (by rw [hml]; rfl) (argsL := [(.int p5)]) (rest := []) (lenOf pd_25 rfl) rfl (by show 2 * 0 + _ ≤ _; exact Nat.le_of_eq rfl) (D at_29) (fun _ _ => ⟨rfl, Eq28, (by decide : 0 + 0 ≤ _), (by decide : 0 + 0 ≤ _)⟩)
 dsimp only [Pt.U, Pt.locs, Pt.cells, Pt.slots] at X31 l31 y31 z31 st31 hQ31
 subst l31 y31 z31
 obtain ⟨r31, rfl, Nq31, Eq31, hR31⟩ := hQ31
 have N32 := Fr.app Nh30 Nq31
 obtain ⟨Lh33, Xh33, Nh33⟩ := oHd 0 0 X31 N32 rfl rfl
 refine ownBy st31 ?_
 clear st31
 show ownG p.tables e below _ (T31.setTop (fr_law m p1 p2 p3 p4 p5 p6 32 (vI nn) (vI r22) (vI r25) (vI r28) .unset .unset .unset .unset .unset [(.int r31)]))
 refine ownBy (A := T31.setTop (fr_law m p1 p2 p3 p4 p5 p6 36 (vI nn) (vI r22) (vI r25) (vI r28) (vI r31) .unset .unset .unset .unset [(.int p6)])) (fun t kt => ?_) ?_
 ·refine XS.istore Xh33.here hx rfl (D at_32) rfl (l' := #[vI p1, vI p2, vI p3, vI p4, vI p5, vI p6, vI nn, vI r22, vI r25, vI r28, vI r31, .unset, .unset, .unset, .unset]) rfl ?_
  refine XS.iload Xh33.here hx rfl (D at_34) rfl ?_
  exact kt
 obtain ⟨vv34, _, ⟨T34, L34, k34, n34⟩, -, X34, ⟨Lc34, hQ34, l34, y34, z34⟩, st34⟩ := Jvm.LawKit.callS Xh33 hx (y := yM28) hown (mvT hZ (Wd1 hw)) (mvT hZ (Wd2 hw)) (mvT hZ (Wd3 hw)) (mvT hZ (Wd4 hw)) (by decide) (backOf (W := 0) (c_ch l Z a0 hw [] p6 h0 n0 Z0 ) hZ (Wd4 hw) (Wd3 hw) (by decide) (by decide)) (g := (fr_law m p1 p2 p3 p4 p5 p6 36 (vI nn) (vI r22) (vI r25) (vI r28) (vI r31) .unset .unset .unset .unset [(.int p6)])) rfl (by rw [hml]; rfl) (argsL := [(.int p6)]) (rest := []) (lenOf pd_25 rfl) rfl (by show 2 * 0 + _ ≤ _; exact Nat.le_of_eq rfl) (D at_36) (fun _ _ => ⟨rfl, Eq31, (by decide : 0 + 0 ≤ _), (by decide : 0 + 0 ≤ _)⟩)
 dsimp only [Pt.U, Pt.locs, Pt.cells, Pt.slots] at X34 l34 y34 z34 st34 hQ34
 subst l34 y34 z34
 obtain ⟨r34, rfl, Nq34, Eq34, hR34⟩ := hQ34
 have N35 := Fr.app Nh33 Nq34
 obtain ⟨Lh36, Xh36, Nh36⟩ := oHd 0 0 X34 N35 rfl rfl
 refine ownBy st34 ?_
 clear st34
 show ownG p.tables e below _ (T34.setTop (fr_law m p1 p2 p3 p4 p5 p6 39 (vI nn) (vI r22) (vI r25) (vI r28) (vI r31) .unset .unset .unset .unset [(.int r34)]))
 refine ownBy (A := T34.setTop (fr_law m p1 p2 p3 p4 p5 p6 41 (vI nn) (vI r22) (vI r25) (vI r28) (vI r31) (vI r34) .unset .unset .unset [])) (fun t kt => ?_) ?_
 ·refine XS.istore Xh36.here hx rfl (D at_39) rfl (l' := #[vI p1, vI p2, vI p3, vI p4, vI p5, vI p6, vI nn, vI r22, vI r25, vI r28, vI r31, vI r34, .unset, .unset, .unset]) rfl ?_
  exact kt
 rcases hnn with rfl | rfl | rfl | rfl | rfl | rfl
 ·skip
  show ownG p.tables e below _ (T34.setTop (fr_law m p1 p2 p3 p4 p5 p6 41 (vI 0) (vI r22) (vI r25) (vI r28) (vI r31) (vI r34) .unset .unset .unset []))
  refine ownBy (A := T34.setTop (fr_law m p1 p2 p3 p4 p5 p6 47 (vI 0) (vI r22) (vI r25) (vI r28) (vI r31) (vI r34) .unset .unset .unset [(iV 0)])) (fun t kt => ?_) ?_
  ·refine XS.iload Xh36.here hx rfl (D at_41) rfl ?_
   refine XS.ifNo Xh36.here hx rfl (D at_43) rfl ((if0 _ _).trans (teq ((by decide) : (0 : Int32) = (0 : Int32))).2) ?_
   refine XS.iconst Xh36.here hx rfl (D at_46) ?_
   exact kt
  obtain ⟨T37, h37, k37, X37, e37, E37, A37, st37⟩ := newP Xh36 hx hZ (aty := .char) (Wd6 hw) Eq34 (g := (fr_law m p1 p2 p3 p4 p5 p6 47 (vI 0) (vI r22) (vI r25) (vI r28) (vI r31) (vI r34) .unset .unset .unset [(iV 0)])) rfl (D at_47) rfl (by decide : ¬ ((0 : Int32) < (0 : Int32))) (cap := 0) (by decide) (by decide) (by decide) (by decide)
  obtain ⟨b37, g37⟩ : ∃ z, z = h0.size := ⟨_, rfl⟩
  rw [← g37] at A37 st37
  have g38 : n0 ≤ b37 := Nat.le_trans Z0 (Nat.le_of_eq g37.symm)
  have sf39 : Safe Z ownEL s.vm h0 b37 := Safe.new (Nat.le_of_eq g37.symm)
  have z40 : h0.size ≤ b37 := Nat.le_trans (Nat.le_refl h0.size) (Nat.le_of_eq g37.symm)
  have R41 := R0.trans (CHr.ext E37 R0.1)
  have sf42 := Safe.ext E37 R0.1 sf39
  have V43 : Arv Z h37 b37 k37 .char (0 : Int32) [] (iV 0) := Arv.new A37 (by decide)
  refine ownBy st37 ?_
  clear st37
  show ownG p.tables e below _ (T37.setTop (fr_law m p1 p2 p3 p4 p5 p6 49 (vI 0) (vI r22) (vI r25) (vI r28) (vI r31) (vI r34) .unset .unset .unset [(.ref b37)]))
  refine ownBy (A := T37.setTop (fr_law m p1 p2 p3 p4 p5 p6 190 (vI 0) (vI r22) (vI r25) (vI r28) (vI r31) (vI r34) (vR b37) .unset .unset [])) (fun t kt => ?_) ?_
  ·refine XS.astore X37.here hx rfl (D at_49) rfl rfl (l' := #[vI p1, vI p2, vI p3, vI p4, vI p5, vI p6, vI 0, vI r22, vI r25, vI r28, vI r31, vI r34, vR b37, .unset, .unset]) rfl ?_
   refine XS.goto X37.here hx rfl (pc0 := 51) (pc' := 190) rfl (D at_51) (by decide) (by decide) ?_
   exact kt
  obtain ⟨T44, h44, X44, e44, E44, A44, D44, -, st44⟩ := newO X37 hx hZ hown (Wd7 hw) (Wd8 hw) (Wd9 hw) e37 (g := (fr_law m p1 p2 p3 p4 p5 p6 190 (vI 0) (vI r22) (vI r25) (vI r28) (vI r31) (vI r34) (vR b37) .unset .unset [])) rfl (D at_190) (by decide) (by decide)
  obtain ⟨b44, g44⟩ : ∃ z, z = h37.size := ⟨_, rfl⟩
  rw [← g44] at A44 D44 st44
  have ne45 : b37 ≠ b44 := Nat.ne_of_lt (Nat.lt_of_lt_of_le V43.lt (Nat.le_of_eq g44.symm))
  have f47 := (Nat.le_trans Z0 E37.1)
  have g46 : n0 ≤ b44 := Nat.le_trans f47 (Nat.le_of_eq g44.symm)
  have sf48 : Safe Z ownEL s.vm h37 b44 := Safe.new (Nat.le_of_eq g44.symm)
  have f50 := (Nat.le_trans (Nat.le_refl h0.size) E37.1)
  have z49 : h0.size ≤ b44 := Nat.le_trans f50 (Nat.le_of_eq g44.symm)
  have R51 := R41.trans (CHr.ext E44 R41.1)
  have sf52 := Safe.ext E44 R41.1 sf42
  have sf53 := Safe.ext E44 R41.1 sf48
  have F54 : Fld Z h44 b44 "java/lang/String" "value" "[B" .null := D44 (Or.inr (Wd22 hw)) (ty := (.array .byte)) (by decide)
  have F55 : Fld Z h44 b44 "java/lang/String" "coder" "B" (iV 0) := D44 (Or.inr (Wd23 hw)) (ty := .byte) (by decide)
  refine ownBy st44 ?_
  clear st44
  show ownG p.tables e below _ (T44.setTop (fr_law m p1 p2 p3 p4 p5 p6 193 (vI 0) (vI r22) (vI r25) (vI r28) (vI r31) (vI r34) (vR b37) .unset .unset [(.ref b44)]))
  refine ownBy (A := T44.setTop (fr_law m p1 p2 p3 p4 p5 p6 196 (vI 0) (vI r22) (vI r25) (vI r28) (vI r31) (vI r34) (vR b37) .unset .unset [(.ref b37), (.ref b44), (.ref b44)])) (fun t kt => ?_) ?_
  ·refine XS.dup X44.here hx rfl (D at_193) rfl rfl ?_
   refine XS.aload X44.here hx rfl (D at_194) rfl rfl ?_
   exact kt
  have f56 := (V43.ext E44)
  have f57 := (Nat.le_trans f47 E44.1)
  obtain ⟨vv58, _, ⟨T58, L58, k58, n58⟩, -, X58, hS58, hg58, ⟨Lc58, hQ58, l58, y58, z58, hC58⟩, st58⟩ := X44.specialBackS hx (y := yM1) rfl hown (mvT hZ (Wd10 hw)) (mvT hZ (Wd11 hw)) (mvT hZ (Wd12 hw)) (by decide) (backOfSH (W := 1) (s := s) (EL := ownEL) (c_ini0 l Z a0 hw [] b44 b37 _ k37 h44 n0 f57 A44 F54 F55 g46 f56 (Ne.symm ne45)) hZ (Wd12 hw) (Wd9 hw) (by decide) (by decide) hEL R51.1) (g := (fr_law m p1 p2 p3 p4 p5 p6 196 (vI 0) (vI r22) (vI r25) (vI r28) (vI r31) (vI r34) (vR b37) .unset .unset [(.ref b37), (.ref b44), (.ref b44)])) rfl (by rw [hml]; rfl) (Steps.refl _) (a := b44) (argsL := [(.ref b37)]) (rest := [(.ref b44)]) (lenOf pd_26 rfl) rfl (by show 2 * 0 + _ ≤ _; exact Nat.le_of_eq rfl) (D at_196) (fun _ _ => ⟨rfl, e44, (by decide : 2 + 4 ≤ _), (by decide : 4 + 8 ≤ _)⟩)
  dsimp only [Pt.U, Pt.locs, Pt.cells, Pt.slots] at X58 l58 y58 z58 st58 hQ58 hS58 hg58 hC58
  subst l58 y58 z58
  obtain ⟨rfl, Nq58, Kq58, Eq58, Cq58, t58, kb58, Vq58, Aq58⟩ := hQ58
  have N59 := Fr.app Nh36 Nq58
  have R61 := R51.trans hC58
  have sf62 := CHr.safe hC58 f56.lt sf52
  have sf63 := CHr.safe hC58 A44.lt sf53
  obtain ⟨XR64, hSR64, hZ64, hown64⟩ := rebS hS0 (by rw [e44]; exact (Nat.le_trans (Nat.le_trans (Nat.le_refl _) E37.1) E44.1)) X58 hS58 hg58 hZ hown
  obtain ⟨Lh65, Xh65, Nh65⟩ := oHd 6 12 XR64 N59 rfl rfl
  refine ownSt st58 ?_
  clear st58
  show ownG p.tables e below _ (T58.setTop (fr_law m p1 p2 p3 p4 p5 p6 199 (vI 0) (vI r22) (vI r25) (vI r28) (vI r31) (vI r34) (vR b37) .unset .unset [(.ref b44)]))
  refine ownBy (A := T58.setTop (fr_law m p1 p2 p3 p4 p5 p6 201 (vI 0) (vI r22) (vI r25) (vI r28) (vI r31) (vI r34) (vR b37) (vR b44) .unset [])) (fun t kt => ?_) ?_
  ·refine XS.astore Xh65.here hx rfl (D at_199) rfl rfl (l' := #[vI p1, vI p2, vI p3, vI p4, vI p5, vI p6, vI 0, vI r22, vI r25, vI r28, vI r31, vI r34, vR b37, vR b44, .unset]) rfl ?_
   exact kt
  have seg66 : ∀ t, Steps p.tables e below (T58.setTop (fr_law m p1 p2 p3 p4 p5 p6 270 (vI 0) (vI r22) (vI r25) (vI r28) (vI r31) (vI r34) (vR b37) (vR b44) .unset [(.int (own_b (False)))])) t → Steps p.tables e below (T58.setTop (fr_law m p1 p2 p3 p4 p5 p6 201 (vI 0) (vI r22) (vI r25) (vI r28) (vI r31) (vI r34) (vR b37) (vR b44) .unset [])) t := by
   intro t kt
   show Steps p.tables e below (T58.setTop (fr_law m p1 p2 p3 p4 p5 p6 201 (vI 0) (vI r22) (vI r25) (vI r28) (vI r31) (vI r34) (vR b37) (vR b44) .unset [])) t
   refine XS.iload Xh65.here hx rfl (D at_201) rfl ?_
   refine XS.ifYes Xh65.here hx rfl (pc0 := 203) (pc' := 213) rfl (D at_203) rfl ((if0 _ _).trans (flt ((by decide) : ¬ ((0 : Int32) < (0 : Int32)))).2.2.2) (by decide) (by decide) ?_
   refine XS.iload Xh65.here hx rfl (D at_213) rfl ?_
   refine XS.iconst Xh65.here hx rfl (D at_215) ?_
   refine XS.icmpYes Xh65.here hx rfl (pc0 := 216) (pc' := 226) rfl (D at_216) rfl (flt ((by decide) : ¬ ((1 : Int32) < (0 : Int32)))).2.2.2 (by decide) (by decide) ?_
   refine XS.iload Xh65.here hx rfl (D at_226) rfl ?_
   refine XS.iconst Xh65.here hx rfl (D at_228) ?_
   refine XS.icmpYes Xh65.here hx rfl (pc0 := 229) (pc' := 239) rfl (D at_229) rfl (flt ((by decide) : ¬ ((2 : Int32) < (0 : Int32)))).2.2.2 (by decide) (by decide) ?_
   refine XS.iload Xh65.here hx rfl (D at_239) rfl ?_
   refine XS.iconst Xh65.here hx rfl (D at_241) ?_
   refine XS.icmpYes Xh65.here hx rfl (pc0 := 242) (pc' := 252) rfl (D at_242) rfl (flt ((by decide) : ¬ ((3 : Int32) < (0 : Int32)))).2.2.2 (by decide) (by decide) ?_
   refine XS.iload Xh65.here hx rfl (D at_252) rfl ?_
   show Steps p.tables e below (T58.setTop (fr_law m p1 p2 p3 p4 p5 p6 254 (vI 0) (vI r22) (vI r25) (vI r28) (vI r31) (vI r34) (vR b37) (vR b44) .unset [(iV 0)])) t
   refine XS.iconst Xh65.here hx rfl (D at_254) ?_
   refine XS.icmpYes Xh65.here hx rfl (pc0 := 255) (pc' := 269) rfl (D at_255) rfl (flt ((by decide) : ¬ ((4 : Int32) < (0 : Int32)))).2.2.2 (by decide) (by decide) ?_
   refine XS.iconst Xh65.here hx rfl (D at_269) ?_
   show Steps p.tables e below (T58.setTop (fr_law m p1 p2 p3 p4 p5 p6 270 (vI 0) (vI r22) (vI r25) (vI r28) (vI r31) (vI r34) (vR b37) (vR b44) .unset [(iV 0)])) t
   rw [show (own_b (False)) = (0 : Int32) from by simp [own_b]] at kt
   exact kt
  refine ownBy seg66 ?_
  show ownG p.tables e below _ (T58.setTop (fr_law m p1 p2 p3 p4 p5 p6 270 (vI 0) (vI r22) (vI r25) (vI r28) (vI r31) (vI r34) (vR b37) (vR b44) .unset [(.int (own_b (False)))]))
  refine ownBy (A := T58.setTop (fr_law m p1 p2 p3 p4 p5 p6 274 (vI 0) (vI r22) (vI r25) (vI r28) (vI r31) (vI r34) (vR b37) (vR b44) (.val (.int (own_b (False)))) [(.ref b44)])) (fun t kt => ?_) ?_
  ·refine XS.istore Xh65.here hx rfl (D at_270) rfl (l' := #[vI p1, vI p2, vI p3, vI p4, vI p5, vI p6, vI 0, vI r22, vI r25, vI r28, vI r31, vI r34, vR b37, vR b44, .val (.int (own_b (False)))]) rfl ?_
   refine XS.aload Xh65.here hx rfl (D at_272) rfl rfl ?_
   exact kt
  have f67 := (A44.keep Kq58)
  have f68 := (((X00.ext E37).ext E44).keep Kq58 (allS g46 all0))
  have f69 := (Nat.le_trans f57 Kq58.1)
  obtain ⟨vv70, _, ⟨T70, L70, k70, n70⟩, -, X70, ⟨Lc70, hQ70, l70, y70, z70⟩, st70⟩ := Jvm.LawKit.callS Xh65 hx (y := yM27) hown64 (mvT hZ64 (Wd28 hw)) (mvT hZ64 (Wd29 hw)) (mvT hZ64 (Wd30 hw)) (mvT hZ64 (Wd31 hw)) (by decide) (backOf (W := 0) (c_isin l Z a0 hw [] b44 t58 kb58 (0 : Int32) (0 : Int32) [] (False) T58.heap n0 f69 f67 Vq58 Cq58 Aq58 (hb0 l Z a0 hw b44 t58 kb58 (0 : Int32) (0 : Int32) [] G1 G3 ⟨rfl, rfl, rfl⟩ O2 P5 SA SHI SLO O4 rG3) f68) hZ64 (Wd31 hw) (Wd30 hw) (by decide) (by decide)) (g := (fr_law m p1 p2 p3 p4 p5 p6 274 (vI 0) (vI r22) (vI r25) (vI r28) (vI r31) (vI r34) (vR b37) (vR b44) (.val (.int (own_b (False)))) [(.ref b44)])) rfl (by rw [hml]; rfl) (argsL := [(.ref b44)]) (rest := []) (lenOf pd_27 rfl) rfl (by show 2 * 0 + _ ≤ _; exact Nat.le_of_eq rfl) (D at_274) (fun _ _ => ⟨rfl, rfl, (by decide : 6 + 0 ≤ _), (by decide : 12 + 0 ≤ _)⟩)
  dsimp only [Pt.U, Pt.locs, Pt.cells, Pt.slots] at X70 l70 y70 z70 st70 hQ70
  subst l70 y70 z70
  obtain ⟨Nq70, Eq70, hB70⟩ := hQ70
  obtain rfl : vv70 = some (.int (own_b (False))) := by
   rcases hB70 with ⟨h, q⟩ | ⟨h, q⟩
   ·rw [q, own_bt1 h]
   ·rw [q, own_bf0 h]
  have N71 := Fr.app Nh65 Nq70
  obtain ⟨Lh72, Xh72, Nh72⟩ := oHd 6 12 X70 N71 rfl rfl
  refine ownBy st70 ?_
  clear st70
  show ownG p.tables e below _ (T70.setTop (fr_law m p1 p2 p3 p4 p5 p6 277 (vI 0) (vI r22) (vI r25) (vI r28) (vI r31) (vI r34) (vR b37) (vR b44) (.val (.int (own_b (False)))) [(.int (own_b (False)))]))
  refine ownBy (A := T70.setTop (fr_law m p1 p2 p3 p4 p5 p6 287 (vI 0) (vI r22) (vI r25) (vI r28) (vI r31) (vI r34) (vR b37) (vR b44) (.val (.int (own_b (False)))) [(iV 1)])) (fun t kt => ?_) ?_
  ·refine XS.iload Xh72.here hx rfl (D at_277) rfl ?_
   refine XS.icmpNo Xh72.here hx rfl (D at_279) rfl (teq (rfl : (own_b (False)) = (own_b (False)))).2 ?_
   refine XS.iconst Xh72.here hx rfl (D at_282) ?_
   refine XS.goto Xh72.here hx rfl (pc0 := 283) (pc' := 287) rfl (D at_283) (by decide) (by decide) ?_
   exact kt
  refine ownRetH Xh72 hSR64 (by rw [Eq70]; exact (Nat.le_refl _)) Bd.notSynchronized (v := some (.int (nar .boolean (1 : Int32)))) (fun h => by rw [Bd.returns] at h; cases h) ?_ (R61.trans ((by rw [Eq70]; exact CHv.at Xh72 hZ64 hEL R61.1))) (oLe rfl) (oLe rfl) (fun fs hr => retN Xh72 hx (t := .boolean) Bd.returns (by simp) (D at_287) hr)
  show (Q_law Z p1 p2 p3 p4 p5 p6 G1 G3 h0 n0) (some (.int (nar .boolean (1 : Int32)))) T70.heap _
  rw [Eq70]
  exact ⟨rfl, Nh72⟩
 ·skip
  show ownG p.tables e below _ (T34.setTop (fr_law m p1 p2 p3 p4 p5 p6 41 (vI 1) (vI r22) (vI r25) (vI r28) (vI r31) (vI r34) .unset .unset .unset []))
  refine ownBy (A := T34.setTop (fr_law m p1 p2 p3 p4 p5 p6 61 (vI 1) (vI r22) (vI r25) (vI r28) (vI r31) (vI r34) .unset .unset .unset [(iV 1)])) (fun t kt => ?_) ?_
  ·refine XS.iload Xh36.here hx rfl (D at_41) rfl ?_
   refine XS.ifYes Xh36.here hx rfl (pc0 := 43) (pc' := 54) rfl (D at_43) rfl ((if0 _ _).trans (feq ((by decide) : ¬ ((1 : Int32) = (0 : Int32)))).2) (by decide) (by decide) ?_
   refine XS.iload Xh36.here hx rfl (D at_54) rfl ?_
   refine XS.iconst Xh36.here hx rfl (D at_56) ?_
   refine XS.icmpNo Xh36.here hx rfl (D at_57) rfl (teq ((by decide) : (1 : Int32) = (1 : Int32))).2 ?_
   refine XS.iconst Xh36.here hx rfl (D at_60) ?_
   exact kt
  obtain ⟨T74, h74, k74, X74, e74, E74, A74, st74⟩ := newP Xh36 hx hZ (aty := .char) (Wd6 hw) Eq34 (g := (fr_law m p1 p2 p3 p4 p5 p6 61 (vI 1) (vI r22) (vI r25) (vI r28) (vI r31) (vI r34) .unset .unset .unset [(iV 1)])) rfl (D at_61) rfl (by decide : ¬ ((1 : Int32) < (0 : Int32))) (cap := 1) (by decide) (by decide) (by decide) (by decide)
  obtain ⟨b74, g74⟩ : ∃ z, z = h0.size := ⟨_, rfl⟩
  rw [← g74] at A74 st74
  have g75 : n0 ≤ b74 := Nat.le_trans Z0 (Nat.le_of_eq g74.symm)
  have sf76 : Safe Z ownEL s.vm h0 b74 := Safe.new (Nat.le_of_eq g74.symm)
  have z77 : h0.size ≤ b74 := Nat.le_trans (Nat.le_refl h0.size) (Nat.le_of_eq g74.symm)
  have R78 := R0.trans (CHr.ext E74 R0.1)
  have sf79 := Safe.ext E74 R0.1 sf76
  have V80 : Arv Z h74 b74 k74 .char (1 : Int32) [(iV 0)] (iV 0) := (Arv.new A74 (by decide)).pad (pad_rep [] (iV 0) 1)
  refine ownBy st74 ?_
  clear st74
  show ownG p.tables e below _ (T74.setTop (fr_law m p1 p2 p3 p4 p5 p6 63 (vI 1) (vI r22) (vI r25) (vI r28) (vI r31) (vI r34) .unset .unset .unset [(.ref b74)]))
  refine ownBy (A := T74.setTop (fr_law m p1 p2 p3 p4 p5 p6 67 (vI 1) (vI r22) (vI r25) (vI r28) (vI r31) (vI r34) .unset .unset .unset [(.int r22), (iV 0), (.ref b74), (.ref b74)])) (fun t kt => ?_) ?_
  ·refine XS.dup X74.here hx rfl (D at_63) rfl rfl ?_
   refine XS.iconst X74.here hx rfl (D at_64) ?_
   refine XS.iload X74.here hx rfl (D at_65) rfl ?_
   exact kt
  obtain ⟨cl81, Ar81, q81, S81, N81, H81, G81⟩ := id V80
  have hin81 : ¬ ((0 : Int32) < 0 ∨ cl81.slots.size ≤ ((0 : Int32)).toNatClampNeg) := inb_of S81 ⟨by decide, by decide⟩
  obtain ⟨T81, h81, X81, e81, W81, st81⟩ := stC X74 hx hZ e74 Ar81 (j := (0 : Int32)) hin81 (g := (fr_law m p1 p2 p3 p4 p5 p6 67 (vI 1) (vI r22) (vI r25) (vI r28) (vI r31) (vI r34) .unset .unset .unset [(.int r22), (iV 0), (.ref b74), (.ref b74)])) rfl rfl (D at_67)
  have V82 : Arv Z h81 b74 k74 .char (1 : Int32) [(.int (nar .char r22))] (iV 0) := Arv.set Ar81 q81 S81 N81 H81 G81 (fits_nar_char _) W81 0 rfl (oLe rfl)
  rw [own_c16 hR22] at V82
  clear hin81 G81 H81 N81 S81 q81 Ar81 cl81 V80
  have N83 := Fr.snoc X81 Nh36 g75
  have R84 := R78.trans (CHr.wr W81 sf79 R78.1)
  have sf85 := Safe.wr W81 sf79 R78.1 sf79
  obtain ⟨Lh86, Xh86, Nh86⟩ := oHd 1 1 X81 N83 rfl rfl
  refine ownBy st81 ?_
  clear st81
  show ownG p.tables e below _ (T81.setTop (fr_law m p1 p2 p3 p4 p5 p6 68 (vI 1) (vI r22) (vI r25) (vI r28) (vI r31) (vI r34) .unset .unset .unset [(.ref b74)]))
  refine ownBy (A := T81.setTop (fr_law m p1 p2 p3 p4 p5 p6 190 (vI 1) (vI r22) (vI r25) (vI r28) (vI r31) (vI r34) (vR b74) .unset .unset [])) (fun t kt => ?_) ?_
  ·refine XS.astore Xh86.here hx rfl (D at_68) rfl rfl (l' := #[vI p1, vI p2, vI p3, vI p4, vI p5, vI p6, vI 1, vI r22, vI r25, vI r28, vI r31, vI r34, vR b74, .unset, .unset]) rfl ?_
   refine XS.goto Xh86.here hx rfl (pc0 := 70) (pc' := 190) rfl (D at_70) (by decide) (by decide) ?_
   exact kt
  obtain ⟨T87, h87, X87, e87, E87, A87, D87, -, st87⟩ := newO Xh86 hx hZ hown (Wd7 hw) (Wd8 hw) (Wd9 hw) e81 (g := (fr_law m p1 p2 p3 p4 p5 p6 190 (vI 1) (vI r22) (vI r25) (vI r28) (vI r31) (vI r34) (vR b74) .unset .unset [])) rfl (D at_190) (by decide) (by decide)
  obtain ⟨b87, g87⟩ : ∃ z, z = h81.size := ⟨_, rfl⟩
  rw [← g87] at A87 D87 st87
  have ne88 : b74 ≠ b87 := Nat.ne_of_lt (Nat.lt_of_lt_of_le V82.lt (Nat.le_of_eq g87.symm))
  have f90 := (Nat.le_trans (Nat.le_trans Z0 E74.1) (Keep.of_wr W81).1)
  have g89 : n0 ≤ b87 := Nat.le_trans f90 (Nat.le_of_eq g87.symm)
  have sf91 : Safe Z ownEL s.vm h81 b87 := Safe.new (Nat.le_of_eq g87.symm)
  have f93 := (Nat.le_trans (Nat.le_trans (Nat.le_refl h0.size) E74.1) (Keep.of_wr W81).1)
  have z92 : h0.size ≤ b87 := Nat.le_trans f93 (Nat.le_of_eq g87.symm)
  have R94 := R84.trans (CHr.ext E87 R84.1)
  have sf95 := Safe.ext E87 R84.1 sf85
  have sf96 := Safe.ext E87 R84.1 sf91
  have F97 : Fld Z h87 b87 "java/lang/String" "value" "[B" .null := D87 (Or.inr (Wd22 hw)) (ty := (.array .byte)) (by decide)
  have F98 : Fld Z h87 b87 "java/lang/String" "coder" "B" (iV 0) := D87 (Or.inr (Wd23 hw)) (ty := .byte) (by decide)
  refine ownBy st87 ?_
  clear st87
  show ownG p.tables e below _ (T87.setTop (fr_law m p1 p2 p3 p4 p5 p6 193 (vI 1) (vI r22) (vI r25) (vI r28) (vI r31) (vI r34) (vR b74) .unset .unset [(.ref b87)]))
  refine ownBy (A := T87.setTop (fr_law m p1 p2 p3 p4 p5 p6 196 (vI 1) (vI r22) (vI r25) (vI r28) (vI r31) (vI r34) (vR b74) .unset .unset [(.ref b74), (.ref b87), (.ref b87)])) (fun t kt => ?_) ?_
  ·refine XS.dup X87.here hx rfl (D at_193) rfl rfl ?_
   refine XS.aload X87.here hx rfl (D at_194) rfl rfl ?_
   exact kt
  have f99 := (V82.ext E87)
  have f100 := (((X00.ext E74).wr W81 g75).ext E87)
  have f101 := (Nat.le_trans f90 E87.1)
  obtain ⟨vv102, _, ⟨T102, L102, k102, n102⟩, -, X102, ⟨Lc102, hQ102, l102, y102, z102⟩, st102⟩ := X87.specialBack hx (y := yM1) rfl hown (mvT hZ (Wd10 hw)) (mvT hZ (Wd11 hw)) (mvT hZ (Wd12 hw)) (by decide) (backOf (W := 1) (c_inC_1 l Z a0 hw [] b87 b74 k74 r22 _ G1 h87 n0 f101 A87 F97 F98 g89 (Ne.symm ne88) f99 hR22 O2 P5 SA SHI SLO f100) hZ (Wd12 hw) (Wd9 hw) (by decide) (by decide)) (g := (fr_law m p1 p2 p3 p4 p5 p6 196 (vI 1) (vI r22) (vI r25) (vI r28) (vI r31) (vI r34) (vR b74) .unset .unset [(.ref b74), (.ref b87), (.ref b87)])) rfl (by rw [hml]; rfl) (Steps.refl _) (a := b87) (argsL := [(.ref b74)]) (rest := [(.ref b87)]) (lenOf pd_26 rfl) rfl (by show 2 * 0 + _ ≤ _; exact Nat.le_of_eq rfl) (D at_196) (fun _ _ => ⟨rfl, e87, (by decide : 2 + 2 ≤ _), (by decide : 5 + 3 ≤ _)⟩)
  dsimp only [Pt.U, Pt.locs, Pt.cells, Pt.slots] at X102 l102 y102 z102 st102 hQ102
  subst l102 y102 z102
  obtain ⟨rfl, Nq102, Kq102, Eq102, t102, kb102, cd102, z102, vs102, zq102, Vq102, Cq102, Aq102, hrel102⟩ := hQ102
  have ne103 : b74 ≠ t102 := Nat.ne_of_lt (Nat.lt_of_lt_of_le f99.lt zq102)
  have ne104 : b87 ≠ t102 := Nat.ne_of_lt (Nat.lt_of_lt_of_le A87.lt zq102)
  have g105 : n0 ≤ t102 := Nat.le_trans f101 zq102
  have sf106 : Safe Z ownEL s.vm h87 t102 := Safe.new zq102
  have f108 := (Nat.le_trans f93 E87.1)
  have z107 : h0.size ≤ t102 := Nat.le_trans f108 zq102
  have N109 := Fr.app Nh86 Nq102
  have R110 := R94.trans (CHr.keep Kq102 (sfS sf96 sf0) R94.1)
  have sf111 := Safe.keep Kq102 (sfS sf96 sf0) R94.1 sf95
  have sf112 := Safe.keep Kq102 (sfS sf96 sf0) R94.1 sf96
  have sf113 := Safe.keep Kq102 (sfS sf96 sf0) R94.1 sf106
  obtain ⟨Lh114, Xh114, Nh114⟩ := oHd 4 8 X102 N109 rfl rfl
  refine ownSt st102 ?_
  clear st102
  show ownG p.tables e below _ (T102.setTop (fr_law m p1 p2 p3 p4 p5 p6 199 (vI 1) (vI r22) (vI r25) (vI r28) (vI r31) (vI r34) (vR b74) .unset .unset [(.ref b87)]))
  refine ownBy (A := T102.setTop (fr_law m p1 p2 p3 p4 p5 p6 201 (vI 1) (vI r22) (vI r25) (vI r28) (vI r31) (vI r34) (vR b74) (vR b87) .unset [])) (fun t kt => ?_) ?_
  ·refine XS.astore Xh114.here hx rfl (D at_199) rfl rfl (l' := #[vI p1, vI p2, vI p3, vI p4, vI p5, vI p6, vI 1, vI r22, vI r25, vI r28, vI r31, vI r34, vR b74, vR b87, .unset]) rfl ?_
   exact kt
  have seg115 : ∀ t, Steps p.tables e below (T102.setTop (fr_law m p1 p2 p3 p4 p5 p6 270 (vI 1) (vI r22) (vI r25) (vI r28) (vI r31) (vI r34) (vR b74) (vR b87) .unset [(.int (own_b (r22 = (42 : Int32))))])) t → Steps p.tables e below (T102.setTop (fr_law m p1 p2 p3 p4 p5 p6 201 (vI 1) (vI r22) (vI r25) (vI r28) (vI r31) (vI r34) (vR b74) (vR b87) .unset [])) t := by
   intro t kt
   show Steps p.tables e below (T102.setTop (fr_law m p1 p2 p3 p4 p5 p6 201 (vI 1) (vI r22) (vI r25) (vI r28) (vI r31) (vI r34) (vR b74) (vR b87) .unset [])) t
   refine XS.iload Xh114.here hx rfl (D at_201) rfl ?_
   refine XS.ifNo Xh114.here hx rfl (D at_203) rfl ((if0 _ _).trans (tlt ((by decide) : (0 : Int32) < (1 : Int32))).2.2.2) ?_
   refine XS.iload Xh114.here hx rfl (D at_206) rfl ?_
   refine XS.bipush Xh114.here hx rfl (D at_208) ?_
   show Steps p.tables e below (T102.setTop (fr_law m p1 p2 p3 p4 p5 p6 210 (vI 1) (vI r22) (vI r25) (vI r28) (vI r31) (vI r34) (vR b74) (vR b87) .unset [(iV 42), (.int r22)])) t
   by_cases hc116 : r22 = (42 : Int32)
   ·skip
    show Steps p.tables e below (T102.setTop (fr_law m p1 p2 p3 p4 p5 p6 210 (vI 1) (vI r22) (vI r25) (vI r28) (vI r31) (vI r34) (vR b74) (vR b87) .unset [(iV 42), (.int r22)])) t
    refine XS.icmpYes Xh114.here hx rfl (pc0 := 210) (pc' := 265) rfl (D at_210) rfl (teq hc116).1 (by decide) (by decide) ?_
    refine XS.iconst Xh114.here hx rfl (D at_265) ?_
    refine XS.goto Xh114.here hx rfl (pc0 := 266) (pc' := 270) rfl (D at_266) (by decide) (by decide) ?_
    show Steps p.tables e below (T102.setTop (fr_law m p1 p2 p3 p4 p5 p6 270 (vI 1) (vI r22) (vI r25) (vI r28) (vI r31) (vI r34) (vR b74) (vR b87) .unset [(iV 1)])) t
    rw [show (own_b (r22 = (42 : Int32))) = (1 : Int32) from by simp [own_b, hc116]] at kt
    exact kt
   ·skip
    show Steps p.tables e below (T102.setTop (fr_law m p1 p2 p3 p4 p5 p6 210 (vI 1) (vI r22) (vI r25) (vI r28) (vI r31) (vI r34) (vR b74) (vR b87) .unset [(iV 42), (.int r22)])) t
    refine XS.icmpNo Xh114.here hx rfl (D at_210) rfl (feq hc116).1 ?_
    refine XS.iload Xh114.here hx rfl (D at_213) rfl ?_
    refine XS.iconst Xh114.here hx rfl (D at_215) ?_
    refine XS.icmpYes Xh114.here hx rfl (pc0 := 216) (pc' := 226) rfl (D at_216) rfl (flt ((by decide) : ¬ ((1 : Int32) < (1 : Int32)))).2.2.2 (by decide) (by decide) ?_
    refine XS.iload Xh114.here hx rfl (D at_226) rfl ?_
    refine XS.iconst Xh114.here hx rfl (D at_228) ?_
    refine XS.icmpYes Xh114.here hx rfl (pc0 := 229) (pc' := 239) rfl (D at_229) rfl (flt ((by decide) : ¬ ((2 : Int32) < (1 : Int32)))).2.2.2 (by decide) (by decide) ?_
    refine XS.iload Xh114.here hx rfl (D at_239) rfl ?_
    refine XS.iconst Xh114.here hx rfl (D at_241) ?_
    refine XS.icmpYes Xh114.here hx rfl (pc0 := 242) (pc' := 252) rfl (D at_242) rfl (flt ((by decide) : ¬ ((3 : Int32) < (1 : Int32)))).2.2.2 (by decide) (by decide) ?_
    refine XS.iload Xh114.here hx rfl (D at_252) rfl ?_
    refine XS.iconst Xh114.here hx rfl (D at_254) ?_
    show Steps p.tables e below (T102.setTop (fr_law m p1 p2 p3 p4 p5 p6 255 (vI 1) (vI r22) (vI r25) (vI r28) (vI r31) (vI r34) (vR b74) (vR b87) .unset [(iV 4), (iV 1)])) t
    refine XS.icmpYes Xh114.here hx rfl (pc0 := 255) (pc' := 269) rfl (D at_255) rfl (flt ((by decide) : ¬ ((4 : Int32) < (1 : Int32)))).2.2.2 (by decide) (by decide) ?_
    refine XS.iconst Xh114.here hx rfl (D at_269) ?_
    show Steps p.tables e below (T102.setTop (fr_law m p1 p2 p3 p4 p5 p6 270 (vI 1) (vI r22) (vI r25) (vI r28) (vI r31) (vI r34) (vR b74) (vR b87) .unset [(iV 0)])) t
    rw [show (own_b (r22 = (42 : Int32))) = (0 : Int32) from by simp [own_b, hc116]] at kt
    exact kt
  refine ownBy seg115 ?_
  show ownG p.tables e below _ (T102.setTop (fr_law m p1 p2 p3 p4 p5 p6 270 (vI 1) (vI r22) (vI r25) (vI r28) (vI r31) (vI r34) (vR b74) (vR b87) .unset [(.int (own_b (r22 = (42 : Int32))))]))
  refine ownBy (A := T102.setTop (fr_law m p1 p2 p3 p4 p5 p6 274 (vI 1) (vI r22) (vI r25) (vI r28) (vI r31) (vI r34) (vR b74) (vR b87) (.val (.int (own_b (r22 = (42 : Int32))))) [(.ref b87)])) (fun t kt => ?_) ?_
  ·refine XS.istore Xh114.here hx rfl (D at_270) rfl (l' := #[vI p1, vI p2, vI p3, vI p4, vI p5, vI p6, vI 1, vI r22, vI r25, vI r28, vI r31, vI r34, vR b74, vR b87, .val (.int (own_b (r22 = (42 : Int32))))]) rfl ?_
   refine XS.aload Xh114.here hx rfl (D at_272) rfl rfl ?_
   exact kt
  have f117 := (A87.keep Kq102)
  have f118 := (f100.keep Kq102 (allS g89 all0))
  have f119 := (Nat.le_trans f101 Kq102.1)
  obtain ⟨vv120, _, ⟨T120, L120, k120, n120⟩, -, X120, ⟨Lc120, hQ120, l120, y120, z120⟩, st120⟩ := Jvm.LawKit.callS Xh114 hx (y := yM27) hown (mvT hZ (Wd28 hw)) (mvT hZ (Wd29 hw)) (mvT hZ (Wd30 hw)) (mvT hZ (Wd31 hw)) (by decide) (backOf (W := 0) (c_isin l Z a0 hw [] b87 t102 kb102 cd102 z102 vs102 (r22 = (42 : Int32)) T102.heap n0 f119 f117 Vq102 Cq102 Aq102 (hb1 l Z a0 hw b87 t102 kb102 cd102 z102 vs102 r22 G1 G3 hrel102 hR22 O2 P5 SA SHI SLO O4 rG3) f118) hZ (Wd31 hw) (Wd30 hw) (by decide) (by decide)) (g := (fr_law m p1 p2 p3 p4 p5 p6 274 (vI 1) (vI r22) (vI r25) (vI r28) (vI r31) (vI r34) (vR b74) (vR b87) (.val (.int (own_b (r22 = (42 : Int32))))) [(.ref b87)])) rfl (by rw [hml]; rfl) (argsL := [(.ref b87)]) (rest := []) (lenOf pd_27 rfl) rfl (by show 2 * 0 + _ ≤ _; exact Nat.le_of_eq rfl) (D at_274) (fun _ _ => ⟨rfl, rfl, (by decide : 4 + 0 ≤ _), (by decide : 8 + 0 ≤ _)⟩)
  dsimp only [Pt.U, Pt.locs, Pt.cells, Pt.slots] at X120 l120 y120 z120 st120 hQ120
  subst l120 y120 z120
  obtain ⟨Nq120, Eq120, hB120⟩ := hQ120
  obtain rfl : vv120 = some (.int (own_b (r22 = (42 : Int32)))) := by
   rcases hB120 with ⟨h, q⟩ | ⟨h, q⟩
   ·rw [q, own_bt1 h]
   ·rw [q, own_bf0 h]
  have N121 := Fr.app Nh114 Nq120
  obtain ⟨Lh122, Xh122, Nh122⟩ := oHd 4 8 X120 N121 rfl rfl
  refine ownBy st120 ?_
  clear st120
  show ownG p.tables e below _ (T120.setTop (fr_law m p1 p2 p3 p4 p5 p6 277 (vI 1) (vI r22) (vI r25) (vI r28) (vI r31) (vI r34) (vR b74) (vR b87) (.val (.int (own_b (r22 = (42 : Int32))))) [(.int (own_b (r22 = (42 : Int32))))]))
  refine ownBy (A := T120.setTop (fr_law m p1 p2 p3 p4 p5 p6 287 (vI 1) (vI r22) (vI r25) (vI r28) (vI r31) (vI r34) (vR b74) (vR b87) (.val (.int (own_b (r22 = (42 : Int32))))) [(iV 1)])) (fun t kt => ?_) ?_
  ·refine XS.iload Xh122.here hx rfl (D at_277) rfl ?_
   refine XS.icmpNo Xh122.here hx rfl (D at_279) rfl (teq (rfl : (own_b (r22 = (42 : Int32))) = (own_b (r22 = (42 : Int32))))).2 ?_
   refine XS.iconst Xh122.here hx rfl (D at_282) ?_
   refine XS.goto Xh122.here hx rfl (pc0 := 283) (pc' := 287) rfl (D at_283) (by decide) (by decide) ?_
   exact kt
  refine ownRetH Xh122 hS0 (by rw [Eq120]; exact (Nat.le_trans (Nat.le_trans (Nat.le_trans (Nat.le_trans (Nat.le_refl _) E74.1) (Keep.of_wr W81).1) E87.1) Kq102.1)) Bd.notSynchronized (v := some (.int (nar .boolean (1 : Int32)))) (fun h => by rw [Bd.returns] at h; cases h) ?_ (R110.trans ((by rw [Eq120]; exact CHv.at Xh122 hZ hEL R110.1))) (oLe rfl) (oLe rfl) (fun fs hr => retN Xh122 hx (t := .boolean) Bd.returns (by simp) (D at_287) hr)
  show (Q_law Z p1 p2 p3 p4 p5 p6 G1 G3 h0 n0) (some (.int (nar .boolean (1 : Int32)))) T120.heap _
  rw [Eq120]
  exact ⟨rfl, Nh122⟩
 ·skip
  show ownG p.tables e below _ (T34.setTop (fr_law m p1 p2 p3 p4 p5 p6 41 (vI 2) (vI r22) (vI r25) (vI r28) (vI r31) (vI r34) .unset .unset .unset []))
  refine ownBy (A := T34.setTop (fr_law m p1 p2 p3 p4 p5 p6 80 (vI 2) (vI r22) (vI r25) (vI r28) (vI r31) (vI r34) .unset .unset .unset [(iV 2)])) (fun t kt => ?_) ?_
  ·refine XS.iload Xh36.here hx rfl (D at_41) rfl ?_
   refine XS.ifYes Xh36.here hx rfl (pc0 := 43) (pc' := 54) rfl (D at_43) rfl ((if0 _ _).trans (feq ((by decide) : ¬ ((2 : Int32) = (0 : Int32)))).2) (by decide) (by decide) ?_
   refine XS.iload Xh36.here hx rfl (D at_54) rfl ?_
   refine XS.iconst Xh36.here hx rfl (D at_56) ?_
   refine XS.icmpYes Xh36.here hx rfl (pc0 := 57) (pc' := 73) rfl (D at_57) rfl (feq ((by decide) : ¬ ((2 : Int32) = (1 : Int32)))).2 (by decide) (by decide) ?_
   refine XS.iload Xh36.here hx rfl (D at_73) rfl ?_
   refine XS.iconst Xh36.here hx rfl (D at_75) ?_
   refine XS.icmpNo Xh36.here hx rfl (D at_76) rfl (teq ((by decide) : (2 : Int32) = (2 : Int32))).2 ?_
   refine XS.iconst Xh36.here hx rfl (D at_79) ?_
   exact kt
  obtain ⟨T124, h124, k124, X124, e124, E124, A124, st124⟩ := newP Xh36 hx hZ (aty := .char) (Wd6 hw) Eq34 (g := (fr_law m p1 p2 p3 p4 p5 p6 80 (vI 2) (vI r22) (vI r25) (vI r28) (vI r31) (vI r34) .unset .unset .unset [(iV 2)])) rfl (D at_80) rfl (by decide : ¬ ((2 : Int32) < (0 : Int32))) (cap := 2) (by decide) (by decide) (by decide) (by decide)
  obtain ⟨b124, g124⟩ : ∃ z, z = h0.size := ⟨_, rfl⟩
  rw [← g124] at A124 st124
  have g125 : n0 ≤ b124 := Nat.le_trans Z0 (Nat.le_of_eq g124.symm)
  have sf126 : Safe Z ownEL s.vm h0 b124 := Safe.new (Nat.le_of_eq g124.symm)
  have z127 : h0.size ≤ b124 := Nat.le_trans (Nat.le_refl h0.size) (Nat.le_of_eq g124.symm)
  have R128 := R0.trans (CHr.ext E124 R0.1)
  have sf129 := Safe.ext E124 R0.1 sf126
  have V130 : Arv Z h124 b124 k124 .char (2 : Int32) [(iV 0), (iV 0)] (iV 0) := (Arv.new A124 (by decide)).pad (pad_rep [] (iV 0) 2)
  refine ownBy st124 ?_
  clear st124
  show ownG p.tables e below _ (T124.setTop (fr_law m p1 p2 p3 p4 p5 p6 82 (vI 2) (vI r22) (vI r25) (vI r28) (vI r31) (vI r34) .unset .unset .unset [(.ref b124)]))
  refine ownBy (A := T124.setTop (fr_law m p1 p2 p3 p4 p5 p6 86 (vI 2) (vI r22) (vI r25) (vI r28) (vI r31) (vI r34) .unset .unset .unset [(.int r22), (iV 0), (.ref b124), (.ref b124)])) (fun t kt => ?_) ?_
  ·refine XS.dup X124.here hx rfl (D at_82) rfl rfl ?_
   refine XS.iconst X124.here hx rfl (D at_83) ?_
   refine XS.iload X124.here hx rfl (D at_84) rfl ?_
   exact kt
  obtain ⟨cl131, Ar131, q131, S131, N131, H131, G131⟩ := id V130
  have hin131 : ¬ ((0 : Int32) < 0 ∨ cl131.slots.size ≤ ((0 : Int32)).toNatClampNeg) := inb_of S131 ⟨by decide, by decide⟩
  obtain ⟨T131, h131, X131, e131, W131, st131⟩ := stC X124 hx hZ e124 Ar131 (j := (0 : Int32)) hin131 (g := (fr_law m p1 p2 p3 p4 p5 p6 86 (vI 2) (vI r22) (vI r25) (vI r28) (vI r31) (vI r34) .unset .unset .unset [(.int r22), (iV 0), (.ref b124), (.ref b124)])) rfl rfl (D at_86)
  have V132 : Arv Z h131 b124 k124 .char (2 : Int32) [(.int (nar .char r22)), (iV 0)] (iV 0) := Arv.set Ar131 q131 S131 N131 H131 G131 (fits_nar_char _) W131 0 rfl (oLe rfl)
  rw [own_c16 hR22] at V132
  clear hin131 G131 H131 N131 S131 q131 Ar131 cl131 V130
  have N133 := Fr.snoc X131 Nh36 g125
  have R134 := R128.trans (CHr.wr W131 sf129 R128.1)
  have sf135 := Safe.wr W131 sf129 R128.1 sf129
  obtain ⟨Lh136, Xh136, Nh136⟩ := oHd 1 2 X131 N133 rfl rfl
  refine ownBy st131 ?_
  clear st131
  show ownG p.tables e below _ (T131.setTop (fr_law m p1 p2 p3 p4 p5 p6 87 (vI 2) (vI r22) (vI r25) (vI r28) (vI r31) (vI r34) .unset .unset .unset [(.ref b124)]))
  refine ownBy (A := T131.setTop (fr_law m p1 p2 p3 p4 p5 p6 91 (vI 2) (vI r22) (vI r25) (vI r28) (vI r31) (vI r34) .unset .unset .unset [(.int r25), (iV 1), (.ref b124), (.ref b124)])) (fun t kt => ?_) ?_
  ·refine XS.dup Xh136.here hx rfl (D at_87) rfl rfl ?_
   refine XS.iconst Xh136.here hx rfl (D at_88) ?_
   refine XS.iload Xh136.here hx rfl (D at_89) rfl ?_
   exact kt
  obtain ⟨cl137, Ar137, q137, S137, N137, H137, G137⟩ := id V132
  have hin137 : ¬ ((1 : Int32) < 0 ∨ cl137.slots.size ≤ ((1 : Int32)).toNatClampNeg) := inb_of S137 ⟨by decide, by decide⟩
  obtain ⟨T137, h137, X137, e137, W137, st137⟩ := stC Xh136 hx hZ e131 Ar137 (j := (1 : Int32)) hin137 (g := (fr_law m p1 p2 p3 p4 p5 p6 91 (vI 2) (vI r22) (vI r25) (vI r28) (vI r31) (vI r34) .unset .unset .unset [(.int r25), (iV 1), (.ref b124), (.ref b124)])) rfl rfl (D at_91)
  have V138 : Arv Z h137 b124 k124 .char (2 : Int32) [(.int r22), (.int (nar .char r25))] (iV 0) := Arv.set Ar137 q137 S137 N137 H137 G137 (fits_nar_char _) W137 1 rfl (oLe rfl)
  rw [own_c16 hR25] at V138
  clear hin137 G137 H137 N137 S137 q137 Ar137 cl137 V132
  have N139 := Fr.snoc X137 Nh136 g125
  have R140 := R134.trans (CHr.wr W137 sf135 R134.1)
  have sf141 := Safe.wr W137 sf135 R134.1 sf135
  obtain ⟨Lh142, Xh142, Nh142⟩ := oHd 1 2 X137 N139 rfl rfl
  refine ownBy st137 ?_
  clear st137
  show ownG p.tables e below _ (T137.setTop (fr_law m p1 p2 p3 p4 p5 p6 92 (vI 2) (vI r22) (vI r25) (vI r28) (vI r31) (vI r34) .unset .unset .unset [(.ref b124)]))
  refine ownBy (A := T137.setTop (fr_law m p1 p2 p3 p4 p5 p6 190 (vI 2) (vI r22) (vI r25) (vI r28) (vI r31) (vI r34) (vR b124) .unset .unset [])) (fun t kt => ?_) ?_
  ·refine XS.astore Xh142.here hx rfl (D at_92) rfl rfl (l' := #[vI p1, vI p2, vI p3, vI p4, vI p5, vI p6, vI 2, vI r22, vI r25, vI r28, vI r31, vI r34, vR b124, .unset, .unset]) rfl ?_
   refine XS.goto Xh142.here hx rfl (pc0 := 94) (pc' := 190) rfl (D at_94) (by decide) (by decide) ?_
   exact kt
  obtain ⟨T143, h143, X143, e143, E143, A143, D143, -, st143⟩ := newO Xh142 hx hZ hown (Wd7 hw) (Wd8 hw) (Wd9 hw) e137 (g := (fr_law m p1 p2 p3 p4 p5 p6 190 (vI 2) (vI r22) (vI r25) (vI r28) (vI r31) (vI r34) (vR b124) .unset .unset [])) rfl (D at_190) (by decide) (by decide)
  obtain ⟨b143, g143⟩ : ∃ z, z = h137.size := ⟨_, rfl⟩
  rw [← g143] at A143 D143 st143
  have ne144 : b124 ≠ b143 := Nat.ne_of_lt (Nat.lt_of_lt_of_le V138.lt (Nat.le_of_eq g143.symm))
  have f146 := (Nat.le_trans (Nat.le_trans (Nat.le_trans Z0 E124.1) (Keep.of_wr W131).1) (Keep.of_wr W137).1)
  have g145 : n0 ≤ b143 := Nat.le_trans f146 (Nat.le_of_eq g143.symm)
  have sf147 : Safe Z ownEL s.vm h137 b143 := Safe.new (Nat.le_of_eq g143.symm)
  have f149 := (Nat.le_trans (Nat.le_trans (Nat.le_trans (Nat.le_refl h0.size) E124.1) (Keep.of_wr W131).1) (Keep.of_wr W137).1)
  have z148 : h0.size ≤ b143 := Nat.le_trans f149 (Nat.le_of_eq g143.symm)
  have R150 := R140.trans (CHr.ext E143 R140.1)
  have sf151 := Safe.ext E143 R140.1 sf141
  have sf152 := Safe.ext E143 R140.1 sf147
  have F153 : Fld Z h143 b143 "java/lang/String" "value" "[B" .null := D143 (Or.inr (Wd22 hw)) (ty := (.array .byte)) (by decide)
  have F154 : Fld Z h143 b143 "java/lang/String" "coder" "B" (iV 0) := D143 (Or.inr (Wd23 hw)) (ty := .byte) (by decide)
  refine ownBy st143 ?_
  clear st143
  show ownG p.tables e below _ (T143.setTop (fr_law m p1 p2 p3 p4 p5 p6 193 (vI 2) (vI r22) (vI r25) (vI r28) (vI r31) (vI r34) (vR b124) .unset .unset [(.ref b143)]))
  refine ownBy (A := T143.setTop (fr_law m p1 p2 p3 p4 p5 p6 196 (vI 2) (vI r22) (vI r25) (vI r28) (vI r31) (vI r34) (vR b124) .unset .unset [(.ref b124), (.ref b143), (.ref b143)])) (fun t kt => ?_) ?_
  ·refine XS.dup X143.here hx rfl (D at_193) rfl rfl ?_
   refine XS.aload X143.here hx rfl (D at_194) rfl rfl ?_
   exact kt
  have f155 := (V138.ext E143)
  have f156 := ((((X00.ext E124).wr W131 g125).wr W137 g125).ext E143)
  have f157 := (Nat.le_trans f146 E143.1)
  obtain ⟨vv158, _, ⟨T158, L158, k158, n158⟩, -, X158, ⟨Lc158, hQ158, l158, y158, z158⟩, st158⟩ := X143.specialBack hx (y := yM1) rfl hown (mvT hZ (Wd10 hw)) (mvT hZ (Wd11 hw)) (mvT hZ (Wd12 hw)) (by decide) (backOf (W := 1) (c_inC_2 l Z a0 hw [] b143 b124 k124 r22 r25 _ G1 h143 n0 f157 A143 F153 F154 g145 (Ne.symm ne144) f155 hR22 hR25 O2 P5 SA SHI SLO f156) hZ (Wd12 hw) (Wd9 hw) (by decide) (by decide)) (g := (fr_law m p1 p2 p3 p4 p5 p6 196 (vI 2) (vI r22) (vI r25) (vI r28) (vI r31) (vI r34) (vR b124) .unset .unset [(.ref b124), (.ref b143), (.ref b143)])) rfl (by rw [hml]; rfl) (Steps.refl _) (a := b143) (argsL := [(.ref b124)]) (rest := [(.ref b143)]) (lenOf pd_26 rfl) rfl (by show 2 * 0 + _ ≤ _; exact Nat.le_of_eq rfl) (D at_196) (fun _ _ => ⟨rfl, e143, (by decide : 2 + 2 ≤ _), (by decide : 6 + 6 ≤ _)⟩)
  dsimp only [Pt.U, Pt.locs, Pt.cells, Pt.slots] at X158 l158 y158 z158 st158 hQ158
  subst l158 y158 z158
  obtain ⟨rfl, Nq158, Kq158, Eq158, t158, kb158, cd158, z158, vs158, zq158, Vq158, Cq158, Aq158, hrel158⟩ := hQ158
  have ne159 : b124 ≠ t158 := Nat.ne_of_lt (Nat.lt_of_lt_of_le f155.lt zq158)
  have ne160 : b143 ≠ t158 := Nat.ne_of_lt (Nat.lt_of_lt_of_le A143.lt zq158)
  have g161 : n0 ≤ t158 := Nat.le_trans f157 zq158
  have sf162 : Safe Z ownEL s.vm h143 t158 := Safe.new zq158
  have f164 := (Nat.le_trans f149 E143.1)
  have z163 : h0.size ≤ t158 := Nat.le_trans f164 zq158
  have N165 := Fr.app Nh142 Nq158
  have R166 := R150.trans (CHr.keep Kq158 (sfS sf152 sf0) R150.1)
  have sf167 := Safe.keep Kq158 (sfS sf152 sf0) R150.1 sf151
  have sf168 := Safe.keep Kq158 (sfS sf152 sf0) R150.1 sf152
  have sf169 := Safe.keep Kq158 (sfS sf152 sf0) R150.1 sf162
  obtain ⟨Lh170, Xh170, Nh170⟩ := oHd 4 12 X158 N165 rfl rfl
  refine ownSt st158 ?_
  clear st158
  show ownG p.tables e below _ (T158.setTop (fr_law m p1 p2 p3 p4 p5 p6 199 (vI 2) (vI r22) (vI r25) (vI r28) (vI r31) (vI r34) (vR b124) .unset .unset [(.ref b143)]))
  refine ownBy (A := T158.setTop (fr_law m p1 p2 p3 p4 p5 p6 201 (vI 2) (vI r22) (vI r25) (vI r28) (vI r31) (vI r34) (vR b124) (vR b143) .unset [])) (fun t kt => ?_) ?_
  ·refine XS.astore Xh170.here hx rfl (D at_199) rfl rfl (l' := #[vI p1, vI p2, vI p3, vI p4, vI p5, vI p6, vI 2, vI r22, vI r25, vI r28, vI r31, vI r34, vR b124, vR b143, .unset]) rfl ?_
   exact kt
  have seg171 : ∀ t, Steps p.tables e below (T158.setTop (fr_law m p1 p2 p3 p4 p5 p6 270 (vI 2) (vI r22) (vI r25) (vI r28) (vI r31) (vI r34) (vR b124) (vR b143) .unset [(.int (own_b (r22 = (42 : Int32) ∨ r25 = (42 : Int32))))])) t → Steps p.tables e below (T158.setTop (fr_law m p1 p2 p3 p4 p5 p6 201 (vI 2) (vI r22) (vI r25) (vI r28) (vI r31) (vI r34) (vR b124) (vR b143) .unset [])) t := by
   intro t kt
   show Steps p.tables e below (T158.setTop (fr_law m p1 p2 p3 p4 p5 p6 201 (vI 2) (vI r22) (vI r25) (vI r28) (vI r31) (vI r34) (vR b124) (vR b143) .unset [])) t
   refine XS.iload Xh170.here hx rfl (D at_201) rfl ?_
   refine XS.ifNo Xh170.here hx rfl (D at_203) rfl ((if0 _ _).trans (tlt ((by decide) : (0 : Int32) < (2 : Int32))).2.2.2) ?_
   refine XS.iload Xh170.here hx rfl (D at_206) rfl ?_
   refine XS.bipush Xh170.here hx rfl (D at_208) ?_
   show Steps p.tables e below (T158.setTop (fr_law m p1 p2 p3 p4 p5 p6 210 (vI 2) (vI r22) (vI r25) (vI r28) (vI r31) (vI r34) (vR b124) (vR b143) .unset [(iV 42), (.int r22)])) t
   by_cases hc172 : r22 = (42 : Int32)
   ·skip
    show Steps p.tables e below (T158.setTop (fr_law m p1 p2 p3 p4 p5 p6 210 (vI 2) (vI r22) (vI r25) (vI r28) (vI r31) (vI r34) (vR b124) (vR b143) .unset [(iV 42), (.int r22)])) t
    refine XS.icmpYes Xh170.here hx rfl (pc0 := 210) (pc' := 265) rfl (D at_210) rfl (teq hc172).1 (by decide) (by decide) ?_
    refine XS.iconst Xh170.here hx rfl (D at_265) ?_
    refine XS.goto Xh170.here hx rfl (pc0 := 266) (pc' := 270) rfl (D at_266) (by decide) (by decide) ?_
    show Steps p.tables e below (T158.setTop (fr_law m p1 p2 p3 p4 p5 p6 270 (vI 2) (vI r22) (vI r25) (vI r28) (vI r31) (vI r34) (vR b124) (vR b143) .unset [(iV 1)])) t
    rw [show (own_b (r22 = (42 : Int32) ∨ r25 = (42 : Int32))) = (1 : Int32) from by simp [own_b, hc172]] at kt
    exact kt
   ·skip
    show Steps p.tables e below (T158.setTop (fr_law m p1 p2 p3 p4 p5 p6 210 (vI 2) (vI r22) (vI r25) (vI r28) (vI r31) (vI r34) (vR b124) (vR b143) .unset [(iV 42), (.int r22)])) t
    refine XS.icmpNo Xh170.here hx rfl (D at_210) rfl (feq hc172).1 ?_
    refine XS.iload Xh170.here hx rfl (D at_213) rfl ?_
    refine XS.iconst Xh170.here hx rfl (D at_215) ?_
    refine XS.icmpNo Xh170.here hx rfl (D at_216) rfl (tlt ((by decide) : (1 : Int32) < (2 : Int32))).2.2.2 ?_
    refine XS.iload Xh170.here hx rfl (D at_219) rfl ?_
    refine XS.bipush Xh170.here hx rfl (D at_221) ?_
    show Steps p.tables e below (T158.setTop (fr_law m p1 p2 p3 p4 p5 p6 223 (vI 2) (vI r22) (vI r25) (vI r28) (vI r31) (vI r34) (vR b124) (vR b143) .unset [(iV 42), (.int r25)])) t
    by_cases hc173 : r25 = (42 : Int32)
    ·skip
     show Steps p.tables e below (T158.setTop (fr_law m p1 p2 p3 p4 p5 p6 223 (vI 2) (vI r22) (vI r25) (vI r28) (vI r31) (vI r34) (vR b124) (vR b143) .unset [(iV 42), (.int r25)])) t
     refine XS.icmpYes Xh170.here hx rfl (pc0 := 223) (pc' := 265) rfl (D at_223) rfl (teq hc173).1 (by decide) (by decide) ?_
     refine XS.iconst Xh170.here hx rfl (D at_265) ?_
     refine XS.goto Xh170.here hx rfl (pc0 := 266) (pc' := 270) rfl (D at_266) (by decide) (by decide) ?_
     show Steps p.tables e below (T158.setTop (fr_law m p1 p2 p3 p4 p5 p6 270 (vI 2) (vI r22) (vI r25) (vI r28) (vI r31) (vI r34) (vR b124) (vR b143) .unset [(iV 1)])) t
     rw [show (own_b (r22 = (42 : Int32) ∨ r25 = (42 : Int32))) = (1 : Int32) from by simp [own_b, hc172, hc173]] at kt
     exact kt
    ·skip
     show Steps p.tables e below (T158.setTop (fr_law m p1 p2 p3 p4 p5 p6 223 (vI 2) (vI r22) (vI r25) (vI r28) (vI r31) (vI r34) (vR b124) (vR b143) .unset [(iV 42), (.int r25)])) t
     refine XS.icmpNo Xh170.here hx rfl (D at_223) rfl (feq hc173).1 ?_
     refine XS.iload Xh170.here hx rfl (D at_226) rfl ?_
     refine XS.iconst Xh170.here hx rfl (D at_228) ?_
     refine XS.icmpYes Xh170.here hx rfl (pc0 := 229) (pc' := 239) rfl (D at_229) rfl (flt ((by decide) : ¬ ((2 : Int32) < (2 : Int32)))).2.2.2 (by decide) (by decide) ?_
     refine XS.iload Xh170.here hx rfl (D at_239) rfl ?_
     refine XS.iconst Xh170.here hx rfl (D at_241) ?_
     refine XS.icmpYes Xh170.here hx rfl (pc0 := 242) (pc' := 252) rfl (D at_242) rfl (flt ((by decide) : ¬ ((3 : Int32) < (2 : Int32)))).2.2.2 (by decide) (by decide) ?_
     refine XS.iload Xh170.here hx rfl (D at_252) rfl ?_
     refine XS.iconst Xh170.here hx rfl (D at_254) ?_
     refine XS.icmpYes Xh170.here hx rfl (pc0 := 255) (pc' := 269) rfl (D at_255) rfl (flt ((by decide) : ¬ ((4 : Int32) < (2 : Int32)))).2.2.2 (by decide) (by decide) ?_
     refine XS.iconst Xh170.here hx rfl (D at_269) ?_
     show Steps p.tables e below (T158.setTop (fr_law m p1 p2 p3 p4 p5 p6 270 (vI 2) (vI r22) (vI r25) (vI r28) (vI r31) (vI r34) (vR b124) (vR b143) .unset [(iV 0)])) t
     rw [show (own_b (r22 = (42 : Int32) ∨ r25 = (42 : Int32))) = (0 : Int32) from by simp [own_b, hc172, hc173]] at kt
     exact kt
  refine ownBy seg171 ?_
  show ownG p.tables e below _ (T158.setTop (fr_law m p1 p2 p3 p4 p5 p6 270 (vI 2) (vI r22) (vI r25) (vI r28) (vI r31) (vI r34) (vR b124) (vR b143) .unset [(.int (own_b (r22 = (42 : Int32) ∨ r25 = (42 : Int32))))]))
  refine ownBy (A := T158.setTop (fr_law m p1 p2 p3 p4 p5 p6 274 (vI 2) (vI r22) (vI r25) (vI r28) (vI r31) (vI r34) (vR b124) (vR b143) (.val (.int (own_b (r22 = (42 : Int32) ∨ r25 = (42 : Int32))))) [(.ref b143)])) (fun t kt => ?_) ?_
  ·refine XS.istore Xh170.here hx rfl (D at_270) rfl (l' := #[vI p1, vI p2, vI p3, vI p4, vI p5, vI p6, vI 2, vI r22, vI r25, vI r28, vI r31, vI r34, vR b124, vR b143, .val (.int (own_b (r22 = (42 : Int32) ∨ r25 = (42 : Int32))))]) rfl ?_
   refine XS.aload Xh170.here hx rfl (D at_272) rfl rfl ?_
   exact kt
  have f174 := (A143.keep Kq158)
  have f175 := (f156.keep Kq158 (allS g145 all0))
  have f176 := (Nat.le_trans f157 Kq158.1)
  obtain ⟨vv177, _, ⟨T177, L177, k177, n177⟩, -, X177, ⟨Lc177, hQ177, l177, y177, z177⟩, st177⟩ := Jvm.LawKit.callS Xh170 hx (y := yM27) hown (mvT hZ (Wd28 hw)) (mvT hZ (Wd29 hw)) (mvT hZ (Wd30 hw)) (mvT hZ (Wd31 hw)) (by decide) (backOf (W := 0) (c_isin l Z a0 hw [] b143 t158 kb158 cd158 z158 vs158 (r22 = (42 : Int32) ∨ r25 = (42 : Int32)) T158.heap n0 f176 f174 Vq158 Cq158 Aq158 (hb2 l Z a0 hw b143 t158 kb158 cd158 z158 vs158 r22 r25 G1 G3 hrel158 hR22 hR25 O2 P5 SA SHI SLO O4 rG3) f175) hZ (Wd31 hw) (Wd30 hw) (by decide) (by decide)) (g := (fr_law m p1 p2 p3 p4 p5 p6 274 (vI 2) (vI r22) (vI r25) (vI r28) (vI r31) (vI r34) (vR b124) (vR b143) (.val (.int (own_b (r22 = (42 : Int32) ∨ r25 = (42 : Int32))))) [(.ref b143)])) rfl (by rw [hml]; rfl) (argsL := [(.ref b143)]) (rest := []) (lenOf pd_27 rfl) rfl (by show 2 * 0 + _ ≤ _; exact Nat.le_of_eq rfl) (D at_274) (fun _ _ => ⟨rfl, rfl, (by decide : 4 + 0 ≤ _), (by decide : 12 + 0 ≤ _)⟩)
  dsimp only [Pt.U, Pt.locs, Pt.cells, Pt.slots] at X177 l177 y177 z177 st177 hQ177
  subst l177 y177 z177
  obtain ⟨Nq177, Eq177, hB177⟩ := hQ177
  obtain rfl : vv177 = some (.int (own_b (r22 = (42 : Int32) ∨ r25 = (42 : Int32)))) := by
   rcases hB177 with ⟨h, q⟩ | ⟨h, q⟩
   ·rw [q, own_bt1 h]
   ·rw [q, own_bf0 h]
  have N178 := Fr.app Nh170 Nq177
  obtain ⟨Lh179, Xh179, Nh179⟩ := oHd 4 12 X177 N178 rfl rfl
  refine ownBy st177 ?_
  clear st177
  show ownG p.tables e below _ (T177.setTop (fr_law m p1 p2 p3 p4 p5 p6 277 (vI 2) (vI r22) (vI r25) (vI r28) (vI r31) (vI r34) (vR b124) (vR b143) (.val (.int (own_b (r22 = (42 : Int32) ∨ r25 = (42 : Int32))))) [(.int (own_b (r22 = (42 : Int32) ∨ r25 = (42 : Int32))))]))
  refine ownBy (A := T177.setTop (fr_law m p1 p2 p3 p4 p5 p6 287 (vI 2) (vI r22) (vI r25) (vI r28) (vI r31) (vI r34) (vR b124) (vR b143) (.val (.int (own_b (r22 = (42 : Int32) ∨ r25 = (42 : Int32))))) [(iV 1)])) (fun t kt => ?_) ?_
  ·refine XS.iload Xh179.here hx rfl (D at_277) rfl ?_
   refine XS.icmpNo Xh179.here hx rfl (D at_279) rfl (teq (rfl : (own_b (r22 = (42 : Int32) ∨ r25 = (42 : Int32))) = (own_b (r22 = (42 : Int32) ∨ r25 = (42 : Int32))))).2 ?_
   refine XS.iconst Xh179.here hx rfl (D at_282) ?_
   refine XS.goto Xh179.here hx rfl (pc0 := 283) (pc' := 287) rfl (D at_283) (by decide) (by decide) ?_
   exact kt
  refine ownRetH Xh179 hS0 (by rw [Eq177]; exact (Nat.le_trans (Nat.le_trans (Nat.le_trans (Nat.le_trans (Nat.le_trans (Nat.le_refl _) E124.1) (Keep.of_wr W131).1) (Keep.of_wr W137).1) E143.1) Kq158.1)) Bd.notSynchronized (v := some (.int (nar .boolean (1 : Int32)))) (fun h => by rw [Bd.returns] at h; cases h) ?_ (R166.trans ((by rw [Eq177]; exact CHv.at Xh179 hZ hEL R166.1))) (oLe rfl) (oLe rfl) (fun fs hr => retN Xh179 hx (t := .boolean) Bd.returns (by simp) (D at_287) hr)
  show (Q_law Z p1 p2 p3 p4 p5 p6 G1 G3 h0 n0) (some (.int (nar .boolean (1 : Int32)))) T177.heap _
  rw [Eq177]
  exact ⟨rfl, Nh179⟩
 ·skip
  show ownG p.tables e below _ (T34.setTop (fr_law m p1 p2 p3 p4 p5 p6 41 (vI 3) (vI r22) (vI r25) (vI r28) (vI r31) (vI r34) .unset .unset .unset []))
  refine ownBy (A := T34.setTop (fr_law m p1 p2 p3 p4 p5 p6 104 (vI 3) (vI r22) (vI r25) (vI r28) (vI r31) (vI r34) .unset .unset .unset [(iV 3)])) (fun t kt => ?_) ?_
  ·refine XS.iload Xh36.here hx rfl (D at_41) rfl ?_
   refine XS.ifYes Xh36.here hx rfl (pc0 := 43) (pc' := 54) rfl (D at_43) rfl ((if0 _ _).trans (feq ((by decide) : ¬ ((3 : Int32) = (0 : Int32)))).2) (by decide) (by decide) ?_
   refine XS.iload Xh36.here hx rfl (D at_54) rfl ?_
   refine XS.iconst Xh36.here hx rfl (D at_56) ?_
   refine XS.icmpYes Xh36.here hx rfl (pc0 := 57) (pc' := 73) rfl (D at_57) rfl (feq ((by decide) : ¬ ((3 : Int32) = (1 : Int32)))).2 (by decide) (by decide) ?_
   refine XS.iload Xh36.here hx rfl (D at_73) rfl ?_
   refine XS.iconst Xh36.here hx rfl (D at_75) ?_
   refine XS.icmpYes Xh36.here hx rfl (pc0 := 76) (pc' := 97) rfl (D at_76) rfl (feq ((by decide) : ¬ ((3 : Int32) = (2 : Int32)))).2 (by decide) (by decide) ?_
   refine XS.iload Xh36.here hx rfl (D at_97) rfl ?_
   refine XS.iconst Xh36.here hx rfl (D at_99) ?_
   refine XS.icmpNo Xh36.here hx rfl (D at_100) rfl (teq ((by decide) : (3 : Int32) = (3 : Int32))).2 ?_
   refine XS.iconst Xh36.here hx rfl (D at_103) ?_
   exact kt
  obtain ⟨T181, h181, k181, X181, e181, E181, A181, st181⟩ := newP Xh36 hx hZ (aty := .char) (Wd6 hw) Eq34 (g := (fr_law m p1 p2 p3 p4 p5 p6 104 (vI 3) (vI r22) (vI r25) (vI r28) (vI r31) (vI r34) .unset .unset .unset [(iV 3)])) rfl (D at_104) rfl (by decide : ¬ ((3 : Int32) < (0 : Int32))) (cap := 3) (by decide) (by decide) (by decide) (by decide)
  obtain ⟨b181, g181⟩ : ∃ z, z = h0.size := ⟨_, rfl⟩
  rw [← g181] at A181 st181
  have g182 : n0 ≤ b181 := Nat.le_trans Z0 (Nat.le_of_eq g181.symm)
  have sf183 : Safe Z ownEL s.vm h0 b181 := Safe.new (Nat.le_of_eq g181.symm)
  have z184 : h0.size ≤ b181 := Nat.le_trans (Nat.le_refl h0.size) (Nat.le_of_eq g181.symm)
  have R185 := R0.trans (CHr.ext E181 R0.1)
  have sf186 := Safe.ext E181 R0.1 sf183
  have V187 : Arv Z h181 b181 k181 .char (3 : Int32) [(iV 0), (iV 0), (iV 0)] (iV 0) := (Arv.new A181 (by decide)).pad (pad_rep [] (iV 0) 3)
  refine ownBy st181 ?_
  clear st181
  show ownG p.tables e below _ (T181.setTop (fr_law m p1 p2 p3 p4 p5 p6 106 (vI 3) (vI r22) (vI r25) (vI r28) (vI r31) (vI r34) .unset .unset .unset [(.ref b181)]))
  refine ownBy (A := T181.setTop (fr_law m p1 p2 p3 p4 p5 p6 110 (vI 3) (vI r22) (vI r25) (vI r28) (vI r31) (vI r34) .unset .unset .unset [(.int r22), (iV 0), (.ref b181), (.ref b181)])) (fun t kt => ?_) ?_
  ·refine XS.dup X181.here hx rfl (D at_106) rfl rfl ?_
   refine XS.iconst X181.here hx rfl (D at_107) ?_
   refine XS.iload X181.here hx rfl (D at_108) rfl ?_
   exact kt
  obtain ⟨cl188, Ar188, q188, S188, N188, H188, G188⟩ := id V187
  have hin188 : ¬ ((0 : Int32) < 0 ∨ cl188.slots.size ≤ ((0 : Int32)).toNatClampNeg) := inb_of S188 ⟨by decide, by decide⟩
  obtain ⟨T188, h188, X188, e188, W188, st188⟩ := stC X181 hx hZ e181 Ar188 (j := (0 : Int32)) hin188 (g := (fr_law m p1 p2 p3 p4 p5 p6 110 (vI 3) (vI r22) (vI r25) (vI r28) (vI r31) (vI r34) .unset .unset .unset [(.int r22), (iV 0), (.ref b181), (.ref b181)])) rfl rfl (D at_110)
  have V189 : Arv Z h188 b181 k181 .char (3 : Int32) [(.int (nar .char r22)), (iV 0), (iV 0)] (iV 0) := Arv.set Ar188 q188 S188 N188 H188 G188 (fits_nar_char _) W188 0 rfl (oLe rfl)
  rw [own_c16 hR22] at V189
  clear hin188 G188 H188 N188 S188 q188 Ar188 cl188 V187
  have N190 := Fr.snoc X188 Nh36 g182
  have R191 := R185.trans (CHr.wr W188 sf186 R185.1)
  have sf192 := Safe.wr W188 sf186 R185.1 sf186
  obtain ⟨Lh193, Xh193, Nh193⟩ := oHd 1 3 X188 N190 rfl rfl
  refine ownBy st188 ?_
  clear st188
  show ownG p.tables e below _ (T188.setTop (fr_law m p1 p2 p3 p4 p5 p6 111 (vI 3) (vI r22) (vI r25) (vI r28) (vI r31) (vI r34) .unset .unset .unset [(.ref b181)]))
  refine ownBy (A := T188.setTop (fr_law m p1 p2 p3 p4 p5 p6 115 (vI 3) (vI r22) (vI r25) (vI r28) (vI r31) (vI r34) .unset .unset .unset [(.int r25), (iV 1), (.ref b181), (.ref b181)])) (fun t kt => ?_) ?_
  ·refine XS.dup Xh193.here hx rfl (D at_111) rfl rfl ?_
   refine XS.iconst Xh193.here hx rfl (D at_112) ?_
   refine XS.iload Xh193.here hx rfl (D at_113) rfl ?_
   exact kt
  obtain ⟨cl194, Ar194, q194, S194, N194, H194, G194⟩ := id V189
  have hin194 : ¬ ((1 : Int32) < 0 ∨ cl194.slots.size ≤ ((1 : Int32)).toNatClampNeg) := inb_of S194 ⟨by decide, by decide⟩
  obtain ⟨T194, h194, X194, e194, W194, st194⟩ := stC Xh193 hx hZ e188 Ar194 (j := (1 : Int32)) hin194 (g := (fr_law m p1 p2 p3 p4 p5 p6 115 (vI 3) (vI r22) (vI r25) (vI r28) (vI r31) (vI r34) .unset .unset .unset [(.int r25), (iV 1), (.ref b181), (.ref b181)])) rfl rfl (D at_115)
  have V195 : Arv Z h194 b181 k181 .char (3 : Int32) [(.int r22), (.int (nar .char r25)), (iV 0)] (iV 0) := Arv.set Ar194 q194 S194 N194 H194 G194 (fits_nar_char _) W194 1 rfl (oLe rfl)
  rw [own_c16 hR25] at V195
  clear hin194 G194 H194 N194 S194 q194 Ar194 cl194 V189
  have N196 := Fr.snoc X194 Nh193 g182
  have R197 := R191.trans (CHr.wr W194 sf192 R191.1)
  have sf198 := Safe.wr W194 sf192 R191.1 sf192
  obtain ⟨Lh199, Xh199, Nh199⟩ := oHd 1 3 X194 N196 rfl rfl
  refine ownBy st194 ?_
  clear st194
  show ownG p.tables e below _ (T194.setTop (fr_law m p1 p2 p3 p4 p5 p6 116 (vI 3) (vI r22) (vI r25) (vI r28) (vI r31) (vI r34) .unset .unset .unset [(.ref b181)]))
  refine ownBy (A := T194.setTop (fr_law m p1 p2 p3 p4 p5 p6 120 (vI 3) (vI r22) (vI r25) (vI r28) (vI r31) (vI r34) .unset .unset .unset [(.int r28), (iV 2), (.ref b181), (.ref b181)])) (fun t kt => ?_) ?_
  ·refine XS.dup Xh199.here hx rfl (D at_116) rfl rfl ?_
   refine XS.iconst Xh199.here hx rfl (D at_117) ?_
   refine XS.iload Xh199.here hx rfl (D at_118) rfl ?_
   exact kt
  obtain ⟨cl200, Ar200, q200, S200, N200, H200, G200⟩ := id V195
  have hin200 : ¬ ((2 : Int32) < 0 ∨ cl200.slots.size ≤ ((2 : Int32)).toNatClampNeg) := inb_of S200 ⟨by decide, by decide⟩
  obtain ⟨T200, h200, X200, e200, W200, st200⟩ := stC Xh199 hx hZ e194 Ar200 (j := (2 : Int32)) hin200 (g := (fr_law m p1 p2 p3 p4 p5 p6 120 (vI 3) (vI r22) (vI r25) (vI r28) (vI r31) (vI r34) .unset .unset .unset [(.int r28), (iV 2), (.ref b181), (.ref b181)])) rfl rfl (D at_120)
  have V201 : Arv Z h200 b181 k181 .char (3 : Int32) [(.int r22), (.int r25), (.int (nar .char r28))] (iV 0) := Arv.set Ar200 q200 S200 N200 H200 G200 (fits_nar_char _) W200 2 rfl (oLe rfl)
  rw [own_c16 hR28] at V201
  clear hin200 G200 H200 N200 S200 q200 Ar200 cl200 V195
  have N202 := Fr.snoc X200 Nh199 g182
  have R203 := R197.trans (CHr.wr W200 sf198 R197.1)
  have sf204 := Safe.wr W200 sf198 R197.1 sf198
  obtain ⟨Lh205, Xh205, Nh205⟩ := oHd 1 3 X200 N202 rfl rfl
  refine ownBy st200 ?_
  clear st200
  show ownG p.tables e below _ (T200.setTop (fr_law m p1 p2 p3 p4 p5 p6 121 (vI 3) (vI r22) (vI r25) (vI r28) (vI r31) (vI r34) .unset .unset .unset [(.ref b181)]))
  refine ownBy (A := T200.setTop (fr_law m p1 p2 p3 p4 p5 p6 190 (vI 3) (vI r22) (vI r25) (vI r28) (vI r31) (vI r34) (vR b181) .unset .unset [])) (fun t kt => ?_) ?_
  ·refine XS.astore Xh205.here hx rfl (D at_121) rfl rfl (l' := #[vI p1, vI p2, vI p3, vI p4, vI p5, vI p6, vI 3, vI r22, vI r25, vI r28, vI r31, vI r34, vR b181, .unset, .unset]) rfl ?_
   refine XS.goto Xh205.here hx rfl (pc0 := 123) (pc' := 190) rfl (D at_123) (by decide) (by decide) ?_
   exact kt
  obtain ⟨T206, h206, X206, e206, E206, A206, D206, -, st206⟩ := newO Xh205 hx hZ hown (Wd7 hw) (Wd8 hw) (Wd9 hw) e200 (g := (fr_law m p1 p2 p3 p4 p5 p6 190 (vI 3) (vI r22) (vI r25) (vI r28) (vI r31) (vI r34) (vR b181) .unset .unset [])) rfl (D at_190) (by decide) (by decide)
  obtain ⟨b206, g206⟩ : ∃ z, z = h200.size := ⟨_, rfl⟩
  rw [← g206] at A206 D206 st206
  have ne207 : b181 ≠ b206 := Nat.ne_of_lt (Nat.lt_of_lt_of_le V201.lt (Nat.le_of_eq g206.symm))
  have f209 := (Nat.le_trans (Nat.le_trans (Nat.le_trans (Nat.le_trans Z0 E181.1) (Keep.of_wr W188).1) (Keep.of_wr W194).1) (Keep.of_wr W200).1)
  have g208 : n0 ≤ b206 := Nat.le_trans f209 (Nat.le_of_eq g206.symm)
  have sf210 : Safe Z ownEL s.vm h200 b206 := Safe.new (Nat.le_of_eq g206.symm)
  have f212 := (Nat.le_trans (Nat.le_trans (Nat.le_trans (Nat.le_trans (Nat.le_refl h0.size) E181.1) (Keep.of_wr W188).1) (Keep.of_wr W194).1) (Keep.of_wr W200).1)
  have z211 : h0.size ≤ b206 := Nat.le_trans f212 (Nat.le_of_eq g206.symm)
  have R213 := R203.trans (CHr.ext E206 R203.1)
  have sf214 := Safe.ext E206 R203.1 sf204
  have sf215 := Safe.ext E206 R203.1 sf210
  have F216 : Fld Z h206 b206 "java/lang/String" "value" "[B" .null := D206 (Or.inr (Wd22 hw)) (ty := (.array .byte)) (by decide)
  have F217 : Fld Z h206 b206 "java/lang/String" "coder" "B" (iV 0) := D206 (Or.inr (Wd23 hw)) (ty := .byte) (by decide)
  refine ownBy st206 ?_
  clear st206
  show ownG p.tables e below _ (T206.setTop (fr_law m p1 p2 p3 p4 p5 p6 193 (vI 3) (vI r22) (vI r25) (vI r28) (vI r31) (vI r34) (vR b181) .unset .unset [(.ref b206)]))
  refine ownBy (A := T206.setTop (fr_law m p1 p2 p3 p4 p5 p6 196 (vI 3) (vI r22) (vI r25) (vI r28) (vI r31) (vI r34) (vR b181) .unset .unset [(.ref b181), (.ref b206), (.ref b206)])) (fun t kt => ?_) ?_
  ·refine XS.dup X206.here hx rfl (D at_193) rfl rfl ?_
   refine XS.aload X206.here hx rfl (D at_194) rfl rfl ?_
   exact kt
  have f218 := (V201.ext E206)
  have f219 := (((((X00.ext E181).wr W188 g182).wr W194 g182).wr W200 g182).ext E206)
  have f220 := (Nat.le_trans f209 E206.1)
  obtain ⟨vv221, _, ⟨T221, L221, k221, n221⟩, -, X221, ⟨Lc221, hQ221, l221, y221, z221⟩, st221⟩ := X206.specialBack hx (y := yM1) rfl hown (mvT hZ (Wd10 hw)) (mvT hZ (Wd11 hw)) (mvT hZ (Wd12 hw)) (by decide) (backOf (W := 1) (c_inC_3 l Z a0 hw [] b206 b181 k181 r22 r25 r28 _ G1 h206 n0 f220 A206 F216 F217 g208 (Ne.symm ne207) f218 hR22 hR25 hR28 O2 P5 SA SHI SLO f219) hZ (Wd12 hw) (Wd9 hw) (by decide) (by decide)) (g := (fr_law m p1 p2 p3 p4 p5 p6 196 (vI 3) (vI r22) (vI r25) (vI r28) (vI r31) (vI r34) (vR b181) .unset .unset [(.ref b181), (.ref b206), (.ref b206)])) rfl (by rw [hml]; rfl) (Steps.refl _) (a := b206) (argsL := [(.ref b181)]) (rest := [(.ref b206)]) (lenOf pd_26 rfl) rfl (by show 2 * 0 + _ ≤ _; exact Nat.le_of_eq rfl) (D at_196) (fun _ _ => ⟨rfl, e206, (by decide : 2 + 2 ≤ _), (by decide : 7 + 9 ≤ _)⟩)
  dsimp only [Pt.U, Pt.locs, Pt.cells, Pt.slots] at X221 l221 y221 z221 st221 hQ221
  subst l221 y221 z221
  obtain ⟨rfl, Nq221, Kq221, Eq221, t221, kb221, cd221, z221, vs221, zq221, Vq221, Cq221, Aq221, hrel221⟩ := hQ221
  have ne222 : b181 ≠ t221 := Nat.ne_of_lt (Nat.lt_of_lt_of_le f218.lt zq221)
  have ne223 : b206 ≠ t221 := Nat.ne_of_lt (Nat.lt_of_lt_of_le A206.lt zq221)
  have g224 : n0 ≤ t221 := Nat.le_trans f220 zq221
  have sf225 : Safe Z ownEL s.vm h206 t221 := Safe.new zq221
  have f227 := (Nat.le_trans f212 E206.1)
  have z226 : h0.size ≤ t221 := Nat.le_trans f227 zq221
  have N228 := Fr.app Nh205 Nq221
  have R229 := R213.trans (CHr.keep Kq221 (sfS sf215 sf0) R213.1)
  have sf230 := Safe.keep Kq221 (sfS sf215 sf0) R213.1 sf214
  have sf231 := Safe.keep Kq221 (sfS sf215 sf0) R213.1 sf215
  have sf232 := Safe.keep Kq221 (sfS sf215 sf0) R213.1 sf225
  obtain ⟨Lh233, Xh233, Nh233⟩ := oHd 4 16 X221 N228 rfl rfl
  refine ownSt st221 ?_
  clear st221
  show ownG p.tables e below _ (T221.setTop (fr_law m p1 p2 p3 p4 p5 p6 199 (vI 3) (vI r22) (vI r25) (vI r28) (vI r31) (vI r34) (vR b181) .unset .unset [(.ref b206)]))
  refine ownBy (A := T221.setTop (fr_law m p1 p2 p3 p4 p5 p6 201 (vI 3) (vI r22) (vI r25) (vI r28) (vI r31) (vI r34) (vR b181) (vR b206) .unset [])) (fun t kt => ?_) ?_
  ·refine XS.astore Xh233.here hx rfl (D at_199) rfl rfl (l' := #[vI p1, vI p2, vI p3, vI p4, vI p5, vI p6, vI 3, vI r22, vI r25, vI r28, vI r31, vI r34, vR b181, vR b206, .unset]) rfl ?_
   exact kt
  have seg234 : ∀ t, Steps p.tables e below (T221.setTop (fr_law m p1 p2 p3 p4 p5 p6 270 (vI 3) (vI r22) (vI r25) (vI r28) (vI r31) (vI r34) (vR b181) (vR b206) .unset [(.int (own_b (r22 = (42 : Int32) ∨ r25 = (42 : Int32) ∨ r28 = (42 : Int32))))])) t → Steps p.tables e below (T221.setTop (fr_law m p1 p2 p3 p4 p5 p6 201 (vI 3) (vI r22) (vI r25) (vI r28) (vI r31) (vI r34) (vR b181) (vR b206) .unset [])) t := by
   intro t kt
   show Steps p.tables e below (T221.setTop (fr_law m p1 p2 p3 p4 p5 p6 201 (vI 3) (vI r22) (vI r25) (vI r28) (vI r31) (vI r34) (vR b181) (vR b206) .unset [])) t
   refine XS.iload Xh233.here hx rfl (D at_201) rfl ?_
   refine XS.ifNo Xh233.here hx rfl (D at_203) rfl ((if0 _ _).trans (tlt ((by decide) : (0 : Int32) < (3 : Int32))).2.2.2) ?_
   refine XS.iload Xh233.here hx rfl (D at_206) rfl ?_
   refine XS.bipush Xh233.here hx rfl (D at_208) ?_
   show Steps p.tables e below (T221.setTop (fr_law m p1 p2 p3 p4 p5 p6 210 (vI 3) (vI r22) (vI r25) (vI r28) (vI r31) (vI r34) (vR b181) (vR b206) .unset [(iV 42), (.int r22)])) t
   by_cases hc235 : r22 = (42 : Int32)
   ·skip
    show Steps p.tables e below (T221.setTop (fr_law m p1 p2 p3 p4 p5 p6 210 (vI 3) (vI r22) (vI r25) (vI r28) (vI r31) (vI r34) (vR b181) (vR b206) .unset [(iV 42), (.int r22)])) t
    refine XS.icmpYes Xh233.here hx rfl (pc0 := 210) (pc' := 265) rfl (D at_210) rfl (teq hc235).1 (by decide) (by decide) ?_
    refine XS.iconst Xh233.here hx rfl (D at_265) ?_
    refine XS.goto Xh233.here hx rfl (pc0 := 266) (pc' := 270) rfl (D at_266) (by decide) (by decide) ?_
    show Steps p.tables e below (T221.setTop (fr_law m p1 p2 p3 p4 p5 p6 270 (vI 3) (vI r22) (vI r25) (vI r28) (vI r31) (vI r34) (vR b181) (vR b206) .unset [(iV 1)])) t
    rw [show (own_b (r22 = (42 : Int32) ∨ r25 = (42 : Int32) ∨ r28 = (42 : Int32))) = (1 : Int32) from by simp [own_b, hc235]] at kt
    exact kt
   ·skip
    show Steps p.tables e below (T221.setTop (fr_law m p1 p2 p3 p4 p5 p6 210 (vI 3) (vI r22) (vI r25) (vI r28) (vI r31) (vI r34) (vR b181) (vR b206) .unset [(iV 42), (.int r22)])) t
    refine XS.icmpNo Xh233.here hx rfl (D at_210) rfl (feq hc235).1 ?_
    refine XS.iload Xh233.here hx rfl (D at_213) rfl ?_
    refine XS.iconst Xh233.here hx rfl (D at_215) ?_
    refine XS.icmpNo Xh233.here hx rfl (D at_216) rfl (tlt ((by decide) : (1 : Int32) < (3 : Int32))).2.2.2 ?_
    refine XS.iload Xh233.here hx rfl (D at_219) rfl ?_
    refine XS.bipush Xh233.here hx rfl (D at_221) ?_
    show Steps p.tables e below (T221.setTop (fr_law m p1 p2 p3 p4 p5 p6 223 (vI 3) (vI r22) (vI r25) (vI r28) (vI r31) (vI r34) (vR b181) (vR b206) .unset [(iV 42), (.int r25)])) t
    by_cases hc236 : r25 = (42 : Int32)
    ·skip
     show Steps p.tables e below (T221.setTop (fr_law m p1 p2 p3 p4 p5 p6 223 (vI 3) (vI r22) (vI r25) (vI r28) (vI r31) (vI r34) (vR b181) (vR b206) .unset [(iV 42), (.int r25)])) t
     refine XS.icmpYes Xh233.here hx rfl (pc0 := 223) (pc' := 265) rfl (D at_223) rfl (teq hc236).1 (by decide) (by decide) ?_
     refine XS.iconst Xh233.here hx rfl (D at_265) ?_
     refine XS.goto Xh233.here hx rfl (pc0 := 266) (pc' := 270) rfl (D at_266) (by decide) (by decide) ?_
     show Steps p.tables e below (T221.setTop (fr_law m p1 p2 p3 p4 p5 p6 270 (vI 3) (vI r22) (vI r25) (vI r28) (vI r31) (vI r34) (vR b181) (vR b206) .unset [(iV 1)])) t
     rw [show (own_b (r22 = (42 : Int32) ∨ r25 = (42 : Int32) ∨ r28 = (42 : Int32))) = (1 : Int32) from by simp [own_b, hc235, hc236]] at kt
     exact kt
    ·skip
     show Steps p.tables e below (T221.setTop (fr_law m p1 p2 p3 p4 p5 p6 223 (vI 3) (vI r22) (vI r25) (vI r28) (vI r31) (vI r34) (vR b181) (vR b206) .unset [(iV 42), (.int r25)])) t
     refine XS.icmpNo Xh233.here hx rfl (D at_223) rfl (feq hc236).1 ?_
     refine XS.iload Xh233.here hx rfl (D at_226) rfl ?_
     refine XS.iconst Xh233.here hx rfl (D at_228) ?_
     refine XS.icmpNo Xh233.here hx rfl (D at_229) rfl (tlt ((by decide) : (2 : Int32) < (3 : Int32))).2.2.2 ?_
     refine XS.iload Xh233.here hx rfl (D at_232) rfl ?_
     refine XS.bipush Xh233.here hx rfl (D at_234) ?_
     show Steps p.tables e below (T221.setTop (fr_law m p1 p2 p3 p4 p5 p6 236 (vI 3) (vI r22) (vI r25) (vI r28) (vI r31) (vI r34) (vR b181) (vR b206) .unset [(iV 42), (.int r28)])) t
     by_cases hc237 : r28 = (42 : Int32)
     ·skip
      show Steps p.tables e below (T221.setTop (fr_law m p1 p2 p3 p4 p5 p6 236 (vI 3) (vI r22) (vI r25) (vI r28) (vI r31) (vI r34) (vR b181) (vR b206) .unset [(iV 42), (.int r28)])) t
      refine XS.icmpYes Xh233.here hx rfl (pc0 := 236) (pc' := 265) rfl (D at_236) rfl (teq hc237).1 (by decide) (by decide) ?_
      refine XS.iconst Xh233.here hx rfl (D at_265) ?_
      refine XS.goto Xh233.here hx rfl (pc0 := 266) (pc' := 270) rfl (D at_266) (by decide) (by decide) ?_
      show Steps p.tables e below (T221.setTop (fr_law m p1 p2 p3 p4 p5 p6 270 (vI 3) (vI r22) (vI r25) (vI r28) (vI r31) (vI r34) (vR b181) (vR b206) .unset [(iV 1)])) t
      rw [show (own_b (r22 = (42 : Int32) ∨ r25 = (42 : Int32) ∨ r28 = (42 : Int32))) = (1 : Int32) from by simp [own_b, hc235, hc236, hc237]] at kt
      exact kt
     ·skip
      show Steps p.tables e below (T221.setTop (fr_law m p1 p2 p3 p4 p5 p6 236 (vI 3) (vI r22) (vI r25) (vI r28) (vI r31) (vI r34) (vR b181) (vR b206) .unset [(iV 42), (.int r28)])) t
      refine XS.icmpNo Xh233.here hx rfl (D at_236) rfl (feq hc237).1 ?_
      refine XS.iload Xh233.here hx rfl (D at_239) rfl ?_
      refine XS.iconst Xh233.here hx rfl (D at_241) ?_
      refine XS.icmpYes Xh233.here hx rfl (pc0 := 242) (pc' := 252) rfl (D at_242) rfl (flt ((by decide) : ¬ ((3 : Int32) < (3 : Int32)))).2.2.2 (by decide) (by decide) ?_
      refine XS.iload Xh233.here hx rfl (D at_252) rfl ?_
      refine XS.iconst Xh233.here hx rfl (D at_254) ?_
      refine XS.icmpYes Xh233.here hx rfl (pc0 := 255) (pc' := 269) rfl (D at_255) rfl (flt ((by decide) : ¬ ((4 : Int32) < (3 : Int32)))).2.2.2 (by decide) (by decide) ?_
      refine XS.iconst Xh233.here hx rfl (D at_269) ?_
      show Steps p.tables e below (T221.setTop (fr_law m p1 p2 p3 p4 p5 p6 270 (vI 3) (vI r22) (vI r25) (vI r28) (vI r31) (vI r34) (vR b181) (vR b206) .unset [(iV 0)])) t
      rw [show (own_b (r22 = (42 : Int32) ∨ r25 = (42 : Int32) ∨ r28 = (42 : Int32))) = (0 : Int32) from by simp [own_b, hc235, hc236, hc237]] at kt
      exact kt
  refine ownBy seg234 ?_
  show ownG p.tables e below _ (T221.setTop (fr_law m p1 p2 p3 p4 p5 p6 270 (vI 3) (vI r22) (vI r25) (vI r28) (vI r31) (vI r34) (vR b181) (vR b206) .unset [(.int (own_b (r22 = (42 : Int32) ∨ r25 = (42 : Int32) ∨ r28 = (42 : Int32))))]))
  refine ownBy (A := T221.setTop (fr_law m p1 p2 p3 p4 p5 p6 274 (vI 3) (vI r22) (vI r25) (vI r28) (vI r31) (vI r34) (vR b181) (vR b206) (.val (.int (own_b (r22 = (42 : Int32) ∨ r25 = (42 : Int32) ∨ r28 = (42 : Int32))))) [(.ref b206)])) (fun t kt => ?_) ?_
  ·refine XS.istore Xh233.here hx rfl (D at_270) rfl (l' := #[vI p1, vI p2, vI p3, vI p4, vI p5, vI p6, vI 3, vI r22, vI r25, vI r28, vI r31, vI r34, vR b181, vR b206, .val (.int (own_b (r22 = (42 : Int32) ∨ r25 = (42 : Int32) ∨ r28 = (42 : Int32))))]) rfl ?_
   refine XS.aload Xh233.here hx rfl (D at_272) rfl rfl ?_
   exact kt
  have f238 := (A206.keep Kq221)
  have f239 := (f219.keep Kq221 (allS g208 all0))
  have f240 := (Nat.le_trans f220 Kq221.1)
  obtain ⟨vv241, _, ⟨T241, L241, k241, n241⟩, -, X241, ⟨Lc241, hQ241, l241, y241, z241⟩, st241⟩ := Jvm.LawKit.callS Xh233 hx (y := yM27) hown (mvT hZ (Wd28 hw)) (mvT hZ (Wd29 hw)) (mvT hZ (Wd30 hw)) (mvT hZ (Wd31 hw)) (by decide) (backOf (W := 0) (c_isin l Z a0 hw [] b206 t221 kb221 cd221 z221 vs221 (r22 = (42 : Int32) ∨ r25 = (42 : Int32) ∨ r28 = (42 : Int32)) T221.heap n0 f240 f238 Vq221 Cq221 Aq221 (hb3 l Z a0 hw b206 t221 kb221 cd221 z221 vs221 r22 r25 r28 G1 G3 hrel221 hR22 hR25 hR28 O2 P5 SA SHI SLO O4 rG3) f239) hZ (Wd31 hw) (Wd30 hw) (by decide) (by decide)) (g := (fr_law m p1 p2 p3 p4 p5 p6 274 (vI 3) (vI r22) (vI r25) (vI r28) (vI r31) (vI r34) (vR b181) (vR b206) (.val (.int (own_b (r22 = (42 : Int32) ∨ r25 = (42 : Int32) ∨ r28 = (42 : Int32))))) [(.ref b206)])) rfl (by rw [hml]; rfl) (argsL := [(.ref b206)]) (rest := []) (lenOf pd_27 rfl) rfl (by show 2 * 0 + _ ≤ _; exact Nat.le_of_eq rfl) (D at_274) (fun _ _ => ⟨rfl, rfl, (by decide : 4 + 0 ≤ _), (by decide : 16 + 0 ≤ _)⟩)
  dsimp only [Pt.U, Pt.locs, Pt.cells, Pt.slots] at X241 l241 y241 z241 st241 hQ241
  subst l241 y241 z241
  obtain ⟨Nq241, Eq241, hB241⟩ := hQ241
  obtain rfl : vv241 = some (.int (own_b (r22 = (42 : Int32) ∨ r25 = (42 : Int32) ∨ r28 = (42 : Int32)))) := by
   rcases hB241 with ⟨h, q⟩ | ⟨h, q⟩
   ·rw [q, own_bt1 h]
   ·rw [q, own_bf0 h]
  have N242 := Fr.app Nh233 Nq241
  obtain ⟨Lh243, Xh243, Nh243⟩ := oHd 4 16 X241 N242 rfl rfl
  refine ownBy st241 ?_
  clear st241
  show ownG p.tables e below _ (T241.setTop (fr_law m p1 p2 p3 p4 p5 p6 277 (vI 3) (vI r22) (vI r25) (vI r28) (vI r31) (vI r34) (vR b181) (vR b206) (.val (.int (own_b (r22 = (42 : Int32) ∨ r25 = (42 : Int32) ∨ r28 = (42 : Int32))))) [(.int (own_b (r22 = (42 : Int32) ∨ r25 = (42 : Int32) ∨ r28 = (42 : Int32))))]))
  refine ownBy (A := T241.setTop (fr_law m p1 p2 p3 p4 p5 p6 287 (vI 3) (vI r22) (vI r25) (vI r28) (vI r31) (vI r34) (vR b181) (vR b206) (.val (.int (own_b (r22 = (42 : Int32) ∨ r25 = (42 : Int32) ∨ r28 = (42 : Int32))))) [(iV 1)])) (fun t kt => ?_) ?_
  ·refine XS.iload Xh243.here hx rfl (D at_277) rfl ?_
   refine XS.icmpNo Xh243.here hx rfl (D at_279) rfl (teq (rfl : (own_b (r22 = (42 : Int32) ∨ r25 = (42 : Int32) ∨ r28 = (42 : Int32))) = (own_b (r22 = (42 : Int32) ∨ r25 = (42 : Int32) ∨ r28 = (42 : Int32))))).2 ?_
   refine XS.iconst Xh243.here hx rfl (D at_282) ?_
   refine XS.goto Xh243.here hx rfl (pc0 := 283) (pc' := 287) rfl (D at_283) (by decide) (by decide) ?_
   exact kt
  refine ownRetH Xh243 hS0 (by rw [Eq241]; exact (Nat.le_trans (Nat.le_trans (Nat.le_trans (Nat.le_trans (Nat.le_trans (Nat.le_trans (Nat.le_refl _) E181.1) (Keep.of_wr W188).1) (Keep.of_wr W194).1) (Keep.of_wr W200).1) E206.1) Kq221.1)) Bd.notSynchronized (v := some (.int (nar .boolean (1 : Int32)))) (fun h => by rw [Bd.returns] at h; cases h) ?_ (R229.trans ((by rw [Eq241]; exact CHv.at Xh243 hZ hEL R229.1))) (oLe rfl) (oLe rfl) (fun fs hr => retN Xh243 hx (t := .boolean) Bd.returns (by simp) (D at_287) hr)
  show (Q_law Z p1 p2 p3 p4 p5 p6 G1 G3 h0 n0) (some (.int (nar .boolean (1 : Int32)))) T241.heap _
  rw [Eq241]
  exact ⟨rfl, Nh243⟩
 ·skip
  show ownG p.tables e below _ (T34.setTop (fr_law m p1 p2 p3 p4 p5 p6 41 (vI 4) (vI r22) (vI r25) (vI r28) (vI r31) (vI r34) .unset .unset .unset []))
  refine ownBy (A := T34.setTop (fr_law m p1 p2 p3 p4 p5 p6 133 (vI 4) (vI r22) (vI r25) (vI r28) (vI r31) (vI r34) .unset .unset .unset [(iV 4)])) (fun t kt => ?_) ?_
  ·refine XS.iload Xh36.here hx rfl (D at_41) rfl ?_
   refine XS.ifYes Xh36.here hx rfl (pc0 := 43) (pc' := 54) rfl (D at_43) rfl ((if0 _ _).trans (feq ((by decide) : ¬ ((4 : Int32) = (0 : Int32)))).2) (by decide) (by decide) ?_
   refine XS.iload Xh36.here hx rfl (D at_54) rfl ?_
   refine XS.iconst Xh36.here hx rfl (D at_56) ?_
   refine XS.icmpYes Xh36.here hx rfl (pc0 := 57) (pc' := 73) rfl (D at_57) rfl (feq ((by decide) : ¬ ((4 : Int32) = (1 : Int32)))).2 (by decide) (by decide) ?_
   refine XS.iload Xh36.here hx rfl (D at_73) rfl ?_
   refine XS.iconst Xh36.here hx rfl (D at_75) ?_
   refine XS.icmpYes Xh36.here hx rfl (pc0 := 76) (pc' := 97) rfl (D at_76) rfl (feq ((by decide) : ¬ ((4 : Int32) = (2 : Int32)))).2 (by decide) (by decide) ?_
   refine XS.iload Xh36.here hx rfl (D at_97) rfl ?_
   refine XS.iconst Xh36.here hx rfl (D at_99) ?_
   refine XS.icmpYes Xh36.here hx rfl (pc0 := 100) (pc' := 126) rfl (D at_100) rfl (feq ((by decide) : ¬ ((4 : Int32) = (3 : Int32)))).2 (by decide) (by decide) ?_
   refine XS.iload Xh36.here hx rfl (D at_126) rfl ?_
   show Steps p.tables e below (T34.setTop (fr_law m p1 p2 p3 p4 p5 p6 128 (vI 4) (vI r22) (vI r25) (vI r28) (vI r31) (vI r34) .unset .unset .unset [(iV 4)])) t
   refine XS.iconst Xh36.here hx rfl (D at_128) ?_
   refine XS.icmpNo Xh36.here hx rfl (D at_129) rfl (teq ((by decide) : (4 : Int32) = (4 : Int32))).2 ?_
   refine XS.iconst Xh36.here hx rfl (D at_132) ?_
   exact kt
  obtain ⟨T245, h245, k245, X245, e245, E245, A245, st245⟩ := newP Xh36 hx hZ (aty := .char) (Wd6 hw) Eq34 (g := (fr_law m p1 p2 p3 p4 p5 p6 133 (vI 4) (vI r22) (vI r25) (vI r28) (vI r31) (vI r34) .unset .unset .unset [(iV 4)])) rfl (D at_133) rfl (by decide : ¬ ((4 : Int32) < (0 : Int32))) (cap := 4) (by decide) (by decide) (by decide) (by decide)
  obtain ⟨b245, g245⟩ : ∃ z, z = h0.size := ⟨_, rfl⟩
  rw [← g245] at A245 st245
  have g246 : n0 ≤ b245 := Nat.le_trans Z0 (Nat.le_of_eq g245.symm)
  have sf247 : Safe Z ownEL s.vm h0 b245 := Safe.new (Nat.le_of_eq g245.symm)
  have z248 : h0.size ≤ b245 := Nat.le_trans (Nat.le_refl h0.size) (Nat.le_of_eq g245.symm)
  have R249 := R0.trans (CHr.ext E245 R0.1)
  have sf250 := Safe.ext E245 R0.1 sf247
  have V251 : Arv Z h245 b245 k245 .char (4 : Int32) [(iV 0), (iV 0), (iV 0), (iV 0)] (iV 0) := (Arv.new A245 (by decide)).pad (pad_rep [] (iV 0) 4)
  refine ownBy st245 ?_
  clear st245
  show ownG p.tables e below _ (T245.setTop (fr_law m p1 p2 p3 p4 p5 p6 135 (vI 4) (vI r22) (vI r25) (vI r28) (vI r31) (vI r34) .unset .unset .unset [(.ref b245)]))
  refine ownBy (A := T245.setTop (fr_law m p1 p2 p3 p4 p5 p6 139 (vI 4) (vI r22) (vI r25) (vI r28) (vI r31) (vI r34) .unset .unset .unset [(.int r22), (iV 0), (.ref b245), (.ref b245)])) (fun t kt => ?_) ?_
  ·refine XS.dup X245.here hx rfl (D at_135) rfl rfl ?_
   refine XS.iconst X245.here hx rfl (D at_136) ?_
   refine XS.iload X245.here hx rfl (D at_137) rfl ?_
   exact kt
  obtain ⟨cl252, Ar252, q252, S252, N252, H252, G252⟩ := id V251
  have hin252 : ¬ ((0 : Int32) < 0 ∨ cl252.slots.size ≤ ((0 : Int32)).toNatClampNeg) := inb_of S252 ⟨by decide, by decide⟩
  obtain ⟨T252, h252, X252, e252, W252, st252⟩ := stC X245 hx hZ e245 Ar252 (j := (0 : Int32)) hin252 (g := (fr_law m p1 p2 p3 p4 p5 p6 139 (vI 4) (vI r22) (vI r25) (vI r28) (vI r31) (vI r34) .unset .unset .unset [(.int r22), (iV 0), (.ref b245), (.ref b245)])) rfl rfl (D at_139)
  have V253 : Arv Z h252 b245 k245 .char (4 : Int32) [(.int (nar .char r22)), (iV 0), (iV 0), (iV 0)] (iV 0) := Arv.set Ar252 q252 S252 N252 H252 G252 (fits_nar_char _) W252 0 rfl (oLe rfl)
  rw [own_c16 hR22] at V253
  clear hin252 G252 H252 N252 S252 q252 Ar252 cl252 V251
  have N254 := Fr.snoc X252 Nh36 g246
  have R255 := R249.trans (CHr.wr W252 sf250 R249.1)
  have sf256 := Safe.wr W252 sf250 R249.1 sf250
  obtain ⟨Lh257, Xh257, Nh257⟩ := oHd 1 4 X252 N254 rfl rfl
  refine ownBy st252 ?_
  clear st252
  show ownG p.tables e below _ (T252.setTop (fr_law m p1 p2 p3 p4 p5 p6 140 (vI 4) (vI r22) (vI r25) (vI r28) (vI r31) (vI r34) .unset .unset .unset [(.ref b245)]))
  refine ownBy (A := T252.setTop (fr_law m p1 p2 p3 p4 p5 p6 144 (vI 4) (vI r22) (vI r25) (vI r28) (vI r31) (vI r34) .unset .unset .unset [(.int r25), (iV 1), (.ref b245), (.ref b245)])) (fun t kt => ?_) ?_
  ·refine XS.dup Xh257.here hx rfl (D at_140) rfl rfl ?_
   refine XS.iconst Xh257.here hx rfl (D at_141) ?_
   refine XS.iload Xh257.here hx rfl (D at_142) rfl ?_
   exact kt
  obtain ⟨cl258, Ar258, q258, S258, N258, H258, G258⟩ := id V253
  have hin258 : ¬ ((1 : Int32) < 0 ∨ cl258.slots.size ≤ ((1 : Int32)).toNatClampNeg) := inb_of S258 ⟨by decide, by decide⟩
  obtain ⟨T258, h258, X258, e258, W258, st258⟩ := stC Xh257 hx hZ e252 Ar258 (j := (1 : Int32)) hin258 (g := (fr_law m p1 p2 p3 p4 p5 p6 144 (vI 4) (vI r22) (vI r25) (vI r28) (vI r31) (vI r34) .unset .unset .unset [(.int r25), (iV 1), (.ref b245), (.ref b245)])) rfl rfl (D at_144)
  have V259 : Arv Z h258 b245 k245 .char (4 : Int32) [(.int r22), (.int (nar .char r25)), (iV 0), (iV 0)] (iV 0) := Arv.set Ar258 q258 S258 N258 H258 G258 (fits_nar_char _) W258 1 rfl (oLe rfl)
  rw [own_c16 hR25] at V259
  clear hin258 G258 H258 N258 S258 q258 Ar258 cl258 V253
  have N260 := Fr.snoc X258 Nh257 g246
  have R261 := R255.trans (CHr.wr W258 sf256 R255.1)
  have sf262 := Safe.wr W258 sf256 R255.1 sf256
  obtain ⟨Lh263, Xh263, Nh263⟩ := oHd 1 4 X258 N260 rfl rfl
  refine ownBy st258 ?_
  clear st258
  show ownG p.tables e below _ (T258.setTop (fr_law m p1 p2 p3 p4 p5 p6 145 (vI 4) (vI r22) (vI r25) (vI r28) (vI r31) (vI r34) .unset .unset .unset [(.ref b245)]))
  refine ownBy (A := T258.setTop (fr_law m p1 p2 p3 p4 p5 p6 149 (vI 4) (vI r22) (vI r25) (vI r28) (vI r31) (vI r34) .unset .unset .unset [(.int r28), (iV 2), (.ref b245), (.ref b245)])) (fun t kt => ?_) ?_
  ·refine XS.dup Xh263.here hx rfl (D at_145) rfl rfl ?_
   refine XS.iconst Xh263.here hx rfl (D at_146) ?_
   refine XS.iload Xh263.here hx rfl (D at_147) rfl ?_
   exact kt
  obtain ⟨cl264, Ar264, q264, S264, N264, H264, G264⟩ := id V259
  have hin264 : ¬ ((2 : Int32) < 0 ∨ cl264.slots.size ≤ ((2 : Int32)).toNatClampNeg) := inb_of S264 ⟨by decide, by decide⟩
  obtain ⟨T264, h264, X264, e264, W264, st264⟩ := stC Xh263 hx hZ e258 Ar264 (j := (2 : Int32)) hin264 (g := (fr_law m p1 p2 p3 p4 p5 p6 149 (vI 4) (vI r22) (vI r25) (vI r28) (vI r31) (vI r34) .unset .unset .unset [(.int r28), (iV 2), (.ref b245), (.ref b245)])) rfl rfl (D at_149)
  have V265 : Arv Z h264 b245 k245 .char (4 : Int32) [(.int r22), (.int r25), (.int (nar .char r28)), (iV 0)] (iV 0) := Arv.set Ar264 q264 S264 N264 H264 G264 (fits_nar_char _) W264 2 rfl (oLe rfl)
  rw [own_c16 hR28] at V265
  clear hin264 G264 H264 N264 S264 q264 Ar264 cl264 V259
  have N266 := Fr.snoc X264 Nh263 g246
  have R267 := R261.trans (CHr.wr W264 sf262 R261.1)
  have sf268 := Safe.wr W264 sf262 R261.1 sf262
  obtain ⟨Lh269, Xh269, Nh269⟩ := oHd 1 4 X264 N266 rfl rfl
  refine ownBy st264 ?_
  clear st264
  show ownG p.tables e below _ (T264.setTop (fr_law m p1 p2 p3 p4 p5 p6 150 (vI 4) (vI r22) (vI r25) (vI r28) (vI r31) (vI r34) .unset .unset .unset [(.ref b245)]))
  refine ownBy (A := T264.setTop (fr_law m p1 p2 p3 p4 p5 p6 154 (vI 4) (vI r22) (vI r25) (vI r28) (vI r31) (vI r34) .unset .unset .unset [(.int r31), (iV 3), (.ref b245), (.ref b245)])) (fun t kt => ?_) ?_
  ·refine XS.dup Xh269.here hx rfl (D at_150) rfl rfl ?_
   refine XS.iconst Xh269.here hx rfl (D at_151) ?_
   refine XS.iload Xh269.here hx rfl (D at_152) rfl ?_
   exact kt
  obtain ⟨cl270, Ar270, q270, S270, N270, H270, G270⟩ := id V265
  have hin270 : ¬ ((3 : Int32) < 0 ∨ cl270.slots.size ≤ ((3 : Int32)).toNatClampNeg) := inb_of S270 ⟨by decide, by decide⟩
  obtain ⟨T270, h270, X270, e270, W270, st270⟩ := stC Xh269 hx hZ e264 Ar270 (j := (3 : Int32)) hin270 (g := (fr_law m p1 p2 p3 p4 p5 p6 154 (vI 4) (vI r22) (vI r25) (vI r28) (vI r31) (vI r34) .unset .unset .unset [(.int r31), (iV 3), (.ref b245), (.ref b245)])) rfl rfl (D at_154)
  have V271 : Arv Z h270 b245 k245 .char (4 : Int32) [(.int r22), (.int r25), (.int r28), (.int (nar .char r31))] (iV 0) := Arv.set Ar270 q270 S270 N270 H270 G270 (fits_nar_char _) W270 3 rfl (oLe rfl)
  rw [own_c16 hR31] at V271
  clear hin270 G270 H270 N270 S270 q270 Ar270 cl270 V265
  have N272 := Fr.snoc X270 Nh269 g246
  have R273 := R267.trans (CHr.wr W270 sf268 R267.1)
  have sf274 := Safe.wr W270 sf268 R267.1 sf268
  obtain ⟨Lh275, Xh275, Nh275⟩ := oHd 1 4 X270 N272 rfl rfl
  refine ownBy st270 ?_
  clear st270
  show ownG p.tables e below _ (T270.setTop (fr_law m p1 p2 p3 p4 p5 p6 155 (vI 4) (vI r22) (vI r25) (vI r28) (vI r31) (vI r34) .unset .unset .unset [(.ref b245)]))
  refine ownBy (A := T270.setTop (fr_law m p1 p2 p3 p4 p5 p6 190 (vI 4) (vI r22) (vI r25) (vI r28) (vI r31) (vI r34) (vR b245) .unset .unset [])) (fun t kt => ?_) ?_
  ·refine XS.astore Xh275.here hx rfl (D at_155) rfl rfl (l' := #[vI p1, vI p2, vI p3, vI p4, vI p5, vI p6, vI 4, vI r22, vI r25, vI r28, vI r31, vI r34, vR b245, .unset, .unset]) rfl ?_
   refine XS.goto Xh275.here hx rfl (pc0 := 157) (pc' := 190) rfl (D at_157) (by decide) (by decide) ?_
   exact kt
  obtain ⟨T276, h276, X276, e276, E276, A276, D276, -, st276⟩ := newO Xh275 hx hZ hown (Wd7 hw) (Wd8 hw) (Wd9 hw) e270 (g := (fr_law m p1 p2 p3 p4 p5 p6 190 (vI 4) (vI r22) (vI r25) (vI r28) (vI r31) (vI r34) (vR b245) .unset .unset [])) rfl (D at_190) (by decide) (by decide)
  obtain ⟨b276, g276⟩ : ∃ z, z = h270.size := ⟨_, rfl⟩
  rw [← g276] at A276 D276 st276
  have ne277 : b245 ≠ b276 := Nat.ne_of_lt (Nat.lt_of_lt_of_le V271.lt (Nat.le_of_eq g276.symm))
  have f279 := (Nat.le_trans (Nat.le_trans (Nat.le_trans (Nat.le_trans (Nat.le_trans Z0 E245.1) (Keep.of_wr W252).1) (Keep.of_wr W258).1) (Keep.of_wr W264).1) (Keep.of_wr W270).1)
  have g278 : n0 ≤ b276 := Nat.le_trans f279 (Nat.le_of_eq g276.symm)
  have sf280 : Safe Z ownEL s.vm h270 b276 := Safe.new (Nat.le_of_eq g276.symm)
  have f282 := (Nat.le_trans (Nat.le_trans (Nat.le_trans (Nat.le_trans (Nat.le_trans (Nat.le_refl h0.size) E245.1) (Keep.of_wr W252).1) (Keep.of_wr W258).1) (Keep.of_wr W264).1) (Keep.of_wr W270).1)
  have z281 : h0.size ≤ b276 := Nat.le_trans f282 (Nat.le_of_eq g276.symm)
  have R283 := R273.trans (CHr.ext E276 R273.1)
  have sf284 := Safe.ext E276 R273.1 sf274
  have sf285 := Safe.ext E276 R273.1 sf280
  have F286 : Fld Z h276 b276 "java/lang/String" "value" "[B" .null := D276 (Or.inr (Wd22 hw)) (ty := (.array .byte)) (by decide)
  have F287 : Fld Z h276 b276 "java/lang/String" "coder" "B" (iV 0) := D276 (Or.inr (Wd23 hw)) (ty := .byte) (by decide)
  refine ownBy st276 ?_
  clear st276
  show ownG p.tables e below _ (T276.setTop (fr_law m p1 p2 p3 p4 p5 p6 193 (vI 4) (vI r22) (vI r25) (vI r28) (vI r31) (vI r34) (vR b245) .unset .unset [(.ref b276)]))
  refine ownBy (A := T276.setTop (fr_law m p1 p2 p3 p4 p5 p6 196 (vI 4) (vI r22) (vI r25) (vI r28) (vI r31) (vI r34) (vR b245) .unset .unset [(.ref b245), (.ref b276), (.ref b276)])) (fun t kt => ?_) ?_
  ·refine XS.dup X276.here hx rfl (D at_193) rfl rfl ?_
   refine XS.aload X276.here hx rfl (D at_194) rfl rfl ?_
   exact kt
  have f288 := (V271.ext E276)
  have f289 := ((((((X00.ext E245).wr W252 g246).wr W258 g246).wr W264 g246).wr W270 g246).ext E276)
  have f290 := (Nat.le_trans f279 E276.1)
  obtain ⟨vv291, _, ⟨T291, L291, k291, n291⟩, -, X291, ⟨Lc291, hQ291, l291, y291, z291⟩, st291⟩ := X276.specialBack hx (y := yM1) rfl hown (mvT hZ (Wd10 hw)) (mvT hZ (Wd11 hw)) (mvT hZ (Wd12 hw)) (by decide) (backOf (W := 1) (c_inC_4 l Z a0 hw [] b276 b245 k245 r22 r25 r28 r31 _ G1 h276 n0 f290 A276 F286 F287 g278 (Ne.symm ne277) f288 hR22 hR25 hR28 hR31 O2 P5 SA SHI SLO f289) hZ (Wd12 hw) (Wd9 hw) (by decide) (by decide)) (g := (fr_law m p1 p2 p3 p4 p5 p6 196 (vI 4) (vI r22) (vI r25) (vI r28) (vI r31) (vI r34) (vR b245) .unset .unset [(.ref b245), (.ref b276), (.ref b276)])) rfl (by rw [hml]; rfl) (Steps.refl _) (a := b276) (argsL := [(.ref b245)]) (rest := [(.ref b276)]) (lenOf pd_26 rfl) rfl (by show 2 * 0 + _ ≤ _; exact Nat.le_of_eq rfl) (D at_196) (fun _ _ => ⟨rfl, e276, (by decide : 2 + 2 ≤ _), (by decide : 8 + 12 ≤ _)⟩)
  dsimp only [Pt.U, Pt.locs, Pt.cells, Pt.slots] at X291 l291 y291 z291 st291 hQ291
  subst l291 y291 z291
  obtain ⟨rfl, Nq291, Kq291, Eq291, t291, kb291, cd291, z291, vs291, zq291, Vq291, Cq291, Aq291, hrel291⟩ := hQ291
  have ne292 : b245 ≠ t291 := Nat.ne_of_lt (Nat.lt_of_lt_of_le f288.lt zq291)
  have ne293 : b276 ≠ t291 := Nat.ne_of_lt (Nat.lt_of_lt_of_le A276.lt zq291)
  have g294 : n0 ≤ t291 := Nat.le_trans f290 zq291
  have sf295 : Safe Z ownEL s.vm h276 t291 := Safe.new zq291
  have f297 := (Nat.le_trans f282 E276.1)
  have z296 : h0.size ≤ t291 := Nat.le_trans f297 zq291
  have N298 := Fr.app Nh275 Nq291
  have R299 := R283.trans (CHr.keep Kq291 (sfS sf285 sf0) R283.1)
  have sf300 := Safe.keep Kq291 (sfS sf285 sf0) R283.1 sf284
  have sf301 := Safe.keep Kq291 (sfS sf285 sf0) R283.1 sf285
  have sf302 := Safe.keep Kq291 (sfS sf285 sf0) R283.1 sf295
  obtain ⟨Lh303, Xh303, Nh303⟩ := oHd 4 20 X291 N298 rfl rfl
  refine ownSt st291 ?_
  clear st291
  show ownG p.tables e below _ (T291.setTop (fr_law m p1 p2 p3 p4 p5 p6 199 (vI 4) (vI r22) (vI r25) (vI r28) (vI r31) (vI r34) (vR b245) .unset .unset [(.ref b276)]))
  refine ownBy (A := T291.setTop (fr_law m p1 p2 p3 p4 p5 p6 201 (vI 4) (vI r22) (vI r25) (vI r28) (vI r31) (vI r34) (vR b245) (vR b276) .unset [])) (fun t kt => ?_) ?_
  ·refine XS.astore Xh303.here hx rfl (D at_199) rfl rfl (l' := #[vI p1, vI p2, vI p3, vI p4, vI p5, vI p6, vI 4, vI r22, vI r25, vI r28, vI r31, vI r34, vR b245, vR b276, .unset]) rfl ?_
   exact kt
  have seg304 : ∀ t, Steps p.tables e below (T291.setTop (fr_law m p1 p2 p3 p4 p5 p6 270 (vI 4) (vI r22) (vI r25) (vI r28) (vI r31) (vI r34) (vR b245) (vR b276) .unset [(.int (own_b (r22 = (42 : Int32) ∨ r25 = (42 : Int32) ∨ r28 = (42 : Int32) ∨ r31 = (42 : Int32))))])) t → Steps p.tables e below (T291.setTop (fr_law m p1 p2 p3 p4 p5 p6 201 (vI 4) (vI r22) (vI r25) (vI r28) (vI r31) (vI r34) (vR b245) (vR b276) .unset [])) t := by
   intro t kt
   show Steps p.tables e below (T291.setTop (fr_law m p1 p2 p3 p4 p5 p6 201 (vI 4) (vI r22) (vI r25) (vI r28) (vI r31) (vI r34) (vR b245) (vR b276) .unset [])) t
   refine XS.iload Xh303.here hx rfl (D at_201) rfl ?_
   refine XS.ifNo Xh303.here hx rfl (D at_203) rfl ((if0 _ _).trans (tlt ((by decide) : (0 : Int32) < (4 : Int32))).2.2.2) ?_
   refine XS.iload Xh303.here hx rfl (D at_206) rfl ?_
   refine XS.bipush Xh303.here hx rfl (D at_208) ?_
   show Steps p.tables e below (T291.setTop (fr_law m p1 p2 p3 p4 p5 p6 210 (vI 4) (vI r22) (vI r25) (vI r28) (vI r31) (vI r34) (vR b245) (vR b276) .unset [(iV 42), (.int r22)])) t
   by_cases hc305 : r22 = (42 : Int32)
   ·skip
    show Steps p.tables e below (T291.setTop (fr_law m p1 p2 p3 p4 p5 p6 210 (vI 4) (vI r22) (vI r25) (vI r28) (vI r31) (vI r34) (vR b245) (vR b276) .unset [(iV 42), (.int r22)])) t
    refine XS.icmpYes Xh303.here hx rfl (pc0 := 210) (pc' := 265) rfl (D at_210) rfl (teq hc305).1 (by decide) (by decide) ?_
    refine XS.iconst Xh303.here hx rfl (D at_265) ?_
    refine XS.goto Xh303.here hx rfl (pc0 := 266) (pc' := 270) rfl (D at_266) (by decide) (by decide) ?_
    show Steps p.tables e below (T291.setTop (fr_law m p1 p2 p3 p4 p5 p6 270 (vI 4) (vI r22) (vI r25) (vI r28) (vI r31) (vI r34) (vR b245) (vR b276) .unset [(iV 1)])) t
    rw [show (own_b (r22 = (42 : Int32) ∨ r25 = (42 : Int32) ∨ r28 = (42 : Int32) ∨ r31 = (42 : Int32))) = (1 : Int32) from by simp [own_b, hc305]] at kt
    exact kt
   ·skip
    show Steps p.tables e below (T291.setTop (fr_law m p1 p2 p3 p4 p5 p6 210 (vI 4) (vI r22) (vI r25) (vI r28) (vI r31) (vI r34) (vR b245) (vR b276) .unset [(iV 42), (.int r22)])) t
    refine XS.icmpNo Xh303.here hx rfl (D at_210) rfl (feq hc305).1 ?_
    refine XS.iload Xh303.here hx rfl (D at_213) rfl ?_
    refine XS.iconst Xh303.here hx rfl (D at_215) ?_
    refine XS.icmpNo Xh303.here hx rfl (D at_216) rfl (tlt ((by decide) : (1 : Int32) < (4 : Int32))).2.2.2 ?_
    refine XS.iload Xh303.here hx rfl (D at_219) rfl ?_
    refine XS.bipush Xh303.here hx rfl (D at_221) ?_
    show Steps p.tables e below (T291.setTop (fr_law m p1 p2 p3 p4 p5 p6 223 (vI 4) (vI r22) (vI r25) (vI r28) (vI r31) (vI r34) (vR b245) (vR b276) .unset [(iV 42), (.int r25)])) t
    by_cases hc306 : r25 = (42 : Int32)
    ·skip
     show Steps p.tables e below (T291.setTop (fr_law m p1 p2 p3 p4 p5 p6 223 (vI 4) (vI r22) (vI r25) (vI r28) (vI r31) (vI r34) (vR b245) (vR b276) .unset [(iV 42), (.int r25)])) t
     refine XS.icmpYes Xh303.here hx rfl (pc0 := 223) (pc' := 265) rfl (D at_223) rfl (teq hc306).1 (by decide) (by decide) ?_
     refine XS.iconst Xh303.here hx rfl (D at_265) ?_
     refine XS.goto Xh303.here hx rfl (pc0 := 266) (pc' := 270) rfl (D at_266) (by decide) (by decide) ?_
     show Steps p.tables e below (T291.setTop (fr_law m p1 p2 p3 p4 p5 p6 270 (vI 4) (vI r22) (vI r25) (vI r28) (vI r31) (vI r34) (vR b245) (vR b276) .unset [(iV 1)])) t
     rw [show (own_b (r22 = (42 : Int32) ∨ r25 = (42 : Int32) ∨ r28 = (42 : Int32) ∨ r31 = (42 : Int32))) = (1 : Int32) from by simp [own_b, hc305, hc306]] at kt
     exact kt
    ·skip
     show Steps p.tables e below (T291.setTop (fr_law m p1 p2 p3 p4 p5 p6 223 (vI 4) (vI r22) (vI r25) (vI r28) (vI r31) (vI r34) (vR b245) (vR b276) .unset [(iV 42), (.int r25)])) t
     refine XS.icmpNo Xh303.here hx rfl (D at_223) rfl (feq hc306).1 ?_
     refine XS.iload Xh303.here hx rfl (D at_226) rfl ?_
     refine XS.iconst Xh303.here hx rfl (D at_228) ?_
     refine XS.icmpNo Xh303.here hx rfl (D at_229) rfl (tlt ((by decide) : (2 : Int32) < (4 : Int32))).2.2.2 ?_
     refine XS.iload Xh303.here hx rfl (D at_232) rfl ?_
     refine XS.bipush Xh303.here hx rfl (D at_234) ?_
     show Steps p.tables e below (T291.setTop (fr_law m p1 p2 p3 p4 p5 p6 236 (vI 4) (vI r22) (vI r25) (vI r28) (vI r31) (vI r34) (vR b245) (vR b276) .unset [(iV 42), (.int r28)])) t
     by_cases hc307 : r28 = (42 : Int32)
     ·skip
      show Steps p.tables e below (T291.setTop (fr_law m p1 p2 p3 p4 p5 p6 236 (vI 4) (vI r22) (vI r25) (vI r28) (vI r31) (vI r34) (vR b245) (vR b276) .unset [(iV 42), (.int r28)])) t
      refine XS.icmpYes Xh303.here hx rfl (pc0 := 236) (pc' := 265) rfl (D at_236) rfl (teq hc307).1 (by decide) (by decide) ?_
      refine XS.iconst Xh303.here hx rfl (D at_265) ?_
      refine XS.goto Xh303.here hx rfl (pc0 := 266) (pc' := 270) rfl (D at_266) (by decide) (by decide) ?_
      show Steps p.tables e below (T291.setTop (fr_law m p1 p2 p3 p4 p5 p6 270 (vI 4) (vI r22) (vI r25) (vI r28) (vI r31) (vI r34) (vR b245) (vR b276) .unset [(iV 1)])) t
      rw [show (own_b (r22 = (42 : Int32) ∨ r25 = (42 : Int32) ∨ r28 = (42 : Int32) ∨ r31 = (42 : Int32))) = (1 : Int32) from by simp [own_b, hc305, hc306, hc307]] at kt
      exact kt
     ·skip
      show Steps p.tables e below (T291.setTop (fr_law m p1 p2 p3 p4 p5 p6 236 (vI 4) (vI r22) (vI r25) (vI r28) (vI r31) (vI r34) (vR b245) (vR b276) .unset [(iV 42), (.int r28)])) t
      refine XS.icmpNo Xh303.here hx rfl (D at_236) rfl (feq hc307).1 ?_
      refine XS.iload Xh303.here hx rfl (D at_239) rfl ?_
      refine XS.iconst Xh303.here hx rfl (D at_241) ?_
      refine XS.icmpNo Xh303.here hx rfl (D at_242) rfl (tlt ((by decide) : (3 : Int32) < (4 : Int32))).2.2.2 ?_
      refine XS.iload Xh303.here hx rfl (D at_245) rfl ?_
      refine XS.bipush Xh303.here hx rfl (D at_247) ?_
      show Steps p.tables e below (T291.setTop (fr_law m p1 p2 p3 p4 p5 p6 249 (vI 4) (vI r22) (vI r25) (vI r28) (vI r31) (vI r34) (vR b245) (vR b276) .unset [(iV 42), (.int r31)])) t
      by_cases hc308 : r31 = (42 : Int32)
      ·skip
       show Steps p.tables e below (T291.setTop (fr_law m p1 p2 p3 p4 p5 p6 249 (vI 4) (vI r22) (vI r25) (vI r28) (vI r31) (vI r34) (vR b245) (vR b276) .unset [(iV 42), (.int r31)])) t
       refine XS.icmpYes Xh303.here hx rfl (pc0 := 249) (pc' := 265) rfl (D at_249) rfl (teq hc308).1 (by decide) (by decide) ?_
       refine XS.iconst Xh303.here hx rfl (D at_265) ?_
       refine XS.goto Xh303.here hx rfl (pc0 := 266) (pc' := 270) rfl (D at_266) (by decide) (by decide) ?_
       show Steps p.tables e below (T291.setTop (fr_law m p1 p2 p3 p4 p5 p6 270 (vI 4) (vI r22) (vI r25) (vI r28) (vI r31) (vI r34) (vR b245) (vR b276) .unset [(iV 1)])) t
       rw [show (own_b (r22 = (42 : Int32) ∨ r25 = (42 : Int32) ∨ r28 = (42 : Int32) ∨ r31 = (42 : Int32))) = (1 : Int32) from by simp [own_b, hc305, hc306, hc307, hc308]] at kt
       exact kt
      ·skip
       show Steps p.tables e below (T291.setTop (fr_law m p1 p2 p3 p4 p5 p6 249 (vI 4) (vI r22) (vI r25) (vI r28) (vI r31) (vI r34) (vR b245) (vR b276) .unset [(iV 42), (.int r31)])) t
       refine XS.icmpNo Xh303.here hx rfl (D at_249) rfl (feq hc308).1 ?_
       refine XS.iload Xh303.here hx rfl (D at_252) rfl ?_
       refine XS.iconst Xh303.here hx rfl (D at_254) ?_
       refine XS.icmpYes Xh303.here hx rfl (pc0 := 255) (pc' := 269) rfl (D at_255) rfl (flt ((by decide) : ¬ ((4 : Int32) < (4 : Int32)))).2.2.2 (by decide) (by decide) ?_
       refine XS.iconst Xh303.here hx rfl (D at_269) ?_
       show Steps p.tables e below (T291.setTop (fr_law m p1 p2 p3 p4 p5 p6 270 (vI 4) (vI r22) (vI r25) (vI r28) (vI r31) (vI r34) (vR b245) (vR b276) .unset [(iV 0)])) t
       rw [show (own_b (r22 = (42 : Int32) ∨ r25 = (42 : Int32) ∨ r28 = (42 : Int32) ∨ r31 = (42 : Int32))) = (0 : Int32) from by simp [own_b, hc305, hc306, hc307, hc308]] at kt
       exact kt
  refine ownBy seg304 ?_
  show ownG p.tables e below _ (T291.setTop (fr_law m p1 p2 p3 p4 p5 p6 270 (vI 4) (vI r22) (vI r25) (vI r28) (vI r31) (vI r34) (vR b245) (vR b276) .unset [(.int (own_b (r22 = (42 : Int32) ∨ r25 = (42 : Int32) ∨ r28 = (42 : Int32) ∨ r31 = (42 : Int32))))]))
  refine ownBy (A := T291.setTop (fr_law m p1 p2 p3 p4 p5 p6 274 (vI 4) (vI r22) (vI r25) (vI r28) (vI r31) (vI r34) (vR b245) (vR b276) (.val (.int (own_b (r22 = (42 : Int32) ∨ r25 = (42 : Int32) ∨ r28 = (42 : Int32) ∨ r31 = (42 : Int32))))) [(.ref b276)])) (fun t kt => ?_) ?_
  ·refine XS.istore Xh303.here hx rfl (D at_270) rfl (l' := #[vI p1, vI p2, vI p3, vI p4, vI p5, vI p6, vI 4, vI r22, vI r25, vI r28, vI r31, vI r34, vR b245, vR b276, .val (.int (own_b (r22 = (42 : Int32) ∨ r25 = (42 : Int32) ∨ r28 = (42 : Int32) ∨ r31 = (42 : Int32))))]) rfl ?_
   refine XS.aload Xh303.here hx rfl (D at_272) rfl rfl ?_
   exact kt
  have f309 := (A276.keep Kq291)
  have f310 := (f289.keep Kq291 (allS g278 all0))
  have f311 := (Nat.le_trans f290 Kq291.1)
  obtain ⟨vv312, _, ⟨T312, L312, k312, n312⟩, -, X312, ⟨Lc312, hQ312, l312, y312, z312⟩, st312⟩ := Jvm.LawKit.callS Xh303 hx (y := yM27) hown (mvT hZ (Wd28 hw)) (mvT hZ (Wd29 hw)) (mvT hZ (Wd30 hw)) (mvT hZ (Wd31 hw)) (by decide) (backOf (W := 0) (c_isin l Z a0 hw [] b276 t291 kb291 cd291 z291 vs291 (r22 = (42 : Int32) ∨ r25 = (42 : Int32) ∨ r28 = (42 : Int32) ∨ r31 = (42 : Int32)) T291.heap n0 f311 f309 Vq291 Cq291 Aq291 (hb4 l Z a0 hw b276 t291 kb291 cd291 z291 vs291 r22 r25 r28 r31 G1 G3 hrel291 hR22 hR25 hR28 hR31 O2 P5 SA SHI SLO O4 rG3) f310) hZ (Wd31 hw) (Wd30 hw) (by decide) (by decide)) (g := (fr_law m p1 p2 p3 p4 p5 p6 274 (vI 4) (vI r22) (vI r25) (vI r28) (vI r31) (vI r34) (vR b245) (vR b276) (.val (.int (own_b (r22 = (42 : Int32) ∨ r25 = (42 : Int32) ∨ r28 = (42 : Int32) ∨ r31 = (42 : Int32))))) [(.ref b276)])) rfl (by rw [hml]; rfl) (argsL := [(.ref b276)]) (rest := []) (lenOf pd_27 rfl) rfl (by show 2 * 0 + _ ≤ _; exact Nat.le_of_eq rfl) (D at_274) (fun _ _ => ⟨rfl, rfl, (by decide : 4 + 0 ≤ _), (by decide : 20 + 0 ≤ _)⟩)
  dsimp only [Pt.U, Pt.locs, Pt.cells, Pt.slots] at X312 l312 y312 z312 st312 hQ312
  subst l312 y312 z312
  obtain ⟨Nq312, Eq312, hB312⟩ := hQ312
  obtain rfl : vv312 = some (.int (own_b (r22 = (42 : Int32) ∨ r25 = (42 : Int32) ∨ r28 = (42 : Int32) ∨ r31 = (42 : Int32)))) := by
   rcases hB312 with ⟨h, q⟩ | ⟨h, q⟩
   ·rw [q, own_bt1 h]
   ·rw [q, own_bf0 h]
  have N313 := Fr.app Nh303 Nq312
  obtain ⟨Lh314, Xh314, Nh314⟩ := oHd 4 20 X312 N313 rfl rfl
  refine ownBy st312 ?_
  clear st312
  show ownG p.tables e below _ (T312.setTop (fr_law m p1 p2 p3 p4 p5 p6 277 (vI 4) (vI r22) (vI r25) (vI r28) (vI r31) (vI r34) (vR b245) (vR b276) (.val (.int (own_b (r22 = (42 : Int32) ∨ r25 = (42 : Int32) ∨ r28 = (42 : Int32) ∨ r31 = (42 : Int32))))) [(.int (own_b (r22 = (42 : Int32) ∨ r25 = (42 : Int32) ∨ r28 = (42 : Int32) ∨ r31 = (42 : Int32))))]))
  refine ownBy (A := T312.setTop (fr_law m p1 p2 p3 p4 p5 p6 287 (vI 4) (vI r22) (vI r25) (vI r28) (vI r31) (vI r34) (vR b245) (vR b276) (.val (.int (own_b (r22 = (42 : Int32) ∨ r25 = (42 : Int32) ∨ r28 = (42 : Int32) ∨ r31 = (42 : Int32))))) [(iV 1)])) (fun t kt => ?_) ?_
  ·refine XS.iload Xh314.here hx rfl (D at_277) rfl ?_
   refine XS.icmpNo Xh314.here hx rfl (D at_279) rfl (teq (rfl : (own_b (r22 = (42 : Int32) ∨ r25 = (42 : Int32) ∨ r28 = (42 : Int32) ∨ r31 = (42 : Int32))) = (own_b (r22 = (42 : Int32) ∨ r25 = (42 : Int32) ∨ r28 = (42 : Int32) ∨ r31 = (42 : Int32))))).2 ?_
   refine XS.iconst Xh314.here hx rfl (D at_282) ?_
   refine XS.goto Xh314.here hx rfl (pc0 := 283) (pc' := 287) rfl (D at_283) (by decide) (by decide) ?_
   exact kt
  refine ownRetH Xh314 hS0 (by rw [Eq312]; exact (Nat.le_trans (Nat.le_trans (Nat.le_trans (Nat.le_trans (Nat.le_trans (Nat.le_trans (Nat.le_trans (Nat.le_refl _) E245.1) (Keep.of_wr W252).1) (Keep.of_wr W258).1) (Keep.of_wr W264).1) (Keep.of_wr W270).1) E276.1) Kq291.1)) Bd.notSynchronized (v := some (.int (nar .boolean (1 : Int32)))) (fun h => by rw [Bd.returns] at h; cases h) ?_ (R299.trans ((by rw [Eq312]; exact CHv.at Xh314 hZ hEL R299.1))) (oLe rfl) (oLe rfl) (fun fs hr => retN Xh314 hx (t := .boolean) Bd.returns (by simp) (D at_287) hr)
  show (Q_law Z p1 p2 p3 p4 p5 p6 G1 G3 h0 n0) (some (.int (nar .boolean (1 : Int32)))) T312.heap _
  rw [Eq312]
  exact ⟨rfl, Nh314⟩
 ·skip
  show ownG p.tables e below _ (T34.setTop (fr_law m p1 p2 p3 p4 p5 p6 41 (vI 5) (vI r22) (vI r25) (vI r28) (vI r31) (vI r34) .unset .unset .unset []))
  refine ownBy (A := T34.setTop (fr_law m p1 p2 p3 p4 p5 p6 161 (vI 5) (vI r22) (vI r25) (vI r28) (vI r31) (vI r34) .unset .unset .unset [(iV 5)])) (fun t kt => ?_) ?_
  ·refine XS.iload Xh36.here hx rfl (D at_41) rfl ?_
   refine XS.ifYes Xh36.here hx rfl (pc0 := 43) (pc' := 54) rfl (D at_43) rfl ((if0 _ _).trans (feq ((by decide) : ¬ ((5 : Int32) = (0 : Int32)))).2) (by decide) (by decide) ?_
   refine XS.iload Xh36.here hx rfl (D at_54) rfl ?_
   refine XS.iconst Xh36.here hx rfl (D at_56) ?_
   refine XS.icmpYes Xh36.here hx rfl (pc0 := 57) (pc' := 73) rfl (D at_57) rfl (feq ((by decide) : ¬ ((5 : Int32) = (1 : Int32)))).2 (by decide) (by decide) ?_
   refine XS.iload Xh36.here hx rfl (D at_73) rfl ?_
   refine XS.iconst Xh36.here hx rfl (D at_75) ?_
   refine XS.icmpYes Xh36.here hx rfl (pc0 := 76) (pc' := 97) rfl (D at_76) rfl (feq ((by decide) : ¬ ((5 : Int32) = (2 : Int32)))).2 (by decide) (by decide) ?_
   refine XS.iload Xh36.here hx rfl (D at_97) rfl ?_
   refine XS.iconst Xh36.here hx rfl (D at_99) ?_
   refine XS.icmpYes Xh36.here hx rfl (pc0 := 100) (pc' := 126) rfl (D at_100) rfl (feq ((by decide) : ¬ ((5 : Int32) = (3 : Int32)))).2 (by decide) (by decide) ?_
   refine XS.iload Xh36.here hx rfl (D at_126) rfl ?_
   show Steps p.tables e below (T34.setTop (fr_law m p1 p2 p3 p4 p5 p6 128 (vI 5) (vI r22) (vI r25) (vI r28) (vI r31) (vI r34) .unset .unset .unset [(iV 5)])) t
   refine XS.iconst Xh36.here hx rfl (D at_128) ?_
   refine XS.icmpYes Xh36.here hx rfl (pc0 := 129) (pc' := 160) rfl (D at_129) rfl (feq ((by decide) : ¬ ((5 : Int32) = (4 : Int32)))).2 (by decide) (by decide) ?_
   refine XS.iconst Xh36.here hx rfl (D at_160) ?_
   exact kt
  obtain ⟨T316, h316, k316, X316, e316, E316, A316, st316⟩ := newP Xh36 hx hZ (aty := .char) (Wd6 hw) Eq34 (g := (fr_law m p1 p2 p3 p4 p5 p6 161 (vI 5) (vI r22) (vI r25) (vI r28) (vI r31) (vI r34) .unset .unset .unset [(iV 5)])) rfl (D at_161) rfl (by decide : ¬ ((5 : Int32) < (0 : Int32))) (cap := 5) (by decide) (by decide) (by decide) (by decide)
  obtain ⟨b316, g316⟩ : ∃ z, z = h0.size := ⟨_, rfl⟩
  rw [← g316] at A316 st316
  have g317 : n0 ≤ b316 := Nat.le_trans Z0 (Nat.le_of_eq g316.symm)
  have sf318 : Safe Z ownEL s.vm h0 b316 := Safe.new (Nat.le_of_eq g316.symm)
  have z319 : h0.size ≤ b316 := Nat.le_trans (Nat.le_refl h0.size) (Nat.le_of_eq g316.symm)
  have R320 := R0.trans (CHr.ext E316 R0.1)
  have sf321 := Safe.ext E316 R0.1 sf318
  have V322 : Arv Z h316 b316 k316 .char (5 : Int32) [(iV 0), (iV 0), (iV 0), (iV 0), (iV 0)] (iV 0) := (Arv.new A316 (by decide)).pad (pad_rep [] (iV 0) 5)
  refine ownBy st316 ?_
  clear st316
  show ownG p.tables e below _ (T316.setTop (fr_law m p1 p2 p3 p4 p5 p6 163 (vI 5) (vI r22) (vI r25) (vI r28) (vI r31) (vI r34) .unset .unset .unset [(.ref b316)]))
  refine ownBy (A := T316.setTop (fr_law m p1 p2 p3 p4 p5 p6 167 (vI 5) (vI r22) (vI r25) (vI r28) (vI r31) (vI r34) .unset .unset .unset [(.int r22), (iV 0), (.ref b316), (.ref b316)])) (fun t kt => ?_) ?_
  ·refine XS.dup X316.here hx rfl (D at_163) rfl rfl ?_
   refine XS.iconst X316.here hx rfl (D at_164) ?_
   refine XS.iload X316.here hx rfl (D at_165) rfl ?_
   exact kt
  obtain ⟨cl323, Ar323, q323, S323, N323, H323, G323⟩ := id V322
  have hin323 : ¬ ((0 : Int32) < 0 ∨ cl323.slots.size ≤ ((0 : Int32)).toNatClampNeg) := inb_of S323 ⟨by decide, by decide⟩
  obtain ⟨T323, h323, X323, e323, W323, st323⟩ := stC X316 hx hZ e316 Ar323 (j := (0 : Int32)) hin323 (g := (fr_law m p1 p2 p3 p4 p5 p6 167 (vI 5) (vI r22) (vI r25) (vI r28) (vI r31) (vI r34) .unset .unset .unset [(.int r22), (iV 0), (.ref b316), (.ref b316)])) rfl rfl (D at_167)
  have V324 : Arv Z h323 b316 k316 .char (5 : Int32) [(.int (nar .char r22)), (iV 0), (iV 0), (iV 0), (iV 0)] (iV 0) := Arv.set Ar323 q323 S323 N323 H323 G323 (fits_nar_char _) W323 0 rfl (oLe rfl)
  rw [own_c16 hR22] at V324
  clear hin323 G323 H323 N323 S323 q323 Ar323 cl323 V322
  have N325 := Fr.snoc X323 Nh36 g317
  have R326 := R320.trans (CHr.wr W323 sf321 R320.1)
  have sf327 := Safe.wr W323 sf321 R320.1 sf321
  obtain ⟨Lh328, Xh328, Nh328⟩ := oHd 1 5 X323 N325 rfl rfl
  refine ownBy st323 ?_
  clear st323
  show ownG p.tables e below _ (T323.setTop (fr_law m p1 p2 p3 p4 p5 p6 168 (vI 5) (vI r22) (vI r25) (vI r28) (vI r31) (vI r34) .unset .unset .unset [(.ref b316)]))
  refine ownBy (A := T323.setTop (fr_law m p1 p2 p3 p4 p5 p6 172 (vI 5) (vI r22) (vI r25) (vI r28) (vI r31) (vI r34) .unset .unset .unset [(.int r25), (iV 1), (.ref b316), (.ref b316)])) (fun t kt => ?_) ?_
  ·refine XS.dup Xh328.here hx rfl (D at_168) rfl rfl ?_
   refine XS.iconst Xh328.here hx rfl (D at_169) ?_
   refine XS.iload Xh328.here hx rfl (D at_170) rfl ?_
   exact kt
  obtain ⟨cl329, Ar329, q329, S329, N329, H329, G329⟩ := id V324
  have hin329 : ¬ ((1 : Int32) < 0 ∨ cl329.slots.size ≤ ((1 : Int32)).toNatClampNeg) := inb_of S329 ⟨by decide, by decide⟩
  obtain ⟨T329, h329, X329, e329, W329, st329⟩ := stC Xh328 hx hZ e323 Ar329 (j := (1 : Int32)) hin329 (g := (fr_law m p1 p2 p3 p4 p5 p6 172 (vI 5) (vI r22) (vI r25) (vI r28) (vI r31) (vI r34) .unset .unset .unset [(.int r25), (iV 1), (.ref b316), (.ref b316)])) rfl rfl (D at_172)
  have V330 : Arv Z h329 b316 k316 .char (5 : Int32) [(.int r22), (.int (nar .char r25)), (iV 0), (iV 0), (iV 0)] (iV 0) := Arv.set Ar329 q329 S329 N329 H329 G329 (fits_nar_char _) W329 1 rfl (oLe rfl)
  rw [own_c16 hR25] at V330
  clear hin329 G329 H329 N329 S329 q329 Ar329 cl329 V324
  have N331 := Fr.snoc X329 Nh328 g317
  have R332 := R326.trans (CHr.wr W329 sf327 R326.1)
  have sf333 := Safe.wr W329 sf327 R326.1 sf327
  obtain ⟨Lh334, Xh334, Nh334⟩ := oHd 1 5 X329 N331 rfl rfl
  refine ownBy st329 ?_
  clear st329
  show ownG p.tables e below _ (T329.setTop (fr_law m p1 p2 p3 p4 p5 p6 173 (vI 5) (vI r22) (vI r25) (vI r28) (vI r31) (vI r34) .unset .unset .unset [(.ref b316)]))
  refine ownBy (A := T329.setTop (fr_law m p1 p2 p3 p4 p5 p6 177 (vI 5) (vI r22) (vI r25) (vI r28) (vI r31) (vI r34) .unset .unset .unset [(.int r28), (iV 2), (.ref b316), (.ref b316)])) (fun t kt => ?_) ?_
  ·refine XS.dup Xh334.here hx rfl (D at_173) rfl rfl ?_
   refine XS.iconst Xh334.here hx rfl (D at_174) ?_
   refine XS.iload Xh334.here hx rfl (D at_175) rfl ?_
   exact kt
  obtain ⟨cl335, Ar335, q335, S335, N335, H335, G335⟩ := id V330
  have hin335 : ¬ ((2 : Int32) < 0 ∨ cl335.slots.size ≤ ((2 : Int32)).toNatClampNeg) := inb_of S335 ⟨by decide, by decide⟩
  obtain ⟨T335, h335, X335, e335, W335, st335⟩ := stC Xh334 hx hZ e329 Ar335 (j := (2 : Int32)) hin335 (g := (fr_law m p1 p2 p3 p4 p5 p6 177 (vI 5) (vI r22) (vI r25) (vI r28) (vI r31) (vI r34) .unset .unset .unset [(.int r28), (iV 2), (.ref b316), (.ref b316)])) rfl rfl (D at_177)
  have V336 : Arv Z h335 b316 k316 .char (5 : Int32) [(.int r22), (.int r25), (.int (nar .char r28)), (iV 0), (iV 0)] (iV 0) := Arv.set Ar335 q335 S335 N335 H335 G335 (fits_nar_char _) W335 2 rfl (oLe rfl)
  rw [own_c16 hR28] at V336
  clear hin335 G335 H335 N335 S335 q335 Ar335 cl335 V330
  have N337 := Fr.snoc X335 Nh334 g317
  have R338 := R332.trans (CHr.wr W335 sf333 R332.1)
  have sf339 := Safe.wr W335 sf333 R332.1 sf333
  obtain ⟨Lh340, Xh340, Nh340⟩ := oHd 1 5 X335 N337 rfl rfl
  refine ownBy st335 ?_
  clear st335
  show ownG p.tables e below _ (T335.setTop (fr_law m p1 p2 p3 p4 p5 p6 178 (vI 5) (vI r22) (vI r25) (vI r28) (vI r31) (vI r34) .unset .unset .unset [(.ref b316)]))
  refine ownBy (A := T335.setTop (fr_law m p1 p2 p3 p4 p5 p6 182 (vI 5) (vI r22) (vI r25) (vI r28) (vI r31) (vI r34) .unset .unset .unset [(.int r31), (iV 3), (.ref b316), (.ref b316)])) (fun t kt => ?_) ?_
  ·refine XS.dup Xh340.here hx rfl (D at_178) rfl rfl ?_
   refine XS.iconst Xh340.here hx rfl (D at_179) ?_
   refine XS.iload Xh340.here hx rfl (D at_180) rfl ?_
   exact kt
  obtain ⟨cl341, Ar341, q341, S341, N341, H341, G341⟩ := id V336
  have hin341 : ¬ ((3 : Int32) < 0 ∨ cl341.slots.size ≤ ((3 : Int32)).toNatClampNeg) := inb_of S341 ⟨by decide, by decide⟩
  obtain ⟨T341, h341, X341, e341, W341, st341⟩ := stC Xh340 hx hZ e335 Ar341 (j := (3 : Int32)) hin341 (g := (fr_law m p1 p2 p3 p4 p5 p6 182 (vI 5) (vI r22) (vI r25) (vI r28) (vI r31) (vI r34) .unset .unset .unset [(.int r31), (iV 3), (.ref b316), (.ref b316)])) rfl rfl (D at_182)
  have V342 : Arv Z h341 b316 k316 .char (5 : Int32) [(.int r22), (.int r25), (.int r28), (.int (nar .char r31)), (iV 0)] (iV 0) := Arv.set Ar341 q341 S341 N341 H341 G341 (fits_nar_char _) W341 3 rfl (oLe rfl)
  rw [own_c16 hR31] at V342
  clear hin341 G341 H341 N341 S341 q341 Ar341 cl341 V336
  have N343 := Fr.snoc X341 Nh340 g317
  have R344 := R338.trans (CHr.wr W341 sf339 R338.1)
  have sf345 := Safe.wr W341 sf339 R338.1 sf339
  obtain ⟨Lh346, Xh346, Nh346⟩ := oHd 1 5 X341 N343 rfl rfl
  refine ownBy st341 ?_
  clear st341
  show ownG p.tables e below _ (T341.setTop (fr_law m p1 p2 p3 p4 p5 p6 183 (vI 5) (vI r22) (vI r25) (vI r28) (vI r31) (vI r34) .unset .unset .unset [(.ref b316)]))
  refine ownBy (A := T341.setTop (fr_law m p1 p2 p3 p4 p5 p6 187 (vI 5) (vI r22) (vI r25) (vI r28) (vI r31) (vI r34) .unset .unset .unset [(.int r34), (iV 4), (.ref b316), (.ref b316)])) (fun t kt => ?_) ?_
  ·refine XS.dup Xh346.here hx rfl (D at_183) rfl rfl ?_
   refine XS.iconst Xh346.here hx rfl (D at_184) ?_
   refine XS.iload Xh346.here hx rfl (D at_185) rfl ?_
   exact kt
  obtain ⟨cl347, Ar347, q347, S347, N347, H347, G347⟩ := id V342
  have hin347 : ¬ ((4 : Int32) < 0 ∨ cl347.slots.size ≤ ((4 : Int32)).toNatClampNeg) := inb_of S347 ⟨by decide, by decide⟩
  obtain ⟨T347, h347, X347, e347, W347, st347⟩ := stC Xh346 hx hZ e341 Ar347 (j := (4 : Int32)) hin347 (g := (fr_law m p1 p2 p3 p4 p5 p6 187 (vI 5) (vI r22) (vI r25) (vI r28) (vI r31) (vI r34) .unset .unset .unset [(.int r34), (iV 4), (.ref b316), (.ref b316)])) rfl rfl (D at_187)
  have V348 : Arv Z h347 b316 k316 .char (5 : Int32) [(.int r22), (.int r25), (.int r28), (.int r31), (.int (nar .char r34))] (iV 0) := Arv.set Ar347 q347 S347 N347 H347 G347 (fits_nar_char _) W347 4 rfl (oLe rfl)
  rw [own_c16 hR34] at V348
  clear hin347 G347 H347 N347 S347 q347 Ar347 cl347 V342
  have N349 := Fr.snoc X347 Nh346 g317
  have R350 := R344.trans (CHr.wr W347 sf345 R344.1)
  have sf351 := Safe.wr W347 sf345 R344.1 sf345
  obtain ⟨Lh352, Xh352, Nh352⟩ := oHd 1 5 X347 N349 rfl rfl
  refine ownBy st347 ?_
  clear st347
  show ownG p.tables e below _ (T347.setTop (fr_law m p1 p2 p3 p4 p5 p6 188 (vI 5) (vI r22) (vI r25) (vI r28) (vI r31) (vI r34) .unset .unset .unset [(.ref b316)]))
  refine ownBy (A := T347.setTop (fr_law m p1 p2 p3 p4 p5 p6 190 (vI 5) (vI r22) (vI r25) (vI r28) (vI r31) (vI r34) (vR b316) .unset .unset [])) (fun t kt => ?_) ?_
  ·refine XS.astore Xh352.here hx rfl (D at_188) rfl rfl (l' := #[vI p1, vI p2, vI p3, vI p4, vI p5, vI p6, vI 5, vI r22, vI r25, vI r28, vI r31, vI r34, vR b316, .unset, .unset]) rfl ?_
   exact kt
  obtain ⟨T353, h353, X353, e353, E353, A353, D353, -, st353⟩ := newO Xh352 hx hZ hown (Wd7 hw) (Wd8 hw) (Wd9 hw) e347 (g := (fr_law m p1 p2 p3 p4 p5 p6 190 (vI 5) (vI r22) (vI r25) (vI r28) (vI r31) (vI r34) (vR b316) .unset .unset [])) rfl (D at_190) (by decide) (by decide)
  obtain ⟨b353, g353⟩ : ∃ z, z = h347.size := ⟨_, rfl⟩
  rw [← g353] at A353 D353 st353
  have ne354 : b316 ≠ b353 := Nat.ne_of_lt (Nat.lt_of_lt_of_le V348.lt (Nat.le_of_eq g353.symm))
  have f356 := (Nat.le_trans (Nat.le_trans (Nat.le_trans (Nat.le_trans (Nat.le_trans (Nat.le_trans Z0 E316.1) (Keep.of_wr W323).1) (Keep.of_wr W329).1) (Keep.of_wr W335).1) (Keep.of_wr W341).1) (Keep.of_wr W347).1)
  have g355 : n0 ≤ b353 := Nat.le_trans f356 (Nat.le_of_eq g353.symm)
  have sf357 : Safe Z ownEL s.vm h347 b353 := Safe.new (Nat.le_of_eq g353.symm)
  have f359 := (Nat.le_trans (Nat.le_trans (Nat.le_trans (Nat.le_trans (Nat.le_trans (Nat.le_trans (Nat.le_refl h0.size) E316.1) (Keep.of_wr W323).1) (Keep.of_wr W329).1) (Keep.of_wr W335).1) (Keep.of_wr W341).1) (Keep.of_wr W347).1)
  have z358 : h0.size ≤ b353 := Nat.le_trans f359 (Nat.le_of_eq g353.symm)
  have R360 := R350.trans (CHr.ext E353 R350.1)
  have sf361 := Safe.ext E353 R350.1 sf351
  have sf362 := Safe.ext E353 R350.1 sf357
  have F363 : Fld Z h353 b353 "java/lang/String" "value" "[B" .null := D353 (Or.inr (Wd22 hw)) (ty := (.array .byte)) (by decide)
  have F364 : Fld Z h353 b353 "java/lang/String" "coder" "B" (iV 0) := D353 (Or.inr (Wd23 hw)) (ty := .byte) (by decide)
  refine ownBy st353 ?_
  clear st353
  show ownG p.tables e below _ (T353.setTop (fr_law m p1 p2 p3 p4 p5 p6 193 (vI 5) (vI r22) (vI r25) (vI r28) (vI r31) (vI r34) (vR b316) .unset .unset [(.ref b353)]))
  refine ownBy (A := T353.setTop (fr_law m p1 p2 p3 p4 p5 p6 196 (vI 5) (vI r22) (vI r25) (vI r28) (vI r31) (vI r34) (vR b316) .unset .unset [(.ref b316), (.ref b353), (.ref b353)])) (fun t kt => ?_) ?_
  ·refine XS.dup X353.here hx rfl (D at_193) rfl rfl ?_
   refine XS.aload X353.here hx rfl (D at_194) rfl rfl ?_
   exact kt
  have f365 := (V348.ext E353)
  have f366 := (((((((X00.ext E316).wr W323 g317).wr W329 g317).wr W335 g317).wr W341 g317).wr W347 g317).ext E353)
  have f367 := (Nat.le_trans f356 E353.1)
  obtain ⟨vv368, _, ⟨T368, L368, k368, n368⟩, -, X368, ⟨Lc368, hQ368, l368, y368, z368⟩, st368⟩ := X353.specialBack hx (y := yM1) rfl hown (mvT hZ (Wd10 hw)) (mvT hZ (Wd11 hw)) (mvT hZ (Wd12 hw)) (by decide) (backOf (W := 1) (c_inC_5 l Z a0 hw [] b353 b316 k316 r22 r25 r28 r31 r34 _ G1 h353 n0 f367 A353 F363 F364 g355 (Ne.symm ne354) f365 hR22 hR25 hR28 hR31 hR34 O2 P5 SA SHI SLO f366) hZ (Wd12 hw) (Wd9 hw) (by decide) (by decide)) (g := (fr_law m p1 p2 p3 p4 p5 p6 196 (vI 5) (vI r22) (vI r25) (vI r28) (vI r31) (vI r34) (vR b316) .unset .unset [(.ref b316), (.ref b353), (.ref b353)])) rfl (by rw [hml]; rfl) (Steps.refl _) (a := b353) (argsL := [(.ref b316)]) (rest := [(.ref b353)]) (lenOf pd_26 rfl) rfl (by show 2 * 0 + _ ≤ _; exact Nat.le_of_eq rfl) (D at_196) (fun _ _ => ⟨rfl, e353, (by decide : 2 + 2 ≤ _), (by decide : 9 + 15 ≤ _)⟩)
  dsimp only [Pt.U, Pt.locs, Pt.cells, Pt.slots] at X368 l368 y368 z368 st368 hQ368
  subst l368 y368 z368
  obtain ⟨rfl, Nq368, Kq368, Eq368, t368, kb368, cd368, z368, vs368, zq368, Vq368, Cq368, Aq368, hrel368⟩ := hQ368
  have ne369 : b316 ≠ t368 := Nat.ne_of_lt (Nat.lt_of_lt_of_le f365.lt zq368)
  have ne370 : b353 ≠ t368 := Nat.ne_of_lt (Nat.lt_of_lt_of_le A353.lt zq368)
  have g371 : n0 ≤ t368 := Nat.le_trans f367 zq368
  have sf372 : Safe Z ownEL s.vm h353 t368 := Safe.new zq368
  have f374 := (Nat.le_trans f359 E353.1)
  have z373 : h0.size ≤ t368 := Nat.le_trans f374 zq368
  have N375 := Fr.app Nh352 Nq368
  have R376 := R360.trans (CHr.keep Kq368 (sfS sf362 sf0) R360.1)
  have sf377 := Safe.keep Kq368 (sfS sf362 sf0) R360.1 sf361
  have sf378 := Safe.keep Kq368 (sfS sf362 sf0) R360.1 sf362
  have sf379 := Safe.keep Kq368 (sfS sf362 sf0) R360.1 sf372
  obtain ⟨Lh380, Xh380, Nh380⟩ := oHd 4 24 X368 N375 rfl rfl
  refine ownSt st368 ?_
  clear st368
  show ownG p.tables e below _ (T368.setTop (fr_law m p1 p2 p3 p4 p5 p6 199 (vI 5) (vI r22) (vI r25) (vI r28) (vI r31) (vI r34) (vR b316) .unset .unset [(.ref b353)]))
  refine ownBy (A := T368.setTop (fr_law m p1 p2 p3 p4 p5 p6 201 (vI 5) (vI r22) (vI r25) (vI r28) (vI r31) (vI r34) (vR b316) (vR b353) .unset [])) (fun t kt => ?_) ?_
  ·refine XS.astore Xh380.here hx rfl (D at_199) rfl rfl (l' := #[vI p1, vI p2, vI p3, vI p4, vI p5, vI p6, vI 5, vI r22, vI r25, vI r28, vI r31, vI r34, vR b316, vR b353, .unset]) rfl ?_
   exact kt
  have seg381 : ∀ t, Steps p.tables e below (T368.setTop (fr_law m p1 p2 p3 p4 p5 p6 270 (vI 5) (vI r22) (vI r25) (vI r28) (vI r31) (vI r34) (vR b316) (vR b353) .unset [(.int (own_b (r22 = (42 : Int32) ∨ r25 = (42 : Int32) ∨ r28 = (42 : Int32) ∨ r31 = (42 : Int32) ∨ r34 = (42 : Int32))))])) t → Steps p.tables e below (T368.setTop (fr_law m p1 p2 p3 p4 p5 p6 201 (vI 5) (vI r22) (vI r25) (vI r28) (vI r31) (vI r34) (vR b316) (vR b353) .unset [])) t := by
   intro t kt
   show Steps p.tables e below (T368.setTop (fr_law m p1 p2 p3 p4 p5 p6 201 (vI 5) (vI r22) (vI r25) (vI r28) (vI r31) (vI r34) (vR b316) (vR b353) .unset [])) t
   refine XS.iload Xh380.here hx rfl (D at_201) rfl ?_
   refine XS.ifNo Xh380.here hx rfl (D at_203) rfl ((if0 _ _).trans (tlt ((by decide) : (0 : Int32) < (5 : Int32))).2.2.2) ?_
   refine XS.iload Xh380.here hx rfl (D at_206) rfl ?_
   refine XS.bipush Xh380.here hx rfl (D at_208) ?_
   show Steps p.tables e below (T368.setTop (fr_law m p1 p2 p3 p4 p5 p6 210 (vI 5) (vI r22) (vI r25) (vI r28) (vI r31) (vI r34) (vR b316) (vR b353) .unset [(iV 42), (.int r22)])) t
   by_cases hc382 : r22 = (42 : Int32)
   ·skip
    show Steps p.tables e below (T368.setTop (fr_law m p1 p2 p3 p4 p5 p6 210 (vI 5) (vI r22) (vI r25) (vI r28) (vI r31) (vI r34) (vR b316) (vR b353) .unset [(iV 42), (.int r22)])) t
    refine XS.icmpYes Xh380.here hx rfl (pc0 := 210) (pc' := 265) rfl (D at_210) rfl (teq hc382).1 (by decide) (by decide) ?_
    refine XS.iconst Xh380.here hx rfl (D at_265) ?_
    refine XS.goto Xh380.here hx rfl (pc0 := 266) (pc' := 270) rfl (D at_266) (by decide) (by decide) ?_
    show Steps p.tables e below (T368.setTop (fr_law m p1 p2 p3 p4 p5 p6 270 (vI 5) (vI r22) (vI r25) (vI r28) (vI r31) (vI r34) (vR b316) (vR b353) .unset [(iV 1)])) t
    rw [show (own_b (r22 = (42 : Int32) ∨ r25 = (42 : Int32) ∨ r28 = (42 : Int32) ∨ r31 = (42 : Int32) ∨ r34 = (42 : Int32))) = (1 : Int32) from by simp [own_b, hc382]] at kt
    exact kt
   ·skip
    show Steps p.tables e below (T368.setTop (fr_law m p1 p2 p3 p4 p5 p6 210 (vI 5) (vI r22) (vI r25) (vI r28) (vI r31) (vI r34) (vR b316) (vR b353) .unset [(iV 42), (.int r22)])) t
    refine XS.icmpNo Xh380.here hx rfl (D at_210) rfl (feq hc382).1 ?_
    refine XS.iload Xh380.here hx rfl (D at_213) rfl ?_
    refine XS.iconst Xh380.here hx rfl (D at_215) ?_
    refine XS.icmpNo Xh380.here hx rfl (D at_216) rfl (tlt ((by decide) : (1 : Int32) < (5 : Int32))).2.2.2 ?_
    refine XS.iload Xh380.here hx rfl (D at_219) rfl ?_
    refine XS.bipush Xh380.here hx rfl (D at_221) ?_
    show Steps p.tables e below (T368.setTop (fr_law m p1 p2 p3 p4 p5 p6 223 (vI 5) (vI r22) (vI r25) (vI r28) (vI r31) (vI r34) (vR b316) (vR b353) .unset [(iV 42), (.int r25)])) t
    by_cases hc383 : r25 = (42 : Int32)
    ·skip
     show Steps p.tables e below (T368.setTop (fr_law m p1 p2 p3 p4 p5 p6 223 (vI 5) (vI r22) (vI r25) (vI r28) (vI r31) (vI r34) (vR b316) (vR b353) .unset [(iV 42), (.int r25)])) t
     refine XS.icmpYes Xh380.here hx rfl (pc0 := 223) (pc' := 265) rfl (D at_223) rfl (teq hc383).1 (by decide) (by decide) ?_
     refine XS.iconst Xh380.here hx rfl (D at_265) ?_
     refine XS.goto Xh380.here hx rfl (pc0 := 266) (pc' := 270) rfl (D at_266) (by decide) (by decide) ?_
     show Steps p.tables e below (T368.setTop (fr_law m p1 p2 p3 p4 p5 p6 270 (vI 5) (vI r22) (vI r25) (vI r28) (vI r31) (vI r34) (vR b316) (vR b353) .unset [(iV 1)])) t
     rw [show (own_b (r22 = (42 : Int32) ∨ r25 = (42 : Int32) ∨ r28 = (42 : Int32) ∨ r31 = (42 : Int32) ∨ r34 = (42 : Int32))) = (1 : Int32) from by simp [own_b, hc382, hc383]] at kt
     exact kt
    ·skip
     show Steps p.tables e below (T368.setTop (fr_law m p1 p2 p3 p4 p5 p6 223 (vI 5) (vI r22) (vI r25) (vI r28) (vI r31) (vI r34) (vR b316) (vR b353) .unset [(iV 42), (.int r25)])) t
     refine XS.icmpNo Xh380.here hx rfl (D at_223) rfl (feq hc383).1 ?_
     refine XS.iload Xh380.here hx rfl (D at_226) rfl ?_
     refine XS.iconst Xh380.here hx rfl (D at_228) ?_
     refine XS.icmpNo Xh380.here hx rfl (D at_229) rfl (tlt ((by decide) : (2 : Int32) < (5 : Int32))).2.2.2 ?_
     refine XS.iload Xh380.here hx rfl (D at_232) rfl ?_
     refine XS.bipush Xh380.here hx rfl (D at_234) ?_
     show Steps p.tables e below (T368.setTop (fr_law m p1 p2 p3 p4 p5 p6 236 (vI 5) (vI r22) (vI r25) (vI r28) (vI r31) (vI r34) (vR b316) (vR b353) .unset [(iV 42), (.int r28)])) t
     by_cases hc384 : r28 = (42 : Int32)
     ·skip
      show Steps p.tables e below (T368.setTop (fr_law m p1 p2 p3 p4 p5 p6 236 (vI 5) (vI r22) (vI r25) (vI r28) (vI r31) (vI r34) (vR b316) (vR b353) .unset [(iV 42), (.int r28)])) t
      refine XS.icmpYes Xh380.here hx rfl (pc0 := 236) (pc' := 265) rfl (D at_236) rfl (teq hc384).1 (by decide) (by decide) ?_
      refine XS.iconst Xh380.here hx rfl (D at_265) ?_
      refine XS.goto Xh380.here hx rfl (pc0 := 266) (pc' := 270) rfl (D at_266) (by decide) (by decide) ?_
      show Steps p.tables e below (T368.setTop (fr_law m p1 p2 p3 p4 p5 p6 270 (vI 5) (vI r22) (vI r25) (vI r28) (vI r31) (vI r34) (vR b316) (vR b353) .unset [(iV 1)])) t
      rw [show (own_b (r22 = (42 : Int32) ∨ r25 = (42 : Int32) ∨ r28 = (42 : Int32) ∨ r31 = (42 : Int32) ∨ r34 = (42 : Int32))) = (1 : Int32) from by simp [own_b, hc382, hc383, hc384]] at kt
      exact kt
     ·skip
      show Steps p.tables e below (T368.setTop (fr_law m p1 p2 p3 p4 p5 p6 236 (vI 5) (vI r22) (vI r25) (vI r28) (vI r31) (vI r34) (vR b316) (vR b353) .unset [(iV 42), (.int r28)])) t
      refine XS.icmpNo Xh380.here hx rfl (D at_236) rfl (feq hc384).1 ?_
      refine XS.iload Xh380.here hx rfl (D at_239) rfl ?_
      refine XS.iconst Xh380.here hx rfl (D at_241) ?_
      refine XS.icmpNo Xh380.here hx rfl (D at_242) rfl (tlt ((by decide) : (3 : Int32) < (5 : Int32))).2.2.2 ?_
      refine XS.iload Xh380.here hx rfl (D at_245) rfl ?_
      refine XS.bipush Xh380.here hx rfl (D at_247) ?_
      show Steps p.tables e below (T368.setTop (fr_law m p1 p2 p3 p4 p5 p6 249 (vI 5) (vI r22) (vI r25) (vI r28) (vI r31) (vI r34) (vR b316) (vR b353) .unset [(iV 42), (.int r31)])) t
      by_cases hc385 : r31 = (42 : Int32)
      ·skip
       show Steps p.tables e below (T368.setTop (fr_law m p1 p2 p3 p4 p5 p6 249 (vI 5) (vI r22) (vI r25) (vI r28) (vI r31) (vI r34) (vR b316) (vR b353) .unset [(iV 42), (.int r31)])) t
       refine XS.icmpYes Xh380.here hx rfl (pc0 := 249) (pc' := 265) rfl (D at_249) rfl (teq hc385).1 (by decide) (by decide) ?_
       refine XS.iconst Xh380.here hx rfl (D at_265) ?_
       refine XS.goto Xh380.here hx rfl (pc0 := 266) (pc' := 270) rfl (D at_266) (by decide) (by decide) ?_
       show Steps p.tables e below (T368.setTop (fr_law m p1 p2 p3 p4 p5 p6 270 (vI 5) (vI r22) (vI r25) (vI r28) (vI r31) (vI r34) (vR b316) (vR b353) .unset [(iV 1)])) t
       rw [show (own_b (r22 = (42 : Int32) ∨ r25 = (42 : Int32) ∨ r28 = (42 : Int32) ∨ r31 = (42 : Int32) ∨ r34 = (42 : Int32))) = (1 : Int32) from by simp [own_b, hc382, hc383, hc384, hc385]] at kt
       exact kt
      ·skip
       show Steps p.tables e below (T368.setTop (fr_law m p1 p2 p3 p4 p5 p6 249 (vI 5) (vI r22) (vI r25) (vI r28) (vI r31) (vI r34) (vR b316) (vR b353) .unset [(iV 42), (.int r31)])) t
       refine XS.icmpNo Xh380.here hx rfl (D at_249) rfl (feq hc385).1 ?_
       refine XS.iload Xh380.here hx rfl (D at_252) rfl ?_
       refine XS.iconst Xh380.here hx rfl (D at_254) ?_
       refine XS.icmpNo Xh380.here hx rfl (D at_255) rfl (tlt ((by decide) : (4 : Int32) < (5 : Int32))).2.2.2 ?_
       refine XS.iload Xh380.here hx rfl (D at_258) rfl ?_
       refine XS.bipush Xh380.here hx rfl (D at_260) ?_
       show Steps p.tables e below (T368.setTop (fr_law m p1 p2 p3 p4 p5 p6 262 (vI 5) (vI r22) (vI r25) (vI r28) (vI r31) (vI r34) (vR b316) (vR b353) .unset [(iV 42), (.int r34)])) t
       by_cases hc386 : r34 = (42 : Int32)
       ·skip
        show Steps p.tables e below (T368.setTop (fr_law m p1 p2 p3 p4 p5 p6 262 (vI 5) (vI r22) (vI r25) (vI r28) (vI r31) (vI r34) (vR b316) (vR b353) .unset [(iV 42), (.int r34)])) t
        refine XS.icmpNo Xh380.here hx rfl (D at_262) rfl (teq hc386).2 ?_
        refine XS.iconst Xh380.here hx rfl (D at_265) ?_
        refine XS.goto Xh380.here hx rfl (pc0 := 266) (pc' := 270) rfl (D at_266) (by decide) (by decide) ?_
        show Steps p.tables e below (T368.setTop (fr_law m p1 p2 p3 p4 p5 p6 270 (vI 5) (vI r22) (vI r25) (vI r28) (vI r31) (vI r34) (vR b316) (vR b353) .unset [(iV 1)])) t
        rw [show (own_b (r22 = (42 : Int32) ∨ r25 = (42 : Int32) ∨ r28 = (42 : Int32) ∨ r31 = (42 : Int32) ∨ r34 = (42 : Int32))) = (1 : Int32) from by simp [own_b, hc382, hc383, hc384, hc385, hc386]] at kt
        exact kt
       ·skip
        show Steps p.tables e below (T368.setTop (fr_law m p1 p2 p3 p4 p5 p6 262 (vI 5) (vI r22) (vI r25) (vI r28) (vI r31) (vI r34) (vR b316) (vR b353) .unset [(iV 42), (.int r34)])) t
        refine XS.icmpYes Xh380.here hx rfl (pc0 := 262) (pc' := 269) rfl (D at_262) rfl (feq hc386).2 (by decide) (by decide) ?_
        refine XS.iconst Xh380.here hx rfl (D at_269) ?_
        show Steps p.tables e below (T368.setTop (fr_law m p1 p2 p3 p4 p5 p6 270 (vI 5) (vI r22) (vI r25) (vI r28) (vI r31) (vI r34) (vR b316) (vR b353) .unset [(iV 0)])) t
        rw [show (own_b (r22 = (42 : Int32) ∨ r25 = (42 : Int32) ∨ r28 = (42 : Int32) ∨ r31 = (42 : Int32) ∨ r34 = (42 : Int32))) = (0 : Int32) from by simp [own_b, hc382, hc383, hc384, hc385, hc386]] at kt
        exact kt
  refine ownBy seg381 ?_
  show ownG p.tables e below _ (T368.setTop (fr_law m p1 p2 p3 p4 p5 p6 270 (vI 5) (vI r22) (vI r25) (vI r28) (vI r31) (vI r34) (vR b316) (vR b353) .unset [(.int (own_b (r22 = (42 : Int32) ∨ r25 = (42 : Int32) ∨ r28 = (42 : Int32) ∨ r31 = (42 : Int32) ∨ r34 = (42 : Int32))))]))
  refine ownBy (A := T368.setTop (fr_law m p1 p2 p3 p4 p5 p6 274 (vI 5) (vI r22) (vI r25) (vI r28) (vI r31) (vI r34) (vR b316) (vR b353) (.val (.int (own_b (r22 = (42 : Int32) ∨ r25 = (42 : Int32) ∨ r28 = (42 : Int32) ∨ r31 = (42 : Int32) ∨ r34 = (42 : Int32))))) [(.ref b353)])) (fun t kt => ?_) ?_
  ·refine XS.istore Xh380.here hx rfl (D at_270) rfl (l' := #[vI p1, vI p2, vI p3, vI p4, vI p5, vI p6, vI 5, vI r22, vI r25, vI r28, vI r31, vI r34, vR b316, vR b353, .val (.int (own_b (r22 = (42 : Int32) ∨ r25 = (42 : Int32) ∨ r28 = (42 : Int32) ∨ r31 = (42 : Int32) ∨ r34 = (42 : Int32))))]) rfl ?_
   refine XS.aload Xh380.here hx rfl (D at_272) rfl rfl ?_
   exact kt
  have f387 := (A353.keep Kq368)
  have f388 := (f366.keep Kq368 (allS g355 all0))
  have f389 := (Nat.le_trans f367 Kq368.1)
  obtain ⟨vv390, _, ⟨T390, L390, k390, n390⟩, -, X390, ⟨Lc390, hQ390, l390, y390, z390⟩, st390⟩ := Jvm.LawKit.callS Xh380 hx (y := yM27) hown (mvT hZ (Wd28 hw)) (mvT hZ (Wd29 hw)) (mvT hZ (Wd30 hw)) (mvT hZ (Wd31 hw)) (by decide) (backOf (W := 0) (c_isin l Z a0 hw [] b353 t368 kb368 cd368 z368 vs368 (r22 = (42 : Int32) ∨ r25 = (42 : Int32) ∨ r28 = (42 : Int32) ∨ r31 = (42 : Int32) ∨ r34 = (42 : Int32)) T368.heap n0 f389 f387 Vq368 Cq368 Aq368 (hb5 l Z a0 hw b353 t368 kb368 cd368 z368 vs368 r22 r25 r28 r31 r34 G1 G3 hrel368 hR22 hR25 hR28 hR31 hR34 O2 P5 SA SHI SLO O4 rG3) f388) hZ (Wd31 hw) (Wd30 hw) (by decide) (by decide)) (g := (fr_law m p1 p2 p3 p4 p5 p6 274 (vI 5) (vI r22) (vI r25) (vI r28) (vI r31) (vI r34) (vR b316) (vR b353) (.val (.int (own_b (r22 = (42 : Int32) ∨ r25 = (42 : Int32) ∨ r28 = (42 : Int32) ∨ r31 = (42 : Int32) ∨ r34 = (42 : Int32))))) [(.ref b353)])) rfl (by rw [hml]; rfl) (argsL := [(.ref b353)]) (rest := []) (lenOf pd_27 rfl) rfl (by show 2 * 0 + _ ≤ _; exact Nat.le_of_eq rfl) (D at_274) (fun _ _ => ⟨rfl, rfl, (by decide : 4 + 0 ≤ _), (by decide : 24 + 0 ≤ _)⟩)
  dsimp only [Pt.U, Pt.locs, Pt.cells, Pt.slots] at X390 l390 y390 z390 st390 hQ390
  subst l390 y390 z390
  obtain ⟨Nq390, Eq390, hB390⟩ := hQ390
  obtain rfl : vv390 = some (.int (own_b (r22 = (42 : Int32) ∨ r25 = (42 : Int32) ∨ r28 = (42 : Int32) ∨ r31 = (42 : Int32) ∨ r34 = (42 : Int32)))) := by
   rcases hB390 with ⟨h, q⟩ | ⟨h, q⟩
   ·rw [q, own_bt1 h]
   ·rw [q, own_bf0 h]
  have N391 := Fr.app Nh380 Nq390
  obtain ⟨Lh392, Xh392, Nh392⟩ := oHd 4 24 X390 N391 rfl rfl
  refine ownBy st390 ?_
  clear st390
  show ownG p.tables e below _ (T390.setTop (fr_law m p1 p2 p3 p4 p5 p6 277 (vI 5) (vI r22) (vI r25) (vI r28) (vI r31) (vI r34) (vR b316) (vR b353) (.val (.int (own_b (r22 = (42 : Int32) ∨ r25 = (42 : Int32) ∨ r28 = (42 : Int32) ∨ r31 = (42 : Int32) ∨ r34 = (42 : Int32))))) [(.int (own_b (r22 = (42 : Int32) ∨ r25 = (42 : Int32) ∨ r28 = (42 : Int32) ∨ r31 = (42 : Int32) ∨ r34 = (42 : Int32))))]))
  refine ownBy (A := T390.setTop (fr_law m p1 p2 p3 p4 p5 p6 287 (vI 5) (vI r22) (vI r25) (vI r28) (vI r31) (vI r34) (vR b316) (vR b353) (.val (.int (own_b (r22 = (42 : Int32) ∨ r25 = (42 : Int32) ∨ r28 = (42 : Int32) ∨ r31 = (42 : Int32) ∨ r34 = (42 : Int32))))) [(iV 1)])) (fun t kt => ?_) ?_
  ·refine XS.iload Xh392.here hx rfl (D at_277) rfl ?_
   refine XS.icmpNo Xh392.here hx rfl (D at_279) rfl (teq (rfl : (own_b (r22 = (42 : Int32) ∨ r25 = (42 : Int32) ∨ r28 = (42 : Int32) ∨ r31 = (42 : Int32) ∨ r34 = (42 : Int32))) = (own_b (r22 = (42 : Int32) ∨ r25 = (42 : Int32) ∨ r28 = (42 : Int32) ∨ r31 = (42 : Int32) ∨ r34 = (42 : Int32))))).2 ?_
   refine XS.iconst Xh392.here hx rfl (D at_282) ?_
   refine XS.goto Xh392.here hx rfl (pc0 := 283) (pc' := 287) rfl (D at_283) (by decide) (by decide) ?_
   exact kt
  refine ownRetH Xh392 hS0 (by rw [Eq390]; exact (Nat.le_trans (Nat.le_trans (Nat.le_trans (Nat.le_trans (Nat.le_trans (Nat.le_trans (Nat.le_trans (Nat.le_trans (Nat.le_refl _) E316.1) (Keep.of_wr W323).1) (Keep.of_wr W329).1) (Keep.of_wr W335).1) (Keep.of_wr W341).1) (Keep.of_wr W347).1) E353.1) Kq368.1)) Bd.notSynchronized (v := some (.int (nar .boolean (1 : Int32)))) (fun h => by rw [Bd.returns] at h; cases h) ?_ (R376.trans ((by rw [Eq390]; exact CHv.at Xh392 hZ hEL R376.1))) (oLe rfl) (oLe rfl) (fun fs hr => retN Xh392 hx (t := .boolean) Bd.returns (by simp) (D at_287) hr)
  show (Q_law Z p1 p2 p3 p4 p5 p6 G1 G3 h0 n0) (some (.int (nar .boolean (1 : Int32)))) T390.heap _
  rw [Eq390]
  exact ⟨rfl, Nh392⟩
set_option maxRecDepth 65536 in
set_option maxHeartbeats 40000000 in
theorem comes_1 {Post : Tables → Env → Array Value → State → Outcome → State → Prop} (hpost : ∀ tb e args s v u, (limb_1_1.after args s (.returned v) u = true ∧ limb_1_2.after args s (.returned v) u = true ∧ True) → ReturnedEndW s (.returned v) u (Jvm.fieldLocs frame_1_writes args s ++ Jvm.arrayLocs frame_1_arrays args s ++ Jvm.staticLocs frame_1_statics s) 24 1152 → Post tb e args s (.returned v) u) :
  ArmFor flags0 classFile x code maxLocals ret World_1 tables_1 room_1 Calls_1 rest_1 Pre_1 Post := by
 intro l hfl _ _ p e ha hc hk s m args below hf hA hF happ hP
 obtain ⟨hcalls, hrest, hpre⟩ := hP
 obtain ⟨-, -, -, hnamed, -, -, -, hat⟩ := (Spec.applies_iff hf).mp happ
 obtain ⟨hg, hn⟩ := and_e (Cond.before_iff.mp (show (Jvm.Cond.and given_1 narrow_1).before args s = true from hpre))
 obtain ⟨g394, g395⟩ := and_e hg
 obtain ⟨g396, g397⟩ := and_e g395
 obtain ⟨g398, g399⟩ := and_e g397
 obtain ⟨g400, g401⟩ := and_e g399
 obtain ⟨g402, g403⟩ := and_e g401
 obtain ⟨g404, g405⟩ := and_e g403
 obtain ⟨w0, w1, w2, w3, w4, w5, rfl⟩ : ∃ w0 w1 w2 w3 w4 w5 : Value, args = #[w0, w1, w2, w3, w4, w5] := by
  have hs : args.size = 6 := by simpa [Cond.value, given_1] using g394
  obtain ⟨L⟩ := args
  match L, hs with
  | [w0, w1, w2, w3, w4, w5], _ => exact ⟨w0, w1, w2, w3, w4, w5, rfl⟩
 have hw := fun d (hd : d ∈ tables_1) => atoms_spec (ws := Jvm.Cond.code x code maxLocals ret :: tables_1) hat d (List.mem_cons_of_mem _ hd)
 have hfit : Fit s := fun {y c} hc i hi => by
  obtain ⟨ha, rfl⟩ := Array.getElem?_eq_some_iff.mp hc
  have q := List.all_eq_true.mp ((Array.all_eq_true_iff_forall_mem.mp hF) _ (Array.getElem_mem ha)) i (List.mem_range.mpr hi)
  simpa [Array.getElem?_eq_getElem hi] using q
 obtain ⟨hsets, hown0⟩ := atoms_of _ (rest_1_c_eq ▸ (show rest_1_c.before _ s = true from hrest))
 have hr0 := Cond.before_iff.mp hown0
 obtain ⟨i0, ei0⟩ := is_v g396
 obtain rfl : w0 = (.int i0) := Option.some.inj ei0
 obtain ⟨i1, ei1⟩ := is_v g398
 obtain rfl : w1 = (.int i1) := Option.some.inj ei1
 obtain ⟨i2, ei2⟩ := is_v g400
 obtain rfl : w2 = (.int i2) := Option.some.inj ei2
 obtain ⟨i3, ei3⟩ := is_v g402
 obtain rfl : w3 = (.int i3) := Option.some.inj ei3
 obtain ⟨i4, ei4⟩ := is_v g404
 obtain rfl : w4 = (.int i4) := Option.some.inj ei4
 obtain ⟨i5, ei5⟩ := is_v g405
 obtain rfl : w5 = (.int i5) := Option.some.inj ei5
 obtain ⟨G1, eG1⟩ := is_v (Cond.before_iff.mp (hsets _ (List.mem_of_getElem? (i := 1) rfl)))
 have O2 := Sta.start eG1 (Or.inl (hsets _ (List.mem_of_getElem? (i := 0) rfl)))
 have P5 : ¬ (G1 = (0 : Int32)) := own_nz eG1 (Cond.before_iff.mp (hsets _ (List.mem_of_getElem? (i := 2) rfl)))
 obtain ⟨G3, eG3, rG3⟩ := isR_v (Cond.before_iff.mp (hsets _ (List.mem_of_getElem? (i := 8) rfl)))
 have O4 := Sta.start eG3 (Or.inl (hsets _ (List.mem_of_getElem? (i := 7) rfl)))
 have SA := Sta.start (eqv_i (y := (1 : Int32)) rfl (Cond.before_iff.mp (hsets _ (List.mem_of_getElem? (i := 12) rfl)))) (Or.inl (hsets _ (List.mem_of_getElem? (i := 11) rfl)))
 have SHI := Sta.start (eqv_i (y := (0 : Int32)) rfl (Cond.before_iff.mp (hsets _ (List.mem_of_getElem? (i := 15) rfl)))) (Or.inl (hsets _ (List.mem_of_getElem? (i := 14) rfl)))
 have SLO := Sta.start (eqv_i (y := (8 : Int32)) rfl (Cond.before_iff.mp (hsets _ (List.mem_of_getElem? (i := 18) rfl)))) (Or.inl (hsets _ (List.mem_of_getElem? (i := 17) rfl)))
 have hCH : CHv s ownEL s.vm s.heap := CHv.start (own_EW hw) (fun q hq => hcalls.1 q hq) (hsets _ (List.mem_of_getElem? (i := 2) rfl)) (Wd21 hw) (Wd8 hw)
 obtain ⟨n, o, h1, h2, h3, _, L, rfl, ⟨rfl, N⟩, -, hq⟩ := c_law l s _ hw tables_1 i0 i1 i2 i3 i4 i5 G1 G3 s.heap s.heap.size (Nat.le_refl _) O2 P5 SA SHI SLO O4 rG3 (Old.start s) p e ha hc hk s m _ below hf ((Spec.applies_iff_loose hf).mp happ).1 ⟨rfl, State.Warmed39.refl s, rfl, hCH⟩ trivial
 refine ⟨n, _, h1, h2, h3, hpost _ _ _ _ _ _ ⟨Cond.after_iff.mpr rfl, Cond.after_iff.mpr (eq_i res_at (Term.int_eval (1)) rfl), trivial⟩ ⟨hq.1, hq.2.1, hq.2.2.1, (hq.2.2.2.sift fun y hy => Or.inr (N y hy)).mono (by decide) (by decide)⟩⟩
theorem main_1_1 : Claimed_1_1 := comes_1 fun _ _ _ _ _ _ h hF => ⟨h.1, hF⟩
theorem main_1_2 : Claimed_1_2 := comes_1 fun _ _ _ _ _ _ h hF => ⟨h.2.1, hF⟩
end Jvm.Pilot.@@N@@
namespace Jvm.Pilot.@@N@@
open Jvm Jvm.ClassFile Sem Op Lib Jvm.Free Jvm.Stand Jvm.Pilot.@@N@@.Jvm.D
/-! MADE BY PROGRAM (witnessworld.py) out of the Statement's table words and the real class files: 21 classes; the members and pool entries that the words name. The judged class is class 1, her method 2. -/
namespace start1
open Jvm.ClassFile
def u (s : String) : CpInfo := .utf8 (stringToUtf16 s)
/-- a pool by its gaps: so many unusable entries, then the entry; so many at the end -/
def gap : Nat → List CpInfo → List CpInfo
  | 0, r => r
  | n + 1, r => .unusable :: gap n r
def poolList (es : List (Nat × CpInfo)) (last : Nat) : List CpInfo := es.foldr (fun e r => gap e.1 (e.2 :: r)) (gap last [])
def pool (es : List (Nat × CpInfo)) (last : Nat) : Array CpInfo := ⟨poolList es last⟩
def fileOf (pool : Array CpInfo) (this : Nat) (attrs : Array Attribute := #[]) (ms : Array MethodInfo := #[]) (fl : Nat := 33) (sup : Nat := 0) (ifs : Array Nat := #[]) (fds : Array FieldInfo := #[]) : ClassFile where
  minorVersion := 0
  majorVersion := 65
  constantPool := pool
  accessFlags := fl
  thisClass := this
  superClass := sup
  interfaces := ifs
  fields := fds
  methods := ms
  attributes := attrs
def plain (name : String) (sup : Option ClassId) : Class where
  name := name
  kind := .ordinary
  loader := none
  accessFlags := 33
  super := sup
  interfaces := #[]
  cf := none
  fields := #[]
  methods := #[]
  instanceTypes := #[]
  staticTypes := #[]
  resolved := #[]
  callSites := []
  init := .initialized
  statics := none
  mirror := none

def pool0 : Array CpInfo := pool [(5, u "<init>"), (0, u "()V"), (1, .class_ 10), (1, u "java/lang/Object")] 113

def k0c0 : Code := { maxStack := 0, maxLocals := 1, code := object_method_1_code, exceptionTable := #[], attributes := #[] }
def k0m0 : Method := { name := "<init>", desc := "()V", sig := { parameters := [], returnType := none }, accessFlags := 1, code := some k0c0 }
/-- java/lang/Object -/
def k0 : Class := { plain "java/lang/Object" none with
  accessFlags := 33
  interfaces := #[]
  cf := some (fileOf pool0 8 #[] #[{ accessFlags := 1, nameIndex := 5, descriptorIndex := 6, attributes := #[] }] 33 0 #[] #[])
  fields := #[]
  methods := #[k0m0]
  instanceTypes := #[]
  staticTypes := #[]
  resolved := Array.replicate 124 none
  statics := none }

def pool1 : Array CpInfo := pool [(2, .class_ 4), (1, u "java/lang/Object"), (0, u "<init>"), (0, u "()V"), (0, .integer 65535), (0, .integer 2147483647), (0, .methodref 10 11), (0, .class_ 12), (0, .nameAndType 13 14), (0, u "com/example/sakuin/sakuin/engine/WildcardIsInPinLaw"), (0, u "ch"), (0, u "(I)C"), (0, .class_ 16), (0, u "java/lang/String"), (0, .methodref 15 18), (0, .nameAndType 5 19), (0, u "([C)V"), (0, .methodref 21 22), (0, .class_ 23), (0, .nameAndType 24 25), (0, u "com/example/sakuin/sakuin/engine/Wildcard"), (0, u "isIn"), (0, u "(Ljava/lang/String;)Z"), (3, u "law"), (0, u "(IIIIII)Z")] 4

def k1m0 : Method := { name := "<init>", desc := "()V", sig := { parameters := [], returnType := none }, accessFlags := 1, code := none }
def k1c1 : Code := { maxStack := 2, maxLocals := 1, code := method_2_code, exceptionTable := #[], attributes := #[] }
def k1m1 : Method := { name := "ch", desc := "(I)C", sig := { parameters := [.int], returnType := some .char }, accessFlags := 10, code := some k1c1 }
def k1c2 : Code := { maxStack := 4, maxLocals := 15, code := code, exceptionTable := #[], attributes := #[] }
def k1m2 : Method := { name := "law", desc := "(IIIIII)Z", sig := { parameters := [.int, .int, .int, .int, .int, .int], returnType := some .boolean }, accessFlags := 9, code := some k1c2 }
/-- com/example/sakuin/sakuin/engine/WildcardIsInPinLaw -/
def k1 : Class := { plain "com/example/sakuin/sakuin/engine/WildcardIsInPinLaw" (some 0) with
  accessFlags := 49
  interfaces := #[]
  cf := some (fileOf pool1 10 #[] #[{ accessFlags := 1, nameIndex := 5, descriptorIndex := 6, attributes := #[] }, { accessFlags := 10, nameIndex := 13, descriptorIndex := 14, attributes := #[] }, { accessFlags := 9, nameIndex := 29, descriptorIndex := 30, attributes := #[] }] 49 2 #[] #[])
  fields := #[]
  methods := #[k1m0, k1m1, k1m2]
  instanceTypes := #[]
  staticTypes := #[]
  resolved := Array.replicate 35 none
  statics := none }

def pool2 : Array CpInfo := pool [(1, .class_ 2), (0, u "java/io/Serializable"), (0, .class_ 4), (0, u "java/lang/Object")] 2

/-- java/io/Serializable -/
def k2 : Class := { plain "java/io/Serializable" (some 0) with
  accessFlags := 1537
  interfaces := #[]
  cf := some (fileOf pool2 1 #[] #[] 1537 3 #[] #[])
  fields := #[]
  methods := #[]
  instanceTypes := #[]
  staticTypes := #[]
  resolved := Array.replicate 7 none
  statics := none }

def pool3 : Array CpInfo := pool [(1, .class_ 2), (0, u "java/lang/Comparable"), (0, .class_ 4), (0, u "java/lang/Object")] 7

/-- java/lang/Comparable -/
def k3 : Class := { plain "java/lang/Comparable" (some 0) with
  accessFlags := 1537
  interfaces := #[]
  cf := some (fileOf pool3 1 #[] #[] 1537 3 #[] #[])
  fields := #[]
  methods := #[]
  instanceTypes := #[]
  staticTypes := #[]
  resolved := Array.replicate 12 none
  statics := none }

def pool4 : Array CpInfo := pool [(2, .class_ 4), (1, u "java/lang/CharSequence"), (42, .class_ 48), (0, u "java/lang/CharSequence$1CodePointIterator"), (10, .class_ 60), (0, u "java/lang/CharSequence$1CharIterator"), (5, .class_ 67), (0, u "java/lang/Object")] 63

/-- java/lang/CharSequence -/
def k4 : Class := { plain "java/lang/CharSequence" (some 0) with
  accessFlags := 1537
  interfaces := #[]
  cf := some (fileOf pool4 2 #[.nestMembers #[47, 59]] #[] 1537 66 #[] #[])
  fields := #[]
  methods := #[]
  instanceTypes := #[]
  staticTypes := #[]
  resolved := Array.replicate 131 none
  statics := none }

def pool5 : Array CpInfo := pool [(1, .class_ 2), (0, u "java/lang/constant/Constable"), (0, .class_ 4), (0, u "java/lang/Object")] 6

/-- java/lang/constant/Constable -/
def k5 : Class := { plain "java/lang/constant/Constable" (some 0) with
  accessFlags := 1537
  interfaces := #[]
  cf := some (fileOf pool5 1 #[] #[] 1537 3 #[] #[])
  fields := #[]
  methods := #[]
  instanceTypes := #[]
  staticTypes := #[]
  resolved := Array.replicate 11 none
  statics := none }

def pool6 : Array CpInfo := pool [(1, .class_ 2), (0, u "java/lang/constant/ConstantDesc"), (0, .class_ 4), (0, u "java/lang/Object")] 32

/-- java/lang/constant/ConstantDesc -/
def k6 : Class := { plain "java/lang/constant/ConstantDesc" (some 0) with
  accessFlags := 1537
  interfaces := #[]
  cf := some (fileOf pool6 1 #[] #[] 1537 3 #[] #[])
  fields := #[]
  methods := #[]
  instanceTypes := #[]
  staticTypes := #[]
  resolved := Array.replicate 37 none
  statics := none }

def pool7 : Array CpInfo := pool [(1, .methodref 2 3), (0, .class_ 4), (0, .nameAndType 5 6), (0, u "java/lang/Object"), (0, u "<init>"), (0, u "()V"), (0, .string 8), (0, u ""), (0, .fieldref 10 11), (0, .class_ 12), (0, .nameAndType 13 14), (0, u "java/lang/String"), (0, u "value"), (0, u "[B"), (0, .fieldref 10 16), (0, .nameAndType 17 18), (0, u "coder"), (0, u "B"), (2, u "hash"), (0, u "I"), (2, u "hashIsZero"), (0, u "Z"), (0, .methodref 10 28), (0, .nameAndType 5 29), (0, u "([CIILjava/lang/Void;)V"), (8, .fieldref 10 39), (0, .nameAndType 40 26), (0, u "COMPACT_STRINGS"), (1, .class_ 44), (1, u "java/lang/StringUTF16"), (0, u "compress"), (1, .methodref 42 48), (0, .nameAndType 49 50), (0, u "coderFromArrayLen"), (0, u "([BI)B"), (56, .class_ 109), (1, u "java/lang/StringLatin1"), (32, u "()Z"), (34, .methodref 42 178), (0, .nameAndType 45 179), (0, u "([CII)[B"), (154, u "()I"), (0, .methodref 10 336), (0, .nameAndType 17 337), (0, u "()B"), (154, .methodref 10 493), (0, .nameAndType 494 142), (0, u "isLatin1"), (10, .methodref 10 506), (0, .nameAndType 507 334), (0, u "length"), (5, u "checkFromToIndex"), (9, u "checkBoundsBeginEnd"), (0, u "(III)V"), (50, .class_ 576), (0, u "java/lang/CharSequence"), (22, u "CASE_INSENSITIVE_ORDER"), (0, u "Ljava/util/Comparator;"), (32, .methodref 10 634), (0, .nameAndType 635 636), (0, u "indexOf"), (0, u "(II)I"), (0, .methodref 107 638), (0, .nameAndType 635 639), (0, u "([BIII)I"), (0, .methodref 42 638), (124, u "(I)I"), (244, u "([C)V"), (42, .fieldref 1054 1055), (0, .class_ 1056), (0, .nameAndType 1057 1058), (0, u "jdk/internal/util/Preconditions"), (0, u "SIOOBE_FORMATTER"), (0, u "Ljava/util/function/BiFunction;"), (3, .methodref 1054 1063), (0, .nameAndType 513 1064), (0, u "(IIILjava/util/function/BiFunction;)I"), (36, u "serialPersistentFields"), (0, u "[Ljava/io/ObjectStreamField;"), (0, .class_ 1104), (0, u "java/lang/String$CaseInsensitiveComparator"), (1, .class_ 1107), (0, u "java/io/Serializable"), (0, .class_ 1109), (0, u "java/lang/Comparable"), (0, .class_ 1111), (0, u "java/lang/constant/Constable"), (0, .class_ 1113), (0, u "java/lang/constant/ConstantDesc"), (2, u "serialVersionUID"), (0, u "J"), (3, u "REPL"), (0, u "C"), (2, u "LATIN1"), (1, u "UTF16")] 323

def k7m0 : Method := { name := "<init>", desc := "()V", sig := { parameters := [], returnType := none }, accessFlags := 1, code := none }
def k7c1 : Code := { maxStack := 5, maxLocals := 2, code := jdk_42_method_3_code, exceptionTable := #[], attributes := #[] }
def k7m1 : Method := { name := "<init>", desc := "([C)V", sig := { parameters := [(.array .char)], returnType := none }, accessFlags := 1, code := some k7c1 }
def k7c2 : Code := { maxStack := 2, maxLocals := 1, code := jdk_42_method_54_code, exceptionTable := #[], attributes := #[] }
def k7m2 : Method := { name := "length", desc := "()I", sig := { parameters := [], returnType := some .int }, accessFlags := 1, code := some k7c2 }
def k7c3 : Code := { maxStack := 3, maxLocals := 2, code := jdk_42_method_79_code, exceptionTable := #[], attributes := #[] }
def k7m3 : Method := { name := "indexOf", desc := "(I)I", sig := { parameters := [.int], returnType := some .int }, accessFlags := 1, code := some k7c3 }
def k7c4 : Code := { maxStack := 4, maxLocals := 3, code := jdk_42_method_80_code, exceptionTable := #[], attributes := #[] }
def k7m4 : Method := { name := "indexOf", desc := "(II)I", sig := { parameters := [.int, .int], returnType := some .int }, accessFlags := 1, code := some k7c4 }
def k7c5 : Code := { maxStack := 4, maxLocals := 6, code := jdk_42_method_149_code, exceptionTable := #[], attributes := #[] }
def k7m5 : Method := { name := "<init>", desc := "([CIILjava/lang/Void;)V", sig := { parameters := [(.array .char), .int, .int, (.object "java/lang/Void")], returnType := none }, accessFlags := 2, code := some k7c5 }
def k7c6 : Code := { maxStack := 1, maxLocals := 1, code := jdk_42_method_152_code, exceptionTable := #[], attributes := #[] }
def k7m6 : Method := { name := "coder", desc := "()B", sig := { parameters := [], returnType := some .byte }, accessFlags := 0, code := some k7c6 }
def k7c7 : Code := { maxStack := 1, maxLocals := 1, code := jdk_42_method_154_code, exceptionTable := #[], attributes := #[] }
def k7m7 : Method := { name := "isLatin1", desc := "()Z", sig := { parameters := [], returnType := some .boolean }, accessFlags := 0, code := some k7c7 }
def k7c8 : Code := { maxStack := 4, maxLocals := 3, code := jdk_42_method_158_code, exceptionTable := #[], attributes := #[] }
def k7m8 : Method := { name := "checkBoundsBeginEnd", desc := "(III)V", sig := { parameters := [.int, .int, .int], returnType := none }, accessFlags := 8, code := some k7c8 }
/-- java/lang/String -/
def k7 : Class := { plain "java/lang/String" (some 0) with
  accessFlags := 49
  interfaces := #[2, 3, 4, 5, 6]
  cf := some (fileOf pool7 10 #[.nestMembers #[1103]] #[{ accessFlags := 1, nameIndex := 5, descriptorIndex := 6, attributes := #[] }, { accessFlags := 1, nameIndex := 5, descriptorIndex := 1010, attributes := #[] }, { accessFlags := 1, nameIndex := 507, descriptorIndex := 334, attributes := #[] }, { accessFlags := 1, nameIndex := 635, descriptorIndex := 765, attributes := #[] }, { accessFlags := 1, nameIndex := 635, descriptorIndex := 636, attributes := #[] }, { accessFlags := 2, nameIndex := 5, descriptorIndex := 29, attributes := #[] }, { accessFlags := 0, nameIndex := 17, descriptorIndex := 337, attributes := #[] }, { accessFlags := 0, nameIndex := 494, descriptorIndex := 142, attributes := #[] }, { accessFlags := 8, nameIndex := 523, descriptorIndex := 524, attributes := #[] }] 49 2 #[1106, 1108, 575, 1110, 1112] #[{ accessFlags := 18, nameIndex := 13, descriptorIndex := 14, attributes := #[] }, { accessFlags := 18, nameIndex := 17, descriptorIndex := 18, attributes := #[] }, { accessFlags := 2, nameIndex := 21, descriptorIndex := 22, attributes := #[] }, { accessFlags := 2, nameIndex := 25, descriptorIndex := 26, attributes := #[] }, { accessFlags := 26, nameIndex := 1116, descriptorIndex := 1117, attributes := #[] }, { accessFlags := 24, nameIndex := 40, descriptorIndex := 26, attributes := #[] }, { accessFlags := 26, nameIndex := 1101, descriptorIndex := 1102, attributes := #[] }, { accessFlags := 26, nameIndex := 1121, descriptorIndex := 1122, attributes := #[] }, { accessFlags := 25, nameIndex := 599, descriptorIndex := 600, attributes := #[] }, { accessFlags := 24, nameIndex := 1125, descriptorIndex := 18, attributes := #[] }, { accessFlags := 24, nameIndex := 1127, descriptorIndex := 18, attributes := #[] }])
  fields := #[{ name := "value", type := (.array .byte), accessFlags := 18, slot := 0, constantValue := 0 }, { name := "coder", type := .byte, accessFlags := 18, slot := 1, constantValue := 0 }, { name := "hash", type := .int, accessFlags := 2, slot := 2, constantValue := 0 }, { name := "hashIsZero", type := .boolean, accessFlags := 2, slot := 3, constantValue := 0 }, { name := "serialVersionUID", type := .long, accessFlags := 26, slot := 0, constantValue := 0 }, { name := "COMPACT_STRINGS", type := .boolean, accessFlags := 24, slot := 1, constantValue := 0 }, { name := "serialPersistentFields", type := (.array (.object "java/io/ObjectStreamField")), accessFlags := 26, slot := 2, constantValue := 0 }, { name := "REPL", type := .char, accessFlags := 26, slot := 3, constantValue := 0 }, { name := "CASE_INSENSITIVE_ORDER", type := (.object "java/util/Comparator"), accessFlags := 25, slot := 4, constantValue := 0 }, { name := "LATIN1", type := .byte, accessFlags := 24, slot := 5, constantValue := 0 }, { name := "UTF16", type := .byte, accessFlags := 24, slot := 6, constantValue := 0 }]
  methods := #[k7m0, k7m1, k7m2, k7m3, k7m4, k7m5, k7m6, k7m7, k7m8]
  instanceTypes := #[(.array .byte), .byte, .int, .boolean]
  staticTypes := #[.long, .boolean, (.array (.object "java/io/ObjectStreamField")), .char, (.object "java/util/Comparator"), .byte, .byte]
  resolved := Array.replicate 1451 none
  statics := some 0 }

def pool8 : Array CpInfo := pool [(2, .class_ 4), (1, u "java/lang/Object"), (0, u "<init>"), (0, u "()V"), (0, .methodref 8 9), (0, .class_ 10), (0, .nameAndType 11 12), (0, u "java/lang/String"), (0, u "indexOf"), (0, u "(I)I"), (33, .class_ 47), (0, u "com/example/sakuin/sakuin/engine/Wildcard"), (2, u "isIn"), (0, u "(Ljava/lang/String;)Z")] 6

def k8m0 : Method := { name := "<init>", desc := "()V", sig := { parameters := [], returnType := none }, accessFlags := 2, code := none }
def k8c1 : Code := { maxStack := 2, maxLocals := 1, code := prog_22_method_2_code, exceptionTable := #[], attributes := #[] }
def k8m1 : Method := { name := "isIn", desc := "(Ljava/lang/String;)Z", sig := { parameters := [(.object "java/lang/String")], returnType := some .boolean }, accessFlags := 9, code := some k8c1 }
/-- com/example/sakuin/sakuin/engine/Wildcard -/
def k8 : Class := { plain "com/example/sakuin/sakuin/engine/Wildcard" (some 0) with
  accessFlags := 49
  interfaces := #[]
  cf := some (fileOf pool8 46 #[] #[{ accessFlags := 2, nameIndex := 5, descriptorIndex := 6, attributes := #[] }, { accessFlags := 9, nameIndex := 50, descriptorIndex := 51, attributes := #[] }] 49 2 #[] #[])
  fields := #[]
  methods := #[k8m0, k8m1]
  instanceTypes := #[]
  staticTypes := #[]
  resolved := Array.replicate 58 none
  statics := none }

def pool9 : Array CpInfo := pool [(4, .class_ 6), (1, u "java/lang/Object"), (0, u "<init>"), (0, u "()V"), (5, .class_ 16), (1, u "java/lang/StringLatin1"), (21, .methodref 39 40), (0, .class_ 41), (0, .nameAndType 42 43), (0, u "java/lang/Math"), (0, u "min"), (0, u "(II)I"), (44, .methodref 14 89), (0, .nameAndType 90 91), (0, u "canEncode"), (0, u "(I)Z"), (0, .methodref 39 93), (0, .nameAndType 94 43), (0, u "max"), (0, .methodref 14 96), (0, .nameAndType 97 98), (0, u "indexOfChar"), (0, u "([BIII)I"), (2, u "indexOf"), (19, u "$assertionsDisabled"), (0, u "Z"), (98, .class_ 223), (1, u "java/lang/StringLatin1$LinesSpliterator"), (166, .class_ 391), (0, u "java/lang/StringLatin1$CharsSpliterator")] 3

def k9m0 : Method := { name := "<init>", desc := "()V", sig := { parameters := [], returnType := none }, accessFlags := 0, code := none }
def k9c1 : Code := { maxStack := 2, maxLocals := 1, code := jdk_43_method_4_code, exceptionTable := #[], attributes := #[] }
def k9m1 : Method := { name := "canEncode", desc := "(I)Z", sig := { parameters := [.int], returnType := some .boolean }, accessFlags := 9, code := some k9c1 }
def k9c2 : Code := { maxStack := 4, maxLocals := 4, code := jdk_43_method_22_code, exceptionTable := #[], attributes := #[] }
def k9m2 : Method := { name := "indexOf", desc := "([BIII)I", sig := { parameters := [(.array .byte), .int, .int, .int], returnType := some .int }, accessFlags := 9, code := some k9c2 }
def k9c3 : Code := { maxStack := 2, maxLocals := 6, code := jdk_43_method_23_code, exceptionTable := #[], attributes := #[] }
def k9m3 : Method := { name := "indexOfChar", desc := "([BIII)I", sig := { parameters := [(.array .byte), .int, .int, .int], returnType := some .int }, accessFlags := 10, code := some k9c3 }
/-- java/lang/StringLatin1 -/
def k9 : Class := { plain "java/lang/StringLatin1" (some 0) with
  accessFlags := 48
  interfaces := #[]
  cf := some (fileOf pool9 14 #[.nestMembers #[390, 221]] #[{ accessFlags := 0, nameIndex := 7, descriptorIndex := 8, attributes := #[] }, { accessFlags := 9, nameIndex := 90, descriptorIndex := 91, attributes := #[] }, { accessFlags := 9, nameIndex := 101, descriptorIndex := 98, attributes := #[] }, { accessFlags := 10, nameIndex := 97, descriptorIndex := 98, attributes := #[] }] 48 4 #[] #[{ accessFlags := 4120, nameIndex := 121, descriptorIndex := 122, attributes := #[] }])
  fields := #[{ name := "$assertionsDisabled", type := .boolean, accessFlags := 4120, slot := 0, constantValue := 0 }]
  methods := #[k9m0, k9m1, k9m2, k9m3]
  instanceTypes := #[]
  staticTypes := #[.boolean]
  resolved := Array.replicate 395 none
  statics := none }

def pool10 : Array CpInfo := pool [(1, .class_ 2), (0, u "java/lang/Math"), (1, .class_ 6), (1, u "java/lang/Object"), (0, u "<init>"), (0, u "()V"), (89, .class_ 100), (1, u "java/lang/Math$RandomNumberGeneratorHolder"), (71, u "negativeZeroFloatBits"), (0, u "J"), (2, u "negativeZeroDoubleBits"), (21, u "max"), (2, u "min"), (43, u "$assertionsDisabled"), (0, u "Z"), (88, u "(II)I"), (2, u "twoToTheDoubleScaleDown"), (0, u "D"), (4, u "twoToTheDoubleScaleUp"), (9, u "E"), (3, u "PI"), (2, u "TAU"), (2, u "DEGREES_TO_RADIANS"), (0, u "RADIANS_TO_DEGREES")] 94

def k10m0 : Method := { name := "<init>", desc := "()V", sig := { parameters := [], returnType := none }, accessFlags := 2, code := none }
def k10c1 : Code := { maxStack := 2, maxLocals := 2, code := jdk_29_method_65_code, exceptionTable := #[], attributes := #[] }
def k10m1 : Method := { name := "max", desc := "(II)I", sig := { parameters := [.int, .int], returnType := some .int }, accessFlags := 9, code := some k10c1 }
def k10c2 : Code := { maxStack := 2, maxLocals := 2, code := jdk_29_method_69_code, exceptionTable := #[], attributes := #[] }
def k10m2 : Method := { name := "min", desc := "(II)I", sig := { parameters := [.int, .int], returnType := some .int }, accessFlags := 9, code := some k10c2 }
/-- java/lang/Math -/
def k10 : Class := { plain "java/lang/Math" (some 0) with
  accessFlags := 49
  interfaces := #[]
  cf := some (fileOf pool10 1 #[.nestMembers #[98]] #[{ accessFlags := 2, nameIndex := 7, descriptorIndex := 8, attributes := #[] }, { accessFlags := 9, nameIndex := 198, descriptorIndex := 335, attributes := #[] }, { accessFlags := 9, nameIndex := 201, descriptorIndex := 335, attributes := #[] }] 49 4 #[] #[{ accessFlags := 25, nameIndex := 354, descriptorIndex := 339, attributes := #[] }, { accessFlags := 25, nameIndex := 358, descriptorIndex := 339, attributes := #[] }, { accessFlags := 25, nameIndex := 361, descriptorIndex := 339, attributes := #[] }, { accessFlags := 26, nameIndex := 364, descriptorIndex := 339, attributes := #[] }, { accessFlags := 26, nameIndex := 365, descriptorIndex := 339, attributes := #[] }, { accessFlags := 26, nameIndex := 172, descriptorIndex := 173, attributes := #[] }, { accessFlags := 26, nameIndex := 176, descriptorIndex := 173, attributes := #[] }, { accessFlags := 8, nameIndex := 344, descriptorIndex := 339, attributes := #[] }, { accessFlags := 8, nameIndex := 338, descriptorIndex := 339, attributes := #[] }, { accessFlags := 4120, nameIndex := 245, descriptorIndex := 246, attributes := #[] }])
  fields := #[{ name := "E", type := .double, accessFlags := 25, slot := 0, constantValue := 0 }, { name := "PI", type := .double, accessFlags := 25, slot := 1, constantValue := 0 }, { name := "TAU", type := .double, accessFlags := 25, slot := 2, constantValue := 0 }, { name := "DEGREES_TO_RADIANS", type := .double, accessFlags := 26, slot := 3, constantValue := 0 }, { name := "RADIANS_TO_DEGREES", type := .double, accessFlags := 26, slot := 4, constantValue := 0 }, { name := "negativeZeroFloatBits", type := .long, accessFlags := 26, slot := 5, constantValue := 0 }, { name := "negativeZeroDoubleBits", type := .long, accessFlags := 26, slot := 6, constantValue := 0 }, { name := "twoToTheDoubleScaleUp", type := .double, accessFlags := 8, slot := 7, constantValue := 0 }, { name := "twoToTheDoubleScaleDown", type := .double, accessFlags := 8, slot := 8, constantValue := 0 }, { name := "$assertionsDisabled", type := .boolean, accessFlags := 4120, slot := 9, constantValue := 0 }]
  methods := #[k10m0, k10m1, k10m2]
  instanceTypes := #[]
  staticTypes := #[.double, .double, .double, .double, .double, .long, .long, .double, .double, .boolean]
  resolved := Array.replicate 460 none
  statics := none }

def pool11 : Array CpInfo := pool [(3, .class_ 4), (0, u "java/lang/String"), (1, .class_ 8), (1, u "java/lang/Object"), (0, u "<init>"), (0, u "()V"), (0, .methodref 12 13), (0, .class_ 14), (0, .nameAndType 15 16), (0, u "java/lang/StringUTF16"), (0, u "newBytesLength"), (0, u "(I)I"), (3, .integer 1073741823), (23, .fieldref 12 45), (0, .nameAndType 46 47), (0, u "$assertionsDisabled"), (0, u "Z"), (0, .methodref 12 49), (0, .nameAndType 50 51), (0, u "length"), (0, u "([B)I"), (7, .fieldref 12 60), (0, .nameAndType 61 62), (0, u "HI_BYTE_SHIFT"), (0, u "I"), (0, .fieldref 12 64), (0, .nameAndType 65 62), (0, u "LO_BYTE_SHIFT"), (5, .methodref 12 72), (0, .nameAndType 73 74), (0, u "getChar"), (0, u "([BI)C"), (21, .methodref 12 97), (0, .nameAndType 98 99), (0, u "checkBoundsBeginEnd"), (0, u "(II[B)V"), (7, .methodref 12 108), (0, .nameAndType 109 110), (0, u "newBytesFor"), (0, u "(I)[B"), (0, .methodref 12 112), (0, .nameAndType 113 114), (0, u "putChar"), (0, u "([BII)V"), (0, .methodref 12 116), (0, .nameAndType 117 118), (0, u "compress"), (0, u "([CI[BII)I"), (0, .methodref 12 120), (0, .nameAndType 121 122), (0, u "toBytes"), (0, u "([CII)[B"), (60, .methodref 184 185), (0, .class_ 186), (0, .nameAndType 187 188), (0, u "java/lang/Math"), (0, u "min"), (0, u "(II)I"), (35, .methodref 184 225), (0, .nameAndType 226 188), (0, u "max"), (0, .integer 65536), (0, .methodref 12 229), (0, .nameAndType 230 231), (0, u "indexOfChar"), (0, u "([BIII)I"), (9, .methodref 3 242), (0, .nameAndType 98 243), (0, u "(III)V"), (0, .methodref 12 245), (0, .nameAndType 246 231), (0, u "indexOfCharUnsafe"), (14, u "coderFromArrayLen"), (0, u "([BI)B"), (5, u "indexOf"), (100, .class_ 371), (1, u "java/lang/StringUTF16$LinesSpliterator"), (58, u "MAX_LENGTH"), (196, .class_ 628), (0, u "java/lang/StringUTF16$CodePointsSpliterator"), (0, .class_ 630), (0, u "java/lang/StringUTF16$CharsSpliterator")] 4

def k11m0 : Method := { name := "<init>", desc := "()V", sig := { parameters := [], returnType := none }, accessFlags := 0, code := none }
def k11c1 : Code := { maxStack := 1, maxLocals := 1, code := jdk_52_method_2_code, exceptionTable := #[], attributes := #[] }
def k11m1 : Method := { name := "newBytesFor", desc := "(I)[B", sig := { parameters := [.int], returnType := some (.array .byte) }, accessFlags := 9, code := some k11c1 }
def k11c2 : Code := { maxStack := 4, maxLocals := 1, code := jdk_52_method_3_code, exceptionTable := #[], attributes := #[] }
def k11m2 : Method := { name := "newBytesLength", desc := "(I)I", sig := { parameters := [.int], returnType := some .int }, accessFlags := 9, code := some k11c2 }
def k11c3 : Code := { maxStack := 4, maxLocals := 3, code := jdk_52_method_4_code, exceptionTable := #[], attributes := #[] }
def k11m3 : Method := { name := "putChar", desc := "([BII)V", sig := { parameters := [(.array .byte), .int, .int], returnType := none }, accessFlags := 8, code := some k11c3 }
def k11c4 : Code := { maxStack := 3, maxLocals := 2, code := jdk_52_method_5_code, exceptionTable := #[], attributes := #[] }
def k11m4 : Method := { name := "getChar", desc := "([BI)C", sig := { parameters := [(.array .byte), .int], returnType := some .char }, accessFlags := 8, code := some k11c4 }
def k11c5 : Code := { maxStack := 2, maxLocals := 1, code := jdk_52_method_6_code, exceptionTable := #[], attributes := #[] }
def k11m5 : Method := { name := "length", desc := "([B)I", sig := { parameters := [(.array .byte)], returnType := some .int }, accessFlags := 9, code := some k11c5 }
def k11c6 : Code := { maxStack := 4, maxLocals := 5, code := jdk_52_method_14_code, exceptionTable := #[], attributes := #[] }
def k11m6 : Method := { name := "toBytes", desc := "([CII)[B", sig := { parameters := [(.array .char), .int, .int], returnType := some (.array .byte) }, accessFlags := 9, code := some k11c6 }
def k11c7 : Code := { maxStack := 2, maxLocals := 2, code := jdk_52_method_15_code, exceptionTable := #[], attributes := #[] }
def k11m7 : Method := { name := "coderFromArrayLen", desc := "([BI)B", sig := { parameters := [(.array .byte), .int], returnType := some .byte }, accessFlags := 8, code := some k11c7 }
def k11c8 : Code := { maxStack := 5, maxLocals := 6, code := jdk_52_method_16_code, exceptionTable := #[], attributes := #[] }
def k11m8 : Method := { name := "compress", desc := "([CII)[B", sig := { parameters := [(.array .char), .int, .int], returnType := some (.array .byte) }, accessFlags := 9, code := some k11c8 }
def k11c9 : Code := { maxStack := 3, maxLocals := 7, code := jdk_52_method_21_code, exceptionTable := #[], attributes := #[] }
def k11m9 : Method := { name := "compress", desc := "([CI[BII)I", sig := { parameters := [(.array .char), .int, (.array .byte), .int, .int], returnType := some .int }, accessFlags := 9, code := some k11c9 }
def k11c10 : Code := { maxStack := 4, maxLocals := 4, code := jdk_52_method_40_code, exceptionTable := #[], attributes := #[] }
def k11m10 : Method := { name := "indexOf", desc := "([BIII)I", sig := { parameters := [(.array .byte), .int, .int, .int], returnType := some .int }, accessFlags := 9, code := some k11c10 }
def k11c11 : Code := { maxStack := 4, maxLocals := 4, code := jdk_52_method_47_code, exceptionTable := #[], attributes := #[] }
def k11m11 : Method := { name := "indexOfChar", desc := "([BIII)I", sig := { parameters := [(.array .byte), .int, .int, .int], returnType := some .int }, accessFlags := 10, code := some k11c11 }
def k11c12 : Code := { maxStack := 2, maxLocals := 5, code := jdk_52_method_48_code, exceptionTable := #[], attributes := #[] }
def k11m12 : Method := { name := "indexOfCharUnsafe", desc := "([BIII)I", sig := { parameters := [(.array .byte), .int, .int, .int], returnType := some .int }, accessFlags := 10, code := some k11c12 }
def k11c13 : Code := { maxStack := 3, maxLocals := 3, code := jdk_52_method_93_code, exceptionTable := #[], attributes := #[] }
def k11m13 : Method := { name := "checkBoundsBeginEnd", desc := "(II[B)V", sig := { parameters := [.int, .int, (.array .byte)], returnType := none }, accessFlags := 9, code := some k11c13 }
/-- java/lang/StringUTF16 -/
def k11 : Class := { plain "java/lang/StringUTF16" (some 0) with
  accessFlags := 48
  interfaces := #[]
  cf := some (fileOf pool11 12 #[.nestMembers #[627, 629, 369]] #[{ accessFlags := 0, nameIndex := 9, descriptorIndex := 10, attributes := #[] }, { accessFlags := 9, nameIndex := 109, descriptorIndex := 110, attributes := #[] }, { accessFlags := 9, nameIndex := 15, descriptorIndex := 16, attributes := #[] }, { accessFlags := 8, nameIndex := 113, descriptorIndex := 114, attributes := #[] }, { accessFlags := 8, nameIndex := 73, descriptorIndex := 74, attributes := #[] }, { accessFlags := 9, nameIndex := 50, descriptorIndex := 51, attributes := #[] }, { accessFlags := 9, nameIndex := 121, descriptorIndex := 122, attributes := #[] }, { accessFlags := 8, nameIndex := 261, descriptorIndex := 262, attributes := #[] }, { accessFlags := 9, nameIndex := 117, descriptorIndex := 122, attributes := #[] }, { accessFlags := 9, nameIndex := 117, descriptorIndex := 118, attributes := #[] }, { accessFlags := 9, nameIndex := 268, descriptorIndex := 231, attributes := #[] }, { accessFlags := 10, nameIndex := 230, descriptorIndex := 231, attributes := #[] }, { accessFlags := 10, nameIndex := 246, descriptorIndex := 231, attributes := #[] }, { accessFlags := 9, nameIndex := 98, descriptorIndex := 99, attributes := #[] }] 48 6 #[] #[{ accessFlags := 26, nameIndex := 61, descriptorIndex := 62, attributes := #[] }, { accessFlags := 26, nameIndex := 65, descriptorIndex := 62, attributes := #[] }, { accessFlags := 24, nameIndex := 430, descriptorIndex := 62, attributes := #[] }, { accessFlags := 4120, nameIndex := 46, descriptorIndex := 47, attributes := #[] }])
  fields := #[{ name := "HI_BYTE_SHIFT", type := .int, accessFlags := 26, slot := 0, constantValue := 0 }, { name := "LO_BYTE_SHIFT", type := .int, accessFlags := 26, slot := 1, constantValue := 0 }, { name := "MAX_LENGTH", type := .int, accessFlags := 24, slot := 2, constantValue := 0 }, { name := "$assertionsDisabled", type := .boolean, accessFlags := 4120, slot := 3, constantValue := 0 }]
  methods := #[k11m0, k11m1, k11m2, k11m3, k11m4, k11m5, k11m6, k11m7, k11m8, k11m9, k11m10, k11m11, k11m12, k11m13]
  instanceTypes := #[]
  staticTypes := #[.int, .int, .int, .boolean]
  resolved := Array.replicate 635 none
  statics := some 1 }

def pool12 : Array CpInfo := pool [(2, .class_ 4), (1, u "java/lang/Object"), (0, u "<init>"), (0, u "()V"), (17, .class_ 26), (1, u "jdk/internal/util/Preconditions"), (20, u "checkFromToIndex"), (7, .class_ 56), (0, u "jdk/internal/util/Preconditions$4"), (57, .class_ 115), (0, u "jdk/internal/util/Preconditions$1"), (7, u "SIOOBE_FORMATTER"), (0, u "Ljava/util/function/BiFunction;"), (0, .class_ 126), (0, u "jdk/internal/util/Preconditions$2"), (3, u "AIOOBE_FORMATTER"), (0, .class_ 132), (0, u "jdk/internal/util/Preconditions$3"), (3, u "IOOBE_FORMATTER"), (46, u "(IIILjava/util/function/BiFunction;)I")] 10

def k12m0 : Method := { name := "<init>", desc := "()V", sig := { parameters := [], returnType := none }, accessFlags := 1, code := none }
def k12c1 : Code := { maxStack := 4, maxLocals := 4, code := jdk_41_method_12_code, exceptionTable := #[], attributes := #[] }
def k12m1 : Method := { name := "checkFromToIndex", desc := "(IIILjava/util/function/BiFunction;)I", sig := { parameters := [.int, .int, .int, (.object "java/util/function/BiFunction")], returnType := some .int }, accessFlags := 9, code := some k12c1 }
/-- jdk/internal/util/Preconditions -/
def k12 : Class := { plain "jdk/internal/util/Preconditions" (some 0) with
  accessFlags := 33
  interfaces := #[]
  cf := some (fileOf pool12 24 #[.nestMembers #[55, 131, 125, 114]] #[{ accessFlags := 1, nameIndex := 5, descriptorIndex := 6, attributes := #[] }, { accessFlags := 9, nameIndex := 47, descriptorIndex := 183, attributes := #[] }] 33 2 #[] #[{ accessFlags := 25, nameIndex := 123, descriptorIndex := 124, attributes := #[] }, { accessFlags := 25, nameIndex := 130, descriptorIndex := 124, attributes := #[] }, { accessFlags := 25, nameIndex := 136, descriptorIndex := 124, attributes := #[] }])
  fields := #[{ name := "SIOOBE_FORMATTER", type := (.object "java/util/function/BiFunction"), accessFlags := 25, slot := 0, constantValue := 0 }, { name := "AIOOBE_FORMATTER", type := (.object "java/util/function/BiFunction"), accessFlags := 25, slot := 1, constantValue := 0 }, { name := "IOOBE_FORMATTER", type := (.object "java/util/function/BiFunction"), accessFlags := 25, slot := 2, constantValue := 0 }]
  methods := #[k12m0, k12m1]
  instanceTypes := #[]
  staticTypes := #[(.object "java/util/function/BiFunction"), (.object "java/util/function/BiFunction"), (.object "java/util/function/BiFunction")]
  resolved := Array.replicate 194 none
  statics := some 2 }

def pool13 : Array CpInfo := pool [(9, u "<init>"), (6, .class_ 18), (1, u "java/lang/Object"), (0, u "()V"), (1, .class_ 23), (1, u "jdk/internal/util/ArraysSupport"), (0, u "LOG2_ARRAY_LONG_INDEX_SCALE"), (0, u "I"), (2, u "U"), (0, u "Ljdk/internal/misc/Unsafe;"), (8, u "BIG_ENDIAN"), (0, u "Z"), (8, u "LOG2_BYTE_BIT_SIZE"), (4, u "LOG2_ARRAY_INT_INDEX_SCALE"), (54, u "JLA"), (0, u "Ljdk/internal/access/JavaLangAccess;"), (11, u "LOG2_ARRAY_BOOLEAN_INDEX_SCALE"), (9, u "LOG2_ARRAY_BYTE_INDEX_SCALE"), (5, u "LOG2_ARRAY_CHAR_INDEX_SCALE"), (5, u "LOG2_ARRAY_SHORT_INDEX_SCALE"), (18, u "LOG2_ARRAY_FLOAT_INDEX_SCALE"), (24, u "LOG2_ARRAY_DOUBLE_INDEX_SCALE"), (89, u "T_BOOLEAN"), (2, u "T_CHAR"), (1, u "T_FLOAT"), (1, u "T_DOUBLE"), (1, u "T_BYTE"), (1, u "T_SHORT"), (1, u "T_INT"), (1, u "T_LONG"), (1, u "SOFT_MAX_ARRAY_LENGTH")] 83

def k13m0 : Method := { name := "<init>", desc := "()V", sig := { parameters := [], returnType := none }, accessFlags := 2, code := none }
/-- jdk/internal/util/ArraysSupport -/
def k13 : Class := { plain "jdk/internal/util/ArraysSupport" (some 0) with
  accessFlags := 33
  interfaces := #[]
  cf := some (fileOf pool13 21 #[] #[{ accessFlags := 2, nameIndex := 9, descriptorIndex := 19, attributes := #[] }] 33 16 #[] #[{ accessFlags := 24, nameIndex := 28, descriptorIndex := 29, attributes := #[] }, { accessFlags := 26, nameIndex := 38, descriptorIndex := 39, attributes := #[] }, { accessFlags := 25, nameIndex := 121, descriptorIndex := 25, attributes := #[] }, { accessFlags := 25, nameIndex := 131, descriptorIndex := 25, attributes := #[] }, { accessFlags := 25, nameIndex := 137, descriptorIndex := 25, attributes := #[] }, { accessFlags := 25, nameIndex := 143, descriptorIndex := 25, attributes := #[] }, { accessFlags := 25, nameIndex := 53, descriptorIndex := 25, attributes := #[] }, { accessFlags := 25, nameIndex := 24, descriptorIndex := 25, attributes := #[] }, { accessFlags := 25, nameIndex := 162, descriptorIndex := 25, attributes := #[] }, { accessFlags := 25, nameIndex := 187, descriptorIndex := 25, attributes := #[] }, { accessFlags := 26, nameIndex := 48, descriptorIndex := 25, attributes := #[] }, { accessFlags := 25, nameIndex := 277, descriptorIndex := 25, attributes := #[] }, { accessFlags := 25, nameIndex := 280, descriptorIndex := 25, attributes := #[] }, { accessFlags := 25, nameIndex := 282, descriptorIndex := 25, attributes := #[] }, { accessFlags := 25, nameIndex := 284, descriptorIndex := 25, attributes := #[] }, { accessFlags := 25, nameIndex := 286, descriptorIndex := 25, attributes := #[] }, { accessFlags := 25, nameIndex := 288, descriptorIndex := 25, attributes := #[] }, { accessFlags := 25, nameIndex := 290, descriptorIndex := 25, attributes := #[] }, { accessFlags := 25, nameIndex := 292, descriptorIndex := 25, attributes := #[] }, { accessFlags := 26, nameIndex := 108, descriptorIndex := 109, attributes := #[] }, { accessFlags := 25, nameIndex := 294, descriptorIndex := 25, attributes := #[] }])
  fields := #[{ name := "U", type := (.object "jdk/internal/misc/Unsafe"), accessFlags := 24, slot := 0, constantValue := 0 }, { name := "BIG_ENDIAN", type := .boolean, accessFlags := 26, slot := 1, constantValue := 0 }, { name := "LOG2_ARRAY_BOOLEAN_INDEX_SCALE", type := .int, accessFlags := 25, slot := 2, constantValue := 0 }, { name := "LOG2_ARRAY_BYTE_INDEX_SCALE", type := .int, accessFlags := 25, slot := 3, constantValue := 0 }, { name := "LOG2_ARRAY_CHAR_INDEX_SCALE", type := .int, accessFlags := 25, slot := 4, constantValue := 0 }, { name := "LOG2_ARRAY_SHORT_INDEX_SCALE", type := .int, accessFlags := 25, slot := 5, constantValue := 0 }, { name := "LOG2_ARRAY_INT_INDEX_SCALE", type := .int, accessFlags := 25, slot := 6, constantValue := 0 }, { name := "LOG2_ARRAY_LONG_INDEX_SCALE", type := .int, accessFlags := 25, slot := 7, constantValue := 0 }, { name := "LOG2_ARRAY_FLOAT_INDEX_SCALE", type := .int, accessFlags := 25, slot := 8, constantValue := 0 }, { name := "LOG2_ARRAY_DOUBLE_INDEX_SCALE", type := .int, accessFlags := 25, slot := 9, constantValue := 0 }, { name := "LOG2_BYTE_BIT_SIZE", type := .int, accessFlags := 26, slot := 10, constantValue := 0 }, { name := "T_BOOLEAN", type := .int, accessFlags := 25, slot := 11, constantValue := 0 }, { name := "T_CHAR", type := .int, accessFlags := 25, slot := 12, constantValue := 0 }, { name := "T_FLOAT", type := .int, accessFlags := 25, slot := 13, constantValue := 0 }, { name := "T_DOUBLE", type := .int, accessFlags := 25, slot := 14, constantValue := 0 }, { name := "T_BYTE", type := .int, accessFlags := 25, slot := 15, constantValue := 0 }, { name := "T_SHORT", type := .int, accessFlags := 25, slot := 16, constantValue := 0 }, { name := "T_INT", type := .int, accessFlags := 25, slot := 17, constantValue := 0 }, { name := "T_LONG", type := .int, accessFlags := 25, slot := 18, constantValue := 0 }, { name := "JLA", type := (.object "jdk/internal/access/JavaLangAccess"), accessFlags := 26, slot := 19, constantValue := 0 }, { name := "SOFT_MAX_ARRAY_LENGTH", type := .int, accessFlags := 25, slot := 20, constantValue := 0 }]
  methods := #[k13m0]
  instanceTypes := #[]
  staticTypes := #[(.object "jdk/internal/misc/Unsafe"), .boolean, .int, .int, .int, .int, .int, .int, .int, .int, .int, .int, .int, .int, .int, .int, .int, .int, .int, (.object "jdk/internal/access/JavaLangAccess"), .int]
  resolved := Array.replicate 378 none
  statics := none }

def pool14 : Array CpInfo := pool [(1, u "java/lang/Cloneable"), (0, .class_ 1), (0, u "java/lang/Object"), (0, .class_ 3)] 3

/-- java/lang/Cloneable -/
def k14 : Class := { plain "java/lang/Cloneable" (some 0) with
  accessFlags := 1537
  interfaces := #[]
  cf := some (fileOf pool14 2 #[] #[] 1537 4 #[] #[])
  fields := #[]
  methods := #[]
  instanceTypes := #[]
  staticTypes := #[]
  resolved := Array.replicate 8 none
  statics := none }

/-- the primitive byte -/
def k15 : Class := { plain "byte" none with kind := .primitive 'B', accessFlags := 0x411 }
/-- [B -/
def k16 : Class := { plain "[B" (some 0) with kind := .array 15 .byte, interfaces := #[14, 2], accessFlags := 1041 }

/-- the primitive char -/
def k17 : Class := { plain "char" none with kind := .primitive 'C', accessFlags := 0x411 }
/-- [C -/
def k18 : Class := { plain "[C" (some 0) with kind := .array 17 .char, interfaces := #[14, 2], accessFlags := 1041 }

/-- the primitive int -/
def k19 : Class := { plain "int" none with kind := .primitive 'I', accessFlags := 0x411 }
/-- [I -/
def k20 : Class := { plain "[I" (some 0) with kind := .array 19 .int, interfaces := #[14, 2], accessFlags := 1041 }

def heap : Heap := #[{ cls := 7, slots := #[.long 0, .int 1, .null, .int 0, .null, .int 0, .int 0], vm := .statics 7 },
  { cls := 11, slots := #[.int 0, .int 8, .int 0, .int 1], vm := .statics 11 },
  { cls := 12, slots := #[.null, .null, .null], vm := .statics 12 }]
def classes : Array Class := #[k0, k1, k2, k3, k4, k5, k6, k7, k8, k9, k10, k11, k12, k13, k14, k15, k16, k17, k18, k19, k20]
def interned : List (Array UInt16 × Addr) := []
def slotsUsed : Nat := 14
def theMethod : MethodId := ⟨1, 2⟩
def args0 : Array Value := #[.int 5, .int 2, .int 131, .int 70000, .int 9, .int 4]
def aboutOver (below : List Frame) : State where
  vm := { classes := classes, interned := interned.toArray }
  heap := heap
  slotsUsed := slotsUsed
  threads := #[{ frames := .invoking theMethod args0 :: below }]
def below0 : List Frame := [.native { method := ⟨0, 0⟩, args := #[] }]
def about1 : State := aboutOver below0
def p0 : Program := .bare "" "" ""
def e0 : Env := launch0.env 0 0 0
theorem w_frames : about1.frames = Frame.invoking theMethod args0 :: below0 := rfl
set_option maxRecDepth 65536 in
theorem w_args : argsFit about1.vm theMethod args0 = true := by decide +kernel
set_option maxRecDepth 65536 in
theorem w_heap : heapFits about1 = true := by decide +kernel
set_option maxRecDepth 65536 in
theorem w_runnable : about1.curStatus? = some .runnable := by decide +kernel
set_option maxRecDepth 65536 in
theorem w_alone : about1.alone = true := by decide +kernel
set_option maxRecDepth 65536 in
theorem w_named : about1.methodNamed? x = some theMethod := by decide +kernel
set_option maxRecDepth 65536 in
theorem w_hears : about1.hears theMethod below0 = true := by decide +kernel
set_option maxRecDepth 65536 in
theorem w_ripe : about1.ripe theMethod args0 below0 = true := by decide +kernel
theorem w_running : about1.status = .running := rfl
set_option maxRecDepth 65536 in
theorem w_room : about1.hasRoom e0.platform room_1 = true :=
  launch0.hasRoom_least _ room_1 (by decide +kernel) (by decide +kernel) (by decide +kernel) (by decide +kernel) (by decide +kernel) (by decide +kernel)
theorem allAtoms_all (ts : List Jvm.Cond) (a : Array Jvm.Value) (st : Jvm.State) : (allAtoms ts).before a st = ts.all (fun c => c.before a st) := by
  induction ts with
  | nil => rfl
  | cons c t ih =>
    show (Jvm.Cond.and c (allAtoms t)).before a st = _
    rw [Jvm.Cond.before_and, ih, List.all_cons]
def words1 : List Jvm.Cond := Jvm.Cond.code x code maxLocals ret :: tables_1
/-- a 'code' word, met by the world's own term for the bytes: nothing is compared byte by byte -/
theorem code_word {y : MethodName} {bytes : ByteArray} {mx : Nat} {rt : Option FieldType} {a : Array Value} {s : State} {m : MethodId} {meth : Method} {c : Code} (h1 : s.methodNamed? y = some m) (h2 : s.vm.method? m = some meth) (h3 : meth.code = some c) (h4 : c.code = bytes)
    (h5 : (c.maxLocals == mx && c.exceptionTable.isEmpty && decide (c.maxStack ≤ mostOperands) && decide (meth.sig.returnType = rt) && !meth.locks && decide (parseMethodDescriptor y.desc = some meth.sig)) = true) : (Jvm.Cond.code y bytes mx rt).before a s = true := by
  simp only [Bool.and_eq_true, beq_iff_eq, Bool.not_eq_true', decide_eq_true_eq] at h5
  obtain ⟨⟨⟨⟨⟨g1, g2⟩, g3⟩, g4⟩, g5⟩, g6⟩ := h5
  simp [Cond.before, Cond.holds, Cond.value, h1, h2, h3, h4, g1, g2, g3, g4, g5, g6]
def isCode : Jvm.Cond → Bool
  | .code _ _ _ _ => true
  | _ => false
theorem all_split {L : List Jvm.Cond} {P : Jvm.Cond → Bool} (h1 : L.all (fun c => isCode c || P c) = true) (h2 : ∀ c ∈ L.filter isCode, P c = true) : L.all P = true := by
  refine List.all_eq_true.mpr fun c hc => ?_
  have h := List.all_eq_true.mp h1 c hc
  rcases Bool.eq_false_or_eq_true (isCode c) with hi | hi
  · exact h2 c (List.mem_filter.mpr ⟨hc, hi⟩)
  · simpa [hi] using h
set_option maxRecDepth 65536 in
theorem w_c0 : (Jvm.Cond.code x code maxLocals ret).before args0 about1 = true := code_word (m := ⟨1, 2⟩) (meth := k1m2) (c := k1c2) (by decide +kernel) rfl rfl rfl (by decide +kernel)
set_option maxRecDepth 65536 in
theorem w_c1 : (Jvm.Cond.code ({ cls := "com/example/sakuin/sakuin/engine/WildcardIsInPinLaw", name := "ch", desc := "(I)C" } : Jvm.MethodName) method_2_code (1 : Nat) (Option.some Jvm.ClassFile.FieldType.char)).before args0 about1 = true := code_word (m := ⟨1, 1⟩) (meth := k1m1) (c := k1c1) (by decide +kernel) rfl rfl rfl (by decide +kernel)
set_option maxRecDepth 65536 in
theorem w_c2 : (Jvm.Cond.code ({ cls := "java/lang/String", name := "<init>", desc := "([C)V" } : Jvm.MethodName) jdk_42_method_3_code (2 : Nat) (Option.none : Option Jvm.ClassFile.FieldType)).before args0 about1 = true := code_word (m := ⟨7, 1⟩) (meth := k7m1) (c := k7c1) (by decide +kernel) rfl rfl rfl (by decide +kernel)
set_option maxRecDepth 65536 in
theorem w_c3 : (Jvm.Cond.code ({ cls := "java/lang/String", name := "<init>", desc := "([CIILjava/lang/Void;)V" } : Jvm.MethodName) jdk_42_method_149_code (6 : Nat) (Option.none : Option Jvm.ClassFile.FieldType)).before args0 about1 = true := code_word (m := ⟨7, 5⟩) (meth := k7m5) (c := k7c5) (by decide +kernel) rfl rfl rfl (by decide +kernel)
set_option maxRecDepth 65536 in
theorem w_c4 : (Jvm.Cond.code ({ cls := "java/lang/Object", name := "<init>", desc := "()V" } : Jvm.MethodName) object_method_1_code (1 : Nat) (Option.none : Option Jvm.ClassFile.FieldType)).before args0 about1 = true := code_word (m := ⟨0, 0⟩) (meth := k0m0) (c := k0c0) (by decide +kernel) rfl rfl rfl (by decide +kernel)
set_option maxRecDepth 65536 in
theorem w_c5 : (Jvm.Cond.code ({ cls := "com/example/sakuin/sakuin/engine/Wildcard", name := "isIn", desc := "(Ljava/lang/String;)Z" } : Jvm.MethodName) prog_22_method_2_code (1 : Nat) (Option.some Jvm.ClassFile.FieldType.boolean)).before args0 about1 = true := code_word (m := ⟨8, 1⟩) (meth := k8m1) (c := k8c1) (by decide +kernel) rfl rfl rfl (by decide +kernel)
set_option maxRecDepth 65536 in
theorem w_c6 : (Jvm.Cond.code ({ cls := "java/lang/String", name := "indexOf", desc := "(I)I" } : Jvm.MethodName) jdk_42_method_79_code (2 : Nat) (Option.some Jvm.ClassFile.FieldType.int)).before args0 about1 = true := code_word (m := ⟨7, 3⟩) (meth := k7m3) (c := k7c3) (by decide +kernel) rfl rfl rfl (by decide +kernel)
set_option maxRecDepth 65536 in
theorem w_c7 : (Jvm.Cond.code ({ cls := "java/lang/String", name := "indexOf", desc := "(II)I" } : Jvm.MethodName) jdk_42_method_80_code (3 : Nat) (Option.some Jvm.ClassFile.FieldType.int)).before args0 about1 = true := code_word (m := ⟨7, 4⟩) (meth := k7m4) (c := k7c4) (by decide +kernel) rfl rfl rfl (by decide +kernel)
set_option maxRecDepth 65536 in
theorem w_c8 : (Jvm.Cond.code ({ cls := "java/lang/String", name := "isLatin1", desc := "()Z" } : Jvm.MethodName) jdk_42_method_154_code (1 : Nat) (Option.some Jvm.ClassFile.FieldType.boolean)).before args0 about1 = true := code_word (m := ⟨7, 7⟩) (meth := k7m7) (c := k7c7) (by decide +kernel) rfl rfl rfl (by decide +kernel)
set_option maxRecDepth 65536 in
theorem w_c9 : (Jvm.Cond.code ({ cls := "java/lang/String", name := "length", desc := "()I" } : Jvm.MethodName) jdk_42_method_54_code (1 : Nat) (Option.some Jvm.ClassFile.FieldType.int)).before args0 about1 = true := code_word (m := ⟨7, 2⟩) (meth := k7m2) (c := k7c2) (by decide +kernel) rfl rfl rfl (by decide +kernel)
set_option maxRecDepth 65536 in
theorem w_c10 : (Jvm.Cond.code ({ cls := "java/lang/String", name := "coder", desc := "()B" } : Jvm.MethodName) jdk_42_method_152_code (1 : Nat) (Option.some Jvm.ClassFile.FieldType.byte)).before args0 about1 = true := code_word (m := ⟨7, 6⟩) (meth := k7m6) (c := k7c6) (by decide +kernel) rfl rfl rfl (by decide +kernel)
set_option maxRecDepth 65536 in
theorem w_c11 : (Jvm.Cond.code ({ cls := "java/lang/StringLatin1", name := "indexOf", desc := "([BIII)I" } : Jvm.MethodName) jdk_43_method_22_code (4 : Nat) (Option.some Jvm.ClassFile.FieldType.int)).before args0 about1 = true := code_word (m := ⟨9, 2⟩) (meth := k9m2) (c := k9c2) (by decide +kernel) rfl rfl rfl (by decide +kernel)
set_option maxRecDepth 65536 in
theorem w_c12 : (Jvm.Cond.code ({ cls := "java/lang/StringLatin1", name := "canEncode", desc := "(I)Z" } : Jvm.MethodName) jdk_43_method_4_code (1 : Nat) (Option.some Jvm.ClassFile.FieldType.boolean)).before args0 about1 = true := code_word (m := ⟨9, 1⟩) (meth := k9m1) (c := k9c1) (by decide +kernel) rfl rfl rfl (by decide +kernel)
set_option maxRecDepth 65536 in
theorem w_c13 : (Jvm.Cond.code ({ cls := "java/lang/Math", name := "max", desc := "(II)I" } : Jvm.MethodName) jdk_29_method_65_code (2 : Nat) (Option.some Jvm.ClassFile.FieldType.int)).before args0 about1 = true := code_word (m := ⟨10, 1⟩) (meth := k10m1) (c := k10c1) (by decide +kernel) rfl rfl rfl (by decide +kernel)
set_option maxRecDepth 65536 in
theorem w_c14 : (Jvm.Cond.code ({ cls := "java/lang/Math", name := "min", desc := "(II)I" } : Jvm.MethodName) jdk_29_method_69_code (2 : Nat) (Option.some Jvm.ClassFile.FieldType.int)).before args0 about1 = true := code_word (m := ⟨10, 2⟩) (meth := k10m2) (c := k10c2) (by decide +kernel) rfl rfl rfl (by decide +kernel)
set_option maxRecDepth 65536 in
theorem w_c15 : (Jvm.Cond.code ({ cls := "java/lang/StringUTF16", name := "compress", desc := "([CII)[B" } : Jvm.MethodName) jdk_52_method_16_code (6 : Nat) (Option.some (Jvm.ClassFile.FieldType.array Jvm.ClassFile.FieldType.byte))).before args0 about1 = true := code_word (m := ⟨11, 8⟩) (meth := k11m8) (c := k11c8) (by decide +kernel) rfl rfl rfl (by decide +kernel)
set_option maxRecDepth 65536 in
theorem w_c16 : (Jvm.Cond.code ({ cls := "java/lang/StringUTF16", name := "compress", desc := "([CI[BII)I" } : Jvm.MethodName) jdk_52_method_21_code (7 : Nat) (Option.some Jvm.ClassFile.FieldType.int)).before args0 about1 = true := code_word (m := ⟨11, 9⟩) (meth := k11m9) (c := k11c9) (by decide +kernel) rfl rfl rfl (by decide +kernel)
set_option maxRecDepth 65536 in
theorem w_c17 : (Jvm.Cond.code ({ cls := "java/lang/StringUTF16", name := "coderFromArrayLen", desc := "([BI)B" } : Jvm.MethodName) jdk_52_method_15_code (2 : Nat) (Option.some Jvm.ClassFile.FieldType.byte)).before args0 about1 = true := code_word (m := ⟨11, 7⟩) (meth := k11m7) (c := k11c7) (by decide +kernel) rfl rfl rfl (by decide +kernel)
set_option maxRecDepth 65536 in
theorem w_c18 : (Jvm.Cond.code ({ cls := "java/lang/StringLatin1", name := "indexOfChar", desc := "([BIII)I" } : Jvm.MethodName) jdk_43_method_23_code (6 : Nat) (Option.some Jvm.ClassFile.FieldType.int)).before args0 about1 = true := code_word (m := ⟨9, 3⟩) (meth := k9m3) (c := k9c3) (by decide +kernel) rfl rfl rfl (by decide +kernel)
set_option maxRecDepth 65536 in
theorem w_c19 : (Jvm.Cond.code ({ cls := "java/lang/StringUTF16", name := "toBytes", desc := "([CII)[B" } : Jvm.MethodName) jdk_52_method_14_code (5 : Nat) (Option.some (Jvm.ClassFile.FieldType.array Jvm.ClassFile.FieldType.byte))).before args0 about1 = true := code_word (m := ⟨11, 6⟩) (meth := k11m6) (c := k11c6) (by decide +kernel) rfl rfl rfl (by decide +kernel)
set_option maxRecDepth 65536 in
theorem w_c20 : (Jvm.Cond.code ({ cls := "java/lang/StringUTF16", name := "newBytesFor", desc := "(I)[B" } : Jvm.MethodName) jdk_52_method_2_code (1 : Nat) (Option.some (Jvm.ClassFile.FieldType.array Jvm.ClassFile.FieldType.byte))).before args0 about1 = true := code_word (m := ⟨11, 1⟩) (meth := k11m1) (c := k11c1) (by decide +kernel) rfl rfl rfl (by decide +kernel)
set_option maxRecDepth 65536 in
theorem w_c21 : (Jvm.Cond.code ({ cls := "java/lang/StringUTF16", name := "newBytesLength", desc := "(I)I" } : Jvm.MethodName) jdk_52_method_3_code (1 : Nat) (Option.some Jvm.ClassFile.FieldType.int)).before args0 about1 = true := code_word (m := ⟨11, 2⟩) (meth := k11m2) (c := k11c2) (by decide +kernel) rfl rfl rfl (by decide +kernel)
set_option maxRecDepth 65536 in
theorem w_c22 : (Jvm.Cond.code ({ cls := "java/lang/StringUTF16", name := "putChar", desc := "([BII)V" } : Jvm.MethodName) jdk_52_method_4_code (3 : Nat) (Option.none : Option Jvm.ClassFile.FieldType)).before args0 about1 = true := code_word (m := ⟨11, 3⟩) (meth := k11m3) (c := k11c3) (by decide +kernel) rfl rfl rfl (by decide +kernel)
set_option maxRecDepth 65536 in
theorem w_c23 : (Jvm.Cond.code ({ cls := "java/lang/StringUTF16", name := "getChar", desc := "([BI)C" } : Jvm.MethodName) jdk_52_method_5_code (2 : Nat) (Option.some Jvm.ClassFile.FieldType.char)).before args0 about1 = true := code_word (m := ⟨11, 4⟩) (meth := k11m4) (c := k11c4) (by decide +kernel) rfl rfl rfl (by decide +kernel)
set_option maxRecDepth 65536 in
theorem w_c24 : (Jvm.Cond.code ({ cls := "java/lang/StringUTF16", name := "indexOf", desc := "([BIII)I" } : Jvm.MethodName) jdk_52_method_40_code (4 : Nat) (Option.some Jvm.ClassFile.FieldType.int)).before args0 about1 = true := code_word (m := ⟨11, 10⟩) (meth := k11m10) (c := k11c10) (by decide +kernel) rfl rfl rfl (by decide +kernel)
set_option maxRecDepth 65536 in
theorem w_c25 : (Jvm.Cond.code ({ cls := "java/lang/StringUTF16", name := "indexOfChar", desc := "([BIII)I" } : Jvm.MethodName) jdk_52_method_47_code (4 : Nat) (Option.some Jvm.ClassFile.FieldType.int)).before args0 about1 = true := code_word (m := ⟨11, 11⟩) (meth := k11m11) (c := k11c11) (by decide +kernel) rfl rfl rfl (by decide +kernel)
set_option maxRecDepth 65536 in
theorem w_c26 : (Jvm.Cond.code ({ cls := "java/lang/StringUTF16", name := "checkBoundsBeginEnd", desc := "(II[B)V" } : Jvm.MethodName) jdk_52_method_93_code (3 : Nat) (Option.none : Option Jvm.ClassFile.FieldType)).before args0 about1 = true := code_word (m := ⟨11, 13⟩) (meth := k11m13) (c := k11c13) (by decide +kernel) rfl rfl rfl (by decide +kernel)
set_option maxRecDepth 65536 in
theorem w_c27 : (Jvm.Cond.code ({ cls := "java/lang/StringUTF16", name := "length", desc := "([B)I" } : Jvm.MethodName) jdk_52_method_6_code (1 : Nat) (Option.some Jvm.ClassFile.FieldType.int)).before args0 about1 = true := code_word (m := ⟨11, 5⟩) (meth := k11m5) (c := k11c5) (by decide +kernel) rfl rfl rfl (by decide +kernel)
set_option maxRecDepth 65536 in
theorem w_c28 : (Jvm.Cond.code ({ cls := "java/lang/String", name := "checkBoundsBeginEnd", desc := "(III)V" } : Jvm.MethodName) jdk_42_method_158_code (3 : Nat) (Option.none : Option Jvm.ClassFile.FieldType)).before args0 about1 = true := code_word (m := ⟨7, 8⟩) (meth := k7m8) (c := k7c8) (by decide +kernel) rfl rfl rfl (by decide +kernel)
set_option maxRecDepth 65536 in
theorem w_c29 : (Jvm.Cond.code ({ cls := "jdk/internal/util/Preconditions", name := "checkFromToIndex", desc := "(IIILjava/util/function/BiFunction;)I" } : Jvm.MethodName) jdk_41_method_12_code (4 : Nat) (Option.some Jvm.ClassFile.FieldType.int)).before args0 about1 = true := code_word (m := ⟨12, 1⟩) (meth := k12m1) (c := k12c1) (by decide +kernel) rfl rfl rfl (by decide +kernel)
set_option maxRecDepth 65536 in
theorem w_c30 : (Jvm.Cond.code ({ cls := "java/lang/StringUTF16", name := "indexOfCharUnsafe", desc := "([BIII)I" } : Jvm.MethodName) jdk_52_method_48_code (5 : Nat) (Option.some Jvm.ClassFile.FieldType.int)).before args0 about1 = true := code_word (m := ⟨11, 12⟩) (meth := k11m12) (c := k11c12) (by decide +kernel) rfl rfl rfl (by decide +kernel)
def codes1 : List Jvm.Cond := [Jvm.Cond.code x code maxLocals ret, Jvm.Cond.code ({ cls := "com/example/sakuin/sakuin/engine/WildcardIsInPinLaw", name := "ch", desc := "(I)C" } : Jvm.MethodName) method_2_code (1 : Nat) (Option.some Jvm.ClassFile.FieldType.char), Jvm.Cond.code ({ cls := "java/lang/String", name := "<init>", desc := "([C)V" } : Jvm.MethodName) jdk_42_method_3_code (2 : Nat) (Option.none : Option Jvm.ClassFile.FieldType), Jvm.Cond.code ({ cls := "java/lang/String", name := "<init>", desc := "([CIILjava/lang/Void;)V" } : Jvm.MethodName) jdk_42_method_149_code (6 : Nat) (Option.none : Option Jvm.ClassFile.FieldType), Jvm.Cond.code ({ cls := "java/lang/Object", name := "<init>", desc := "()V" } : Jvm.MethodName) object_method_1_code (1 : Nat) (Option.none : Option Jvm.ClassFile.FieldType), Jvm.Cond.code ({ cls := "com/example/sakuin/sakuin/engine/Wildcard", name := "isIn", desc := "(Ljava/lang/String;)Z" } : Jvm.MethodName) prog_22_method_2_code (1 : Nat) (Option.some Jvm.ClassFile.FieldType.boolean), Jvm.Cond.code ({ cls := "java/lang/String", name := "indexOf", desc := "(I)I" } : Jvm.MethodName) jdk_42_method_79_code (2 : Nat) (Option.some Jvm.ClassFile.FieldType.int), Jvm.Cond.code ({ cls := "java/lang/String", name := "indexOf", desc := "(II)I" } : Jvm.MethodName) jdk_42_method_80_code (3 : Nat) (Option.some Jvm.ClassFile.FieldType.int), Jvm.Cond.code ({ cls := "java/lang/String", name := "isLatin1", desc := "()Z" } : Jvm.MethodName) jdk_42_method_154_code (1 : Nat) (Option.some Jvm.ClassFile.FieldType.boolean), Jvm.Cond.code ({ cls := "java/lang/String", name := "length", desc := "()I" } : Jvm.MethodName) jdk_42_method_54_code (1 : Nat) (Option.some Jvm.ClassFile.FieldType.int), Jvm.Cond.code ({ cls := "java/lang/String", name := "coder", desc := "()B" } : Jvm.MethodName) jdk_42_method_152_code (1 : Nat) (Option.some Jvm.ClassFile.FieldType.byte), Jvm.Cond.code ({ cls := "java/lang/StringLatin1", name := "indexOf", desc := "([BIII)I" } : Jvm.MethodName) jdk_43_method_22_code (4 : Nat) (Option.some Jvm.ClassFile.FieldType.int), Jvm.Cond.code ({ cls := "java/lang/StringLatin1", name := "canEncode", desc := "(I)Z" } : Jvm.MethodName) jdk_43_method_4_code (1 : Nat) (Option.some Jvm.ClassFile.FieldType.boolean), Jvm.Cond.code ({ cls := "java/lang/Math", name := "max", desc := "(II)I" } : Jvm.MethodName) jdk_29_method_65_code (2 : Nat) (Option.some Jvm.ClassFile.FieldType.int), Jvm.Cond.code ({ cls := "java/lang/Math", name := "min", desc := "(II)I" } : Jvm.MethodName) jdk_29_method_69_code (2 : Nat) (Option.some Jvm.ClassFile.FieldType.int), Jvm.Cond.code ({ cls := "java/lang/StringUTF16", name := "compress", desc := "([CII)[B" } : Jvm.MethodName) jdk_52_method_16_code (6 : Nat) (Option.some (Jvm.ClassFile.FieldType.array Jvm.ClassFile.FieldType.byte)), Jvm.Cond.code ({ cls := "java/lang/StringUTF16", name := "compress", desc := "([CI[BII)I" } : Jvm.MethodName) jdk_52_method_21_code (7 : Nat) (Option.some Jvm.ClassFile.FieldType.int), Jvm.Cond.code ({ cls := "java/lang/StringUTF16", name := "coderFromArrayLen", desc := "([BI)B" } : Jvm.MethodName) jdk_52_method_15_code (2 : Nat) (Option.some Jvm.ClassFile.FieldType.byte), Jvm.Cond.code ({ cls := "java/lang/StringLatin1", name := "indexOfChar", desc := "([BIII)I" } : Jvm.MethodName) jdk_43_method_23_code (6 : Nat) (Option.some Jvm.ClassFile.FieldType.int), Jvm.Cond.code ({ cls := "java/lang/StringUTF16", name := "toBytes", desc := "([CII)[B" } : Jvm.MethodName) jdk_52_method_14_code (5 : Nat) (Option.some (Jvm.ClassFile.FieldType.array Jvm.ClassFile.FieldType.byte)), Jvm.Cond.code ({ cls := "java/lang/StringUTF16", name := "newBytesFor", desc := "(I)[B" } : Jvm.MethodName) jdk_52_method_2_code (1 : Nat) (Option.some (Jvm.ClassFile.FieldType.array Jvm.ClassFile.FieldType.byte)), Jvm.Cond.code ({ cls := "java/lang/StringUTF16", name := "newBytesLength", desc := "(I)I" } : Jvm.MethodName) jdk_52_method_3_code (1 : Nat) (Option.some Jvm.ClassFile.FieldType.int), Jvm.Cond.code ({ cls := "java/lang/StringUTF16", name := "putChar", desc := "([BII)V" } : Jvm.MethodName) jdk_52_method_4_code (3 : Nat) (Option.none : Option Jvm.ClassFile.FieldType), Jvm.Cond.code ({ cls := "java/lang/StringUTF16", name := "getChar", desc := "([BI)C" } : Jvm.MethodName) jdk_52_method_5_code (2 : Nat) (Option.some Jvm.ClassFile.FieldType.char), Jvm.Cond.code ({ cls := "java/lang/StringUTF16", name := "indexOf", desc := "([BIII)I" } : Jvm.MethodName) jdk_52_method_40_code (4 : Nat) (Option.some Jvm.ClassFile.FieldType.int), Jvm.Cond.code ({ cls := "java/lang/StringUTF16", name := "indexOfChar", desc := "([BIII)I" } : Jvm.MethodName) jdk_52_method_47_code (4 : Nat) (Option.some Jvm.ClassFile.FieldType.int), Jvm.Cond.code ({ cls := "java/lang/StringUTF16", name := "checkBoundsBeginEnd", desc := "(II[B)V" } : Jvm.MethodName) jdk_52_method_93_code (3 : Nat) (Option.none : Option Jvm.ClassFile.FieldType), Jvm.Cond.code ({ cls := "java/lang/StringUTF16", name := "length", desc := "([B)I" } : Jvm.MethodName) jdk_52_method_6_code (1 : Nat) (Option.some Jvm.ClassFile.FieldType.int), Jvm.Cond.code ({ cls := "java/lang/String", name := "checkBoundsBeginEnd", desc := "(III)V" } : Jvm.MethodName) jdk_42_method_158_code (3 : Nat) (Option.none : Option Jvm.ClassFile.FieldType), Jvm.Cond.code ({ cls := "jdk/internal/util/Preconditions", name := "checkFromToIndex", desc := "(IIILjava/util/function/BiFunction;)I" } : Jvm.MethodName) jdk_41_method_12_code (4 : Nat) (Option.some Jvm.ClassFile.FieldType.int), Jvm.Cond.code ({ cls := "java/lang/StringUTF16", name := "indexOfCharUnsafe", desc := "([BIII)I" } : Jvm.MethodName) jdk_52_method_48_code (5 : Nat) (Option.some Jvm.ClassFile.FieldType.int)]
set_option maxRecDepth 65536 in
theorem codes_eq : words1.filter isCode = codes1 := rfl
theorem w_codes : ∀ c ∈ words1.filter isCode, c.before args0 about1 = true := by
  rw [codes_eq]
  intro c hc
  simp only [codes1, List.mem_cons, List.not_mem_nil, or_false] at hc
  rcases hc with rfl | rfl | rfl | rfl | rfl | rfl | rfl | rfl | rfl | rfl | rfl | rfl | rfl | rfl | rfl | rfl | rfl | rfl | rfl | rfl | rfl | rfl | rfl | rfl | rfl | rfl | rfl | rfl | rfl | rfl | rfl
  · exact w_c0
  · exact w_c1
  · exact w_c2
  · exact w_c3
  · exact w_c4
  · exact w_c5
  · exact w_c6
  · exact w_c7
  · exact w_c8
  · exact w_c9
  · exact w_c10
  · exact w_c11
  · exact w_c12
  · exact w_c13
  · exact w_c14
  · exact w_c15
  · exact w_c16
  · exact w_c17
  · exact w_c18
  · exact w_c19
  · exact w_c20
  · exact w_c21
  · exact w_c22
  · exact w_c23
  · exact w_c24
  · exact w_c25
  · exact w_c26
  · exact w_c27
  · exact w_c28
  · exact w_c29
  · exact w_c30
set_option maxRecDepth 65536 in
theorem w_t1 : (words1.take 24).all (fun c => isCode c || c.before args0 about1) = true := by decide +kernel
set_option maxRecDepth 65536 in
theorem w_t2 : ((words1.drop 24).take 24).all (fun c => isCode c || c.before args0 about1) = true := by decide +kernel
set_option maxRecDepth 65536 in
theorem w_t3 : (((words1.drop 24).drop 24).take 24).all (fun c => isCode c || c.before args0 about1) = true := by decide +kernel
set_option maxRecDepth 65536 in
theorem w_t4 : ((((words1.drop 24).drop 24).drop 24).take 24).all (fun c => isCode c || c.before args0 about1) = true := by decide +kernel
set_option maxRecDepth 65536 in
theorem w_t5 : (((((words1.drop 24).drop 24).drop 24).drop 24).take 24).all (fun c => isCode c || c.before args0 about1) = true := by decide +kernel
set_option maxRecDepth 65536 in
theorem w_t6 : (((((words1.drop 24).drop 24).drop 24).drop 24).drop 24).all (fun c => isCode c || c.before args0 about1) = true := by decide +kernel
theorem w_tables : (allAtoms (Jvm.Cond.code x code maxLocals ret :: tables_1)).before args0 about1 = true := by
  rw [allAtoms_all]
  show words1.all (fun c => c.before args0 about1) = true
  refine all_split ?_ w_codes
  rw [← List.take_append_drop 24 words1, List.all_append, w_t1, ← List.take_append_drop 24 (words1.drop 24), List.all_append, w_t2, ← List.take_append_drop 24 ((words1.drop 24).drop 24), List.all_append, w_t3, ← List.take_append_drop 24 (((words1.drop 24).drop 24).drop 24), List.all_append, w_t4, ← List.take_append_drop 24 ((((words1.drop 24).drop 24).drop 24).drop 24), List.all_append, w_t5, w_t6]
  rfl
set_option maxRecDepth 65536 in
theorem w_rest : rest_1_c.before args0 about1 = true := by decide +kernel
set_option maxRecDepth 65536 in
theorem w_case : (Jvm.Cond.and given_1 narrow_1).before args0 about1 = true := by decide +kernel
set_option maxRecDepth 65536 in
theorem w_consts : constsHeld consts_1 about1 := Jvm.Lit.constsHeldB_iff.mp (by decide +kernel)
theorem w_applies : (headSpec (Jvm.Cond.code x code maxLocals ret :: tables_1) room_1).applies x e0.platform about1 = true :=
  (Spec.applies_iff w_frames).mpr ⟨w_running, w_runnable, w_alone, w_named, w_hears, w_ripe, w_room, w_tables⟩
theorem atStart : AtStart classFile x code maxLocals ret World_1 tables_1 room_1 Calls_1 rest_1 Pre_1 launch0 p0 e0 about1 theMethod args0 below0 :=
  ⟨lists_1, trivial, launch0.admits_env _ _ _, launch0.least_env, fairChoices_fair.cas, fairChoices_fair.clock, w_frames, w_args, w_heap, w_applies, ⟨w_consts, trivial⟩, w_rest, w_case⟩
end start1
theorem witness_1 : WitnessClaimed_1 := ⟨start1.p0, start1.e0, start1.about1, start1.theMethod, start1.args0, start1.below0, start1.atStart⟩
end Jvm.Pilot.@@N@@
