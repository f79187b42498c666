import JvmDerived
import JvmDerived.Pilot.@@N@@Statement
import JvmDerived.Pilot.@@N@@Code
set_option linter.unusedVariables false
set_option linter.unusedSimpArgs false
namespace Jvm.RoadKit
open Sem ClassFile Op Lib Jvm.Stand Jvm.Free Jvm.LawKit
section New
variable {p : Program} {l : Launch} {e : Env} {R : Room} {s : State} {m : MethodId} {args : Array Value} {below : List Frame} {meth : Method} {c : Code} {T : State} {locs : List Loc} {cells slots : Nat}
theorem retI (X : Stand p l e R s m args below meth c T locs cells slots) (hx : p.tables.exec = Jvm.exec) {pc : Nat} {Ls : Array Slot} {z : Int32} {rest : List Value} (hret : meth.sig.returnType = some .int) (hd : decode c.code pc = .ok (.ireturn, 1)) {fs : List Frame}
    (hl : ∀ (f : JFrame) (acts : List Action), f.method = m → f.locked = none → f.entered = [] → (doReturn e (T.setTop f) acts (some (.int z))).1 = T.setFrames fs) : Steps p.tables e below (T.setTop (mkF m pc Ls (.int z :: rest))) (T.setFrames fs) := by
  have hm' : T.vm.method? m = some meth := X.method'
  have hn : narrow .int (.int z) = .int z := rfl
  show Steps p.tables e below (T.setTop { method := m, pc := pc, locals := Ls, stack := _ :: rest, locked := none }) _
  jvm_step X.here [X.here.top, hx, hd, hm', hret, hn]
  first | (intro acts; rw [hl _ acts rfl rfl rfl]) | rw [hl _ _ rfl rfl rfl]
  exact Steps.refl _
end New
end Jvm.RoadKit
/- laws to paste: Road.backV, chr8_lo8 (cut by pick.py; bodies as the Statement names them) -/
namespace Jvm.Pilot.@@N@@
namespace StrChars
open Jvm Sem ClassFile Op Lib Jvm.Stand Jvm.Free.XT Jvm.Free.ALB Jvm.Free.JM Jvm.Free
open Jvm.Lib.Cold (StaticIs)
/-- a char array whose places are chars -/
def Ch (a : Addr) (A : Cell) (U : State) : Prop := Arr .char a A U ∧ Typed .char A
theorem Ch.mv {a : Addr} {A : Cell} {U U' : State} (h : Ch a A U) (hal : U.vm.Alike U'.vm) (hh : U'.heap = U.heap) : Ch a A U' := ⟨h.1.mv hal hh, h.2⟩
theorem Ch.keep {a : Addr} {A : Cell} {U U' : State} (h : Ch a A U) (hal : U.vm.Alike U'.vm) (hk : U'.heap[a]? = some A) : Ch a A U' := ⟨h.1.keep hal hk, h.2⟩
/-- what place i of a char[]'s cell holds -/
def cv (A : Cell) (i : Nat) : Int32 := match A.slots[i]? with | some (.int x) => x | _ => 0
theorem Ch.get {a : Addr} {A : Cell} {U : State} (h : Ch a A U) {i : Nat} (hi : i < A.slots.size) : A.slots[i]? = some (.int (cv A i)) := by
  have e := Array.getElem?_eq_getElem hi
  have f := h.2 i _ e
  unfold cv; rw [e]
  generalize A.slots[i] = v at f
  cases v <;> simp [fits] at f ⊢
/-- the byte that i2b leaves of a char -/
def lo8 (x : Int32) : Int32 := x.toInt8.toInt32
theorem fits_lo8 (y : Int32) : fits .byte (.int (lo8 y)) = true := by
  have h1 := y.toInt8.le_toInt
  have h2 := y.toInt8.toInt_lt
  simp only [lo8, fits, Bool.and_eq_true, decide_eq_true_eq, Int32.le_iff_toInt_le, Int8.toInt_toInt32, show (-128 : Int32).toInt = -128 from by decide, show (127 : Int32).toInt = 127 from by decide]
  omega
/-- A' is A but that each place j of lo .. hi - 1 holds f j -/
def Laid (A A' : Cell) (lo hi : Nat) (f : Nat → Value) : Prop := A'.cls = A.cls ∧ A'.vm = A.vm ∧ A'.slots.size = A.slots.size ∧ ∀ i, A'.slots[i]? = if lo ≤ i ∧ i < hi then some (f i) else A.slots[i]?
theorem Laid.zero (A : Cell) (lo : Nat) (f : Nat → Value) : Laid A A lo (lo + 0) f := ⟨rfl, rfl, rfl, fun i => by rw [if_neg (by omega)]⟩
theorem Laid.step {A Ak : Cell} {lo k : Nat} {f : Nat → Value} {v : Value} (h : Laid A Ak lo k f) (hlo : lo ≤ k) (hk : k < Ak.slots.size) (hv : v = f k) : Laid A (Ak.setSlot k v) lo (k + 1) f := by
  refine ⟨h.1, h.2.1, by simpa [Cell.setSlot] using h.2.2.1, fun i => ?_⟩
  by_cases e : k = i
  · subst e; rw [Cell.slots_setSlot_self v hk, if_pos (by omega), hv]
  · rw [Cell.slots_setSlot_ne v e, h.2.2.2 i]
    by_cases q : lo ≤ i ∧ i < k
    · rw [if_pos q, if_pos (by omega)]
    · rw [if_neg q, if_neg (by omega)]
def U16 : String := "java/lang/StringUTF16"
namespace Cmp5
def yN : MethodName := ⟨"java/lang/StringUTF16", "compress", "([CI[BII)I"⟩
abbrev yB : ByteArray := jdk_52_method_21_code
theorem d0 : decode yB 0 = .ok (.iconst 0, 1) := by decide +kernel
theorem d1 : decode yB 1 = .ok (.istore 5, 2) := by decide +kernel
theorem d3 : decode yB 3 = .ok (.iload 5, 2) := by decide +kernel
theorem d5 : decode yB 5 = .ok (.iload 4, 2) := by decide +kernel
theorem d7 : decode yB 7 = .ok (.if_icmp (.ge) 37, 3) := by decide +kernel
theorem d10 : decode yB 10 = .ok (.aload_n 0, 1) := by decide +kernel
theorem d11 : decode yB 11 = .ok (.iload_n 1, 1) := by decide +kernel
theorem d12 : decode yB 12 = .ok (.caload, 1) := by decide +kernel
theorem d13 : decode yB 13 = .ok (.istore 6, 2) := by decide +kernel
theorem d15 : decode yB 15 = .ok (.iload 6, 2) := by decide +kernel
theorem d17 : decode yB 17 = .ok (.sipush 255, 3) := by decide +kernel
theorem d20 : decode yB 20 = .ok (.if_icmp (.le) 6, 3) := by decide +kernel
theorem d26 : decode yB 26 = .ok (.aload_n 2, 1) := by decide +kernel
theorem d27 : decode yB 27 = .ok (.iload_n 3, 1) := by decide +kernel
theorem d28 : decode yB 28 = .ok (.iload 6, 2) := by decide +kernel
theorem d30 : decode yB 30 = .ok (.i2b, 1) := by decide +kernel
theorem d31 : decode yB 31 = .ok (.bastore, 1) := by decide +kernel
theorem d32 : decode yB 32 = .ok (.iinc 1 1, 3) := by decide +kernel
theorem d35 : decode yB 35 = .ok (.iinc 3 1, 3) := by decide +kernel
theorem d38 : decode yB 38 = .ok (.iinc 5 1, 3) := by decide +kernel
theorem d41 : decode yB 41 = .ok (.goto (-38), 3) := by decide +kernel
theorem d44 : decode yB 44 = .ok (.iload 4, 2) := by decide +kernel
theorem d46 : decode yB 46 = .ok (.ireturn, 1) := by decide +kernel
def site : List Cond := []
def tab : Cond := tabOf yN yB 7 (some .int) site
def P (b : Addr) (A : Cell) (d : Addr) (B : Cell) (o q len : Nat) (args : Array Value) (s : State) : Prop := args = #[.ref b, .int (Int32.ofNat o), .ref d, .int (Int32.ofNat q), .int (Int32.ofNat len)] ∧ Ch b A s ∧ Arr .byte d B s ∧ b ≠ d ∧ o + len ≤ A.slots.size ∧ q + len ≤ B.slots.size ∧ ∀ i, i < len → ¬ 255 < cv A (o + i)
def E (b : Addr) (A : Cell) (d : Addr) (B : Cell) (o q len : Nat) (r : Option Value) (s u : State) : Prop := r = some (.int (Int32.ofNat len)) ∧ ∃ B', Put d B' s u ∧ Laid B B' q (q + len) (fun j => Value.int (lo8 (cv A (o + (j - q)))))
/-- no char of the range above 255: len; the places written hold each char's low byte -/
theorem law (l : Launch) (b : Addr) (A : Cell) (d : Addr) (B : Cell) (o q len : Nat) : Law l yN 5 5 0 0 yB 7 (some .int) site (P b A d B o q len) (E b A d B o q len) (copyLocs d q len) 0 0 := by
  refine Law.of_walk (plainFor_of_name (by decide +kernel)) (by decide +kernel) (by decide +kernel) (by decide) (fun _ _ h => by rw [h.1]; rfl) (fun _ U U' hal hh h => ⟨h.1, h.2.1.mv hal hh, h.2.2.1.mv hal hh, h.2.2.2⟩) (fun r U U' V V' h1 hal h2 h => ⟨h.1, h.2.elim fun B' q => ⟨B', q.1.mv h1 h2, q.2⟩⟩) ?_
  intro p e s m args below meth c s₁ X0 hexec hbytes hml hret hlk hnm hown hh0 W hP
  obtain ⟨rfl, hA, hB, hne, l1, l2, hp⟩ := hP
  have c1 : Steps p.tables e below (s₁.setTop (entryFrame m #[.ref b, .int (Int32.ofNat o), .ref d, .int (Int32.ofNat q), .int (Int32.ofNat len)] 7)) (s₁.setTop (mkF m 0 #[.val (.ref b), .val (.int (Int32.ofNat o)), .val (.ref d), .val (.int (Int32.ofNat q)), .val (.int (Int32.ofNat len)), .unset, .unset] [])) := entry rfl
  have hA0 := hA.1.mv X0.warmed.alike hh0
  have hB0 := hB.mv X0.warmed.alike hh0
  have a31 := hA.1.2.2.2
  have c2 : Steps p.tables e below (s₁.setTop (entryFrame m #[.ref b, .int (Int32.ofNat o), .ref d, .int (Int32.ofNat q), .int (Int32.ofNat len)] 7)) (s₁.setTop (mkF m 3 #[.val (.ref b), .val (.int (Int32.ofNat o)), .val (.ref d), .val (.int (Int32.ofNat q)), .val (.int (Int32.ofNat len)), .val (.int 0), .unset] [])) := c1.trans (by
    refine iconstV X0.here hexec rfl 0 (hb hbytes d0) (by decide) ?_
    refine XS.istore X0.here hexec rfl (hb hbytes d1) rfl rfl ?_
    exact Steps.refl _)
  have loop : ∀ (r i : Nat), i + r = len → ∀ (z : Slot), (z = .unset ∨ ∃ w, z = .val w ∧ w.category = 1) → ∀ (Tl : State) (Bk : Cell), Stand p l e { frames := 0, locals := 0, cells := 0, slots := 0 } s m #[.ref b, .int (Int32.ofNat o), .ref d, .int (Int32.ofNat q), .int (Int32.ofNat len)] below meth c Tl ([] ++ copyLocs d q i) 0 0 → Put d Bk s₁ Tl → Laid B Bk q (q + i) (fun j => Value.int (lo8 (cv A (o + (j - q))))) →
      Steps p.tables e below (s₁.setTop (entryFrame m #[.ref b, .int (Int32.ofNat o), .ref d, .int (Int32.ofNat q), .int (Int32.ofNat len)] 7)) (Tl.setTop (mkF m 3 #[.val (.ref b), .val (.int (Int32.ofNat (o + i))), .val (.ref d), .val (.int (Int32.ofNat (q + i))), .val (.int (Int32.ofNat len)), .val (.int (Int32.ofNat i)), z] [])) → ∃ (T' : State) (B' : Cell) (z' : Slot), Stand p l e { frames := 0, locals := 0, cells := 0, slots := 0 } s m #[.ref b, .int (Int32.ofNat o), .ref d, .int (Int32.ofNat q), .int (Int32.ofNat len)] below meth c T' ([] ++ copyLocs d q len) 0 0 ∧ Put d B' s₁ T' ∧ Laid B B' q (q + len) (fun j => Value.int (lo8 (cv A (o + (j - q))))) ∧
      Steps p.tables e below (s₁.setTop (entryFrame m #[.ref b, .int (Int32.ofNat o), .ref d, .int (Int32.ofNat q), .int (Int32.ofNat len)] 7)) (T'.setTop (mkF m 3 #[.val (.ref b), .val (.int (Int32.ofNat (o + len))), .val (.ref d), .val (.int (Int32.ofNat (q + len))), .val (.int (Int32.ofNat len)), .val (.int (Int32.ofNat len)), z'] [])) := by
    intro r
    induction r with
    | zero =>
      intro i hi z hz Tl Bk Xl pl fl cl
      have hil : i = len := by omega
      rw [hil] at Xl fl cl
      exact ⟨Tl, Bk, z, Xl, pl, fl, cl⟩
    | succ r ih =>
      intro i hi z hz Tl Bk Xl pl fl cl
      have all := X0.warmed.alike.symm.trans Xl.warmed.alike
      have hAl := hA0.keep all (pl.other hne hA0.1)
      have hBk := hB0.like all pl.1 fl.1 fl.2.1 fl.2.2.1
      have hlt : q + i < Bk.slots.size := by rw [fl.2.2.1]; omega
      have c3 : Steps p.tables e below (s₁.setTop (entryFrame m #[.ref b, .int (Int32.ofNat o), .ref d, .int (Int32.ofNat q), .int (Int32.ofNat len)] 7)) (Tl.setTop (mkF m 12 #[.val (.ref b), .val (.int (Int32.ofNat (o + i))), .val (.ref d), .val (.int (Int32.ofNat (q + i))), .val (.int (Int32.ofNat len)), .val (.int (Int32.ofNat i)), z] [.int (Int32.ofNat (o + i)), .ref b])) := cl.trans (by
        refine XS.iload Xl.here hexec rfl (hb hbytes d3) rfl ?_
        refine XS.iload Xl.here hexec rfl (hb hbytes d5) rfl ?_
        refine XS.icmpNo Xl.here hexec rfl (hb hbytes d7) rfl (ii_ge_f (lt32 (by omega) (by omega))) ?_
        refine XS.aloadN Xl.here hexec rfl (hb hbytes d10) rfl rfl ?_
        refine XS.iloadN Xl.here hexec rfl (hb hbytes d11) rfl ?_
        exact Steps.refl _)
      have c4 : Steps p.tables e below (s₁.setTop (entryFrame m #[.ref b, .int (Int32.ofNat o), .ref d, .int (Int32.ofNat q), .int (Int32.ofNat len)] 7)) (Tl.setTop (mkF m 13 #[.val (.ref b), .val (.int (Int32.ofNat (o + i))), .val (.ref d), .val (.int (Int32.ofNat (q + i))), .val (.int (Int32.ofNat len)), .val (.int (Int32.ofNat i)), z] [.int (cv A (o + i))])) := c3.trans (by
        refine Xl.aget hexec hAl rfl (hA.get (i := o + i) (by omega)) rfl rfl (hb hbytes d12) ?_
        exact Steps.refl _)
      have c5 : Steps p.tables e below (s₁.setTop (entryFrame m #[.ref b, .int (Int32.ofNat o), .ref d, .int (Int32.ofNat q), .int (Int32.ofNat len)] 7)) (Tl.setTop (mkF m 15 #[.val (.ref b), .val (.int (Int32.ofNat (o + i))), .val (.ref d), .val (.int (Int32.ofNat (q + i))), .val (.int (Int32.ofNat len)), .val (.int (Int32.ofNat i)), .val (.int (cv A (o + i)))] [])) := c4.trans (by
        refine XS.istoreS Xl.here hexec rfl (hb hbytes d13) rfl rfl hz ?_
        exact Steps.refl _)
      have c6 : Steps p.tables e below (s₁.setTop (entryFrame m #[.ref b, .int (Int32.ofNat o), .ref d, .int (Int32.ofNat q), .int (Int32.ofNat len)] 7)) (Tl.setTop (mkF m 31 #[.val (.ref b), .val (.int (Int32.ofNat (o + i))), .val (.ref d), .val (.int (Int32.ofNat (q + i))), .val (.int (Int32.ofNat len)), .val (.int (Int32.ofNat i)), .val (.int (cv A (o + i)))] [.int (lo8 (cv A (o + i))), .int (Int32.ofNat (q + i)), .ref d])) := c5.trans (by
        refine XS.iload Xl.here hexec rfl (hb hbytes d15) rfl ?_
        refine sipushV Xl.here hexec rfl 255 (hb hbytes d17) (by decide) ?_
        refine XS.icmpYes Xl.here hexec rfl (pc0 := 20) rfl (hb hbytes d20) rfl (ii_le_t (hp i (by omega))) (by decide) rfl ?_
        refine XS.aloadN Xl.here hexec rfl (hb hbytes d26) rfl rfl ?_
        refine XS.iloadN Xl.here hexec rfl (hb hbytes d27) rfl ?_
        refine XS.iload Xl.here hexec rfl (hb hbytes d28) rfl ?_
        refine i2b Xl.here hexec rfl (hb hbytes d30) rfl ?_
        exact Steps.refl _)
      obtain ⟨T7, X7, p7, st7⟩ := Xl.aput hexec hBk rfl hlt rfl (fits_lo8 (cv A (o + i))) (g := (mkF m 31 #[.val (.ref b), .val (.int (Int32.ofNat (o + i))), .val (.ref d), .val (.int (Int32.ofNat (q + i))), .val (.int (Int32.ofNat len)), .val (.int (Int32.ofNat i)), .val (.int (cv A (o + i)))] [.int (lo8 (cv A (o + i))), .int (Int32.ofNat (q + i)), .ref d])) rfl (rest := []) rfl (hb hbytes d31)
      have c8 : Steps p.tables e below (s₁.setTop (entryFrame m #[.ref b, .int (Int32.ofNat o), .ref d, .int (Int32.ofNat q), .int (Int32.ofNat len)] 7)) (T7.setTop (mkF m 32 #[.val (.ref b), .val (.int (Int32.ofNat (o + i))), .val (.ref d), .val (.int (Int32.ofNat (q + i))), .val (.int (Int32.ofNat len)), .val (.int (Int32.ofNat i)), .val (.int (cv A (o + i)))] [])) := c6.trans (st7 _ (Steps.refl _))
      have c9 : Steps p.tables e below (s₁.setTop (entryFrame m #[.ref b, .int (Int32.ofNat o), .ref d, .int (Int32.ofNat q), .int (Int32.ofNat len)] 7)) (T7.setTop (mkF m 3 #[.val (.ref b), .val (.int (Int32.ofNat (o + i) + 1)), .val (.ref d), .val (.int (Int32.ofNat (q + i) + 1)), .val (.int (Int32.ofNat len)), .val (.int (Int32.ofNat i + 1)), .val (.int (cv A (o + i)))] [])) := c8.trans (by
        refine iincV X7.here hexec rfl 1 (hb hbytes d32) (by decide) rfl rfl ?_
        refine iincV X7.here hexec rfl 1 (hb hbytes d35) (by decide) rfl rfl ?_
        refine iincV X7.here hexec rfl 1 (hb hbytes d38) (by decide) rfl rfl ?_
        refine XS.goto X7.here hexec rfl (pc0 := 41) rfl (hb hbytes d41) (by decide) rfl ?_
        exact Steps.refl _)
      have c10 : Steps p.tables e below (s₁.setTop (entryFrame m #[.ref b, .int (Int32.ofNat o), .ref d, .int (Int32.ofNat q), .int (Int32.ofNat len)] 7)) (T7.setTop (mkF m 3 #[.val (.ref b), .val (.int (Int32.ofNat (o + (i + 1)))), .val (.ref d), .val (.int (Int32.ofNat (q + (i + 1)))), .val (.int (Int32.ofNat len)), .val (.int (Int32.ofNat (i + 1))), .val (.int (cv A (o + i)))] [])) := by
        have := c9
        rw [succ32, succ32, succ32] at this
        exact this
      exact ih (i + 1) (by omega) _ (Or.inr ⟨_, rfl, rfl⟩) T7 _ (by rw [copyLocs_step, ← List.append_assoc]; exact X7) (pl.trans p7) (fl.step (by omega) hlt (by simp)) c10
  obtain ⟨T9, B9, z9, X9, p9, f9, g9⟩ := loop len 0 (by omega) .unset (Or.inl rfl) s₁ B (by simpa [copyLocs] using X0) ⟨hB0.1, fun _ _ => rfl, rfl⟩ (Laid.zero _ _ _) c2
  have c11 : Steps p.tables e below (s₁.setTop (entryFrame m #[.ref b, .int (Int32.ofNat o), .ref d, .int (Int32.ofNat q), .int (Int32.ofNat len)] 7)) (T9.setTop (mkF m 46 #[.val (.ref b), .val (.int (Int32.ofNat (o + len))), .val (.ref d), .val (.int (Int32.ofNat (q + len))), .val (.int (Int32.ofNat len)), .val (.int (Int32.ofNat len)), z9] [.int (Int32.ofNat len)])) := g9.trans (by
    refine XS.iload X9.here hexec rfl (hb hbytes d3) rfl ?_
    refine XS.iload X9.here hexec rfl (hb hbytes d5) rfl ?_
    refine XS.icmpYes X9.here hexec rfl (pc0 := 7) rfl (hb hbytes d7) rfl (ii_ge_t (nlt32 (by omega) (Nat.le_refl _))) (by decide) rfl ?_
    refine XS.iload X9.here hexec rfl (hb hbytes d44) rfl ?_
    exact Steps.refl _)
  exact ⟨T9, some (.int (Int32.ofNat len)), _, _, _, X9, by simp, rfl, rfl, (fun h => by cases h), ⟨rfl, B9, p9.from hh0, f9⟩, fun fs hl => c11.trans (X9.ireturnOut hexec hret rfl (Or.inl rfl) (hb hbytes d46) hl)⟩
end Cmp5
namespace Cmp3
def yN : MethodName := ⟨"java/lang/StringUTF16", "compress", "([CII)[B"⟩
abbrev yB : ByteArray := jdk_52_method_16_code
theorem d0 : decode yB 0 = .ok (.iload_n 2, 1) := by decide +kernel
theorem d1 : decode yB 1 = .ok (.newarray .byte, 2) := by decide +kernel
theorem d3 : decode yB 3 = .ok (.astore_n 3, 1) := by decide +kernel
theorem d4 : decode yB 4 = .ok (.aload_n 0, 1) := by decide +kernel
theorem d5 : decode yB 5 = .ok (.iload_n 1, 1) := by decide +kernel
theorem d6 : decode yB 6 = .ok (.aload_n 3, 1) := by decide +kernel
theorem d7 : decode yB 7 = .ok (.iconst 0, 1) := by decide +kernel
theorem d8 : decode yB 8 = .ok (.iload_n 2, 1) := by decide +kernel
theorem d9 : decode yB 9 = .ok (.invokestatic 115, 3) := by decide +kernel
theorem d12 : decode yB 12 = .ok (.istore 4, 2) := by decide +kernel
theorem d14 : decode yB 14 = .ok (.iload 4, 2) := by decide +kernel
theorem d16 : decode yB 16 = .ok (.iload_n 2, 1) := by decide +kernel
theorem d17 : decode yB 17 = .ok (.if_icmp (.eq) 40, 3) := by decide +kernel
theorem d57 : decode yB 57 = .ok (.aload_n 3, 1) := by decide +kernel
theorem d58 : decode yB 58 = .ok (.areturn, 1) := by decide +kernel
def site : List Cond := [.arrayClass .byte, Cmp5.tab] ++ staticW U16 115 Cmp5.yN
def tab : Cond := tabOf yN yB 6 (some (.array .byte)) site
def P (b : Addr) (A : Cell) (o len : Nat) (args : Array Value) (s : State) : Prop := args = #[.ref b, .int (Int32.ofNat o), .int (Int32.ofNat len)] ∧ Ch b A s ∧ o + len ≤ A.slots.size ∧ len ≤ 536870912 ∧ ∀ i, i < len → ¬ 255 < cv A (o + i)
def E (b : Addr) (A : Cell) (o len : Nat) (r : Option Value) (s u : State) : Prop := NewArr .byte "[B" len (fun j => .int (lo8 (cv A (o + j)))) r s u ∧ u.heap.size = s.heap.size + 1
/-- no char of the range above 255: a new byte[] of their low bytes -/
theorem law (l : Launch) (b : Addr) (A : Cell) (o len : Nat) : Law l yN 3 3 1 18 yB 6 (some (.array .byte)) site (P b A o len) (E b A o len) [] 1 len := by
  refine Law.of_walk (plainFor_of_name (by decide +kernel)) (by decide +kernel) (by decide +kernel) (by decide) (fun _ _ h => by rw [h.1]; rfl) (fun _ U U' hal hh h => ⟨h.1, h.2.1.mv hal hh, h.2.2⟩) (fun r U U' V V' h1 hal h2 h => ⟨NewArr.mv r U U' V V' h1 hal h2 h.1, by rw [h1, h2]; exact h.2⟩) ?_
  intro p e s m args below meth c s₁ X0 hexec hbytes hml hret hlk hnm hown hh0 W hP
  obtain ⟨rfl, hA, l1, l2, hp⟩ := hP
  have a31 := hA.1.2.2.2
  have c1 : Steps p.tables e below (s₁.setTop (entryFrame m #[.ref b, .int (Int32.ofNat o), .int (Int32.ofNat len)] 6)) (s₁.setTop (mkF m 0 #[.val (.ref b), .val (.int (Int32.ofNat o)), .val (.int (Int32.ofNat len)), .unset, .unset, .unset] [])) := entry rfl
  have c2 : Steps p.tables e below (s₁.setTop (entryFrame m #[.ref b, .int (Int32.ofNat o), .int (Int32.ofNat len)] 6)) (s₁.setTop (mkF m 1 #[.val (.ref b), .val (.int (Int32.ofNat o)), .val (.int (Int32.ofNat len)), .unset, .unset, .unset] [.int (Int32.ofNat len)])) := c1.trans (by
    refine XS.iloadN X0.here hexec rfl (hb hbytes d0) rfl ?_
    exact Steps.refl _)
  obtain ⟨T3, B3, X3, ba3, bs3, bv3, bh3, bf3, st3⟩ := X0.anew hexec (atype := .byte) (wk W (.arrayClass .byte)) rfl (by show len * 1 ≤ _; omega) (by omega) (g := (mkF m 1 #[.val (.ref b), .val (.int (Int32.ofNat o)), .val (.int (Int32.ofNat len)), .unset, .unset, .unset] [.int (Int32.ofNat len)])) rfl (hb hbytes d1) (rest := []) rfl (Nat.le_refl _) (by show 0 + len ≤ len; omega)
  rw [hh0] at ba3 st3
  have kp3 : XT.Kept s T3 := (XT.Kept.of_eq hh0).push bh3
  have hA3 := hA.keep X3.warmed.alike (kp3 _ _ hA.1.1)
  have hne : b ≠ s.heap.size := hA.1.ne
  have c4 : Steps p.tables e below (s₁.setTop (entryFrame m #[.ref b, .int (Int32.ofNat o), .int (Int32.ofNat len)] 6)) (T3.setTop (mkF m 3 #[.val (.ref b), .val (.int (Int32.ofNat o)), .val (.int (Int32.ofNat len)), .unset, .unset, .unset] [.ref s.heap.size])) := c2.trans (st3 _ (Steps.refl _))
  have c5 : Steps p.tables e below (s₁.setTop (entryFrame m #[.ref b, .int (Int32.ofNat o), .int (Int32.ofNat len)] 6)) (T3.setTop (mkF m 9 #[.val (.ref b), .val (.int (Int32.ofNat o)), .val (.int (Int32.ofNat len)), .val (.ref s.heap.size), .unset, .unset] [.int (Int32.ofNat len), .int 0, .ref s.heap.size, .int (Int32.ofNat o), .ref b])) := c4.trans (by
    refine XS.astoreN X3.here hexec rfl (hb hbytes d3) rfl rfl rfl ?_
    refine XS.aloadN X3.here hexec rfl (hb hbytes d4) rfl rfl ?_
    refine XS.iloadN X3.here hexec rfl (hb hbytes d5) rfl ?_
    refine XS.aloadN X3.here hexec rfl (hb hbytes d6) rfl rfl ?_
    refine iconstV X3.here hexec rfl 0 (hb hbytes d7) (by decide) ?_
    refine XS.iloadN X3.here hexec rfl (hb hbytes d8) rfl ?_
    exact Steps.refl _)
  obtain ⟨v6, T6, X6, E6, g6⟩ := X3.callS hexec (Cmp5.law l b A s.heap.size B3 o 0 len) hown (wks W (staticW U16 115 Cmp5.yN)) (wk W Cmp5.tab) (W := 0) (Nat.le_of_ble_eq_true rfl) (Nat.le_of_ble_eq_true rfl) (Nat.le_refl _) (by show 0 + len + 0 ≤ len; omega) (g := (mkF m 9 #[.val (.ref b), .val (.int (Int32.ofNat o)), .val (.int (Int32.ofNat len)), .val (.ref s.heap.size), .unset, .unset] [.int (Int32.ofNat len), .int (Int32.ofNat 0), .ref s.heap.size, .int (Int32.ofNat o), .ref b])) rfl (by rw [hml]; rfl) c5 (argsL := [.ref b, .int (Int32.ofNat o), .ref s.heap.size, .int (Int32.ofNat 0), .int (Int32.ofNat len)]) (rest := []) rfl rfl (by show 2 * 0 + 0 ≤ _; decide) (hb hbytes d9) (⟨rfl, hA3, ba3, hne, l1, by rw [bs3]; simp, hp⟩)
  obtain ⟨rfl, B6, p6, f6⟩ := E6
  have c7 : Steps p.tables e below (s₁.setTop (entryFrame m #[.ref b, .int (Int32.ofNat o), .int (Int32.ofNat len)] 6)) (T6.setTop (mkF m 12 #[.val (.ref b), .val (.int (Int32.ofNat o)), .val (.int (Int32.ofNat len)), .val (.ref s.heap.size), .unset, .unset] [.int (Int32.ofNat len)])) := g6
  have c8 : Steps p.tables e below (s₁.setTop (entryFrame m #[.ref b, .int (Int32.ofNat o), .int (Int32.ofNat len)] 6)) (T6.setTop (mkF m 58 #[.val (.ref b), .val (.int (Int32.ofNat o)), .val (.int (Int32.ofNat len)), .val (.ref s.heap.size), .val (.int (Int32.ofNat len)), .unset] [.ref s.heap.size])) := c7.trans (by
    refine XS.istore X6.here hexec rfl (hb hbytes d12) rfl rfl ?_
    refine XS.iload X6.here hexec rfl (hb hbytes d14) rfl ?_
    refine XS.iloadN X6.here hexec rfl (hb hbytes d16) rfl ?_
    refine XS.icmpYes X6.here hexec rfl (pc0 := 17) rfl (hb hbytes d17) rfl (ii_eq_t rfl) (by decide) rfl ?_
    refine XS.aloadN X6.here hexec rfl (hb hbytes d57) rfl rfl ?_
    exact Steps.refl _)
  have X8 := X6.wide (L' := []) (cells' := 1) (slots' := len) (fun x hx hlt => by
    simp only [List.nil_append, copyLocs, List.mem_map, List.mem_range] at hx
    obtain ⟨i, -, rfl⟩ := hx
    exact absurd hlt (Nat.lt_irrefl _)) (Nat.le_refl _) (by omega)
  exact ⟨T6, some (.ref s.heap.size), _, _, _, X8, rfl, rfl, rfl, (fun h => by cases h), ⟨⟨rfl, B6, ba3.like (X3.warmed.alike.symm.trans X6.warmed.alike) p6.1 f6.1 f6.2.1 f6.2.2.1, f6.2.1.trans bv3, by rw [X6.warmed.alike.findClass, f6.1]; exact bf3, by rw [f6.2.2.1, bs3]; simp, fun j hj => by rw [f6.2.2.2 j, if_pos (by omega)]; rfl, kp3.put p6 (Nat.le_refl _)⟩, by rw [p6.2.2, bh3, hh0]; simp⟩, fun fs hl => c8.trans (X8.areturnOut hexec rfl hret rfl (hb hbytes d58) hl)⟩
end Cmp3
namespace CodL
def yN : MethodName := ⟨"java/lang/StringUTF16", "coderFromArrayLen", "([BI)B"⟩
abbrev yB : ByteArray := jdk_52_method_15_code
theorem d0 : decode yB 0 = .ok (.iload_n 1, 1) := by decide +kernel
theorem d1 : decode yB 1 = .ok (.aload_n 0, 1) := by decide +kernel
theorem d2 : decode yB 2 = .ok (.arraylength, 1) := by decide +kernel
theorem d3 : decode yB 3 = .ok (.isub, 1) := by decide +kernel
theorem d4 : decode yB 4 = .ok (.bipush 31, 2) := by decide +kernel
theorem d6 : decode yB 6 = .ok (.iushr, 1) := by decide +kernel
theorem d7 : decode yB 7 = .ok (.i2b, 1) := by decide +kernel
theorem d8 : decode yB 8 = .ok (.ireturn, 1) := by decide +kernel
def site : List Cond := []
def tab : Cond := tabOf yN yB 2 (some .byte) site
def P (d : Addr) (B : Cell) (args : Array Value) (s : State) : Prop := args = #[.ref d, .int (Int32.ofNat B.slots.size)] ∧ Arr .byte d B s
def E (r : Option Value) (s u : State) : Prop := XT.PureE (some (.int 0)) r s u
/-- an array as long as the number of chars: LATIN1 -/
theorem law (l : Launch) (d : Addr) (B : Cell) : Law l yN 2 2 0 0 yB 2 (some .byte) site (P d B) E [] 0 0 := by
  refine Law.of_walk (plainFor_of_name (by decide +kernel)) (by decide +kernel) (by decide +kernel) (by decide) (fun _ _ h => by rw [h.1]; rfl) (fun _ U U' hal hh h => ⟨h.1, h.2.mv hal hh⟩) (fun r U U' V V' h1 hal h2 h => XT.PureE.mv r U U' V V' h1 hal h2 h) ?_
  intro p e s m args below meth c s₁ X0 hexec hbytes hml hret hlk hnm hown hh0 W hP
  obtain ⟨rfl, hB⟩ := hP
  have hB0 := hB.mv X0.warmed.alike hh0
  have c1 : Steps p.tables e below (s₁.setTop (entryFrame m #[.ref d, .int (Int32.ofNat B.slots.size)] 2)) (s₁.setTop (mkF m 0 #[.val (.ref d), .val (.int (Int32.ofNat B.slots.size))] [])) := entry rfl
  have c2 : Steps p.tables e below (s₁.setTop (entryFrame m #[.ref d, .int (Int32.ofNat B.slots.size)] 2)) (s₁.setTop (mkF m 2 #[.val (.ref d), .val (.int (Int32.ofNat B.slots.size))] [.ref d, .int (Int32.ofNat B.slots.size)])) := c1.trans (by
    refine XS.iloadN X0.here hexec rfl (hb hbytes d0) rfl ?_
    refine XS.aloadN X0.here hexec rfl (hb hbytes d1) rfl rfl ?_
    exact Steps.refl _)
  have c3 : Steps p.tables e below (s₁.setTop (entryFrame m #[.ref d, .int (Int32.ofNat B.slots.size)] 2)) (s₁.setTop (mkF m 8 #[.val (.ref d), .val (.int (Int32.ofNat B.slots.size))] [.int (lo8 (ushr (Int32.ofNat B.slots.size - Int32.ofNat B.slots.size) 31))])) := c2.trans (by
    refine X0.alen hexec hB0 rfl rfl (hb hbytes d2) ?_
    refine XS.isub X0.here hexec rfl (hb hbytes d3) rfl ?_
    refine bipushV X0.here hexec rfl 31 (hb hbytes d4) (by decide) ?_
    refine iushr X0.here hexec rfl (hb hbytes d6) rfl ?_
    refine i2b X0.here hexec rfl (hb hbytes d7) rfl ?_
    exact Steps.refl _)
  have e0 : lo8 (ushr (Int32.ofNat B.slots.size - Int32.ofNat B.slots.size) 31) = 0 := by rw [Int32.sub_self]; decide
  rw [e0] at c3
  exact ⟨s₁, some (.int 0), _, _, _, X0, rfl, rfl, rfl, (fun h => by cases h), ⟨rfl, hh0⟩, fun fs hl => c3.trans (X0.ireturnOut hexec hret rfl (Or.inr (Or.inr (Or.inl rfl))) (hb hbytes d8) hl)⟩
end CodL
/-- the String at a is Latin-1 over a new byte[] (the heap's one new cell): the low bytes of the len chars of A from o on; every cell but a is kept -/
def Got (a : Addr) (D : Cell) (fV fC : Field) (A : Cell) (o len : Nat) (r : Option Value) (s u : State) : Prop := r = none ∧ ∃ D' V : Cell, Blank "java/lang/String" a D' u ∧ Same D D' [fV.slot, fC.slot] ∧ D'.slots[fV.slot]? = some (.ref s.heap.size) ∧ D'.slots[fC.slot]? = some (.int 0) ∧ Arr .byte s.heap.size V u ∧ V.vm = .none ∧ u.vm.findClass "[B" = some V.cls ∧ V.slots.size = len ∧ (∀ j, j < len → V.slots[j]? = some (.int (lo8 (cv A (o + j))))) ∧ (∀ (y : Addr) (c : Cell), y ≠ a → s.heap[y]? = some c → u.heap[y]? = some c) ∧ u.heap.size = s.heap.size + 1
theorem Got.mv {a : Addr} {D A : Cell} {fV fC : Field} {o len : Nat} : ∀ r (U U' V V' : State), U'.heap = U.heap → V.vm.Alike V'.vm → V'.heap = V.heap → Got a D fV fC A o len r U V → Got a D fV fC A o len r U' V' :=
  fun r U U' V V' h1 hal h2 ⟨e0, D', X, a1, a2, a3, a4, a5, a6, a7, a8, a9, a10, a11⟩ => ⟨e0, D', X, a1.mv hal h2, a2, by rw [h1]; exact a3, a4, by rw [h1]; exact a5.mv hal h2, a6, by rw [hal.findClass]; exact a7, a8, a9, by rw [h1, h2]; exact a10, by rw [h1, h2]; exact a11⟩
namespace New4
def yN : MethodName := ⟨"java/lang/String", "<init>", "([CIILjava/lang/Void;)V"⟩
abbrev yB : ByteArray := jdk_42_method_149_code
theorem d0 : decode yB 0 = .ok (.aload_n 0, 1) := by decide +kernel
theorem d1 : decode yB 1 = .ok (.invokespecial 1, 3) := by decide +kernel
theorem d4 : decode yB 4 = .ok (.iload_n 3, 1) := by decide +kernel
theorem d5 : decode yB 5 = .ok (.ifCond (.ne) 22, 3) := by decide +kernel
theorem d27 : decode yB 27 = .ok (.getstatic 38, 3) := by decide +kernel
theorem d30 : decode yB 30 = .ok (.ifCond (.eq) 28, 3) := by decide +kernel
theorem d33 : decode yB 33 = .ok (.aload_n 1, 1) := by decide +kernel
theorem d34 : decode yB 34 = .ok (.iload_n 2, 1) := by decide +kernel
theorem d35 : decode yB 35 = .ok (.iload_n 3, 1) := by decide +kernel
theorem d36 : decode yB 36 = .ok (.invokestatic 177, 3) := by decide +kernel
theorem d39 : decode yB 39 = .ok (.astore 5, 2) := by decide +kernel
theorem d41 : decode yB 41 = .ok (.aload_n 0, 1) := by decide +kernel
theorem d42 : decode yB 42 = .ok (.aload 5, 2) := by decide +kernel
theorem d44 : decode yB 44 = .ok (.iload_n 3, 1) := by decide +kernel
theorem d45 : decode yB 45 = .ok (.invokestatic 47, 3) := by decide +kernel
theorem d48 : decode yB 48 = .ok (.putfield 15, 3) := by decide +kernel
theorem d51 : decode yB 51 = .ok (.aload_n 0, 1) := by decide +kernel
theorem d52 : decode yB 52 = .ok (.aload 5, 2) := by decide +kernel
theorem d54 : decode yB 54 = .ok (.putfield 9, 3) := by decide +kernel
theorem d57 : decode yB 57 = .ok (.return_, 1) := by decide +kernel
def site : List Cond := [.fieldLink "java/lang/String" 38 "java/lang/String" "COMPACT_STRINGS" "Z", Cmp3.tab, CodL.tab, .laysFinal "java/lang/String" "java/lang/String" "value" "[B", .fieldLink "java/lang/String" 9 "java/lang/String" "value" "[B", .laysFinal "java/lang/String" "java/lang/String" "coder" "B", .fieldLink "java/lang/String" 15 "java/lang/String" "coder" "B"] ++ objW "java/lang/String" 1 ++ staticW "java/lang/String" 177 Cmp3.yN ++ staticW "java/lang/String" 47 CodL.yN
def tab : Cond := tabOf yN yB 6 none site
def P (a : Addr) (D : Cell) (fV fC : Field) (b : Addr) (A : Cell) (z : Int32) (o len : Nat) (args : Array Value) (s : State) : Prop := args = #[.ref a, .ref b, .int (Int32.ofNat o), .int (Int32.ofNat len), .null] ∧ Blank "java/lang/String" a D s ∧ Found "java/lang/String" "value" "[B" fV s ∧ Found "java/lang/String" "coder" "B" fC s ∧ Ch b A s ∧ StaticIs s "java/lang/String" "COMPACT_STRINGS" "Z" (.int z) ∧ ¬ z = 0 ∧ 0 < len ∧ o + len ≤ A.slots.size ∧ len ≤ 536870912 ∧ ∀ i, i < len → ¬ 255 < cv A (o + i)
def E (a : Addr) (D : Cell) (fV fC : Field) (A : Cell) (o len : Nat) (r : Option Value) (s u : State) : Prop := Got a D fV fC A o len r s u
/-- len > 0, no char of the range above 255: a Latin-1 String of their low bytes -/
theorem law (l : Launch) (a : Addr) (D : Cell) (fV fC : Field) (b : Addr) (A : Cell) (z : Int32) (o len : Nat) : Law l yN 5 4 2 35 yB 6 none site (P a D fV fC b A z o len) (E a D fV fC A o len) [⟨a, fC.slot⟩, ⟨a, fV.slot⟩] 1 len := by
  refine Law.of_walk (plainFor_of_name (by decide +kernel)) (by decide +kernel) (by decide +kernel) (by decide) (fun _ _ h => by rw [h.1]; rfl) (fun _ U U' hal hh h => ⟨h.1, h.2.1.mv hal hh, h.2.2.1.al hal, h.2.2.2.1.al hal, h.2.2.2.2.1.mv hal hh, h.2.2.2.2.2.1.there hal hh, h.2.2.2.2.2.2⟩) (fun r U U' V V' h1 hal h2 h => Got.mv r U U' V V' h1 hal h2 h) ?_
  intro p e s m args below meth c s₁ X0 hexec hbytes hml hret hlk hnm hown hh0 W hP
  obtain ⟨rfl, hB, f1, f2, hA, s1, hz, l0, l1, l2, hp⟩ := hP
  have a31 := hA.1.2.2.2
  have c1 : Steps p.tables e below (s₁.setTop (entryFrame m #[.ref a, .ref b, .int (Int32.ofNat o), .int (Int32.ofNat len), .null] 6)) (s₁.setTop (mkF m 0 #[.val (.ref a), .val (.ref b), .val (.int (Int32.ofNat o)), .val (.int (Int32.ofNat len)), .val .null, .unset] [])) := entry rfl
  have c2 : Steps p.tables e below (s₁.setTop (entryFrame m #[.ref a, .ref b, .int (Int32.ofNat o), .int (Int32.ofNat len), .null] 6)) (s₁.setTop (mkF m 1 #[.val (.ref a), .val (.ref b), .val (.int (Int32.ofNat o)), .val (.int (Int32.ofNat len)), .val .null, .unset] [.ref a])) := c1.trans (by
    refine XS.aloadN X0.here hexec rfl (hb hbytes d0) rfl rfl ?_
    exact Steps.refl _)
  obtain ⟨T3, X3, q3, st3⟩ := X0.oinit hexec hown (wks W (objW "java/lang/String" 1)) (g := (mkF m 1 #[.val (.ref a), .val (.ref b), .val (.int (Int32.ofNat o)), .val (.int (Int32.ofNat len)), .val .null, .unset] [.ref a])) rfl (by rw [hml]; rfl) (rest := []) rfl (hb hbytes d1) (W := 0) (by show 2 * 0 + 0 ≤ _; decide) (Nat.le_of_ble_eq_true rfl) (Nat.le_of_ble_eq_true rfl)
  have hh3 := q3.trans hh0
  have c4 : Steps p.tables e below (s₁.setTop (entryFrame m #[.ref a, .ref b, .int (Int32.ofNat o), .int (Int32.ofNat len), .null] 6)) (T3.setTop (mkF m 27 #[.val (.ref a), .val (.ref b), .val (.int (Int32.ofNat o)), .val (.int (Int32.ofNat len)), .val .null, .unset] [])) := (c2.trans (st3 _ (Steps.refl _))).trans (by
    refine XS.iloadN X3.here hexec rfl (hb hbytes d4) rfl ?_
    refine XS.ifYes X3.here hexec rfl (pc0 := 5) rfl (hb hbytes d5) rfl (i0_ne_t (nz32 (by omega) l0)) (by decide) rfl ?_
    exact Steps.refl _)
  obtain ⟨T5, X5, q5, st5⟩ := X3.sget hexec hown (wk W (.fieldLink "java/lang/String" 38 "java/lang/String" "COMPACT_STRINGS" "Z")) s1 (fun _ _ h => by rw [hh3]; exact h) (g := (mkF m 27 #[.val (.ref a), .val (.ref b), .val (.int (Int32.ofNat o)), .val (.int (Int32.ofNat len)), .val .null, .unset] [])) rfl (hb hbytes d27)
  have hh5 := q5.trans hh3
  have c6 : Steps p.tables e below (s₁.setTop (entryFrame m #[.ref a, .ref b, .int (Int32.ofNat o), .int (Int32.ofNat len), .null] 6)) (T5.setTop (mkF m 30 #[.val (.ref a), .val (.ref b), .val (.int (Int32.ofNat o)), .val (.int (Int32.ofNat len)), .val .null, .unset] [.int z])) := c4.trans (st5 _ (Steps.refl _))
  have c7 : Steps p.tables e below (s₁.setTop (entryFrame m #[.ref a, .ref b, .int (Int32.ofNat o), .int (Int32.ofNat len), .null] 6)) (T5.setTop (mkF m 36 #[.val (.ref a), .val (.ref b), .val (.int (Int32.ofNat o)), .val (.int (Int32.ofNat len)), .val .null, .unset] [.int (Int32.ofNat len), .int (Int32.ofNat o), .ref b])) := c6.trans (by
    refine XS.ifNo X5.here hexec rfl (hb hbytes d30) rfl (i0_eq_f hz) ?_
    refine XS.aloadN X5.here hexec rfl (hb hbytes d33) rfl rfl ?_
    refine XS.iloadN X5.here hexec rfl (hb hbytes d34) rfl ?_
    refine XS.iloadN X5.here hexec rfl (hb hbytes d35) rfl ?_
    exact Steps.refl _)
  obtain ⟨v8, T8, X8, E8, g8⟩ := X5.callS hexec (Cmp3.law l b A o len) hown (wks W (staticW "java/lang/String" 177 Cmp3.yN)) (wk W Cmp3.tab) (W := 0) (Nat.le_of_ble_eq_true rfl) (Nat.le_of_ble_eq_true rfl) (Nat.le_refl _) (by show 0 + len ≤ len; omega) (g := (mkF m 36 #[.val (.ref a), .val (.ref b), .val (.int (Int32.ofNat o)), .val (.int (Int32.ofNat len)), .val .null, .unset] [.int (Int32.ofNat len), .int (Int32.ofNat o), .ref b])) rfl (by rw [hml]; rfl) c7 (argsL := [.ref b, .int (Int32.ofNat o), .int (Int32.ofNat len)]) (rest := []) rfl rfl (by show 2 * 0 + 0 ≤ _; decide) (hb hbytes d36) (⟨rfl, hA.mv X5.warmed.alike hh5, l1, l2, hp⟩)
  obtain ⟨e8, z8⟩ := E8
  obtain ⟨rfl, N, n1, n2, n3, n4, n5, n6⟩ := NewArr.mv _ T5 s _ _ hh5.symm (Vm.Alike.refl _) rfl e8
  rw [hh5] at z8
  have hB1 := hB.keep X8.warmed.alike (n6 _ _ hB.1)
  have hne : s.heap.size ≠ a := (Nat.ne_of_lt (Array.getElem?_eq_some_iff.mp hB.1).1).symm
  have c9 : Steps p.tables e below (s₁.setTop (entryFrame m #[.ref a, .ref b, .int (Int32.ofNat o), .int (Int32.ofNat len), .null] 6)) (T8.setTop (mkF m 39 #[.val (.ref a), .val (.ref b), .val (.int (Int32.ofNat o)), .val (.int (Int32.ofNat len)), .val .null, .unset] [.ref s.heap.size])) := g8
  have c10 : Steps p.tables e below (s₁.setTop (entryFrame m #[.ref a, .ref b, .int (Int32.ofNat o), .int (Int32.ofNat len), .null] 6)) (T8.setTop (mkF m 45 #[.val (.ref a), .val (.ref b), .val (.int (Int32.ofNat o)), .val (.int (Int32.ofNat len)), .val .null, .val (.ref s.heap.size)] [.int (Int32.ofNat N.slots.size), .ref s.heap.size, .ref a])) := by
    have hc : Steps p.tables e below (s₁.setTop (entryFrame m #[.ref a, .ref b, .int (Int32.ofNat o), .int (Int32.ofNat len), .null] 6)) (T8.setTop (mkF m 45 #[.val (.ref a), .val (.ref b), .val (.int (Int32.ofNat o)), .val (.int (Int32.ofNat len)), .val .null, .val (.ref s.heap.size)] [.int (Int32.ofNat len), .ref s.heap.size, .ref a])) := c9.trans (by
      refine XS.astore X8.here hexec rfl (hb hbytes d39) rfl rfl rfl ?_
      refine XS.aloadN X8.here hexec rfl (hb hbytes d41) rfl rfl ?_
      refine XS.aload X8.here hexec rfl (hb hbytes d42) rfl rfl ?_
      refine XS.iloadN X8.here hexec rfl (hb hbytes d44) rfl ?_
      exact Steps.refl _)
    rw [n4]; exact hc
  obtain ⟨v11, T11, X11, E11, g11⟩ := X8.callS hexec (CodL.law l s.heap.size N) hown (wks W (staticW "java/lang/String" 47 CodL.yN)) (wk W CodL.tab) (W := 1) (Nat.le_of_ble_eq_true rfl) (Nat.le_of_ble_eq_true rfl) (Nat.le_refl _) (by show 0 + len + 0 ≤ len; omega) (g := (mkF m 45 #[.val (.ref a), .val (.ref b), .val (.int (Int32.ofNat o)), .val (.int (Int32.ofNat len)), .val .null, .val (.ref s.heap.size)] [.int (Int32.ofNat N.slots.size), .ref s.heap.size, .ref a])) rfl (by rw [hml]; rfl) c10 (argsL := [.ref s.heap.size, .int (Int32.ofNat N.slots.size)]) (rest := [.ref a]) rfl rfl (by show 2 * 0 + (1 + 0) ≤ _; decide) (hb hbytes d45) (⟨rfl, n1⟩)
  obtain ⟨rfl, q11⟩ := E11
  have hB11 := hB1.mv (X8.warmed.alike.symm.trans X11.warmed.alike) q11
  have c12 : Steps p.tables e below (s₁.setTop (entryFrame m #[.ref a, .ref b, .int (Int32.ofNat o), .int (Int32.ofNat len), .null] 6)) (T11.setTop (mkF m 48 #[.val (.ref a), .val (.ref b), .val (.int (Int32.ofNat o)), .val (.int (Int32.ofNat len)), .val .null, .val (.ref s.heap.size)] [.int 0, .ref a])) := g11
  obtain ⟨T13, X13, p13, bl13, sl13, st13⟩ := X11.finit hexec hown (wk W (.fieldLink "java/lang/String" 15 "java/lang/String" "coder" "B")) (Or.inr ⟨_, (wk W (.laysFinal "java/lang/String" "java/lang/String" "coder" "B"))⟩) (Or.inl ⟨rfl, hnm⟩) f2 (Or.inl rfl) hB11 (t := .byte) (by decide +kernel) rfl (g := (mkF m 48 #[.val (.ref a), .val (.ref b), .val (.int (Int32.ofNat o)), .val (.int (Int32.ofNat len)), .val .null, .val (.ref s.heap.size)] [.int 0, .ref a])) rfl (rest := []) rfl (hb hbytes d48)
  have c14 : Steps p.tables e below (s₁.setTop (entryFrame m #[.ref a, .ref b, .int (Int32.ofNat o), .int (Int32.ofNat len), .null] 6)) (T13.setTop (mkF m 54 #[.val (.ref a), .val (.ref b), .val (.int (Int32.ofNat o)), .val (.int (Int32.ofNat len)), .val .null, .val (.ref s.heap.size)] [.ref s.heap.size, .ref a])) := (c12.trans (st13 _ (Steps.refl _))).trans (by
    refine XS.aloadN X13.here hexec rfl (hb hbytes d51) rfl rfl ?_
    refine XS.aload X13.here hexec rfl (hb hbytes d52) rfl rfl ?_
    exact Steps.refl _)
  obtain ⟨T15, X15, p15, bl15, sl15, st15⟩ := X13.finit hexec hown (wk W (.fieldLink "java/lang/String" 9 "java/lang/String" "value" "[B")) (Or.inr ⟨_, (wk W (.laysFinal "java/lang/String" "java/lang/String" "value" "[B"))⟩) (Or.inl ⟨rfl, hnm⟩) f1 (Or.inl rfl) bl13 (t := (.array .byte)) (by decide +kernel) rfl (g := (mkF m 54 #[.val (.ref a), .val (.ref b), .val (.int (Int32.ofNat o)), .val (.int (Int32.ofNat len)), .val .null, .val (.ref s.heap.size)] [.ref s.heap.size, .ref a])) rfl (rest := []) rfl (hb hbytes d54)
  have c16 : Steps p.tables e below (s₁.setTop (entryFrame m #[.ref a, .ref b, .int (Int32.ofNat o), .int (Int32.ofNat len), .null] 6)) (T15.setTop (mkF m 57 #[.val (.ref a), .val (.ref b), .val (.int (Int32.ofNat o)), .val (.int (Int32.ofNat len)), .val .null, .val (.ref s.heap.size)] [])) := c14.trans (st15 _ (Steps.refl _))
  have ap := apart (Or.inr ⟨_, (wk W (.laysFinal "java/lang/String" "java/lang/String" "value" "[B"))⟩) (Or.inr ⟨_, (wk W (.laysFinal "java/lang/String" "java/lang/String" "coder" "B"))⟩) f1 f2 (t₁ := .array .byte) (t₂ := .byte) (by decide +kernel) (by decide +kernel) (by decide)
  have al := X8.warmed.alike.symm.trans X15.warmed.alike
  have n7 : T11.heap[s.heap.size]? = some N := by rw [q11]; exact n1.1
  exact ⟨T15, none, _, _, _, X15, by simp, rfl, by omega, (fun _ => rfl), ⟨rfl, _, N, bl15, ((Same.refl D _).set _ (by simp)).set _ (by simp), sl15, (Cell.slots_setSlot_ne _ ap).trans sl13, n1.keep al (p15.other hne (p13.other hne n7)), n2, by rw [al.findClass]; exact n3, n4, n5, fun y c h1 h2 => p15.other h1 (p13.other h1 (by rw [q11]; exact n6 y c h2)), by rw [p15.2.2, p13.2.2, q11]; exact z8⟩, fun fs hl => c16.trans (X15.returnOut hexec hret (hb hbytes d57) hl)⟩
end New4
namespace New1
def yN : MethodName := ⟨"java/lang/String", "<init>", "([C)V"⟩
abbrev yB : ByteArray := jdk_42_method_3_code
theorem d0 : decode yB 0 = .ok (.aload_n 0, 1) := by decide +kernel
theorem d1 : decode yB 1 = .ok (.aload_n 1, 1) := by decide +kernel
theorem d2 : decode yB 2 = .ok (.iconst 0, 1) := by decide +kernel
theorem d3 : decode yB 3 = .ok (.aload_n 1, 1) := by decide +kernel
theorem d4 : decode yB 4 = .ok (.arraylength, 1) := by decide +kernel
theorem d5 : decode yB 5 = .ok (.aconst_null, 1) := by decide +kernel
theorem d6 : decode yB 6 = .ok (.invokespecial 27, 3) := by decide +kernel
theorem d9 : decode yB 9 = .ok (.return_, 1) := by decide +kernel
def site : List Cond := [New4.tab] ++ initW "java/lang/String" 27 New4.yN
def tab : Cond := tabOf yN yB 2 none site
def P (a : Addr) (D : Cell) (fV fC : Field) (b : Addr) (A : Cell) (z : Int32) (args : Array Value) (s : State) : Prop := args = #[.ref a, .ref b] ∧ Blank "java/lang/String" a D s ∧ Found "java/lang/String" "value" "[B" fV s ∧ Found "java/lang/String" "coder" "B" fC s ∧ Ch b A s ∧ StaticIs s "java/lang/String" "COMPACT_STRINGS" "Z" (.int z) ∧ ¬ z = 0 ∧ 0 < A.slots.size ∧ A.slots.size ≤ 536870912 ∧ ∀ i, i < A.slots.size → ¬ 255 < cv A i
def E (a : Addr) (D : Cell) (fV fC : Field) (A : Cell) (r : Option Value) (s u : State) : Prop := Got a D fV fC A 0 A.slots.size r s u
/-- new String(chars), not empty, no char above 255: a Latin-1 String of their low bytes -/
theorem law (l : Launch) (a : Addr) (D : Cell) (fV fC : Field) (b : Addr) (A : Cell) (z : Int32) : Law l yN 2 1 3 52 yB 2 none site (P a D fV fC b A z) (E a D fV fC A) [⟨a, fC.slot⟩, ⟨a, fV.slot⟩] 1 A.slots.size := by
  refine Law.of_walk (plainFor_of_name (by decide +kernel)) (by decide +kernel) (by decide +kernel) (by decide) (fun _ _ h => by rw [h.1]; rfl) (fun _ U U' hal hh h => ⟨h.1, h.2.1.mv hal hh, h.2.2.1.al hal, h.2.2.2.1.al hal, h.2.2.2.2.1.mv hal hh, h.2.2.2.2.2.1.there hal hh, h.2.2.2.2.2.2⟩) (fun r U U' V V' h1 hal h2 h => Got.mv r U U' V V' h1 hal h2 h) ?_
  intro p e s m args below meth c s₁ X0 hexec hbytes hml hret hlk hnm hown hh0 W hP
  obtain ⟨rfl, hB, f1, f2, hA, s1, hz, l0, l2, hp⟩ := hP
  have c1 : Steps p.tables e below (s₁.setTop (entryFrame m #[.ref a, .ref b] 2)) (s₁.setTop (mkF m 0 #[.val (.ref a), .val (.ref b)] [])) := entry rfl
  have c2 : Steps p.tables e below (s₁.setTop (entryFrame m #[.ref a, .ref b] 2)) (s₁.setTop (mkF m 6 #[.val (.ref a), .val (.ref b)] [.null, .int (Int32.ofNat A.slots.size), .int 0, .ref b, .ref a])) := c1.trans (by
    refine XS.aloadN X0.here hexec rfl (hb hbytes d0) rfl rfl ?_
    refine XS.aloadN X0.here hexec rfl (hb hbytes d1) rfl rfl ?_
    refine iconstV X0.here hexec rfl 0 (hb hbytes d2) (by decide) ?_
    refine XS.aloadN X0.here hexec rfl (hb hbytes d3) rfl rfl ?_
    refine X0.alen hexec (hA.1.mv X0.warmed.alike hh0) rfl rfl (hb hbytes d4) ?_
    refine XS.aconstNull X0.here hexec rfl (hb hbytes d5) ?_
    exact Steps.refl _)
  obtain ⟨v3, T3, X3, E3, g3⟩ := X0.callN hexec (New4.law l a D fV fC b A z 0 A.slots.size) rfl hown (wks W (initW "java/lang/String" 27 New4.yN)) (W New4.tab (by simp only [site, List.mem_cons, List.mem_append, true_or, or_true])) (W := 0) (Nat.le_of_ble_eq_true rfl) (Nat.le_of_ble_eq_true rfl) (Nat.le_refl _) (by show 0 + A.slots.size ≤ A.slots.size; omega) (g := (mkF m 6 #[.val (.ref a), .val (.ref b)] [.null, .int (Int32.ofNat A.slots.size), .int (Int32.ofNat 0), .ref b, .ref a])) rfl (by rw [hml]; rfl) c2 (argsL := [.ref b, .int (Int32.ofNat 0), .int (Int32.ofNat A.slots.size), .null]) (rest := []) rfl rfl (by show 2 * 0 + 0 ≤ _; decide) (hb hbytes d6) (⟨rfl, hB.mv X0.warmed.alike hh0, f1.al X0.warmed.alike, f2.al X0.warmed.alike, hA.mv X0.warmed.alike hh0, s1.there X0.warmed.alike hh0, hz, l0, by omega, l2, fun i hi => by rw [Nat.zero_add]; exact hp i hi⟩)
  have e0 := Got.mv _ s₁ s _ _ hh0.symm (Vm.Alike.refl _) rfl E3
  obtain rfl := e0.1
  have c4 : Steps p.tables e below (s₁.setTop (entryFrame m #[.ref a, .ref b] 2)) (T3.setTop (mkF m 9 #[.val (.ref a), .val (.ref b)] [])) := g3
  exact ⟨T3, none, _, _, _, X3, by simp, rfl, by omega, (fun _ => rfl), e0, fun fs hl => c4.trans (X3.returnOut hexec hret (hb hbytes d9) hl)⟩
theorem pays {l : Launch} {R : Room} {p : Program} {e : Env} {below : List Frame} {s : State} {sargs : Array Value} {len W : Nat} (a : Addr) (D : Cell) (fV fC : Field) (b : Addr) (A : Cell) (z : Int32) (htab : tab.before sargs s = true) (hfr : 4 ≤ R.frames) (hlo : W + 65 ≤ R.locals) :
    Back l R p e below s sargs yN len W (fun A₁ a₁ => A₁.cells + 1 ≤ R.cells ∧ A₁.slots + A.slots.size ≤ R.slots ∧ P a D fV fC b A z a₁ A₁.U) (fun A₁ _ v₁ B₁ => E a D fV fC A v₁ A₁.U B₁.U ∧ B₁.locs = A₁.locs ++ [⟨a, fC.slot⟩, ⟨a, fV.slot⟩] ∧ B₁.cells = A₁.cells + 1 ∧ B₁.slots = A₁.slots + A.slots.size) :=
  (law l a D fV fC b A z).pays htab hfr (by omega)
end New1
/-- the byte, read back as charAt reads it, is the char -/
theorem lo8_mask {x : Int32} (h0 : ¬ x < 0) (h1 : ¬ 255 < x) : lo8 x &&& 255 = x := by
  have t : ∀ k : Fin 256, lo8 (Int32.ofNat k.val) &&& 255 = Int32.ofNat k.val := by decide +kernel
  rw [Int32.lt_iff_toInt_lt] at h0 h1
  have e0 : (0 : Int32).toInt = 0 := rfl
  have e1 : (255 : Int32).toInt = 255 := rfl
  obtain ⟨k, hk⟩ : ∃ k : Nat, x.toInt = k := ⟨x.toInt.toNat, by omega⟩
  have hx : x = Int32.ofNat k := Int32.toInt_inj.mp (by rw [hk, Int32.toInt_ofNat_small (by omega)])
  rw [hx]
  exact t ⟨k, by omega⟩
end StrChars
namespace StrChars.Road
open Jvm Sem ClassFile Op Lib Jvm.Stand Jvm.Free Jvm.Free.XT
open Jvm.Lib.Cold (StaticIs)
abbrev ST : String := "java/lang/String"
/-- every table word that New1's law asks, flat -/
abbrev words : List Jvm.Cond := [.code New1.yN New1.yB 2 none, .initialized ST, .methodLink ST 27 New4.yN, .instanceMethod New4.yN,
  .code New4.yN New4.yB 6 none, .fieldLink ST 38 ST "COMPACT_STRINGS" "Z", .laysFinal ST ST "value" "[B", .fieldLink ST 9 ST "value" "[B", .laysFinal ST ST "coder" "B", .fieldLink ST 15 ST "coder" "B",
  .methodLink ST 1 Lib.objectInit, .instanceMethod Lib.objectInit, .code Lib.objectInit ⟨#[0xb1]⟩ 1 none, .methodLink ST 177 Cmp3.yN, .static Cmp3.yN, .methodLink ST 47 CodL.yN, .static CodL.yN,
  .code Cmp3.yN Cmp3.yB 6 (some (.array .byte)), .initialized U16, .arrayClass .byte, .methodLink U16 115 Cmp5.yN, .static Cmp5.yN, .code Cmp5.yN Cmp5.yB 7 (some .int), .code CodL.yN CodL.yB 2 (some .byte)]
theorem tab_of {a : Array Value} {s : State} (h : ∀ w ∈ words, w.before a s = true) : New1.tab.before a s = true := by
  have h5 : Cmp5.tab.before a s = true := unparts (wk h (.code Cmp5.yN Cmp5.yB 7 (some .int))) (wks h (.initialized Cmp5.yN.cls :: Cmp5.site))
  have hc : CodL.tab.before a s = true := unparts (wk h (.code CodL.yN CodL.yB 2 (some .byte))) (wks h (.initialized CodL.yN.cls :: CodL.site))
  have q5 : ∀ w ∈ Cmp5.tab :: words, w.before a s = true := fun w hw => (List.mem_cons.mp hw).elim (fun e => e ▸ h5) (h w)
  have h3 : Cmp3.tab.before a s = true := unparts (wk q5 (.code Cmp3.yN Cmp3.yB 6 (some (.array .byte)))) (wks q5 (.initialized Cmp3.yN.cls :: Cmp3.site))
  have q3 : ∀ w ∈ Cmp3.tab :: CodL.tab :: words, w.before a s = true := fun w hw => (List.mem_cons.mp hw).elim (fun e => e ▸ h3) fun hw => (List.mem_cons.mp hw).elim (fun e => e ▸ hc) (h w)
  have h4 : New4.tab.before a s = true := unparts (wk q3 (.code New4.yN New4.yB 6 none)) (wks q3 (.initialized New4.yN.cls :: New4.site))
  have q4 : ∀ w ∈ New4.tab :: words, w.before a s = true := fun w hw => (List.mem_cons.mp hw).elim (fun e => e ▸ h4) (h w)
  exact unparts (wk q4 (.code New1.yN New1.yB 2 none)) (wks q4 (.initialized New1.yN.cls :: New1.site))
/-- the words ride from the start Z to the walk's own state -/
theorem moved {Z s : State} {a0 args : Array Value} (hZ : Z.Warmed39 s.vm) (hw : ∀ d ∈ words, d.before a0 Z = true) : ∀ d ∈ words, d.before args s = true := fun d hd => by
  have q := hw d hd
  have t : ∀ d ∈ words, d = .arrayClass .byte ∨ (d.onTables && d.keepsFace) = true := by decide +kernel
  rcases t d hd with rfl | t
  · exact RoadKit.mvA hZ q
  · exact RoadKit.mv hZ q t
/-- WHAT COMES BACK, over the tables of the start Z: h the heap at the call, h' behind it -/
def Q (Z : State) (x : Addr) (A : Cell) (h : Heap) (v : Option Value) (h' : Heap) (L : List Loc) : Prop := v = none ∧ (∀ y ∈ L, y.base = x) ∧ RoadKit.Keep h h' [x] ∧ h'.size = h.size + 1 ∧ RoadKit.Exa Z h' x ST ∧ RoadKit.Fld Z h' x ST "value" "[B" (.ref h.size) ∧ RoadKit.Fld Z h' x ST "coder" "B" (.int 0) ∧
  (∃ V : Cell, RoadKit.Arr Z h' h.size V .byte ∧ V.vm = .none ∧ Z.vm.findClass "[B" = some V.cls ∧ V.slots.size = A.slots.size ∧ ∀ j, j < A.slots.size → V.slots[j]? = some (.int (lo8 (cv A j)))) ∧
  ∀ (O n d : String) (w : Value), RoadKit.Fld Z h x O n d w → RoadKit.slotOf Z O n d ≠ RoadKit.slotOf Z ST "value" "[B" → RoadKit.slotOf Z O n d ≠ RoadKit.slotOf Z ST "coder" "B" → RoadKit.Fld Z h' x O n d w
/-- **new String(chars) AT A CALL, IN THE ROAD'S FORM**: for specialBack behind newO: x the fresh String, b the char[] with the cell A -/
theorem back {p : Program} {l : Launch} {e : Env} {R : Room} {s : State} {args : Array Value} {below : List Frame} {len W : Nat} {Z : State} {a0 : Array Value} {h : Heap} (hZ : Z.Warmed39 s.vm) (hw : ∀ d ∈ words, d.before a0 Z = true) {kI : Nat} (wi : (Jvm.Cond.instantiable ST kI).before a0 Z = true)
    {x b : Addr} {A : Cell} {z : Int32} {v0 c0 : Value} (E : RoadKit.Exa Z h x ST) (V : RoadKit.Fld Z h x ST "value" "[B" v0) (C : RoadKit.Fld Z h x ST "coder" "B" c0) (K : RoadKit.Arr Z h b A .char) (hty : Typed .char A) (S : RoadKit.Sta Z h ST "COMPACT_STRINGS" "Z" (.int z)) (hz : ¬ z = 0)
    (l0 : 0 < A.slots.size) (l2 : A.slots.size ≤ 536870912) (hp : ∀ i, i < A.slots.size → ¬ 255 < cv A i) (hfr : 4 ≤ R.frames) (hlo : W + 65 ≤ R.locals) :
    Back l R p e below s args New1.yN len W (fun P a => a = #[.ref x, .ref b] ∧ P.U.heap = h ∧ P.cells + 1 ≤ R.cells ∧ P.slots + A.slots.size ≤ R.slots)
      (fun P _ v B => ∃ L, Q Z x A h v B.U.heap L ∧ B.locs = P.locs ++ L ∧ B.cells = P.cells + 1 ∧ B.slots = P.slots + A.slots.size) := by
  intro m meth c P g ig mk a X hg hsize hdg hW hn hp'
  obtain ⟨rfl, rfl, r1, r2⟩ := hp'
  have al : Z.vm.Alike P.U.vm := hZ.alike.trans X.warmed.alike
  obtain ⟨D, cfV, kV, iV, fV, hD, gV, stV, knV, obV, asV, slV⟩ := id V
  obtain ⟨D', cfC, kC, iC, fC, hD', gC, stC, -, -, asC, slC⟩ := id C
  cases hD.symm.trans hD'
  obtain ⟨D2, kD, e1, e2, e3, e4, e5⟩ := id E
  cases hD.symm.trans e1
  obtain ⟨c2, k2, i1, i2, i3, -⟩ := Cond.instantiable_spec wi
  cases e2.symm.trans i1
  cases e3.symm.trans i2
  obtain ⟨kU, u1, u2⟩ := al.2.2 _ _ e3
  have hB : Blank ST x D P.U := ⟨hD, ⟨knV, fun q hq => by rw [hq] at obV; cases obV⟩, by rw [al.findClass]; exact e2, kU, u1, by rw [u2]; exact i3, by rw [u2]; exact e5 i3⟩
  have F1 : Found ST "value" "[B" fV P.U := ⟨SBG.found_only al ⟨cfV, kV, iV, gV⟩, stV⟩
  have F2 : Found ST "coder" "B" fC P.U := ⟨SBG.found_only al ⟨cfC, kC, iC, gC⟩, stC⟩
  have hA : Ch b A P.U := ⟨⟨K.1, State.isArrayOf_alike al K.2.1, K.2.2, by omega⟩, hty⟩
  have hS : StaticIs P.U ST "COMPACT_STRINGS" "Z" (.int z) := by
    obtain ⟨cfS, iS, kS, fS, st, cS, t1, t2, t3, t4, t5, t6, t7⟩ := S
    exact StaticIs.there (s := { Z with heap := P.U.heap }) ⟨cfS, iS, kS, fS, st, cS, t1, t2, t3, t4, t5, (fun q => by rw [q] at t6; cases t6), t7⟩ al rfl
  obtain ⟨v, B, X', ⟨⟨hv, E', V', q1, q2, q3, q4, q5, q6, q7, q8, q9, q10, q11⟩, hl, hc, hs⟩, st⟩ := New1.pays x D fV fC b A z (tab_of (moved hZ hw)) hfr hlo m meth c P g ig mk _ X hg hsize hdg hW hn ⟨r1, r2, rfl, hB, F1, F2, hA, hS, hz, l0, l2, hp⟩
  have al' : Z.vm.Alike B.U.vm := hZ.alike.trans X'.warmed.alike
  have hsz : E'.slots.size = D.slots.size := by
    obtain ⟨-, -, -, kB, w1, w2, w3⟩ := q1
    obtain ⟨kB', y1, y2⟩ := al'.2.2 _ _ e3
    rw [q2.2.1] at w1
    cases w1.symm.trans y1
    rw [w3, e5 i3, y2]
  refine ⟨v, B, X', ⟨_, ⟨hv, ?_, ⟨by omega, fun y cy hy hn' => q10 y cy (by simpa using hn') hy, fun y cy hy => ?_⟩, q11, ⟨E', _, q1.1, by rw [q2.2.1]; exact e2, by rw [q2.2.1]; exact e3, by rw [q2.1]; exact obV, fun _ => by rw [hsz]; exact e5 i3⟩,
    ⟨E', cfV, kV, iV, fV, q1.1, gV, stV, by rw [q2.1]; exact knV, by rw [q2.1]; exact obV, by rw [q2.2.1]; exact asV, q3⟩, ⟨E', cfC, kC, iC, fC, q1.1, gC, stC, by rw [q2.1]; exact knV, by rw [q2.1]; exact obV, by rw [q2.2.1]; exact asC, q4⟩,
    ⟨V', ⟨q5.1, State.isArrayOf_alike al'.symm q5.2.1, q5.2.2.1⟩, q6, by rw [← al'.findClass]; exact q7, q8, fun j hj => by have := q9 j hj; rwa [Nat.zero_add] at this⟩, fun O n d w F n1 n2 => ?_⟩, hl, hc, hs⟩, st⟩
  · intro y hy
    simp only [List.mem_cons, List.not_mem_nil, or_false] at hy
    rcases hy with rfl | rfl <;> rfl
  · by_cases q : y = x
    · subst q
      cases hD.symm.trans hy
      exact ⟨E', q1.1, q2.2.1, q2.1, hsz⟩
    · exact ⟨cy, q10 y cy q hy, rfl, rfl, rfl⟩
  · obtain ⟨D3, cf, k, i, f, g1, g2, g3, g4, g5, g6, g7⟩ := F
    cases hD.symm.trans g1
    simp only [RoadKit.slotOf, g2, gV, gC, Option.map_some, Option.getD_some] at n1 n2
    exact ⟨E', cf, k, i, f, q1.1, g2, g3, by rw [q2.1]; exact g4, by rw [q2.1]; exact g5, by rw [q2.2.1]; exact g6, by rw [q2.2.2 f.slot (by simp [n1, n2])]; exact g7⟩
end StrChars.Road
namespace StrChars.Road
open Jvm Sem ClassFile Op Lib Jvm.Stand Jvm.Free Jvm.Free.XT
/-- WHAT COMES BACK, the byte[] as a list of values -/
def QA (Z : State) (x : Addr) (zn : Int32) (cs : List Int32) (h : Heap) (v : Option Value) (h' : Heap) (L : List Loc) : Prop := v = none ∧ (∀ y ∈ L, y.base = x) ∧ RoadKit.Keep h h' [x] ∧ h'.size = h.size + 1 ∧ RoadKit.Exa Z h' x ST ∧ RoadKit.Fld Z h' x ST "value" "[B" (.ref h.size) ∧ RoadKit.Fld Z h' x ST "coder" "B" (.int 0) ∧
  (∃ kb, Z.vm.findClass "[B" = some kb ∧ RoadKit.Arv Z h' h.size kb .byte zn (cs.map fun c => .int (lo8 c)) (.int 0)) ∧
  ∀ (O n d : String) (w : Value), RoadKit.Fld Z h x O n d w → RoadKit.slotOf Z O n d ≠ RoadKit.slotOf Z ST "value" "[B" → RoadKit.slotOf Z O n d ≠ RoadKit.slotOf Z ST "coder" "B" → RoadKit.Fld Z h' x O n d w
/-- **new String(chars) AT A CALL, THE ARRAYS AS LISTS**: the char[] at b holds cs, not empty, no char above 255 -/
theorem backArv {p : Program} {l : Launch} {e : Env} {R : Room} {s : State} {args : Array Value} {below : List Frame} {len W : Nat} {Z : State} {a0 : Array Value} {h : Heap} (hZ : Z.Warmed39 s.vm) (hw : ∀ d ∈ words, d.before a0 Z = true) {kI : Nat} (wi : (Jvm.Cond.instantiable ST kI).before a0 Z = true)
    {x b : Addr} {k : ClassId} {zn z : Int32} {cs : List Int32} {dv v0 c0 : Value} (E : RoadKit.Exa Z h x ST) (V : RoadKit.Fld Z h x ST "value" "[B" v0) (C : RoadKit.Fld Z h x ST "coder" "B" c0) (K : RoadKit.Arv Z h b k .char zn (cs.map Value.int) dv) (S : RoadKit.Sta Z h ST "COMPACT_STRINGS" "Z" (.int z)) (hz : ¬ z = 0)
    (hlen : zn.toNatClampNeg = cs.length) (h0 : 0 < cs.length) (hbig : cs.length ≤ 536870912) (hall : ∀ c ∈ cs, ¬ 255 < c) (hfr : 4 ≤ R.frames) (hlo : W + 65 ≤ R.locals) :
    Back l R p e below s args New1.yN len W (fun P a => a = #[.ref x, .ref b] ∧ P.U.heap = h ∧ P.cells + 1 ≤ R.cells ∧ P.slots + cs.length ≤ R.slots)
      (fun P _ v B => ∃ L, QA Z x zn cs h v B.U.heap L ∧ B.locs = P.locs ++ L ∧ B.cells = P.cells + 1 ∧ B.slots = P.slots + cs.length) := by
  obtain ⟨A, K1, K2, K3, K4, K5, K6⟩ := K
  have e : A.slots.size = cs.length := K3.trans hlen
  have hat : ∀ (i : Nat) (hi : i < cs.length), A.slots[i]? = some (.int cs[i]) := fun i hi => by rw [K5 i (by omega)]; simp [List.getD_eq_getElem?_getD, hi]
  have hcv : ∀ (i : Nat) (hi : i < cs.length), cv A i = cs[i] := fun i hi => by unfold cv; rw [hat i hi]
  have hty : Typed .char A := fun i v hv => by
    have hi : i < A.slots.size := (Array.getElem?_eq_some_iff.mp hv).1
    have q := K5 i hi
    rw [hv] at q
    rw [Option.some.inj q]
    exact K6 i hi
  refine Back.mono (back hZ hw wi E V C K1 hty S hz (by omega) (by omega) (fun i hi => by rw [hcv i (by omega)]; exact hall _ (List.getElem_mem _)) hfr hlo) (fun P a hp => ⟨hp.1, hp.2.1, hp.2.2.1, by rw [e]; exact hp.2.2.2⟩) (fun P a v B hp hq => ?_)
  obtain ⟨L, ⟨q1, q2, q3, q4, q5, q6, q7, ⟨V', v1, v2, v3, v4, v5⟩, q9⟩, hl, hc, hs⟩ := hq
  refine ⟨L, ⟨q1, q2, q3, q4, q5, q6, q7, ⟨V'.cls, v3, V', v1, rfl, by rw [v4, e, hlen], K4, fun i hi => ?_, fun i hi => ?_⟩, q9⟩, hl, hc, by rw [hs, e]⟩
  · have hi' : i < cs.length := by omega
    rw [v5 i (by omega), hcv i hi']; simp [List.getD_eq_getElem?_getD, hi']
  · have hi' : i < cs.length := by omega
    simp only [List.getD_eq_getElem?_getD, List.getElem?_map, List.getElem?_eq_getElem hi', Option.map_some, Option.getD_some]
    exact fits_lo8 _
end StrChars.Road
namespace StrChars.Road
open Jvm Sem ClassFile Op Lib Jvm.Stand Jvm.Free Jvm.Free.XT
/-- WHAT COMES BACK, in the writer's own shape -/
def QV (Z : State) (x : Addr) (N : Int32) (bs : List Int32) (h : Heap) (n0 : Nat) (v : Option Value) (h' : Heap) (L : List Loc) : Prop := v = none ∧ RoadKit.Fr n0 L ∧ RoadKit.Keep h h' [x] ∧ RoadKit.Exa Z h' x ST ∧ RoadKit.Fld Z h' x ST "coder" "B" (.int 0) ∧
  ∃ (t : Addr) (kb : ClassId), n0 ≤ t ∧ h.size ≤ t ∧ ¬ t = x ∧ RoadKit.Fld Z h' x ST "value" "[B" (.ref t) ∧ RoadKit.Arv Z h' t kb .byte N (bs.map Value.int) (.int 0)
/-- **new String(chars) AT A CALL, FOR THE WRITER**: a char[] of n known ints, each 0 to 255 -/
theorem backV {p : Program} {l : Launch} {e : Env} {R : Room} {s : State} {args : Array Value} {below : List Frame} {len W : Nat} {Z : State} {a0 : Array Value} {h : Heap} (hZ : Z.Warmed39 s.vm) (hw : ∀ d ∈ words, d.before a0 Z = true) {kI : Nat} (wi : (Jvm.Cond.instantiable ST kI).before a0 Z = true)
    {x b : Addr} {kC : ClassId} {cs bs : List Int32} {d v0 c0 : Value} {z N : Int32} {n n0 : Nat} (hx0 : n0 ≤ x) (hh0 : n0 ≤ h.size) (E : RoadKit.Exa Z h x ST) (V : RoadKit.Fld Z h x ST "value" "[B" v0) (C : RoadKit.Fld Z h x ST "coder" "B" c0) (K : RoadKit.Arv Z h b kC .char N (cs.map Value.int) d) (S : RoadKit.Sta Z h ST "COMPACT_STRINGS" "Z" (.int z)) (hz : ¬ z = 0)
    (hn : cs.length = n) (hN : N = Int32.ofNat n) (l0 : 0 < n) (l2 : n ≤ 4000) (hp : ∀ c ∈ cs, ¬ c < 0 ∧ ¬ (255 : Int32) < c) (hb : bs = cs.map (fun c => c.toInt8.toInt32)) (hfr : 4 ≤ R.frames) (hlo : W + 65 ≤ R.locals) :
    Back l R p e below s args (⟨"java/lang/String", "<init>", "([C)V"⟩ : MethodName) len W (fun P a => a = #[.ref x, .ref b] ∧ P.U.heap = h ∧ P.cells + 1 ≤ R.cells ∧ P.slots + n ≤ R.slots)
      (fun P _ v B => ∃ L, QV Z x N bs h n0 v B.U.heap L ∧ B.locs = P.locs ++ L ∧ B.cells = P.cells + 1 ∧ B.slots = P.slots + n) := by
  subst hn hN hb
  refine Back.mono (backArv hZ hw wi E V C K S hz (n32 (by omega)) l0 (by omega) (fun c hc => (hp c hc).2) hfr hlo) (fun P a hp => hp) (fun P a v B hp hq => ?_)
  obtain ⟨L, ⟨q1, q2, q3, q4, q5, q6, q7, ⟨kb, v1, v2⟩, q9⟩, hl, hc, hs⟩ := hq
  exact ⟨L, ⟨q1, fun y hy => by rw [q2 y hy]; exact hx0, q3, q5, q7, h.size, kb, hh0, Nat.le_refl _, Nat.ne_of_gt E.lt, q6, by rw [List.map_map]; exact v2⟩, hl, hc, hs⟩
end StrChars.Road
namespace StrChars
open Jvm Sem ClassFile Op Lib Jvm.Stand Jvm.Free.XT Jvm.Free.ALB Jvm.Free.JM Jvm.Free
open Jvm.Lib.Cold (StaticIs)
/-- charAt's cast of a byte read back -/
def chr8 (u : Int32) : Int32 := (u &&& 255).toUInt32.toUInt16.toUInt32.toInt32
theorem chr8_lo8 {c : Int32} (h0 : ¬ c < 0) (h1 : ¬ 255 < c) : chr8 (lo8 c) = c := by
  have t : ∀ k : Fin 256, (Int32.ofNat k.val).toUInt32.toUInt16.toUInt32.toInt32 = Int32.ofNat k.val := by decide +kernel
  unfold chr8
  rw [lo8_mask h0 h1]
  rw [Int32.lt_iff_toInt_lt] at h0 h1
  have e0 : (0 : Int32).toInt = 0 := rfl
  have e1 : (255 : Int32).toInt = 255 := rfl
  obtain ⟨k, hk⟩ : ∃ k : Nat, c.toInt = k := ⟨c.toInt.toNat, by omega⟩
  have hx : c = Int32.ofNat k := Int32.toInt_inj.mp (by rw [hk, Int32.toInt_ofNat_small (by omega)])
  rw [hx]
  exact t ⟨k, by omega⟩
end StrChars
end Jvm.Pilot.@@N@@
namespace Jvm.Pilot.@@N@@
open Jvm Jvm.ClassFile Sem Op Lib Jvm.Free Jvm.Stand Jvm.LawKit Jvm.RoadKit Bundle Jvm.Pilot.@@N@@.Jvm.D
abbrev HW (a0 : Array Value) (Z : State) : Prop := ∀ d ∈ tables_1, d.before a0 Z = true
theorem oMem {d : Jvm.Cond} (i : Nat) (h : tables_1[i]? = some d) : d ∈ tables_1 := List.mem_of_getElem? h
section Words
variable {a0 : Array Value} {Z : State}
theorem Wd0 (hw : HW a0 Z) : (Jvm.Cond.methodLink "com/example/quayside/quayside/web/HtmlClosePinLaw" (7 : Nat) ({ cls := "com/example/quayside/quayside/web/HtmlClosePinLaw", name := "tag", desc := "(I)Ljava/lang/String;" } : Jvm.MethodName)).before a0 Z = true := hw _ (oMem 0 rfl)
theorem Wd1 (hw : HW a0 Z) : (Jvm.Cond.static ({ cls := "com/example/quayside/quayside/web/HtmlClosePinLaw", name := "tag", desc := "(I)Ljava/lang/String;" } : Jvm.MethodName)).before a0 Z = true := hw _ (oMem 1 rfl)
theorem Wd2 (hw : HW a0 Z) : (Jvm.Cond.initialized "com/example/quayside/quayside/web/HtmlClosePinLaw").before a0 Z = true := hw _ (oMem 2 rfl)
theorem Wd3 (hw : HW a0 Z) : (Jvm.Cond.code ({ cls := "com/example/quayside/quayside/web/HtmlClosePinLaw", name := "tag", desc := "(I)Ljava/lang/String;" } : Jvm.MethodName) method_3_code (5 : Nat) (Option.some (Jvm.ClassFile.FieldType.object "java/lang/String"))).before a0 Z = true := hw _ (oMem 3 rfl)
theorem Wd4 (hw : HW a0 Z) : (Jvm.Cond.classLink "com/example/quayside/quayside/web/HtmlClosePinLaw" (29 : Nat) "java/lang/String").before a0 Z = true := hw _ (oMem 4 rfl)
theorem Wd5 (hw : HW a0 Z) : (Jvm.Cond.instantiable "java/lang/String" (4 : Nat)).before a0 Z = true := hw _ (oMem 5 rfl)
theorem Wd6 (hw : HW a0 Z) : (Jvm.Cond.initialized "java/lang/String").before a0 Z = true := hw _ (oMem 6 rfl)
theorem Wd7 (hw : HW a0 Z) : (Jvm.Cond.arrayClass Jvm.ClassFile.FieldType.char).before a0 Z = true := hw _ (oMem 7 rfl)
theorem Wd8 (hw : HW a0 Z) : (Jvm.Cond.methodLink "com/example/quayside/quayside/web/HtmlClosePinLaw" (34 : Nat) ({ cls := "java/lang/String", name := "<init>", desc := "([C)V" } : Jvm.MethodName)).before a0 Z = true := hw _ (oMem 8 rfl)
theorem Wd9 (hw : HW a0 Z) : (Jvm.Cond.instanceMethod ({ cls := "java/lang/String", name := "<init>", desc := "([C)V" } : Jvm.MethodName)).before a0 Z = true := hw _ (oMem 9 rfl)
theorem Wd10 (hw : HW a0 Z) : (Jvm.Cond.code ({ cls := "java/lang/String", name := "<init>", desc := "([C)V" } : Jvm.MethodName) jdk_42_method_3_code (2 : Nat) (Option.none : Option Jvm.ClassFile.FieldType)).before a0 Z = true := hw _ (oMem 10 rfl)
theorem Wd11 (hw : HW a0 Z) : (Jvm.Cond.methodLink "java/lang/String" (27 : Nat) ({ cls := "java/lang/String", name := "<init>", desc := "([CIILjava/lang/Void;)V" } : Jvm.MethodName)).before a0 Z = true := hw _ (oMem 11 rfl)
theorem Wd12 (hw : HW a0 Z) : (Jvm.Cond.instanceMethod ({ cls := "java/lang/String", name := "<init>", desc := "([CIILjava/lang/Void;)V" } : Jvm.MethodName)).before a0 Z = true := hw _ (oMem 12 rfl)
theorem Wd14 (hw : HW a0 Z) : (Jvm.Cond.code ({ cls := "java/lang/String", name := "<init>", desc := "([CIILjava/lang/Void;)V" } : Jvm.MethodName) jdk_42_method_149_code (6 : Nat) (Option.none : Option Jvm.ClassFile.FieldType)).before a0 Z = true := hw _ (oMem 14 rfl)
theorem Wd15 (hw : HW a0 Z) : (Jvm.Cond.methodLink "java/lang/String" (1 : Nat) ({ cls := "java/lang/Object", name := "<init>", desc := "()V" } : Jvm.MethodName)).before a0 Z = true := hw _ (oMem 15 rfl)
theorem Wd16 (hw : HW a0 Z) : (Jvm.Cond.instanceMethod ({ cls := "java/lang/Object", name := "<init>", desc := "()V" } : Jvm.MethodName)).before a0 Z = true := hw _ (oMem 16 rfl)
theorem Wd17 (hw : HW a0 Z) : (Jvm.Cond.code ({ cls := "java/lang/Object", name := "<init>", desc := "()V" } : Jvm.MethodName) object_method_1_code (1 : Nat) (Option.none : Option Jvm.ClassFile.FieldType)).before a0 Z = true := hw _ (oMem 17 rfl)
theorem Wd18 (hw : HW a0 Z) : (Jvm.Cond.stringLink "java/lang/String" (7 : Nat) "").before a0 Z = true := hw _ (oMem 18 rfl)
theorem Wd19 (hw : HW a0 Z) : (Jvm.Cond.arrayClass Jvm.ClassFile.FieldType.byte).before a0 Z = true := hw _ (oMem 19 rfl)
theorem Wd20 (hw : HW a0 Z) : (Jvm.Cond.laysFinal "java/lang/String" "java/lang/String" "value" "[B").before a0 Z = true := hw _ (oMem 20 rfl)
theorem Wd21 (hw : HW a0 Z) : (Jvm.Cond.laysFinal "java/lang/String" "java/lang/String" "coder" "B").before a0 Z = true := hw _ (oMem 21 rfl)
theorem Wd24 (hw : HW a0 Z) : (Jvm.Cond.fieldLink "java/lang/String" (9 : Nat) "java/lang/String" "value" "[B").before a0 Z = true := hw _ (oMem 24 rfl)
theorem Wd25 (hw : HW a0 Z) : (Jvm.Cond.fieldLink "java/lang/String" (15 : Nat) "java/lang/String" "coder" "B").before a0 Z = true := hw _ (oMem 25 rfl)
theorem Wd26 (hw : HW a0 Z) : (Jvm.Cond.classLink "com/example/quayside/quayside/web/HtmlClosePinLaw" (13 : Nat) "com/example/quayside/quayside/web/Html").before a0 Z = true := hw _ (oMem 26 rfl)
theorem Wd27 (hw : HW a0 Z) : (Jvm.Cond.instantiable "com/example/quayside/quayside/web/Html" (1 : Nat)).before a0 Z = true := hw _ (oMem 27 rfl)
theorem Wd28 (hw : HW a0 Z) : (Jvm.Cond.initialized "com/example/quayside/quayside/web/Html").before a0 Z = true := hw _ (oMem 28 rfl)
theorem Wd29 (hw : HW a0 Z) : (Jvm.Cond.methodLink "com/example/quayside/quayside/web/HtmlClosePinLaw" (15 : Nat) ({ cls := "com/example/quayside/quayside/web/Html", name := "<init>", desc := "()V" } : Jvm.MethodName)).before a0 Z = true := hw _ (oMem 29 rfl)
theorem Wd30 (hw : HW a0 Z) : (Jvm.Cond.instanceMethod ({ cls := "com/example/quayside/quayside/web/Html", name := "<init>", desc := "()V" } : Jvm.MethodName)).before a0 Z = true := hw _ (oMem 30 rfl)
theorem Wd31 (hw : HW a0 Z) : (Jvm.Cond.code ({ cls := "com/example/quayside/quayside/web/Html", name := "<init>", desc := "()V" } : Jvm.MethodName) prog_35_method_1_code (1 : Nat) (Option.none : Option Jvm.ClassFile.FieldType)).before a0 Z = true := hw _ (oMem 31 rfl)
theorem Wd32 (hw : HW a0 Z) : (Jvm.Cond.methodLink "com/example/quayside/quayside/web/Html" (1 : Nat) ({ cls := "java/lang/Object", name := "<init>", desc := "()V" } : Jvm.MethodName)).before a0 Z = true := hw _ (oMem 32 rfl)
theorem Wd33 (hw : HW a0 Z) : (Jvm.Cond.classLink "com/example/quayside/quayside/web/Html" (7 : Nat) "java/lang/StringBuilder").before a0 Z = true := hw _ (oMem 33 rfl)
theorem Wd34 (hw : HW a0 Z) : (Jvm.Cond.instantiable "java/lang/StringBuilder" (4 : Nat)).before a0 Z = true := hw _ (oMem 34 rfl)
theorem Wd35 (hw : HW a0 Z) : (Jvm.Cond.initialized "java/lang/StringBuilder").before a0 Z = true := hw _ (oMem 35 rfl)
theorem Wd36 (hw : HW a0 Z) : (Jvm.Cond.methodLink "com/example/quayside/quayside/web/Html" (9 : Nat) ({ cls := "java/lang/StringBuilder", name := "<init>", desc := "()V" } : Jvm.MethodName)).before a0 Z = true := hw _ (oMem 36 rfl)
theorem Wd37 (hw : HW a0 Z) : (Jvm.Cond.instanceMethod ({ cls := "java/lang/StringBuilder", name := "<init>", desc := "()V" } : Jvm.MethodName)).before a0 Z = true := hw _ (oMem 37 rfl)
theorem Wd38 (hw : HW a0 Z) : (Jvm.Cond.code ({ cls := "java/lang/StringBuilder", name := "<init>", desc := "()V" } : Jvm.MethodName) jdk_67_method_1_code (1 : Nat) (Option.none : Option Jvm.ClassFile.FieldType)).before a0 Z = true := hw _ (oMem 38 rfl)
theorem Wd39 (hw : HW a0 Z) : (Jvm.Cond.methodLink "java/lang/StringBuilder" (1 : Nat) ({ cls := "java/lang/AbstractStringBuilder", name := "<init>", desc := "(I)V" } : Jvm.MethodName)).before a0 Z = true := hw _ (oMem 39 rfl)
theorem Wd40 (hw : HW a0 Z) : (Jvm.Cond.instanceMethod ({ cls := "java/lang/AbstractStringBuilder", name := "<init>", desc := "(I)V" } : Jvm.MethodName)).before a0 Z = true := hw _ (oMem 40 rfl)
theorem Wd43 (hw : HW a0 Z) : (Jvm.Cond.initialized "java/lang/AbstractStringBuilder").before a0 Z = true := hw _ (oMem 43 rfl)
theorem Wd44 (hw : HW a0 Z) : (Jvm.Cond.code ({ cls := "java/lang/AbstractStringBuilder", name := "<init>", desc := "(I)V" } : Jvm.MethodName) jdk_68_method_2_code (2 : Nat) (Option.none : Option Jvm.ClassFile.FieldType)).before a0 Z = true := hw _ (oMem 44 rfl)
theorem Wd45 (hw : HW a0 Z) : (Jvm.Cond.methodLink "java/lang/AbstractStringBuilder" (3 : Nat) ({ cls := "java/lang/Object", name := "<init>", desc := "()V" } : Jvm.MethodName)).before a0 Z = true := hw _ (oMem 45 rfl)
theorem Wd46 (hw : HW a0 Z) : (Jvm.Cond.fieldLink "java/lang/AbstractStringBuilder" (18 : Nat) "java/lang/String" "COMPACT_STRINGS" "Z").before a0 Z = true := hw _ (oMem 46 rfl)
theorem Wd47 (hw : HW a0 Z) : (Jvm.Cond.fieldLink "java/lang/AbstractStringBuilder" (15 : Nat) "java/lang/AbstractStringBuilder" "value" "[B").before a0 Z = true := hw _ (oMem 47 rfl)
theorem Wd48 (hw : HW a0 Z) : (Jvm.Cond.lays "java/lang/StringBuilder" "java/lang/AbstractStringBuilder" "value" "[B").before a0 Z = true := hw _ (oMem 48 rfl)
theorem Wd49 (hw : HW a0 Z) : (Jvm.Cond.fieldLink "java/lang/AbstractStringBuilder" (22 : Nat) "java/lang/AbstractStringBuilder" "coder" "B").before a0 Z = true := hw _ (oMem 49 rfl)
theorem Wd50 (hw : HW a0 Z) : (Jvm.Cond.lays "java/lang/StringBuilder" "java/lang/AbstractStringBuilder" "coder" "B").before a0 Z = true := hw _ (oMem 50 rfl)
theorem Wd51 (hw : HW a0 Z) : (Jvm.Cond.fieldLink "com/example/quayside/quayside/web/Html" (10 : Nat) "com/example/quayside/quayside/web/Html" "html" "Ljava/lang/StringBuilder;").before a0 Z = true := hw _ (oMem 51 rfl)
theorem Wd52 (hw : HW a0 Z) : (Jvm.Cond.laysFinal "com/example/quayside/quayside/web/Html" "com/example/quayside/quayside/web/Html" "html" "Ljava/lang/StringBuilder;").before a0 Z = true := hw _ (oMem 52 rfl)
theorem Wd53 (hw : HW a0 Z) : (Jvm.Cond.methodLink "com/example/quayside/quayside/web/HtmlClosePinLaw" (16 : Nat) ({ cls := "com/example/quayside/quayside/web/Html", name := "close", desc := "(Ljava/lang/String;)Lcom/example/quayside/quayside/web/Html;" } : Jvm.MethodName)).before a0 Z = true := hw _ (oMem 53 rfl)
theorem Wd54 (hw : HW a0 Z) : (Jvm.Cond.declares ({ cls := "com/example/quayside/quayside/web/Html", name := "close", desc := "(Ljava/lang/String;)Lcom/example/quayside/quayside/web/Html;" } : Jvm.MethodName)).before a0 Z = true := hw _ (oMem 54 rfl)
theorem Wd55 (hw : HW a0 Z) : (Jvm.Cond.instanceMethod ({ cls := "com/example/quayside/quayside/web/Html", name := "close", desc := "(Ljava/lang/String;)Lcom/example/quayside/quayside/web/Html;" } : Jvm.MethodName)).before a0 Z = true := hw _ (oMem 55 rfl)
theorem Wd56 (hw : HW a0 Z) : (Jvm.Cond.selects "com/example/quayside/quayside/web/Html" ({ cls := "com/example/quayside/quayside/web/Html", name := "close", desc := "(Ljava/lang/String;)Lcom/example/quayside/quayside/web/Html;" } : Jvm.MethodName) ({ cls := "com/example/quayside/quayside/web/Html", name := "close", desc := "(Ljava/lang/String;)Lcom/example/quayside/quayside/web/Html;" } : Jvm.MethodName)).before a0 Z = true := hw _ (oMem 56 rfl)
theorem Wd57 (hw : HW a0 Z) : (Jvm.Cond.code ({ cls := "com/example/quayside/quayside/web/Html", name := "close", desc := "(Ljava/lang/String;)Lcom/example/quayside/quayside/web/Html;" } : Jvm.MethodName) prog_35_method_3_code (2 : Nat) (Option.some (Jvm.ClassFile.FieldType.object "com/example/quayside/quayside/web/Html"))).before a0 Z = true := hw _ (oMem 57 rfl)
theorem Wd58 (hw : HW a0 Z) : (Jvm.Cond.stringLink "com/example/quayside/quayside/web/Html" (29 : Nat) "</").before a0 Z = true := hw _ (oMem 58 rfl)
theorem Wd59 (hw : HW a0 Z) : (Jvm.Cond.methodLink "com/example/quayside/quayside/web/Html" (20 : Nat) ({ cls := "java/lang/StringBuilder", name := "append", desc := "(Ljava/lang/String;)Ljava/lang/StringBuilder;" } : Jvm.MethodName)).before a0 Z = true := hw _ (oMem 59 rfl)
theorem Wd60 (hw : HW a0 Z) : (Jvm.Cond.declares ({ cls := "java/lang/StringBuilder", name := "append", desc := "(Ljava/lang/String;)Ljava/lang/StringBuilder;" } : Jvm.MethodName)).before a0 Z = true := hw _ (oMem 60 rfl)
theorem Wd61 (hw : HW a0 Z) : (Jvm.Cond.instanceMethod ({ cls := "java/lang/StringBuilder", name := "append", desc := "(Ljava/lang/String;)Ljava/lang/StringBuilder;" } : Jvm.MethodName)).before a0 Z = true := hw _ (oMem 61 rfl)
theorem Wd62 (hw : HW a0 Z) : (Jvm.Cond.selects "java/lang/StringBuilder" ({ cls := "java/lang/StringBuilder", name := "append", desc := "(Ljava/lang/String;)Ljava/lang/StringBuilder;" } : Jvm.MethodName) ({ cls := "java/lang/StringBuilder", name := "append", desc := "(Ljava/lang/String;)Ljava/lang/StringBuilder;" } : Jvm.MethodName)).before a0 Z = true := hw _ (oMem 62 rfl)
theorem Wd63 (hw : HW a0 Z) : (Jvm.Cond.code ({ cls := "java/lang/StringBuilder", name := "append", desc := "(Ljava/lang/String;)Ljava/lang/StringBuilder;" } : Jvm.MethodName) jdk_67_method_7_code (2 : Nat) (Option.some (Jvm.ClassFile.FieldType.object "java/lang/StringBuilder"))).before a0 Z = true := hw _ (oMem 63 rfl)
theorem Wd64 (hw : HW a0 Z) : (Jvm.Cond.methodLink "java/lang/StringBuilder" (29 : Nat) ({ cls := "java/lang/AbstractStringBuilder", name := "append", desc := "(Ljava/lang/String;)Ljava/lang/AbstractStringBuilder;" } : Jvm.MethodName)).before a0 Z = true := hw _ (oMem 64 rfl)
theorem Wd65 (hw : HW a0 Z) : (Jvm.Cond.instanceMethod ({ cls := "java/lang/AbstractStringBuilder", name := "append", desc := "(Ljava/lang/String;)Ljava/lang/AbstractStringBuilder;" } : Jvm.MethodName)).before a0 Z = true := hw _ (oMem 65 rfl)
theorem Wd66 (hw : HW a0 Z) : (Jvm.Cond.superclass "java/lang/StringBuilder" "java/lang/AbstractStringBuilder").before a0 Z = true := hw _ (oMem 66 rfl)
theorem Wd68 (hw : HW a0 Z) : (Jvm.Cond.code ({ cls := "java/lang/AbstractStringBuilder", name := "append", desc := "(Ljava/lang/String;)Ljava/lang/AbstractStringBuilder;" } : Jvm.MethodName) jdk_68_method_22_code (3 : Nat) (Option.some (Jvm.ClassFile.FieldType.object "java/lang/AbstractStringBuilder"))).before a0 Z = true := hw _ (oMem 68 rfl)
theorem Wd69 (hw : HW a0 Z) : (Jvm.Cond.methodLink "java/lang/AbstractStringBuilder" (32 : Nat) ({ cls := "java/lang/String", name := "length", desc := "()I" } : Jvm.MethodName)).before a0 Z = true := hw _ (oMem 69 rfl)
theorem Wd70 (hw : HW a0 Z) : (Jvm.Cond.declares ({ cls := "java/lang/String", name := "length", desc := "()I" } : Jvm.MethodName)).before a0 Z = true := hw _ (oMem 70 rfl)
theorem Wd71 (hw : HW a0 Z) : (Jvm.Cond.instanceMethod ({ cls := "java/lang/String", name := "length", desc := "()I" } : Jvm.MethodName)).before a0 Z = true := hw _ (oMem 71 rfl)
theorem Wd72 (hw : HW a0 Z) : (Jvm.Cond.selects "java/lang/String" ({ cls := "java/lang/String", name := "length", desc := "()I" } : Jvm.MethodName) ({ cls := "java/lang/String", name := "length", desc := "()I" } : Jvm.MethodName)).before a0 Z = true := hw _ (oMem 72 rfl)
theorem Wd73 (hw : HW a0 Z) : (Jvm.Cond.code ({ cls := "java/lang/String", name := "length", desc := "()I" } : Jvm.MethodName) jdk_42_method_54_code (1 : Nat) (Option.some Jvm.ClassFile.FieldType.int)).before a0 Z = true := hw _ (oMem 73 rfl)
theorem Wd74 (hw : HW a0 Z) : (Jvm.Cond.methodLink "java/lang/String" (335 : Nat) ({ cls := "java/lang/String", name := "coder", desc := "()B" } : Jvm.MethodName)).before a0 Z = true := hw _ (oMem 74 rfl)
theorem Wd75 (hw : HW a0 Z) : (Jvm.Cond.declares ({ cls := "java/lang/String", name := "coder", desc := "()B" } : Jvm.MethodName)).before a0 Z = true := hw _ (oMem 75 rfl)
theorem Wd76 (hw : HW a0 Z) : (Jvm.Cond.instanceMethod ({ cls := "java/lang/String", name := "coder", desc := "()B" } : Jvm.MethodName)).before a0 Z = true := hw _ (oMem 76 rfl)
theorem Wd77 (hw : HW a0 Z) : (Jvm.Cond.selects "java/lang/String" ({ cls := "java/lang/String", name := "coder", desc := "()B" } : Jvm.MethodName) ({ cls := "java/lang/String", name := "coder", desc := "()B" } : Jvm.MethodName)).before a0 Z = true := hw _ (oMem 77 rfl)
theorem Wd78 (hw : HW a0 Z) : (Jvm.Cond.code ({ cls := "java/lang/String", name := "coder", desc := "()B" } : Jvm.MethodName) jdk_42_method_152_code (1 : Nat) (Option.some Jvm.ClassFile.FieldType.byte)).before a0 Z = true := hw _ (oMem 78 rfl)
theorem Wd79 (hw : HW a0 Z) : (Jvm.Cond.fieldLink "java/lang/String" (38 : Nat) "java/lang/String" "COMPACT_STRINGS" "Z").before a0 Z = true := hw _ (oMem 79 rfl)
theorem Wd80 (hw : HW a0 Z) : (Jvm.Cond.fieldLink "java/lang/AbstractStringBuilder" (79 : Nat) "java/lang/AbstractStringBuilder" "count" "I").before a0 Z = true := hw _ (oMem 80 rfl)
theorem Wd81 (hw : HW a0 Z) : (Jvm.Cond.lays "java/lang/StringBuilder" "java/lang/AbstractStringBuilder" "count" "I").before a0 Z = true := hw _ (oMem 81 rfl)
theorem Wd82 (hw : HW a0 Z) : (Jvm.Cond.methodLink "java/lang/AbstractStringBuilder" (100 : Nat) ({ cls := "java/lang/AbstractStringBuilder", name := "ensureCapacityInternal", desc := "(I)V" } : Jvm.MethodName)).before a0 Z = true := hw _ (oMem 82 rfl)
theorem Wd83 (hw : HW a0 Z) : (Jvm.Cond.instanceMethod ({ cls := "java/lang/AbstractStringBuilder", name := "ensureCapacityInternal", desc := "(I)V" } : Jvm.MethodName)).before a0 Z = true := hw _ (oMem 83 rfl)
theorem Wd84 (hw : HW a0 Z) : (Jvm.Cond.privateMethod ({ cls := "java/lang/AbstractStringBuilder", name := "ensureCapacityInternal", desc := "(I)V" } : Jvm.MethodName)).before a0 Z = true := hw _ (oMem 84 rfl)
theorem Wd85 (hw : HW a0 Z) : (Jvm.Cond.selects "java/lang/StringBuilder" ({ cls := "java/lang/AbstractStringBuilder", name := "ensureCapacityInternal", desc := "(I)V" } : Jvm.MethodName) ({ cls := "java/lang/AbstractStringBuilder", name := "ensureCapacityInternal", desc := "(I)V" } : Jvm.MethodName)).before a0 Z = true := hw _ (oMem 85 rfl)
theorem Wd86 (hw : HW a0 Z) : (Jvm.Cond.code ({ cls := "java/lang/AbstractStringBuilder", name := "ensureCapacityInternal", desc := "(I)V" } : Jvm.MethodName) jdk_68_method_9_code (3 : Nat) (Option.none : Option Jvm.ClassFile.FieldType)).before a0 Z = true := hw _ (oMem 86 rfl)
theorem Wd87 (hw : HW a0 Z) : (Jvm.Cond.methodLink "java/lang/AbstractStringBuilder" (208 : Nat) ({ cls := "java/lang/AbstractStringBuilder", name := "putStringAt", desc := "(ILjava/lang/String;)V" } : Jvm.MethodName)).before a0 Z = true := hw _ (oMem 87 rfl)
theorem Wd88 (hw : HW a0 Z) : (Jvm.Cond.instanceMethod ({ cls := "java/lang/AbstractStringBuilder", name := "putStringAt", desc := "(ILjava/lang/String;)V" } : Jvm.MethodName)).before a0 Z = true := hw _ (oMem 88 rfl)
theorem Wd89 (hw : HW a0 Z) : (Jvm.Cond.privateMethod ({ cls := "java/lang/AbstractStringBuilder", name := "putStringAt", desc := "(ILjava/lang/String;)V" } : Jvm.MethodName)).before a0 Z = true := hw _ (oMem 89 rfl)
theorem Wd90 (hw : HW a0 Z) : (Jvm.Cond.selects "java/lang/StringBuilder" ({ cls := "java/lang/AbstractStringBuilder", name := "putStringAt", desc := "(ILjava/lang/String;)V" } : Jvm.MethodName) ({ cls := "java/lang/AbstractStringBuilder", name := "putStringAt", desc := "(ILjava/lang/String;)V" } : Jvm.MethodName)).before a0 Z = true := hw _ (oMem 90 rfl)
theorem Wd91 (hw : HW a0 Z) : (Jvm.Cond.code ({ cls := "java/lang/AbstractStringBuilder", name := "putStringAt", desc := "(ILjava/lang/String;)V" } : Jvm.MethodName) jdk_68_method_73_code (3 : Nat) (Option.none : Option Jvm.ClassFile.FieldType)).before a0 Z = true := hw _ (oMem 91 rfl)
theorem Wd92 (hw : HW a0 Z) : (Jvm.Cond.methodLink "java/lang/AbstractStringBuilder" (397 : Nat) ({ cls := "java/lang/AbstractStringBuilder", name := "inflateIfNeededFor", desc := "(Ljava/lang/String;)V" } : Jvm.MethodName)).before a0 Z = true := hw _ (oMem 92 rfl)
theorem Wd93 (hw : HW a0 Z) : (Jvm.Cond.instanceMethod ({ cls := "java/lang/AbstractStringBuilder", name := "inflateIfNeededFor", desc := "(Ljava/lang/String;)V" } : Jvm.MethodName)).before a0 Z = true := hw _ (oMem 93 rfl)
theorem Wd94 (hw : HW a0 Z) : (Jvm.Cond.privateMethod ({ cls := "java/lang/AbstractStringBuilder", name := "inflateIfNeededFor", desc := "(Ljava/lang/String;)V" } : Jvm.MethodName)).before a0 Z = true := hw _ (oMem 94 rfl)
theorem Wd95 (hw : HW a0 Z) : (Jvm.Cond.selects "java/lang/StringBuilder" ({ cls := "java/lang/AbstractStringBuilder", name := "inflateIfNeededFor", desc := "(Ljava/lang/String;)V" } : Jvm.MethodName) ({ cls := "java/lang/AbstractStringBuilder", name := "inflateIfNeededFor", desc := "(Ljava/lang/String;)V" } : Jvm.MethodName)).before a0 Z = true := hw _ (oMem 95 rfl)
theorem Wd96 (hw : HW a0 Z) : (Jvm.Cond.code ({ cls := "java/lang/AbstractStringBuilder", name := "inflateIfNeededFor", desc := "(Ljava/lang/String;)V" } : Jvm.MethodName) jdk_68_method_71_code (2 : Nat) (Option.none : Option Jvm.ClassFile.FieldType)).before a0 Z = true := hw _ (oMem 96 rfl)
theorem Wd97 (hw : HW a0 Z) : (Jvm.Cond.methodLink "java/lang/AbstractStringBuilder" (40 : Nat) ({ cls := "java/lang/String", name := "coder", desc := "()B" } : Jvm.MethodName)).before a0 Z = true := hw _ (oMem 97 rfl)
theorem Wd98 (hw : HW a0 Z) : (Jvm.Cond.methodLink "java/lang/AbstractStringBuilder" (399 : Nat) ({ cls := "java/lang/String", name := "getBytes", desc := "([BIB)V" } : Jvm.MethodName)).before a0 Z = true := hw _ (oMem 98 rfl)
theorem Wd99 (hw : HW a0 Z) : (Jvm.Cond.declares ({ cls := "java/lang/String", name := "getBytes", desc := "([BIB)V" } : Jvm.MethodName)).before a0 Z = true := hw _ (oMem 99 rfl)
theorem Wd100 (hw : HW a0 Z) : (Jvm.Cond.instanceMethod ({ cls := "java/lang/String", name := "getBytes", desc := "([BIB)V" } : Jvm.MethodName)).before a0 Z = true := hw _ (oMem 100 rfl)
theorem Wd101 (hw : HW a0 Z) : (Jvm.Cond.selects "java/lang/String" ({ cls := "java/lang/String", name := "getBytes", desc := "([BIB)V" } : Jvm.MethodName) ({ cls := "java/lang/String", name := "getBytes", desc := "([BIB)V" } : Jvm.MethodName)).before a0 Z = true := hw _ (oMem 101 rfl)
theorem Wd102 (hw : HW a0 Z) : (Jvm.Cond.code ({ cls := "java/lang/String", name := "getBytes", desc := "([BIB)V" } : Jvm.MethodName) jdk_42_method_147_code (4 : Nat) (Option.none : Option Jvm.ClassFile.FieldType)).before a0 Z = true := hw _ (oMem 102 rfl)
theorem Wd103 (hw : HW a0 Z) : (Jvm.Cond.methodLink "java/lang/String" (212 : Nat) ({ cls := "java/lang/System", name := "arraycopy", desc := "(Ljava/lang/Object;ILjava/lang/Object;II)V" } : Jvm.MethodName)).before a0 Z = true := hw _ (oMem 103 rfl)
theorem Wd104 (hw : HW a0 Z) : (Jvm.Cond.static ({ cls := "java/lang/System", name := "arraycopy", desc := "(Ljava/lang/Object;ILjava/lang/Object;II)V" } : Jvm.MethodName)).before a0 Z = true := hw _ (oMem 104 rfl)
theorem Wd105 (hw : HW a0 Z) : (Jvm.Cond.initialized "java/lang/System").before a0 Z = true := hw _ (oMem 105 rfl)
theorem Wd106 (hw : HW a0 Z) : (Jvm.Cond.native ({ cls := "java/lang/System", name := "arraycopy", desc := "(Ljava/lang/Object;ILjava/lang/Object;II)V" } : Jvm.MethodName)).before a0 Z = true := hw _ (oMem 106 rfl)
theorem Wd107 (hw : HW a0 Z) : (Jvm.Cond.methodLink "com/example/quayside/quayside/web/Html" (16 : Nat) ({ cls := "java/lang/StringBuilder", name := "append", desc := "(C)Ljava/lang/StringBuilder;" } : Jvm.MethodName)).before a0 Z = true := hw _ (oMem 107 rfl)
theorem Wd108 (hw : HW a0 Z) : (Jvm.Cond.declares ({ cls := "java/lang/StringBuilder", name := "append", desc := "(C)Ljava/lang/StringBuilder;" } : Jvm.MethodName)).before a0 Z = true := hw _ (oMem 108 rfl)
theorem Wd109 (hw : HW a0 Z) : (Jvm.Cond.instanceMethod ({ cls := "java/lang/StringBuilder", name := "append", desc := "(C)Ljava/lang/StringBuilder;" } : Jvm.MethodName)).before a0 Z = true := hw _ (oMem 109 rfl)
theorem Wd110 (hw : HW a0 Z) : (Jvm.Cond.selects "java/lang/StringBuilder" ({ cls := "java/lang/StringBuilder", name := "append", desc := "(C)Ljava/lang/StringBuilder;" } : Jvm.MethodName) ({ cls := "java/lang/StringBuilder", name := "append", desc := "(C)Ljava/lang/StringBuilder;" } : Jvm.MethodName)).before a0 Z = true := hw _ (oMem 110 rfl)
theorem Wd111 (hw : HW a0 Z) : (Jvm.Cond.code ({ cls := "java/lang/StringBuilder", name := "append", desc := "(C)Ljava/lang/StringBuilder;" } : Jvm.MethodName) jdk_67_method_14_code (2 : Nat) (Option.some (Jvm.ClassFile.FieldType.object "java/lang/StringBuilder"))).before a0 Z = true := hw _ (oMem 111 rfl)
theorem Wd112 (hw : HW a0 Z) : (Jvm.Cond.methodLink "java/lang/StringBuilder" (50 : Nat) ({ cls := "java/lang/AbstractStringBuilder", name := "append", desc := "(C)Ljava/lang/AbstractStringBuilder;" } : Jvm.MethodName)).before a0 Z = true := hw _ (oMem 112 rfl)
theorem Wd113 (hw : HW a0 Z) : (Jvm.Cond.instanceMethod ({ cls := "java/lang/AbstractStringBuilder", name := "append", desc := "(C)Ljava/lang/AbstractStringBuilder;" } : Jvm.MethodName)).before a0 Z = true := hw _ (oMem 113 rfl)
theorem Wd115 (hw : HW a0 Z) : (Jvm.Cond.code ({ cls := "java/lang/AbstractStringBuilder", name := "append", desc := "(C)Ljava/lang/AbstractStringBuilder;" } : Jvm.MethodName) jdk_68_method_31_code (2 : Nat) (Option.some (Jvm.ClassFile.FieldType.object "java/lang/AbstractStringBuilder"))).before a0 Z = true := hw _ (oMem 115 rfl)
theorem Wd116 (hw : HW a0 Z) : (Jvm.Cond.methodLink "java/lang/AbstractStringBuilder" (83 : Nat) ({ cls := "java/lang/AbstractStringBuilder", name := "isLatin1", desc := "()Z" } : Jvm.MethodName)).before a0 Z = true := hw _ (oMem 116 rfl)
theorem Wd117 (hw : HW a0 Z) : (Jvm.Cond.declares ({ cls := "java/lang/AbstractStringBuilder", name := "isLatin1", desc := "()Z" } : Jvm.MethodName)).before a0 Z = true := hw _ (oMem 117 rfl)
theorem Wd118 (hw : HW a0 Z) : (Jvm.Cond.instanceMethod ({ cls := "java/lang/AbstractStringBuilder", name := "isLatin1", desc := "()Z" } : Jvm.MethodName)).before a0 Z = true := hw _ (oMem 118 rfl)
theorem Wd119 (hw : HW a0 Z) : (Jvm.Cond.selects "java/lang/StringBuilder" ({ cls := "java/lang/AbstractStringBuilder", name := "isLatin1", desc := "()Z" } : Jvm.MethodName) ({ cls := "java/lang/AbstractStringBuilder", name := "isLatin1", desc := "()Z" } : Jvm.MethodName)).before a0 Z = true := hw _ (oMem 119 rfl)
theorem Wd120 (hw : HW a0 Z) : (Jvm.Cond.code ({ cls := "java/lang/AbstractStringBuilder", name := "isLatin1", desc := "()Z" } : Jvm.MethodName) jdk_68_method_68_code (1 : Nat) (Option.some Jvm.ClassFile.FieldType.boolean)).before a0 Z = true := hw _ (oMem 120 rfl)
theorem Wd121 (hw : HW a0 Z) : (Jvm.Cond.methodLink "java/lang/AbstractStringBuilder" (191 : Nat) ({ cls := "java/lang/StringLatin1", name := "canEncode", desc := "(C)Z" } : Jvm.MethodName)).before a0 Z = true := hw _ (oMem 121 rfl)
theorem Wd122 (hw : HW a0 Z) : (Jvm.Cond.static ({ cls := "java/lang/StringLatin1", name := "canEncode", desc := "(C)Z" } : Jvm.MethodName)).before a0 Z = true := hw _ (oMem 122 rfl)
theorem Wd123 (hw : HW a0 Z) : (Jvm.Cond.initialized "java/lang/StringLatin1").before a0 Z = true := hw _ (oMem 123 rfl)
theorem Wd124 (hw : HW a0 Z) : (Jvm.Cond.code ({ cls := "java/lang/StringLatin1", name := "canEncode", desc := "(C)Z" } : Jvm.MethodName) jdk_43_method_3_code (1 : Nat) (Option.some Jvm.ClassFile.FieldType.boolean)).before a0 Z = true := hw _ (oMem 124 rfl)
theorem Wd125 (hw : HW a0 Z) : (Jvm.Cond.methodLink "com/example/quayside/quayside/web/HtmlClosePinLaw" (20 : Nat) ({ cls := "com/example/quayside/quayside/web/Html", name := "toString", desc := "()Ljava/lang/String;" } : Jvm.MethodName)).before a0 Z = true := hw _ (oMem 125 rfl)
theorem Wd126 (hw : HW a0 Z) : (Jvm.Cond.declares ({ cls := "com/example/quayside/quayside/web/Html", name := "toString", desc := "()Ljava/lang/String;" } : Jvm.MethodName)).before a0 Z = true := hw _ (oMem 126 rfl)
theorem Wd127 (hw : HW a0 Z) : (Jvm.Cond.instanceMethod ({ cls := "com/example/quayside/quayside/web/Html", name := "toString", desc := "()Ljava/lang/String;" } : Jvm.MethodName)).before a0 Z = true := hw _ (oMem 127 rfl)
theorem Wd128 (hw : HW a0 Z) : (Jvm.Cond.selects "com/example/quayside/quayside/web/Html" ({ cls := "com/example/quayside/quayside/web/Html", name := "toString", desc := "()Ljava/lang/String;" } : Jvm.MethodName) ({ cls := "com/example/quayside/quayside/web/Html", name := "toString", desc := "()Ljava/lang/String;" } : Jvm.MethodName)).before a0 Z = true := hw _ (oMem 128 rfl)
theorem Wd129 (hw : HW a0 Z) : (Jvm.Cond.code ({ cls := "com/example/quayside/quayside/web/Html", name := "toString", desc := "()Ljava/lang/String;" } : Jvm.MethodName) prog_35_method_6_code (1 : Nat) (Option.some (Jvm.ClassFile.FieldType.object "java/lang/String"))).before a0 Z = true := hw _ (oMem 129 rfl)
theorem Wd130 (hw : HW a0 Z) : (Jvm.Cond.methodLink "com/example/quayside/quayside/web/Html" (42 : Nat) ({ cls := "java/lang/StringBuilder", name := "toString", desc := "()Ljava/lang/String;" } : Jvm.MethodName)).before a0 Z = true := hw _ (oMem 130 rfl)
theorem Wd131 (hw : HW a0 Z) : (Jvm.Cond.declares ({ cls := "java/lang/StringBuilder", name := "toString", desc := "()Ljava/lang/String;" } : Jvm.MethodName)).before a0 Z = true := hw _ (oMem 131 rfl)
theorem Wd132 (hw : HW a0 Z) : (Jvm.Cond.instanceMethod ({ cls := "java/lang/StringBuilder", name := "toString", desc := "()Ljava/lang/String;" } : Jvm.MethodName)).before a0 Z = true := hw _ (oMem 132 rfl)
theorem Wd133 (hw : HW a0 Z) : (Jvm.Cond.selects "java/lang/StringBuilder" ({ cls := "java/lang/StringBuilder", name := "toString", desc := "()Ljava/lang/String;" } : Jvm.MethodName) ({ cls := "java/lang/StringBuilder", name := "toString", desc := "()Ljava/lang/String;" } : Jvm.MethodName)).before a0 Z = true := hw _ (oMem 133 rfl)
theorem Wd134 (hw : HW a0 Z) : (Jvm.Cond.code ({ cls := "java/lang/StringBuilder", name := "toString", desc := "()Ljava/lang/String;" } : Jvm.MethodName) jdk_67_method_42_code (1 : Nat) (Option.some (Jvm.ClassFile.FieldType.object "java/lang/String"))).before a0 Z = true := hw _ (oMem 134 rfl)
theorem Wd135 (hw : HW a0 Z) : (Jvm.Cond.classLink "java/lang/StringBuilder" (18 : Nat) "java/lang/String").before a0 Z = true := hw _ (oMem 135 rfl)
theorem Wd136 (hw : HW a0 Z) : (Jvm.Cond.methodLink "java/lang/StringBuilder" (137 : Nat) ({ cls := "java/lang/String", name := "<init>", desc := "(Ljava/lang/StringBuilder;)V" } : Jvm.MethodName)).before a0 Z = true := hw _ (oMem 136 rfl)
theorem Wd137 (hw : HW a0 Z) : (Jvm.Cond.instanceMethod ({ cls := "java/lang/String", name := "<init>", desc := "(Ljava/lang/StringBuilder;)V" } : Jvm.MethodName)).before a0 Z = true := hw _ (oMem 137 rfl)
theorem Wd138 (hw : HW a0 Z) : (Jvm.Cond.code ({ cls := "java/lang/String", name := "<init>", desc := "(Ljava/lang/StringBuilder;)V" } : Jvm.MethodName) jdk_42_method_53_code (2 : Nat) (Option.none : Option Jvm.ClassFile.FieldType)).before a0 Z = true := hw _ (oMem 138 rfl)
theorem Wd139 (hw : HW a0 Z) : (Jvm.Cond.methodLink "java/lang/String" (489 : Nat) ({ cls := "java/lang/String", name := "<init>", desc := "(Ljava/lang/AbstractStringBuilder;Ljava/lang/Void;)V" } : Jvm.MethodName)).before a0 Z = true := hw _ (oMem 139 rfl)
theorem Wd140 (hw : HW a0 Z) : (Jvm.Cond.instanceMethod ({ cls := "java/lang/String", name := "<init>", desc := "(Ljava/lang/AbstractStringBuilder;Ljava/lang/Void;)V" } : Jvm.MethodName)).before a0 Z = true := hw _ (oMem 140 rfl)
theorem Wd141 (hw : HW a0 Z) : (Jvm.Cond.code ({ cls := "java/lang/String", name := "<init>", desc := "(Ljava/lang/AbstractStringBuilder;Ljava/lang/Void;)V" } : Jvm.MethodName) jdk_42_method_150_code (5 : Nat) (Option.none : Option Jvm.ClassFile.FieldType)).before a0 Z = true := hw _ (oMem 141 rfl)
theorem Wd142 (hw : HW a0 Z) : (Jvm.Cond.methodLink "java/lang/String" (552 : Nat) ({ cls := "java/lang/AbstractStringBuilder", name := "getValue", desc := "()[B" } : Jvm.MethodName)).before a0 Z = true := hw _ (oMem 142 rfl)
theorem Wd143 (hw : HW a0 Z) : (Jvm.Cond.declares ({ cls := "java/lang/AbstractStringBuilder", name := "getValue", desc := "()[B" } : Jvm.MethodName)).before a0 Z = true := hw _ (oMem 143 rfl)
theorem Wd144 (hw : HW a0 Z) : (Jvm.Cond.instanceMethod ({ cls := "java/lang/AbstractStringBuilder", name := "getValue", desc := "()[B" } : Jvm.MethodName)).before a0 Z = true := hw _ (oMem 144 rfl)
theorem Wd145 (hw : HW a0 Z) : (Jvm.Cond.selects "java/lang/StringBuilder" ({ cls := "java/lang/AbstractStringBuilder", name := "getValue", desc := "()[B" } : Jvm.MethodName) ({ cls := "java/lang/AbstractStringBuilder", name := "getValue", desc := "()[B" } : Jvm.MethodName)).before a0 Z = true := hw _ (oMem 145 rfl)
theorem Wd146 (hw : HW a0 Z) : (Jvm.Cond.code ({ cls := "java/lang/AbstractStringBuilder", name := "getValue", desc := "()[B" } : Jvm.MethodName) jdk_68_method_64_code (1 : Nat) (Option.some (Jvm.ClassFile.FieldType.array Jvm.ClassFile.FieldType.byte))).before a0 Z = true := hw _ (oMem 146 rfl)
theorem Wd147 (hw : HW a0 Z) : (Jvm.Cond.methodLink "java/lang/String" (549 : Nat) ({ cls := "java/lang/AbstractStringBuilder", name := "length", desc := "()I" } : Jvm.MethodName)).before a0 Z = true := hw _ (oMem 147 rfl)
theorem Wd148 (hw : HW a0 Z) : (Jvm.Cond.declares ({ cls := "java/lang/AbstractStringBuilder", name := "length", desc := "()I" } : Jvm.MethodName)).before a0 Z = true := hw _ (oMem 148 rfl)
theorem Wd149 (hw : HW a0 Z) : (Jvm.Cond.instanceMethod ({ cls := "java/lang/AbstractStringBuilder", name := "length", desc := "()I" } : Jvm.MethodName)).before a0 Z = true := hw _ (oMem 149 rfl)
theorem Wd150 (hw : HW a0 Z) : (Jvm.Cond.selects "java/lang/StringBuilder" ({ cls := "java/lang/AbstractStringBuilder", name := "length", desc := "()I" } : Jvm.MethodName) ({ cls := "java/lang/StringBuilder", name := "length", desc := "()I" } : Jvm.MethodName)).before a0 Z = true := hw _ (oMem 150 rfl)
theorem Wd151 (hw : HW a0 Z) : (Jvm.Cond.instanceMethod ({ cls := "java/lang/StringBuilder", name := "length", desc := "()I" } : Jvm.MethodName)).before a0 Z = true := hw _ (oMem 151 rfl)
theorem Wd152 (hw : HW a0 Z) : (Jvm.Cond.code ({ cls := "java/lang/StringBuilder", name := "length", desc := "()I" } : Jvm.MethodName) jdk_67_method_93_code (1 : Nat) (Option.some Jvm.ClassFile.FieldType.int)).before a0 Z = true := hw _ (oMem 152 rfl)
theorem Wd153 (hw : HW a0 Z) : (Jvm.Cond.methodLink "java/lang/StringBuilder" (343 : Nat) ({ cls := "java/lang/AbstractStringBuilder", name := "length", desc := "()I" } : Jvm.MethodName)).before a0 Z = true := hw _ (oMem 153 rfl)
theorem Wd154 (hw : HW a0 Z) : (Jvm.Cond.code ({ cls := "java/lang/AbstractStringBuilder", name := "length", desc := "()I" } : Jvm.MethodName) jdk_68_method_6_code (1 : Nat) (Option.some Jvm.ClassFile.FieldType.int)).before a0 Z = true := hw _ (oMem 154 rfl)
theorem Wd155 (hw : HW a0 Z) : (Jvm.Cond.methodLink "java/lang/String" (1047 : Nat) ({ cls := "java/lang/AbstractStringBuilder", name := "isLatin1", desc := "()Z" } : Jvm.MethodName)).before a0 Z = true := hw _ (oMem 155 rfl)
theorem Wd156 (hw : HW a0 Z) : (Jvm.Cond.methodLink "java/lang/String" (54 : Nat) ({ cls := "java/util/Arrays", name := "copyOfRange", desc := "([BII)[B" } : Jvm.MethodName)).before a0 Z = true := hw _ (oMem 156 rfl)
theorem Wd157 (hw : HW a0 Z) : (Jvm.Cond.static ({ cls := "java/util/Arrays", name := "copyOfRange", desc := "([BII)[B" } : Jvm.MethodName)).before a0 Z = true := hw _ (oMem 157 rfl)
theorem Wd158 (hw : HW a0 Z) : (Jvm.Cond.initialized "java/util/Arrays").before a0 Z = true := hw _ (oMem 158 rfl)
theorem Wd159 (hw : HW a0 Z) : (Jvm.Cond.code ({ cls := "java/util/Arrays", name := "copyOfRange", desc := "([BII)[B" } : Jvm.MethodName) jdk_65_method_132_code (3 : Nat) (Option.some (Jvm.ClassFile.FieldType.array Jvm.ClassFile.FieldType.byte))).before a0 Z = true := hw _ (oMem 159 rfl)
theorem Wd160 (hw : HW a0 Z) : (Jvm.Cond.methodLink "java/util/Arrays" (339 : Nat) ({ cls := "java/util/Arrays", name := "copyOfRangeByte", desc := "([BII)[B" } : Jvm.MethodName)).before a0 Z = true := hw _ (oMem 160 rfl)
theorem Wd161 (hw : HW a0 Z) : (Jvm.Cond.static ({ cls := "java/util/Arrays", name := "copyOfRangeByte", desc := "([BII)[B" } : Jvm.MethodName)).before a0 Z = true := hw _ (oMem 161 rfl)
theorem Wd162 (hw : HW a0 Z) : (Jvm.Cond.code ({ cls := "java/util/Arrays", name := "copyOfRangeByte", desc := "([BII)[B" } : Jvm.MethodName) jdk_65_method_133_code (5 : Nat) (Option.some (Jvm.ClassFile.FieldType.array Jvm.ClassFile.FieldType.byte))).before a0 Z = true := hw _ (oMem 162 rfl)
theorem Wd163 (hw : HW a0 Z) : (Jvm.Cond.methodLink "java/util/Arrays" (343 : Nat) ({ cls := "java/util/Arrays", name := "checkLength", desc := "(II)V" } : Jvm.MethodName)).before a0 Z = true := hw _ (oMem 163 rfl)
theorem Wd164 (hw : HW a0 Z) : (Jvm.Cond.static ({ cls := "java/util/Arrays", name := "checkLength", desc := "(II)V" } : Jvm.MethodName)).before a0 Z = true := hw _ (oMem 164 rfl)
theorem Wd165 (hw : HW a0 Z) : (Jvm.Cond.code ({ cls := "java/util/Arrays", name := "checkLength", desc := "(II)V" } : Jvm.MethodName) jdk_65_method_131_code (2 : Nat) (Option.none : Option Jvm.ClassFile.FieldType)).before a0 Z = true := hw _ (oMem 165 rfl)
theorem Wd166 (hw : HW a0 Z) : (Jvm.Cond.methodLink "java/util/Arrays" (304 : Nat) ({ cls := "java/lang/Math", name := "min", desc := "(II)I" } : Jvm.MethodName)).before a0 Z = true := hw _ (oMem 166 rfl)
theorem Wd167 (hw : HW a0 Z) : (Jvm.Cond.static ({ cls := "java/lang/Math", name := "min", desc := "(II)I" } : Jvm.MethodName)).before a0 Z = true := hw _ (oMem 167 rfl)
theorem Wd168 (hw : HW a0 Z) : (Jvm.Cond.initialized "java/lang/Math").before a0 Z = true := hw _ (oMem 168 rfl)
theorem Wd169 (hw : HW a0 Z) : (Jvm.Cond.code ({ cls := "java/lang/Math", name := "min", desc := "(II)I" } : Jvm.MethodName) jdk_29_method_69_code (2 : Nat) (Option.some Jvm.ClassFile.FieldType.int)).before a0 Z = true := hw _ (oMem 169 rfl)
theorem Wd170 (hw : HW a0 Z) : (Jvm.Cond.methodLink "java/util/Arrays" (150 : Nat) ({ cls := "java/lang/System", name := "arraycopy", desc := "(Ljava/lang/Object;ILjava/lang/Object;II)V" } : Jvm.MethodName)).before a0 Z = true := hw _ (oMem 170 rfl)
theorem Wd171 (hw : HW a0 Z) : (Jvm.Cond.methodLink "com/example/quayside/quayside/web/HtmlClosePinLaw" (24 : Nat) ({ cls := "com/example/quayside/quayside/web/HtmlClosePinLaw", name := "closing", desc := "(Ljava/lang/String;ILjava/lang/String;)Z" } : Jvm.MethodName)).before a0 Z = true := hw _ (oMem 171 rfl)
theorem Wd172 (hw : HW a0 Z) : (Jvm.Cond.static ({ cls := "com/example/quayside/quayside/web/HtmlClosePinLaw", name := "closing", desc := "(Ljava/lang/String;ILjava/lang/String;)Z" } : Jvm.MethodName)).before a0 Z = true := hw _ (oMem 172 rfl)
theorem Wd173 (hw : HW a0 Z) : (Jvm.Cond.code ({ cls := "com/example/quayside/quayside/web/HtmlClosePinLaw", name := "closing", desc := "(Ljava/lang/String;ILjava/lang/String;)Z" } : Jvm.MethodName) method_4_code (4 : Nat) (Option.some Jvm.ClassFile.FieldType.boolean)).before a0 Z = true := hw _ (oMem 173 rfl)
theorem Wd174 (hw : HW a0 Z) : (Jvm.Cond.methodLink "com/example/quayside/quayside/web/HtmlClosePinLaw" (28 : Nat) ({ cls := "java/lang/String", name := "length", desc := "()I" } : Jvm.MethodName)).before a0 Z = true := hw _ (oMem 174 rfl)
theorem Wd175 (hw : HW a0 Z) : (Jvm.Cond.methodLink "com/example/quayside/quayside/web/HtmlClosePinLaw" (37 : Nat) ({ cls := "java/lang/String", name := "charAt", desc := "(I)C" } : Jvm.MethodName)).before a0 Z = true := hw _ (oMem 175 rfl)
theorem Wd176 (hw : HW a0 Z) : (Jvm.Cond.declares ({ cls := "java/lang/String", name := "charAt", desc := "(I)C" } : Jvm.MethodName)).before a0 Z = true := hw _ (oMem 176 rfl)
theorem Wd177 (hw : HW a0 Z) : (Jvm.Cond.instanceMethod ({ cls := "java/lang/String", name := "charAt", desc := "(I)C" } : Jvm.MethodName)).before a0 Z = true := hw _ (oMem 177 rfl)
theorem Wd178 (hw : HW a0 Z) : (Jvm.Cond.selects "java/lang/String" ({ cls := "java/lang/String", name := "charAt", desc := "(I)C" } : Jvm.MethodName) ({ cls := "java/lang/String", name := "charAt", desc := "(I)C" } : Jvm.MethodName)).before a0 Z = true := hw _ (oMem 178 rfl)
theorem Wd179 (hw : HW a0 Z) : (Jvm.Cond.code ({ cls := "java/lang/String", name := "charAt", desc := "(I)C" } : Jvm.MethodName) jdk_42_method_56_code (2 : Nat) (Option.some Jvm.ClassFile.FieldType.char)).before a0 Z = true := hw _ (oMem 179 rfl)
theorem Wd180 (hw : HW a0 Z) : (Jvm.Cond.methodLink "java/lang/String" (492 : Nat) ({ cls := "java/lang/String", name := "isLatin1", desc := "()Z" } : Jvm.MethodName)).before a0 Z = true := hw _ (oMem 180 rfl)
theorem Wd181 (hw : HW a0 Z) : (Jvm.Cond.declares ({ cls := "java/lang/String", name := "isLatin1", desc := "()Z" } : Jvm.MethodName)).before a0 Z = true := hw _ (oMem 181 rfl)
theorem Wd182 (hw : HW a0 Z) : (Jvm.Cond.instanceMethod ({ cls := "java/lang/String", name := "isLatin1", desc := "()Z" } : Jvm.MethodName)).before a0 Z = true := hw _ (oMem 182 rfl)
theorem Wd183 (hw : HW a0 Z) : (Jvm.Cond.selects "java/lang/String" ({ cls := "java/lang/String", name := "isLatin1", desc := "()Z" } : Jvm.MethodName) ({ cls := "java/lang/String", name := "isLatin1", desc := "()Z" } : Jvm.MethodName)).before a0 Z = true := hw _ (oMem 183 rfl)
theorem Wd184 (hw : HW a0 Z) : (Jvm.Cond.code ({ cls := "java/lang/String", name := "isLatin1", desc := "()Z" } : Jvm.MethodName) jdk_42_method_154_code (1 : Nat) (Option.some Jvm.ClassFile.FieldType.boolean)).before a0 Z = true := hw _ (oMem 184 rfl)
theorem Wd185 (hw : HW a0 Z) : (Jvm.Cond.methodLink "java/lang/String" (495 : Nat) ({ cls := "java/lang/StringLatin1", name := "charAt", desc := "([BI)C" } : Jvm.MethodName)).before a0 Z = true := hw _ (oMem 185 rfl)
theorem Wd186 (hw : HW a0 Z) : (Jvm.Cond.static ({ cls := "java/lang/StringLatin1", name := "charAt", desc := "([BI)C" } : Jvm.MethodName)).before a0 Z = true := hw _ (oMem 186 rfl)
theorem Wd187 (hw : HW a0 Z) : (Jvm.Cond.code ({ cls := "java/lang/StringLatin1", name := "charAt", desc := "([BI)C" } : Jvm.MethodName) jdk_43_method_2_code (2 : Nat) (Option.some Jvm.ClassFile.FieldType.char)).before a0 Z = true := hw _ (oMem 187 rfl)
theorem Wd188 (hw : HW a0 Z) : (Jvm.Cond.methodLink "java/lang/StringLatin1" (9 : Nat) ({ cls := "java/lang/String", name := "checkIndex", desc := "(II)V" } : Jvm.MethodName)).before a0 Z = true := hw _ (oMem 188 rfl)
theorem Wd189 (hw : HW a0 Z) : (Jvm.Cond.static ({ cls := "java/lang/String", name := "checkIndex", desc := "(II)V" } : Jvm.MethodName)).before a0 Z = true := hw _ (oMem 189 rfl)
theorem Wd190 (hw : HW a0 Z) : (Jvm.Cond.code ({ cls := "java/lang/String", name := "checkIndex", desc := "(II)V" } : Jvm.MethodName) jdk_42_method_155_code (2 : Nat) (Option.none : Option Jvm.ClassFile.FieldType)).before a0 Z = true := hw _ (oMem 190 rfl)
theorem Wd191 (hw : HW a0 Z) : (Jvm.Cond.fieldLink "java/lang/String" (1053 : Nat) "jdk/internal/util/Preconditions" "SIOOBE_FORMATTER" "Ljava/util/function/BiFunction;").before a0 Z = true := hw _ (oMem 191 rfl)
theorem Wd192 (hw : HW a0 Z) : (Jvm.Cond.initialized "jdk/internal/util/Preconditions").before a0 Z = true := hw _ (oMem 192 rfl)
theorem Wd193 (hw : HW a0 Z) : (Jvm.Cond.methodLink "java/lang/String" (1059 : Nat) ({ cls := "jdk/internal/util/Preconditions", name := "checkIndex", desc := "(IILjava/util/function/BiFunction;)I" } : Jvm.MethodName)).before a0 Z = true := hw _ (oMem 193 rfl)
theorem Wd194 (hw : HW a0 Z) : (Jvm.Cond.static ({ cls := "jdk/internal/util/Preconditions", name := "checkIndex", desc := "(IILjava/util/function/BiFunction;)I" } : Jvm.MethodName)).before a0 Z = true := hw _ (oMem 194 rfl)
theorem Wd195 (hw : HW a0 Z) : (Jvm.Cond.code ({ cls := "jdk/internal/util/Preconditions", name := "checkIndex", desc := "(IILjava/util/function/BiFunction;)I" } : Jvm.MethodName) jdk_41_method_11_code (3 : Nat) (Option.some Jvm.ClassFile.FieldType.int)).before a0 Z = true := hw _ (oMem 195 rfl)
end Words
abbrev yM0 : MethodName := ⟨"java/lang/String", "<init>", "([CIILjava/lang/Void;)V"⟩
abbrev yM1 : MethodName := ⟨"java/lang/String", "<init>", "([C)V"⟩
abbrev yM2 : MethodName := ⟨"java/lang/String", "coder", "()B"⟩
abbrev yM3 : MethodName := ⟨"java/lang/String", "isLatin1", "()Z"⟩
abbrev yM4 : MethodName := ⟨"java/lang/String", "length", "()I"⟩
abbrev yM5 : MethodName := ⟨"jdk/internal/util/Preconditions", "checkIndex", "(IILjava/util/function/BiFunction;)I"⟩
abbrev yM6 : MethodName := ⟨"java/lang/String", "checkIndex", "(II)V"⟩
abbrev yM7 : MethodName := ⟨"java/lang/StringLatin1", "charAt", "([BI)C"⟩
abbrev yM8 : MethodName := ⟨"java/lang/String", "charAt", "(I)C"⟩
abbrev yM9 : MethodName := ⟨"java/lang/AbstractStringBuilder", "<init>", "(I)V"⟩
abbrev yM10 : MethodName := ⟨"java/lang/StringBuilder", "<init>", "()V"⟩
abbrev yM11 : MethodName := ⟨"java/lang/String", "getBytes", "([BIB)V"⟩
abbrev yM12 : MethodName := ⟨"java/lang/AbstractStringBuilder", "inflateIfNeededFor", "(Ljava/lang/String;)V"⟩
abbrev yM13 : MethodName := ⟨"java/lang/AbstractStringBuilder", "ensureCapacityInternal", "(I)V"⟩
abbrev yM14 : MethodName := ⟨"java/lang/AbstractStringBuilder", "putStringAt", "(ILjava/lang/String;)V"⟩
abbrev yM15 : MethodName := ⟨"java/lang/AbstractStringBuilder", "append", "(Ljava/lang/String;)Ljava/lang/AbstractStringBuilder;"⟩
abbrev yM16 : MethodName := ⟨"java/lang/StringBuilder", "append", "(Ljava/lang/String;)Ljava/lang/StringBuilder;"⟩
abbrev yM17 : MethodName := ⟨"java/lang/AbstractStringBuilder", "isLatin1", "()Z"⟩
abbrev yM18 : MethodName := ⟨"java/lang/StringLatin1", "canEncode", "(C)Z"⟩
abbrev yM19 : MethodName := ⟨"java/lang/AbstractStringBuilder", "append", "(C)Ljava/lang/AbstractStringBuilder;"⟩
abbrev yM20 : MethodName := ⟨"java/lang/StringBuilder", "append", "(C)Ljava/lang/StringBuilder;"⟩
abbrev yM21 : MethodName := ⟨"java/lang/AbstractStringBuilder", "getValue", "()[B"⟩
abbrev yM22 : MethodName := ⟨"java/lang/AbstractStringBuilder", "length", "()I"⟩
abbrev yM23 : MethodName := ⟨"java/lang/StringBuilder", "length", "()I"⟩
abbrev yM24 : MethodName := ⟨"java/util/Arrays", "checkLength", "(II)V"⟩
abbrev yM25 : MethodName := ⟨"java/lang/Math", "min", "(II)I"⟩
abbrev yM26 : MethodName := ⟨"java/util/Arrays", "copyOfRangeByte", "([BII)[B"⟩
abbrev yM27 : MethodName := ⟨"java/util/Arrays", "copyOfRange", "([BII)[B"⟩
abbrev yM28 : MethodName := ⟨"java/lang/String", "<init>", "(Ljava/lang/AbstractStringBuilder;Ljava/lang/Void;)V"⟩
abbrev yM29 : MethodName := ⟨"java/lang/String", "<init>", "(Ljava/lang/StringBuilder;)V"⟩
abbrev yM30 : MethodName := ⟨"java/lang/StringBuilder", "toString", "()Ljava/lang/String;"⟩
abbrev yM31 : MethodName := ⟨"com/example/quayside/quayside/web/HtmlClosePinLaw", "tag", "(I)Ljava/lang/String;"⟩
abbrev yM32 : MethodName := ⟨"com/example/quayside/quayside/web/Html", "<init>", "()V"⟩
abbrev yM33 : MethodName := ⟨"com/example/quayside/quayside/web/Html", "close", "(Ljava/lang/String;)Lcom/example/quayside/quayside/web/Html;"⟩
abbrev yM34 : MethodName := ⟨"com/example/quayside/quayside/web/Html", "toString", "()Ljava/lang/String;"⟩
abbrev yM35 : MethodName := ⟨"com/example/quayside/quayside/web/HtmlClosePinLaw", "closing", "(Ljava/lang/String;ILjava/lang/String;)Z"⟩
/-- the run comes from A to a state with P -/
def ownG (tb : Tables) (e : Env) (below : List Frame) (P : State → Prop) (A : State) : Prop := ∃ t, Steps tb e below A t ∧ P t
theorem ownBy {tb : Tables} {e : Env} {below : List Frame} {P : State → Prop} {A B : State} (st : ∀ t, Steps tb e below A t → Steps tb e below B t) (k : ownG tb e below P A) : ownG tb e below P B := by
  obtain ⟨t, h, q⟩ := k
  exact ⟨t, st t h, q⟩
theorem ownSt {tb : Tables} {e : Env} {below : List Frame} {P : State → Prop} {A B : State} (st : Steps tb e below B A) (k : ownG tb e below P A) : ownG tb e below P B := by
  obtain ⟨t, h, q⟩ := k
  exact ⟨t, st.trans h, q⟩
def ownE (s : State) (below : List Frame) (Q : Option Value → Heap → List Loc → Prop) (k n : Nat) (t : State) : Prop := t.status = .running ∧ ∃ v L, Ended t below (.returned v) ∧ Q v t.heap L ∧ FrameEnd s (.returned v) t L k n
def ownEH (s : State) (below : List Frame) (Q : Option Value → Heap → List Loc → Prop) (Z : State) (EL : List (String × Nat)) (h0 : Heap) (k n : Nat) (t : State) : Prop := t.status = .running ∧ ∃ v L, Ended t below (.returned v) ∧ Q v t.heap L ∧ CHr Z EL s.vm h0 t.vm t.heap ∧ ReturnedEndW s (.returned v) t L k n
theorem ownOut {tb : Tables} {e : Env} {below : List Frame} {P : Option Value → Heap → List Loc → Prop} {s A : State} {k n : Nat} (g : ownG tb e below (ownE s below P k n) A) :
    ∃ s₂ o, Steps tb e below A s₂ ∧ s₂.status = .running ∧ Ended s₂ below o ∧ ∃ v L, o = .returned v ∧ P v s₂.heap L ∧ FrameEnd s o s₂ L k n := by
  obtain ⟨t, h, r, v, L, e1, q, f⟩ := g
  exact ⟨t, _, h, r, e1, v, L, rfl, q, f⟩
theorem ownOutH {tb : Tables} {e : Env} {below : List Frame} {P : Option Value → Heap → List Loc → Prop} {s A Z : State} {EL : List (String × Nat)} {h0 : Heap} {k n : Nat} (hh : s.heap = h0) (g : ownG tb e below (ownEH s below P Z EL h0 k n) A) :
    ∃ s₂ o, Steps tb e below A s₂ ∧ s₂.status = .running ∧ Ended s₂ below o ∧ ∃ v L, o = .returned v ∧ P v s₂.heap L ∧ CHr Z EL s.vm s.heap s₂.vm s₂.heap ∧ ReturnedEndW s o s₂ L k n := by
  subst hh
  obtain ⟨t, h, r, v, L, e1, q, c, f⟩ := g
  exact ⟨t, _, h, r, e1, v, L, rfl, q, c, f⟩
theorem ownRet {p : Program} {l : Launch} {e : Env} {R : Room} {s : State} {m : MethodId} {args : Array Value} {below : List Frame} {meth : Method} {c : Code} {T A : State} {locs : List Loc} {cells slots k n : Nat} {P : Option Value → Heap → List Loc → Prop}
    (X : Stand p l e R s m args below meth c T locs cells slots) (hlk : meth.locks = false) {v : Option Value} (hv : meth.sig.returnType = none → v = none) (hQ : P v T.heap locs) (hk : cells ≤ k) (hn : slots ≤ n)
    (st : ∀ fs, (∀ (f : JFrame) (acts : List Action), f.method = m → f.locked = none → f.entered = [] → (doReturn e (T.setTop f) acts v).1 = T.setFrames fs) → Steps p.tables e below A (T.setFrames fs)) :
    ownG p.tables e below (ownE s below P k n) A := by
  obtain ⟨fs, hr, hrun, hended, hW, hsame⟩ := X.leave hv hlk
  exact ⟨_, st fs hr, hrun, v, locs, hended, hQ, ⟨_, rfl⟩, hW, hsame.mono hk hn⟩
theorem ownRetH {p : Program} {l : Launch} {e : Env} {R : Room} {s : State} {m : MethodId} {args : Array Value} {below : List Frame} {meth : Method} {c : Code} {T A Z : State} {EL : List (String × Nat)} {h0 : Heap} {locs : List Loc} {cells slots k n k1 : Nat} {vm1 : Vm} {P : Option Value → Heap → List Loc → Prop}
    (X : Stand p l e R (s.setVm vm1) m args below meth c T locs cells slots) (hS : s.Since vm1 k1) (hk1 : k1 ≤ T.heap.size) (hlk : meth.locks = false) {v : Option Value} (hv : meth.sig.returnType = none → v = none) (hQ : P v T.heap locs) (hC : CHr Z EL s.vm h0 T.vm T.heap) (hk : cells ≤ k) (hn : slots ≤ n)
    (st : ∀ fs, (∀ (f : JFrame) (acts : List Action), f.method = m → f.locked = none → f.entered = [] → (doReturn e (T.setTop f) acts v).1 = T.setFrames fs) → Steps p.tables e below A (T.setFrames fs)) :
    ownG p.tables e below (ownEH s below P Z EL h0 k n) A := by
  obtain ⟨fs, hr, hrun, hended, hR⟩ := X.leaveW hS hk1 hv hlk
  exact ⟨_, st fs hr, hrun, v, locs, hended, hQ, hC, hR.1, hR.2.1, hR.2.2.1, hR.2.2.2.mono hk hn⟩
theorem own_since {s : State} {n : Nat} : s.Since s.vm n := (State.WarmedH.refl s).since n
theorem own_cat {v : Value} (h : v.isRef = true) : v.category = 1 := by cases v <;> simp_all [Value.isRef, Value.category]
theorem own_narrow {t : FieldType} {v : Value} (ht : t.isReference = true) (h : v.isRef = true) : narrow t v = v := by
  rcases ref_cases h with rfl | ⟨a, rfl⟩ <;> cases t <;> simp_all [narrow, FieldType.isReference]
theorem own_fits {t : FieldType} {v : Value} (ht : t.isReference = true) (h : v.isRef = true) : fits t v = true := by
  rcases ref_cases h with rfl | ⟨a, rfl⟩ <;> cases t <;> simp_all [fits, FieldType.isReference]
theorem own_and255 (x : Int32) : ¬ nar .char ((x &&& (255 : Int32)).toUInt32.toUInt16.toUInt32.toInt32) < 0 ∧ ¬ (255 : Int32) < nar .char ((x &&& (255 : Int32)).toUInt32.toUInt16.toUInt32.toInt32) := by
  have t : ∀ k : Fin 256, ¬ nar .char ((Int32.ofNat k.val).toUInt32.toUInt16.toUInt32.toInt32) < 0 ∧ ¬ (255 : Int32) < nar .char ((Int32.ofNat k.val).toUInt32.toUInt16.toUInt32.toInt32) := by decide +kernel
  have h : (x &&& 255).toBitVec.toNat < 256 := by
    simp only [Int32.toBitVec_and, BitVec.toNat_and]
    exact Nat.lt_succ_of_le Nat.and_le_right
  have e : (x &&& 255) = Int32.ofNat (x &&& 255).toBitVec.toNat := by
    apply Int32.toBitVec_inj.mp
    show _ = BitVec.ofNat 32 _
    rw [BitVec.ofNat_toNat]; simp
  rw [e]
  exact t ⟨_, h⟩
theorem own_up (cs : List Int32) (h : ∀ c ∈ cs, ¬ c < 0 ∧ ¬ (255 : Int32) < c) : ∀ c ∈ cs, ¬ c < 0 ∧ ¬ (65535 : Int32) < c := fun c hc => ⟨(h c hc).1, fun q => (h c hc).2 (by rw [Int32.lt_iff_toInt_lt] at q ⊢; have e1 : (65535 : Int32).toInt = 65535 := rfl; have e2 : (255 : Int32).toInt = 255 := rfl; omega)⟩
theorem own_nz {args : Array Value} {s : State} {t : Jvm.Term} {g : Int32} (e : t.eval args s none [] s = some (.int g)) (h : (Jvm.Cond.not (Jvm.Cond.eq t (Jvm.Term.int (0 : Int32)))).value args s none s [] = some true) : ¬ (g = (0 : Int32)) := by
  intro q
  subst q
  simp [Jvm.Cond.value, Jvm.Term.eval, e] at h
theorem own_lcmp_self (x : Int64) : lcmpW x x = 0 := by rw [lcW]; exact (lc_eq x x).mpr rfl
theorem own_nar_byte (x : Int32) : nar .byte (x.toInt8.toInt32) = x.toInt8.toInt32 := by simp [nar]
theorem own_nar_char (x : Int32) : nar .char (x.toUInt32.toUInt16.toUInt32.toInt32) = x.toUInt32.toUInt16.toUInt32.toInt32 := by
  have q := c_i2c x
  have q2 := c_i2c (x.toUInt32.toUInt16.toUInt32.toInt32)
  exact Int32.toInt_inj.mp (by show ((x.toUInt32.toUInt16.toUInt32.toInt32).toUInt32.toUInt16.toUInt32.toInt32).toInt = _; omega)
theorem own_and255c (x : Int32) : ¬ ((255 : Int32) < (x &&& (255 : Int32)).toUInt32.toUInt16.toUInt32.toInt32) := by
  have h := (own_and255 x).2
  rwa [own_nar_char] at h
def own_b (p : Prop) [Decidable p] : Int32 := if p then 1 else 0
theorem own_bt0 {p : Prop} [Decidable p] (h : p) : ¬ (own_b p = (0 : Int32)) := by simp [own_b, h]
theorem own_bf0 {p : Prop} [Decidable p] (h : ¬ p) : own_b p = (0 : Int32) := by simp [own_b, h]
theorem own_bt1 {p : Prop} [Decidable p] (h : p) : own_b p = (1 : Int32) := by simp [own_b, h]
theorem own_bf1 {p : Prop} [Decidable p] (h : ¬ p) : ¬ (own_b p = (1 : Int32)) := by simp [own_b, h]
theorem own_eqv {s : State} {args : Array Value} {t u : Jvm.Term} {w : Addr} (eu : u.eval args s none [] s = some (.ref w)) (h : (Jvm.Cond.eq t u).value args s none s [] = some true) : t.eval args s none [] s = some (.ref w) := by
  obtain ⟨x, y, ex, ey, kx, -⟩ := cmp_v (Or.inl h)
  cases eu.symm.trans ey
  have hr : x.isRef = true := by cases x <;> simp_all [Kin, Value.isRef]
  have q := gotT (eq_R ex ey hr rfl) h
  rw [ex, q]
theorem own_len {s : State} {args : Array Value} {t : Jvm.Term} {a : Addr} {c : Cell} {ty : FieldType} {n : Int32} (ev : t.eval args s none [] s = some (.ref a)) (A : Arr s s.heap a c ty) (h : (Jvm.Cond.eq (Jvm.Term.length t) (Jvm.Term.int n)).value args s none s [] = some true) : c.slots.size < 2 ^ 31 ∧ c.slots.size.toInt32 = n := by
  have q := eqv_i (y := n) rfl h
  have ha := A.fin (Vm.Alike.refl _)
  simp only [Jvm.Term.eval, ev, ha, Option.bind_eq_bind, Option.bind_some] at q
  split at q
  · rename_i hl
    exact ⟨hl, by simpa using q⟩
  · simp at q
theorem own_elem {s : State} {args : Array Value} {t : Jvm.Term} {a : Addr} {c : Cell} {ty : FieldType} {j : Int32} {v : Value} (ev : t.eval args s none [] s = some (.ref a)) (A : Arr s s.heap a c ty) (h : (Jvm.Term.elem t (Jvm.Term.int j)).eval args s none [] s = some v) : c.slots[j.toNatClampNeg]? = some v :=
  (elem_in h ev rfl A.1).2
theorem own_nar_rng {c : Int32} (h0 : ¬ c < 0) (h1 : ¬ (255 : Int32) < c) : nar .char c = c := by
  have e0 : (0 : Int32).toInt = 0 := rfl
  have e1 : (255 : Int32).toInt = 255 := rfl
  simp only [Int32.lt_iff_toInt_lt] at h0 h1
  have q := c_i2c c
  exact Int32.toInt_inj.mp (by show (c.toUInt32.toUInt16.toUInt32.toInt32).toInt = _; omega)
theorem own_idx {p : Int32} {n : Nat} (h0 : ¬ p < 0) (h : p < Int32.ofNat n) (hn : n ≤ 4000) : p.toNatClampNeg < n := by
  have e0 : (0 : Int32).toInt = 0 := rfl
  simp only [Int32.lt_iff_toInt_lt] at h0 h
  rw [Int32.toInt_ofNat_of_lt (by omega)] at h
  show p.toInt.toNat < n
  omega
theorem own_set_rng {cs : List Int32} {i : Nat} {x : Int32} (h : ∀ c ∈ cs, ¬ c < 0 ∧ ¬ (255 : Int32) < c) (hx : ¬ x < 0 ∧ ¬ (255 : Int32) < x) : ∀ c ∈ cs.set i x, ¬ c < 0 ∧ ¬ (255 : Int32) < c := fun c hc =>
  (List.mem_or_eq_of_mem_set hc).elim (h c) (fun e => e ▸ hx)
theorem own_rem_nn (x y : Int32) (hy : 0 < y.toInt) : ¬ ((x &&& (2147483647 : Int32)) % y < 0) := by
  have h0 : 0 ≤ (x &&& (2147483647 : Int32)).toInt := (c_and x 2147483647 (by decide)).1
  have q := (c_iremV (x &&& 2147483647) y).1 h0 hy
  have e0 : (0 : Int32).toInt = 0 := rfl
  simp only [Int32.lt_iff_toInt_lt]
  omega
theorem own_and255p (x : Int32) : ¬ (x &&& (255 : Int32)).toUInt32.toUInt16.toUInt32.toInt32 < 0 ∧ ¬ ((255 : Int32) < (x &&& (255 : Int32)).toUInt32.toUInt16.toUInt32.toInt32) := by
  have h := own_and255 x
  rwa [own_nar_char] at h
theorem own_ty_ne {Z : State} {h : Heap} {a b : Addr} {k1 k2 : ClassId} {t1 t2 : FieldType} {z1 z2 : Int32} {v1 v2 : List Value} {d1 d2 : Value} (A : Arv Z h a k1 t1 z1 v1 d1) (B : Arv Z h b k2 t2 z2 v2 d2) (q : t1 ≠ t2) : a ≠ b := fun e => by
  subst e
  obtain ⟨c1, A1, -⟩ := A
  obtain ⟨c2, B1, -⟩ := B
  cases A1.1.symm.trans B1.1
  obtain ⟨-, k, hk, comp, hkind⟩ := A1.2.1
  obtain ⟨-, k', hk', comp', hkind'⟩ := B1.2.1
  cases hk.symm.trans hk'
  rw [hkind] at hkind'
  injection hkind' with _ e2
  exact q e2
theorem own_hide {p : Program} {l : Launch} {e : Env} {R : Room} {s : State} {m : MethodId} {args : Array Value} {below : List Frame} {meth : Method} {c : Code} {T : State} {locs : List Loc} {cells slots cells' slots' n0 : Nat} (X : Stand p l e R s m args below meth c T locs cells slots) (N : Fr n0 locs) (hc : cells ≤ cells') (hs : slots ≤ slots') : ∃ L, Stand p l e R s m args below meth c T L cells' slots' ∧ Fr n0 L := ⟨_, X.more hc hs, N⟩
theorem own_getF {p : Program} {l : Launch} {e : Env} {R : Room} {s : State} {m : MethodId} {args : Array Value} {below : List Frame} {meth : Method} {c : Code} {T Z : State} {locs : List Loc} {cells slots : Nat} {a0 : Array Value} {h : Heap} {P : State → Prop} (X : Stand p l e R s m args below meth c T locs cells slots) (hx : p.tables.exec = Jvm.exec) (hZ : Z.Warmed39 s.vm) {own R0 O n d host : String} {index : Nat} (hown : s.vm.findClass own = some m.cls) (w : (Jvm.Cond.fieldLink own index R0 n d).before a0 Z = true ∨ (Jvm.Cond.fieldLinkNest own index R0 n d host).before a0 Z = true) (via : Via Z R0 O n d)
    (eT : T.heap = h) {a : Addr} {v : Value} (F : Fld Z h a O n d v) {pc : Nat} {Ls : Array Slot} {rest : List Value} (hd : decode c.code pc = .ok (.getfield index, 3)) (k : ∀ T', Stand p l e R s m args below meth c T' locs cells slots → T'.heap = h → ownG p.tables e below P (T'.setTop (mkF m (pc + 3) Ls (v :: rest)))) : ownG p.tables e below P (T.setTop (mkF m pc Ls (.ref a :: rest))) := by
  obtain ⟨T', X', e', st⟩ := getF X hx hZ hown w via eT F (g := mkF m pc Ls (.ref a :: rest)) rfl rfl hd
  exact ownBy st (k T' X' e')
theorem own_getS {p : Program} {l : Launch} {e : Env} {R : Room} {s : State} {m : MethodId} {args : Array Value} {below : List Frame} {meth : Method} {c : Code} {T Z : State} {locs : List Loc} {cells slots : Nat} {a0 : Array Value} {h : Heap} {P : State → Prop} (X : Stand p l e R s m args below meth c T locs cells slots) (hx : p.tables.exec = Jvm.exec) (hZ : Z.Warmed39 s.vm) {own R0 O n d host : String} {index : Nat} (hown : s.vm.findClass own = some m.cls) (w : (Jvm.Cond.fieldLink own index R0 n d).before a0 Z = true ∨ (Jvm.Cond.fieldLinkNest own index R0 n d host).before a0 Z = true) (via : Via Z R0 O n d)
    (eT : T.heap = h) {v : Value} (F : Sta Z h O n d v) {pc : Nat} {Ls : Array Slot} {rest : List Value} (hd : decode c.code pc = .ok (.getstatic index, 3)) (k : ∀ T', Stand p l e R s m args below meth c T' locs cells slots → T'.heap = h → ownG p.tables e below P (T'.setTop (mkF m (pc + 3) Ls (v :: rest)))) : ownG p.tables e below P (T.setTop (mkF m pc Ls rest)) := by
  obtain ⟨T', X', e', st⟩ := getS2 X hx hZ hown w via eT F (g := mkF m pc Ls rest) rfl hd
  exact ownBy st (k T' X' e')
theorem own_safe_blank {Z : State} {EL : List (String × Nat)} {vm : Vm} {h : Heap} {x : Addr} (hal : Z.vm.Alike vm) (E : Exa Z h x "java/lang/String") (F : Fld Z h x "java/lang/String" "value" "[B" .null) : Safe Z EL vm h x := fun B => by
  obtain ⟨p, -, u, a, -, q, -, G, rfl | rfl⟩ := B
  · obtain ⟨cS, ⟨⟨s1, s2, s3, ⟨cv, kv, iv, s4, s4'⟩, -, s6, -, s8, -⟩, -⟩, -⟩ := G
    obtain ⟨cell, cf, kk, i, f, h1, h2, h3, -, -, -, h7⟩ := F
    cases (show h[q.sa]? = some q.sC from s1).symm.trans h1
    obtain ⟨kv', z4⟩ := ff_back (U := Wst Z vm h) hal s4
    cases h2.symm.trans z4
    rw [s8] at h7
    cases h7
  · obtain ⟨cell, k, e1, e2, e3, -, -⟩ := E
    cases (show h[q.sd]? = some q.SA from G.hd).symm.trans e1
    obtain ⟨cS, -, -, f, -⟩ := G
    have f' : vm.findClass "[B" = some q.SA.cls := f
    rw [hal.findClass] at f'
    obtain ⟨k1, q1, q2⟩ := Vm.findClass_spec f'
    obtain ⟨k2, q3, q4⟩ := Vm.findClass_spec e2
    cases q1.symm.trans q3
    exact absurd (q2.symm.trans q4) (by decide)
theorem own_wS {Z : State} {a0 : Array Value} (hw : ∀ d ∈ tables_1, d.before a0 Z = true) : ∀ a ∈ Bundle.stringAtoms, a.before a0 Z = true := fun d hd => hw d ((by decide +kernel : ∀ d ∈ Bundle.stringAtoms, d ∈ tables_1) d hd)
theorem oTo {tb : Tables} {e : Env} {below : List Frame} {P : State → Prop} {B : State} (T : State) (F : JFrame) (h : ∀ t, Steps tb e below (T.setTop F) t → Steps tb e below B t) (g : ownG tb e below P (T.setTop F)) : ownG tb e below P B := ownBy h g
abbrev oA (p : Program) (e : Env) (below : List Frame) (P : State → Prop) (T : State) (F : JFrame) : Prop := ownG p.tables e below P (T.setTop F)
abbrev vI (x : Int32) : Slot := .val (.int x)
abbrev vR (x : Addr) : Slot := .val (.ref x)
abbrev iV (x : Int32) : Value := .int x
theorem oLe {a b : Nat} (h : Nat.ble a b = true) : a ≤ b := Nat.le_of_ble_eq_true h
theorem oHd {p : Program} {l : Launch} {e : Env} {R : Room} {s : State} {m : MethodId} {args : Array Value} {below : List Frame} {meth : Method} {c : Code} {T : State} {locs : List Loc} {cells slots n0 : Nat} (cells' slots' : Nat) (X : Stand p l e R s m args below meth c T locs cells slots) (N : Fr n0 locs) (hc : Nat.ble cells cells' = true) (hs : Nat.ble slots slots' = true) : ∃ L, Stand p l e R s m args below meth c T L cells' slots' ∧ Fr n0 L := own_hide X N (oLe hc) (oLe hs)
theorem oWt {a b : Nat} (h : a = b) : a ≤ b := Nat.le_of_eq h
theorem oNf {Z s : State} {a0 : Array Value} {C : String} {y : MethodName} (hZ : Z.Warmed39 s.vm) (h : (Cond.selects C y y).before a0 Z = true) : NotFace s y := notFace_of_selects (args := #[]) (mvT hZ h)
def ownEL : List (String × Nat) := [("com/example/quayside/quayside/web/Html", 29), ("java/lang/String", 7)]
theorem own_EW {Z : State} {a0 : Array Value} (hw : ∀ d ∈ tables_1, d.before a0 Z = true) : EW Z a0 ownEL := (EW.cons (Wd58 hw) (by decide) (EW.cons (Wd18 hw) (by decide) EW.nil))
theorem pn_1 : plainName "java/lang/String" = true := by first | (simp [plainName, overriddenIn]; done) | decide +kernel
theorem d3_0 : decode jdk_42_method_149_code 0 = .ok (.aload_n 0, 1) := by decide +kernel
theorem d3_1 : decode jdk_42_method_149_code 1 = .ok (.invokespecial 1, 3) := by decide +kernel
theorem d3_4 : decode jdk_42_method_149_code 4 = .ok (.iload_n 3, 1) := by decide +kernel
theorem d3_5 : decode jdk_42_method_149_code 5 = .ok (.ifCond .ne 22, 3) := by decide +kernel
theorem d3_8 : decode jdk_42_method_149_code 8 = .ok (.aload_n 0, 1) := by decide +kernel
theorem d3_9 : decode jdk_42_method_149_code 9 = .ok (.ldc 7, 2) := by decide +kernel
theorem d3_11 : decode jdk_42_method_149_code 11 = .ok (.getfield 9, 3) := by decide +kernel
theorem d3_14 : decode jdk_42_method_149_code 14 = .ok (.putfield 9, 3) := by decide +kernel
theorem d3_17 : decode jdk_42_method_149_code 17 = .ok (.aload_n 0, 1) := by decide +kernel
theorem d3_18 : decode jdk_42_method_149_code 18 = .ok (.ldc 7, 2) := by decide +kernel
theorem d3_20 : decode jdk_42_method_149_code 20 = .ok (.getfield 15, 3) := by decide +kernel
theorem d3_23 : decode jdk_42_method_149_code 23 = .ok (.putfield 15, 3) := by decide +kernel
theorem d3_26 : decode jdk_42_method_149_code 26 = .ok (.return_, 1) := by decide +kernel
theorem d2_0 : decode jdk_42_method_3_code 0 = .ok (.aload_n 0, 1) := by decide +kernel
theorem d2_1 : decode jdk_42_method_3_code 1 = .ok (.aload_n 1, 1) := by decide +kernel
theorem d2_2 : decode jdk_42_method_3_code 2 = .ok (.iconst 0, 1) := by decide +kernel
theorem d2_3 : decode jdk_42_method_3_code 3 = .ok (.aload_n 1, 1) := by decide +kernel
theorem d2_4 : decode jdk_42_method_3_code 4 = .ok (.arraylength, 1) := by decide +kernel
theorem d2_5 : decode jdk_42_method_3_code 5 = .ok (.aconst_null, 1) := by decide +kernel
theorem d2_6 : decode jdk_42_method_3_code 6 = .ok (.invokespecial 27, 3) := by decide +kernel
theorem pd_2 : parseMethodDescriptor "([CIILjava/lang/Void;)V" = some ⟨[(.array .char), .int, .int, (.object "java/lang/Void")], none⟩ := by decide +kernel
theorem d2_9 : decode jdk_42_method_3_code 9 = .ok (.return_, 1) := by decide +kernel
theorem own_irr (x : Int32) : ¬ x < x := by simp [Int32.lt_iff_toInt_lt]
abbrev oL (c : Int32) : Int32 := c.toInt8.toInt32
theorem own_lo_inj {c : Int32} (h : ¬ c < 0) (h2 : ¬ (255 : Int32) < c) : (c.toInt8.toInt32 &&& (255 : Int32)).toUInt32.toUInt16.toUInt32.toInt32 = c := StrChars.chr8_lo8 h h2
theorem own_l1c {c : Int32} (h : ¬ c < 0 ∧ ¬ (255 : Int32) < c) : nar .char (((oL c) &&& (255 : Int32)).toUInt32.toUInt16.toUInt32.toInt32) = c := by
  rw [own_nar_char]
  exact own_lo_inj h.1 h.2
theorem own_c8 {c : Int32} (h : ¬ c < 0 ∧ ¬ (255 : Int32) < c) : nar .char c = c := by
  have q := c_i2c c
  have e0 : (0 : Int32).toInt = 0 := rfl
  have e1 : (255 : Int32).toInt = 255 := rfl
  simp only [Int32.lt_iff_toInt_lt] at h
  exact Int32.toInt_inj.mp (by show (c.toUInt32.toUInt16.toUInt32.toInt32).toInt = _; omega)
theorem own_shl0 (x : Int32) : (x <<< ((0 : Int32) &&& 31)) = x := by
  rw [show (0 : Int32) &&& 31 = 0 from by decide]
  simp
theorem own_sub0 (x : Int32) : (x - (0 : Int32)) = x := by simp
theorem own_selpriv {Z : State} {a0 : Array Value} {C : String} {y : MethodName} (hs : (Cond.selects C y y).before a0 Z = true) (hp : (Cond.privateMethod y).before a0 Z = true) (hi : (Cond.instanceMethod y).before a0 Z = true) (hy : y.cls ≠ "java/lang/invoke/MethodHandle" ∧ y.cls ≠ "java/lang/invoke/VarHandle") : (Cond.selects y.cls y y).before a0 Z = true := by
  obtain ⟨c2, r2, m2, -, -, q3, -, kP, hkP, hkPi⟩ := Cond.selects_spec hs
  exact Jvm.Stand.selects_self_of_private (findClass_of_methodNamed q3) hkP hkPi (Cond.privateMethod_at hp) hi hy
theorem own_nf {args : Array Value} {s : State} {C : String} {y y' : MethodName} (hs : (Cond.selects C y' y').before args s = true) (hc : y'.cls = y.cls) : NotFace s y := fun r0 h0 => by
  obtain ⟨c2, r2, m2, -, -, q3, -, kP, hkP, hkPi⟩ := Cond.selects_spec hs
  have e1 := findClass_of_methodNamed q3
  have e2 := findClass_of_methodNamed h0
  rw [hc] at e1
  have e3 := Option.some.inj (e1.symm.trans e2)
  exact ⟨kP, by rw [← e3]; exact hkP, hkPi⟩
theorem own_same {Z : State} {a0 : Array Value} {C : String} {y y' : MethodName} (hi : (Cond.instanceMethod y).before a0 Z = true) (hs : (Cond.selects C y' y').before a0 Z = true) (hc : y'.cls = y.cls) (hy : y.cls ≠ "java/lang/invoke/MethodHandle" ∧ y.cls ≠ "java/lang/invoke/VarHandle") : (Cond.sameMethod y.cls y.cls y.name y.desc).before a0 Z = true := by
  obtain ⟨mk, methM, hnamed, -, -, -⟩ := Cond.instanceMethod_spec hi
  have hfound : Z.methodFound? y.cls y.name y.desc = some mk := State.methodFound?_of_named hnamed hy
  obtain ⟨kP, hkP, hkPi⟩ := own_nf hs hc mk hnamed
  have hn : Z.methodNamed? ⟨y.cls, y.name, y.desc⟩ = some mk := hnamed
  simp only [Cond.before, Cond.holds, Cond.value, findClass_of_methodNamed hnamed, hfound, hn, hkP]
  simp [hkPi]
theorem own_exa_ne {Z : State} {h : Heap} {a b : Addr} {C D : String} (E : Exa Z h a C) (F : Exa Z h b D) (q : C ≠ D) : a ≠ b := fun e => by
  subst e
  obtain ⟨c1, k1, e1, e2, e3, -⟩ := E
  obtain ⟨c2, k2, f1, f2, f3, -⟩ := F
  cases e1.symm.trans f1
  obtain ⟨x1, q1, q2⟩ := Vm.findClass_spec e2
  obtain ⟨x2, q3, q4⟩ := Vm.findClass_spec f2
  cases q1.symm.trans q3
  exact q (q2.symm.trans q4)
def Cpy (vs us ws : List Value) (cn z zb cm : Int32) : Prop := (¬ cn < 0) ∧ (¬ z < 0) ∧ cn.toNatClampNeg + z.toNatClampNeg ≤ zb.toNatClampNeg ∧ (us = (List.range z.toNatClampNeg).map fun i => us.getD ((0 : Int32).toNatClampNeg + i) (.int (0 : Int32))) ∧ cn.toNatClampNeg + z.toNatClampNeg ≤ vs.length ∧ vs.take cn.toNatClampNeg ++ us ++ vs.drop (cn.toNatClampNeg + z.toNatClampNeg) = ws ∧ (z >>> ((0 : Int32) &&& 31)) = z ∧ (cn + z) = cm ∧ ¬ ((0 : Int32) < (cm - (zb >>> ((0 : Int32) &&& 31))))
def Cps (vs ws : List Value) (cn zb cm cc : Int32) : Prop := (¬ cn < 0 ∧ cn < zb) ∧ cn.toNatClampNeg < vs.length ∧ vs.set cn.toNatClampNeg (.int cc) = ws ∧ (cn + (1 : Int32)) = cm ∧ ¬ ((0 : Int32) < (cm - (zb >>> ((0 : Int32) &&& 31))))
def Cor (vs rs : List Value) (cn zb : Int32) (cap : Nat) : Prop := (¬ cn < 0) ∧ ¬ (cn = zb) ∧ cn < zb ∧ (0 : Int32).toNatClampNeg + cn.toNatClampNeg ≤ zb.toNatClampNeg ∧ cn.toNatClampNeg ≤ cap ∧ (rs = (List.range cn.toNatClampNeg).map fun i => vs.getD ((0 : Int32).toNatClampNeg + i) (.int (0 : Int32)))
abbrev oI (l : List Int32) : List Value := l.map Value.int
theorem oCp {vs us ws : List Value} {cn z zb cm : Int32} (h : (¬ cn < 0) ∧ (¬ z < 0) ∧ cn.toNatClampNeg + z.toNatClampNeg ≤ zb.toNatClampNeg ∧ (z >>> ((0 : Int32) &&& 31)) = z ∧ (cn + z) = cm ∧ ¬ ((0 : Int32) < (cm - (zb >>> ((0 : Int32) &&& 31))))) (hu : us = (List.range z.toNatClampNeg).map fun i => us.getD ((0 : Int32).toNatClampNeg + i) (.int (0 : Int32))) (hl : Nat.ble (cn.toNatClampNeg + z.toNatClampNeg) vs.length = true) (hs : vs.take cn.toNatClampNeg ++ us ++ vs.drop (cn.toNatClampNeg + z.toNatClampNeg) = ws) : Cpy vs us ws cn z zb cm := ⟨h.1, h.2.1, h.2.2.1, hu, Nat.le_of_ble_eq_true hl, hs, h.2.2.2⟩
theorem oCq {vs ws : List Value} {cn zb cm cc : Int32} (h : (¬ cn < 0 ∧ cn < zb) ∧ (cn + (1 : Int32)) = cm ∧ ¬ ((0 : Int32) < (cm - (zb >>> ((0 : Int32) &&& 31))))) (hl : Nat.ble (cn.toNatClampNeg + 1) vs.length = true) (hs : vs.set cn.toNatClampNeg (.int cc) = ws) : Cps vs ws cn zb cm cc := ⟨h.1, Nat.le_of_ble_eq_true hl, hs, h.2⟩
theorem oCr {vs rs : List Value} {cn zb : Int32} {cap : Nat} (h : (¬ cn < 0) ∧ ¬ (cn = zb) ∧ cn < zb ∧ (0 : Int32).toNatClampNeg + cn.toNatClampNeg ≤ zb.toNatClampNeg ∧ cn.toNatClampNeg ≤ cap) (hr : rs = (List.range cn.toNatClampNeg).map fun i => vs.getD ((0 : Int32).toNatClampNeg + i) (.int (0 : Int32))) : Cor vs rs cn zb cap := ⟨h.1, h.2.1, h.2.2.1, h.2.2.2.1, h.2.2.2.2, hr⟩
theorem own_rep (n : Nat) (rs : List Value) : (([] : List Value) ++ List.replicate n (Value.int (0 : Int32))).take (0 : Int32).toNatClampNeg ++ rs ++ (([] : List Value) ++ List.replicate n (Value.int (0 : Int32))).drop ((0 : Int32).toNatClampNeg + n) = rs := by
  have e : (0 : Int32).toNatClampNeg = 0 := rfl
  rw [e]
  simp
def Chl (z : Int32) (vs : List Value) (i cc : Int32) : Prop := (¬ i < (0 : Int32) ∧ i < z) ∧ vs.getD i.toNatClampNeg (.int (0 : Int32)) = .int (oL cc) ∧ (¬ cc < 0 ∧ ¬ (255 : Int32) < cc)
theorem oCl {z i cc : Int32} {vs : List Value} (h : ¬ i < (0 : Int32) ∧ i < z) (hg : vs.getD i.toNatClampNeg (.int (0 : Int32)) = .int (oL cc)) (hr : ¬ cc < 0 ∧ ¬ (255 : Int32) < cc) : Chl z vs i cc := ⟨h, hg, hr⟩
theorem own_safe_len {Z : State} {a0 : Array Value} {EL : List (String × Nat)} {vm : Vm} {h : Heap} {x : Addr} {k : ClassId} {ty : FieldType} {z : Int32} {vs : List Value} {dv : Value} {n : Nat} (hZ : Z.Warmed39 vm) (w : ∀ p ∈ EL, ∃ text : String, (Cond.stringLink p.1 p.2 text).before a0 Z = true ∧ (∀ c ∈ text.toList, c.toNat < 256) ∧ text.toList.length ≠ n) (F : Arv Z h x k ty z vs dv) (hz : z.toNatClampNeg = n) : Safe Z EL vm h x := fun B => by
  obtain ⟨cl, A, -, hsz, -⟩ := F
  obtain ⟨p, hp, u, a, hb, q, hq, G, hy⟩ := B
  obtain ⟨text, wl, ht, hne⟩ := w p hp
  obtain ⟨c, k', cf, i, hc, hk, hcf, hpool, hu, -⟩ := hb
  have wl' : (Cond.stringLink p.1 p.2 text).before a0 (Wst Z vm h) = true := mvS (s := { Z with heap := h }) hZ wl
  obtain ⟨k2, cf0, i0, units0, hk2, hcf2, hp0, hu0, -, htext, -⟩ := Cond.stringLink_spec (s := Wst Z vm h) hc wl'
  cases hk.symm.trans hk2
  cases hcf.symm.trans hcf2
  cases hpool.symm.trans hp0
  cases hu.symm.trans hu0
  have hlat := Jvm.ClassFile.lat_of_text htext ht
  have eu := Jvm.ClassFile.units_of_text htext ht
  rcases hy with rfl | rfl
  · obtain ⟨A1, ⟨-, kA, hkA, compA, hkindA⟩, -⟩ := A
    obtain ⟨kA', hkA', ekA⟩ := hZ.alike.2.2 _ _ hkA
    cases (show h[q.sa]? = some q.sC from G.ha).symm.trans A1
    obtain ⟨cS, ⟨-, -, e⟩, ⟨kS, g1, g2, -⟩, -⟩ := G
    subst e
    cases (show vm.classes[q.sC.cls]? = some kS from g1).symm.trans hkA'
    rw [ekA] at g2
    have := hkindA.symm.trans g2
    cases this
  · cases (show h[q.sd]? = some q.SA from G.hd).symm.trans A.1
    obtain ⟨cS, -, -, -, hb⟩ := G
    have e1 : q.SA.slots.size = u.size := by rw [hb, Jvm.Free.SBG.stringBytes_lat hlat]; simp
    have e2 : u.size = text.toList.length := by have := congrArg List.length eu; simpa using this
    exact hne (by omega)
theorem own_EN {Z : State} {a0 : Array Value} (hw : ∀ d ∈ tables_1, d.before a0 Z = true) : ∀ p ∈ ownEL, ∃ text : String, (Cond.stringLink p.1 p.2 text).before a0 Z = true ∧ (∀ c ∈ text.toList, c.toNat < 256) ∧ text.toList.length ≠ 16 := by
  intro p hp
  simp only [ownEL, List.mem_cons, List.not_mem_nil, or_false] at hp
  rcases hp with rfl | rfl
  · exact ⟨_, (Wd58 hw), by decide, by decide⟩
  · exact ⟨_, (Wd18 hw), by decide, by decide⟩
def Tg (z : Int32) (us : List Value) : Prop := (True ∧ z = (0 : Int32) ∧ us = []) ∨ (∃ c0 : Int32, (¬ c0 < 0 ∧ ¬ (255 : Int32) < c0) ∧ z = (1 : Int32) ∧ us = [(.int (oL c0))]) ∨ (∃ c0 c1 : Int32, (¬ c0 < 0 ∧ ¬ (255 : Int32) < c0) ∧ (¬ c1 < 0 ∧ ¬ (255 : Int32) < c1) ∧ z = (2 : Int32) ∧ us = [(.int (oL c0)), (.int (oL c1))]) ∨ (∃ c0 c1 c2 : Int32, (¬ c0 < 0 ∧ ¬ (255 : Int32) < c0) ∧ (¬ c1 < 0 ∧ ¬ (255 : Int32) < c1) ∧ (¬ c2 < 0 ∧ ¬ (255 : Int32) < c2) ∧ z = (3 : Int32) ∧ us = [(.int (oL c0)), (.int (oL c1)), (.int (oL c2))])
theorem d12_0 : decode jdk_42_method_152_code 0 = .ok (.getstatic 38, 3) := by decide +kernel
theorem d12_3 : decode jdk_42_method_152_code 3 = .ok (.ifCond .eq 10, 3) := by decide +kernel
theorem d12_6 : decode jdk_42_method_152_code 6 = .ok (.aload_n 0, 1) := by decide +kernel
theorem d12_7 : decode jdk_42_method_152_code 7 = .ok (.getfield 15, 3) := by decide +kernel
theorem d12_10 : decode jdk_42_method_152_code 10 = .ok (.goto 4, 3) := by decide +kernel
theorem d12_14 : decode jdk_42_method_152_code 14 = .ok (.ireturn, 1) := by decide +kernel
theorem d34_0 : decode jdk_42_method_154_code 0 = .ok (.getstatic 38, 3) := by decide +kernel
theorem d34_3 : decode jdk_42_method_154_code 3 = .ok (.ifCond .eq 14, 3) := by decide +kernel
theorem d34_6 : decode jdk_42_method_154_code 6 = .ok (.aload_n 0, 1) := by decide +kernel
theorem d34_7 : decode jdk_42_method_154_code 7 = .ok (.getfield 15, 3) := by decide +kernel
theorem d34_10 : decode jdk_42_method_154_code 10 = .ok (.ifCond .ne 7, 3) := by decide +kernel
theorem d34_13 : decode jdk_42_method_154_code 13 = .ok (.iconst 1, 1) := by decide +kernel
theorem d34_14 : decode jdk_42_method_154_code 14 = .ok (.goto 4, 3) := by decide +kernel
theorem d34_18 : decode jdk_42_method_154_code 18 = .ok (.ireturn, 1) := by decide +kernel
theorem d11_0 : decode jdk_42_method_54_code 0 = .ok (.aload_n 0, 1) := by decide +kernel
theorem d11_1 : decode jdk_42_method_54_code 1 = .ok (.getfield 9, 3) := by decide +kernel
theorem d11_4 : decode jdk_42_method_54_code 4 = .ok (.arraylength, 1) := by decide +kernel
theorem d11_5 : decode jdk_42_method_54_code 5 = .ok (.aload_n 0, 1) := by decide +kernel
theorem d11_6 : decode jdk_42_method_54_code 6 = .ok (.invokevirtual 335, 3) := by decide +kernel
theorem pd_3 : parseMethodDescriptor "()B" = some ⟨[], some .byte⟩ := by decide +kernel
theorem d11_9 : decode jdk_42_method_54_code 9 = .ok (.ishr, 1) := by decide +kernel
theorem d11_10 : decode jdk_42_method_54_code 10 = .ok (.ireturn, 1) := by decide +kernel
theorem pn_4 : plainName "jdk/internal/util/Preconditions" = true := by first | (simp [plainName, overriddenIn]; done) | decide +kernel
theorem d37_0 : decode jdk_41_method_11_code 0 = .ok (.iload_n 0, 1) := by decide +kernel
theorem d37_1 : decode jdk_41_method_11_code 1 = .ok (.ifCond .lt 8, 3) := by decide +kernel
theorem d37_4 : decode jdk_41_method_11_code 4 = .ok (.iload_n 0, 1) := by decide +kernel
theorem d37_5 : decode jdk_41_method_11_code 5 = .ok (.iload_n 1, 1) := by decide +kernel
theorem d37_6 : decode jdk_41_method_11_code 6 = .ok (.if_icmp .lt 10, 3) := by decide +kernel
theorem d37_16 : decode jdk_41_method_11_code 16 = .ok (.iload_n 0, 1) := by decide +kernel
theorem d37_17 : decode jdk_41_method_11_code 17 = .ok (.ireturn, 1) := by decide +kernel
theorem d36_0 : decode jdk_42_method_155_code 0 = .ok (.iload_n 0, 1) := by decide +kernel
theorem d36_1 : decode jdk_42_method_155_code 1 = .ok (.iload_n 1, 1) := by decide +kernel
theorem d36_2 : decode jdk_42_method_155_code 2 = .ok (.getstatic 1053, 3) := by decide +kernel
theorem d36_5 : decode jdk_42_method_155_code 5 = .ok (.invokestatic 1059, 3) := by decide +kernel
theorem pd_5 : parseMethodDescriptor "(IILjava/util/function/BiFunction;)I" = some ⟨[.int, .int, (.object "java/util/function/BiFunction")], some .int⟩ := by decide +kernel
theorem d36_8 : decode jdk_42_method_155_code 8 = .ok (.pop, 1) := by decide +kernel
theorem d36_9 : decode jdk_42_method_155_code 9 = .ok (.return_, 1) := by decide +kernel
theorem pn_6 : plainName "java/lang/StringLatin1" = true := by first | (simp [plainName, overriddenIn]; done) | decide +kernel
theorem d35_0 : decode jdk_43_method_2_code 0 = .ok (.iload_n 1, 1) := by decide +kernel
theorem d35_1 : decode jdk_43_method_2_code 1 = .ok (.aload_n 0, 1) := by decide +kernel
theorem d35_2 : decode jdk_43_method_2_code 2 = .ok (.arraylength, 1) := by decide +kernel
theorem d35_3 : decode jdk_43_method_2_code 3 = .ok (.invokestatic 9, 3) := by decide +kernel
theorem pd_7 : parseMethodDescriptor "(II)V" = some ⟨[.int, .int], none⟩ := by decide +kernel
theorem d35_6 : decode jdk_43_method_2_code 6 = .ok (.aload_n 0, 1) := by decide +kernel
theorem d35_7 : decode jdk_43_method_2_code 7 = .ok (.iload_n 1, 1) := by decide +kernel
theorem d35_8 : decode jdk_43_method_2_code 8 = .ok (.baload, 1) := by decide +kernel
theorem d35_9 : decode jdk_43_method_2_code 9 = .ok (.sipush 255, 3) := by decide +kernel
theorem d35_12 : decode jdk_43_method_2_code 12 = .ok (.iand, 1) := by decide +kernel
theorem d35_13 : decode jdk_43_method_2_code 13 = .ok (.i2c, 1) := by decide +kernel
theorem d35_14 : decode jdk_43_method_2_code 14 = .ok (.ireturn, 1) := by decide +kernel
theorem d33_0 : decode jdk_42_method_56_code 0 = .ok (.aload_n 0, 1) := by decide +kernel
theorem d33_1 : decode jdk_42_method_56_code 1 = .ok (.invokevirtual 492, 3) := by decide +kernel
theorem pd_8 : parseMethodDescriptor "()Z" = some ⟨[], some .boolean⟩ := by decide +kernel
theorem d33_4 : decode jdk_42_method_56_code 4 = .ok (.ifCond .eq 12, 3) := by decide +kernel
theorem d33_7 : decode jdk_42_method_56_code 7 = .ok (.aload_n 0, 1) := by decide +kernel
theorem d33_8 : decode jdk_42_method_56_code 8 = .ok (.getfield 9, 3) := by decide +kernel
theorem d33_11 : decode jdk_42_method_56_code 11 = .ok (.iload_n 1, 1) := by decide +kernel
theorem d33_12 : decode jdk_42_method_56_code 12 = .ok (.invokestatic 495, 3) := by decide +kernel
theorem pd_9 : parseMethodDescriptor "([BI)C" = some ⟨[(.array .byte), .int], some .char⟩ := by decide +kernel
theorem d33_15 : decode jdk_42_method_56_code 15 = .ok (.ireturn, 1) := by decide +kernel
theorem pn_10 : plainName "java/lang/AbstractStringBuilder" = true := by first | (simp [plainName, overriddenIn]; done) | decide +kernel
theorem d7_0 : decode jdk_68_method_2_code 0 = .ok (.aload_n 0, 1) := by decide +kernel
theorem d7_1 : decode jdk_68_method_2_code 1 = .ok (.invokespecial 3, 3) := by decide +kernel
theorem d7_4 : decode jdk_68_method_2_code 4 = .ok (.getstatic 18, 3) := by decide +kernel
theorem d7_7 : decode jdk_68_method_2_code 7 = .ok (.ifCond .eq 18, 3) := by decide +kernel
theorem d7_10 : decode jdk_68_method_2_code 10 = .ok (.aload_n 0, 1) := by decide +kernel
theorem d7_11 : decode jdk_68_method_2_code 11 = .ok (.iload_n 1, 1) := by decide +kernel
theorem d7_12 : decode jdk_68_method_2_code 12 = .ok (.newarray .byte, 2) := by decide +kernel
theorem d7_14 : decode jdk_68_method_2_code 14 = .ok (.putfield 15, 3) := by decide +kernel
theorem d7_17 : decode jdk_68_method_2_code 17 = .ok (.aload_n 0, 1) := by decide +kernel
theorem d7_18 : decode jdk_68_method_2_code 18 = .ok (.iconst 0, 1) := by decide +kernel
theorem d7_19 : decode jdk_68_method_2_code 19 = .ok (.putfield 22, 3) := by decide +kernel
theorem d7_22 : decode jdk_68_method_2_code 22 = .ok (.goto 16, 3) := by decide +kernel
theorem d7_38 : decode jdk_68_method_2_code 38 = .ok (.return_, 1) := by decide +kernel
theorem pn_11 : plainName "java/lang/StringBuilder" = true := by first | (simp [plainName, overriddenIn]; done) | decide +kernel
theorem d6_0 : decode jdk_67_method_1_code 0 = .ok (.aload_n 0, 1) := by decide +kernel
theorem d6_1 : decode jdk_67_method_1_code 1 = .ok (.bipush 16, 2) := by decide +kernel
theorem d6_3 : decode jdk_67_method_1_code 3 = .ok (.invokespecial 1, 3) := by decide +kernel
theorem pd_12 : parseMethodDescriptor "(I)V" = some ⟨[.int], none⟩ := by decide +kernel
theorem d6_6 : decode jdk_67_method_1_code 6 = .ok (.return_, 1) := by decide +kernel
theorem d16_0 : decode jdk_42_method_147_code 0 = .ok (.aload_n 0, 1) := by decide +kernel
theorem d16_1 : decode jdk_42_method_147_code 1 = .ok (.invokevirtual 335, 3) := by decide +kernel
theorem d16_4 : decode jdk_42_method_147_code 4 = .ok (.iload_n 3, 1) := by decide +kernel
theorem d16_5 : decode jdk_42_method_147_code 5 = .ok (.if_icmp .ne 23, 3) := by decide +kernel
theorem d16_8 : decode jdk_42_method_147_code 8 = .ok (.aload_n 0, 1) := by decide +kernel
theorem d16_9 : decode jdk_42_method_147_code 9 = .ok (.getfield 9, 3) := by decide +kernel
theorem d16_12 : decode jdk_42_method_147_code 12 = .ok (.iconst 0, 1) := by decide +kernel
theorem d16_13 : decode jdk_42_method_147_code 13 = .ok (.aload_n 1, 1) := by decide +kernel
theorem d16_14 : decode jdk_42_method_147_code 14 = .ok (.iload_n 2, 1) := by decide +kernel
theorem d16_15 : decode jdk_42_method_147_code 15 = .ok (.iload_n 3, 1) := by decide +kernel
theorem d16_16 : decode jdk_42_method_147_code 16 = .ok (.ishl, 1) := by decide +kernel
theorem d16_17 : decode jdk_42_method_147_code 17 = .ok (.aload_n 0, 1) := by decide +kernel
theorem d16_18 : decode jdk_42_method_147_code 18 = .ok (.getfield 9, 3) := by decide +kernel
theorem d16_21 : decode jdk_42_method_147_code 21 = .ok (.arraylength, 1) := by decide +kernel
theorem d16_22 : decode jdk_42_method_147_code 22 = .ok (.invokestatic 212, 3) := by decide +kernel
theorem d16_25 : decode jdk_42_method_147_code 25 = .ok (.goto 18, 3) := by decide +kernel
theorem d16_43 : decode jdk_42_method_147_code 43 = .ok (.return_, 1) := by decide +kernel
theorem d15_0 : decode jdk_68_method_71_code 0 = .ok (.getstatic 18, 3) := by decide +kernel
theorem d15_3 : decode jdk_68_method_71_code 3 = .ok (.ifCond .eq 18, 3) := by decide +kernel
theorem d15_6 : decode jdk_68_method_71_code 6 = .ok (.aload_n 0, 1) := by decide +kernel
theorem d15_7 : decode jdk_68_method_71_code 7 = .ok (.getfield 22, 3) := by decide +kernel
theorem d15_10 : decode jdk_68_method_71_code 10 = .ok (.aload_n 1, 1) := by decide +kernel
theorem d15_11 : decode jdk_68_method_71_code 11 = .ok (.invokevirtual 40, 3) := by decide +kernel
theorem d15_14 : decode jdk_68_method_71_code 14 = .ok (.if_icmp .eq 7, 3) := by decide +kernel
theorem d15_21 : decode jdk_68_method_71_code 21 = .ok (.return_, 1) := by decide +kernel
theorem d13_0 : decode jdk_68_method_9_code 0 = .ok (.aload_n 0, 1) := by decide +kernel
theorem d13_1 : decode jdk_68_method_9_code 1 = .ok (.getfield 15, 3) := by decide +kernel
theorem d13_4 : decode jdk_68_method_9_code 4 = .ok (.arraylength, 1) := by decide +kernel
theorem d13_5 : decode jdk_68_method_9_code 5 = .ok (.aload_n 0, 1) := by decide +kernel
theorem d13_6 : decode jdk_68_method_9_code 6 = .ok (.getfield 22, 3) := by decide +kernel
theorem d13_9 : decode jdk_68_method_9_code 9 = .ok (.ishr, 1) := by decide +kernel
theorem d13_10 : decode jdk_68_method_9_code 10 = .ok (.istore_n 2, 1) := by decide +kernel
theorem d13_11 : decode jdk_68_method_9_code 11 = .ok (.iload_n 1, 1) := by decide +kernel
theorem d13_12 : decode jdk_68_method_9_code 12 = .ok (.iload_n 2, 1) := by decide +kernel
theorem d13_13 : decode jdk_68_method_9_code 13 = .ok (.isub, 1) := by decide +kernel
theorem d13_14 : decode jdk_68_method_9_code 14 = .ok (.ifCond .le 24, 3) := by decide +kernel
theorem d13_38 : decode jdk_68_method_9_code 38 = .ok (.return_, 1) := by decide +kernel
theorem d14_0 : decode jdk_68_method_73_code 0 = .ok (.aload_n 0, 1) := by decide +kernel
theorem d14_1 : decode jdk_68_method_73_code 1 = .ok (.aload_n 2, 1) := by decide +kernel
theorem d14_2 : decode jdk_68_method_73_code 2 = .ok (.invokevirtual 397, 3) := by decide +kernel
theorem pd_13 : parseMethodDescriptor "(Ljava/lang/String;)V" = some ⟨[(.object "java/lang/String")], none⟩ := by decide +kernel
theorem d14_5 : decode jdk_68_method_73_code 5 = .ok (.aload_n 2, 1) := by decide +kernel
theorem d14_6 : decode jdk_68_method_73_code 6 = .ok (.aload_n 0, 1) := by decide +kernel
theorem d14_7 : decode jdk_68_method_73_code 7 = .ok (.getfield 15, 3) := by decide +kernel
theorem d14_10 : decode jdk_68_method_73_code 10 = .ok (.iload_n 1, 1) := by decide +kernel
theorem d14_11 : decode jdk_68_method_73_code 11 = .ok (.aload_n 0, 1) := by decide +kernel
theorem d14_12 : decode jdk_68_method_73_code 12 = .ok (.getfield 22, 3) := by decide +kernel
theorem d14_15 : decode jdk_68_method_73_code 15 = .ok (.invokevirtual 399, 3) := by decide +kernel
theorem pd_14 : parseMethodDescriptor "([BIB)V" = some ⟨[(.array .byte), .int, .byte], none⟩ := by decide +kernel
theorem d14_18 : decode jdk_68_method_73_code 18 = .ok (.return_, 1) := by decide +kernel
theorem d10_0 : decode jdk_68_method_22_code 0 = .ok (.aload_n 1, 1) := by decide +kernel
theorem d10_1 : decode jdk_68_method_22_code 1 = .ok (.ifnonnull 8, 3) := by decide +kernel
theorem d10_9 : decode jdk_68_method_22_code 9 = .ok (.aload_n 1, 1) := by decide +kernel
theorem d10_10 : decode jdk_68_method_22_code 10 = .ok (.invokevirtual 32, 3) := by decide +kernel
theorem pd_15 : parseMethodDescriptor "()I" = some ⟨[], some .int⟩ := by decide +kernel
theorem d10_13 : decode jdk_68_method_22_code 13 = .ok (.istore_n 2, 1) := by decide +kernel
theorem d10_14 : decode jdk_68_method_22_code 14 = .ok (.aload_n 0, 1) := by decide +kernel
theorem d10_15 : decode jdk_68_method_22_code 15 = .ok (.aload_n 0, 1) := by decide +kernel
theorem d10_16 : decode jdk_68_method_22_code 16 = .ok (.getfield 79, 3) := by decide +kernel
theorem d10_19 : decode jdk_68_method_22_code 19 = .ok (.iload_n 2, 1) := by decide +kernel
theorem d10_20 : decode jdk_68_method_22_code 20 = .ok (.iadd, 1) := by decide +kernel
theorem d10_21 : decode jdk_68_method_22_code 21 = .ok (.invokevirtual 100, 3) := by decide +kernel
theorem d10_24 : decode jdk_68_method_22_code 24 = .ok (.aload_n 0, 1) := by decide +kernel
theorem d10_25 : decode jdk_68_method_22_code 25 = .ok (.aload_n 0, 1) := by decide +kernel
theorem d10_26 : decode jdk_68_method_22_code 26 = .ok (.getfield 79, 3) := by decide +kernel
theorem d10_29 : decode jdk_68_method_22_code 29 = .ok (.aload_n 1, 1) := by decide +kernel
theorem d10_30 : decode jdk_68_method_22_code 30 = .ok (.invokevirtual 208, 3) := by decide +kernel
theorem pd_16 : parseMethodDescriptor "(ILjava/lang/String;)V" = some ⟨[.int, (.object "java/lang/String")], none⟩ := by decide +kernel
theorem d10_33 : decode jdk_68_method_22_code 33 = .ok (.aload_n 0, 1) := by decide +kernel
theorem d10_34 : decode jdk_68_method_22_code 34 = .ok (.dup, 1) := by decide +kernel
theorem d10_35 : decode jdk_68_method_22_code 35 = .ok (.getfield 79, 3) := by decide +kernel
theorem d10_38 : decode jdk_68_method_22_code 38 = .ok (.iload_n 2, 1) := by decide +kernel
theorem d10_39 : decode jdk_68_method_22_code 39 = .ok (.iadd, 1) := by decide +kernel
theorem d10_40 : decode jdk_68_method_22_code 40 = .ok (.putfield 79, 3) := by decide +kernel
theorem d10_43 : decode jdk_68_method_22_code 43 = .ok (.aload_n 0, 1) := by decide +kernel
theorem d10_44 : decode jdk_68_method_22_code 44 = .ok (.areturn, 1) := by decide +kernel
theorem d9_0 : decode jdk_67_method_7_code 0 = .ok (.aload_n 0, 1) := by decide +kernel
theorem d9_1 : decode jdk_67_method_7_code 1 = .ok (.aload_n 1, 1) := by decide +kernel
theorem d9_2 : decode jdk_67_method_7_code 2 = .ok (.invokespecial 29, 3) := by decide +kernel
theorem pd_17 : parseMethodDescriptor "(Ljava/lang/String;)Ljava/lang/AbstractStringBuilder;" = some ⟨[(.object "java/lang/String")], some (.object "java/lang/AbstractStringBuilder")⟩ := by decide +kernel
theorem d9_5 : decode jdk_67_method_7_code 5 = .ok (.pop, 1) := by decide +kernel
theorem d9_6 : decode jdk_67_method_7_code 6 = .ok (.aload_n 0, 1) := by decide +kernel
theorem d9_7 : decode jdk_67_method_7_code 7 = .ok (.areturn, 1) := by decide +kernel
theorem d19_0 : decode jdk_68_method_68_code 0 = .ok (.getstatic 18, 3) := by decide +kernel
theorem d19_3 : decode jdk_68_method_68_code 3 = .ok (.ifCond .eq 14, 3) := by decide +kernel
theorem d19_6 : decode jdk_68_method_68_code 6 = .ok (.aload_n 0, 1) := by decide +kernel
theorem d19_7 : decode jdk_68_method_68_code 7 = .ok (.getfield 22, 3) := by decide +kernel
theorem d19_10 : decode jdk_68_method_68_code 10 = .ok (.ifCond .ne 7, 3) := by decide +kernel
theorem d19_13 : decode jdk_68_method_68_code 13 = .ok (.iconst 1, 1) := by decide +kernel
theorem d19_14 : decode jdk_68_method_68_code 14 = .ok (.goto 4, 3) := by decide +kernel
theorem d19_18 : decode jdk_68_method_68_code 18 = .ok (.ireturn, 1) := by decide +kernel
theorem d20_0 : decode jdk_43_method_3_code 0 = .ok (.iload_n 0, 1) := by decide +kernel
theorem d20_1 : decode jdk_43_method_3_code 1 = .ok (.sipush 255, 3) := by decide +kernel
theorem d20_4 : decode jdk_43_method_3_code 4 = .ok (.if_icmp .gt 7, 3) := by decide +kernel
theorem d20_7 : decode jdk_43_method_3_code 7 = .ok (.iconst 1, 1) := by decide +kernel
theorem d20_8 : decode jdk_43_method_3_code 8 = .ok (.goto 4, 3) := by decide +kernel
theorem d20_12 : decode jdk_43_method_3_code 12 = .ok (.ireturn, 1) := by decide +kernel
theorem own_nl_byte_62 : nar .byte (62 : Int32) = (62 : Int32) := by decide
theorem d18_0 : decode jdk_68_method_31_code 0 = .ok (.aload_n 0, 1) := by decide +kernel
theorem d18_1 : decode jdk_68_method_31_code 1 = .ok (.aload_n 0, 1) := by decide +kernel
theorem d18_2 : decode jdk_68_method_31_code 2 = .ok (.getfield 79, 3) := by decide +kernel
theorem d18_5 : decode jdk_68_method_31_code 5 = .ok (.iconst 1, 1) := by decide +kernel
theorem d18_6 : decode jdk_68_method_31_code 6 = .ok (.iadd, 1) := by decide +kernel
theorem d18_7 : decode jdk_68_method_31_code 7 = .ok (.invokevirtual 100, 3) := by decide +kernel
theorem d18_10 : decode jdk_68_method_31_code 10 = .ok (.aload_n 0, 1) := by decide +kernel
theorem d18_11 : decode jdk_68_method_31_code 11 = .ok (.invokevirtual 83, 3) := by decide +kernel
theorem d18_14 : decode jdk_68_method_31_code 14 = .ok (.ifCond .eq 31, 3) := by decide +kernel
theorem d18_17 : decode jdk_68_method_31_code 17 = .ok (.iload_n 1, 1) := by decide +kernel
theorem d18_18 : decode jdk_68_method_31_code 18 = .ok (.invokestatic 191, 3) := by decide +kernel
theorem pd_18 : parseMethodDescriptor "(C)Z" = some ⟨[.char], some .boolean⟩ := by decide +kernel
theorem d18_21 : decode jdk_68_method_31_code 21 = .ok (.ifCond .eq 24, 3) := by decide +kernel
theorem d18_24 : decode jdk_68_method_31_code 24 = .ok (.aload_n 0, 1) := by decide +kernel
theorem d18_25 : decode jdk_68_method_31_code 25 = .ok (.getfield 15, 3) := by decide +kernel
theorem d18_28 : decode jdk_68_method_31_code 28 = .ok (.aload_n 0, 1) := by decide +kernel
theorem d18_29 : decode jdk_68_method_31_code 29 = .ok (.dup, 1) := by decide +kernel
theorem d18_30 : decode jdk_68_method_31_code 30 = .ok (.getfield 79, 3) := by decide +kernel
theorem d18_33 : decode jdk_68_method_31_code 33 = .ok (.dup_x1, 1) := by decide +kernel
theorem d18_34 : decode jdk_68_method_31_code 34 = .ok (.iconst 1, 1) := by decide +kernel
theorem d18_35 : decode jdk_68_method_31_code 35 = .ok (.iadd, 1) := by decide +kernel
theorem d18_36 : decode jdk_68_method_31_code 36 = .ok (.putfield 79, 3) := by decide +kernel
theorem d18_39 : decode jdk_68_method_31_code 39 = .ok (.iload_n 1, 1) := by decide +kernel
theorem d18_40 : decode jdk_68_method_31_code 40 = .ok (.i2b, 1) := by decide +kernel
theorem d18_41 : decode jdk_68_method_31_code 41 = .ok (.bastore, 1) := by decide +kernel
theorem d18_42 : decode jdk_68_method_31_code 42 = .ok (.goto 33, 3) := by decide +kernel
theorem d18_75 : decode jdk_68_method_31_code 75 = .ok (.aload_n 0, 1) := by decide +kernel
theorem d18_76 : decode jdk_68_method_31_code 76 = .ok (.areturn, 1) := by decide +kernel
theorem d17_0 : decode jdk_67_method_14_code 0 = .ok (.aload_n 0, 1) := by decide +kernel
theorem d17_1 : decode jdk_67_method_14_code 1 = .ok (.iload_n 1, 1) := by decide +kernel
theorem d17_2 : decode jdk_67_method_14_code 2 = .ok (.invokespecial 50, 3) := by decide +kernel
theorem pd_19 : parseMethodDescriptor "(C)Ljava/lang/AbstractStringBuilder;" = some ⟨[.char], some (.object "java/lang/AbstractStringBuilder")⟩ := by decide +kernel
theorem d17_5 : decode jdk_67_method_14_code 5 = .ok (.pop, 1) := by decide +kernel
theorem d17_6 : decode jdk_67_method_14_code 6 = .ok (.aload_n 0, 1) := by decide +kernel
theorem d17_7 : decode jdk_67_method_14_code 7 = .ok (.areturn, 1) := by decide +kernel
theorem d25_0 : decode jdk_68_method_64_code 0 = .ok (.aload_n 0, 1) := by decide +kernel
theorem d25_1 : decode jdk_68_method_64_code 1 = .ok (.getfield 15, 3) := by decide +kernel
theorem d25_4 : decode jdk_68_method_64_code 4 = .ok (.areturn, 1) := by decide +kernel
theorem d27_0 : decode jdk_68_method_6_code 0 = .ok (.aload_n 0, 1) := by decide +kernel
theorem d27_1 : decode jdk_68_method_6_code 1 = .ok (.getfield 79, 3) := by decide +kernel
theorem d27_4 : decode jdk_68_method_6_code 4 = .ok (.ireturn, 1) := by decide +kernel
theorem d26_0 : decode jdk_67_method_93_code 0 = .ok (.aload_n 0, 1) := by decide +kernel
theorem d26_1 : decode jdk_67_method_93_code 1 = .ok (.invokespecial 343, 3) := by decide +kernel
theorem d26_4 : decode jdk_67_method_93_code 4 = .ok (.ireturn, 1) := by decide +kernel
theorem pn_20 : plainName "java/util/Arrays" = true := by first | (simp [plainName, overriddenIn]; done) | decide +kernel
theorem d30_0 : decode jdk_65_method_131_code 0 = .ok (.iload_n 1, 1) := by decide +kernel
theorem d30_1 : decode jdk_65_method_131_code 1 = .ok (.iload_n 0, 1) := by decide +kernel
theorem d30_2 : decode jdk_65_method_131_code 2 = .ok (.if_icmp .ge 35, 3) := by decide +kernel
theorem d30_37 : decode jdk_65_method_131_code 37 = .ok (.return_, 1) := by decide +kernel
theorem d31_0 : decode jdk_29_method_69_code 0 = .ok (.iload_n 0, 1) := by decide +kernel
theorem d31_1 : decode jdk_29_method_69_code 1 = .ok (.iload_n 1, 1) := by decide +kernel
theorem d31_2 : decode jdk_29_method_69_code 2 = .ok (.if_icmp .gt 7, 3) := by decide +kernel
theorem d31_9 : decode jdk_29_method_69_code 9 = .ok (.iload_n 1, 1) := by decide +kernel
theorem d31_10 : decode jdk_29_method_69_code 10 = .ok (.ireturn, 1) := by decide +kernel
theorem d29_0 : decode jdk_65_method_133_code 0 = .ok (.iload_n 1, 1) := by decide +kernel
theorem d29_1 : decode jdk_65_method_133_code 1 = .ok (.iload_n 2, 1) := by decide +kernel
theorem d29_2 : decode jdk_65_method_133_code 2 = .ok (.invokestatic 343, 3) := by decide +kernel
theorem d29_5 : decode jdk_65_method_133_code 5 = .ok (.iload_n 2, 1) := by decide +kernel
theorem d29_6 : decode jdk_65_method_133_code 6 = .ok (.iload_n 1, 1) := by decide +kernel
theorem d29_7 : decode jdk_65_method_133_code 7 = .ok (.isub, 1) := by decide +kernel
theorem d29_8 : decode jdk_65_method_133_code 8 = .ok (.istore_n 3, 1) := by decide +kernel
theorem d29_9 : decode jdk_65_method_133_code 9 = .ok (.iload_n 3, 1) := by decide +kernel
theorem d29_10 : decode jdk_65_method_133_code 10 = .ok (.newarray .byte, 2) := by decide +kernel
theorem d29_12 : decode jdk_65_method_133_code 12 = .ok (.astore 4, 2) := by decide +kernel
theorem d29_14 : decode jdk_65_method_133_code 14 = .ok (.aload_n 0, 1) := by decide +kernel
theorem d29_15 : decode jdk_65_method_133_code 15 = .ok (.iload_n 1, 1) := by decide +kernel
theorem d29_16 : decode jdk_65_method_133_code 16 = .ok (.aload 4, 2) := by decide +kernel
theorem d29_18 : decode jdk_65_method_133_code 18 = .ok (.iconst 0, 1) := by decide +kernel
theorem d29_19 : decode jdk_65_method_133_code 19 = .ok (.aload_n 0, 1) := by decide +kernel
theorem d29_20 : decode jdk_65_method_133_code 20 = .ok (.arraylength, 1) := by decide +kernel
theorem d29_21 : decode jdk_65_method_133_code 21 = .ok (.iload_n 1, 1) := by decide +kernel
theorem d29_22 : decode jdk_65_method_133_code 22 = .ok (.isub, 1) := by decide +kernel
theorem d29_23 : decode jdk_65_method_133_code 23 = .ok (.iload_n 3, 1) := by decide +kernel
theorem d29_24 : decode jdk_65_method_133_code 24 = .ok (.invokestatic 304, 3) := by decide +kernel
theorem pd_21 : parseMethodDescriptor "(II)I" = some ⟨[.int, .int], some .int⟩ := by decide +kernel
theorem d29_27 : decode jdk_65_method_133_code 27 = .ok (.invokestatic 150, 3) := by decide +kernel
theorem d29_30 : decode jdk_65_method_133_code 30 = .ok (.aload 4, 2) := by decide +kernel
theorem d29_32 : decode jdk_65_method_133_code 32 = .ok (.areturn, 1) := by decide +kernel
theorem d28_0 : decode jdk_65_method_132_code 0 = .ok (.iload_n 1, 1) := by decide +kernel
theorem d28_1 : decode jdk_65_method_132_code 1 = .ok (.ifCond .ne 9, 3) := by decide +kernel
theorem d28_4 : decode jdk_65_method_132_code 4 = .ok (.iload_n 2, 1) := by decide +kernel
theorem d28_5 : decode jdk_65_method_132_code 5 = .ok (.aload_n 0, 1) := by decide +kernel
theorem d28_6 : decode jdk_65_method_132_code 6 = .ok (.arraylength, 1) := by decide +kernel
theorem d28_7 : decode jdk_65_method_132_code 7 = .ok (.if_icmp .eq 10, 3) := by decide +kernel
theorem d28_10 : decode jdk_65_method_132_code 10 = .ok (.aload_n 0, 1) := by decide +kernel
theorem d28_11 : decode jdk_65_method_132_code 11 = .ok (.iload_n 1, 1) := by decide +kernel
theorem d28_12 : decode jdk_65_method_132_code 12 = .ok (.iload_n 2, 1) := by decide +kernel
theorem d28_13 : decode jdk_65_method_132_code 13 = .ok (.invokestatic 339, 3) := by decide +kernel
theorem pd_22 : parseMethodDescriptor "([BII)[B" = some ⟨[(.array .byte), .int, .int], some (.array .byte)⟩ := by decide +kernel
theorem d28_16 : decode jdk_65_method_132_code 16 = .ok (.areturn, 1) := by decide +kernel
theorem d24_0 : decode jdk_42_method_150_code 0 = .ok (.aload_n 0, 1) := by decide +kernel
theorem d24_1 : decode jdk_42_method_150_code 1 = .ok (.invokespecial 1, 3) := by decide +kernel
theorem d24_4 : decode jdk_42_method_150_code 4 = .ok (.aload_n 1, 1) := by decide +kernel
theorem d24_5 : decode jdk_42_method_150_code 5 = .ok (.invokevirtual 552, 3) := by decide +kernel
theorem pd_23 : parseMethodDescriptor "()[B" = some ⟨[], some (.array .byte)⟩ := by decide +kernel
theorem d24_8 : decode jdk_42_method_150_code 8 = .ok (.astore_n 3, 1) := by decide +kernel
theorem d24_9 : decode jdk_42_method_150_code 9 = .ok (.aload_n 1, 1) := by decide +kernel
theorem d24_10 : decode jdk_42_method_150_code 10 = .ok (.invokevirtual 549, 3) := by decide +kernel
theorem d24_13 : decode jdk_42_method_150_code 13 = .ok (.istore 4, 2) := by decide +kernel
theorem d24_15 : decode jdk_42_method_150_code 15 = .ok (.aload_n 1, 1) := by decide +kernel
theorem d24_16 : decode jdk_42_method_150_code 16 = .ok (.invokevirtual 1047, 3) := by decide +kernel
theorem d24_19 : decode jdk_42_method_150_code 19 = .ok (.ifCond .eq 22, 3) := by decide +kernel
theorem d24_22 : decode jdk_42_method_150_code 22 = .ok (.aload_n 0, 1) := by decide +kernel
theorem d24_23 : decode jdk_42_method_150_code 23 = .ok (.iconst 0, 1) := by decide +kernel
theorem d24_24 : decode jdk_42_method_150_code 24 = .ok (.putfield 15, 3) := by decide +kernel
theorem d24_27 : decode jdk_42_method_150_code 27 = .ok (.aload_n 0, 1) := by decide +kernel
theorem d24_28 : decode jdk_42_method_150_code 28 = .ok (.aload_n 3, 1) := by decide +kernel
theorem d24_29 : decode jdk_42_method_150_code 29 = .ok (.iconst 0, 1) := by decide +kernel
theorem d24_30 : decode jdk_42_method_150_code 30 = .ok (.iload 4, 2) := by decide +kernel
theorem d24_32 : decode jdk_42_method_150_code 32 = .ok (.invokestatic 54, 3) := by decide +kernel
theorem d24_35 : decode jdk_42_method_150_code 35 = .ok (.putfield 9, 3) := by decide +kernel
theorem d24_38 : decode jdk_42_method_150_code 38 = .ok (.goto 59, 3) := by decide +kernel
theorem d24_97 : decode jdk_42_method_150_code 97 = .ok (.return_, 1) := by decide +kernel
theorem d23_0 : decode jdk_42_method_53_code 0 = .ok (.aload_n 0, 1) := by decide +kernel
theorem d23_1 : decode jdk_42_method_53_code 1 = .ok (.aload_n 1, 1) := by decide +kernel
theorem d23_2 : decode jdk_42_method_53_code 2 = .ok (.aconst_null, 1) := by decide +kernel
theorem d23_3 : decode jdk_42_method_53_code 3 = .ok (.invokespecial 489, 3) := by decide +kernel
theorem pd_24 : parseMethodDescriptor "(Ljava/lang/AbstractStringBuilder;Ljava/lang/Void;)V" = some ⟨[(.object "java/lang/AbstractStringBuilder"), (.object "java/lang/Void")], none⟩ := by decide +kernel
theorem d23_6 : decode jdk_42_method_53_code 6 = .ok (.return_, 1) := by decide +kernel
theorem d22_0 : decode jdk_67_method_42_code 0 = .ok (.new 18, 3) := by decide +kernel
theorem d22_3 : decode jdk_67_method_42_code 3 = .ok (.dup, 1) := by decide +kernel
theorem d22_4 : decode jdk_67_method_42_code 4 = .ok (.aload_n 0, 1) := by decide +kernel
theorem d22_5 : decode jdk_67_method_42_code 5 = .ok (.invokespecial 137, 3) := by decide +kernel
theorem pd_25 : parseMethodDescriptor "(Ljava/lang/StringBuilder;)V" = some ⟨[(.object "java/lang/StringBuilder")], none⟩ := by decide +kernel
theorem d22_8 : decode jdk_67_method_42_code 8 = .ok (.areturn, 1) := by decide +kernel
theorem pn_26 : plainName "com/example/quayside/quayside/web/HtmlClosePinLaw" = true := by first | (simp [plainName, overriddenIn]; done) | decide +kernel
theorem d1_0 : decode method_3_code 0 = .ok (.iload_n 0, 1) := by decide +kernel
theorem d1_1 : decode method_3_code 1 = .ok (.bipush 24, 2) := by decide +kernel
theorem d1_3 : decode method_3_code 3 = .ok (.iushr, 1) := by decide +kernel
theorem d1_4 : decode method_3_code 4 = .ok (.iconst 3, 1) := by decide +kernel
theorem d1_5 : decode method_3_code 5 = .ok (.iand, 1) := by decide +kernel
theorem d1_6 : decode method_3_code 6 = .ok (.istore_n 1, 1) := by decide +kernel
theorem d1_7 : decode method_3_code 7 = .ok (.iload_n 0, 1) := by decide +kernel
theorem d1_8 : decode method_3_code 8 = .ok (.sipush 255, 3) := by decide +kernel
theorem d1_11 : decode method_3_code 11 = .ok (.iand, 1) := by decide +kernel
theorem d1_12 : decode method_3_code 12 = .ok (.i2c, 1) := by decide +kernel
theorem d1_13 : decode method_3_code 13 = .ok (.istore_n 2, 1) := by decide +kernel
theorem d1_14 : decode method_3_code 14 = .ok (.iload_n 0, 1) := by decide +kernel
theorem d1_15 : decode method_3_code 15 = .ok (.bipush 8, 2) := by decide +kernel
theorem d1_17 : decode method_3_code 17 = .ok (.iushr, 1) := by decide +kernel
theorem d1_18 : decode method_3_code 18 = .ok (.sipush 255, 3) := by decide +kernel
theorem d1_21 : decode method_3_code 21 = .ok (.iand, 1) := by decide +kernel
theorem d1_22 : decode method_3_code 22 = .ok (.i2c, 1) := by decide +kernel
theorem d1_23 : decode method_3_code 23 = .ok (.istore_n 3, 1) := by decide +kernel
theorem d1_24 : decode method_3_code 24 = .ok (.iload_n 0, 1) := by decide +kernel
theorem d1_25 : decode method_3_code 25 = .ok (.bipush 16, 2) := by decide +kernel
theorem d1_27 : decode method_3_code 27 = .ok (.iushr, 1) := by decide +kernel
theorem d1_28 : decode method_3_code 28 = .ok (.sipush 255, 3) := by decide +kernel
theorem d1_31 : decode method_3_code 31 = .ok (.iand, 1) := by decide +kernel
theorem d1_32 : decode method_3_code 32 = .ok (.i2c, 1) := by decide +kernel
theorem d1_33 : decode method_3_code 33 = .ok (.istore 4, 2) := by decide +kernel
theorem d1_35 : decode method_3_code 35 = .ok (.iload_n 1, 1) := by decide +kernel
theorem d1_36 : decode method_3_code 36 = .ok (.ifCond .ne 14, 3) := by decide +kernel
theorem d1_39 : decode method_3_code 39 = .ok (.new 29, 3) := by decide +kernel
theorem d1_42 : decode method_3_code 42 = .ok (.dup, 1) := by decide +kernel
theorem d1_43 : decode method_3_code 43 = .ok (.iconst 0, 1) := by decide +kernel
theorem d1_44 : decode method_3_code 44 = .ok (.newarray .char, 2) := by decide +kernel
theorem d1_46 : decode method_3_code 46 = .ok (.invokespecial 34, 3) := by decide +kernel
theorem pd_27 : parseMethodDescriptor "([C)V" = some ⟨[(.array .char)], none⟩ := by decide +kernel
theorem d1_49 : decode method_3_code 49 = .ok (.areturn, 1) := by decide +kernel
theorem d1_50 : decode method_3_code 50 = .ok (.iload_n 1, 1) := by decide +kernel
theorem d1_51 : decode method_3_code 51 = .ok (.iconst 1, 1) := by decide +kernel
theorem d1_52 : decode method_3_code 52 = .ok (.if_icmp .ne 18, 3) := by decide +kernel
theorem d1_55 : decode method_3_code 55 = .ok (.new 29, 3) := by decide +kernel
theorem d1_58 : decode method_3_code 58 = .ok (.dup, 1) := by decide +kernel
theorem d1_59 : decode method_3_code 59 = .ok (.iconst 1, 1) := by decide +kernel
theorem d1_60 : decode method_3_code 60 = .ok (.newarray .char, 2) := by decide +kernel
theorem d1_62 : decode method_3_code 62 = .ok (.dup, 1) := by decide +kernel
theorem d1_63 : decode method_3_code 63 = .ok (.iconst 0, 1) := by decide +kernel
theorem d1_64 : decode method_3_code 64 = .ok (.iload_n 2, 1) := by decide +kernel
theorem d1_65 : decode method_3_code 65 = .ok (.castore, 1) := by decide +kernel
theorem d1_66 : decode method_3_code 66 = .ok (.invokespecial 34, 3) := by decide +kernel
theorem d1_69 : decode method_3_code 69 = .ok (.areturn, 1) := by decide +kernel
theorem d1_70 : decode method_3_code 70 = .ok (.iload_n 1, 1) := by decide +kernel
theorem d1_71 : decode method_3_code 71 = .ok (.iconst 2, 1) := by decide +kernel
theorem d1_72 : decode method_3_code 72 = .ok (.if_icmp .ne 22, 3) := by decide +kernel
theorem d1_75 : decode method_3_code 75 = .ok (.new 29, 3) := by decide +kernel
theorem d1_78 : decode method_3_code 78 = .ok (.dup, 1) := by decide +kernel
theorem d1_79 : decode method_3_code 79 = .ok (.iconst 2, 1) := by decide +kernel
theorem d1_80 : decode method_3_code 80 = .ok (.newarray .char, 2) := by decide +kernel
theorem d1_82 : decode method_3_code 82 = .ok (.dup, 1) := by decide +kernel
theorem d1_83 : decode method_3_code 83 = .ok (.iconst 0, 1) := by decide +kernel
theorem d1_84 : decode method_3_code 84 = .ok (.iload_n 2, 1) := by decide +kernel
theorem d1_85 : decode method_3_code 85 = .ok (.castore, 1) := by decide +kernel
theorem d1_86 : decode method_3_code 86 = .ok (.dup, 1) := by decide +kernel
theorem d1_87 : decode method_3_code 87 = .ok (.iconst 1, 1) := by decide +kernel
theorem d1_88 : decode method_3_code 88 = .ok (.iload_n 3, 1) := by decide +kernel
theorem d1_89 : decode method_3_code 89 = .ok (.castore, 1) := by decide +kernel
theorem d1_90 : decode method_3_code 90 = .ok (.invokespecial 34, 3) := by decide +kernel
theorem d1_93 : decode method_3_code 93 = .ok (.areturn, 1) := by decide +kernel
theorem d1_94 : decode method_3_code 94 = .ok (.new 29, 3) := by decide +kernel
theorem d1_97 : decode method_3_code 97 = .ok (.dup, 1) := by decide +kernel
theorem d1_98 : decode method_3_code 98 = .ok (.iconst 3, 1) := by decide +kernel
theorem d1_99 : decode method_3_code 99 = .ok (.newarray .char, 2) := by decide +kernel
theorem d1_101 : decode method_3_code 101 = .ok (.dup, 1) := by decide +kernel
theorem d1_102 : decode method_3_code 102 = .ok (.iconst 0, 1) := by decide +kernel
theorem d1_103 : decode method_3_code 103 = .ok (.iload_n 2, 1) := by decide +kernel
theorem d1_104 : decode method_3_code 104 = .ok (.castore, 1) := by decide +kernel
theorem d1_105 : decode method_3_code 105 = .ok (.dup, 1) := by decide +kernel
theorem d1_106 : decode method_3_code 106 = .ok (.iconst 1, 1) := by decide +kernel
theorem d1_107 : decode method_3_code 107 = .ok (.iload_n 3, 1) := by decide +kernel
theorem d1_108 : decode method_3_code 108 = .ok (.castore, 1) := by decide +kernel
theorem d1_109 : decode method_3_code 109 = .ok (.dup, 1) := by decide +kernel
theorem d1_110 : decode method_3_code 110 = .ok (.iconst 2, 1) := by decide +kernel
theorem d1_111 : decode method_3_code 111 = .ok (.iload 4, 2) := by decide +kernel
theorem d1_113 : decode method_3_code 113 = .ok (.castore, 1) := by decide +kernel
theorem d1_114 : decode method_3_code 114 = .ok (.invokespecial 34, 3) := by decide +kernel
theorem d1_117 : decode method_3_code 117 = .ok (.areturn, 1) := by decide +kernel
theorem pn_28 : plainName "com/example/quayside/quayside/web/Html" = true := by first | (simp [plainName, overriddenIn]; done) | decide +kernel
theorem d5_0 : decode prog_35_method_1_code 0 = .ok (.aload_n 0, 1) := by decide +kernel
theorem d5_1 : decode prog_35_method_1_code 1 = .ok (.invokespecial 1, 3) := by decide +kernel
theorem d5_4 : decode prog_35_method_1_code 4 = .ok (.aload_n 0, 1) := by decide +kernel
theorem d5_5 : decode prog_35_method_1_code 5 = .ok (.new 7, 3) := by decide +kernel
theorem d5_8 : decode prog_35_method_1_code 8 = .ok (.dup, 1) := by decide +kernel
theorem d5_9 : decode prog_35_method_1_code 9 = .ok (.invokespecial 9, 3) := by decide +kernel
theorem pd_29 : parseMethodDescriptor "()V" = some ⟨[], none⟩ := by decide +kernel
theorem d5_12 : decode prog_35_method_1_code 12 = .ok (.putfield 10, 3) := by decide +kernel
theorem d5_15 : decode prog_35_method_1_code 15 = .ok (.return_, 1) := by decide +kernel
theorem d8_0 : decode prog_35_method_3_code 0 = .ok (.aload_n 0, 1) := by decide +kernel
theorem d8_1 : decode prog_35_method_3_code 1 = .ok (.getfield 10, 3) := by decide +kernel
theorem d8_4 : decode prog_35_method_3_code 4 = .ok (.ldc 29, 2) := by decide +kernel
theorem d8_6 : decode prog_35_method_3_code 6 = .ok (.invokevirtual 20, 3) := by decide +kernel
theorem pd_30 : parseMethodDescriptor "(Ljava/lang/String;)Ljava/lang/StringBuilder;" = some ⟨[(.object "java/lang/String")], some (.object "java/lang/StringBuilder")⟩ := by decide +kernel
theorem d8_9 : decode prog_35_method_3_code 9 = .ok (.aload_n 1, 1) := by decide +kernel
theorem d8_10 : decode prog_35_method_3_code 10 = .ok (.invokevirtual 20, 3) := by decide +kernel
theorem d8_13 : decode prog_35_method_3_code 13 = .ok (.bipush 62, 2) := by decide +kernel
theorem d8_15 : decode prog_35_method_3_code 15 = .ok (.invokevirtual 16, 3) := by decide +kernel
theorem pd_31 : parseMethodDescriptor "(C)Ljava/lang/StringBuilder;" = some ⟨[.char], some (.object "java/lang/StringBuilder")⟩ := by decide +kernel
theorem d8_18 : decode prog_35_method_3_code 18 = .ok (.pop, 1) := by decide +kernel
theorem d8_19 : decode prog_35_method_3_code 19 = .ok (.aload_n 0, 1) := by decide +kernel
theorem d8_20 : decode prog_35_method_3_code 20 = .ok (.areturn, 1) := by decide +kernel
theorem d21_0 : decode prog_35_method_6_code 0 = .ok (.aload_n 0, 1) := by decide +kernel
theorem d21_1 : decode prog_35_method_6_code 1 = .ok (.getfield 10, 3) := by decide +kernel
theorem d21_4 : decode prog_35_method_6_code 4 = .ok (.invokevirtual 42, 3) := by decide +kernel
theorem pd_32 : parseMethodDescriptor "()Ljava/lang/String;" = some ⟨[], some (.object "java/lang/String")⟩ := by decide +kernel
theorem d21_7 : decode prog_35_method_6_code 7 = .ok (.areturn, 1) := by decide +kernel
theorem d32_0 : decode method_4_code 0 = .ok (.aload_n 2, 1) := by decide +kernel
theorem d32_1 : decode method_4_code 1 = .ok (.invokevirtual 28, 3) := by decide +kernel
theorem d32_4 : decode method_4_code 4 = .ok (.istore_n 3, 1) := by decide +kernel
theorem d32_5 : decode method_4_code 5 = .ok (.aload_n 0, 1) := by decide +kernel
theorem d32_6 : decode method_4_code 6 = .ok (.invokevirtual 28, 3) := by decide +kernel
theorem d32_9 : decode method_4_code 9 = .ok (.iload_n 1, 1) := by decide +kernel
theorem d32_10 : decode method_4_code 10 = .ok (.iload_n 3, 1) := by decide +kernel
theorem d32_11 : decode method_4_code 11 = .ok (.iadd, 1) := by decide +kernel
theorem d32_12 : decode method_4_code 12 = .ok (.iconst 3, 1) := by decide +kernel
theorem d32_13 : decode method_4_code 13 = .ok (.iadd, 1) := by decide +kernel
theorem d32_14 : decode method_4_code 14 = .ok (.if_icmp .ge 5, 3) := by decide +kernel
theorem d32_19 : decode method_4_code 19 = .ok (.aload_n 0, 1) := by decide +kernel
theorem d32_20 : decode method_4_code 20 = .ok (.iload_n 1, 1) := by decide +kernel
theorem d32_21 : decode method_4_code 21 = .ok (.invokevirtual 37, 3) := by decide +kernel
theorem pd_33 : parseMethodDescriptor "(I)C" = some ⟨[.int], some .char⟩ := by decide +kernel
theorem d32_24 : decode method_4_code 24 = .ok (.bipush 60, 2) := by decide +kernel
theorem d32_26 : decode method_4_code 26 = .ok (.if_icmp .eq 5, 3) := by decide +kernel
theorem d32_31 : decode method_4_code 31 = .ok (.aload_n 0, 1) := by decide +kernel
theorem d32_32 : decode method_4_code 32 = .ok (.iload_n 1, 1) := by decide +kernel
theorem d32_33 : decode method_4_code 33 = .ok (.iconst 1, 1) := by decide +kernel
theorem d32_34 : decode method_4_code 34 = .ok (.iadd, 1) := by decide +kernel
theorem d32_35 : decode method_4_code 35 = .ok (.invokevirtual 37, 3) := by decide +kernel
theorem d32_38 : decode method_4_code 38 = .ok (.bipush 47, 2) := by decide +kernel
theorem d32_40 : decode method_4_code 40 = .ok (.if_icmp .eq 5, 3) := by decide +kernel
theorem d32_45 : decode method_4_code 45 = .ok (.iload_n 3, 1) := by decide +kernel
theorem d32_46 : decode method_4_code 46 = .ok (.ifCond .le 20, 3) := by decide +kernel
theorem d32_66 : decode method_4_code 66 = .ok (.iload_n 3, 1) := by decide +kernel
theorem d32_67 : decode method_4_code 67 = .ok (.iconst 1, 1) := by decide +kernel
theorem d32_68 : decode method_4_code 68 = .ok (.if_icmp .le 20, 3) := by decide +kernel
theorem d32_88 : decode method_4_code 88 = .ok (.iload_n 3, 1) := by decide +kernel
theorem d32_89 : decode method_4_code 89 = .ok (.iconst 2, 1) := by decide +kernel
theorem d32_90 : decode method_4_code 90 = .ok (.if_icmp .le 20, 3) := by decide +kernel
theorem d32_110 : decode method_4_code 110 = .ok (.aload_n 0, 1) := by decide +kernel
theorem d32_111 : decode method_4_code 111 = .ok (.iload_n 1, 1) := by decide +kernel
theorem d32_112 : decode method_4_code 112 = .ok (.iconst 2, 1) := by decide +kernel
theorem d32_113 : decode method_4_code 113 = .ok (.iadd, 1) := by decide +kernel
theorem d32_114 : decode method_4_code 114 = .ok (.iload_n 3, 1) := by decide +kernel
theorem d32_115 : decode method_4_code 115 = .ok (.iadd, 1) := by decide +kernel
theorem d32_116 : decode method_4_code 116 = .ok (.invokevirtual 37, 3) := by decide +kernel
theorem d32_119 : decode method_4_code 119 = .ok (.bipush 62, 2) := by decide +kernel
theorem d32_121 : decode method_4_code 121 = .ok (.if_icmp .ne 7, 3) := by decide +kernel
theorem d32_124 : decode method_4_code 124 = .ok (.iconst 1, 1) := by decide +kernel
theorem d32_125 : decode method_4_code 125 = .ok (.goto 4, 3) := by decide +kernel
theorem d32_129 : decode method_4_code 129 = .ok (.ireturn, 1) := by decide +kernel
theorem d32_49 : decode method_4_code 49 = .ok (.aload_n 0, 1) := by decide +kernel
theorem d32_50 : decode method_4_code 50 = .ok (.iload_n 1, 1) := by decide +kernel
theorem d32_51 : decode method_4_code 51 = .ok (.iconst 2, 1) := by decide +kernel
theorem d32_52 : decode method_4_code 52 = .ok (.iadd, 1) := by decide +kernel
theorem d32_53 : decode method_4_code 53 = .ok (.invokevirtual 37, 3) := by decide +kernel
theorem d32_56 : decode method_4_code 56 = .ok (.aload_n 2, 1) := by decide +kernel
theorem d32_57 : decode method_4_code 57 = .ok (.iconst 0, 1) := by decide +kernel
theorem d32_58 : decode method_4_code 58 = .ok (.invokevirtual 37, 3) := by decide +kernel
theorem d32_61 : decode method_4_code 61 = .ok (.if_icmp .eq 5, 3) := by decide +kernel
theorem d32_71 : decode method_4_code 71 = .ok (.aload_n 0, 1) := by decide +kernel
theorem d32_72 : decode method_4_code 72 = .ok (.iload_n 1, 1) := by decide +kernel
theorem d32_73 : decode method_4_code 73 = .ok (.iconst 3, 1) := by decide +kernel
theorem d32_74 : decode method_4_code 74 = .ok (.iadd, 1) := by decide +kernel
theorem d32_75 : decode method_4_code 75 = .ok (.invokevirtual 37, 3) := by decide +kernel
theorem d32_78 : decode method_4_code 78 = .ok (.aload_n 2, 1) := by decide +kernel
theorem d32_79 : decode method_4_code 79 = .ok (.iconst 1, 1) := by decide +kernel
theorem d32_80 : decode method_4_code 80 = .ok (.invokevirtual 37, 3) := by decide +kernel
theorem d32_83 : decode method_4_code 83 = .ok (.if_icmp .eq 5, 3) := by decide +kernel
theorem d32_93 : decode method_4_code 93 = .ok (.aload_n 0, 1) := by decide +kernel
theorem d32_94 : decode method_4_code 94 = .ok (.iload_n 1, 1) := by decide +kernel
theorem d32_95 : decode method_4_code 95 = .ok (.iconst 4, 1) := by decide +kernel
theorem d32_96 : decode method_4_code 96 = .ok (.iadd, 1) := by decide +kernel
theorem d32_97 : decode method_4_code 97 = .ok (.invokevirtual 37, 3) := by decide +kernel
theorem d32_100 : decode method_4_code 100 = .ok (.aload_n 2, 1) := by decide +kernel
theorem d32_101 : decode method_4_code 101 = .ok (.iconst 2, 1) := by decide +kernel
theorem d32_102 : decode method_4_code 102 = .ok (.invokevirtual 37, 3) := by decide +kernel
theorem d32_105 : decode method_4_code 105 = .ok (.if_icmp .eq 5, 3) := by decide +kernel
theorem pd_34 : parseMethodDescriptor "(I)Ljava/lang/String;" = some ⟨[.int], some (.object "java/lang/String")⟩ := by decide +kernel
theorem pd_35 : parseMethodDescriptor "(Ljava/lang/String;)Lcom/example/quayside/quayside/web/Html;" = some ⟨[(.object "java/lang/String")], some (.object "com/example/quayside/quayside/web/Html")⟩ := by decide +kernel
theorem pd_36 : parseMethodDescriptor "(Ljava/lang/String;ILjava/lang/String;)Z" = some ⟨[(.object "java/lang/String"), .int, (.object "java/lang/String")], some .boolean⟩ := by decide +kernel
abbrev fr_ini4 (m : MethodId) (a1 : Addr) (a2 : Addr) (pc : Nat)  (st : List Value) : JFrame := mkF m pc #[vR a1, vR a2, vI 0, vI 0, .val .null, .unset] st
def Q_ini4 (Z : State) (a1 : Addr) (a2 : Addr) (c0 : Value) (h0 : Heap) (n0 : Nat) (v : Option Value) (h : Heap) (L : List Loc) : Prop := v = none ∧ Fr n0 L ∧ Keep h0 h [a1] ∧ Exa Z h a1 "java/lang/String" ∧ Fld Z h a1 "java/lang/String" "coder" "B" (iV 0) ∧ ∃ (t : Addr) (kb : ClassId), Fld Z h a1 "java/lang/String" "value" "[B" (.ref t) ∧ Arv Z h t kb .byte (0 : Int32) [] (iV 0)
theorem ef_ini4 (m : MethodId) (x0 : Addr) (x1 : Addr) (x2 : Int32) (x3 : Int32)  : entryFrame m #[(.ref x0), (.ref x1), (.int x2), (.int x3), .null] 6 = mkF m 0 #[vR x0, vR x1, vI x2, vI x3, .val .null, .unset] [] := by first | (simp [entryFrame, mkF, argsToLocals, Value.category]; done) | rfl
set_option maxRecDepth 65536 in
set_option maxHeartbeats 40000000 in
theorem c_ini4 (l : Launch) (Z : State) (a0 : Array Value) (hw : HW a0 Z) (ws : List Jvm.Cond) (a1 : Addr) (a2 : Addr) (c0 : Value) (h0 : Heap) (n0 : Nat) (Z0 : n0 ≤ h0.size) (E1 : Exa Z h0 a1 "java/lang/String") (F1 : Fld Z h0 a1 "java/lang/String" "value" "[B" .null) (F2 : Fld Z h0 a1 "java/lang/String" "coder" "B" c0) (g1 : n0 ≤ a1) :
  MetFree l yM0 (head1 (Jvm.Cond.code yM0 jdk_42_method_149_code 6 none :: ws) ({ frames := 1, cells := 4, slots := 8, locals := 12 } : Room)) (fun a U => a = #[(.ref a1), (.ref a2), (iV 0), (iV 0), .null] ∧ Z.Warmed39 U.vm ∧ U.heap = h0 ∧ CHv Z ownEL U.vm h0) (fun _ _ _ _ _ => True) (fun _ U o U' => ∃ v L, o = .returned v ∧ (Q_ini4 Z a1 a2 c0 h0 n0) v U'.heap L ∧ CHr Z ownEL U.vm U.heap U'.vm U'.heap ∧ ReturnedEndW U o U' L ({ frames := 1, cells := 4, slots := 8, locals := 12 } : Room).cells ({ frames := 1, cells := 4, slots := 8, locals := 12 } : Room).slots) := by
 refine MetFree.of_bodySF (plainFor_of_name pn_1) hisR ?_
 intro p e s m args below meth c s₁ Bd hml0 hP hK
 obtain ⟨rfl, hZ, hHp, hCH⟩ := hP
 have hx := Bd.exec
 have D := fun {pc : Nat} {r} (h : decode _ pc = r) => hb Bd.bytes h
 have hml : c.maxLocals = 6 := hml0
 have hown : s.vm.findClass "java/lang/String" = some m.cls := findClass_of_methodNamed Bd.named
 have hnm := (name_of_methodNamed Bd.named Bd.method).1
 have X0 : Stand p l e ({ frames := 1, cells := 4, slots := 8, locals := 12 } : Room) (s.setVm s.vm) m #[(.ref a1), (.ref a2), (iV 0), (iV 0), .null] below meth c s₁ [] 0 0 := Stand.of_body Bd
 have e0 : s₁.heap = h0 := by rw [← hHp, Bd.state]; rfl
 have N0 := Fr.nil n0
 refine ownOutH hHp (P := (Q_ini4 Z a1 a2 c0 h0 n0)) ?_
 refine ownBy (A := s₁.setTop (mkF m 0 #[vR a1, vR a2, vI 0, vI 0, .val .null, .unset] [])) (fun t k => castTop (ef_ini4 m a1 a2 (0 : Int32) (0 : Int32)) k) ?_
 have hS0 : s.Since s.vm h0.size := own_since
 have hEL := own_EW hw
 have R0 := CHr.refl hCH
 have wS := own_wS hw
 have sfa1 : Safe Z ownEL s.vm h0 a1 := own_safe_blank hZ.alike E1 F1
 refine oTo s₁ (fr_ini4 m a1 a2 1  [(.ref a1)]) (fun t kt => ?_) ?_
 ·refine XS.aloadN X0.here hx rfl (D d3_0) rfl rfl ?_
  exact kt
 obtain ⟨T21, X21, e21, st21⟩ := initO X0 hx hZ hown (Wd15 hw) (Wd16 hw) (Wd17 hw) e0 (g := (fr_ini4 m a1 a2 1  [(.ref a1)])) rfl (by rw [hml]; rfl) rfl (D d3_1) (by decide) (W := 0) (oWt rfl) (by decide)
 refine ownBy st21 ?_
 clear st21
 show oA p e below _ T21 (fr_ini4 m a1 a2 4  [])
 refine oTo T21 (fr_ini4 m a1 a2 9  [(.ref a1)]) (fun t kt => ?_) ?_
 ·refine XS.iloadN X21.here hx rfl (D d3_4) rfl ?_
  refine XS.ifNo X21.here hx rfl (D d3_5) rfl ((if0 _ _).trans (teq ((by decide) : (0 : Int32) = (0 : Int32))).2) ?_
  refine XS.aloadN X21.here hx rfl (D d3_8) rfl rfl ?_
  exact kt
 obtain ⟨a22, T22, h22, k22, b22, kb22, X22, e22, E22, hS22, hk22, hZ22, hown22, A22, C22, V22, Ab22, -, -, hC22, Lt22, hne22, st22⟩ := ldcCH (text := "") X21 hx hZ hown (Wd18 hw) wS e21 hS0 (Nat.le_refl _) hEL (by simp [ownEL]) R0.1 (vs := []) (z := (0 : Int32)) ⟨by decide, by decide⟩ (by decide) rfl (g := (fr_ini4 m a1 a2 9  [(.ref a1)])) rfl (D d3_9) (n := 0) (by decide) (by decide) (by decide) (by decide)
 have R24 := R0.trans hC22
 have sf25 := CHr.safe hC22 E1.lt sfa1
 have ne26 := hne22 a1 sf25
 refine ownBy st22 ?_
 clear st22
 show oA p e below _ T22 (fr_ini4 m a1 a2 11  [(.ref a22), (.ref a1)])
 refine own_getF X22 hx hZ22 hown22 (host := "") (Or.inl (Wd24 hw)) Via.refl e22 V22 (D d3_11) (fun T27 X27 e27 => ?_)
 have f29 := (F1.ext E22)
 have f30 := (E1.ext E22)
 obtain ⟨T28, h28, X28, e28, W28, st28⟩ := putF X27 hx hZ22 hown22 (host := "") (Or.inl (Wd24 hw)) Via.refl e27 f29 f30 (Or.inr ⟨(Wd20 hw), rfl, hnm⟩) (Wd5 hw) (ty := (.array .byte)) (by decide) rfl rfl (g := (fr_ini4 m a1 a2 14  [(.ref b22), (.ref a1)])) rfl rfl (D d3_14)
 have F31 := f29.same W28
 have N32 := Fr.snoc X28 N0 g1
 have R33 := R24.trans (CHr.wr W28 sf25 R24.1)
 have sf34 := Safe.wr W28 sf25 R24.1 sf25
 obtain ⟨Lh35, Xh35, Nh35⟩ := oHd 2 4 X28 N32 rfl rfl
 refine ownBy st28 ?_
 clear st28
 show oA p e below _ T28 (fr_ini4 m a1 a2 17  [])
 refine oTo T28 (fr_ini4 m a1 a2 18  [(.ref a1)]) (fun t kt => ?_) ?_
 ·refine XS.aloadN Xh35.here hx rfl (D d3_17) rfl rfl ?_
  exact kt
 obtain ⟨a36, T36, h36, k36, b36, kb36, X36, e36, E36, hS36, hk36, hZ36, hown36, A36, C36, V36, Ab36, -, -, hC36, Lt36, hne36, st36⟩ := ldcCH (text := "") Xh35 hx hZ22 hown22 (Wd18 hw) wS e28 hS22 (Nat.le_trans hk22 (Keep.of_wr W28).1) hEL (by simp [ownEL]) R33.1 (vs := []) (z := (0 : Int32)) ⟨by decide, by decide⟩ (by decide) rfl (g := (fr_ini4 m a1 a2 18  [(.ref a1)])) rfl (D d3_18) (n := 0) (by decide) (by decide) (by decide) (by decide)
 have R38 := R33.trans hC36
 have f40 := (f30.wr W28)
 have sf39 := CHr.safe hC36 f40.lt sf34
 have ne41 := hne36 a1 sf39
 refine ownBy st36 ?_
 clear st36
 show oA p e below _ T36 (fr_ini4 m a1 a2 20  [(.ref a36), (.ref a1)])
 refine own_getF X36 hx hZ36 hown36 (host := "") (Or.inl (Wd25 hw)) Via.refl e36 C36 (D d3_20) (fun T42 X42 e42 => ?_)
 have f44 := (((F2.ext E22).other W28 (Or.inr (slot_ne (Or.inr (Wd21 hw)) (Or.inr (Wd20 hw)) (by decide) (t := .byte) (t' := (.array .byte)) (by decide) (by decide)))).ext E36)
 have f45 := (f40.ext E36)
 obtain ⟨T43, h43, X43, e43, W43, st43⟩ := putFN X42 hx hZ36 hown36 (Wd25 hw) Via.refl e42 f44 f45 (Or.inr ⟨(Wd21 hw), rfl, hnm⟩) (Wd5 hw) (ty := .byte) (v' := (iV 0)) (by decide) rfl (fits_nar_byte (0 : Int32)) (g := (fr_ini4 m a1 a2 23  [(iV 0), (.ref a1)])) rfl rfl (D d3_23)
 have F46 := f44.same W43
 have N47 := Fr.snoc X43 Nh35 g1
 have R48 := R38.trans (CHr.wr W43 sf39 R38.1)
 have sf49 := Safe.wr W43 sf39 R38.1 sf39
 obtain ⟨Lh50, Xh50, Nh50⟩ := oHd 4 8 X43 N47 rfl rfl
 refine ownBy st43 ?_
 clear st43
 show oA p e below _ T43 (fr_ini4 m a1 a2 26  [])
 have f51 := (((((Keep.refl h0 [a1]).ext E22).wr W28 (Or.inl (List.mem_of_getElem? (i := 0) rfl))).ext E36).wr W43 (Or.inl (List.mem_of_getElem? (i := 0) rfl)))
 have f52 := (f45.wr W43)
 have f53 := ((F31.ext E36).other W43 (Or.inr (slot_ne (Or.inr (Wd20 hw)) (Or.inr (Wd21 hw)) (by decide) (t := (.array .byte)) (t' := .byte) (by decide) (by decide))))
 have f54 := (((Ab22.other W28 (Ne.symm ne26.2)).ext E36).other W43 (Ne.symm ne26.2))
 refine ownRetH Xh50 hS36 (by rw [e43]; exact (Nat.le_trans hk36 (Keep.of_wr W43).1)) Bd.notSynchronized (v := none) (fun _ => rfl) ?_ (R48.trans ((by rw [e43]; exact CHv.at Xh50 hZ36 hEL R48.1))) (oLe rfl) (oLe rfl) (fun fs hr => Xh50.returnOut hx Bd.returns (D d3_26) hr)
 show (Q_ini4 Z a1 a2 c0 h0 n0) (none) T43.heap _
 rw [e43]
 exact ⟨rfl, Nh50, f51, f52, F46, b22, kb22, f53, f54⟩
abbrev fr_ini0 (m : MethodId) (a1 : Addr) (a2 : Addr) (pc : Nat)  (st : List Value) : JFrame := mkF m pc #[vR a1, vR a2] st
def Q_ini0 (Z : State) (a1 : Addr) (a2 : Addr) (c0 : Value) (kC : ClassId) (h0 : Heap) (n0 : Nat) (v : Option Value) (h : Heap) (L : List Loc) : Prop := v = none ∧ Fr n0 L ∧ Keep h0 h [a1] ∧ Exa Z h a1 "java/lang/String" ∧ Fld Z h a1 "java/lang/String" "coder" "B" (iV 0) ∧ ∃ (t : Addr) (kb : ClassId), Fld Z h a1 "java/lang/String" "value" "[B" (.ref t) ∧ Arv Z h t kb .byte (0 : Int32) [] (iV 0)
theorem ef_ini0 (m : MethodId) (x0 : Addr) (x1 : Addr)  : entryFrame m #[(.ref x0), (.ref x1)] 2 = mkF m 0 #[vR x0, vR x1] [] := by first | (simp [entryFrame, mkF, argsToLocals, Value.category]; done) | rfl
set_option maxRecDepth 65536 in
set_option maxHeartbeats 40000000 in
theorem c_ini0 (l : Launch) (Z : State) (a0 : Array Value) (hw : HW a0 Z) (ws : List Jvm.Cond) (a1 : Addr) (a2 : Addr) (c0 : Value) (kC : ClassId) (h0 : Heap) (n0 : Nat) (Z0 : n0 ≤ h0.size) (E1 : Exa Z h0 a1 "java/lang/String") (F1 : Fld Z h0 a1 "java/lang/String" "value" "[B" .null) (F2 : Fld Z h0 a1 "java/lang/String" "coder" "B" c0) (g1 : n0 ≤ a1) (V1 : Arv Z h0 a2 kC .char (0 : Int32) [] (iV 0)) (ne1 : a1 ≠ a2) :
  MetFree l yM1 (head1 (Jvm.Cond.code yM1 jdk_42_method_3_code 2 none :: ws) ({ frames := 2, cells := 4, slots := 8, locals := 29 } : Room)) (fun a U => a = #[(.ref a1), (.ref a2)] ∧ Z.Warmed39 U.vm ∧ U.heap = h0 ∧ CHv Z ownEL U.vm h0) (fun _ _ _ _ _ => True) (fun _ U o U' => ∃ v L, o = .returned v ∧ (Q_ini0 Z a1 a2 c0 kC h0 n0) v U'.heap L ∧ CHr Z ownEL U.vm U.heap U'.vm U'.heap ∧ ReturnedEndW U o U' L ({ frames := 2, cells := 4, slots := 8, locals := 29 } : Room).cells ({ frames := 2, cells := 4, slots := 8, locals := 29 } : Room).slots) := by
 refine MetFree.of_bodySF (plainFor_of_name pn_1) hisR ?_
 intro p e s m args below meth c s₁ Bd hml0 hP hK
 obtain ⟨rfl, hZ, hHp, hCH⟩ := hP
 have hx := Bd.exec
 have D := fun {pc : Nat} {r} (h : decode _ pc = r) => hb Bd.bytes h
 have hml : c.maxLocals = 2 := hml0
 have hown : s.vm.findClass "java/lang/String" = some m.cls := findClass_of_methodNamed Bd.named
 have hnm := (name_of_methodNamed Bd.named Bd.method).1
 have X0 : Stand p l e ({ frames := 2, cells := 4, slots := 8, locals := 29 } : Room) (s.setVm s.vm) m #[(.ref a1), (.ref a2)] below meth c s₁ [] 0 0 := Stand.of_body Bd
 have e0 : s₁.heap = h0 := by rw [← hHp, Bd.state]; rfl
 have N0 := Fr.nil n0
 refine ownOutH hHp (P := (Q_ini0 Z a1 a2 c0 kC h0 n0)) ?_
 refine ownBy (A := s₁.setTop (mkF m 0 #[vR a1, vR a2] [])) (fun t k => castTop (ef_ini0 m a1 a2) k) ?_
 have hS0 : s.Since s.vm h0.size := own_since
 have hEL := own_EW hw
 have R0 := CHr.refl hCH
 have wS := own_wS hw
 have sfa1 : Safe Z ownEL s.vm h0 a1 := own_safe_blank hZ.alike E1 F1
 refine oTo s₁ (fr_ini0 m a1 a2 4  [(.ref a2), (iV 0), (.ref a2), (.ref a1)]) (fun t kt => ?_) ?_
 ·refine XS.aloadN X0.here hx rfl (D d2_0) rfl rfl ?_
  refine XS.aloadN X0.here hx rfl (D d2_1) rfl rfl ?_
  refine XS.iconst X0.here hx rfl (D d2_2) ?_
  refine XS.aloadN X0.here hx rfl (D d2_3) rfl rfl ?_
  exact kt
 obtain ⟨cl21, Ar21, -, S21, N21, -, -⟩ := id V1
 have st21 := X0.arraylength hx (by rw [e0]; exact Ar21.1) (State.isArrayOf_alike hZ.alike Ar21.2.1) (g := (fr_ini0 m a1 a2 4  [(.ref a2), (iV 0), (.ref a2), (.ref a1)])) rfl rfl (D d2_4)
 rw [len_of S21 N21] at st21
 refine ownBy st21 ?_
 show oA p e below _ s₁ (fr_ini0 m a1 a2 5  [(iV 0), (iV 0), (.ref a2), (.ref a1)])
 refine oTo s₁ (fr_ini0 m a1 a2 6  [.null, (iV 0), (iV 0), (.ref a2), (.ref a1)]) (fun t kt => ?_) ?_
 ·refine XS.aconstNull X0.here hx rfl (D d2_5) ?_
  exact kt
 obtain ⟨vv22, _, ⟨T22, L22, k22, n22⟩, -, X22, hS22, hg22, ⟨Lc22, hQ22, l22, y22, z22, hC22⟩, st22⟩ := X0.specialBackS hx (y := yM0) rfl hown (mvT hZ (Wd11 hw)) (mvT hZ (Wd12 hw)) (mvT hZ (Wd14 hw)) (by decide) (backOfSH (W := 0) (s := s) (EL := ownEL) (c_ini4 l Z a0 hw [] a1 a2 _ h0 n0 Z0 E1 F1 F2 g1) hZ (Wd14 hw) (Wd6 hw) (by decide) (by decide) hEL R0.1) (g := (fr_ini0 m a1 a2 6  [.null, (iV 0), (iV 0), (.ref a2), (.ref a1)])) rfl (by rw [hml]; rfl) (Steps.refl _) (a := a1) (argsL := [(.ref a2), (iV 0), (iV 0), .null]) (rest := []) (lenOf pd_2 rfl) rfl (oWt rfl) (D d2_6) (fun _ _ => ⟨rfl, e0, oLe rfl, oLe rfl⟩)
 dsimp only [Pt.U, Pt.locs, Pt.cells, Pt.slots] at X22 l22 y22 z22 st22 hQ22 hS22 hg22 hC22
 subst l22 y22 z22
 obtain ⟨rfl, Nq22, Kq22, Eq22, Cq22, t22, kb22, Vq22, Aq22⟩ := hQ22
 have N23 := Fr.app N0 Nq22
 have R25 := R0.trans hC22
 have sf26 := CHr.safe hC22 E1.lt sfa1
 obtain ⟨XR27, hSR27, hZ27, hown27⟩ := rebS hS0 (by rw [e0]; exact (Nat.le_refl _)) X22 hS22 hg22 hZ hown
 obtain ⟨Lh28, Xh28, Nh28⟩ := oHd 4 8 XR27 N23 rfl rfl
 refine ownSt st22 ?_
 clear st22
 show oA p e below _ T22 (fr_ini0 m a1 a2 9  [])
 have f29 := ((Keep.refl h0 [a1]).trans Kq22 (allS (Or.inl (List.mem_of_getElem? (i := 0) rfl)) all0))
 have f30 := (E1.keep Kq22)
 refine ownRetH Xh28 hSR27 (Nat.le_refl _) Bd.notSynchronized (v := none) (fun _ => rfl) ?_ (R25.trans (CHv.at Xh28 hZ27 hEL R25.1)) (oLe rfl) (oLe rfl) (fun fs hr => Xh28.returnOut hx Bd.returns (D d2_9) hr)
 show (Q_ini0 Z a1 a2 c0 kC h0 n0) (none) T22.heap _
 exact ⟨rfl, Nh28, f29, f30, Cq22, t22, kb22, Vq22, Aq22⟩
def Q_cod (Z : State) (x : Addr) (G1 : Int32) (h0 : Heap) (n0 : Nat) (v : Option Value) (h : Heap) (L : List Loc) : Prop := v = some (iV 0) ∧ Fr n0 L ∧ h = h0
theorem ef_cod (m : MethodId) (x0 : Addr)  : entryFrame m #[(.ref x0)] 1 = mkF m 0 #[vR x0] [] := by first | (simp [entryFrame, mkF, argsToLocals, Value.category]; done) | rfl
set_option maxRecDepth 65536 in
set_option maxHeartbeats 40000000 in
theorem c_cod (l : Launch) (Z : State) (a0 : Array Value) (hw : HW a0 Z) (ws : List Jvm.Cond) (x : Addr) (G1 : Int32) (h0 : Heap) (n0 : Nat) (Z0 : n0 ≤ h0.size) (Es : Exa Z h0 x "java/lang/String") (Cs : Fld Z h0 x "java/lang/String" "coder" "B" (iV 0)) (O2 : Sta Z Z.heap "java/lang/String" "COMPACT_STRINGS" "Z" (.int G1)) (P5 : ¬ (G1 = (0 : Int32))) (X00 : Old Z n0 h0) :
  MetFree l yM2 (head1 (Jvm.Cond.code yM2 jdk_42_method_152_code 1 (some .byte) :: ws) ({ frames := 0, cells := 0, slots := 0, locals := 0 } : Room)) (fun a U => a = #[(.ref x)] ∧ Z.Warmed39 U.vm ∧ U.heap = h0) (fun _ _ _ _ _ => True) (fun _ U o U' => ∃ v L, o = .returned v ∧ (Q_cod Z x G1 h0 n0) v U'.heap L ∧ FrameEnd U o U' L ({ frames := 0, cells := 0, slots := 0, locals := 0 } : Room).cells ({ frames := 0, cells := 0, slots := 0, locals := 0 } : Room).slots) := by
 refine MetFree.of_bodySF (plainFor_of_name pn_1) hisR ?_
 intro p e s m args below meth c s₁ Bd hml0 hP hK
 obtain ⟨rfl, hZ, hHp⟩ := hP
 have hx := Bd.exec
 have D := fun {pc : Nat} {r} (h : decode _ pc = r) => hb Bd.bytes h
 have hml : c.maxLocals = 1 := hml0
 have hown : s.vm.findClass "java/lang/String" = some m.cls := findClass_of_methodNamed Bd.named
 have hnm := (name_of_methodNamed Bd.named Bd.method).1
 have X0 : Stand p l e ({ frames := 0, cells := 0, slots := 0, locals := 0 } : Room) s m #[(.ref x)] below meth c s₁ [] 0 0 := Stand.of_body Bd
 have e0 : s₁.heap = h0 := by rw [← hHp, Bd.state]; rfl
 have N0 := Fr.nil n0
 refine ownOut (P := (Q_cod Z x G1 h0 n0)) ?_
 refine ownBy (A := s₁.setTop (mkF m 0 #[vR x] [])) (fun t k => castTop (ef_cod m x) k) ?_
 refine own_getS X0 hx hZ hown (host := "") (Or.inl (Wd79 hw)) Via.refl e0 (O2.ext X00.2) (D d12_0) (fun T21 X21 e21 => ?_)
 refine oTo T21 (mkF m 7 #[vR x] [(.ref x)]) (fun t kt => ?_) ?_
 ·refine XS.ifNo X21.here hx rfl (D d12_3) rfl ((if0 _ _).trans (feq P5).1) ?_
  refine XS.aloadN X21.here hx rfl (D d12_6) rfl rfl ?_
  exact kt
 refine own_getF X21 hx hZ hown (host := "") (Or.inl (Wd25 hw)) Via.refl e21 Cs (D d12_7) (fun T22 X22 e22 => ?_)
 refine oTo T22 (mkF m 14 #[vR x] [(iV 0)]) (fun t kt => ?_) ?_
 ·refine XS.goto X22.here hx rfl (pc0 := 10) (pc' := 14) rfl (D d12_10) (by decide) (by decide) ?_
  exact kt
 refine ownRet X22 Bd.notSynchronized (v := some (.int (nar .byte (0 : Int32)))) (fun h => by rw [Bd.returns] at h; cases h) ?_ (oLe rfl) (oLe rfl) (fun fs hr => retN X22 hx (t := .byte) Bd.returns (by simp) (D d12_14) hr)
 show (Q_cod Z x G1 h0 n0) (some (.int (nar .byte (0 : Int32)))) T22.heap _
 rw [e22]
 exact ⟨rfl, N0, rfl⟩
def Q_isl (Z : State) (x : Addr) (G1 : Int32) (h0 : Heap) (n0 : Nat) (v : Option Value) (h : Heap) (L : List Loc) : Prop := v = some (iV 1) ∧ Fr n0 L ∧ h = h0
theorem ef_isl (m : MethodId) (x0 : Addr)  : entryFrame m #[(.ref x0)] 1 = mkF m 0 #[vR x0] [] := by first | (simp [entryFrame, mkF, argsToLocals, Value.category]; done) | rfl
set_option maxRecDepth 65536 in
set_option maxHeartbeats 40000000 in
theorem c_isl (l : Launch) (Z : State) (a0 : Array Value) (hw : HW a0 Z) (ws : List Jvm.Cond) (x : Addr) (G1 : Int32) (h0 : Heap) (n0 : Nat) (Z0 : n0 ≤ h0.size) (Es : Exa Z h0 x "java/lang/String") (Cs : Fld Z h0 x "java/lang/String" "coder" "B" (iV 0)) (O2 : Sta Z Z.heap "java/lang/String" "COMPACT_STRINGS" "Z" (.int G1)) (P5 : ¬ (G1 = (0 : Int32))) (X00 : Old Z n0 h0) :
  MetFree l yM3 (head1 (Jvm.Cond.code yM3 jdk_42_method_154_code 1 (some .boolean) :: ws) ({ frames := 0, cells := 0, slots := 0, locals := 0 } : Room)) (fun a U => a = #[(.ref x)] ∧ Z.Warmed39 U.vm ∧ U.heap = h0) (fun _ _ _ _ _ => True) (fun _ U o U' => ∃ v L, o = .returned v ∧ (Q_isl Z x G1 h0 n0) v U'.heap L ∧ FrameEnd U o U' L ({ frames := 0, cells := 0, slots := 0, locals := 0 } : Room).cells ({ frames := 0, cells := 0, slots := 0, locals := 0 } : Room).slots) := by
 refine MetFree.of_bodySF (plainFor_of_name pn_1) hisR ?_
 intro p e s m args below meth c s₁ Bd hml0 hP hK
 obtain ⟨rfl, hZ, hHp⟩ := hP
 have hx := Bd.exec
 have D := fun {pc : Nat} {r} (h : decode _ pc = r) => hb Bd.bytes h
 have hml : c.maxLocals = 1 := hml0
 have hown : s.vm.findClass "java/lang/String" = some m.cls := findClass_of_methodNamed Bd.named
 have hnm := (name_of_methodNamed Bd.named Bd.method).1
 have X0 : Stand p l e ({ frames := 0, cells := 0, slots := 0, locals := 0 } : Room) s m #[(.ref x)] below meth c s₁ [] 0 0 := Stand.of_body Bd
 have e0 : s₁.heap = h0 := by rw [← hHp, Bd.state]; rfl
 have N0 := Fr.nil n0
 refine ownOut (P := (Q_isl Z x G1 h0 n0)) ?_
 refine ownBy (A := s₁.setTop (mkF m 0 #[vR x] [])) (fun t k => castTop (ef_isl m x) k) ?_
 refine own_getS X0 hx hZ hown (host := "") (Or.inl (Wd79 hw)) Via.refl e0 (O2.ext X00.2) (D d34_0) (fun T21 X21 e21 => ?_)
 refine oTo T21 (mkF m 7 #[vR x] [(.ref x)]) (fun t kt => ?_) ?_
 ·refine XS.ifNo X21.here hx rfl (D d34_3) rfl ((if0 _ _).trans (feq P5).1) ?_
  refine XS.aloadN X21.here hx rfl (D d34_6) rfl rfl ?_
  exact kt
 refine own_getF X21 hx hZ hown (host := "") (Or.inl (Wd25 hw)) Via.refl e21 Cs (D d34_7) (fun T22 X22 e22 => ?_)
 refine oTo T22 (mkF m 18 #[vR x] [(iV 1)]) (fun t kt => ?_) ?_
 ·refine XS.ifNo X22.here hx rfl (D d34_10) rfl ((if0 _ _).trans (teq ((by decide) : (0 : Int32) = (0 : Int32))).2) ?_
  refine XS.iconst X22.here hx rfl (D d34_13) ?_
  refine XS.goto X22.here hx rfl (pc0 := 14) (pc' := 18) rfl (D d34_14) (by decide) (by decide) ?_
  exact kt
 refine ownRet X22 Bd.notSynchronized (v := some (.int (nar .boolean (1 : Int32)))) (fun h => by rw [Bd.returns] at h; cases h) ?_ (oLe rfl) (oLe rfl) (fun fs hr => retN X22 hx (t := .boolean) Bd.returns (by simp) (D d34_18) hr)
 show (Q_isl Z x G1 h0 n0) (some (.int (nar .boolean (1 : Int32)))) T22.heap _
 rw [e22]
 exact ⟨rfl, N0, rfl⟩
abbrev fr_leng (m : MethodId) (x : Addr) (pc : Nat)  (st : List Value) : JFrame := mkF m pc #[vR x] st
def Q_leng (Z : State) (x : Addr) (ta : Addr) (kb : ClassId) (z : Int32) (us : List Value) (G1 : Int32) (h0 : Heap) (n0 : Nat) (v : Option Value) (h : Heap) (L : List Loc) : Prop := v = some (.int z) ∧ Fr n0 L ∧ h = h0
theorem ef_leng (m : MethodId) (x0 : Addr)  : entryFrame m #[(.ref x0)] 1 = mkF m 0 #[vR x0] [] := by first | (simp [entryFrame, mkF, argsToLocals, Value.category]; done) | rfl
set_option maxRecDepth 65536 in
set_option maxHeartbeats 40000000 in
theorem c_leng (l : Launch) (Z : State) (a0 : Array Value) (hw : HW a0 Z) (ws : List Jvm.Cond) (x : Addr) (ta : Addr) (kb : ClassId) (z : Int32) (us : List Value) (G1 : Int32) (h0 : Heap) (n0 : Nat) (Z0 : n0 ≤ h0.size) (Es : Exa Z h0 x "java/lang/String") (Vs : Fld Z h0 x "java/lang/String" "value" "[B" (.ref ta)) (Cs : Fld Z h0 x "java/lang/String" "coder" "B" (iV 0)) (Ks : Arv Z h0 ta kb .byte z us (iV 0)) (hz : (z >>> ((0 : Int32) &&& 31)) = z) (O2 : Sta Z Z.heap "java/lang/String" "COMPACT_STRINGS" "Z" (.int G1)) (P5 : ¬ (G1 = (0 : Int32))) (X00 : Old Z n0 h0) :
  MetFree l yM4 (head1 (Jvm.Cond.code yM4 jdk_42_method_54_code 1 (some .int) :: ws) ({ frames := 1, cells := 0, slots := 0, locals := 13 } : Room)) (fun a U => a = #[(.ref x)] ∧ Z.Warmed39 U.vm ∧ U.heap = h0) (fun _ _ _ _ _ => True) (fun _ U o U' => ∃ v L, o = .returned v ∧ (Q_leng Z x ta kb z us G1 h0 n0) v U'.heap L ∧ FrameEnd U o U' L ({ frames := 1, cells := 0, slots := 0, locals := 13 } : Room).cells ({ frames := 1, cells := 0, slots := 0, locals := 13 } : Room).slots) := by
 refine MetFree.of_bodySF (plainFor_of_name pn_1) hisR ?_
 intro p e s m args below meth c s₁ Bd hml0 hP hK
 obtain ⟨rfl, hZ, hHp⟩ := hP
 have hx := Bd.exec
 have D := fun {pc : Nat} {r} (h : decode _ pc = r) => hb Bd.bytes h
 have hml : c.maxLocals = 1 := hml0
 have hown : s.vm.findClass "java/lang/String" = some m.cls := findClass_of_methodNamed Bd.named
 have hnm := (name_of_methodNamed Bd.named Bd.method).1
 have X0 : Stand p l e ({ frames := 1, cells := 0, slots := 0, locals := 13 } : Room) s m #[(.ref x)] below meth c s₁ [] 0 0 := Stand.of_body Bd
 have e0 : s₁.heap = h0 := by rw [← hHp, Bd.state]; rfl
 have N0 := Fr.nil n0
 refine ownOut (P := (Q_leng Z x ta kb z us G1 h0 n0)) ?_
 refine ownBy (A := s₁.setTop (mkF m 0 #[vR x] [])) (fun t k => castTop (ef_leng m x) k) ?_
 refine oTo s₁ (fr_leng m x 1  [(.ref x)]) (fun t kt => ?_) ?_
 ·refine XS.aloadN X0.here hx rfl (D d11_0) rfl rfl ?_
  exact kt
 refine own_getF X0 hx hZ hown (host := "") (Or.inl (Wd24 hw)) Via.refl e0 Vs (D d11_1) (fun T21 X21 e21 => ?_)
 obtain ⟨cl22, Ar22, -, S22, N22, -, -⟩ := id Ks
 have st22 := X21.arraylength hx (by rw [e21]; exact Ar22.1) (State.isArrayOf_alike hZ.alike Ar22.2.1) (g := (fr_leng m x 4  [(.ref ta)])) rfl rfl (D d11_4)
 rw [len_of S22 N22] at st22
 refine ownBy st22 ?_
 show oA p e below _ T21 (fr_leng m x 5  [(.int z)])
 refine oTo T21 (fr_leng m x 6  [(.ref x), (.int z)]) (fun t kt => ?_) ?_
 ·refine XS.aloadN X21.here hx rfl (D d11_5) rfl rfl ?_
  exact kt
 obtain ⟨cq23, kq23, q23a, q23b, q23c⟩ := isOf hZ e21 Es
 obtain ⟨vv23, _, ⟨T23, L23, k23, n23⟩, -, X23, ⟨Lc23, hQ23, l23, y23, z23⟩, st23⟩ := X21.virtualBack hx (y := yM2) (z := yM2) hown (mvT hZ (Wd74 hw)) (mvT hZ (Wd75 hw)) (oNf hZ (Wd77 hw)) (mvT hZ (Wd77 hw)) (mvT hZ (Wd76 hw)) (by decide) (backOf (W := 1) (c_cod l Z a0 hw [] x G1 h0 n0 Z0 Es Cs O2 P5 X00) hZ (Wd78 hw) (Wd6 hw) (by decide) (by decide)) q23a q23c (g := (fr_leng m x 6  [(.ref x), (.int z)])) rfl (by rw [hml]; rfl) (Steps.refl _) (argsL := []) (rest := [(.int z)]) (lenOf pd_3 rfl) rfl (oWt rfl) (D d11_6) (fun _ _ => ⟨rfl, e21, oLe rfl, oLe rfl⟩)
 dsimp only [Pt.U, Pt.locs, Pt.cells, Pt.slots] at X23 l23 y23 z23 st23 hQ23
 subst l23 y23 z23
 obtain ⟨rfl, Nq23, Eq23⟩ := hQ23
 have N24 := Fr.app N0 Nq23
 obtain ⟨Lh25, Xh25, Nh25⟩ := oHd 0 0 X23 N24 rfl rfl
 refine ownSt st23 ?_
 clear st23
 show oA p e below _ T23 (fr_leng m x 9  [(iV 0), (.int z)])
 refine oTo T23 (fr_leng m x 10  [(.int (z >>> ((0 : Int32) &&& 31)))]) (fun t kt => ?_) ?_
 ·refine XS.ishr Xh25.here hx rfl (D d11_9) rfl ?_
  exact kt
 refine ownRet Xh25 Bd.notSynchronized (v := some (.int (z >>> ((0 : Int32) &&& 31)))) (fun h => by rw [Bd.returns] at h; cases h) ?_ (oLe rfl) (oLe rfl) (fun fs hr => retI Xh25 hx Bd.returns (D d11_10) hr)
 show (Q_leng Z x ta kb z us G1 h0 n0) (some (.int (z >>> ((0 : Int32) &&& 31)))) T23.heap _
 rw [Eq23]
 refine ⟨?_, Nh25, rfl⟩
 rw [hz]
def Q_chi (Z : State) (i : Int32) (m1 : Int32) (G3 : Value) (h0 : Heap) (n0 : Nat) (v : Option Value) (h : Heap) (L : List Loc) : Prop := v = some (.int i) ∧ Fr n0 L ∧ h = h0
theorem ef_chi (m : MethodId) (x0 : Int32) (x1 : Int32) (x2 : Value) (r2 : x2.isRef = true) : entryFrame m #[(.int x0), (.int x1), x2] 3 = mkF m 0 #[vI x0, vI x1, .val x2] [] := by
 rcases ref_cases r2 with rfl | ⟨y2, rfl⟩ <;> first | (simp [entryFrame, mkF, argsToLocals, Value.category]; done) | rfl
set_option maxRecDepth 65536 in
set_option maxHeartbeats 40000000 in
theorem c_chi (l : Launch) (Z : State) (a0 : Array Value) (hw : HW a0 Z) (ws : List Jvm.Cond) (i : Int32) (m1 : Int32) (G3 : Value) (h0 : Heap) (n0 : Nat) (Z0 : n0 ≤ h0.size) (rG3 : G3.isRef = true) (qi : ¬ i < (0 : Int32) ∧ i < m1) :
  MetFree l yM5 (head1 (Jvm.Cond.code yM5 jdk_41_method_11_code 3 (some .int) :: ws) ({ frames := 0, cells := 0, slots := 0, locals := 0 } : Room)) (fun a U => a = #[(.int i), (.int m1), G3] ∧ Z.Warmed39 U.vm ∧ U.heap = h0) (fun _ _ _ _ _ => True) (fun _ U o U' => ∃ v L, o = .returned v ∧ (Q_chi Z i m1 G3 h0 n0) v U'.heap L ∧ FrameEnd U o U' L ({ frames := 0, cells := 0, slots := 0, locals := 0 } : Room).cells ({ frames := 0, cells := 0, slots := 0, locals := 0 } : Room).slots) := by
 refine MetFree.of_bodySF (plainFor_of_name pn_4) hisR ?_
 intro p e s m args below meth c s₁ Bd hml0 hP hK
 obtain ⟨rfl, hZ, hHp⟩ := hP
 have hx := Bd.exec
 have D := fun {pc : Nat} {r} (h : decode _ pc = r) => hb Bd.bytes h
 have hml : c.maxLocals = 3 := hml0
 have hown : s.vm.findClass "jdk/internal/util/Preconditions" = some m.cls := findClass_of_methodNamed Bd.named
 have hnm := (name_of_methodNamed Bd.named Bd.method).1
 have X0 : Stand p l e ({ frames := 0, cells := 0, slots := 0, locals := 0 } : Room) s m #[(.int i), (.int m1), G3] below meth c s₁ [] 0 0 := Stand.of_body Bd
 have e0 : s₁.heap = h0 := by rw [← hHp, Bd.state]; rfl
 have N0 := Fr.nil n0
 refine ownOut (P := (Q_chi Z i m1 G3 h0 n0)) ?_
 refine ownBy (A := s₁.setTop (mkF m 0 #[vI i, vI m1, .val G3] [])) (fun t k => castTop (ef_chi m i m1 G3 rG3) k) ?_
 refine oTo s₁ (mkF m 17 #[vI i, vI m1, .val G3] [(.int i)]) (fun t kt => ?_) ?_
 ·refine XS.iloadN X0.here hx rfl (D d37_0) rfl ?_
  refine XS.ifNo X0.here hx rfl (D d37_1) rfl ((if0 _ _).trans (flt qi.1).1) ?_
  refine XS.iloadN X0.here hx rfl (D d37_4) rfl ?_
  refine XS.iloadN X0.here hx rfl (D d37_5) rfl ?_
  show Steps p.tables e below (s₁.setTop (mkF m 6 #[vI i, vI m1, .val G3] [(.int m1), (.int i)])) t
  refine XS.icmpYes X0.here hx rfl (pc0 := 6) (pc' := 16) rfl (D d37_6) rfl (tlt qi.2).1 (by decide) (by decide) ?_
  refine XS.iloadN X0.here hx rfl (D d37_16) rfl ?_
  exact kt
 refine ownRet X0 Bd.notSynchronized (v := some (.int i)) (fun h => by rw [Bd.returns] at h; cases h) ?_ (oLe rfl) (oLe rfl) (fun fs hr => retI X0 hx Bd.returns (D d37_17) hr)
 show (Q_chi Z i m1 G3 h0 n0) (some (.int i)) s₁.heap _
 rw [e0]
 exact ⟨rfl, N0, rfl⟩
abbrev fr_sci (m : MethodId) (i : Int32) (m1 : Int32) (pc : Nat)  (st : List Value) : JFrame := mkF m pc #[vI i, vI m1] st
def Q_sci (Z : State) (i : Int32) (m1 : Int32) (G3 : Value) (h0 : Heap) (n0 : Nat) (v : Option Value) (h : Heap) (L : List Loc) : Prop := v = none ∧ Fr n0 L ∧ h = h0
theorem ef_sci (m : MethodId) (x0 : Int32) (x1 : Int32)  : entryFrame m #[(.int x0), (.int x1)] 2 = mkF m 0 #[vI x0, vI x1] [] := by first | (simp [entryFrame, mkF, argsToLocals, Value.category]; done) | rfl
set_option maxRecDepth 65536 in
set_option maxHeartbeats 40000000 in
theorem c_sci (l : Launch) (Z : State) (a0 : Array Value) (hw : HW a0 Z) (ws : List Jvm.Cond) (i : Int32) (m1 : Int32) (G3 : Value) (h0 : Heap) (n0 : Nat) (Z0 : n0 ≤ h0.size) (O4 : Sta Z Z.heap "jdk/internal/util/Preconditions" "SIOOBE_FORMATTER" "Ljava/util/function/BiFunction;" G3) (rG3 : G3.isRef = true) (qi : ¬ i < (0 : Int32) ∧ i < m1) (X00 : Old Z n0 h0) :
  MetFree l yM6 (head1 (Jvm.Cond.code yM6 jdk_42_method_155_code 2 none :: ws) ({ frames := 1, cells := 0, slots := 0, locals := 14 } : Room)) (fun a U => a = #[(.int i), (.int m1)] ∧ Z.Warmed39 U.vm ∧ U.heap = h0) (fun _ _ _ _ _ => True) (fun _ U o U' => ∃ v L, o = .returned v ∧ (Q_sci Z i m1 G3 h0 n0) v U'.heap L ∧ FrameEnd U o U' L ({ frames := 1, cells := 0, slots := 0, locals := 14 } : Room).cells ({ frames := 1, cells := 0, slots := 0, locals := 14 } : Room).slots) := by
 refine MetFree.of_bodySF (plainFor_of_name pn_1) hisR ?_
 intro p e s m args below meth c s₁ Bd hml0 hP hK
 obtain ⟨rfl, hZ, hHp⟩ := hP
 have hx := Bd.exec
 have D := fun {pc : Nat} {r} (h : decode _ pc = r) => hb Bd.bytes h
 have hml : c.maxLocals = 2 := hml0
 have hown : s.vm.findClass "java/lang/String" = some m.cls := findClass_of_methodNamed Bd.named
 have hnm := (name_of_methodNamed Bd.named Bd.method).1
 have X0 : Stand p l e ({ frames := 1, cells := 0, slots := 0, locals := 14 } : Room) s m #[(.int i), (.int m1)] below meth c s₁ [] 0 0 := Stand.of_body Bd
 have e0 : s₁.heap = h0 := by rw [← hHp, Bd.state]; rfl
 have N0 := Fr.nil n0
 refine ownOut (P := (Q_sci Z i m1 G3 h0 n0)) ?_
 refine ownBy (A := s₁.setTop (mkF m 0 #[vI i, vI m1] [])) (fun t k => castTop (ef_sci m i m1) k) ?_
 refine oTo s₁ (fr_sci m i m1 2  [(.int m1), (.int i)]) (fun t kt => ?_) ?_
 ·refine XS.iloadN X0.here hx rfl (D d36_0) rfl ?_
  refine XS.iloadN X0.here hx rfl (D d36_1) rfl ?_
  exact kt
 refine own_getS X0 hx hZ hown (host := "") (Or.inl (Wd191 hw)) Via.refl e0 (O4.ext X00.2) (D d36_2) (fun T21 X21 e21 => ?_)
 obtain ⟨vv22, _, ⟨T22, L22, k22, n22⟩, -, X22, ⟨Lc22, hQ22, l22, y22, z22⟩, st22⟩ := Jvm.LawKit.callS X21 hx (y := yM5) hown (mvT hZ (Wd193 hw)) (mvT hZ (Wd194 hw)) (mvT hZ (Wd192 hw)) (mvT hZ (Wd195 hw)) (by decide) (backOf (W := 0) (c_chi l Z a0 hw [] i m1 G3 h0 n0 Z0 rG3 qi) hZ (Wd195 hw) (Wd192 hw) (by decide) (by decide)) (g := (fr_sci m i m1 5  [G3, (.int m1), (.int i)])) rfl (by rw [hml]; rfl) (argsL := [(.int i), (.int m1), G3]) (rest := []) (lenOf pd_5 rfl) rfl (oWt rfl) (D d36_5) (fun _ _ => ⟨rfl, e21, oLe rfl, oLe rfl⟩)
 dsimp only [Pt.U, Pt.locs, Pt.cells, Pt.slots] at X22 l22 y22 z22 st22 hQ22
 subst l22 y22 z22
 obtain ⟨rfl, Nq22, Eq22⟩ := hQ22
 have N23 := Fr.app N0 Nq22
 obtain ⟨Lh24, Xh24, Nh24⟩ := oHd 0 0 X22 N23 rfl rfl
 refine ownBy st22 ?_
 clear st22
 show oA p e below _ T22 (fr_sci m i m1 8  [(.int i)])
 refine oTo T22 (fr_sci m i m1 9  []) (fun t kt => ?_) ?_
 ·refine XS.pop Xh24.here hx rfl (D d36_8) rfl rfl ?_
  exact kt
 refine ownRet Xh24 Bd.notSynchronized (v := none) (fun _ => rfl) ?_ (oLe rfl) (oLe rfl) (fun fs hr => Xh24.returnOut hx Bd.returns (D d36_9) hr)
 show (Q_sci Z i m1 G3 h0 n0) (none) T22.heap _
 rw [Eq22]
 exact ⟨rfl, Nh24, rfl⟩
abbrev fr_l1c (m : MethodId) (ta : Addr) (i : Int32) (pc : Nat)  (st : List Value) : JFrame := mkF m pc #[vR ta, vI i] st
def Q_l1c (Z : State) (ta : Addr) (kb : ClassId) (z : Int32) (us : List Value) (i : Int32) (cc : Int32) (G3 : Value) (h0 : Heap) (n0 : Nat) (v : Option Value) (h : Heap) (L : List Loc) : Prop := v = some (.int cc) ∧ Fr n0 L ∧ h = h0
theorem ef_l1c (m : MethodId) (x0 : Addr) (x1 : Int32)  : entryFrame m #[(.ref x0), (.int x1)] 2 = mkF m 0 #[vR x0, vI x1] [] := by first | (simp [entryFrame, mkF, argsToLocals, Value.category]; done) | rfl
set_option maxRecDepth 65536 in
set_option maxHeartbeats 40000000 in
theorem c_l1c (l : Launch) (Z : State) (a0 : Array Value) (hw : HW a0 Z) (ws : List Jvm.Cond) (ta : Addr) (kb : ClassId) (z : Int32) (us : List Value) (i : Int32) (cc : Int32) (G3 : Value) (h0 : Heap) (n0 : Nat) (Z0 : n0 ≤ h0.size) (Ks : Arv Z h0 ta kb .byte z us (iV 0)) (hc : Chl z us i cc) (O4 : Sta Z Z.heap "jdk/internal/util/Preconditions" "SIOOBE_FORMATTER" "Ljava/util/function/BiFunction;" G3) (rG3 : G3.isRef = true) (X00 : Old Z n0 h0) :
  MetFree l yM7 (head1 (Jvm.Cond.code yM7 jdk_43_method_2_code 2 (some .char) :: ws) ({ frames := 2, cells := 0, slots := 0, locals := 27 } : Room)) (fun a U => a = #[(.ref ta), (.int i)] ∧ Z.Warmed39 U.vm ∧ U.heap = h0) (fun _ _ _ _ _ => True) (fun _ U o U' => ∃ v L, o = .returned v ∧ (Q_l1c Z ta kb z us i cc G3 h0 n0) v U'.heap L ∧ FrameEnd U o U' L ({ frames := 2, cells := 0, slots := 0, locals := 27 } : Room).cells ({ frames := 2, cells := 0, slots := 0, locals := 27 } : Room).slots) := by
 refine MetFree.of_bodySF (plainFor_of_name pn_6) hisR ?_
 intro p e s m args below meth c s₁ Bd hml0 hP hK
 obtain ⟨rfl, hZ, hHp⟩ := hP
 have hx := Bd.exec
 have D := fun {pc : Nat} {r} (h : decode _ pc = r) => hb Bd.bytes h
 have hml : c.maxLocals = 2 := hml0
 have hown : s.vm.findClass "java/lang/StringLatin1" = some m.cls := findClass_of_methodNamed Bd.named
 have hnm := (name_of_methodNamed Bd.named Bd.method).1
 have X0 : Stand p l e ({ frames := 2, cells := 0, slots := 0, locals := 27 } : Room) s m #[(.ref ta), (.int i)] below meth c s₁ [] 0 0 := Stand.of_body Bd
 have e0 : s₁.heap = h0 := by rw [← hHp, Bd.state]; rfl
 have N0 := Fr.nil n0
 refine ownOut (P := (Q_l1c Z ta kb z us i cc G3 h0 n0)) ?_
 refine ownBy (A := s₁.setTop (mkF m 0 #[vR ta, vI i] [])) (fun t k => castTop (ef_l1c m ta i) k) ?_
 refine oTo s₁ (fr_l1c m ta i 2  [(.ref ta), (.int i)]) (fun t kt => ?_) ?_
 ·refine XS.iloadN X0.here hx rfl (D d35_0) rfl ?_
  refine XS.aloadN X0.here hx rfl (D d35_1) rfl rfl ?_
  exact kt
 obtain ⟨cl21, Ar21, -, S21, N21, -, -⟩ := id Ks
 have st21 := X0.arraylength hx (by rw [e0]; exact Ar21.1) (State.isArrayOf_alike hZ.alike Ar21.2.1) (g := (fr_l1c m ta i 2  [(.ref ta), (.int i)])) rfl rfl (D d35_2)
 rw [len_of S21 N21] at st21
 refine ownBy st21 ?_
 show oA p e below _ s₁ (fr_l1c m ta i 3  [(.int z), (.int i)])
 obtain ⟨vv22, _, ⟨T22, L22, k22, n22⟩, -, X22, ⟨Lc22, hQ22, l22, y22, z22⟩, st22⟩ := Jvm.LawKit.callS X0 hx (y := yM6) hown (mvT hZ (Wd188 hw)) (mvT hZ (Wd189 hw)) (mvT hZ (Wd6 hw)) (mvT hZ (Wd190 hw)) (by decide) (backOf (W := 0) (c_sci l Z a0 hw [] i z G3 h0 n0 Z0 O4 rG3 hc.1 X00) hZ (Wd190 hw) (Wd6 hw) (by decide) (by decide)) (g := (fr_l1c m ta i 3  [(.int z), (.int i)])) rfl (by rw [hml]; rfl) (argsL := [(.int i), (.int z)]) (rest := []) (lenOf pd_7 rfl) rfl (oWt rfl) (D d35_3) (fun _ _ => ⟨rfl, e0, oLe rfl, oLe rfl⟩)
 dsimp only [Pt.U, Pt.locs, Pt.cells, Pt.slots] at X22 l22 y22 z22 st22 hQ22
 subst l22 y22 z22
 obtain ⟨rfl, Nq22, Eq22⟩ := hQ22
 have N23 := Fr.app N0 Nq22
 obtain ⟨Lh24, Xh24, Nh24⟩ := oHd 0 0 X22 N23 rfl rfl
 refine ownBy st22 ?_
 clear st22
 show oA p e below _ T22 (fr_l1c m ta i 6  [])
 refine oTo T22 (fr_l1c m ta i 8  [(.int i), (.ref ta)]) (fun t kt => ?_) ?_
 ·refine XS.aloadN Xh24.here hx rfl (D d35_6) rfl rfl ?_
  refine XS.iloadN Xh24.here hx rfl (D d35_7) rfl ?_
  exact kt
 obtain ⟨cl25, Ar25, q25, S25, N25, H25, G25⟩ := id Ks
 have hin25 : ¬ (i < 0 ∨ cl25.slots.size ≤ (i).toNatClampNeg) := inb_of S25 hc.1
 have hat25 : cl25.slots[(i).toNatClampNeg]? = some (.int (oL cc)) := H25.at hin25 hc.2.1
 have st25 := Xh24.baloadBytes hx (j := i) (v := (.int (oL cc))) (by rw [Eq22]; exact Ar25.1) (State.isArrayOf_alike hZ.alike Ar25.2.1) Ar25.2.2 hin25 hat25 (g := (fr_l1c m ta i 8  [(.int i), (.ref ta)])) rfl rfl (D d35_8)
 refine ownBy st25 ?_
 show oA p e below _ T22 (fr_l1c m ta i 9  [(.int (oL cc))])
 refine oTo T22 (fr_l1c m ta i 14  [(.int (((oL cc) &&& (255 : Int32)).toUInt32.toUInt16.toUInt32.toInt32))]) (fun t kt => ?_) ?_
 ·refine XS.sipush Xh24.here hx rfl (D d35_9) ?_
  refine XS.iand Xh24.here hx rfl (D d35_12) rfl ?_
  refine XS.i2c Xh24.here hx rfl (D d35_13) rfl ?_
  exact kt
 refine ownRet Xh24 Bd.notSynchronized (v := some (.int (nar .char (((oL cc) &&& (255 : Int32)).toUInt32.toUInt16.toUInt32.toInt32)))) (fun h => by rw [Bd.returns] at h; cases h) ?_ (oLe rfl) (oLe rfl) (fun fs hr => retN Xh24 hx (t := .char) Bd.returns (by simp) (D d35_14) hr)
 show (Q_l1c Z ta kb z us i cc G3 h0 n0) (some (.int (nar .char (((oL cc) &&& (255 : Int32)).toUInt32.toUInt16.toUInt32.toInt32)))) T22.heap _
 rw [Eq22]
 refine ⟨?_, Nh24, rfl⟩
 rw [own_l1c hc.2.2]
abbrev fr_chat (m : MethodId) (x : Addr) (i : Int32) (pc : Nat)  (st : List Value) : JFrame := mkF m pc #[vR x, vI i] st
def Q_chat (Z : State) (x : Addr) (ta : Addr) (kb : ClassId) (z : Int32) (us : List Value) (i : Int32) (cc : Int32) (G1 : Int32) (G3 : Value) (h0 : Heap) (n0 : Nat) (v : Option Value) (h : Heap) (L : List Loc) : Prop := v = some (.int cc) ∧ Fr n0 L ∧ h = h0
theorem ef_chat (m : MethodId) (x0 : Addr) (x1 : Int32)  : entryFrame m #[(.ref x0), (.int x1)] 2 = mkF m 0 #[vR x0, vI x1] [] := by first | (simp [entryFrame, mkF, argsToLocals, Value.category]; done) | rfl
set_option maxRecDepth 65536 in
set_option maxHeartbeats 40000000 in
theorem c_chat (l : Launch) (Z : State) (a0 : Array Value) (hw : HW a0 Z) (ws : List Jvm.Cond) (x : Addr) (ta : Addr) (kb : ClassId) (z : Int32) (us : List Value) (i : Int32) (cc : Int32) (G1 : Int32) (G3 : Value) (h0 : Heap) (n0 : Nat) (Z0 : n0 ≤ h0.size) (Es : Exa Z h0 x "java/lang/String") (Vs : Fld Z h0 x "java/lang/String" "value" "[B" (.ref ta)) (Cs : Fld Z h0 x "java/lang/String" "coder" "B" (iV 0)) (Ks : Arv Z h0 ta kb .byte z us (iV 0)) (hc : Chl z us i cc) (O2 : Sta Z Z.heap "java/lang/String" "COMPACT_STRINGS" "Z" (.int G1)) (P5 : ¬ (G1 = (0 : Int32))) (O4 : Sta Z Z.heap "jdk/internal/util/Preconditions" "SIOOBE_FORMATTER" "Ljava/util/function/BiFunction;" G3) (rG3 : G3.isRef = true) (X00 : Old Z n0 h0) :
  MetFree l yM8 (head1 (Jvm.Cond.code yM8 jdk_42_method_56_code 2 (some .char) :: ws) ({ frames := 3, cells := 0, slots := 0, locals := 40 } : Room)) (fun a U => a = #[(.ref x), (.int i)] ∧ Z.Warmed39 U.vm ∧ U.heap = h0) (fun _ _ _ _ _ => True) (fun _ U o U' => ∃ v L, o = .returned v ∧ (Q_chat Z x ta kb z us i cc G1 G3 h0 n0) v U'.heap L ∧ FrameEnd U o U' L ({ frames := 3, cells := 0, slots := 0, locals := 40 } : Room).cells ({ frames := 3, cells := 0, slots := 0, locals := 40 } : Room).slots) := by
 refine MetFree.of_bodySF (plainFor_of_name pn_1) hisR ?_
 intro p e s m args below meth c s₁ Bd hml0 hP hK
 obtain ⟨rfl, hZ, hHp⟩ := hP
 have hx := Bd.exec
 have D := fun {pc : Nat} {r} (h : decode _ pc = r) => hb Bd.bytes h
 have hml : c.maxLocals = 2 := hml0
 have hown : s.vm.findClass "java/lang/String" = some m.cls := findClass_of_methodNamed Bd.named
 have hnm := (name_of_methodNamed Bd.named Bd.method).1
 have X0 : Stand p l e ({ frames := 3, cells := 0, slots := 0, locals := 40 } : Room) s m #[(.ref x), (.int i)] below meth c s₁ [] 0 0 := Stand.of_body Bd
 have e0 : s₁.heap = h0 := by rw [← hHp, Bd.state]; rfl
 have N0 := Fr.nil n0
 refine ownOut (P := (Q_chat Z x ta kb z us i cc G1 G3 h0 n0)) ?_
 refine ownBy (A := s₁.setTop (mkF m 0 #[vR x, vI i] [])) (fun t k => castTop (ef_chat m x i) k) ?_
 refine oTo s₁ (fr_chat m x i 1  [(.ref x)]) (fun t kt => ?_) ?_
 ·refine XS.aloadN X0.here hx rfl (D d33_0) rfl rfl ?_
  exact kt
 obtain ⟨cq21, kq21, q21a, q21b, q21c⟩ := isOf hZ e0 Es
 obtain ⟨vv21, _, ⟨T21, L21, k21, n21⟩, -, X21, ⟨Lc21, hQ21, l21, y21, z21⟩, st21⟩ := X0.virtualBack hx (y := yM3) (z := yM3) hown (mvT hZ (Wd180 hw)) (mvT hZ (Wd181 hw)) (oNf hZ (Wd183 hw)) (mvT hZ (Wd183 hw)) (mvT hZ (Wd182 hw)) (by decide) (backOf (W := 0) (c_isl l Z a0 hw [] x G1 h0 n0 Z0 Es Cs O2 P5 X00) hZ (Wd184 hw) (Wd6 hw) (by decide) (by decide)) q21a q21c (g := (fr_chat m x i 1  [(.ref x)])) rfl (by rw [hml]; rfl) (Steps.refl _) (argsL := []) (rest := []) (lenOf pd_8 rfl) rfl (oWt rfl) (D d33_1) (fun _ _ => ⟨rfl, e0, oLe rfl, oLe rfl⟩)
 dsimp only [Pt.U, Pt.locs, Pt.cells, Pt.slots] at X21 l21 y21 z21 st21 hQ21
 subst l21 y21 z21
 obtain ⟨rfl, Nq21, Eq21⟩ := hQ21
 have N22 := Fr.app N0 Nq21
 obtain ⟨Lh23, Xh23, Nh23⟩ := oHd 0 0 X21 N22 rfl rfl
 refine ownSt st21 ?_
 clear st21
 show oA p e below _ T21 (fr_chat m x i 4  [(iV 1)])
 refine oTo T21 (fr_chat m x i 8  [(.ref x)]) (fun t kt => ?_) ?_
 ·refine XS.ifNo Xh23.here hx rfl (D d33_4) rfl ((if0 _ _).trans (feq ((by decide) : ¬ ((1 : Int32) = (0 : Int32)))).1) ?_
  refine XS.aloadN Xh23.here hx rfl (D d33_7) rfl rfl ?_
  exact kt
 refine own_getF Xh23 hx hZ hown (host := "") (Or.inl (Wd24 hw)) Via.refl Eq21 Vs (D d33_8) (fun T24 X24 e24 => ?_)
 refine oTo T24 (fr_chat m x i 12  [(.int i), (.ref ta)]) (fun t kt => ?_) ?_
 ·refine XS.iloadN X24.here hx rfl (D d33_11) rfl ?_
  exact kt
 obtain ⟨vv25, _, ⟨T25, L25, k25, n25⟩, -, X25, ⟨Lc25, hQ25, l25, y25, z25⟩, st25⟩ := Jvm.LawKit.callS X24 hx (y := yM7) hown (mvT hZ (Wd185 hw)) (mvT hZ (Wd186 hw)) (mvT hZ (Wd123 hw)) (mvT hZ (Wd187 hw)) (by decide) (backOf (W := 0) (c_l1c l Z a0 hw [] ta kb z us i cc G3 h0 n0 Z0 Ks hc O4 rG3 X00) hZ (Wd187 hw) (Wd123 hw) (by decide) (by decide)) (g := (fr_chat m x i 12  [(.int i), (.ref ta)])) rfl (by rw [hml]; rfl) (argsL := [(.ref ta), (.int i)]) (rest := []) (lenOf pd_9 rfl) rfl (oWt rfl) (D d33_12) (fun _ _ => ⟨rfl, e24, oLe rfl, oLe rfl⟩)
 dsimp only [Pt.U, Pt.locs, Pt.cells, Pt.slots] at X25 l25 y25 z25 st25 hQ25
 subst l25 y25 z25
 obtain ⟨rfl, Nq25, Eq25⟩ := hQ25
 have N26 := Fr.app Nh23 Nq25
 obtain ⟨Lh27, Xh27, Nh27⟩ := oHd 0 0 X25 N26 rfl rfl
 refine ownBy st25 ?_
 clear st25
 show oA p e below _ T25 (fr_chat m x i 15  [(.int cc)])
 refine ownRet Xh27 Bd.notSynchronized (v := some (.int (nar .char cc))) (fun h => by rw [Bd.returns] at h; cases h) ?_ (oLe rfl) (oLe rfl) (fun fs hr => retN Xh27 hx (t := .char) Bd.returns (by simp) (D d33_15) hr)
 show (Q_chat Z x ta kb z us i cc G1 G3 h0 n0) (some (.int (nar .char cc))) T25.heap _
 rw [Eq25]
 refine ⟨?_, Nh27, rfl⟩
 rw [own_c8 hc.2.2]
abbrev fr_asi (m : MethodId) (sb : Addr) (pc : Nat)  (st : List Value) : JFrame := mkF m pc #[vR sb, vI 16] st
def Q_asi (Z : State) (sb : Addr) (c9 : Value) (G1 : Int32) (h0 : Heap) (n0 : Nat) (v : Option Value) (h : Heap) (L : List Loc) : Prop := v = none ∧ Fr n0 L ∧ Keep h0 h [sb] ∧ ∃ (va : Addr) (kv : ClassId), h0.size ≤ va ∧ Exa Z h sb "java/lang/StringBuilder" ∧ Fld Z h sb "java/lang/AbstractStringBuilder" "value" "[B" (.ref va) ∧ Fld Z h sb "java/lang/AbstractStringBuilder" "coder" "B" (iV 0) ∧ Fld Z h sb "java/lang/AbstractStringBuilder" "count" "I" (iV 0) ∧ Arv Z h va kv .byte (16 : Int32) [(iV 0), (iV 0), (iV 0), (iV 0), (iV 0), (iV 0), (iV 0), (iV 0), (iV 0), (iV 0), (iV 0), (iV 0), (iV 0), (iV 0), (iV 0), (iV 0)] (iV 0)
theorem ef_asi (m : MethodId) (x0 : Addr) (x1 : Int32)  : entryFrame m #[(.ref x0), (.int x1)] 2 = mkF m 0 #[vR x0, vI x1] [] := by first | (simp [entryFrame, mkF, argsToLocals, Value.category]; done) | rfl
set_option maxRecDepth 65536 in
set_option maxHeartbeats 40000000 in
theorem c_asi (l : Launch) (Z : State) (a0 : Array Value) (hw : HW a0 Z) (ws : List Jvm.Cond) (sb : Addr) (c9 : Value) (G1 : Int32) (h0 : Heap) (n0 : Nat) (Z0 : n0 ≤ h0.size) (Eb : Exa Z h0 sb "java/lang/StringBuilder") (Bv : Fld Z h0 sb "java/lang/AbstractStringBuilder" "value" "[B" .null) (Bc : Fld Z h0 sb "java/lang/AbstractStringBuilder" "coder" "B" c9) (Bn : Fld Z h0 sb "java/lang/AbstractStringBuilder" "count" "I" (iV 0)) (gb : n0 ≤ sb) (O2 : Sta Z Z.heap "java/lang/String" "COMPACT_STRINGS" "Z" (.int G1)) (P5 : ¬ (G1 = (0 : Int32))) (X00 : Old Z n0 h0) :
  MetFree l yM9 (head1 (Jvm.Cond.code yM9 jdk_68_method_2_code 2 none :: ws) ({ frames := 1, cells := 1, slots := 16, locals := 12 } : Room)) (fun a U => a = #[(.ref sb), (iV 16)] ∧ Z.Warmed39 U.vm ∧ U.heap = h0) (fun _ _ _ _ _ => True) (fun _ U o U' => ∃ v L, o = .returned v ∧ (Q_asi Z sb c9 G1 h0 n0) v U'.heap L ∧ FrameEnd U o U' L ({ frames := 1, cells := 1, slots := 16, locals := 12 } : Room).cells ({ frames := 1, cells := 1, slots := 16, locals := 12 } : Room).slots) := by
 refine MetFree.of_bodySF (plainFor_of_name pn_10) hisR ?_
 intro p e s m args below meth c s₁ Bd hml0 hP hK
 obtain ⟨rfl, hZ, hHp⟩ := hP
 have hx := Bd.exec
 have D := fun {pc : Nat} {r} (h : decode _ pc = r) => hb Bd.bytes h
 have hml : c.maxLocals = 2 := hml0
 have hown : s.vm.findClass "java/lang/AbstractStringBuilder" = some m.cls := findClass_of_methodNamed Bd.named
 have hnm := (name_of_methodNamed Bd.named Bd.method).1
 have X0 : Stand p l e ({ frames := 1, cells := 1, slots := 16, locals := 12 } : Room) s m #[(.ref sb), (iV 16)] below meth c s₁ [] 0 0 := Stand.of_body Bd
 have e0 : s₁.heap = h0 := by rw [← hHp, Bd.state]; rfl
 have N0 := Fr.nil n0
 refine ownOut (P := (Q_asi Z sb c9 G1 h0 n0)) ?_
 refine ownBy (A := s₁.setTop (mkF m 0 #[vR sb, vI 16] [])) (fun t k => castTop (ef_asi m sb (16 : Int32)) k) ?_
 refine oTo s₁ (fr_asi m sb 1  [(.ref sb)]) (fun t kt => ?_) ?_
 ·refine XS.aloadN X0.here hx rfl (D d7_0) rfl rfl ?_
  exact kt
 obtain ⟨T21, X21, e21, st21⟩ := initO X0 hx hZ hown (Wd45 hw) (Wd16 hw) (Wd17 hw) e0 (g := (fr_asi m sb 1  [(.ref sb)])) rfl (by rw [hml]; rfl) rfl (D d7_1) (by decide) (W := 0) (oWt rfl) (by decide)
 refine ownBy st21 ?_
 clear st21
 show oA p e below _ T21 (fr_asi m sb 4  [])
 refine own_getS X21 hx hZ hown (host := "") (Or.inl (Wd46 hw)) Via.refl e21 (O2.ext X00.2) (D d7_4) (fun T22 X22 e22 => ?_)
 refine oTo T22 (fr_asi m sb 12  [(iV 16), (.ref sb)]) (fun t kt => ?_) ?_
 ·refine XS.ifNo X22.here hx rfl (D d7_7) rfl ((if0 _ _).trans (feq P5).1) ?_
  refine XS.aloadN X22.here hx rfl (D d7_10) rfl rfl ?_
  refine XS.iloadN X22.here hx rfl (D d7_11) rfl ?_
  exact kt
 obtain ⟨T23, h23, k23, X23, e23, E23, A23, st23⟩ := newP X22 hx hZ (aty := .byte) (Wd19 hw) e22 (g := (fr_asi m sb 12  [(iV 16), (.ref sb)])) rfl (D d7_12) rfl (by decide : ¬ ((16 : Int32) < (0 : Int32))) (cap := 16) (by decide) (by decide) (by decide) (by decide)
 obtain ⟨b23, g23⟩ : ∃ z, z = h0.size := ⟨_, rfl⟩
 rw [← g23] at A23 st23
 have ne24 : sb ≠ b23 := Nat.ne_of_lt (Nat.lt_of_lt_of_le Eb.lt (Nat.le_of_eq g23.symm))
 have g25 : n0 ≤ b23 := Nat.le_trans Z0 (Nat.le_of_eq g23.symm)
 have z26 : h0.size ≤ b23 := Nat.le_trans (Nat.le_refl h0.size) (Nat.le_of_eq g23.symm)
 have V27 : Arv Z h23 b23 k23 .byte (16 : Int32) [(iV 0), (iV 0), (iV 0), (iV 0), (iV 0), (iV 0), (iV 0), (iV 0), (iV 0), (iV 0), (iV 0), (iV 0), (iV 0), (iV 0), (iV 0), (iV 0)] (iV 0) := (Arv.new A23 (by decide)).pad (pad_rep [] (iV 0) 16)
 refine ownBy st23 ?_
 clear st23
 show oA p e below _ T23 (fr_asi m sb 14  [(.ref b23), (.ref sb)])
 have f29 := (Bv.ext E23)
 have f30 := (Eb.ext E23)
 obtain ⟨T28, h28, X28, e28, W28, st28⟩ := putF X23 hx hZ hown (host := "") (Or.inl (Wd47 hw)) Via.refl e23 f29 f30 (Or.inl (Wd48 hw)) (Wd34 hw) (ty := (.array .byte)) (by decide) rfl rfl (g := (fr_asi m sb 14  [(.ref b23), (.ref sb)])) rfl rfl (D d7_14)
 have F31 := f29.same W28
 have N32 := Fr.snoc X28 N0 gb
 obtain ⟨Lh33, Xh33, Nh33⟩ := oHd 1 16 X28 N32 rfl rfl
 refine ownBy st28 ?_
 clear st28
 show oA p e below _ T28 (fr_asi m sb 17  [])
 refine oTo T28 (fr_asi m sb 19  [(iV 0), (.ref sb)]) (fun t kt => ?_) ?_
 ·refine XS.aloadN Xh33.here hx rfl (D d7_17) rfl rfl ?_
  refine XS.iconst Xh33.here hx rfl (D d7_18) ?_
  exact kt
 have f35 := ((Bc.ext E23).other W28 (Or.inr (slot_ne (Or.inl (Wd50 hw)) (Or.inl (Wd48 hw)) (by decide) (t := .byte) (t' := (.array .byte)) (by decide) (by decide))))
 have f36 := (f30.wr W28)
 obtain ⟨T34, h34, X34, e34, W34, st34⟩ := putFN Xh33 hx hZ hown (Wd49 hw) Via.refl e28 f35 f36 (Or.inl (Wd50 hw)) (Wd34 hw) (ty := .byte) (v' := (iV 0)) (by decide) rfl (fits_nar_byte (0 : Int32)) (g := (fr_asi m sb 19  [(iV 0), (.ref sb)])) rfl rfl (D d7_19)
 have F37 := f35.same W34
 have N38 := Fr.snoc X34 Nh33 gb
 obtain ⟨Lh39, Xh39, Nh39⟩ := oHd 1 16 X34 N38 rfl rfl
 refine ownBy st34 ?_
 clear st34
 show oA p e below _ T34 (fr_asi m sb 22  [])
 refine oTo T34 (fr_asi m sb 38  []) (fun t kt => ?_) ?_
 ·refine XS.goto Xh39.here hx rfl (pc0 := 22) (pc' := 38) rfl (D d7_22) (by decide) (by decide) ?_
  exact kt
 have f40 := ((((Keep.refl h0 [sb]).ext E23).wr W28 (Or.inl (List.mem_of_getElem? (i := 0) rfl))).wr W34 (Or.inl (List.mem_of_getElem? (i := 0) rfl)))
 have f41 := (((Bn.ext E23).other W28 (Or.inr (slot_ne (Or.inl (Wd81 hw)) (Or.inl (Wd48 hw)) (by decide) (t := .int) (t' := (.array .byte)) (by decide) (by decide)))).other W34 (Or.inr (slot_ne (Or.inl (Wd81 hw)) (Or.inl (Wd50 hw)) (by decide) (t := .int) (t' := .byte) (by decide) (by decide))))
 have f42 := ((V27.other W28 (Ne.symm ne24)).other W34 (Ne.symm ne24))
 have f43 := (f36.wr W34)
 have f44 := (F31.other W34 (Or.inr (slot_ne (Or.inl (Wd48 hw)) (Or.inl (Wd50 hw)) (by decide) (t := (.array .byte)) (t' := .byte) (by decide) (by decide))))
 refine ownRet Xh39 Bd.notSynchronized (v := none) (fun _ => rfl) ?_ (oLe rfl) (oLe rfl) (fun fs hr => Xh39.returnOut hx Bd.returns (D d7_38) hr)
 show (Q_asi Z sb c9 G1 h0 n0) (none) T34.heap _
 rw [e34]
 exact ⟨rfl, Nh39, f40, b23, k23, z26, f43, f44, F37, f41, f42⟩
def Q_sbi (Z : State) (sb : Addr) (c9 : Value) (G1 : Int32) (h0 : Heap) (n0 : Nat) (v : Option Value) (h : Heap) (L : List Loc) : Prop := v = none ∧ Fr n0 L ∧ Keep h0 h [sb] ∧ ∃ (va : Addr) (kv : ClassId), h0.size ≤ va ∧ Exa Z h sb "java/lang/StringBuilder" ∧ Fld Z h sb "java/lang/AbstractStringBuilder" "value" "[B" (.ref va) ∧ Fld Z h sb "java/lang/AbstractStringBuilder" "coder" "B" (iV 0) ∧ Fld Z h sb "java/lang/AbstractStringBuilder" "count" "I" (iV 0) ∧ Arv Z h va kv .byte (16 : Int32) [(iV 0), (iV 0), (iV 0), (iV 0), (iV 0), (iV 0), (iV 0), (iV 0), (iV 0), (iV 0), (iV 0), (iV 0), (iV 0), (iV 0), (iV 0), (iV 0)] (iV 0)
theorem ef_sbi (m : MethodId) (x0 : Addr)  : entryFrame m #[(.ref x0)] 1 = mkF m 0 #[vR x0] [] := by first | (simp [entryFrame, mkF, argsToLocals, Value.category]; done) | rfl
set_option maxRecDepth 65536 in
set_option maxHeartbeats 40000000 in
theorem c_sbi (l : Launch) (Z : State) (a0 : Array Value) (hw : HW a0 Z) (ws : List Jvm.Cond) (sb : Addr) (c9 : Value) (G1 : Int32) (h0 : Heap) (n0 : Nat) (Z0 : n0 ≤ h0.size) (Eb : Exa Z h0 sb "java/lang/StringBuilder") (Bv : Fld Z h0 sb "java/lang/AbstractStringBuilder" "value" "[B" .null) (Bc : Fld Z h0 sb "java/lang/AbstractStringBuilder" "coder" "B" c9) (Bn : Fld Z h0 sb "java/lang/AbstractStringBuilder" "count" "I" (iV 0)) (gb : n0 ≤ sb) (O2 : Sta Z Z.heap "java/lang/String" "COMPACT_STRINGS" "Z" (.int G1)) (P5 : ¬ (G1 = (0 : Int32))) (X00 : Old Z n0 h0) :
  MetFree l yM10 (head1 (Jvm.Cond.code yM10 jdk_67_method_1_code 1 none :: ws) ({ frames := 2, cells := 1, slots := 16, locals := 26 } : Room)) (fun a U => a = #[(.ref sb)] ∧ Z.Warmed39 U.vm ∧ U.heap = h0) (fun _ _ _ _ _ => True) (fun _ U o U' => ∃ v L, o = .returned v ∧ (Q_sbi Z sb c9 G1 h0 n0) v U'.heap L ∧ FrameEnd U o U' L ({ frames := 2, cells := 1, slots := 16, locals := 26 } : Room).cells ({ frames := 2, cells := 1, slots := 16, locals := 26 } : Room).slots) := by
 refine MetFree.of_bodySF (plainFor_of_name pn_11) hisR ?_
 intro p e s m args below meth c s₁ Bd hml0 hP hK
 obtain ⟨rfl, hZ, hHp⟩ := hP
 have hx := Bd.exec
 have D := fun {pc : Nat} {r} (h : decode _ pc = r) => hb Bd.bytes h
 have hml : c.maxLocals = 1 := hml0
 have hown : s.vm.findClass "java/lang/StringBuilder" = some m.cls := findClass_of_methodNamed Bd.named
 have hnm := (name_of_methodNamed Bd.named Bd.method).1
 have X0 : Stand p l e ({ frames := 2, cells := 1, slots := 16, locals := 26 } : Room) s m #[(.ref sb)] below meth c s₁ [] 0 0 := Stand.of_body Bd
 have e0 : s₁.heap = h0 := by rw [← hHp, Bd.state]; rfl
 have N0 := Fr.nil n0
 refine ownOut (P := (Q_sbi Z sb c9 G1 h0 n0)) ?_
 refine ownBy (A := s₁.setTop (mkF m 0 #[vR sb] [])) (fun t k => castTop (ef_sbi m sb) k) ?_
 refine oTo s₁ (mkF m 3 #[vR sb] [(iV 16), (.ref sb)]) (fun t kt => ?_) ?_
 ·refine XS.aloadN X0.here hx rfl (D d6_0) rfl rfl ?_
  refine XS.bipush X0.here hx rfl (D d6_1) ?_
  exact kt
 obtain ⟨vv21, _, ⟨T21, L21, k21, n21⟩, -, X21, ⟨Lc21, hQ21, l21, y21, z21⟩, st21⟩ := X0.specialBack hx (y := yM9) rfl hown (mvT hZ (Wd39 hw)) (mvT hZ (Wd40 hw)) (mvT hZ (Wd44 hw)) (by decide) (backOf (W := 0) (c_asi l Z a0 hw [] sb _ G1 h0 n0 Z0 Eb Bv Bc Bn gb O2 P5 X00) hZ (Wd44 hw) (Wd43 hw) (by decide) (by decide)) (g := (mkF m 3 #[vR sb] [(iV 16), (.ref sb)])) rfl (by rw [hml]; rfl) (Steps.refl _) (a := sb) (argsL := [(iV 16)]) (rest := []) (lenOf pd_12 rfl) rfl (oWt rfl) (D d6_3) (fun _ _ => ⟨rfl, e0, oLe rfl, oLe rfl⟩)
 dsimp only [Pt.U, Pt.locs, Pt.cells, Pt.slots] at X21 l21 y21 z21 st21 hQ21
 subst l21 y21 z21
 obtain ⟨rfl, Nq21, Kq21, t21, kv21, zq21, Eq21, Vq21, Cq21, Mq21, Aq21⟩ := hQ21
 have ne22 : sb ≠ t21 := Nat.ne_of_lt (Nat.lt_of_lt_of_le Eb.lt zq21)
 have g23 : n0 ≤ t21 := Nat.le_trans Z0 zq21
 have z24 : h0.size ≤ t21 := Nat.le_trans (Nat.le_refl h0.size) zq21
 have N25 := Fr.app N0 Nq21
 obtain ⟨Lh26, Xh26, Nh26⟩ := oHd 1 16 X21 N25 rfl rfl
 refine ownSt st21 ?_
 clear st21
 show oA p e below _ T21 (mkF m 6 #[vR sb] [])
 have f27 := ((Keep.refl h0 [sb]).trans Kq21 (allS (Or.inl (List.mem_of_getElem? (i := 0) rfl)) all0))
 refine ownRet Xh26 Bd.notSynchronized (v := none) (fun _ => rfl) ?_ (oLe rfl) (oLe rfl) (fun fs hr => Xh26.returnOut hx Bd.returns (D d6_6) hr)
 show (Q_sbi Z sb c9 G1 h0 n0) (none) T21.heap _
 exact ⟨rfl, Nh26, f27, t21, kv21, z24, Eq21, Vq21, Cq21, Mq21, Aq21⟩
abbrev fr_gby (m : MethodId) (x : Addr) (va : Addr) (cn : Int32) (pc : Nat)  (st : List Value) : JFrame := mkF m pc #[vR x, vR va, vI cn, vI 0] st
def Q_gby (Z : State) (x : Addr) (ta : Addr) (kb : ClassId) (z : Int32) (us : List Value) (va : Addr) (kv : ClassId) (zb : Int32) (vs : List Value) (cn : Int32) (wl : List Value) (cm : Int32) (G1 : Int32) (h0 : Heap) (n0 : Nat) (v : Option Value) (h : Heap) (L : List Loc) : Prop := v = none ∧ Fr n0 L ∧ Keep h0 h [va] ∧ Arv Z h va kv .byte zb wl (iV 0)
theorem ef_gby (m : MethodId) (x0 : Addr) (x1 : Addr) (x2 : Int32) (x3 : Int32)  : entryFrame m #[(.ref x0), (.ref x1), (.int x2), (.int x3)] 4 = mkF m 0 #[vR x0, vR x1, vI x2, vI x3] [] := by first | (simp [entryFrame, mkF, argsToLocals, Value.category]; done) | rfl
set_option maxRecDepth 65536 in
set_option maxHeartbeats 40000000 in
theorem c_gby (l : Launch) (Z : State) (a0 : Array Value) (hw : HW a0 Z) (ws : List Jvm.Cond) (x : Addr) (ta : Addr) (kb : ClassId) (z : Int32) (us : List Value) (va : Addr) (kv : ClassId) (zb : Int32) (vs : List Value) (cn : Int32) (wl : List Value) (cm : Int32) (G1 : Int32) (h0 : Heap) (n0 : Nat) (Z0 : n0 ≤ h0.size) (Es : Exa Z h0 x "java/lang/String") (Vs : Fld Z h0 x "java/lang/String" "value" "[B" (.ref ta)) (Cs : Fld Z h0 x "java/lang/String" "coder" "B" (iV 0)) (Ks : Arv Z h0 ta kb .byte z us (iV 0)) (Ba : Arv Z h0 va kv .byte zb vs (iV 0)) (gv : n0 ≤ va) (ntv : ta ≠ va) (hC : Cpy vs us wl cn z zb cm) (O2 : Sta Z Z.heap "java/lang/String" "COMPACT_STRINGS" "Z" (.int G1)) (P5 : ¬ (G1 = (0 : Int32))) (X00 : Old Z n0 h0) :
  MetFree l yM11 (head1 (Jvm.Cond.code yM11 jdk_42_method_147_code 4 none :: ws) ({ frames := 1, cells := 0, slots := 0, locals := 40 } : Room)) (fun a U => a = #[(.ref x), (.ref va), (.int cn), (iV 0)] ∧ Z.Warmed39 U.vm ∧ U.heap = h0) (fun _ _ _ _ _ => True) (fun _ U o U' => ∃ v L, o = .returned v ∧ (Q_gby Z x ta kb z us va kv zb vs cn wl cm G1 h0 n0) v U'.heap L ∧ FrameEnd U o U' L ({ frames := 1, cells := 0, slots := 0, locals := 40 } : Room).cells ({ frames := 1, cells := 0, slots := 0, locals := 40 } : Room).slots) := by
 refine MetFree.of_bodySF (plainFor_of_name pn_1) hisR ?_
 intro p e s m args below meth c s₁ Bd hml0 hP hK
 obtain ⟨rfl, hZ, hHp⟩ := hP
 have hx := Bd.exec
 have D := fun {pc : Nat} {r} (h : decode _ pc = r) => hb Bd.bytes h
 have hml : c.maxLocals = 4 := hml0
 have hown : s.vm.findClass "java/lang/String" = some m.cls := findClass_of_methodNamed Bd.named
 have hnm := (name_of_methodNamed Bd.named Bd.method).1
 have X0 : Stand p l e ({ frames := 1, cells := 0, slots := 0, locals := 40 } : Room) s m #[(.ref x), (.ref va), (.int cn), (iV 0)] below meth c s₁ [] 0 0 := Stand.of_body Bd
 have e0 : s₁.heap = h0 := by rw [← hHp, Bd.state]; rfl
 have N0 := Fr.nil n0
 refine ownOut (P := (Q_gby Z x ta kb z us va kv zb vs cn wl cm G1 h0 n0)) ?_
 refine ownBy (A := s₁.setTop (mkF m 0 #[vR x, vR va, vI cn, vI 0] [])) (fun t k => castTop (ef_gby m x va cn (0 : Int32)) k) ?_
 have nxv : x ≠ va := Exa.neArv Es Ba (Wd5 hw)
 refine oTo s₁ (fr_gby m x va cn 1  [(.ref x)]) (fun t kt => ?_) ?_
 ·refine XS.aloadN X0.here hx rfl (D d16_0) rfl rfl ?_
  exact kt
 obtain ⟨cq21, kq21, q21a, q21b, q21c⟩ := isOf hZ e0 Es
 obtain ⟨vv21, _, ⟨T21, L21, k21, n21⟩, -, X21, ⟨Lc21, hQ21, l21, y21, z21⟩, st21⟩ := X0.virtualBack hx (y := yM2) (z := yM2) hown (mvT hZ (Wd74 hw)) (mvT hZ (Wd75 hw)) (oNf hZ (Wd77 hw)) (mvT hZ (Wd77 hw)) (mvT hZ (Wd76 hw)) (by decide) (backOf (W := 0) (c_cod l Z a0 hw [] x G1 h0 n0 Z0 Es Cs O2 P5 X00) hZ (Wd78 hw) (Wd6 hw) (by decide) (by decide)) q21a q21c (g := (fr_gby m x va cn 1  [(.ref x)])) rfl (by rw [hml]; rfl) (Steps.refl _) (argsL := []) (rest := []) (lenOf pd_3 rfl) rfl (oWt rfl) (D d16_1) (fun _ _ => ⟨rfl, e0, oLe rfl, oLe rfl⟩)
 dsimp only [Pt.U, Pt.locs, Pt.cells, Pt.slots] at X21 l21 y21 z21 st21 hQ21
 subst l21 y21 z21
 obtain ⟨rfl, Nq21, Eq21⟩ := hQ21
 have N22 := Fr.app N0 Nq21
 obtain ⟨Lh23, Xh23, Nh23⟩ := oHd 0 0 X21 N22 rfl rfl
 refine ownSt st21 ?_
 clear st21
 show oA p e below _ T21 (fr_gby m x va cn 4  [(iV 0)])
 refine oTo T21 (fr_gby m x va cn 9  [(.ref x)]) (fun t kt => ?_) ?_
 ·refine XS.iloadN Xh23.here hx rfl (D d16_4) rfl ?_
  refine XS.icmpNo Xh23.here hx rfl (D d16_5) rfl (teq ((by decide) : (0 : Int32) = (0 : Int32))).2 ?_
  refine XS.aloadN Xh23.here hx rfl (D d16_8) rfl rfl ?_
  exact kt
 refine own_getF Xh23 hx hZ hown (host := "") (Or.inl (Wd24 hw)) Via.refl Eq21 Vs (D d16_9) (fun T24 X24 e24 => ?_)
 refine oTo T24 (fr_gby m x va cn 17  [(.int (cn <<< ((0 : Int32) &&& 31))), (.ref va), (iV 0), (.ref ta)]) (fun t kt => ?_) ?_
 ·refine XS.iconst X24.here hx rfl (D d16_12) ?_
  refine XS.aloadN X24.here hx rfl (D d16_13) rfl rfl ?_
  refine XS.iloadN X24.here hx rfl (D d16_14) rfl ?_
  refine XS.iloadN X24.here hx rfl (D d16_15) rfl ?_
  show Steps p.tables e below (T24.setTop (fr_gby m x va cn 16  [(iV 0), (.int cn), (.ref va), (iV 0), (.ref ta)])) t
  refine XS.ishl X24.here hx rfl (D d16_16) rfl ?_
  exact kt
 show oA p e below _ T24 (fr_gby m x va cn 17  [(.int (cn <<< ((0 : Int32) &&& 31))), (.ref va), (iV 0), (.ref ta)])
 rw [own_shl0 cn]
 refine oTo T24 (fr_gby m x va cn 18  [(.ref x), (.int cn), (.ref va), (iV 0), (.ref ta)]) (fun t kt => ?_) ?_
 ·refine XS.aloadN X24.here hx rfl (D d16_17) rfl rfl ?_
  exact kt
 refine own_getF X24 hx hZ hown (host := "") (Or.inl (Wd24 hw)) Via.refl e24 Vs (D d16_18) (fun T25 X25 e25 => ?_)
 obtain ⟨cl26, Ar26, -, S26, N26, -, -⟩ := id Ks
 have st26 := X25.arraylength hx (by rw [e25]; exact Ar26.1) (State.isArrayOf_alike hZ.alike Ar26.2.1) (g := (fr_gby m x va cn 21  [(.ref ta), (.int cn), (.ref va), (iV 0), (.ref ta)])) rfl rfl (D d16_21)
 rw [len_of S26 N26] at st26
 refine ownBy st26 ?_
 show oA p e below _ T25 (fr_gby m x va cn 22  [(.int z), (.int cn), (.ref va), (iV 0), (.ref ta)])
 obtain ⟨T27, h27, L27, X27, e27, Nq27, K27, A27, st27⟩ := cpA X25 hx hZ hown (Wd103 hw) (Wd106 hw) (Wd104 hw) (Wd105 hw) e25 Ks Ba (us := us) (Or.inl ⟨rfl, rfl⟩) (sp := (0 : Int32)) (dp := cn) (nn := z) (by decide) hC.1 hC.2.1 (Nat.le_of_eq (Nat.zero_add _)) hC.2.2.1 hC.2.2.2.1 hC.2.2.2.2.1 Nh23 gv (g := (fr_gby m x va cn 22  [(.int z), (.int cn), (.ref va), (iV 0), (.ref ta)])) rfl (by rw [hml]; rfl) rfl (D d16_22) (by decide) (W := 0) (oWt rfl) (by decide)
 have V28 : Arv Z h27 va kv .byte zb wl (iV 0) := by rw [← hC.2.2.2.2.2.1]; exact A27
 refine ownBy st27 ?_
 clear st27
 show oA p e below _ T27 (fr_gby m x va cn 25  [])
 refine oTo T27 (fr_gby m x va cn 43  []) (fun t kt => ?_) ?_
 ·refine XS.goto X27.here hx rfl (pc0 := 25) (pc' := 43) rfl (D d16_25) (by decide) (by decide) ?_
  exact kt
 have f29 := ((Keep.refl h0 [va]).trans K27 (allS (Or.inl (List.mem_of_getElem? (i := 0) rfl)) all0))
 refine ownRet X27 Bd.notSynchronized (v := none) (fun _ => rfl) ?_ (oLe rfl) (oLe rfl) (fun fs hr => X27.returnOut hx Bd.returns (D d16_43) hr)
 show (Q_gby Z x ta kb z us va kv zb vs cn wl cm G1 h0 n0) (none) T27.heap _
 rw [e27]
 exact ⟨rfl, Nq27, f29, V28⟩
abbrev fr_ifn (m : MethodId) (sb : Addr) (x : Addr) (pc : Nat)  (st : List Value) : JFrame := mkF m pc #[vR sb, vR x] st
def Q_ifn (Z : State) (x : Addr) (ta : Addr) (kb : ClassId) (z : Int32) (us : List Value) (sb : Addr) (va : Addr) (kv : ClassId) (zb : Int32) (vs : List Value) (cn : Int32) (G1 : Int32) (h0 : Heap) (n0 : Nat) (v : Option Value) (h : Heap) (L : List Loc) : Prop := v = none ∧ Fr n0 L ∧ h = h0
theorem ef_ifn (m : MethodId) (x0 : Addr) (x1 : Addr)  : entryFrame m #[(.ref x0), (.ref x1)] 2 = mkF m 0 #[vR x0, vR x1] [] := by first | (simp [entryFrame, mkF, argsToLocals, Value.category]; done) | rfl
set_option maxRecDepth 65536 in
set_option maxHeartbeats 40000000 in
theorem c_ifn (l : Launch) (Z : State) (a0 : Array Value) (hw : HW a0 Z) (ws : List Jvm.Cond) (x : Addr) (ta : Addr) (kb : ClassId) (z : Int32) (us : List Value) (sb : Addr) (va : Addr) (kv : ClassId) (zb : Int32) (vs : List Value) (cn : Int32) (G1 : Int32) (h0 : Heap) (n0 : Nat) (Z0 : n0 ≤ h0.size) (Es : Exa Z h0 x "java/lang/String") (Vs : Fld Z h0 x "java/lang/String" "value" "[B" (.ref ta)) (Cs : Fld Z h0 x "java/lang/String" "coder" "B" (iV 0)) (Ks : Arv Z h0 ta kb .byte z us (iV 0)) (Eb : Exa Z h0 sb "java/lang/StringBuilder") (Bv : Fld Z h0 sb "java/lang/AbstractStringBuilder" "value" "[B" (.ref va)) (Bc : Fld Z h0 sb "java/lang/AbstractStringBuilder" "coder" "B" (iV 0)) (Bn : Fld Z h0 sb "java/lang/AbstractStringBuilder" "count" "I" (.int cn)) (Ba : Arv Z h0 va kv .byte zb vs (iV 0)) (O2 : Sta Z Z.heap "java/lang/String" "COMPACT_STRINGS" "Z" (.int G1)) (P5 : ¬ (G1 = (0 : Int32))) (X00 : Old Z n0 h0) :
  MetFree l yM12 (head1 (Jvm.Cond.code yM12 jdk_68_method_71_code 2 none :: ws) ({ frames := 1, cells := 0, slots := 0, locals := 13 } : Room)) (fun a U => a = #[(.ref sb), (.ref x)] ∧ Z.Warmed39 U.vm ∧ U.heap = h0) (fun _ _ _ _ _ => True) (fun _ U o U' => ∃ v L, o = .returned v ∧ (Q_ifn Z x ta kb z us sb va kv zb vs cn G1 h0 n0) v U'.heap L ∧ FrameEnd U o U' L ({ frames := 1, cells := 0, slots := 0, locals := 13 } : Room).cells ({ frames := 1, cells := 0, slots := 0, locals := 13 } : Room).slots) := by
 refine MetFree.of_bodySF (plainFor_of_name pn_10) hisR ?_
 intro p e s m args below meth c s₁ Bd hml0 hP hK
 obtain ⟨rfl, hZ, hHp⟩ := hP
 have hx := Bd.exec
 have D := fun {pc : Nat} {r} (h : decode _ pc = r) => hb Bd.bytes h
 have hml : c.maxLocals = 2 := hml0
 have hown : s.vm.findClass "java/lang/AbstractStringBuilder" = some m.cls := findClass_of_methodNamed Bd.named
 have hnm := (name_of_methodNamed Bd.named Bd.method).1
 have X0 : Stand p l e ({ frames := 1, cells := 0, slots := 0, locals := 13 } : Room) s m #[(.ref sb), (.ref x)] below meth c s₁ [] 0 0 := Stand.of_body Bd
 have e0 : s₁.heap = h0 := by rw [← hHp, Bd.state]; rfl
 have N0 := Fr.nil n0
 refine ownOut (P := (Q_ifn Z x ta kb z us sb va kv zb vs cn G1 h0 n0)) ?_
 refine ownBy (A := s₁.setTop (mkF m 0 #[vR sb, vR x] [])) (fun t k => castTop (ef_ifn m sb x) k) ?_
 have nsv : sb ≠ va := Exa.neArv Eb Ba (Wd34 hw)
 refine own_getS X0 hx hZ hown (host := "") (Or.inl (Wd46 hw)) Via.refl e0 (O2.ext X00.2) (D d15_0) (fun T21 X21 e21 => ?_)
 refine oTo T21 (fr_ifn m sb x 7  [(.ref sb)]) (fun t kt => ?_) ?_
 ·refine XS.ifNo X21.here hx rfl (D d15_3) rfl ((if0 _ _).trans (feq P5).1) ?_
  refine XS.aloadN X21.here hx rfl (D d15_6) rfl rfl ?_
  exact kt
 refine own_getF X21 hx hZ hown (host := "") (Or.inl (Wd49 hw)) Via.refl e21 Bc (D d15_7) (fun T22 X22 e22 => ?_)
 refine oTo T22 (fr_ifn m sb x 11  [(.ref x), (iV 0)]) (fun t kt => ?_) ?_
 ·refine XS.aloadN X22.here hx rfl (D d15_10) rfl rfl ?_
  exact kt
 obtain ⟨cq23, kq23, q23a, q23b, q23c⟩ := isOf hZ e22 Es
 obtain ⟨vv23, _, ⟨T23, L23, k23, n23⟩, -, X23, ⟨Lc23, hQ23, l23, y23, z23⟩, st23⟩ := X22.virtualBack hx (y := yM2) (z := yM2) hown (mvT hZ (Wd97 hw)) (mvT hZ (Wd75 hw)) (oNf hZ (Wd77 hw)) (mvT hZ (Wd77 hw)) (mvT hZ (Wd76 hw)) (by decide) (backOf (W := 1) (c_cod l Z a0 hw [] x G1 h0 n0 Z0 Es Cs O2 P5 X00) hZ (Wd78 hw) (Wd6 hw) (by decide) (by decide)) q23a q23c (g := (fr_ifn m sb x 11  [(.ref x), (iV 0)])) rfl (by rw [hml]; rfl) (Steps.refl _) (argsL := []) (rest := [(iV 0)]) (lenOf pd_3 rfl) rfl (oWt rfl) (D d15_11) (fun _ _ => ⟨rfl, e22, oLe rfl, oLe rfl⟩)
 dsimp only [Pt.U, Pt.locs, Pt.cells, Pt.slots] at X23 l23 y23 z23 st23 hQ23
 subst l23 y23 z23
 obtain ⟨rfl, Nq23, Eq23⟩ := hQ23
 have N24 := Fr.app N0 Nq23
 obtain ⟨Lh25, Xh25, Nh25⟩ := oHd 0 0 X23 N24 rfl rfl
 refine ownSt st23 ?_
 clear st23
 show oA p e below _ T23 (fr_ifn m sb x 14  [(iV 0), (iV 0)])
 refine oTo T23 (fr_ifn m sb x 21  []) (fun t kt => ?_) ?_
 ·refine XS.icmpYes Xh25.here hx rfl (pc0 := 14) (pc' := 21) rfl (D d15_14) rfl (teq ((by decide) : (0 : Int32) = (0 : Int32))).1 (by decide) (by decide) ?_
  exact kt
 refine ownRet Xh25 Bd.notSynchronized (v := none) (fun _ => rfl) ?_ (oLe rfl) (oLe rfl) (fun fs hr => Xh25.returnOut hx Bd.returns (D d15_21) hr)
 show (Q_ifn Z x ta kb z us sb va kv zb vs cn G1 h0 n0) (none) T23.heap _
 rw [Eq23]
 exact ⟨rfl, Nh25, rfl⟩
abbrev fr_ens (m : MethodId) (sb : Addr) (cm : Int32) (pc : Nat) (x2_ : Slot) (st : List Value) : JFrame := mkF m pc #[vR sb, vI cm, x2_] st
def Q_ens (Z : State) (sb : Addr) (va : Addr) (kv : ClassId) (zb : Int32) (vs : List Value) (cn : Int32) (cm : Int32) (h0 : Heap) (n0 : Nat) (v : Option Value) (h : Heap) (L : List Loc) : Prop := v = none ∧ Fr n0 L ∧ h = h0
theorem ef_ens (m : MethodId) (x0 : Addr) (x1 : Int32)  : entryFrame m #[(.ref x0), (.int x1)] 3 = mkF m 0 #[vR x0, vI x1, .unset] [] := by first | (simp [entryFrame, mkF, argsToLocals, Value.category]; done) | rfl
set_option maxRecDepth 65536 in
set_option maxHeartbeats 40000000 in
theorem c_ens (l : Launch) (Z : State) (a0 : Array Value) (hw : HW a0 Z) (ws : List Jvm.Cond) (sb : Addr) (va : Addr) (kv : ClassId) (zb : Int32) (vs : List Value) (cn : Int32) (cm : Int32) (h0 : Heap) (n0 : Nat) (Z0 : n0 ≤ h0.size) (Eb : Exa Z h0 sb "java/lang/StringBuilder") (Bv : Fld Z h0 sb "java/lang/AbstractStringBuilder" "value" "[B" (.ref va)) (Bc : Fld Z h0 sb "java/lang/AbstractStringBuilder" "coder" "B" (iV 0)) (Bn : Fld Z h0 sb "java/lang/AbstractStringBuilder" "count" "I" (.int cn)) (Ba : Arv Z h0 va kv .byte zb vs (iV 0)) (hcap : ¬ ((0 : Int32) < (cm - (zb >>> ((0 : Int32) &&& 31))))) :
  MetFree l yM13 (head1 (Jvm.Cond.code yM13 jdk_68_method_9_code 3 none :: ws) ({ frames := 0, cells := 0, slots := 0, locals := 0 } : Room)) (fun a U => a = #[(.ref sb), (.int cm)] ∧ Z.Warmed39 U.vm ∧ U.heap = h0) (fun _ _ _ _ _ => True) (fun _ U o U' => ∃ v L, o = .returned v ∧ (Q_ens Z sb va kv zb vs cn cm h0 n0) v U'.heap L ∧ FrameEnd U o U' L ({ frames := 0, cells := 0, slots := 0, locals := 0 } : Room).cells ({ frames := 0, cells := 0, slots := 0, locals := 0 } : Room).slots) := by
 refine MetFree.of_bodySF (plainFor_of_name pn_10) hisR ?_
 intro p e s m args below meth c s₁ Bd hml0 hP hK
 obtain ⟨rfl, hZ, hHp⟩ := hP
 have hx := Bd.exec
 have D := fun {pc : Nat} {r} (h : decode _ pc = r) => hb Bd.bytes h
 have hml : c.maxLocals = 3 := hml0
 have hown : s.vm.findClass "java/lang/AbstractStringBuilder" = some m.cls := findClass_of_methodNamed Bd.named
 have hnm := (name_of_methodNamed Bd.named Bd.method).1
 have X0 : Stand p l e ({ frames := 0, cells := 0, slots := 0, locals := 0 } : Room) s m #[(.ref sb), (.int cm)] below meth c s₁ [] 0 0 := Stand.of_body Bd
 have e0 : s₁.heap = h0 := by rw [← hHp, Bd.state]; rfl
 have N0 := Fr.nil n0
 refine ownOut (P := (Q_ens Z sb va kv zb vs cn cm h0 n0)) ?_
 refine ownBy (A := s₁.setTop (mkF m 0 #[vR sb, vI cm, .unset] [])) (fun t k => castTop (ef_ens m sb cm) k) ?_
 have nsv : sb ≠ va := Exa.neArv Eb Ba (Wd34 hw)
 refine oTo s₁ (fr_ens m sb cm 1 .unset [(.ref sb)]) (fun t kt => ?_) ?_
 ·refine XS.aloadN X0.here hx rfl (D d13_0) rfl rfl ?_
  exact kt
 refine own_getF X0 hx hZ hown (host := "") (Or.inl (Wd47 hw)) Via.refl e0 Bv (D d13_1) (fun T21 X21 e21 => ?_)
 obtain ⟨cl22, Ar22, -, S22, N22, -, -⟩ := id Ba
 have st22 := X21.arraylength hx (by rw [e21]; exact Ar22.1) (State.isArrayOf_alike hZ.alike Ar22.2.1) (g := (fr_ens m sb cm 4 .unset [(.ref va)])) rfl rfl (D d13_4)
 rw [len_of S22 N22] at st22
 refine ownBy st22 ?_
 show oA p e below _ T21 (fr_ens m sb cm 5 .unset [(.int zb)])
 refine oTo T21 (fr_ens m sb cm 6 .unset [(.ref sb), (.int zb)]) (fun t kt => ?_) ?_
 ·refine XS.aloadN X21.here hx rfl (D d13_5) rfl rfl ?_
  exact kt
 refine own_getF X21 hx hZ hown (host := "") (Or.inl (Wd49 hw)) Via.refl e21 Bc (D d13_6) (fun T23 X23 e23 => ?_)
 refine oTo T23 (fr_ens m sb cm 38 (.val (.int (zb >>> ((0 : Int32) &&& 31)))) []) (fun t kt => ?_) ?_
 ·refine XS.ishr X23.here hx rfl (D d13_9) rfl ?_
  refine XS.istoreN X23.here hx rfl (D d13_10) rfl (l' := #[vR sb, vI cm, .val (.int (zb >>> ((0 : Int32) &&& 31)))]) rfl ?_
  refine XS.iloadN X23.here hx rfl (D d13_11) rfl ?_
  refine XS.iloadN X23.here hx rfl (D d13_12) rfl ?_
  show Steps p.tables e below (T23.setTop (fr_ens m sb cm 13 (.val (.int (zb >>> ((0 : Int32) &&& 31)))) [(.int (zb >>> ((0 : Int32) &&& 31))), (.int cm)])) t
  refine XS.isub X23.here hx rfl (D d13_13) rfl ?_
  refine XS.ifYes X23.here hx rfl (pc0 := 14) (pc' := 38) rfl (D d13_14) rfl ((if0 _ _).trans (flt hcap).2.2.2) (by decide) (by decide) ?_
  exact kt
 refine ownRet X23 Bd.notSynchronized (v := none) (fun _ => rfl) ?_ (oLe rfl) (oLe rfl) (fun fs hr => X23.returnOut hx Bd.returns (D d13_38) hr)
 show (Q_ens Z sb va kv zb vs cn cm h0 n0) (none) T23.heap _
 rw [e23]
 exact ⟨rfl, N0, rfl⟩
abbrev fr_pst (m : MethodId) (sb : Addr) (cn : Int32) (x : Addr) (pc : Nat)  (st : List Value) : JFrame := mkF m pc #[vR sb, vI cn, vR x] st
def Q_pst (Z : State) (x : Addr) (ta : Addr) (kb : ClassId) (z : Int32) (us : List Value) (sb : Addr) (va : Addr) (kv : ClassId) (zb : Int32) (vs : List Value) (cn : Int32) (wl : List Value) (cm : Int32) (G1 : Int32) (h0 : Heap) (n0 : Nat) (v : Option Value) (h : Heap) (L : List Loc) : Prop := v = none ∧ Fr n0 L ∧ Keep h0 h [va] ∧ Arv Z h va kv .byte zb wl (iV 0)
theorem ef_pst (m : MethodId) (x0 : Addr) (x1 : Int32) (x2 : Addr)  : entryFrame m #[(.ref x0), (.int x1), (.ref x2)] 3 = mkF m 0 #[vR x0, vI x1, vR x2] [] := by first | (simp [entryFrame, mkF, argsToLocals, Value.category]; done) | rfl
set_option maxRecDepth 65536 in
set_option maxHeartbeats 40000000 in
theorem c_pst (l : Launch) (Z : State) (a0 : Array Value) (hw : HW a0 Z) (ws : List Jvm.Cond) (x : Addr) (ta : Addr) (kb : ClassId) (z : Int32) (us : List Value) (sb : Addr) (va : Addr) (kv : ClassId) (zb : Int32) (vs : List Value) (cn : Int32) (wl : List Value) (cm : Int32) (G1 : Int32) (h0 : Heap) (n0 : Nat) (Z0 : n0 ≤ h0.size) (Es : Exa Z h0 x "java/lang/String") (Vs : Fld Z h0 x "java/lang/String" "value" "[B" (.ref ta)) (Cs : Fld Z h0 x "java/lang/String" "coder" "B" (iV 0)) (Ks : Arv Z h0 ta kb .byte z us (iV 0)) (Eb : Exa Z h0 sb "java/lang/StringBuilder") (Bv : Fld Z h0 sb "java/lang/AbstractStringBuilder" "value" "[B" (.ref va)) (Bc : Fld Z h0 sb "java/lang/AbstractStringBuilder" "coder" "B" (iV 0)) (Bn : Fld Z h0 sb "java/lang/AbstractStringBuilder" "count" "I" (.int cn)) (Ba : Arv Z h0 va kv .byte zb vs (iV 0)) (gb : n0 ≤ sb) (gv : n0 ≤ va) (ntv : ta ≠ va) (hC : Cpy vs us wl cn z zb cm) (O2 : Sta Z Z.heap "java/lang/String" "COMPACT_STRINGS" "Z" (.int G1)) (P5 : ¬ (G1 = (0 : Int32))) (X00 : Old Z n0 h0) :
  MetFree l yM14 (head1 (Jvm.Cond.code yM14 jdk_68_method_73_code 3 none :: ws) ({ frames := 2, cells := 0, slots := 0, locals := 60 } : Room)) (fun a U => a = #[(.ref sb), (.int cn), (.ref x)] ∧ Z.Warmed39 U.vm ∧ U.heap = h0) (fun _ _ _ _ _ => True) (fun _ U o U' => ∃ v L, o = .returned v ∧ (Q_pst Z x ta kb z us sb va kv zb vs cn wl cm G1 h0 n0) v U'.heap L ∧ FrameEnd U o U' L ({ frames := 2, cells := 0, slots := 0, locals := 60 } : Room).cells ({ frames := 2, cells := 0, slots := 0, locals := 60 } : Room).slots) := by
 refine MetFree.of_bodySF (plainFor_of_name pn_10) hisR ?_
 intro p e s m args below meth c s₁ Bd hml0 hP hK
 obtain ⟨rfl, hZ, hHp⟩ := hP
 have hx := Bd.exec
 have D := fun {pc : Nat} {r} (h : decode _ pc = r) => hb Bd.bytes h
 have hml : c.maxLocals = 3 := hml0
 have hown : s.vm.findClass "java/lang/AbstractStringBuilder" = some m.cls := findClass_of_methodNamed Bd.named
 have hnm := (name_of_methodNamed Bd.named Bd.method).1
 have X0 : Stand p l e ({ frames := 2, cells := 0, slots := 0, locals := 60 } : Room) s m #[(.ref sb), (.int cn), (.ref x)] below meth c s₁ [] 0 0 := Stand.of_body Bd
 have e0 : s₁.heap = h0 := by rw [← hHp, Bd.state]; rfl
 have N0 := Fr.nil n0
 refine ownOut (P := (Q_pst Z x ta kb z us sb va kv zb vs cn wl cm G1 h0 n0)) ?_
 refine ownBy (A := s₁.setTop (mkF m 0 #[vR sb, vI cn, vR x] [])) (fun t k => castTop (ef_pst m sb cn x) k) ?_
 have nsv : sb ≠ va := Exa.neArv Eb Ba (Wd34 hw)
 have nxs : x ≠ sb := own_exa_ne Es Eb (by decide)
 have nxv : x ≠ va := Exa.neArv Es Ba (Wd5 hw)
 have nst : sb ≠ ta := Exa.neArv Eb Ks (Wd34 hw)
 have nxt : x ≠ ta := Exa.neArv Es Ks (Wd5 hw)
 refine oTo s₁ (fr_pst m sb cn x 2  [(.ref x), (.ref sb)]) (fun t kt => ?_) ?_
 ·refine XS.aloadN X0.here hx rfl (D d14_0) rfl rfl ?_
  refine XS.aloadN X0.here hx rfl (D d14_1) rfl rfl ?_
  exact kt
 obtain ⟨cq21, q21, q21'⟩ := Eb.cell
 obtain ⟨vv21, _, ⟨T21, L21, k21, n21⟩, -, X21, ⟨Lc21, hQ21, l21, y21, z21⟩, st21⟩ := X0.privateBack hx (y := yM12) hown (mvT hZ (Wd92 hw)) (mvT hZ (Wd93 hw)) (mvT hZ (own_selpriv (Wd95 hw) (Wd94 hw) (Wd93 hw) (by decide))) (Cond.privateMethod_at (mvP hZ (Wd94 hw) (args := #[]))) (mvT hZ (Wd96 hw)) (by decide) (backOf (W := 0) (c_ifn l Z a0 hw [] x ta kb z us sb va kv zb vs cn G1 h0 n0 Z0 Es Vs Cs Ks Eb Bv Bc Bn Ba O2 P5 X00) hZ (Wd96 hw) (Wd43 hw) (by decide) (by decide)) (g := (fr_pst m sb cn x 2  [(.ref x), (.ref sb)])) rfl (by rw [hml]; rfl) (Steps.refl _) (a := sb) (by rw [e0]; exact q21) q21' (argsL := [(.ref x)]) (rest := []) (lenOf pd_13 rfl) rfl (oWt rfl) (D d14_2) (fun _ _ => ⟨rfl, e0, oLe rfl, oLe rfl⟩)
 dsimp only [Pt.U, Pt.locs, Pt.cells, Pt.slots] at X21 l21 y21 z21 st21 hQ21
 subst l21 y21 z21
 obtain ⟨rfl, Nq21, Eq21⟩ := hQ21
 have N22 := Fr.app N0 Nq21
 obtain ⟨Lh23, Xh23, Nh23⟩ := oHd 0 0 X21 N22 rfl rfl
 refine ownSt st21 ?_
 clear st21
 show oA p e below _ T21 (fr_pst m sb cn x 5  [])
 refine oTo T21 (fr_pst m sb cn x 7  [(.ref sb), (.ref x)]) (fun t kt => ?_) ?_
 ·refine XS.aloadN Xh23.here hx rfl (D d14_5) rfl rfl ?_
  refine XS.aloadN Xh23.here hx rfl (D d14_6) rfl rfl ?_
  exact kt
 refine own_getF Xh23 hx hZ hown (host := "") (Or.inl (Wd47 hw)) Via.refl Eq21 Bv (D d14_7) (fun T24 X24 e24 => ?_)
 refine oTo T24 (fr_pst m sb cn x 12  [(.ref sb), (.int cn), (.ref va), (.ref x)]) (fun t kt => ?_) ?_
 ·refine XS.iloadN X24.here hx rfl (D d14_10) rfl ?_
  refine XS.aloadN X24.here hx rfl (D d14_11) rfl rfl ?_
  exact kt
 refine own_getF X24 hx hZ hown (host := "") (Or.inl (Wd49 hw)) Via.refl e24 Bc (D d14_12) (fun T25 X25 e25 => ?_)
 obtain ⟨cq26, kq26, q26a, q26b, q26c⟩ := isOf hZ e25 Es
 obtain ⟨vv26, _, ⟨T26, L26, k26, n26⟩, -, X26, ⟨Lc26, hQ26, l26, y26, z26⟩, st26⟩ := X25.virtualBack hx (y := yM11) (z := yM11) hown (mvT hZ (Wd98 hw)) (mvT hZ (Wd99 hw)) (oNf hZ (Wd101 hw)) (mvT hZ (Wd101 hw)) (mvT hZ (Wd100 hw)) (by decide) (backOf (W := 0) (c_gby l Z a0 hw [] x ta kb z us va kv zb vs cn wl cm G1 h0 n0 Z0 Es Vs Cs Ks Ba gv ntv hC O2 P5 X00) hZ (Wd102 hw) (Wd6 hw) (by decide) (by decide)) q26a q26c (g := (fr_pst m sb cn x 15  [(iV 0), (.int cn), (.ref va), (.ref x)])) rfl (by rw [hml]; rfl) (Steps.refl _) (argsL := [(.ref va), (.int cn), (iV 0)]) (rest := []) (lenOf pd_14 rfl) rfl (oWt rfl) (D d14_15) (fun _ _ => ⟨rfl, e25, oLe rfl, oLe rfl⟩)
 dsimp only [Pt.U, Pt.locs, Pt.cells, Pt.slots] at X26 l26 y26 z26 st26 hQ26
 subst l26 y26 z26
 obtain ⟨rfl, Nq26, Kq26, Aq26⟩ := hQ26
 have N27 := Fr.app Nh23 Nq26
 obtain ⟨Lh28, Xh28, Nh28⟩ := oHd 0 0 X26 N27 rfl rfl
 refine ownSt st26 ?_
 clear st26
 show oA p e below _ T26 (fr_pst m sb cn x 18  [])
 have f29 := ((Keep.refl h0 [va]).trans Kq26 (allS (Or.inl (List.mem_of_getElem? (i := 0) rfl)) all0))
 refine ownRet Xh28 Bd.notSynchronized (v := none) (fun _ => rfl) ?_ (oLe rfl) (oLe rfl) (fun fs hr => Xh28.returnOut hx Bd.returns (D d14_18) hr)
 show (Q_pst Z x ta kb z us sb va kv zb vs cn wl cm G1 h0 n0) (none) T26.heap _
 exact ⟨rfl, Nh28, f29, Aq26⟩
abbrev fr_aapp (m : MethodId) (sb : Addr) (x : Addr) (pc : Nat) (x2_ : Slot) (st : List Value) : JFrame := mkF m pc #[vR sb, vR x, x2_] st
def Q_aapp (Z : State) (x : Addr) (ta : Addr) (kb : ClassId) (z : Int32) (us : List Value) (sb : Addr) (va : Addr) (kv : ClassId) (zb : Int32) (vs : List Value) (cn : Int32) (wl : List Value) (cm : Int32) (G1 : Int32) (h0 : Heap) (n0 : Nat) (v : Option Value) (h : Heap) (L : List Loc) : Prop := v = some (.ref sb) ∧ Fr n0 L ∧ Keep h0 h [sb, va] ∧ Exa Z h sb "java/lang/StringBuilder" ∧ Fld Z h sb "java/lang/AbstractStringBuilder" "value" "[B" (.ref va) ∧ Fld Z h sb "java/lang/AbstractStringBuilder" "coder" "B" (iV 0) ∧ Fld Z h sb "java/lang/AbstractStringBuilder" "count" "I" (.int cm) ∧ Arv Z h va kv .byte zb wl (iV 0)
theorem ef_aapp (m : MethodId) (x0 : Addr) (x1 : Addr)  : entryFrame m #[(.ref x0), (.ref x1)] 3 = mkF m 0 #[vR x0, vR x1, .unset] [] := by first | (simp [entryFrame, mkF, argsToLocals, Value.category]; done) | rfl
set_option maxRecDepth 65536 in
set_option maxHeartbeats 40000000 in
theorem c_aapp (l : Launch) (Z : State) (a0 : Array Value) (hw : HW a0 Z) (ws : List Jvm.Cond) (x : Addr) (ta : Addr) (kb : ClassId) (z : Int32) (us : List Value) (sb : Addr) (va : Addr) (kv : ClassId) (zb : Int32) (vs : List Value) (cn : Int32) (wl : List Value) (cm : Int32) (G1 : Int32) (h0 : Heap) (n0 : Nat) (Z0 : n0 ≤ h0.size) (Es : Exa Z h0 x "java/lang/String") (Vs : Fld Z h0 x "java/lang/String" "value" "[B" (.ref ta)) (Cs : Fld Z h0 x "java/lang/String" "coder" "B" (iV 0)) (Ks : Arv Z h0 ta kb .byte z us (iV 0)) (Eb : Exa Z h0 sb "java/lang/StringBuilder") (Bv : Fld Z h0 sb "java/lang/AbstractStringBuilder" "value" "[B" (.ref va)) (Bc : Fld Z h0 sb "java/lang/AbstractStringBuilder" "coder" "B" (iV 0)) (Bn : Fld Z h0 sb "java/lang/AbstractStringBuilder" "count" "I" (.int cn)) (Ba : Arv Z h0 va kv .byte zb vs (iV 0)) (gb : n0 ≤ sb) (gv : n0 ≤ va) (ntv : ta ≠ va) (hC : Cpy vs us wl cn z zb cm) (O2 : Sta Z Z.heap "java/lang/String" "COMPACT_STRINGS" "Z" (.int G1)) (P5 : ¬ (G1 = (0 : Int32))) (X00 : Old Z n0 h0) :
  MetFree l yM15 (head1 (Jvm.Cond.code yM15 jdk_68_method_22_code 3 (some (.object "java/lang/AbstractStringBuilder")) :: ws) ({ frames := 3, cells := 0, slots := 0, locals := 80 } : Room)) (fun a U => a = #[(.ref sb), (.ref x)] ∧ Z.Warmed39 U.vm ∧ U.heap = h0) (fun _ _ _ _ _ => True) (fun _ U o U' => ∃ v L, o = .returned v ∧ (Q_aapp Z x ta kb z us sb va kv zb vs cn wl cm G1 h0 n0) v U'.heap L ∧ FrameEnd U o U' L ({ frames := 3, cells := 0, slots := 0, locals := 80 } : Room).cells ({ frames := 3, cells := 0, slots := 0, locals := 80 } : Room).slots) := by
 refine MetFree.of_bodySF (plainFor_of_name pn_10) hisR ?_
 intro p e s m args below meth c s₁ Bd hml0 hP hK
 obtain ⟨rfl, hZ, hHp⟩ := hP
 have hx := Bd.exec
 have D := fun {pc : Nat} {r} (h : decode _ pc = r) => hb Bd.bytes h
 have hml : c.maxLocals = 3 := hml0
 have hown : s.vm.findClass "java/lang/AbstractStringBuilder" = some m.cls := findClass_of_methodNamed Bd.named
 have hnm := (name_of_methodNamed Bd.named Bd.method).1
 have X0 : Stand p l e ({ frames := 3, cells := 0, slots := 0, locals := 80 } : Room) s m #[(.ref sb), (.ref x)] below meth c s₁ [] 0 0 := Stand.of_body Bd
 have e0 : s₁.heap = h0 := by rw [← hHp, Bd.state]; rfl
 have N0 := Fr.nil n0
 refine ownOut (P := (Q_aapp Z x ta kb z us sb va kv zb vs cn wl cm G1 h0 n0)) ?_
 refine ownBy (A := s₁.setTop (mkF m 0 #[vR sb, vR x, .unset] [])) (fun t k => castTop (ef_aapp m sb x) k) ?_
 have nsv : sb ≠ va := Exa.neArv Eb Ba (Wd34 hw)
 have nxs : x ≠ sb := own_exa_ne Es Eb (by decide)
 have nxv : x ≠ va := Exa.neArv Es Ba (Wd5 hw)
 have nst : sb ≠ ta := Exa.neArv Eb Ks (Wd34 hw)
 have nxt : x ≠ ta := Exa.neArv Es Ks (Wd5 hw)
 refine oTo s₁ (fr_aapp m sb x 10 .unset [(.ref x)]) (fun t kt => ?_) ?_
 ·refine XS.aloadN X0.here hx rfl (D d10_0) rfl rfl ?_
  refine XS.ifnonnullYes X0.here hx rfl (pc0 := 1) (pc' := 9) rfl (D d10_1) rfl (by decide) (by decide) ?_
  refine XS.aloadN X0.here hx rfl (D d10_9) rfl rfl ?_
  exact kt
 obtain ⟨cq21, kq21, q21a, q21b, q21c⟩ := isOf hZ e0 Es
 obtain ⟨vv21, _, ⟨T21, L21, k21, n21⟩, -, X21, ⟨Lc21, hQ21, l21, y21, z21⟩, st21⟩ := X0.virtualBack hx (y := yM4) (z := yM4) hown (mvT hZ (Wd69 hw)) (mvT hZ (Wd70 hw)) (oNf hZ (Wd72 hw)) (mvT hZ (Wd72 hw)) (mvT hZ (Wd71 hw)) (by decide) (backOf (W := 0) (c_leng l Z a0 hw [] x ta kb z us G1 h0 n0 Z0 Es Vs Cs Ks hC.2.2.2.2.2.2.1 O2 P5 X00) hZ (Wd73 hw) (Wd6 hw) (by decide) (by decide)) q21a q21c (g := (fr_aapp m sb x 10 .unset [(.ref x)])) rfl (by rw [hml]; rfl) (Steps.refl _) (argsL := []) (rest := []) (lenOf pd_15 rfl) rfl (oWt rfl) (D d10_10) (fun _ _ => ⟨rfl, e0, oLe rfl, oLe rfl⟩)
 dsimp only [Pt.U, Pt.locs, Pt.cells, Pt.slots] at X21 l21 y21 z21 st21 hQ21
 subst l21 y21 z21
 obtain ⟨rfl, Nq21, Eq21⟩ := hQ21
 have N22 := Fr.app N0 Nq21
 obtain ⟨Lh23, Xh23, Nh23⟩ := oHd 0 0 X21 N22 rfl rfl
 refine ownSt st21 ?_
 clear st21
 show oA p e below _ T21 (fr_aapp m sb x 13 .unset [(.int z)])
 refine oTo T21 (fr_aapp m sb x 16 (vI z) [(.ref sb), (.ref sb)]) (fun t kt => ?_) ?_
 ·refine XS.istoreN Xh23.here hx rfl (D d10_13) rfl (l' := #[vR sb, vR x, vI z]) rfl ?_
  refine XS.aloadN Xh23.here hx rfl (D d10_14) rfl rfl ?_
  refine XS.aloadN Xh23.here hx rfl (D d10_15) rfl rfl ?_
  exact kt
 refine own_getF Xh23 hx hZ hown (host := "") (Or.inl (Wd80 hw)) Via.refl Eq21 Bn (D d10_16) (fun T24 X24 e24 => ?_)
 refine oTo T24 (fr_aapp m sb x 21 (vI z) [(.int (cn + z)), (.ref sb)]) (fun t kt => ?_) ?_
 ·refine XS.iloadN X24.here hx rfl (D d10_19) rfl ?_
  refine XS.iadd X24.here hx rfl (D d10_20) rfl ?_
  exact kt
 show oA p e below _ T24 (fr_aapp m sb x 21 (vI z) [(.int (cn + z)), (.ref sb)])
 rw [hC.2.2.2.2.2.2.2.1]
 obtain ⟨cq25, q25, q25'⟩ := Eb.cell
 obtain ⟨vv25, _, ⟨T25, L25, k25, n25⟩, -, X25, ⟨Lc25, hQ25, l25, y25, z25⟩, st25⟩ := X24.privateBack hx (y := yM13) hown (mvT hZ (Wd82 hw)) (mvT hZ (Wd83 hw)) (mvT hZ (own_selpriv (Wd85 hw) (Wd84 hw) (Wd83 hw) (by decide))) (Cond.privateMethod_at (mvP hZ (Wd84 hw) (args := #[]))) (mvT hZ (Wd86 hw)) (by decide) (backOf (W := 0) (c_ens l Z a0 hw [] sb va kv zb vs cn cm h0 n0 Z0 Eb Bv Bc Bn Ba hC.2.2.2.2.2.2.2.2) hZ (Wd86 hw) (Wd43 hw) (by decide) (by decide)) (g := (fr_aapp m sb x 21 (vI z) [(.int cm), (.ref sb)])) rfl (by rw [hml]; rfl) (Steps.refl _) (a := sb) (by rw [e24]; exact q25) q25' (argsL := [(.int cm)]) (rest := []) (lenOf pd_12 rfl) rfl (oWt rfl) (D d10_21) (fun _ _ => ⟨rfl, e24, oLe rfl, oLe rfl⟩)
 dsimp only [Pt.U, Pt.locs, Pt.cells, Pt.slots] at X25 l25 y25 z25 st25 hQ25
 subst l25 y25 z25
 obtain ⟨rfl, Nq25, Eq25⟩ := hQ25
 have N26 := Fr.app Nh23 Nq25
 obtain ⟨Lh27, Xh27, Nh27⟩ := oHd 0 0 X25 N26 rfl rfl
 refine ownSt st25 ?_
 clear st25
 show oA p e below _ T25 (fr_aapp m sb x 24 (vI z) [])
 refine oTo T25 (fr_aapp m sb x 26 (vI z) [(.ref sb), (.ref sb)]) (fun t kt => ?_) ?_
 ·refine XS.aloadN Xh27.here hx rfl (D d10_24) rfl rfl ?_
  refine XS.aloadN Xh27.here hx rfl (D d10_25) rfl rfl ?_
  exact kt
 refine own_getF Xh27 hx hZ hown (host := "") (Or.inl (Wd80 hw)) Via.refl Eq25 Bn (D d10_26) (fun T28 X28 e28 => ?_)
 refine oTo T28 (fr_aapp m sb x 30 (vI z) [(.ref x), (.int cn), (.ref sb)]) (fun t kt => ?_) ?_
 ·refine XS.aloadN X28.here hx rfl (D d10_29) rfl rfl ?_
  exact kt
 obtain ⟨cq29, q29, q29'⟩ := Eb.cell
 obtain ⟨vv29, _, ⟨T29, L29, k29, n29⟩, -, X29, ⟨Lc29, hQ29, l29, y29, z29⟩, st29⟩ := X28.privateBack hx (y := yM14) hown (mvT hZ (Wd87 hw)) (mvT hZ (Wd88 hw)) (mvT hZ (own_selpriv (Wd90 hw) (Wd89 hw) (Wd88 hw) (by decide))) (Cond.privateMethod_at (mvP hZ (Wd89 hw) (args := #[]))) (mvT hZ (Wd91 hw)) (by decide) (backOf (W := 0) (c_pst l Z a0 hw [] x ta kb z us sb va kv zb vs cn wl cm G1 h0 n0 Z0 Es Vs Cs Ks Eb Bv Bc Bn Ba gb gv ntv hC O2 P5 X00) hZ (Wd91 hw) (Wd43 hw) (by decide) (by decide)) (g := (fr_aapp m sb x 30 (vI z) [(.ref x), (.int cn), (.ref sb)])) rfl (by rw [hml]; rfl) (Steps.refl _) (a := sb) (by rw [e28]; exact q29) q29' (argsL := [(.int cn), (.ref x)]) (rest := []) (lenOf pd_16 rfl) rfl (oWt rfl) (D d10_30) (fun _ _ => ⟨rfl, e28, oLe rfl, oLe rfl⟩)
 dsimp only [Pt.U, Pt.locs, Pt.cells, Pt.slots] at X29 l29 y29 z29 st29 hQ29
 subst l29 y29 z29
 obtain ⟨rfl, Nq29, Kq29, Aq29⟩ := hQ29
 have N30 := Fr.app Nh27 Nq29
 obtain ⟨Lh31, Xh31, Nh31⟩ := oHd 0 0 X29 N30 rfl rfl
 refine ownSt st29 ?_
 clear st29
 show oA p e below _ T29 (fr_aapp m sb x 33 (vI z) [])
 refine oTo T29 (fr_aapp m sb x 35 (vI z) [(.ref sb), (.ref sb)]) (fun t kt => ?_) ?_
 ·refine XS.aloadN Xh31.here hx rfl (D d10_33) rfl rfl ?_
  refine XS.dup Xh31.here hx rfl (D d10_34) rfl rfl ?_
  exact kt
 have f33 := (Bn.keep Kq29 (ninS nsv nin0))
 refine own_getF Xh31 hx hZ hown (host := "") (Or.inl (Wd80 hw)) Via.refl rfl f33 (D d10_35) (fun T32 X32 e32 => ?_)
 refine oTo T32 (fr_aapp m sb x 40 (vI z) [(.int (cn + z)), (.ref sb)]) (fun t kt => ?_) ?_
 ·refine XS.iloadN X32.here hx rfl (D d10_38) rfl ?_
  refine XS.iadd X32.here hx rfl (D d10_39) rfl ?_
  exact kt
 show oA p e below _ T32 (fr_aapp m sb x 40 (vI z) [(.int (cn + z)), (.ref sb)])
 rw [hC.2.2.2.2.2.2.2.1]
 have f35 := (Eb.keep Kq29)
 obtain ⟨T34, h34, X34, e34, W34, st34⟩ := putF X32 hx hZ hown (host := "") (Or.inl (Wd80 hw)) Via.refl e32 f33 f35 (Or.inl (Wd81 hw)) (Wd34 hw) (ty := .int) (by decide) rfl rfl (g := (fr_aapp m sb x 40 (vI z) [(.int cm), (.ref sb)])) rfl rfl (D d10_40)
 have F36 := f33.same W34
 have N37 := Fr.snoc X34 Nh31 gb
 obtain ⟨Lh38, Xh38, Nh38⟩ := oHd 0 0 X34 N37 rfl rfl
 refine ownBy st34 ?_
 clear st34
 show oA p e below _ T34 (fr_aapp m sb x 43 (vI z) [])
 refine oTo T34 (fr_aapp m sb x 44 (vI z) [(.ref sb)]) (fun t kt => ?_) ?_
 ·refine XS.aloadN Xh38.here hx rfl (D d10_43) rfl rfl ?_
  exact kt
 have f39 := (((Keep.refl h0 [sb, va]).trans Kq29 (allS (Or.inl (List.mem_of_getElem? (i := 1) rfl)) all0)).wr W34 (Or.inl (List.mem_of_getElem? (i := 0) rfl)))
 have f40 := (Aq29.other W34 (Ne.symm nsv))
 have f41 := (f35.wr W34)
 have f42 := ((Bv.keep Kq29 (ninS nsv nin0)).other W34 (Or.inr (slot_ne (Or.inl (Wd48 hw)) (Or.inl (Wd81 hw)) (by decide) (t := (.array .byte)) (t' := .int) (by decide) (by decide))))
 have f43 := ((Bc.keep Kq29 (ninS nsv nin0)).other W34 (Or.inr (slot_ne (Or.inl (Wd50 hw)) (Or.inl (Wd81 hw)) (by decide) (t := .byte) (t' := .int) (by decide) (by decide))))
 refine ownRet Xh38 Bd.notSynchronized (v := some (.ref sb)) (fun h => by rw [Bd.returns] at h; cases h) ?_ (oLe rfl) (oLe rfl) (fun fs hr => retOut Xh38 hx Bd.returns rfl (Or.inr (Or.inr (Or.inr (Or.inr ⟨rfl, rfl, rfl⟩)))) (D d10_44) hr)
 show (Q_aapp Z x ta kb z us sb va kv zb vs cn wl cm G1 h0 n0) (some (.ref sb)) T34.heap _
 rw [e34]
 exact ⟨rfl, Nh38, f39, f41, f42, f43, F36, f40⟩
abbrev fr_sapp (m : MethodId) (sb : Addr) (x : Addr) (pc : Nat)  (st : List Value) : JFrame := mkF m pc #[vR sb, vR x] st
def Q_sapp (Z : State) (x : Addr) (ta : Addr) (kb : ClassId) (z : Int32) (us : List Value) (sb : Addr) (va : Addr) (kv : ClassId) (zb : Int32) (vs : List Value) (cn : Int32) (wl : List Value) (cm : Int32) (G1 : Int32) (h0 : Heap) (n0 : Nat) (v : Option Value) (h : Heap) (L : List Loc) : Prop := v = some (.ref sb) ∧ Fr n0 L ∧ Keep h0 h [sb, va] ∧ Exa Z h sb "java/lang/StringBuilder" ∧ Fld Z h sb "java/lang/AbstractStringBuilder" "value" "[B" (.ref va) ∧ Fld Z h sb "java/lang/AbstractStringBuilder" "coder" "B" (iV 0) ∧ Fld Z h sb "java/lang/AbstractStringBuilder" "count" "I" (.int cm) ∧ Arv Z h va kv .byte zb wl (iV 0)
theorem ef_sapp (m : MethodId) (x0 : Addr) (x1 : Addr)  : entryFrame m #[(.ref x0), (.ref x1)] 2 = mkF m 0 #[vR x0, vR x1] [] := by first | (simp [entryFrame, mkF, argsToLocals, Value.category]; done) | rfl
set_option maxRecDepth 65536 in
set_option maxHeartbeats 40000000 in
theorem c_sapp (l : Launch) (Z : State) (a0 : Array Value) (hw : HW a0 Z) (ws : List Jvm.Cond) (x : Addr) (ta : Addr) (kb : ClassId) (z : Int32) (us : List Value) (sb : Addr) (va : Addr) (kv : ClassId) (zb : Int32) (vs : List Value) (cn : Int32) (wl : List Value) (cm : Int32) (G1 : Int32) (h0 : Heap) (n0 : Nat) (Z0 : n0 ≤ h0.size) (Es : Exa Z h0 x "java/lang/String") (Vs : Fld Z h0 x "java/lang/String" "value" "[B" (.ref ta)) (Cs : Fld Z h0 x "java/lang/String" "coder" "B" (iV 0)) (Ks : Arv Z h0 ta kb .byte z us (iV 0)) (Eb : Exa Z h0 sb "java/lang/StringBuilder") (Bv : Fld Z h0 sb "java/lang/AbstractStringBuilder" "value" "[B" (.ref va)) (Bc : Fld Z h0 sb "java/lang/AbstractStringBuilder" "coder" "B" (iV 0)) (Bn : Fld Z h0 sb "java/lang/AbstractStringBuilder" "count" "I" (.int cn)) (Ba : Arv Z h0 va kv .byte zb vs (iV 0)) (gb : n0 ≤ sb) (gv : n0 ≤ va) (ntv : ta ≠ va) (hC : Cpy vs us wl cn z zb cm) (O2 : Sta Z Z.heap "java/lang/String" "COMPACT_STRINGS" "Z" (.int G1)) (P5 : ¬ (G1 = (0 : Int32))) (X00 : Old Z n0 h0) :
  MetFree l yM16 (head1 (Jvm.Cond.code yM16 jdk_67_method_7_code 2 (some (.object "java/lang/StringBuilder")) :: ws) ({ frames := 4, cells := 0, slots := 0, locals := 100 } : Room)) (fun a U => a = #[(.ref sb), (.ref x)] ∧ Z.Warmed39 U.vm ∧ U.heap = h0) (fun _ _ _ _ _ => True) (fun _ U o U' => ∃ v L, o = .returned v ∧ (Q_sapp Z x ta kb z us sb va kv zb vs cn wl cm G1 h0 n0) v U'.heap L ∧ FrameEnd U o U' L ({ frames := 4, cells := 0, slots := 0, locals := 100 } : Room).cells ({ frames := 4, cells := 0, slots := 0, locals := 100 } : Room).slots) := by
 refine MetFree.of_bodySF (plainFor_of_name pn_11) hisR ?_
 intro p e s m args below meth c s₁ Bd hml0 hP hK
 obtain ⟨rfl, hZ, hHp⟩ := hP
 have hx := Bd.exec
 have D := fun {pc : Nat} {r} (h : decode _ pc = r) => hb Bd.bytes h
 have hml : c.maxLocals = 2 := hml0
 have hown : s.vm.findClass "java/lang/StringBuilder" = some m.cls := findClass_of_methodNamed Bd.named
 have hnm := (name_of_methodNamed Bd.named Bd.method).1
 have X0 : Stand p l e ({ frames := 4, cells := 0, slots := 0, locals := 100 } : Room) s m #[(.ref sb), (.ref x)] below meth c s₁ [] 0 0 := Stand.of_body Bd
 have e0 : s₁.heap = h0 := by rw [← hHp, Bd.state]; rfl
 have N0 := Fr.nil n0
 refine ownOut (P := (Q_sapp Z x ta kb z us sb va kv zb vs cn wl cm G1 h0 n0)) ?_
 refine ownBy (A := s₁.setTop (mkF m 0 #[vR sb, vR x] [])) (fun t k => castTop (ef_sapp m sb x) k) ?_
 have nsv : sb ≠ va := Exa.neArv Eb Ba (Wd34 hw)
 have nxs : x ≠ sb := own_exa_ne Es Eb (by decide)
 have nxv : x ≠ va := Exa.neArv Es Ba (Wd5 hw)
 have nst : sb ≠ ta := Exa.neArv Eb Ks (Wd34 hw)
 have nxt : x ≠ ta := Exa.neArv Es Ks (Wd5 hw)
 refine oTo s₁ (fr_sapp m sb x 2  [(.ref x), (.ref sb)]) (fun t kt => ?_) ?_
 ·refine XS.aloadN X0.here hx rfl (D d9_0) rfl rfl ?_
  refine XS.aloadN X0.here hx rfl (D d9_1) rfl rfl ?_
  exact kt
 obtain ⟨vv21, _, ⟨T21, L21, k21, n21⟩, -, X21, ⟨Lc21, hQ21, l21, y21, z21⟩, st21⟩ := superBack X0 hx hZ (y := yM15) hown (Wd64 hw) (own_same (Wd65 hw) (Wd85 hw) rfl (by decide)) (Wd65 hw) (Wd66 hw) (by decide) (backOf (W := 0) (c_aapp l Z a0 hw [] x ta kb z us sb va kv zb vs cn wl cm G1 h0 n0 Z0 Es Vs Cs Ks Eb Bv Bc Bn Ba gb gv ntv hC O2 P5 X00) hZ (Wd68 hw) (Wd43 hw) (by decide) (by decide)) e0 (Ins.self Eb) (g := (fr_sapp m sb x 2  [(.ref x), (.ref sb)])) rfl (by rw [hml]; rfl) (Wd68 hw) (argsL := [(.ref x)]) (rest := []) (lenOf pd_17 rfl) rfl (oWt rfl) (D d9_2) (fun _ _ => ⟨rfl, e0, oLe rfl, oLe rfl⟩)
 dsimp only [Pt.U, Pt.locs, Pt.cells, Pt.slots] at X21 l21 y21 z21 st21 hQ21
 subst l21 y21 z21
 obtain ⟨rfl, Nq21, Kq21, Eq21, Vq21, Cq21, Mq21, Aq21⟩ := hQ21
 have N22 := Fr.app N0 Nq21
 obtain ⟨Lh23, Xh23, Nh23⟩ := oHd 0 0 X21 N22 rfl rfl
 refine ownSt st21 ?_
 clear st21
 show oA p e below _ T21 (fr_sapp m sb x 5  [(.ref sb)])
 refine oTo T21 (fr_sapp m sb x 7  [(.ref sb)]) (fun t kt => ?_) ?_
 ·refine XS.pop Xh23.here hx rfl (D d9_5) rfl rfl ?_
  refine XS.aloadN Xh23.here hx rfl (D d9_6) rfl rfl ?_
  exact kt
 have f24 := ((Keep.refl h0 [sb, va]).trans Kq21 (allS (Or.inl (List.mem_of_getElem? (i := 0) rfl)) (allS (Or.inl (List.mem_of_getElem? (i := 1) rfl)) all0)))
 refine ownRet Xh23 Bd.notSynchronized (v := some (.ref sb)) (fun h => by rw [Bd.returns] at h; cases h) ?_ (oLe rfl) (oLe rfl) (fun fs hr => retOut Xh23 hx Bd.returns rfl (Or.inr (Or.inr (Or.inr (Or.inr ⟨rfl, rfl, rfl⟩)))) (D d9_7) hr)
 show (Q_sapp Z x ta kb z us sb va kv zb vs cn wl cm G1 h0 n0) (some (.ref sb)) T21.heap _
 exact ⟨rfl, Nh23, f24, Eq21, Vq21, Cq21, Mq21, Aq21⟩
def Q_bil (Z : State) (sb : Addr) (va : Addr) (kv : ClassId) (zb : Int32) (vs : List Value) (cn : Int32) (G1 : Int32) (h0 : Heap) (n0 : Nat) (v : Option Value) (h : Heap) (L : List Loc) : Prop := v = some (iV 1) ∧ Fr n0 L ∧ h = h0
theorem ef_bil (m : MethodId) (x0 : Addr)  : entryFrame m #[(.ref x0)] 1 = mkF m 0 #[vR x0] [] := by first | (simp [entryFrame, mkF, argsToLocals, Value.category]; done) | rfl
set_option maxRecDepth 65536 in
set_option maxHeartbeats 40000000 in
theorem c_bil (l : Launch) (Z : State) (a0 : Array Value) (hw : HW a0 Z) (ws : List Jvm.Cond) (sb : Addr) (va : Addr) (kv : ClassId) (zb : Int32) (vs : List Value) (cn : Int32) (G1 : Int32) (h0 : Heap) (n0 : Nat) (Z0 : n0 ≤ h0.size) (Eb : Exa Z h0 sb "java/lang/StringBuilder") (Bv : Fld Z h0 sb "java/lang/AbstractStringBuilder" "value" "[B" (.ref va)) (Bc : Fld Z h0 sb "java/lang/AbstractStringBuilder" "coder" "B" (iV 0)) (Bn : Fld Z h0 sb "java/lang/AbstractStringBuilder" "count" "I" (.int cn)) (Ba : Arv Z h0 va kv .byte zb vs (iV 0)) (O2 : Sta Z Z.heap "java/lang/String" "COMPACT_STRINGS" "Z" (.int G1)) (P5 : ¬ (G1 = (0 : Int32))) (X00 : Old Z n0 h0) :
  MetFree l yM17 (head1 (Jvm.Cond.code yM17 jdk_68_method_68_code 1 (some .boolean) :: ws) ({ frames := 0, cells := 0, slots := 0, locals := 0 } : Room)) (fun a U => a = #[(.ref sb)] ∧ Z.Warmed39 U.vm ∧ U.heap = h0) (fun _ _ _ _ _ => True) (fun _ U o U' => ∃ v L, o = .returned v ∧ (Q_bil Z sb va kv zb vs cn G1 h0 n0) v U'.heap L ∧ FrameEnd U o U' L ({ frames := 0, cells := 0, slots := 0, locals := 0 } : Room).cells ({ frames := 0, cells := 0, slots := 0, locals := 0 } : Room).slots) := by
 refine MetFree.of_bodySF (plainFor_of_name pn_10) hisR ?_
 intro p e s m args below meth c s₁ Bd hml0 hP hK
 obtain ⟨rfl, hZ, hHp⟩ := hP
 have hx := Bd.exec
 have D := fun {pc : Nat} {r} (h : decode _ pc = r) => hb Bd.bytes h
 have hml : c.maxLocals = 1 := hml0
 have hown : s.vm.findClass "java/lang/AbstractStringBuilder" = some m.cls := findClass_of_methodNamed Bd.named
 have hnm := (name_of_methodNamed Bd.named Bd.method).1
 have X0 : Stand p l e ({ frames := 0, cells := 0, slots := 0, locals := 0 } : Room) s m #[(.ref sb)] below meth c s₁ [] 0 0 := Stand.of_body Bd
 have e0 : s₁.heap = h0 := by rw [← hHp, Bd.state]; rfl
 have N0 := Fr.nil n0
 refine ownOut (P := (Q_bil Z sb va kv zb vs cn G1 h0 n0)) ?_
 refine ownBy (A := s₁.setTop (mkF m 0 #[vR sb] [])) (fun t k => castTop (ef_bil m sb) k) ?_
 have nsv : sb ≠ va := Exa.neArv Eb Ba (Wd34 hw)
 refine own_getS X0 hx hZ hown (host := "") (Or.inl (Wd46 hw)) Via.refl e0 (O2.ext X00.2) (D d19_0) (fun T21 X21 e21 => ?_)
 refine oTo T21 (mkF m 7 #[vR sb] [(.ref sb)]) (fun t kt => ?_) ?_
 ·refine XS.ifNo X21.here hx rfl (D d19_3) rfl ((if0 _ _).trans (feq P5).1) ?_
  refine XS.aloadN X21.here hx rfl (D d19_6) rfl rfl ?_
  exact kt
 refine own_getF X21 hx hZ hown (host := "") (Or.inl (Wd49 hw)) Via.refl e21 Bc (D d19_7) (fun T22 X22 e22 => ?_)
 refine oTo T22 (mkF m 18 #[vR sb] [(iV 1)]) (fun t kt => ?_) ?_
 ·refine XS.ifNo X22.here hx rfl (D d19_10) rfl ((if0 _ _).trans (teq ((by decide) : (0 : Int32) = (0 : Int32))).2) ?_
  refine XS.iconst X22.here hx rfl (D d19_13) ?_
  refine XS.goto X22.here hx rfl (pc0 := 14) (pc' := 18) rfl (D d19_14) (by decide) (by decide) ?_
  exact kt
 refine ownRet X22 Bd.notSynchronized (v := some (.int (nar .boolean (1 : Int32)))) (fun h => by rw [Bd.returns] at h; cases h) ?_ (oLe rfl) (oLe rfl) (fun fs hr => retN X22 hx (t := .boolean) Bd.returns (by simp) (D d19_18) hr)
 show (Q_bil Z sb va kv zb vs cn G1 h0 n0) (some (.int (nar .boolean (1 : Int32)))) T22.heap _
 rw [e22]
 exact ⟨rfl, N0, rfl⟩
def Q_cec (Z : State)  (h0 : Heap) (n0 : Nat) (v : Option Value) (h : Heap) (L : List Loc) : Prop := v = some (iV 1) ∧ Fr n0 L ∧ h = h0
theorem ef_cec (m : MethodId) (x0 : Int32)  : entryFrame m #[(.int x0)] 1 = mkF m 0 #[vI x0] [] := by first | (simp [entryFrame, mkF, argsToLocals, Value.category]; done) | rfl
set_option maxRecDepth 65536 in
set_option maxHeartbeats 40000000 in
theorem c_cec (l : Launch) (Z : State) (a0 : Array Value) (hw : HW a0 Z) (ws : List Jvm.Cond)  (h0 : Heap) (n0 : Nat) (Z0 : n0 ≤ h0.size) :
  MetFree l yM18 (head1 (Jvm.Cond.code yM18 jdk_43_method_3_code 1 (some .boolean) :: ws) ({ frames := 0, cells := 0, slots := 0, locals := 0 } : Room)) (fun a U => a = #[(iV 62)] ∧ Z.Warmed39 U.vm ∧ U.heap = h0) (fun _ _ _ _ _ => True) (fun _ U o U' => ∃ v L, o = .returned v ∧ (Q_cec Z  h0 n0) v U'.heap L ∧ FrameEnd U o U' L ({ frames := 0, cells := 0, slots := 0, locals := 0 } : Room).cells ({ frames := 0, cells := 0, slots := 0, locals := 0 } : Room).slots) := by
 refine MetFree.of_bodySF (plainFor_of_name pn_6) hisR ?_
 intro p e s m args below meth c s₁ Bd hml0 hP hK
 obtain ⟨rfl, hZ, hHp⟩ := hP
 have hx := Bd.exec
 have D := fun {pc : Nat} {r} (h : decode _ pc = r) => hb Bd.bytes h
 have hml : c.maxLocals = 1 := hml0
 have hown : s.vm.findClass "java/lang/StringLatin1" = some m.cls := findClass_of_methodNamed Bd.named
 have hnm := (name_of_methodNamed Bd.named Bd.method).1
 have X0 : Stand p l e ({ frames := 0, cells := 0, slots := 0, locals := 0 } : Room) s m #[(iV 62)] below meth c s₁ [] 0 0 := Stand.of_body Bd
 have e0 : s₁.heap = h0 := by rw [← hHp, Bd.state]; rfl
 have N0 := Fr.nil n0
 refine ownOut (P := (Q_cec Z  h0 n0)) ?_
 refine ownBy (A := s₁.setTop (mkF m 0 #[vI 62] [])) (fun t k => castTop (ef_cec m (62 : Int32)) k) ?_
 refine oTo s₁ (mkF m 12 #[vI 62] [(iV 1)]) (fun t kt => ?_) ?_
 ·refine XS.iloadN X0.here hx rfl (D d20_0) rfl ?_
  refine XS.sipush X0.here hx rfl (D d20_1) ?_
  refine XS.icmpNo X0.here hx rfl (D d20_4) rfl (flt ((by decide) : ¬ ((255 : Int32) < (62 : Int32)))).2.2.1 ?_
  refine XS.iconst X0.here hx rfl (D d20_7) ?_
  show Steps p.tables e below (s₁.setTop (mkF m 8 #[vI 62] [(iV 1)])) t
  refine XS.goto X0.here hx rfl (pc0 := 8) (pc' := 12) rfl (D d20_8) (by decide) (by decide) ?_
  exact kt
 refine ownRet X0 Bd.notSynchronized (v := some (.int (nar .boolean (1 : Int32)))) (fun h => by rw [Bd.returns] at h; cases h) ?_ (oLe rfl) (oLe rfl) (fun fs hr => retN X0 hx (t := .boolean) Bd.returns (by simp) (D d20_12) hr)
 show (Q_cec Z  h0 n0) (some (.int (nar .boolean (1 : Int32)))) s₁.heap _
 rw [e0]
 exact ⟨rfl, N0, rfl⟩
abbrev fr_aapc (m : MethodId) (sb : Addr) (pc : Nat)  (st : List Value) : JFrame := mkF m pc #[vR sb, vI 62] st
def Q_aapc (Z : State) (sb : Addr) (va : Addr) (kv : ClassId) (zb : Int32) (vs : List Value) (cn : Int32) (wl : List Value) (cm : Int32) (G1 : Int32) (h0 : Heap) (n0 : Nat) (v : Option Value) (h : Heap) (L : List Loc) : Prop := v = some (.ref sb) ∧ Fr n0 L ∧ Keep h0 h [sb, va] ∧ Exa Z h sb "java/lang/StringBuilder" ∧ Fld Z h sb "java/lang/AbstractStringBuilder" "value" "[B" (.ref va) ∧ Fld Z h sb "java/lang/AbstractStringBuilder" "coder" "B" (iV 0) ∧ Fld Z h sb "java/lang/AbstractStringBuilder" "count" "I" (.int cm) ∧ Arv Z h va kv .byte zb wl (iV 0)
theorem ef_aapc (m : MethodId) (x0 : Addr) (x1 : Int32)  : entryFrame m #[(.ref x0), (.int x1)] 2 = mkF m 0 #[vR x0, vI x1] [] := by first | (simp [entryFrame, mkF, argsToLocals, Value.category]; done) | rfl
set_option maxRecDepth 65536 in
set_option maxHeartbeats 40000000 in
theorem c_aapc (l : Launch) (Z : State) (a0 : Array Value) (hw : HW a0 Z) (ws : List Jvm.Cond) (sb : Addr) (va : Addr) (kv : ClassId) (zb : Int32) (vs : List Value) (cn : Int32) (wl : List Value) (cm : Int32) (G1 : Int32) (h0 : Heap) (n0 : Nat) (Z0 : n0 ≤ h0.size) (Eb : Exa Z h0 sb "java/lang/StringBuilder") (Bv : Fld Z h0 sb "java/lang/AbstractStringBuilder" "value" "[B" (.ref va)) (Bc : Fld Z h0 sb "java/lang/AbstractStringBuilder" "coder" "B" (iV 0)) (Bn : Fld Z h0 sb "java/lang/AbstractStringBuilder" "count" "I" (.int cn)) (Ba : Arv Z h0 va kv .byte zb vs (iV 0)) (gb : n0 ≤ sb) (gv : n0 ≤ va) (hC : Cps vs wl cn zb cm (62 : Int32)) (O2 : Sta Z Z.heap "java/lang/String" "COMPACT_STRINGS" "Z" (.int G1)) (P5 : ¬ (G1 = (0 : Int32))) (X00 : Old Z n0 h0) :
  MetFree l yM19 (head1 (Jvm.Cond.code yM19 jdk_68_method_31_code 2 (some (.object "java/lang/AbstractStringBuilder")) :: ws) ({ frames := 1, cells := 0, slots := 0, locals := 14 } : Room)) (fun a U => a = #[(.ref sb), (iV 62)] ∧ Z.Warmed39 U.vm ∧ U.heap = h0) (fun _ _ _ _ _ => True) (fun _ U o U' => ∃ v L, o = .returned v ∧ (Q_aapc Z sb va kv zb vs cn wl cm G1 h0 n0) v U'.heap L ∧ FrameEnd U o U' L ({ frames := 1, cells := 0, slots := 0, locals := 14 } : Room).cells ({ frames := 1, cells := 0, slots := 0, locals := 14 } : Room).slots) := by
 refine MetFree.of_bodySF (plainFor_of_name pn_10) hisR ?_
 intro p e s m args below meth c s₁ Bd hml0 hP hK
 obtain ⟨rfl, hZ, hHp⟩ := hP
 have hx := Bd.exec
 have D := fun {pc : Nat} {r} (h : decode _ pc = r) => hb Bd.bytes h
 have hml : c.maxLocals = 2 := hml0
 have hown : s.vm.findClass "java/lang/AbstractStringBuilder" = some m.cls := findClass_of_methodNamed Bd.named
 have hnm := (name_of_methodNamed Bd.named Bd.method).1
 have X0 : Stand p l e ({ frames := 1, cells := 0, slots := 0, locals := 14 } : Room) s m #[(.ref sb), (iV 62)] below meth c s₁ [] 0 0 := Stand.of_body Bd
 have e0 : s₁.heap = h0 := by rw [← hHp, Bd.state]; rfl
 have N0 := Fr.nil n0
 refine ownOut (P := (Q_aapc Z sb va kv zb vs cn wl cm G1 h0 n0)) ?_
 refine ownBy (A := s₁.setTop (mkF m 0 #[vR sb, vI 62] [])) (fun t k => castTop (ef_aapc m sb (62 : Int32)) k) ?_
 have nsv : sb ≠ va := Exa.neArv Eb Ba (Wd34 hw)
 refine oTo s₁ (fr_aapc m sb 2  [(.ref sb), (.ref sb)]) (fun t kt => ?_) ?_
 ·refine XS.aloadN X0.here hx rfl (D d18_0) rfl rfl ?_
  refine XS.aloadN X0.here hx rfl (D d18_1) rfl rfl ?_
  exact kt
 refine own_getF X0 hx hZ hown (host := "") (Or.inl (Wd80 hw)) Via.refl e0 Bn (D d18_2) (fun T21 X21 e21 => ?_)
 refine oTo T21 (fr_aapc m sb 7  [(.int (cn + (1 : Int32))), (.ref sb)]) (fun t kt => ?_) ?_
 ·refine XS.iconst X21.here hx rfl (D d18_5) ?_
  refine XS.iadd X21.here hx rfl (D d18_6) rfl ?_
  exact kt
 show oA p e below _ T21 (fr_aapc m sb 7  [(.int (cn + (1 : Int32))), (.ref sb)])
 rw [hC.2.2.2.1]
 obtain ⟨cq22, q22, q22'⟩ := Eb.cell
 obtain ⟨vv22, _, ⟨T22, L22, k22, n22⟩, -, X22, ⟨Lc22, hQ22, l22, y22, z22⟩, st22⟩ := X21.privateBack hx (y := yM13) hown (mvT hZ (Wd82 hw)) (mvT hZ (Wd83 hw)) (mvT hZ (own_selpriv (Wd85 hw) (Wd84 hw) (Wd83 hw) (by decide))) (Cond.privateMethod_at (mvP hZ (Wd84 hw) (args := #[]))) (mvT hZ (Wd86 hw)) (by decide) (backOf (W := 0) (c_ens l Z a0 hw [] sb va kv zb vs cn cm h0 n0 Z0 Eb Bv Bc Bn Ba hC.2.2.2.2) hZ (Wd86 hw) (Wd43 hw) (by decide) (by decide)) (g := (fr_aapc m sb 7  [(.int cm), (.ref sb)])) rfl (by rw [hml]; rfl) (Steps.refl _) (a := sb) (by rw [e21]; exact q22) q22' (argsL := [(.int cm)]) (rest := []) (lenOf pd_12 rfl) rfl (oWt rfl) (D d18_7) (fun _ _ => ⟨rfl, e21, oLe rfl, oLe rfl⟩)
 dsimp only [Pt.U, Pt.locs, Pt.cells, Pt.slots] at X22 l22 y22 z22 st22 hQ22
 subst l22 y22 z22
 obtain ⟨rfl, Nq22, Eq22⟩ := hQ22
 have N23 := Fr.app N0 Nq22
 obtain ⟨Lh24, Xh24, Nh24⟩ := oHd 0 0 X22 N23 rfl rfl
 refine ownSt st22 ?_
 clear st22
 show oA p e below _ T22 (fr_aapc m sb 10  [])
 refine oTo T22 (fr_aapc m sb 11  [(.ref sb)]) (fun t kt => ?_) ?_
 ·refine XS.aloadN Xh24.here hx rfl (D d18_10) rfl rfl ?_
  exact kt
 obtain ⟨cq25, kq25, q25a, q25b, q25c⟩ := isOf hZ Eq22 Eb
 obtain ⟨vv25, _, ⟨T25, L25, k25, n25⟩, -, X25, ⟨Lc25, hQ25, l25, y25, z25⟩, st25⟩ := Xh24.virtualBack hx (y := yM17) (z := yM17) hown (mvT hZ (Wd116 hw)) (mvT hZ (Wd117 hw)) (oNf hZ (Wd119 hw)) (mvT hZ (Wd119 hw)) (mvT hZ (Wd118 hw)) (by decide) (backOf (W := 0) (c_bil l Z a0 hw [] sb va kv zb vs cn G1 h0 n0 Z0 Eb Bv Bc Bn Ba O2 P5 X00) hZ (Wd120 hw) (Wd43 hw) (by decide) (by decide)) q25a q25c (g := (fr_aapc m sb 11  [(.ref sb)])) rfl (by rw [hml]; rfl) (Steps.refl _) (argsL := []) (rest := []) (lenOf pd_8 rfl) rfl (oWt rfl) (D d18_11) (fun _ _ => ⟨rfl, Eq22, oLe rfl, oLe rfl⟩)
 dsimp only [Pt.U, Pt.locs, Pt.cells, Pt.slots] at X25 l25 y25 z25 st25 hQ25
 subst l25 y25 z25
 obtain ⟨rfl, Nq25, Eq25⟩ := hQ25
 have N26 := Fr.app Nh24 Nq25
 obtain ⟨Lh27, Xh27, Nh27⟩ := oHd 0 0 X25 N26 rfl rfl
 refine ownSt st25 ?_
 clear st25
 show oA p e below _ T25 (fr_aapc m sb 14  [(iV 1)])
 refine oTo T25 (fr_aapc m sb 18  [(iV 62)]) (fun t kt => ?_) ?_
 ·refine XS.ifNo Xh27.here hx rfl (D d18_14) rfl ((if0 _ _).trans (feq ((by decide) : ¬ ((1 : Int32) = (0 : Int32)))).1) ?_
  refine XS.iloadN Xh27.here hx rfl (D d18_17) rfl ?_
  exact kt
 obtain ⟨vv28, _, ⟨T28, L28, k28, n28⟩, -, X28, ⟨Lc28, hQ28, l28, y28, z28⟩, st28⟩ := Jvm.LawKit.callS Xh27 hx (y := yM18) hown (mvT hZ (Wd121 hw)) (mvT hZ (Wd122 hw)) (mvT hZ (Wd123 hw)) (mvT hZ (Wd124 hw)) (by decide) (backOf (W := 0) (c_cec l Z a0 hw []  h0 n0 Z0 ) hZ (Wd124 hw) (Wd123 hw) (by decide) (by decide)) (g := (fr_aapc m sb 18  [(iV 62)])) rfl (by rw [hml]; rfl) (argsL := [(iV 62)]) (rest := []) (lenOf pd_18 rfl) rfl (oWt rfl) (D d18_18) (fun _ _ => ⟨rfl, Eq25, oLe rfl, oLe rfl⟩)
 dsimp only [Pt.U, Pt.locs, Pt.cells, Pt.slots] at X28 l28 y28 z28 st28 hQ28
 subst l28 y28 z28
 obtain ⟨rfl, Nq28, Eq28⟩ := hQ28
 have N29 := Fr.app Nh27 Nq28
 obtain ⟨Lh30, Xh30, Nh30⟩ := oHd 0 0 X28 N29 rfl rfl
 refine ownBy st28 ?_
 clear st28
 show oA p e below _ T28 (fr_aapc m sb 21  [(iV 1)])
 refine oTo T28 (fr_aapc m sb 25  [(.ref sb)]) (fun t kt => ?_) ?_
 ·refine XS.ifNo Xh30.here hx rfl (D d18_21) rfl ((if0 _ _).trans (feq ((by decide) : ¬ ((1 : Int32) = (0 : Int32)))).1) ?_
  refine XS.aloadN Xh30.here hx rfl (D d18_24) rfl rfl ?_
  exact kt
 refine own_getF Xh30 hx hZ hown (host := "") (Or.inl (Wd47 hw)) Via.refl Eq28 Bv (D d18_25) (fun T31 X31 e31 => ?_)
 refine oTo T31 (fr_aapc m sb 30  [(.ref sb), (.ref sb), (.ref va)]) (fun t kt => ?_) ?_
 ·refine XS.aloadN X31.here hx rfl (D d18_28) rfl rfl ?_
  refine XS.dup X31.here hx rfl (D d18_29) rfl rfl ?_
  exact kt
 refine own_getF X31 hx hZ hown (host := "") (Or.inl (Wd80 hw)) Via.refl e31 Bn (D d18_30) (fun T32 X32 e32 => ?_)
 refine oTo T32 (fr_aapc m sb 36  [(.int (cn + (1 : Int32))), (.ref sb), (.int cn), (.ref va)]) (fun t kt => ?_) ?_
 ·refine XS.dupX1 X32.here hx rfl (D d18_33) rfl rfl rfl ?_
  refine XS.iconst X32.here hx rfl (D d18_34) ?_
  refine XS.iadd X32.here hx rfl (D d18_35) rfl ?_
  exact kt
 show oA p e below _ T32 (fr_aapc m sb 36  [(.int (cn + (1 : Int32))), (.ref sb), (.int cn), (.ref va)])
 rw [hC.2.2.2.1]
 obtain ⟨T33, h33, X33, e33, W33, st33⟩ := putF X32 hx hZ hown (host := "") (Or.inl (Wd80 hw)) Via.refl e32 Bn Eb (Or.inl (Wd81 hw)) (Wd34 hw) (ty := .int) (by decide) rfl rfl (g := (fr_aapc m sb 36  [(.int cm), (.ref sb), (.int cn), (.ref va)])) rfl rfl (D d18_36)
 have F34 := Bn.same W33
 have N35 := Fr.snoc X33 Nh30 gb
 obtain ⟨Lh36, Xh36, Nh36⟩ := oHd 0 0 X33 N35 rfl rfl
 refine ownBy st33 ?_
 clear st33
 show oA p e below _ T33 (fr_aapc m sb 39  [(.int cn), (.ref va)])
 refine oTo T33 (fr_aapc m sb 41  [(iV 62), (.int cn), (.ref va)]) (fun t kt => ?_) ?_
 ·refine XS.iloadN Xh36.here hx rfl (D d18_39) rfl ?_
  refine XS.i2b Xh36.here hx rfl (D d18_40) rfl ?_
  exact kt
 have f37 := (Ba.other W33 (Ne.symm nsv))
 obtain ⟨cl38, Ar38, q38, S38, N38, H38, G38⟩ := id f37
 have hin38 : ¬ (cn < 0 ∨ cl38.slots.size ≤ (cn).toNatClampNeg) := inb_of S38 hC.1
 obtain ⟨T38, h38, X38, e38, W38, st38⟩ := stB Xh36 hx hZ e33 Ar38 (j := cn) hin38 (g := (fr_aapc m sb 41  [(iV 62), (.int cn), (.ref va)])) rfl rfl (D d18_41)
 have V39 : Arv Z h38 va kv .byte zb (vs.set (cn.toNatClampNeg) (.int (nar .byte (62 : Int32)))) (iV 0) := Arv.set Ar38 q38 S38 N38 H38 G38 (fits_nar_byte _) W38 (cn.toNatClampNeg) rfl hC.2.1
 rw [own_nl_byte_62] at V39
 have N40 := Fr.snoc X38 Nh36 gv
 obtain ⟨Lh41, Xh41, Nh41⟩ := oHd 0 0 X38 N40 rfl rfl
 refine ownBy st38 ?_
 clear st38
 show oA p e below _ T38 (fr_aapc m sb 42  [])
 refine oTo T38 (fr_aapc m sb 76  [(.ref sb)]) (fun t kt => ?_) ?_
 ·refine XS.goto Xh41.here hx rfl (pc0 := 42) (pc' := 75) rfl (D d18_42) (by decide) (by decide) ?_
  refine XS.aloadN Xh41.here hx rfl (D d18_75) rfl rfl ?_
  exact kt
 have f42 := (((Keep.refl h0 [sb, va]).wr W33 (Or.inl (List.mem_of_getElem? (i := 0) rfl))).wr W38 (Or.inl (List.mem_of_getElem? (i := 1) rfl)))
 have f43 := (F34.other W38 (Or.inl nsv))
 have f44 := ((Eb.wr W33).wr W38)
 have f45 := ((Bv.other W33 (Or.inr (slot_ne (Or.inl (Wd48 hw)) (Or.inl (Wd81 hw)) (by decide) (t := (.array .byte)) (t' := .int) (by decide) (by decide)))).other W38 (Or.inl nsv))
 have f46 := ((Bc.other W33 (Or.inr (slot_ne (Or.inl (Wd50 hw)) (Or.inl (Wd81 hw)) (by decide) (t := .byte) (t' := .int) (by decide) (by decide)))).other W38 (Or.inl nsv))
 refine ownRet Xh41 Bd.notSynchronized (v := some (.ref sb)) (fun h => by rw [Bd.returns] at h; cases h) ?_ (oLe rfl) (oLe rfl) (fun fs hr => retOut Xh41 hx Bd.returns rfl (Or.inr (Or.inr (Or.inr (Or.inr ⟨rfl, rfl, rfl⟩)))) (D d18_76) hr)
 show (Q_aapc Z sb va kv zb vs cn wl cm G1 h0 n0) (some (.ref sb)) T38.heap _
 rw [e38]
 exact ⟨rfl, Nh41, f42, f44, f45, f46, f43, (hC.2.2.1 ▸ V39)⟩
abbrev fr_sapc (m : MethodId) (sb : Addr) (pc : Nat)  (st : List Value) : JFrame := mkF m pc #[vR sb, vI 62] st
def Q_sapc (Z : State) (sb : Addr) (va : Addr) (kv : ClassId) (zb : Int32) (vs : List Value) (cn : Int32) (wl : List Value) (cm : Int32) (G1 : Int32) (h0 : Heap) (n0 : Nat) (v : Option Value) (h : Heap) (L : List Loc) : Prop := v = some (.ref sb) ∧ Fr n0 L ∧ Keep h0 h [sb, va] ∧ Exa Z h sb "java/lang/StringBuilder" ∧ Fld Z h sb "java/lang/AbstractStringBuilder" "value" "[B" (.ref va) ∧ Fld Z h sb "java/lang/AbstractStringBuilder" "coder" "B" (iV 0) ∧ Fld Z h sb "java/lang/AbstractStringBuilder" "count" "I" (.int cm) ∧ Arv Z h va kv .byte zb wl (iV 0)
theorem ef_sapc (m : MethodId) (x0 : Addr) (x1 : Int32)  : entryFrame m #[(.ref x0), (.int x1)] 2 = mkF m 0 #[vR x0, vI x1] [] := by first | (simp [entryFrame, mkF, argsToLocals, Value.category]; done) | rfl
set_option maxRecDepth 65536 in
set_option maxHeartbeats 40000000 in
theorem c_sapc (l : Launch) (Z : State) (a0 : Array Value) (hw : HW a0 Z) (ws : List Jvm.Cond) (sb : Addr) (va : Addr) (kv : ClassId) (zb : Int32) (vs : List Value) (cn : Int32) (wl : List Value) (cm : Int32) (G1 : Int32) (h0 : Heap) (n0 : Nat) (Z0 : n0 ≤ h0.size) (Eb : Exa Z h0 sb "java/lang/StringBuilder") (Bv : Fld Z h0 sb "java/lang/AbstractStringBuilder" "value" "[B" (.ref va)) (Bc : Fld Z h0 sb "java/lang/AbstractStringBuilder" "coder" "B" (iV 0)) (Bn : Fld Z h0 sb "java/lang/AbstractStringBuilder" "count" "I" (.int cn)) (Ba : Arv Z h0 va kv .byte zb vs (iV 0)) (gb : n0 ≤ sb) (gv : n0 ≤ va) (hC : Cps vs wl cn zb cm (62 : Int32)) (O2 : Sta Z Z.heap "java/lang/String" "COMPACT_STRINGS" "Z" (.int G1)) (P5 : ¬ (G1 = (0 : Int32))) (X00 : Old Z n0 h0) :
  MetFree l yM20 (head1 (Jvm.Cond.code yM20 jdk_67_method_14_code 2 (some (.object "java/lang/StringBuilder")) :: ws) ({ frames := 2, cells := 0, slots := 0, locals := 30 } : Room)) (fun a U => a = #[(.ref sb), (iV 62)] ∧ Z.Warmed39 U.vm ∧ U.heap = h0) (fun _ _ _ _ _ => True) (fun _ U o U' => ∃ v L, o = .returned v ∧ (Q_sapc Z sb va kv zb vs cn wl cm G1 h0 n0) v U'.heap L ∧ FrameEnd U o U' L ({ frames := 2, cells := 0, slots := 0, locals := 30 } : Room).cells ({ frames := 2, cells := 0, slots := 0, locals := 30 } : Room).slots) := by
 refine MetFree.of_bodySF (plainFor_of_name pn_11) hisR ?_
 intro p e s m args below meth c s₁ Bd hml0 hP hK
 obtain ⟨rfl, hZ, hHp⟩ := hP
 have hx := Bd.exec
 have D := fun {pc : Nat} {r} (h : decode _ pc = r) => hb Bd.bytes h
 have hml : c.maxLocals = 2 := hml0
 have hown : s.vm.findClass "java/lang/StringBuilder" = some m.cls := findClass_of_methodNamed Bd.named
 have hnm := (name_of_methodNamed Bd.named Bd.method).1
 have X0 : Stand p l e ({ frames := 2, cells := 0, slots := 0, locals := 30 } : Room) s m #[(.ref sb), (iV 62)] below meth c s₁ [] 0 0 := Stand.of_body Bd
 have e0 : s₁.heap = h0 := by rw [← hHp, Bd.state]; rfl
 have N0 := Fr.nil n0
 refine ownOut (P := (Q_sapc Z sb va kv zb vs cn wl cm G1 h0 n0)) ?_
 refine ownBy (A := s₁.setTop (mkF m 0 #[vR sb, vI 62] [])) (fun t k => castTop (ef_sapc m sb (62 : Int32)) k) ?_
 have nsv : sb ≠ va := Exa.neArv Eb Ba (Wd34 hw)
 refine oTo s₁ (fr_sapc m sb 2  [(iV 62), (.ref sb)]) (fun t kt => ?_) ?_
 ·refine XS.aloadN X0.here hx rfl (D d17_0) rfl rfl ?_
  refine XS.iloadN X0.here hx rfl (D d17_1) rfl ?_
  exact kt
 obtain ⟨vv21, _, ⟨T21, L21, k21, n21⟩, -, X21, ⟨Lc21, hQ21, l21, y21, z21⟩, st21⟩ := superBack X0 hx hZ (y := yM19) hown (Wd112 hw) (own_same (Wd113 hw) (Wd85 hw) rfl (by decide)) (Wd113 hw) (Wd66 hw) (by decide) (backOf (W := 0) (c_aapc l Z a0 hw [] sb va kv zb vs cn wl cm G1 h0 n0 Z0 Eb Bv Bc Bn Ba gb gv hC O2 P5 X00) hZ (Wd115 hw) (Wd43 hw) (by decide) (by decide)) e0 (Ins.self Eb) (g := (fr_sapc m sb 2  [(iV 62), (.ref sb)])) rfl (by rw [hml]; rfl) (Wd115 hw) (argsL := [(iV 62)]) (rest := []) (lenOf pd_19 rfl) rfl (oWt rfl) (D d17_2) (fun _ _ => ⟨rfl, e0, oLe rfl, oLe rfl⟩)
 dsimp only [Pt.U, Pt.locs, Pt.cells, Pt.slots] at X21 l21 y21 z21 st21 hQ21
 subst l21 y21 z21
 obtain ⟨rfl, Nq21, Kq21, Eq21, Vq21, Cq21, Mq21, Aq21⟩ := hQ21
 have N22 := Fr.app N0 Nq21
 obtain ⟨Lh23, Xh23, Nh23⟩ := oHd 0 0 X21 N22 rfl rfl
 refine ownSt st21 ?_
 clear st21
 show oA p e below _ T21 (fr_sapc m sb 5  [(.ref sb)])
 refine oTo T21 (fr_sapc m sb 7  [(.ref sb)]) (fun t kt => ?_) ?_
 ·refine XS.pop Xh23.here hx rfl (D d17_5) rfl rfl ?_
  refine XS.aloadN Xh23.here hx rfl (D d17_6) rfl rfl ?_
  exact kt
 have f24 := ((Keep.refl h0 [sb, va]).trans Kq21 (allS (Or.inl (List.mem_of_getElem? (i := 0) rfl)) (allS (Or.inl (List.mem_of_getElem? (i := 1) rfl)) all0)))
 refine ownRet Xh23 Bd.notSynchronized (v := some (.ref sb)) (fun h => by rw [Bd.returns] at h; cases h) ?_ (oLe rfl) (oLe rfl) (fun fs hr => retOut Xh23 hx Bd.returns rfl (Or.inr (Or.inr (Or.inr (Or.inr ⟨rfl, rfl, rfl⟩)))) (D d17_7) hr)
 show (Q_sapc Z sb va kv zb vs cn wl cm G1 h0 n0) (some (.ref sb)) T21.heap _
 exact ⟨rfl, Nh23, f24, Eq21, Vq21, Cq21, Mq21, Aq21⟩
def Q_gtv (Z : State) (sb : Addr) (va : Addr) (kv : ClassId) (zb : Int32) (vs : List Value) (cn : Int32) (h0 : Heap) (n0 : Nat) (v : Option Value) (h : Heap) (L : List Loc) : Prop := v = some (.ref va) ∧ Fr n0 L ∧ h = h0
theorem ef_gtv (m : MethodId) (x0 : Addr)  : entryFrame m #[(.ref x0)] 1 = mkF m 0 #[vR x0] [] := by first | (simp [entryFrame, mkF, argsToLocals, Value.category]; done) | rfl
set_option maxRecDepth 65536 in
set_option maxHeartbeats 40000000 in
theorem c_gtv (l : Launch) (Z : State) (a0 : Array Value) (hw : HW a0 Z) (ws : List Jvm.Cond) (sb : Addr) (va : Addr) (kv : ClassId) (zb : Int32) (vs : List Value) (cn : Int32) (h0 : Heap) (n0 : Nat) (Z0 : n0 ≤ h0.size) (Eb : Exa Z h0 sb "java/lang/StringBuilder") (Bv : Fld Z h0 sb "java/lang/AbstractStringBuilder" "value" "[B" (.ref va)) (Bc : Fld Z h0 sb "java/lang/AbstractStringBuilder" "coder" "B" (iV 0)) (Bn : Fld Z h0 sb "java/lang/AbstractStringBuilder" "count" "I" (.int cn)) (Ba : Arv Z h0 va kv .byte zb vs (iV 0)) :
  MetFree l yM21 (head1 (Jvm.Cond.code yM21 jdk_68_method_64_code 1 (some (.array .byte)) :: ws) ({ frames := 0, cells := 0, slots := 0, locals := 0 } : Room)) (fun a U => a = #[(.ref sb)] ∧ Z.Warmed39 U.vm ∧ U.heap = h0) (fun _ _ _ _ _ => True) (fun _ U o U' => ∃ v L, o = .returned v ∧ (Q_gtv Z sb va kv zb vs cn h0 n0) v U'.heap L ∧ FrameEnd U o U' L ({ frames := 0, cells := 0, slots := 0, locals := 0 } : Room).cells ({ frames := 0, cells := 0, slots := 0, locals := 0 } : Room).slots) := by
 refine MetFree.of_bodySF (plainFor_of_name pn_10) hisR ?_
 intro p e s m args below meth c s₁ Bd hml0 hP hK
 obtain ⟨rfl, hZ, hHp⟩ := hP
 have hx := Bd.exec
 have D := fun {pc : Nat} {r} (h : decode _ pc = r) => hb Bd.bytes h
 have hml : c.maxLocals = 1 := hml0
 have hown : s.vm.findClass "java/lang/AbstractStringBuilder" = some m.cls := findClass_of_methodNamed Bd.named
 have hnm := (name_of_methodNamed Bd.named Bd.method).1
 have X0 : Stand p l e ({ frames := 0, cells := 0, slots := 0, locals := 0 } : Room) s m #[(.ref sb)] below meth c s₁ [] 0 0 := Stand.of_body Bd
 have e0 : s₁.heap = h0 := by rw [← hHp, Bd.state]; rfl
 have N0 := Fr.nil n0
 refine ownOut (P := (Q_gtv Z sb va kv zb vs cn h0 n0)) ?_
 refine ownBy (A := s₁.setTop (mkF m 0 #[vR sb] [])) (fun t k => castTop (ef_gtv m sb) k) ?_
 have nsv : sb ≠ va := Exa.neArv Eb Ba (Wd34 hw)
 refine oTo s₁ (mkF m 1 #[vR sb] [(.ref sb)]) (fun t kt => ?_) ?_
 ·refine XS.aloadN X0.here hx rfl (D d25_0) rfl rfl ?_
  exact kt
 refine own_getF X0 hx hZ hown (host := "") (Or.inl (Wd47 hw)) Via.refl e0 Bv (D d25_1) (fun T21 X21 e21 => ?_)
 refine ownRet X21 Bd.notSynchronized (v := some (.ref va)) (fun h => by rw [Bd.returns] at h; cases h) ?_ (oLe rfl) (oLe rfl) (fun fs hr => retOut X21 hx Bd.returns rfl (Or.inr (Or.inr (Or.inr (Or.inr ⟨rfl, rfl, rfl⟩)))) (D d25_4) hr)
 show (Q_gtv Z sb va kv zb vs cn h0 n0) (some (.ref va)) T21.heap _
 rw [e21]
 exact ⟨rfl, N0, rfl⟩
def Q_ble (Z : State) (sb : Addr) (va : Addr) (kv : ClassId) (zb : Int32) (vs : List Value) (cn : Int32) (h0 : Heap) (n0 : Nat) (v : Option Value) (h : Heap) (L : List Loc) : Prop := v = some (.int cn) ∧ Fr n0 L ∧ h = h0
theorem ef_ble (m : MethodId) (x0 : Addr)  : entryFrame m #[(.ref x0)] 1 = mkF m 0 #[vR x0] [] := by first | (simp [entryFrame, mkF, argsToLocals, Value.category]; done) | rfl
set_option maxRecDepth 65536 in
set_option maxHeartbeats 40000000 in
theorem c_ble (l : Launch) (Z : State) (a0 : Array Value) (hw : HW a0 Z) (ws : List Jvm.Cond) (sb : Addr) (va : Addr) (kv : ClassId) (zb : Int32) (vs : List Value) (cn : Int32) (h0 : Heap) (n0 : Nat) (Z0 : n0 ≤ h0.size) (Eb : Exa Z h0 sb "java/lang/StringBuilder") (Bv : Fld Z h0 sb "java/lang/AbstractStringBuilder" "value" "[B" (.ref va)) (Bc : Fld Z h0 sb "java/lang/AbstractStringBuilder" "coder" "B" (iV 0)) (Bn : Fld Z h0 sb "java/lang/AbstractStringBuilder" "count" "I" (.int cn)) (Ba : Arv Z h0 va kv .byte zb vs (iV 0)) :
  MetFree l yM22 (head1 (Jvm.Cond.code yM22 jdk_68_method_6_code 1 (some .int) :: ws) ({ frames := 0, cells := 0, slots := 0, locals := 0 } : Room)) (fun a U => a = #[(.ref sb)] ∧ Z.Warmed39 U.vm ∧ U.heap = h0) (fun _ _ _ _ _ => True) (fun _ U o U' => ∃ v L, o = .returned v ∧ (Q_ble Z sb va kv zb vs cn h0 n0) v U'.heap L ∧ FrameEnd U o U' L ({ frames := 0, cells := 0, slots := 0, locals := 0 } : Room).cells ({ frames := 0, cells := 0, slots := 0, locals := 0 } : Room).slots) := by
 refine MetFree.of_bodySF (plainFor_of_name pn_10) hisR ?_
 intro p e s m args below meth c s₁ Bd hml0 hP hK
 obtain ⟨rfl, hZ, hHp⟩ := hP
 have hx := Bd.exec
 have D := fun {pc : Nat} {r} (h : decode _ pc = r) => hb Bd.bytes h
 have hml : c.maxLocals = 1 := hml0
 have hown : s.vm.findClass "java/lang/AbstractStringBuilder" = some m.cls := findClass_of_methodNamed Bd.named
 have hnm := (name_of_methodNamed Bd.named Bd.method).1
 have X0 : Stand p l e ({ frames := 0, cells := 0, slots := 0, locals := 0 } : Room) s m #[(.ref sb)] below meth c s₁ [] 0 0 := Stand.of_body Bd
 have e0 : s₁.heap = h0 := by rw [← hHp, Bd.state]; rfl
 have N0 := Fr.nil n0
 refine ownOut (P := (Q_ble Z sb va kv zb vs cn h0 n0)) ?_
 refine ownBy (A := s₁.setTop (mkF m 0 #[vR sb] [])) (fun t k => castTop (ef_ble m sb) k) ?_
 have nsv : sb ≠ va := Exa.neArv Eb Ba (Wd34 hw)
 refine oTo s₁ (mkF m 1 #[vR sb] [(.ref sb)]) (fun t kt => ?_) ?_
 ·refine XS.aloadN X0.here hx rfl (D d27_0) rfl rfl ?_
  exact kt
 refine own_getF X0 hx hZ hown (host := "") (Or.inl (Wd80 hw)) Via.refl e0 Bn (D d27_1) (fun T21 X21 e21 => ?_)
 refine ownRet X21 Bd.notSynchronized (v := some (.int cn)) (fun h => by rw [Bd.returns] at h; cases h) ?_ (oLe rfl) (oLe rfl) (fun fs hr => retI X21 hx Bd.returns (D d27_4) hr)
 show (Q_ble Z sb va kv zb vs cn h0 n0) (some (.int cn)) T21.heap _
 rw [e21]
 exact ⟨rfl, N0, rfl⟩
def Q_sle (Z : State) (sb : Addr) (va : Addr) (kv : ClassId) (zb : Int32) (vs : List Value) (cn : Int32) (h0 : Heap) (n0 : Nat) (v : Option Value) (h : Heap) (L : List Loc) : Prop := v = some (.int cn) ∧ Fr n0 L ∧ h = h0
theorem ef_sle (m : MethodId) (x0 : Addr)  : entryFrame m #[(.ref x0)] 1 = mkF m 0 #[vR x0] [] := by first | (simp [entryFrame, mkF, argsToLocals, Value.category]; done) | rfl
set_option maxRecDepth 65536 in
set_option maxHeartbeats 40000000 in
theorem c_sle (l : Launch) (Z : State) (a0 : Array Value) (hw : HW a0 Z) (ws : List Jvm.Cond) (sb : Addr) (va : Addr) (kv : ClassId) (zb : Int32) (vs : List Value) (cn : Int32) (h0 : Heap) (n0 : Nat) (Z0 : n0 ≤ h0.size) (Eb : Exa Z h0 sb "java/lang/StringBuilder") (Bv : Fld Z h0 sb "java/lang/AbstractStringBuilder" "value" "[B" (.ref va)) (Bc : Fld Z h0 sb "java/lang/AbstractStringBuilder" "coder" "B" (iV 0)) (Bn : Fld Z h0 sb "java/lang/AbstractStringBuilder" "count" "I" (.int cn)) (Ba : Arv Z h0 va kv .byte zb vs (iV 0)) :
  MetFree l yM23 (head1 (Jvm.Cond.code yM23 jdk_67_method_93_code 1 (some .int) :: ws) ({ frames := 1, cells := 0, slots := 0, locals := 12 } : Room)) (fun a U => a = #[(.ref sb)] ∧ Z.Warmed39 U.vm ∧ U.heap = h0) (fun _ _ _ _ _ => True) (fun _ U o U' => ∃ v L, o = .returned v ∧ (Q_sle Z sb va kv zb vs cn h0 n0) v U'.heap L ∧ FrameEnd U o U' L ({ frames := 1, cells := 0, slots := 0, locals := 12 } : Room).cells ({ frames := 1, cells := 0, slots := 0, locals := 12 } : Room).slots) := by
 refine MetFree.of_bodySF (plainFor_of_name pn_11) hisR ?_
 intro p e s m args below meth c s₁ Bd hml0 hP hK
 obtain ⟨rfl, hZ, hHp⟩ := hP
 have hx := Bd.exec
 have D := fun {pc : Nat} {r} (h : decode _ pc = r) => hb Bd.bytes h
 have hml : c.maxLocals = 1 := hml0
 have hown : s.vm.findClass "java/lang/StringBuilder" = some m.cls := findClass_of_methodNamed Bd.named
 have hnm := (name_of_methodNamed Bd.named Bd.method).1
 have X0 : Stand p l e ({ frames := 1, cells := 0, slots := 0, locals := 12 } : Room) s m #[(.ref sb)] below meth c s₁ [] 0 0 := Stand.of_body Bd
 have e0 : s₁.heap = h0 := by rw [← hHp, Bd.state]; rfl
 have N0 := Fr.nil n0
 refine ownOut (P := (Q_sle Z sb va kv zb vs cn h0 n0)) ?_
 refine ownBy (A := s₁.setTop (mkF m 0 #[vR sb] [])) (fun t k => castTop (ef_sle m sb) k) ?_
 have nsv : sb ≠ va := Exa.neArv Eb Ba (Wd34 hw)
 refine oTo s₁ (mkF m 1 #[vR sb] [(.ref sb)]) (fun t kt => ?_) ?_
 ·refine XS.aloadN X0.here hx rfl (D d26_0) rfl rfl ?_
  exact kt
 obtain ⟨vv21, _, ⟨T21, L21, k21, n21⟩, -, X21, ⟨Lc21, hQ21, l21, y21, z21⟩, st21⟩ := superBack X0 hx hZ (y := yM22) hown (Wd153 hw) (own_same (Wd149 hw) (Wd85 hw) rfl (by decide)) (Wd149 hw) (Wd66 hw) (by decide) (backOf (W := 0) (c_ble l Z a0 hw [] sb va kv zb vs cn h0 n0 Z0 Eb Bv Bc Bn Ba) hZ (Wd154 hw) (Wd43 hw) (by decide) (by decide)) e0 (Ins.self Eb) (g := (mkF m 1 #[vR sb] [(.ref sb)])) rfl (by rw [hml]; rfl) (Wd154 hw) (argsL := []) (rest := []) (lenOf pd_15 rfl) rfl (oWt rfl) (D d26_1) (fun _ _ => ⟨rfl, e0, oLe rfl, oLe rfl⟩)
 dsimp only [Pt.U, Pt.locs, Pt.cells, Pt.slots] at X21 l21 y21 z21 st21 hQ21
 subst l21 y21 z21
 obtain ⟨rfl, Nq21, Eq21⟩ := hQ21
 have N22 := Fr.app N0 Nq21
 obtain ⟨Lh23, Xh23, Nh23⟩ := oHd 0 0 X21 N22 rfl rfl
 refine ownSt st21 ?_
 clear st21
 show oA p e below _ T21 (mkF m 4 #[vR sb] [(.int cn)])
 refine ownRet Xh23 Bd.notSynchronized (v := some (.int cn)) (fun h => by rw [Bd.returns] at h; cases h) ?_ (oLe rfl) (oLe rfl) (fun fs hr => retI Xh23 hx Bd.returns (D d26_4) hr)
 show (Q_sle Z sb va kv zb vs cn h0 n0) (some (.int cn)) T21.heap _
 rw [Eq21]
 exact ⟨rfl, Nh23, rfl⟩
def Q_ckl (Z : State) (cn : Int32) (h0 : Heap) (n0 : Nat) (v : Option Value) (h : Heap) (L : List Loc) : Prop := v = none ∧ Fr n0 L ∧ h = h0
theorem ef_ckl (m : MethodId) (x0 : Int32) (x1 : Int32)  : entryFrame m #[(.int x0), (.int x1)] 2 = mkF m 0 #[vI x0, vI x1] [] := by first | (simp [entryFrame, mkF, argsToLocals, Value.category]; done) | rfl
set_option maxRecDepth 65536 in
set_option maxHeartbeats 40000000 in
theorem c_ckl (l : Launch) (Z : State) (a0 : Array Value) (hw : HW a0 Z) (ws : List Jvm.Cond) (cn : Int32) (h0 : Heap) (n0 : Nat) (Z0 : n0 ≤ h0.size) (h2 : ¬ cn < (0 : Int32)) :
  MetFree l yM24 (head1 (Jvm.Cond.code yM24 jdk_65_method_131_code 2 none :: ws) ({ frames := 0, cells := 0, slots := 0, locals := 0 } : Room)) (fun a U => a = #[(iV 0), (.int cn)] ∧ Z.Warmed39 U.vm ∧ U.heap = h0) (fun _ _ _ _ _ => True) (fun _ U o U' => ∃ v L, o = .returned v ∧ (Q_ckl Z cn h0 n0) v U'.heap L ∧ FrameEnd U o U' L ({ frames := 0, cells := 0, slots := 0, locals := 0 } : Room).cells ({ frames := 0, cells := 0, slots := 0, locals := 0 } : Room).slots) := by
 refine MetFree.of_bodySF (plainFor_of_name pn_20) hisR ?_
 intro p e s m args below meth c s₁ Bd hml0 hP hK
 obtain ⟨rfl, hZ, hHp⟩ := hP
 have hx := Bd.exec
 have D := fun {pc : Nat} {r} (h : decode _ pc = r) => hb Bd.bytes h
 have hml : c.maxLocals = 2 := hml0
 have hown : s.vm.findClass "java/util/Arrays" = some m.cls := findClass_of_methodNamed Bd.named
 have hnm := (name_of_methodNamed Bd.named Bd.method).1
 have X0 : Stand p l e ({ frames := 0, cells := 0, slots := 0, locals := 0 } : Room) s m #[(iV 0), (.int cn)] below meth c s₁ [] 0 0 := Stand.of_body Bd
 have e0 : s₁.heap = h0 := by rw [← hHp, Bd.state]; rfl
 have N0 := Fr.nil n0
 refine ownOut (P := (Q_ckl Z cn h0 n0)) ?_
 refine ownBy (A := s₁.setTop (mkF m 0 #[vI 0, vI cn] [])) (fun t k => castTop (ef_ckl m (0 : Int32) cn) k) ?_
 refine oTo s₁ (mkF m 37 #[vI 0, vI cn] []) (fun t kt => ?_) ?_
 ·refine XS.iloadN X0.here hx rfl (D d30_0) rfl ?_
  refine XS.iloadN X0.here hx rfl (D d30_1) rfl ?_
  refine XS.icmpYes X0.here hx rfl (pc0 := 2) (pc' := 37) rfl (D d30_2) rfl (flt h2).2.1 (by decide) (by decide) ?_
  exact kt
 refine ownRet X0 Bd.notSynchronized (v := none) (fun _ => rfl) ?_ (oLe rfl) (oLe rfl) (fun fs hr => X0.returnOut hx Bd.returns (D d30_37) hr)
 show (Q_ckl Z cn h0 n0) (none) s₁.heap _
 rw [e0]
 exact ⟨rfl, N0, rfl⟩
def Q_mmn (Z : State) (m1 : Int32) (m2 : Int32) (h0 : Heap) (n0 : Nat) (v : Option Value) (h : Heap) (L : List Loc) : Prop := v = some (.int m2) ∧ Fr n0 L ∧ h = h0
theorem ef_mmn (m : MethodId) (x0 : Int32) (x1 : Int32)  : entryFrame m #[(.int x0), (.int x1)] 2 = mkF m 0 #[vI x0, vI x1] [] := by first | (simp [entryFrame, mkF, argsToLocals, Value.category]; done) | rfl
set_option maxRecDepth 65536 in
set_option maxHeartbeats 40000000 in
theorem c_mmn (l : Launch) (Z : State) (a0 : Array Value) (hw : HW a0 Z) (ws : List Jvm.Cond) (m1 : Int32) (m2 : Int32) (h0 : Heap) (n0 : Nat) (Z0 : n0 ≤ h0.size) (hm : m2 < m1) :
  MetFree l yM25 (head1 (Jvm.Cond.code yM25 jdk_29_method_69_code 2 (some .int) :: ws) ({ frames := 0, cells := 0, slots := 0, locals := 0 } : Room)) (fun a U => a = #[(.int m1), (.int m2)] ∧ Z.Warmed39 U.vm ∧ U.heap = h0) (fun _ _ _ _ _ => True) (fun _ U o U' => ∃ v L, o = .returned v ∧ (Q_mmn Z m1 m2 h0 n0) v U'.heap L ∧ FrameEnd U o U' L ({ frames := 0, cells := 0, slots := 0, locals := 0 } : Room).cells ({ frames := 0, cells := 0, slots := 0, locals := 0 } : Room).slots) := by
 refine MetFree.of_bodySF (Jvm.Free.JP.mathPlain rfl (by decide +kernel)) hisR ?_
 intro p e s m args below meth c s₁ Bd hml0 hP hK
 obtain ⟨rfl, hZ, hHp⟩ := hP
 have hx := Bd.exec
 have D := fun {pc : Nat} {r} (h : decode _ pc = r) => hb Bd.bytes h
 have hml : c.maxLocals = 2 := hml0
 have hown : s.vm.findClass "java/lang/Math" = some m.cls := findClass_of_methodNamed Bd.named
 have hnm := (name_of_methodNamed Bd.named Bd.method).1
 have X0 : Stand p l e ({ frames := 0, cells := 0, slots := 0, locals := 0 } : Room) s m #[(.int m1), (.int m2)] below meth c s₁ [] 0 0 := Stand.of_body Bd
 have e0 : s₁.heap = h0 := by rw [← hHp, Bd.state]; rfl
 have N0 := Fr.nil n0
 refine ownOut (P := (Q_mmn Z m1 m2 h0 n0)) ?_
 refine ownBy (A := s₁.setTop (mkF m 0 #[vI m1, vI m2] [])) (fun t k => castTop (ef_mmn m m1 m2) k) ?_
 refine oTo s₁ (mkF m 10 #[vI m1, vI m2] [(.int m2)]) (fun t kt => ?_) ?_
 ·refine XS.iloadN X0.here hx rfl (D d31_0) rfl ?_
  refine XS.iloadN X0.here hx rfl (D d31_1) rfl ?_
  refine XS.icmpYes X0.here hx rfl (pc0 := 2) (pc' := 9) rfl (D d31_2) rfl (tlt hm).2.2.1 (by decide) (by decide) ?_
  refine XS.iloadN X0.here hx rfl (D d31_9) rfl ?_
  exact kt
 refine ownRet X0 Bd.notSynchronized (v := some (.int m2)) (fun h => by rw [Bd.returns] at h; cases h) ?_ (oLe rfl) (oLe rfl) (fun fs hr => retI X0 hx Bd.returns (D d31_10) hr)
 show (Q_mmn Z m1 m2 h0 n0) (some (.int m2)) s₁.heap _
 rw [e0]
 exact ⟨rfl, N0, rfl⟩
abbrev fr_cob (m : MethodId) (va : Addr) (cn : Int32) (pc : Nat) (x3_ x4_ : Slot) (st : List Value) : JFrame := mkF m pc #[vR va, vI 0, vI cn, x3_, x4_] st
def Q_cob (Z : State) (va : Addr) (kv : ClassId) (zb : Int32) (vs : List Value) (cn : Int32) (rs : List Value) (h0 : Heap) (n0 : Nat) (v : Option Value) (h : Heap) (L : List Loc) : Prop := ∃ (tn : Addr) (kn : ClassId), v = some (.ref tn) ∧ Fr n0 L ∧ Keep h0 h [] ∧ h0.size ≤ tn ∧ Arv Z h tn kn .byte cn rs (iV 0)
theorem ef_cob (m : MethodId) (x0 : Addr) (x1 : Int32) (x2 : Int32)  : entryFrame m #[(.ref x0), (.int x1), (.int x2)] 5 = mkF m 0 #[vR x0, vI x1, vI x2, .unset, .unset] [] := by first | (simp [entryFrame, mkF, argsToLocals, Value.category]; done) | rfl
set_option maxRecDepth 65536 in
set_option maxHeartbeats 40000000 in
theorem c_cob (l : Launch) (Z : State) (a0 : Array Value) (hw : HW a0 Z) (ws : List Jvm.Cond) (va : Addr) (kv : ClassId) (zb : Int32) (vs : List Value) (cn : Int32) (rs : List Value) (h0 : Heap) (n0 : Nat) (Z0 : n0 ≤ h0.size) (Ba : Arv Z h0 va kv .byte zb vs (iV 0)) (hC : Cor vs rs cn zb 16) :
  MetFree l yM26 (head1 (Jvm.Cond.code yM26 jdk_65_method_133_code 5 (some (.array .byte)) :: ws) ({ frames := 1, cells := 1, slots := 16, locals := 40 } : Room)) (fun a U => a = #[(.ref va), (iV 0), (.int cn)] ∧ Z.Warmed39 U.vm ∧ U.heap = h0) (fun _ _ _ _ _ => True) (fun _ U o U' => ∃ v L, o = .returned v ∧ (Q_cob Z va kv zb vs cn rs h0 n0) v U'.heap L ∧ FrameEnd U o U' L ({ frames := 1, cells := 1, slots := 16, locals := 40 } : Room).cells ({ frames := 1, cells := 1, slots := 16, locals := 40 } : Room).slots) := by
 refine MetFree.of_bodySF (plainFor_of_name pn_20) hisR ?_
 intro p e s m args below meth c s₁ Bd hml0 hP hK
 obtain ⟨rfl, hZ, hHp⟩ := hP
 have hx := Bd.exec
 have D := fun {pc : Nat} {r} (h : decode _ pc = r) => hb Bd.bytes h
 have hml : c.maxLocals = 5 := hml0
 have hown : s.vm.findClass "java/util/Arrays" = some m.cls := findClass_of_methodNamed Bd.named
 have hnm := (name_of_methodNamed Bd.named Bd.method).1
 have X0 : Stand p l e ({ frames := 1, cells := 1, slots := 16, locals := 40 } : Room) s m #[(.ref va), (iV 0), (.int cn)] below meth c s₁ [] 0 0 := Stand.of_body Bd
 have e0 : s₁.heap = h0 := by rw [← hHp, Bd.state]; rfl
 have N0 := Fr.nil n0
 refine ownOut (P := (Q_cob Z va kv zb vs cn rs h0 n0)) ?_
 refine ownBy (A := s₁.setTop (mkF m 0 #[vR va, vI 0, vI cn, .unset, .unset] [])) (fun t k => castTop (ef_cob m va (0 : Int32) cn) k) ?_
 refine oTo s₁ (fr_cob m va cn 2 .unset .unset [(.int cn), (iV 0)]) (fun t kt => ?_) ?_
 ·refine XS.iloadN X0.here hx rfl (D d29_0) rfl ?_
  refine XS.iloadN X0.here hx rfl (D d29_1) rfl ?_
  exact kt
 obtain ⟨vv21, _, ⟨T21, L21, k21, n21⟩, -, X21, ⟨Lc21, hQ21, l21, y21, z21⟩, st21⟩ := Jvm.LawKit.callS X0 hx (y := yM24) hown (mvT hZ (Wd163 hw)) (mvT hZ (Wd164 hw)) (mvT hZ (Wd158 hw)) (mvT hZ (Wd165 hw)) (by decide) (backOf (W := 0) (c_ckl l Z a0 hw [] cn h0 n0 Z0 hC.1) hZ (Wd165 hw) (Wd158 hw) (by decide) (by decide)) (g := (fr_cob m va cn 2 .unset .unset [(.int cn), (iV 0)])) rfl (by rw [hml]; rfl) (argsL := [(iV 0), (.int cn)]) (rest := []) (lenOf pd_7 rfl) rfl (oWt rfl) (D d29_2) (fun _ _ => ⟨rfl, e0, oLe rfl, oLe rfl⟩)
 dsimp only [Pt.U, Pt.locs, Pt.cells, Pt.slots] at X21 l21 y21 z21 st21 hQ21
 subst l21 y21 z21
 obtain ⟨rfl, Nq21, Eq21⟩ := hQ21
 have N22 := Fr.app N0 Nq21
 obtain ⟨Lh23, Xh23, Nh23⟩ := oHd 0 0 X21 N22 rfl rfl
 refine ownBy st21 ?_
 clear st21
 show oA p e below _ T21 (fr_cob m va cn 5 .unset .unset [])
 refine oTo T21 (fr_cob m va cn 9 (.val (.int (cn - (0 : Int32)))) .unset []) (fun t kt => ?_) ?_
 ·refine XS.iloadN Xh23.here hx rfl (D d29_5) rfl ?_
  refine XS.iloadN Xh23.here hx rfl (D d29_6) rfl ?_
  refine XS.isub Xh23.here hx rfl (D d29_7) rfl ?_
  refine XS.istoreN Xh23.here hx rfl (D d29_8) rfl (l' := #[vR va, vI 0, vI cn, .val (.int (cn - (0 : Int32))), .unset]) rfl ?_
  exact kt
 show oA p e below _ T21 (fr_cob m va cn 9 (.val (.int (cn - (0 : Int32)))) .unset [])
 rw [own_sub0 cn]
 refine oTo T21 (fr_cob m va cn 10 (vI cn) .unset [(.int cn)]) (fun t kt => ?_) ?_
 ·refine XS.iloadN Xh23.here hx rfl (D d29_9) rfl ?_
  exact kt
 obtain ⟨T24, h24, k24, X24, e24, E24, A24, st24⟩ := newP Xh23 hx hZ (aty := .byte) (Wd19 hw) Eq21 (g := (fr_cob m va cn 10 (vI cn) .unset [(.int cn)])) rfl (D d29_10) rfl hC.1 (cap := 16) hC.2.2.2.2.1 (by decide) (by decide) (by decide)
 obtain ⟨b24, g24⟩ : ∃ z, z = h0.size := ⟨_, rfl⟩
 rw [← g24] at A24 st24
 have ne25 : va ≠ b24 := Nat.ne_of_lt (Nat.lt_of_lt_of_le Ba.lt (Nat.le_of_eq g24.symm))
 have g26 : n0 ≤ b24 := Nat.le_trans Z0 (Nat.le_of_eq g24.symm)
 have z27 : h0.size ≤ b24 := Nat.le_trans (Nat.le_refl h0.size) (Nat.le_of_eq g24.symm)
 have V28 : Arv Z h24 b24 k24 .byte cn ([] ++ List.replicate cn.toNatClampNeg (iV 0)) (iV 0) := (Arv.new A24 hC.1).pad (pad_rep [] (iV 0) _)
 refine ownBy st24 ?_
 clear st24
 show oA p e below _ T24 (fr_cob m va cn 12 (vI cn) .unset [(.ref b24)])
 refine oTo T24 (fr_cob m va cn 20 (vI cn) (vR b24) [(.ref va), (iV 0), (.ref b24), (iV 0), (.ref va)]) (fun t kt => ?_) ?_
 ·refine XS.astore X24.here hx rfl (D d29_12) rfl rfl (l' := #[vR va, vI 0, vI cn, vI cn, vR b24]) rfl ?_
  refine XS.aloadN X24.here hx rfl (D d29_14) rfl rfl ?_
  refine XS.iloadN X24.here hx rfl (D d29_15) rfl ?_
  refine XS.aload X24.here hx rfl (D d29_16) rfl rfl ?_
  show Steps p.tables e below (T24.setTop (fr_cob m va cn 18 (vI cn) (vR b24) [(.ref b24), (iV 0), (.ref va)])) t
  refine XS.iconst X24.here hx rfl (D d29_18) ?_
  refine XS.aloadN X24.here hx rfl (D d29_19) rfl rfl ?_
  exact kt
 have f29 := (Ba.ext E24)
 obtain ⟨cl30, Ar30, -, S30, N30, -, -⟩ := id f29
 have st30 := X24.arraylength hx (by rw [e24]; exact Ar30.1) (State.isArrayOf_alike hZ.alike Ar30.2.1) (g := (fr_cob m va cn 20 (vI cn) (vR b24) [(.ref va), (iV 0), (.ref b24), (iV 0), (.ref va)])) rfl rfl (D d29_20)
 rw [len_of S30 N30] at st30
 refine ownBy st30 ?_
 show oA p e below _ T24 (fr_cob m va cn 21 (vI cn) (vR b24) [(.int zb), (iV 0), (.ref b24), (iV 0), (.ref va)])
 refine oTo T24 (fr_cob m va cn 23 (vI cn) (vR b24) [(.int (zb - (0 : Int32))), (iV 0), (.ref b24), (iV 0), (.ref va)]) (fun t kt => ?_) ?_
 ·refine XS.iloadN X24.here hx rfl (D d29_21) rfl ?_
  refine XS.isub X24.here hx rfl (D d29_22) rfl ?_
  exact kt
 show oA p e below _ T24 (fr_cob m va cn 23 (vI cn) (vR b24) [(.int (zb - (0 : Int32))), (iV 0), (.ref b24), (iV 0), (.ref va)])
 rw [own_sub0 zb]
 refine oTo T24 (fr_cob m va cn 24 (vI cn) (vR b24) [(.int cn), (.int zb), (iV 0), (.ref b24), (iV 0), (.ref va)]) (fun t kt => ?_) ?_
 ·refine XS.iloadN X24.here hx rfl (D d29_23) rfl ?_
  exact kt
 have f31 := (Nat.le_trans Z0 E24.1)
 obtain ⟨vv32, _, ⟨T32, L32, k32, n32⟩, -, X32, ⟨Lc32, hQ32, l32, y32, z32⟩, st32⟩ := Jvm.LawKit.callS X24 hx (y := yM25) hown (mvT hZ (Wd166 hw)) (mvT hZ (Wd167 hw)) (mvT hZ (Wd168 hw)) (mvT hZ (Wd169 hw)) (by decide) (backOf (W := 4) (c_mmn l Z a0 hw [] zb cn h24 n0 f31 hC.2.2.1) hZ (Wd169 hw) (Wd168 hw) (by decide) (by decide)) (g := (fr_cob m va cn 24 (vI cn) (vR b24) [(.int cn), (.int zb), (iV 0), (.ref b24), (iV 0), (.ref va)])) rfl (by rw [hml]; rfl) (argsL := [(.int zb), (.int cn)]) (rest := [(iV 0), (.ref b24), (iV 0), (.ref va)]) (lenOf pd_21 rfl) rfl (oWt rfl) (D d29_24) (fun _ _ => ⟨rfl, e24, oLe rfl, oLe rfl⟩)
 dsimp only [Pt.U, Pt.locs, Pt.cells, Pt.slots] at X32 l32 y32 z32 st32 hQ32
 subst l32 y32 z32
 obtain ⟨rfl, Nq32, Eq32⟩ := hQ32
 have N33 := Fr.app Nh23 Nq32
 obtain ⟨Lh34, Xh34, Nh34⟩ := oHd 1 16 X32 N33 rfl rfl
 refine ownBy st32 ?_
 clear st32
 show oA p e below _ T32 (fr_cob m va cn 27 (vI cn) (vR b24) [(.int cn), (iV 0), (.ref b24), (iV 0), (.ref va)])
 obtain ⟨T35, h35, L35, X35, e35, Nq35, K35, A35, st35⟩ := cpA Xh34 hx hZ hown (Wd170 hw) (Wd106 hw) (Wd104 hw) (Wd105 hw) Eq32 f29 V28 (us := rs) (Or.inl ⟨rfl, rfl⟩) (sp := (0 : Int32)) (dp := (0 : Int32)) (nn := cn) (by decide) (by decide) hC.1 hC.2.2.2.1 (Nat.le_of_eq (Nat.zero_add _)) hC.2.2.2.2.2 (by show 0 + _ ≤ _; simp) Nh34 g26 (g := (fr_cob m va cn 27 (vI cn) (vR b24) [(.int cn), (iV 0), (.ref b24), (iV 0), (.ref va)])) rfl (by rw [hml]; rfl) rfl (D d29_27) (by decide) (W := 0) (oWt rfl) (by decide)
 have V36 : Arv Z h35 b24 k24 .byte cn rs (iV 0) := own_rep _ rs ▸ A35
 refine ownBy st35 ?_
 clear st35
 show oA p e below _ T35 (fr_cob m va cn 30 (vI cn) (vR b24) [])
 refine oTo T35 (fr_cob m va cn 32 (vI cn) (vR b24) [(.ref b24)]) (fun t kt => ?_) ?_
 ·refine XS.aload X35.here hx rfl (D d29_30) rfl rfl ?_
  exact kt
 have f37 := (((Keep.refl h0 []).ext E24).trans K35 (allS (Or.inr z27) all0))
 refine ownRet X35 Bd.notSynchronized (v := some (.ref b24)) (fun h => by rw [Bd.returns] at h; cases h) ?_ (oLe rfl) (oLe rfl) (fun fs hr => retOut X35 hx Bd.returns rfl (Or.inr (Or.inr (Or.inr (Or.inr ⟨rfl, rfl, rfl⟩)))) (D d29_32) hr)
 show (Q_cob Z va kv zb vs cn rs h0 n0) (some (.ref b24)) T35.heap _
 rw [e35]
 exact ⟨b24, k24, rfl, Nq35, f37, z27, V36⟩
abbrev fr_cor (m : MethodId) (va : Addr) (cn : Int32) (pc : Nat)  (st : List Value) : JFrame := mkF m pc #[vR va, vI 0, vI cn] st
def Q_cor (Z : State) (va : Addr) (kv : ClassId) (zb : Int32) (vs : List Value) (cn : Int32) (rs : List Value) (h0 : Heap) (n0 : Nat) (v : Option Value) (h : Heap) (L : List Loc) : Prop := ∃ (tn : Addr) (kn : ClassId), v = some (.ref tn) ∧ Fr n0 L ∧ Keep h0 h [] ∧ h0.size ≤ tn ∧ Arv Z h tn kn .byte cn rs (iV 0)
theorem ef_cor (m : MethodId) (x0 : Addr) (x1 : Int32) (x2 : Int32)  : entryFrame m #[(.ref x0), (.int x1), (.int x2)] 3 = mkF m 0 #[vR x0, vI x1, vI x2] [] := by first | (simp [entryFrame, mkF, argsToLocals, Value.category]; done) | rfl
set_option maxRecDepth 65536 in
set_option maxHeartbeats 40000000 in
theorem c_cor (l : Launch) (Z : State) (a0 : Array Value) (hw : HW a0 Z) (ws : List Jvm.Cond) (va : Addr) (kv : ClassId) (zb : Int32) (vs : List Value) (cn : Int32) (rs : List Value) (h0 : Heap) (n0 : Nat) (Z0 : n0 ≤ h0.size) (Ba : Arv Z h0 va kv .byte zb vs (iV 0)) (hC : Cor vs rs cn zb 16) :
  MetFree l yM27 (head1 (Jvm.Cond.code yM27 jdk_65_method_132_code 3 (some (.array .byte)) :: ws) ({ frames := 2, cells := 1, slots := 16, locals := 60 } : Room)) (fun a U => a = #[(.ref va), (iV 0), (.int cn)] ∧ Z.Warmed39 U.vm ∧ U.heap = h0) (fun _ _ _ _ _ => True) (fun _ U o U' => ∃ v L, o = .returned v ∧ (Q_cor Z va kv zb vs cn rs h0 n0) v U'.heap L ∧ FrameEnd U o U' L ({ frames := 2, cells := 1, slots := 16, locals := 60 } : Room).cells ({ frames := 2, cells := 1, slots := 16, locals := 60 } : Room).slots) := by
 refine MetFree.of_bodySF (plainFor_of_name pn_20) hisR ?_
 intro p e s m args below meth c s₁ Bd hml0 hP hK
 obtain ⟨rfl, hZ, hHp⟩ := hP
 have hx := Bd.exec
 have D := fun {pc : Nat} {r} (h : decode _ pc = r) => hb Bd.bytes h
 have hml : c.maxLocals = 3 := hml0
 have hown : s.vm.findClass "java/util/Arrays" = some m.cls := findClass_of_methodNamed Bd.named
 have hnm := (name_of_methodNamed Bd.named Bd.method).1
 have X0 : Stand p l e ({ frames := 2, cells := 1, slots := 16, locals := 60 } : Room) s m #[(.ref va), (iV 0), (.int cn)] below meth c s₁ [] 0 0 := Stand.of_body Bd
 have e0 : s₁.heap = h0 := by rw [← hHp, Bd.state]; rfl
 have N0 := Fr.nil n0
 refine ownOut (P := (Q_cor Z va kv zb vs cn rs h0 n0)) ?_
 refine ownBy (A := s₁.setTop (mkF m 0 #[vR va, vI 0, vI cn] [])) (fun t k => castTop (ef_cor m va (0 : Int32) cn) k) ?_
 refine oTo s₁ (fr_cor m va cn 6  [(.ref va), (.int cn)]) (fun t kt => ?_) ?_
 ·refine XS.iloadN X0.here hx rfl (D d28_0) rfl ?_
  refine XS.ifNo X0.here hx rfl (D d28_1) rfl ((if0 _ _).trans (teq ((by decide) : (0 : Int32) = (0 : Int32))).2) ?_
  refine XS.iloadN X0.here hx rfl (D d28_4) rfl ?_
  refine XS.aloadN X0.here hx rfl (D d28_5) rfl rfl ?_
  exact kt
 obtain ⟨cl21, Ar21, -, S21, N21, -, -⟩ := id Ba
 have st21 := X0.arraylength hx (by rw [e0]; exact Ar21.1) (State.isArrayOf_alike hZ.alike Ar21.2.1) (g := (fr_cor m va cn 6  [(.ref va), (.int cn)])) rfl rfl (D d28_6)
 rw [len_of S21 N21] at st21
 refine ownBy st21 ?_
 show oA p e below _ s₁ (fr_cor m va cn 7  [(.int zb), (.int cn)])
 refine oTo s₁ (fr_cor m va cn 13  [(.int cn), (iV 0), (.ref va)]) (fun t kt => ?_) ?_
 ·refine XS.icmpNo X0.here hx rfl (D d28_7) rfl (feq hC.2.1).1 ?_
  refine XS.aloadN X0.here hx rfl (D d28_10) rfl rfl ?_
  refine XS.iloadN X0.here hx rfl (D d28_11) rfl ?_
  refine XS.iloadN X0.here hx rfl (D d28_12) rfl ?_
  exact kt
 obtain ⟨vv22, _, ⟨T22, L22, k22, n22⟩, -, X22, ⟨Lc22, hQ22, l22, y22, z22⟩, st22⟩ := Jvm.LawKit.callS X0 hx (y := yM26) hown (mvT hZ (Wd160 hw)) (mvT hZ (Wd161 hw)) (mvT hZ (Wd158 hw)) (mvT hZ (Wd162 hw)) (by decide) (backOf (W := 0) (c_cob l Z a0 hw [] va kv zb vs cn rs h0 n0 Z0 Ba hC) hZ (Wd162 hw) (Wd158 hw) (by decide) (by decide)) (g := (fr_cor m va cn 13  [(.int cn), (iV 0), (.ref va)])) rfl (by rw [hml]; rfl) (argsL := [(.ref va), (iV 0), (.int cn)]) (rest := []) (lenOf pd_22 rfl) rfl (oWt rfl) (D d28_13) (fun _ _ => ⟨rfl, e0, oLe rfl, oLe rfl⟩)
 dsimp only [Pt.U, Pt.locs, Pt.cells, Pt.slots] at X22 l22 y22 z22 st22 hQ22
 subst l22 y22 z22
 obtain ⟨t22, kn22, rfl, Nq22, Kq22, zq22, Aq22⟩ := hQ22
 have ne23 : va ≠ t22 := Nat.ne_of_lt (Nat.lt_of_lt_of_le Ba.lt zq22)
 have g24 : n0 ≤ t22 := Nat.le_trans Z0 zq22
 have z25 : h0.size ≤ t22 := Nat.le_trans (Nat.le_refl h0.size) zq22
 have N26 := Fr.app N0 Nq22
 obtain ⟨Lh27, Xh27, Nh27⟩ := oHd 1 16 X22 N26 rfl rfl
 refine ownBy st22 ?_
 clear st22
 show oA p e below _ T22 (fr_cor m va cn 16  [(.ref t22)])
 have f28 := ((Keep.refl h0 []).trans Kq22 all0)
 refine ownRet Xh27 Bd.notSynchronized (v := some (.ref t22)) (fun h => by rw [Bd.returns] at h; cases h) ?_ (oLe rfl) (oLe rfl) (fun fs hr => retOut Xh27 hx Bd.returns rfl (Or.inr (Or.inr (Or.inr (Or.inr ⟨rfl, rfl, rfl⟩)))) (D d28_16) hr)
 show (Q_cor Z va kv zb vs cn rs h0 n0) (some (.ref t22)) T22.heap _
 exact ⟨t22, kn22, rfl, Nh27, f28, z25, Aq22⟩
abbrev fr_ins2 (m : MethodId) (a1 : Addr) (sb : Addr) (pc : Nat) (x3_ x4_ : Slot) (st : List Value) : JFrame := mkF m pc #[vR a1, vR sb, .val .null, x3_, x4_] st
def Q_ins2 (Z : State) (a1 : Addr) (sb : Addr) (va : Addr) (kv : ClassId) (zb : Int32) (vs : List Value) (cn : Int32) (rs : List Value) (c9 : Value) (G1 : Int32) (h0 : Heap) (n0 : Nat) (v : Option Value) (h : Heap) (L : List Loc) : Prop := v = none ∧ Fr n0 L ∧ Keep h0 h [a1] ∧ ∃ (tn : Addr) (kn : ClassId), h0.size ≤ tn ∧ Exa Z h a1 "java/lang/String" ∧ Fld Z h a1 "java/lang/String" "value" "[B" (.ref tn) ∧ Fld Z h a1 "java/lang/String" "coder" "B" (iV 0) ∧ Arv Z h tn kn .byte cn rs (iV 0)
theorem ef_ins2 (m : MethodId) (x0 : Addr) (x1 : Addr)  : entryFrame m #[(.ref x0), (.ref x1), .null] 5 = mkF m 0 #[vR x0, vR x1, .val .null, .unset, .unset] [] := by first | (simp [entryFrame, mkF, argsToLocals, Value.category]; done) | rfl
set_option maxRecDepth 65536 in
set_option maxHeartbeats 40000000 in
theorem c_ins2 (l : Launch) (Z : State) (a0 : Array Value) (hw : HW a0 Z) (ws : List Jvm.Cond) (a1 : Addr) (sb : Addr) (va : Addr) (kv : ClassId) (zb : Int32) (vs : List Value) (cn : Int32) (rs : List Value) (c9 : Value) (G1 : Int32) (h0 : Heap) (n0 : Nat) (Z0 : n0 ≤ h0.size) (E1 : Exa Z h0 a1 "java/lang/String") (F1 : Fld Z h0 a1 "java/lang/String" "value" "[B" .null) (F2 : Fld Z h0 a1 "java/lang/String" "coder" "B" c9) (g1 : n0 ≤ a1) (Eb : Exa Z h0 sb "java/lang/StringBuilder") (Bv : Fld Z h0 sb "java/lang/AbstractStringBuilder" "value" "[B" (.ref va)) (Bc : Fld Z h0 sb "java/lang/AbstractStringBuilder" "coder" "B" (iV 0)) (Bn : Fld Z h0 sb "java/lang/AbstractStringBuilder" "count" "I" (.int cn)) (Ba : Arv Z h0 va kv .byte zb vs (iV 0)) (hC : Cor vs rs cn zb 16) (O2 : Sta Z Z.heap "java/lang/String" "COMPACT_STRINGS" "Z" (.int G1)) (P5 : ¬ (G1 = (0 : Int32))) (X00 : Old Z n0 h0) :
  MetFree l yM28 (head1 (Jvm.Cond.code yM28 jdk_42_method_150_code 5 none :: ws) ({ frames := 3, cells := 1, slots := 16, locals := 80 } : Room)) (fun a U => a = #[(.ref a1), (.ref sb), .null] ∧ Z.Warmed39 U.vm ∧ U.heap = h0) (fun _ _ _ _ _ => True) (fun _ U o U' => ∃ v L, o = .returned v ∧ (Q_ins2 Z a1 sb va kv zb vs cn rs c9 G1 h0 n0) v U'.heap L ∧ FrameEnd U o U' L ({ frames := 3, cells := 1, slots := 16, locals := 80 } : Room).cells ({ frames := 3, cells := 1, slots := 16, locals := 80 } : Room).slots) := by
 refine MetFree.of_bodySF (plainFor_of_name pn_1) hisR ?_
 intro p e s m args below meth c s₁ Bd hml0 hP hK
 obtain ⟨rfl, hZ, hHp⟩ := hP
 have hx := Bd.exec
 have D := fun {pc : Nat} {r} (h : decode _ pc = r) => hb Bd.bytes h
 have hml : c.maxLocals = 5 := hml0
 have hown : s.vm.findClass "java/lang/String" = some m.cls := findClass_of_methodNamed Bd.named
 have hnm := (name_of_methodNamed Bd.named Bd.method).1
 have X0 : Stand p l e ({ frames := 3, cells := 1, slots := 16, locals := 80 } : Room) s m #[(.ref a1), (.ref sb), .null] below meth c s₁ [] 0 0 := Stand.of_body Bd
 have e0 : s₁.heap = h0 := by rw [← hHp, Bd.state]; rfl
 have N0 := Fr.nil n0
 refine ownOut (P := (Q_ins2 Z a1 sb va kv zb vs cn rs c9 G1 h0 n0)) ?_
 refine ownBy (A := s₁.setTop (mkF m 0 #[vR a1, vR sb, .val .null, .unset, .unset] [])) (fun t k => castTop (ef_ins2 m a1 sb) k) ?_
 have nsv : sb ≠ va := Exa.neArv Eb Ba (Wd34 hw)
 have n1s : a1 ≠ sb := own_exa_ne E1 Eb (by decide)
 have n1v : a1 ≠ va := Exa.neArv E1 Ba (Wd5 hw)
 refine oTo s₁ (fr_ins2 m a1 sb 1 .unset .unset [(.ref a1)]) (fun t kt => ?_) ?_
 ·refine XS.aloadN X0.here hx rfl (D d24_0) rfl rfl ?_
  exact kt
 obtain ⟨T21, X21, e21, st21⟩ := initO X0 hx hZ hown (Wd15 hw) (Wd16 hw) (Wd17 hw) e0 (g := (fr_ins2 m a1 sb 1 .unset .unset [(.ref a1)])) rfl (by rw [hml]; rfl) rfl (D d24_1) (by decide) (W := 0) (oWt rfl) (by decide)
 refine ownBy st21 ?_
 clear st21
 show oA p e below _ T21 (fr_ins2 m a1 sb 4 .unset .unset [])
 refine oTo T21 (fr_ins2 m a1 sb 5 .unset .unset [(.ref sb)]) (fun t kt => ?_) ?_
 ·refine XS.aloadN X21.here hx rfl (D d24_4) rfl rfl ?_
  exact kt
 obtain ⟨cq22, kq22, q22a, q22b, q22c⟩ := isOf hZ e21 Eb
 obtain ⟨vv22, _, ⟨T22, L22, k22, n22⟩, -, X22, ⟨Lc22, hQ22, l22, y22, z22⟩, st22⟩ := X21.virtualBack hx (y := yM21) (z := yM21) hown (mvT hZ (Wd142 hw)) (mvT hZ (Wd143 hw)) (oNf hZ (Wd145 hw)) (mvT hZ (Wd145 hw)) (mvT hZ (Wd144 hw)) (by decide) (backOf (W := 0) (c_gtv l Z a0 hw [] sb va kv zb vs cn h0 n0 Z0 Eb Bv Bc Bn Ba) hZ (Wd146 hw) (Wd43 hw) (by decide) (by decide)) q22a q22c (g := (fr_ins2 m a1 sb 5 .unset .unset [(.ref sb)])) rfl (by rw [hml]; rfl) (Steps.refl _) (argsL := []) (rest := []) (lenOf pd_23 rfl) rfl (oWt rfl) (D d24_5) (fun _ _ => ⟨rfl, e21, oLe rfl, oLe rfl⟩)
 dsimp only [Pt.U, Pt.locs, Pt.cells, Pt.slots] at X22 l22 y22 z22 st22 hQ22
 subst l22 y22 z22
 obtain ⟨rfl, Nq22, Eq22⟩ := hQ22
 have N23 := Fr.app N0 Nq22
 obtain ⟨Lh24, Xh24, Nh24⟩ := oHd 0 0 X22 N23 rfl rfl
 refine ownSt st22 ?_
 clear st22
 show oA p e below _ T22 (fr_ins2 m a1 sb 8 .unset .unset [(.ref va)])
 refine oTo T22 (fr_ins2 m a1 sb 10 (vR va) .unset [(.ref sb)]) (fun t kt => ?_) ?_
 ·refine XS.astoreN Xh24.here hx rfl (D d24_8) rfl rfl (l' := #[vR a1, vR sb, .val .null, vR va, .unset]) rfl ?_
  refine XS.aloadN Xh24.here hx rfl (D d24_9) rfl rfl ?_
  exact kt
 obtain ⟨cq25, kq25, q25a, q25b, q25c⟩ := isOf hZ Eq22 Eb
 obtain ⟨vv25, _, ⟨T25, L25, k25, n25⟩, -, X25, ⟨Lc25, hQ25, l25, y25, z25⟩, st25⟩ := Xh24.virtualBack hx (y := yM22) (z := yM23) hown (mvT hZ (Wd147 hw)) (mvT hZ (Wd148 hw)) (own_nf (args := #[]) (mvT hZ (Wd85 hw)) rfl) (mvT hZ (Wd150 hw)) (mvT hZ (Wd151 hw)) (by decide) (backOf (W := 0) (c_sle l Z a0 hw [] sb va kv zb vs cn h0 n0 Z0 Eb Bv Bc Bn Ba) hZ (Wd152 hw) (Wd35 hw) (by decide) (by decide)) q25a q25c (g := (fr_ins2 m a1 sb 10 (vR va) .unset [(.ref sb)])) rfl (by rw [hml]; rfl) (Steps.refl _) (argsL := []) (rest := []) (lenOf pd_15 rfl) rfl (oWt rfl) (D d24_10) (fun _ _ => ⟨rfl, Eq22, oLe rfl, oLe rfl⟩)
 dsimp only [Pt.U, Pt.locs, Pt.cells, Pt.slots] at X25 l25 y25 z25 st25 hQ25
 subst l25 y25 z25
 obtain ⟨rfl, Nq25, Eq25⟩ := hQ25
 have N26 := Fr.app Nh24 Nq25
 obtain ⟨Lh27, Xh27, Nh27⟩ := oHd 0 0 X25 N26 rfl rfl
 refine ownSt st25 ?_
 clear st25
 show oA p e below _ T25 (fr_ins2 m a1 sb 13 (vR va) .unset [(.int cn)])
 refine oTo T25 (fr_ins2 m a1 sb 16 (vR va) (vI cn) [(.ref sb)]) (fun t kt => ?_) ?_
 ·refine XS.istore Xh27.here hx rfl (D d24_13) rfl (l' := #[vR a1, vR sb, .val .null, vR va, vI cn]) rfl ?_
  refine XS.aloadN Xh27.here hx rfl (D d24_15) rfl rfl ?_
  exact kt
 obtain ⟨cq28, kq28, q28a, q28b, q28c⟩ := isOf hZ Eq25 Eb
 obtain ⟨vv28, _, ⟨T28, L28, k28, n28⟩, -, X28, ⟨Lc28, hQ28, l28, y28, z28⟩, st28⟩ := Xh27.virtualBack hx (y := yM17) (z := yM17) hown (mvT hZ (Wd155 hw)) (mvT hZ (Wd117 hw)) (oNf hZ (Wd119 hw)) (mvT hZ (Wd119 hw)) (mvT hZ (Wd118 hw)) (by decide) (backOf (W := 0) (c_bil l Z a0 hw [] sb va kv zb vs cn G1 h0 n0 Z0 Eb Bv Bc Bn Ba O2 P5 X00) hZ (Wd120 hw) (Wd43 hw) (by decide) (by decide)) q28a q28c (g := (fr_ins2 m a1 sb 16 (vR va) (vI cn) [(.ref sb)])) rfl (by rw [hml]; rfl) (Steps.refl _) (argsL := []) (rest := []) (lenOf pd_8 rfl) rfl (oWt rfl) (D d24_16) (fun _ _ => ⟨rfl, Eq25, oLe rfl, oLe rfl⟩)
 dsimp only [Pt.U, Pt.locs, Pt.cells, Pt.slots] at X28 l28 y28 z28 st28 hQ28
 subst l28 y28 z28
 obtain ⟨rfl, Nq28, Eq28⟩ := hQ28
 have N29 := Fr.app Nh27 Nq28
 obtain ⟨Lh30, Xh30, Nh30⟩ := oHd 0 0 X28 N29 rfl rfl
 refine ownSt st28 ?_
 clear st28
 show oA p e below _ T28 (fr_ins2 m a1 sb 19 (vR va) (vI cn) [(iV 1)])
 refine oTo T28 (fr_ins2 m a1 sb 24 (vR va) (vI cn) [(iV 0), (.ref a1)]) (fun t kt => ?_) ?_
 ·refine XS.ifNo Xh30.here hx rfl (D d24_19) rfl ((if0 _ _).trans (feq ((by decide) : ¬ ((1 : Int32) = (0 : Int32)))).1) ?_
  refine XS.aloadN Xh30.here hx rfl (D d24_22) rfl rfl ?_
  refine XS.iconst Xh30.here hx rfl (D d24_23) ?_
  exact kt
 obtain ⟨T31, h31, X31, e31, W31, st31⟩ := putFN Xh30 hx hZ hown (Wd25 hw) Via.refl Eq28 F2 E1 (Or.inr ⟨(Wd21 hw), rfl, hnm⟩) (Wd5 hw) (ty := .byte) (v' := (iV 0)) (by decide) rfl (fits_nar_byte (0 : Int32)) (g := (fr_ins2 m a1 sb 24 (vR va) (vI cn) [(iV 0), (.ref a1)])) rfl rfl (D d24_24)
 have F32 := F2.same W31
 have N33 := Fr.snoc X31 Nh30 g1
 obtain ⟨Lh34, Xh34, Nh34⟩ := oHd 0 0 X31 N33 rfl rfl
 refine ownBy st31 ?_
 clear st31
 show oA p e below _ T31 (fr_ins2 m a1 sb 27 (vR va) (vI cn) [])
 refine oTo T31 (fr_ins2 m a1 sb 32 (vR va) (vI cn) [(.int cn), (iV 0), (.ref va), (.ref a1)]) (fun t kt => ?_) ?_
 ·refine XS.aloadN Xh34.here hx rfl (D d24_27) rfl rfl ?_
  refine XS.aloadN Xh34.here hx rfl (D d24_28) rfl rfl ?_
  refine XS.iconst Xh34.here hx rfl (D d24_29) ?_
  refine XS.iload Xh34.here hx rfl (D d24_30) rfl ?_
  exact kt
 have f35 := (Ba.other W31 (Ne.symm n1v))
 have f36 := (Nat.le_trans Z0 (Keep.of_wr W31).1)
 obtain ⟨vv37, _, ⟨T37, L37, k37, n37⟩, -, X37, ⟨Lc37, hQ37, l37, y37, z37⟩, st37⟩ := Jvm.LawKit.callS Xh34 hx (y := yM27) hown (mvT hZ (Wd156 hw)) (mvT hZ (Wd157 hw)) (mvT hZ (Wd158 hw)) (mvT hZ (Wd159 hw)) (by decide) (backOf (W := 1) (c_cor l Z a0 hw [] va kv zb vs cn rs h31 n0 f36 f35 hC) hZ (Wd159 hw) (Wd158 hw) (by decide) (by decide)) (g := (fr_ins2 m a1 sb 32 (vR va) (vI cn) [(.int cn), (iV 0), (.ref va), (.ref a1)])) rfl (by rw [hml]; rfl) (argsL := [(.ref va), (iV 0), (.int cn)]) (rest := [(.ref a1)]) (lenOf pd_22 rfl) rfl (oWt rfl) (D d24_32) (fun _ _ => ⟨rfl, e31, oLe rfl, oLe rfl⟩)
 dsimp only [Pt.U, Pt.locs, Pt.cells, Pt.slots] at X37 l37 y37 z37 st37 hQ37
 subst l37 y37 z37
 obtain ⟨t37, kn37, rfl, Nq37, Kq37, zq37, Aq37⟩ := hQ37
 have f39 := (Eb.wr W31)
 have ne38 : sb ≠ t37 := Nat.ne_of_lt (Nat.lt_of_lt_of_le f39.lt zq37)
 have ne40 : va ≠ t37 := Nat.ne_of_lt (Nat.lt_of_lt_of_le f35.lt zq37)
 have f42 := (E1.wr W31)
 have ne41 : a1 ≠ t37 := Nat.ne_of_lt (Nat.lt_of_lt_of_le f42.lt zq37)
 have g43 : n0 ≤ t37 := Nat.le_trans f36 zq37
 have f45 := (Nat.le_trans (Nat.le_refl h0.size) (Keep.of_wr W31).1)
 have z44 : h0.size ≤ t37 := Nat.le_trans f45 zq37
 have N46 := Fr.app Nh34 Nq37
 obtain ⟨Lh47, Xh47, Nh47⟩ := oHd 1 16 X37 N46 rfl rfl
 refine ownBy st37 ?_
 clear st37
 show oA p e below _ T37 (fr_ins2 m a1 sb 35 (vR va) (vI cn) [(.ref t37), (.ref a1)])
 have f49 := ((F1.other W31 (Or.inr (slot_ne (Or.inr (Wd20 hw)) (Or.inr (Wd21 hw)) (by decide) (t := (.array .byte)) (t' := .byte) (by decide) (by decide)))).keep Kq37 nin0)
 have f50 := (f42.keep Kq37)
 obtain ⟨T48, h48, X48, e48, W48, st48⟩ := putF Xh47 hx hZ hown (host := "") (Or.inl (Wd24 hw)) Via.refl rfl f49 f50 (Or.inr ⟨(Wd20 hw), rfl, hnm⟩) (Wd5 hw) (ty := (.array .byte)) (by decide) rfl rfl (g := (fr_ins2 m a1 sb 35 (vR va) (vI cn) [(.ref t37), (.ref a1)])) rfl rfl (D d24_35)
 have F51 := f49.same W48
 have N52 := Fr.snoc X48 Nh47 g1
 obtain ⟨Lh53, Xh53, Nh53⟩ := oHd 1 16 X48 N52 rfl rfl
 refine ownBy st48 ?_
 clear st48
 show oA p e below _ T48 (fr_ins2 m a1 sb 38 (vR va) (vI cn) [])
 refine oTo T48 (fr_ins2 m a1 sb 97 (vR va) (vI cn) []) (fun t kt => ?_) ?_
 ·refine XS.goto Xh53.here hx rfl (pc0 := 38) (pc' := 97) rfl (D d24_38) (by decide) (by decide) ?_
  exact kt
 have f54 := ((((Keep.refl h0 [a1]).wr W31 (Or.inl (List.mem_of_getElem? (i := 0) rfl))).trans Kq37 all0).wr W48 (Or.inl (List.mem_of_getElem? (i := 0) rfl)))
 have f55 := (f50.wr W48)
 have f56 := ((F32.keep Kq37 nin0).other W48 (Or.inr (slot_ne (Or.inr (Wd21 hw)) (Or.inr (Wd20 hw)) (by decide) (t := .byte) (t' := (.array .byte)) (by decide) (by decide))))
 have f57 := (Aq37.other W48 (Ne.symm ne41))
 refine ownRet Xh53 Bd.notSynchronized (v := none) (fun _ => rfl) ?_ (oLe rfl) (oLe rfl) (fun fs hr => Xh53.returnOut hx Bd.returns (D d24_97) hr)
 show (Q_ins2 Z a1 sb va kv zb vs cn rs c9 G1 h0 n0) (none) T48.heap _
 rw [e48]
 exact ⟨rfl, Nh53, f54, t37, kn37, z44, f55, F51, f56, f57⟩
def Q_ins1 (Z : State) (a1 : Addr) (sb : Addr) (va : Addr) (kv : ClassId) (zb : Int32) (vs : List Value) (cn : Int32) (rs : List Value) (c9 : Value) (G1 : Int32) (h0 : Heap) (n0 : Nat) (v : Option Value) (h : Heap) (L : List Loc) : Prop := v = none ∧ Fr n0 L ∧ Keep h0 h [a1] ∧ ∃ (tn : Addr) (kn : ClassId), h0.size ≤ tn ∧ Exa Z h a1 "java/lang/String" ∧ Fld Z h a1 "java/lang/String" "value" "[B" (.ref tn) ∧ Fld Z h a1 "java/lang/String" "coder" "B" (iV 0) ∧ Arv Z h tn kn .byte cn rs (iV 0)
theorem ef_ins1 (m : MethodId) (x0 : Addr) (x1 : Addr)  : entryFrame m #[(.ref x0), (.ref x1)] 2 = mkF m 0 #[vR x0, vR x1] [] := by first | (simp [entryFrame, mkF, argsToLocals, Value.category]; done) | rfl
set_option maxRecDepth 65536 in
set_option maxHeartbeats 40000000 in
theorem c_ins1 (l : Launch) (Z : State) (a0 : Array Value) (hw : HW a0 Z) (ws : List Jvm.Cond) (a1 : Addr) (sb : Addr) (va : Addr) (kv : ClassId) (zb : Int32) (vs : List Value) (cn : Int32) (rs : List Value) (c9 : Value) (G1 : Int32) (h0 : Heap) (n0 : Nat) (Z0 : n0 ≤ h0.size) (E1 : Exa Z h0 a1 "java/lang/String") (F1 : Fld Z h0 a1 "java/lang/String" "value" "[B" .null) (F2 : Fld Z h0 a1 "java/lang/String" "coder" "B" c9) (g1 : n0 ≤ a1) (Eb : Exa Z h0 sb "java/lang/StringBuilder") (Bv : Fld Z h0 sb "java/lang/AbstractStringBuilder" "value" "[B" (.ref va)) (Bc : Fld Z h0 sb "java/lang/AbstractStringBuilder" "coder" "B" (iV 0)) (Bn : Fld Z h0 sb "java/lang/AbstractStringBuilder" "count" "I" (.int cn)) (Ba : Arv Z h0 va kv .byte zb vs (iV 0)) (hC : Cor vs rs cn zb 16) (O2 : Sta Z Z.heap "java/lang/String" "COMPACT_STRINGS" "Z" (.int G1)) (P5 : ¬ (G1 = (0 : Int32))) (X00 : Old Z n0 h0) :
  MetFree l yM29 (head1 (Jvm.Cond.code yM29 jdk_42_method_53_code 2 none :: ws) ({ frames := 4, cells := 1, slots := 16, locals := 100 } : Room)) (fun a U => a = #[(.ref a1), (.ref sb)] ∧ Z.Warmed39 U.vm ∧ U.heap = h0) (fun _ _ _ _ _ => True) (fun _ U o U' => ∃ v L, o = .returned v ∧ (Q_ins1 Z a1 sb va kv zb vs cn rs c9 G1 h0 n0) v U'.heap L ∧ FrameEnd U o U' L ({ frames := 4, cells := 1, slots := 16, locals := 100 } : Room).cells ({ frames := 4, cells := 1, slots := 16, locals := 100 } : Room).slots) := by
 refine MetFree.of_bodySF (plainFor_of_name pn_1) hisR ?_
 intro p e s m args below meth c s₁ Bd hml0 hP hK
 obtain ⟨rfl, hZ, hHp⟩ := hP
 have hx := Bd.exec
 have D := fun {pc : Nat} {r} (h : decode _ pc = r) => hb Bd.bytes h
 have hml : c.maxLocals = 2 := hml0
 have hown : s.vm.findClass "java/lang/String" = some m.cls := findClass_of_methodNamed Bd.named
 have hnm := (name_of_methodNamed Bd.named Bd.method).1
 have X0 : Stand p l e ({ frames := 4, cells := 1, slots := 16, locals := 100 } : Room) s m #[(.ref a1), (.ref sb)] below meth c s₁ [] 0 0 := Stand.of_body Bd
 have e0 : s₁.heap = h0 := by rw [← hHp, Bd.state]; rfl
 have N0 := Fr.nil n0
 refine ownOut (P := (Q_ins1 Z a1 sb va kv zb vs cn rs c9 G1 h0 n0)) ?_
 refine ownBy (A := s₁.setTop (mkF m 0 #[vR a1, vR sb] [])) (fun t k => castTop (ef_ins1 m a1 sb) k) ?_
 have nsv : sb ≠ va := Exa.neArv Eb Ba (Wd34 hw)
 have n1s : a1 ≠ sb := own_exa_ne E1 Eb (by decide)
 have n1v : a1 ≠ va := Exa.neArv E1 Ba (Wd5 hw)
 refine oTo s₁ (mkF m 3 #[vR a1, vR sb] [.null, (.ref sb), (.ref a1)]) (fun t kt => ?_) ?_
 ·refine XS.aloadN X0.here hx rfl (D d23_0) rfl rfl ?_
  refine XS.aloadN X0.here hx rfl (D d23_1) rfl rfl ?_
  refine XS.aconstNull X0.here hx rfl (D d23_2) ?_
  exact kt
 obtain ⟨vv21, _, ⟨T21, L21, k21, n21⟩, -, X21, ⟨Lc21, hQ21, l21, y21, z21⟩, st21⟩ := X0.specialBack hx (y := yM28) rfl hown (mvT hZ (Wd139 hw)) (mvT hZ (Wd140 hw)) (mvT hZ (Wd141 hw)) (by decide) (backOf (W := 0) (c_ins2 l Z a0 hw [] a1 sb va kv zb vs cn rs _ G1 h0 n0 Z0 E1 F1 F2 g1 Eb Bv Bc Bn Ba hC O2 P5 X00) hZ (Wd141 hw) (Wd6 hw) (by decide) (by decide)) (g := (mkF m 3 #[vR a1, vR sb] [.null, (.ref sb), (.ref a1)])) rfl (by rw [hml]; rfl) (Steps.refl _) (a := a1) (argsL := [(.ref sb), .null]) (rest := []) (lenOf pd_24 rfl) rfl (oWt rfl) (D d23_3) (fun _ _ => ⟨rfl, e0, oLe rfl, oLe rfl⟩)
 dsimp only [Pt.U, Pt.locs, Pt.cells, Pt.slots] at X21 l21 y21 z21 st21 hQ21
 subst l21 y21 z21
 obtain ⟨rfl, Nq21, Kq21, t21, kn21, zq21, Eq21, Vq21, Cq21, Aq21⟩ := hQ21
 have ne22 : sb ≠ t21 := Nat.ne_of_lt (Nat.lt_of_lt_of_le Eb.lt zq21)
 have ne23 : va ≠ t21 := Nat.ne_of_lt (Nat.lt_of_lt_of_le Ba.lt zq21)
 have ne24 : a1 ≠ t21 := Nat.ne_of_lt (Nat.lt_of_lt_of_le E1.lt zq21)
 have g25 : n0 ≤ t21 := Nat.le_trans Z0 zq21
 have z26 : h0.size ≤ t21 := Nat.le_trans (Nat.le_refl h0.size) zq21
 have N27 := Fr.app N0 Nq21
 obtain ⟨Lh28, Xh28, Nh28⟩ := oHd 1 16 X21 N27 rfl rfl
 refine ownSt st21 ?_
 clear st21
 show oA p e below _ T21 (mkF m 6 #[vR a1, vR sb] [])
 have f29 := ((Keep.refl h0 [a1]).trans Kq21 (allS (Or.inl (List.mem_of_getElem? (i := 0) rfl)) all0))
 refine ownRet Xh28 Bd.notSynchronized (v := none) (fun _ => rfl) ?_ (oLe rfl) (oLe rfl) (fun fs hr => Xh28.returnOut hx Bd.returns (D d23_6) hr)
 show (Q_ins1 Z a1 sb va kv zb vs cn rs c9 G1 h0 n0) (none) T21.heap _
 exact ⟨rfl, Nh28, f29, t21, kn21, z26, Eq21, Vq21, Cq21, Aq21⟩
abbrev fr_sts (m : MethodId) (sb : Addr) (pc : Nat)  (st : List Value) : JFrame := mkF m pc #[vR sb] st
def Q_sts (Z : State) (sb : Addr) (va : Addr) (kv : ClassId) (zb : Int32) (vs : List Value) (cn : Int32) (rs : List Value) (G1 : Int32) (h0 : Heap) (n0 : Nat) (v : Option Value) (h : Heap) (L : List Loc) : Prop := ∃ (xn tn : Addr) (kn : ClassId), v = some (.ref xn) ∧ Fr n0 L ∧ Keep h0 h [] ∧ h0.size ≤ xn ∧ h0.size ≤ tn ∧ Exa Z h xn "java/lang/String" ∧ Fld Z h xn "java/lang/String" "value" "[B" (.ref tn) ∧ Fld Z h xn "java/lang/String" "coder" "B" (iV 0) ∧ Arv Z h tn kn .byte cn rs (iV 0)
theorem ef_sts (m : MethodId) (x0 : Addr)  : entryFrame m #[(.ref x0)] 1 = mkF m 0 #[vR x0] [] := by first | (simp [entryFrame, mkF, argsToLocals, Value.category]; done) | rfl
set_option maxRecDepth 65536 in
set_option maxHeartbeats 40000000 in
theorem c_sts (l : Launch) (Z : State) (a0 : Array Value) (hw : HW a0 Z) (ws : List Jvm.Cond) (sb : Addr) (va : Addr) (kv : ClassId) (zb : Int32) (vs : List Value) (cn : Int32) (rs : List Value) (G1 : Int32) (h0 : Heap) (n0 : Nat) (Z0 : n0 ≤ h0.size) (Eb : Exa Z h0 sb "java/lang/StringBuilder") (Bv : Fld Z h0 sb "java/lang/AbstractStringBuilder" "value" "[B" (.ref va)) (Bc : Fld Z h0 sb "java/lang/AbstractStringBuilder" "coder" "B" (iV 0)) (Bn : Fld Z h0 sb "java/lang/AbstractStringBuilder" "count" "I" (.int cn)) (Ba : Arv Z h0 va kv .byte zb vs (iV 0)) (hC : Cor vs rs cn zb 16) (O2 : Sta Z Z.heap "java/lang/String" "COMPACT_STRINGS" "Z" (.int G1)) (P5 : ¬ (G1 = (0 : Int32))) (X00 : Old Z n0 h0) :
  MetFree l yM30 (head1 (Jvm.Cond.code yM30 jdk_67_method_42_code 1 (some (.object "java/lang/String")) :: ws) ({ frames := 5, cells := 2, slots := 20, locals := 120 } : Room)) (fun a U => a = #[(.ref sb)] ∧ Z.Warmed39 U.vm ∧ U.heap = h0) (fun _ _ _ _ _ => True) (fun _ U o U' => ∃ v L, o = .returned v ∧ (Q_sts Z sb va kv zb vs cn rs G1 h0 n0) v U'.heap L ∧ FrameEnd U o U' L ({ frames := 5, cells := 2, slots := 20, locals := 120 } : Room).cells ({ frames := 5, cells := 2, slots := 20, locals := 120 } : Room).slots) := by
 refine MetFree.of_bodySF (plainFor_of_name pn_11) hisR ?_
 intro p e s m args below meth c s₁ Bd hml0 hP hK
 obtain ⟨rfl, hZ, hHp⟩ := hP
 have hx := Bd.exec
 have D := fun {pc : Nat} {r} (h : decode _ pc = r) => hb Bd.bytes h
 have hml : c.maxLocals = 1 := hml0
 have hown : s.vm.findClass "java/lang/StringBuilder" = some m.cls := findClass_of_methodNamed Bd.named
 have hnm := (name_of_methodNamed Bd.named Bd.method).1
 have X0 : Stand p l e ({ frames := 5, cells := 2, slots := 20, locals := 120 } : Room) s m #[(.ref sb)] below meth c s₁ [] 0 0 := Stand.of_body Bd
 have e0 : s₁.heap = h0 := by rw [← hHp, Bd.state]; rfl
 have N0 := Fr.nil n0
 refine ownOut (P := (Q_sts Z sb va kv zb vs cn rs G1 h0 n0)) ?_
 refine ownBy (A := s₁.setTop (mkF m 0 #[vR sb] [])) (fun t k => castTop (ef_sts m sb) k) ?_
 have nsv : sb ≠ va := Exa.neArv Eb Ba (Wd34 hw)
 obtain ⟨T21, h21, X21, e21, E21, A21, D21, -, st21⟩ := newO X0 hx hZ hown (Wd135 hw) (Wd5 hw) (Wd6 hw) e0 (g := (fr_sts m sb 0  [])) rfl (D d22_0) (by decide) (by decide)
 obtain ⟨b21, g21⟩ : ∃ z, z = h0.size := ⟨_, rfl⟩
 rw [← g21] at A21 D21 st21
 have ne22 : sb ≠ b21 := Nat.ne_of_lt (Nat.lt_of_lt_of_le Eb.lt (Nat.le_of_eq g21.symm))
 have ne23 : va ≠ b21 := Nat.ne_of_lt (Nat.lt_of_lt_of_le Ba.lt (Nat.le_of_eq g21.symm))
 have g24 : n0 ≤ b21 := Nat.le_trans Z0 (Nat.le_of_eq g21.symm)
 have z25 : h0.size ≤ b21 := Nat.le_trans (Nat.le_refl h0.size) (Nat.le_of_eq g21.symm)
 have F26 : Fld Z h21 b21 "java/lang/String" "value" "[B" .null := D21 (Or.inr (Wd20 hw)) (ty := (.array .byte)) (by decide)
 have F27 : Fld Z h21 b21 "java/lang/String" "coder" "B" (iV 0) := D21 (Or.inr (Wd21 hw)) (ty := .byte) (by decide)
 refine ownBy st21 ?_
 clear st21
 show oA p e below _ T21 (fr_sts m sb 3  [(.ref b21)])
 refine oTo T21 (fr_sts m sb 5  [(.ref sb), (.ref b21), (.ref b21)]) (fun t kt => ?_) ?_
 ·refine XS.dup X21.here hx rfl (D d22_3) rfl rfl ?_
  refine XS.aloadN X21.here hx rfl (D d22_4) rfl rfl ?_
  exact kt
 have f28 := (Eb.ext E21)
 have f29 := (Bv.ext E21)
 have f30 := (Bc.ext E21)
 have f31 := (Bn.ext E21)
 have f32 := (Ba.ext E21)
 have f33 := (X00.ext E21)
 have f34 := (Nat.le_trans Z0 E21.1)
 obtain ⟨vv35, _, ⟨T35, L35, k35, n35⟩, -, X35, ⟨Lc35, hQ35, l35, y35, z35⟩, st35⟩ := X21.specialBack hx (y := yM29) rfl hown (mvT hZ (Wd136 hw)) (mvT hZ (Wd137 hw)) (mvT hZ (Wd138 hw)) (by decide) (backOf (W := 1) (c_ins1 l Z a0 hw [] b21 sb va kv zb vs cn rs _ G1 h21 n0 f34 A21 F26 F27 g24 f28 f29 f30 f31 f32 hC O2 P5 f33) hZ (Wd138 hw) (Wd6 hw) (by decide) (by decide)) (g := (fr_sts m sb 5  [(.ref sb), (.ref b21), (.ref b21)])) rfl (by rw [hml]; rfl) (Steps.refl _) (a := b21) (argsL := [(.ref sb)]) (rest := [(.ref b21)]) (lenOf pd_25 rfl) rfl (oWt rfl) (D d22_5) (fun _ _ => ⟨rfl, e21, oLe rfl, oLe rfl⟩)
 dsimp only [Pt.U, Pt.locs, Pt.cells, Pt.slots] at X35 l35 y35 z35 st35 hQ35
 subst l35 y35 z35
 obtain ⟨rfl, Nq35, Kq35, t35, kn35, zq35, Eq35, Vq35, Cq35, Aq35⟩ := hQ35
 have ne36 : sb ≠ t35 := Nat.ne_of_lt (Nat.lt_of_lt_of_le f28.lt zq35)
 have ne37 : va ≠ t35 := Nat.ne_of_lt (Nat.lt_of_lt_of_le f32.lt zq35)
 have ne38 : b21 ≠ t35 := Nat.ne_of_lt (Nat.lt_of_lt_of_le A21.lt zq35)
 have g39 : n0 ≤ t35 := Nat.le_trans f34 zq35
 have f41 := (Nat.le_trans (Nat.le_refl h0.size) E21.1)
 have z40 : h0.size ≤ t35 := Nat.le_trans f41 zq35
 have N42 := Fr.app N0 Nq35
 obtain ⟨Lh43, Xh43, Nh43⟩ := oHd 2 20 X35 N42 rfl rfl
 refine ownSt st35 ?_
 clear st35
 show oA p e below _ T35 (fr_sts m sb 8  [(.ref b21)])
 have f44 := (((Keep.refl h0 []).ext E21).trans Kq35 (allS (Or.inr z25) all0))
 refine ownRet Xh43 Bd.notSynchronized (v := some (.ref b21)) (fun h => by rw [Bd.returns] at h; cases h) ?_ (oLe rfl) (oLe rfl) (fun fs hr => retOut Xh43 hx Bd.returns rfl (Or.inr (Or.inr (Or.inr (Or.inr ⟨rfl, rfl, rfl⟩)))) (D d22_8) hr)
 show (Q_sts Z sb va kv zb vs cn rs G1 h0 n0) (some (.ref b21)) T35.heap _
 exact ⟨b21, t35, kn35, rfl, Nh43, f44, z25, z40, Eq35, Vq35, Cq35, Aq35⟩
abbrev fr_tag (m : MethodId) (p1 : Int32) (pc : Nat) (x1_ x2_ x3_ x4_ : Slot) (st : List Value) : JFrame := mkF m pc #[vI p1, x1_, x2_, x3_, x4_] st
def Q_tag (Z : State) (p1 : Int32) (G1 : Int32) (h0 : Heap) (n0 : Nat) (v : Option Value) (h : Heap) (L : List Loc) : Prop := ∃ (x ta : Addr) (kb : ClassId) (z : Int32) (us : List Value), v = some (.ref x) ∧ Fr n0 L ∧ Keep h0 h [] ∧ h0.size ≤ x ∧ Exa Z h x "java/lang/String" ∧ Fld Z h x "java/lang/String" "value" "[B" (.ref ta) ∧ Fld Z h x "java/lang/String" "coder" "B" (iV 0) ∧ Arv Z h ta kb .byte z us (iV 0) ∧ Tg z us
theorem ef_tag (m : MethodId) (x0 : Int32)  : entryFrame m #[(.int x0)] 5 = mkF m 0 #[vI x0, .unset, .unset, .unset, .unset] [] := by first | (simp [entryFrame, mkF, argsToLocals, Value.category]; done) | rfl
set_option maxRecDepth 65536 in
set_option maxHeartbeats 40000000 in
theorem c_tag (l : Launch) (Z : State) (a0 : Array Value) (hw : HW a0 Z) (ws : List Jvm.Cond) (p1 : Int32) (G1 : Int32) (h0 : Heap) (n0 : Nat) (Z0 : n0 ≤ h0.size) (O2 : Sta Z Z.heap "java/lang/String" "COMPACT_STRINGS" "Z" (.int G1)) (P5 : ¬ (G1 = (0 : Int32))) (X00 : Old Z n0 h0) :
  MetFree l yM31 (head1 (Jvm.Cond.code yM31 method_3_code 5 (some (.object "java/lang/String")) :: ws) ({ frames := 6, cells := 6, slots := 12, locals := 120 } : Room)) (fun a U => a = #[(.int p1)] ∧ Z.Warmed39 U.vm ∧ U.heap = h0 ∧ CHv Z ownEL U.vm h0) (fun _ _ _ _ _ => True) (fun _ U o U' => ∃ v L, o = .returned v ∧ (Q_tag Z p1 G1 h0 n0) v U'.heap L ∧ CHr Z ownEL U.vm U.heap U'.vm U'.heap ∧ ReturnedEndW U o U' L ({ frames := 6, cells := 6, slots := 12, locals := 120 } : Room).cells ({ frames := 6, cells := 6, slots := 12, locals := 120 } : Room).slots) := by
 refine MetFree.of_bodySF (plainFor_of_name pn_26) hisR ?_
 intro p e s m args below meth c s₁ Bd hml0 hP hK
 obtain ⟨rfl, hZ, hHp, hCH⟩ := hP
 have hx := Bd.exec
 have D := fun {pc : Nat} {r} (h : decode _ pc = r) => hb Bd.bytes h
 have hml : c.maxLocals = 5 := hml0
 have hown : s.vm.findClass "com/example/quayside/quayside/web/HtmlClosePinLaw" = some m.cls := findClass_of_methodNamed Bd.named
 have hnm := (name_of_methodNamed Bd.named Bd.method).1
 have X0 : Stand p l e ({ frames := 6, cells := 6, slots := 12, locals := 120 } : Room) (s.setVm s.vm) m #[(.int p1)] below meth c s₁ [] 0 0 := Stand.of_body Bd
 have e0 : s₁.heap = h0 := by rw [← hHp, Bd.state]; rfl
 have N0 := Fr.nil n0
 refine ownOutH hHp (P := (Q_tag Z p1 G1 h0 n0)) ?_
 refine ownBy (A := s₁.setTop (mkF m 0 #[vI p1, .unset, .unset, .unset, .unset] [])) (fun t k => castTop (ef_tag m p1) k) ?_
 have hS0 : s.Since s.vm h0.size := own_since
 have hEL := own_EW hw
 have R0 := CHr.refl hCH
 have wS := own_wS hw
 have hws : ∀ d ∈ StrChars.Road.words, d.before a0 Z = true := fun d hd => hw d ((by decide +kernel : ∀ d ∈ StrChars.Road.words, d ∈ tables_1) d hd)
 refine oTo s₁ (fr_tag m p1 13 (.val (.int (((p1.toUInt32 >>> ((24 : Int32) &&& 31).toUInt32).toInt32) &&& (3 : Int32)))) .unset .unset .unset [(.int ((p1 &&& (255 : Int32)).toUInt32.toUInt16.toUInt32.toInt32))]) (fun t kt => ?_) ?_
 ·refine XS.iloadN X0.here hx rfl (D d1_0) rfl ?_
  refine XS.bipush X0.here hx rfl (D d1_1) ?_
  refine XS.iushr X0.here hx rfl (D d1_3) rfl ?_
  refine XS.iconst X0.here hx rfl (D d1_4) ?_
  show Steps p.tables e below (s₁.setTop (fr_tag m p1 5 .unset .unset .unset .unset [(iV 3), (.int ((p1.toUInt32 >>> ((24 : Int32) &&& 31).toUInt32).toInt32))])) t
  refine XS.iand X0.here hx rfl (D d1_5) rfl ?_
  refine XS.istoreN X0.here hx rfl (D d1_6) rfl (l' := #[vI p1, .val (.int (((p1.toUInt32 >>> ((24 : Int32) &&& 31).toUInt32).toInt32) &&& (3 : Int32))), .unset, .unset, .unset]) rfl ?_
  refine XS.iloadN X0.here hx rfl (D d1_7) rfl ?_
  refine XS.sipush X0.here hx rfl (D d1_8) ?_
  show Steps p.tables e below (s₁.setTop (fr_tag m p1 11 (.val (.int (((p1.toUInt32 >>> ((24 : Int32) &&& 31).toUInt32).toInt32) &&& (3 : Int32)))) .unset .unset .unset [(iV 255), (.int p1)])) t
  refine XS.iand X0.here hx rfl (D d1_11) rfl ?_
  refine XS.i2c X0.here hx rfl (D d1_12) rfl ?_
  exact kt
 show oA p e below _ s₁ (fr_tag m p1 13 (.val (.int (((p1.toUInt32 >>> ((24 : Int32) &&& 31).toUInt32).toInt32) &&& (3 : Int32)))) .unset .unset .unset [(.int ((p1 &&& (255 : Int32)).toUInt32.toUInt16.toUInt32.toInt32))])
 have hr_q0 : ¬ ((p1 &&& (255 : Int32)).toUInt32.toUInt16.toUInt32.toInt32) < 0 ∧ ¬ (255 : Int32) < ((p1 &&& (255 : Int32)).toUInt32.toUInt16.toUInt32.toInt32) := own_and255p p1
 generalize ((p1 &&& (255 : Int32)).toUInt32.toUInt16.toUInt32.toInt32) = q0 at hr_q0 ⊢
 refine oTo s₁ (fr_tag m p1 23 (.val (.int (((p1.toUInt32 >>> ((24 : Int32) &&& 31).toUInt32).toInt32) &&& (3 : Int32)))) (vI q0) .unset .unset [(.int ((((p1.toUInt32 >>> ((8 : Int32) &&& 31).toUInt32).toInt32) &&& (255 : Int32)).toUInt32.toUInt16.toUInt32.toInt32))]) (fun t kt => ?_) ?_
 ·refine XS.istoreN X0.here hx rfl (D d1_13) rfl (l' := #[vI p1, .val (.int (((p1.toUInt32 >>> ((24 : Int32) &&& 31).toUInt32).toInt32) &&& (3 : Int32))), vI q0, .unset, .unset]) rfl ?_
  refine XS.iloadN X0.here hx rfl (D d1_14) rfl ?_
  refine XS.bipush X0.here hx rfl (D d1_15) ?_
  refine XS.iushr X0.here hx rfl (D d1_17) rfl ?_
  show Steps p.tables e below (s₁.setTop (fr_tag m p1 18 (.val (.int (((p1.toUInt32 >>> ((24 : Int32) &&& 31).toUInt32).toInt32) &&& (3 : Int32)))) (vI q0) .unset .unset [(.int ((p1.toUInt32 >>> ((8 : Int32) &&& 31).toUInt32).toInt32))])) t
  refine XS.sipush X0.here hx rfl (D d1_18) ?_
  refine XS.iand X0.here hx rfl (D d1_21) rfl ?_
  refine XS.i2c X0.here hx rfl (D d1_22) rfl ?_
  exact kt
 show oA p e below _ s₁ (fr_tag m p1 23 (.val (.int (((p1.toUInt32 >>> ((24 : Int32) &&& 31).toUInt32).toInt32) &&& (3 : Int32)))) (vI q0) .unset .unset [(.int ((((p1.toUInt32 >>> ((8 : Int32) &&& 31).toUInt32).toInt32) &&& (255 : Int32)).toUInt32.toUInt16.toUInt32.toInt32))])
 have hr_q1 : ¬ ((((p1.toUInt32 >>> ((8 : Int32) &&& 31).toUInt32).toInt32) &&& (255 : Int32)).toUInt32.toUInt16.toUInt32.toInt32) < 0 ∧ ¬ (255 : Int32) < ((((p1.toUInt32 >>> ((8 : Int32) &&& 31).toUInt32).toInt32) &&& (255 : Int32)).toUInt32.toUInt16.toUInt32.toInt32) := own_and255p ((p1.toUInt32 >>> ((8 : Int32) &&& 31).toUInt32).toInt32)
 generalize ((((p1.toUInt32 >>> ((8 : Int32) &&& 31).toUInt32).toInt32) &&& (255 : Int32)).toUInt32.toUInt16.toUInt32.toInt32) = q1 at hr_q1 ⊢
 refine oTo s₁ (fr_tag m p1 33 (.val (.int (((p1.toUInt32 >>> ((24 : Int32) &&& 31).toUInt32).toInt32) &&& (3 : Int32)))) (vI q0) (vI q1) .unset [(.int ((((p1.toUInt32 >>> ((16 : Int32) &&& 31).toUInt32).toInt32) &&& (255 : Int32)).toUInt32.toUInt16.toUInt32.toInt32))]) (fun t kt => ?_) ?_
 ·refine XS.istoreN X0.here hx rfl (D d1_23) rfl (l' := #[vI p1, .val (.int (((p1.toUInt32 >>> ((24 : Int32) &&& 31).toUInt32).toInt32) &&& (3 : Int32))), vI q0, vI q1, .unset]) rfl ?_
  refine XS.iloadN X0.here hx rfl (D d1_24) rfl ?_
  refine XS.bipush X0.here hx rfl (D d1_25) ?_
  refine XS.iushr X0.here hx rfl (D d1_27) rfl ?_
  show Steps p.tables e below (s₁.setTop (fr_tag m p1 28 (.val (.int (((p1.toUInt32 >>> ((24 : Int32) &&& 31).toUInt32).toInt32) &&& (3 : Int32)))) (vI q0) (vI q1) .unset [(.int ((p1.toUInt32 >>> ((16 : Int32) &&& 31).toUInt32).toInt32))])) t
  refine XS.sipush X0.here hx rfl (D d1_28) ?_
  refine XS.iand X0.here hx rfl (D d1_31) rfl ?_
  refine XS.i2c X0.here hx rfl (D d1_32) rfl ?_
  exact kt
 show oA p e below _ s₁ (fr_tag m p1 33 (.val (.int (((p1.toUInt32 >>> ((24 : Int32) &&& 31).toUInt32).toInt32) &&& (3 : Int32)))) (vI q0) (vI q1) .unset [(.int ((((p1.toUInt32 >>> ((16 : Int32) &&& 31).toUInt32).toInt32) &&& (255 : Int32)).toUInt32.toUInt16.toUInt32.toInt32))])
 have hr_q2 : ¬ ((((p1.toUInt32 >>> ((16 : Int32) &&& 31).toUInt32).toInt32) &&& (255 : Int32)).toUInt32.toUInt16.toUInt32.toInt32) < 0 ∧ ¬ (255 : Int32) < ((((p1.toUInt32 >>> ((16 : Int32) &&& 31).toUInt32).toInt32) &&& (255 : Int32)).toUInt32.toUInt16.toUInt32.toInt32) := own_and255p ((p1.toUInt32 >>> ((16 : Int32) &&& 31).toUInt32).toInt32)
 generalize ((((p1.toUInt32 >>> ((16 : Int32) &&& 31).toUInt32).toInt32) &&& (255 : Int32)).toUInt32.toUInt16.toUInt32.toInt32) = q2 at hr_q2 ⊢
 refine oTo s₁ (fr_tag m p1 36 (.val (.int (((p1.toUInt32 >>> ((24 : Int32) &&& 31).toUInt32).toInt32) &&& (3 : Int32)))) (vI q0) (vI q1) (vI q2) [(.int (((p1.toUInt32 >>> ((24 : Int32) &&& 31).toUInt32).toInt32) &&& (3 : Int32)))]) (fun t kt => ?_) ?_
 ·refine XS.istore X0.here hx rfl (D d1_33) rfl (l' := #[vI p1, .val (.int (((p1.toUInt32 >>> ((24 : Int32) &&& 31).toUInt32).toInt32) &&& (3 : Int32))), vI q0, vI q1, vI q2]) rfl ?_
  refine XS.iloadN X0.here hx rfl (D d1_35) rfl ?_
  exact kt
 by_cases hc21 : (((p1.toUInt32 >>> ((24 : Int32) &&& 31).toUInt32).toInt32) &&& (3 : Int32)) = (0 : Int32)
 ·skip
  refine oTo s₁ (fr_tag m p1 39 (.val (.int (((p1.toUInt32 >>> ((24 : Int32) &&& 31).toUInt32).toInt32) &&& (3 : Int32)))) (vI q0) (vI q1) (vI q2) []) (fun t kt => ?_) ?_
  ·refine XS.ifNo X0.here hx rfl (D d1_36) rfl ((if0 _ _).trans (teq hc21).2) ?_
   exact kt
  obtain ⟨T22, h22, X22, e22, E22, A22, D22, -, st22⟩ := newO X0 hx hZ hown (Wd4 hw) (Wd5 hw) (Wd6 hw) e0 (g := (fr_tag m p1 39 (.val (.int (((p1.toUInt32 >>> ((24 : Int32) &&& 31).toUInt32).toInt32) &&& (3 : Int32)))) (vI q0) (vI q1) (vI q2) [])) rfl (D d1_39) (by decide) (by decide)
  obtain ⟨b22, g22⟩ : ∃ z, z = h0.size := ⟨_, rfl⟩
  rw [← g22] at A22 D22 st22
  have g23 : n0 ≤ b22 := Nat.le_trans Z0 (Nat.le_of_eq g22.symm)
  have sf24 : Safe Z ownEL s.vm h0 b22 := Safe.new (Nat.le_of_eq g22.symm)
  have z25 : h0.size ≤ b22 := Nat.le_trans (Nat.le_refl h0.size) (Nat.le_of_eq g22.symm)
  have R26 := R0.trans (CHr.ext E22 R0.1)
  have sf27 := Safe.ext E22 R0.1 sf24
  have F28 : Fld Z h22 b22 "java/lang/String" "value" "[B" .null := D22 (Or.inr (Wd20 hw)) (ty := (.array .byte)) (by decide)
  have F29 : Fld Z h22 b22 "java/lang/String" "coder" "B" (iV 0) := D22 (Or.inr (Wd21 hw)) (ty := .byte) (by decide)
  refine ownBy st22 ?_
  clear st22
  show oA p e below _ T22 (fr_tag m p1 42 (.val (.int (((p1.toUInt32 >>> ((24 : Int32) &&& 31).toUInt32).toInt32) &&& (3 : Int32)))) (vI q0) (vI q1) (vI q2) [(.ref b22)])
  refine oTo T22 (fr_tag m p1 44 (.val (.int (((p1.toUInt32 >>> ((24 : Int32) &&& 31).toUInt32).toInt32) &&& (3 : Int32)))) (vI q0) (vI q1) (vI q2) [(iV 0), (.ref b22), (.ref b22)]) (fun t kt => ?_) ?_
  ·refine XS.dup X22.here hx rfl (D d1_42) rfl rfl ?_
   refine XS.iconst X22.here hx rfl (D d1_43) ?_
   exact kt
  obtain ⟨T30, h30, k30, X30, e30, E30, A30, st30⟩ := newP X22 hx hZ (aty := .char) (Wd7 hw) e22 (g := (fr_tag m p1 44 (.val (.int (((p1.toUInt32 >>> ((24 : Int32) &&& 31).toUInt32).toInt32) &&& (3 : Int32)))) (vI q0) (vI q1) (vI q2) [(iV 0), (.ref b22), (.ref b22)])) rfl (D d1_44) rfl (by decide : ¬ ((0 : Int32) < (0 : Int32))) (cap := 0) (by decide) (by decide) (by decide) (by decide)
  obtain ⟨b30, g30⟩ : ∃ z, z = h22.size := ⟨_, rfl⟩
  rw [← g30] at A30 st30
  have ne31 : b22 ≠ b30 := Nat.ne_of_lt (Nat.lt_of_lt_of_le A22.lt (Nat.le_of_eq g30.symm))
  have f33 := (Nat.le_trans Z0 E22.1)
  have g32 : n0 ≤ b30 := Nat.le_trans f33 (Nat.le_of_eq g30.symm)
  have sf34 : Safe Z ownEL s.vm h22 b30 := Safe.new (Nat.le_of_eq g30.symm)
  have f36 := (Nat.le_trans (Nat.le_refl h0.size) E22.1)
  have z35 : h0.size ≤ b30 := Nat.le_trans f36 (Nat.le_of_eq g30.symm)
  have R37 := R26.trans (CHr.ext E30 R26.1)
  have sf38 := Safe.ext E30 R26.1 sf27
  have sf39 := Safe.ext E30 R26.1 sf34
  have V40 : Arv Z h30 b30 k30 .char (0 : Int32) [] (iV 0) := Arv.new A30 (by decide)
  refine ownBy st30 ?_
  clear st30
  show oA p e below _ T30 (fr_tag m p1 46 (.val (.int (((p1.toUInt32 >>> ((24 : Int32) &&& 31).toUInt32).toInt32) &&& (3 : Int32)))) (vI q0) (vI q1) (vI q2) [(.ref b30), (.ref b22), (.ref b22)])
  have f41 := (A22.ext E30)
  have f42 := (F28.ext E30)
  have f43 := (F29.ext E30)
  have f44 := (Nat.le_trans f33 E30.1)
  obtain ⟨vv45, _, ⟨T45, L45, k45, n45⟩, -, X45, hS45, hg45, ⟨Lc45, hQ45, l45, y45, z45, hC45⟩, st45⟩ := X30.specialBackS hx (y := yM1) rfl hown (mvT hZ (Wd8 hw)) (mvT hZ (Wd9 hw)) (mvT hZ (Wd10 hw)) (by decide) (backOfSH (W := 1) (s := s) (EL := ownEL) (c_ini0 l Z a0 hw [] b22 b30 _ k30 h30 n0 f44 f41 f42 f43 g23 V40 ne31) hZ (Wd10 hw) (Wd6 hw) (by decide) (by decide) hEL R37.1) (g := (fr_tag m p1 46 (.val (.int (((p1.toUInt32 >>> ((24 : Int32) &&& 31).toUInt32).toInt32) &&& (3 : Int32)))) (vI q0) (vI q1) (vI q2) [(.ref b30), (.ref b22), (.ref b22)])) rfl (by rw [hml]; rfl) (Steps.refl _) (a := b22) (argsL := [(.ref b30)]) (rest := [(.ref b22)]) (lenOf pd_27 rfl) rfl (oWt rfl) (D d1_46) (fun _ _ => ⟨rfl, e30, oLe rfl, oLe rfl⟩)
  dsimp only [Pt.U, Pt.locs, Pt.cells, Pt.slots] at X45 l45 y45 z45 st45 hQ45 hS45 hg45 hC45
  subst l45 y45 z45
  obtain ⟨rfl, Nq45, Kq45, Eq45, Cq45, t45, kb45, Vq45, Aq45⟩ := hQ45
  have N46 := Fr.app N0 Nq45
  have R48 := R37.trans hC45
  have sf49 := CHr.safe hC45 f41.lt sf38
  have sf50 := CHr.safe hC45 V40.lt sf39
  obtain ⟨XR51, hSR51, hZ51, hown51⟩ := rebS hS0 (by rw [e30]; exact (Nat.le_trans (Nat.le_trans (Nat.le_refl _) E22.1) E30.1)) X45 hS45 hg45 hZ hown
  obtain ⟨Lh52, Xh52, Nh52⟩ := oHd 6 12 XR51 N46 rfl rfl
  refine ownSt st45 ?_
  clear st45
  show oA p e below _ T45 (fr_tag m p1 49 (.val (.int (((p1.toUInt32 >>> ((24 : Int32) &&& 31).toUInt32).toInt32) &&& (3 : Int32)))) (vI q0) (vI q1) (vI q2) [(.ref b22)])
  have f53 := ((((Keep.refl h0 []).ext E22).ext E30).trans Kq45 (allS (Or.inr z25) all0))
  have f54 := (f41.keep Kq45)
  refine ownRetH Xh52 hSR51 (Nat.le_refl _) Bd.notSynchronized (v := some (.ref b22)) (fun h => by rw [Bd.returns] at h; cases h) ?_ (R48.trans (CHv.at Xh52 hZ51 hEL R48.1)) (oLe rfl) (oLe rfl) (fun fs hr => retOut Xh52 hx Bd.returns rfl (Or.inr (Or.inr (Or.inr (Or.inr ⟨rfl, rfl, rfl⟩)))) (D d1_49) hr)
  show (Q_tag Z p1 G1 h0 n0) (some (.ref b22)) T45.heap _
  exact ⟨b22, t45, kb45, _, _, rfl, Nh52, f53, z25, f54, Vq45, Cq45, Aq45, Or.inl ⟨trivial, rfl, rfl⟩⟩
 ·skip
  refine oTo s₁ (fr_tag m p1 52 (.val (.int (((p1.toUInt32 >>> ((24 : Int32) &&& 31).toUInt32).toInt32) &&& (3 : Int32)))) (vI q0) (vI q1) (vI q2) [(iV 1), (.int (((p1.toUInt32 >>> ((24 : Int32) &&& 31).toUInt32).toInt32) &&& (3 : Int32)))]) (fun t kt => ?_) ?_
  ·refine XS.ifYes X0.here hx rfl (pc0 := 36) (pc' := 50) rfl (D d1_36) rfl ((if0 _ _).trans (feq hc21).2) (by decide) (by decide) ?_
   refine XS.iloadN X0.here hx rfl (D d1_50) rfl ?_
   refine XS.iconst X0.here hx rfl (D d1_51) ?_
   exact kt
  by_cases hc56 : (((p1.toUInt32 >>> ((24 : Int32) &&& 31).toUInt32).toInt32) &&& (3 : Int32)) = (1 : Int32)
  ·skip
   refine oTo s₁ (fr_tag m p1 55 (.val (.int (((p1.toUInt32 >>> ((24 : Int32) &&& 31).toUInt32).toInt32) &&& (3 : Int32)))) (vI q0) (vI q1) (vI q2) []) (fun t kt => ?_) ?_
   ·refine XS.icmpNo X0.here hx rfl (D d1_52) rfl (teq hc56).2 ?_
    exact kt
   obtain ⟨T57, h57, X57, e57, E57, A57, D57, -, st57⟩ := newO X0 hx hZ hown (Wd4 hw) (Wd5 hw) (Wd6 hw) e0 (g := (fr_tag m p1 55 (.val (.int (((p1.toUInt32 >>> ((24 : Int32) &&& 31).toUInt32).toInt32) &&& (3 : Int32)))) (vI q0) (vI q1) (vI q2) [])) rfl (D d1_55) (by decide) (by decide)
   obtain ⟨b57, g57⟩ : ∃ z, z = h0.size := ⟨_, rfl⟩
   rw [← g57] at A57 D57 st57
   have g58 : n0 ≤ b57 := Nat.le_trans Z0 (Nat.le_of_eq g57.symm)
   have sf59 : Safe Z ownEL s.vm h0 b57 := Safe.new (Nat.le_of_eq g57.symm)
   have z60 : h0.size ≤ b57 := Nat.le_trans (Nat.le_refl h0.size) (Nat.le_of_eq g57.symm)
   have R61 := R0.trans (CHr.ext E57 R0.1)
   have sf62 := Safe.ext E57 R0.1 sf59
   have F63 : Fld Z h57 b57 "java/lang/String" "value" "[B" .null := D57 (Or.inr (Wd20 hw)) (ty := (.array .byte)) (by decide)
   have F64 : Fld Z h57 b57 "java/lang/String" "coder" "B" (iV 0) := D57 (Or.inr (Wd21 hw)) (ty := .byte) (by decide)
   refine ownBy st57 ?_
   clear st57
   show oA p e below _ T57 (fr_tag m p1 58 (.val (.int (((p1.toUInt32 >>> ((24 : Int32) &&& 31).toUInt32).toInt32) &&& (3 : Int32)))) (vI q0) (vI q1) (vI q2) [(.ref b57)])
   refine oTo T57 (fr_tag m p1 60 (.val (.int (((p1.toUInt32 >>> ((24 : Int32) &&& 31).toUInt32).toInt32) &&& (3 : Int32)))) (vI q0) (vI q1) (vI q2) [(iV 1), (.ref b57), (.ref b57)]) (fun t kt => ?_) ?_
   ·refine XS.dup X57.here hx rfl (D d1_58) rfl rfl ?_
    refine XS.iconst X57.here hx rfl (D d1_59) ?_
    exact kt
   obtain ⟨T65, h65, k65, X65, e65, E65, A65, st65⟩ := newP X57 hx hZ (aty := .char) (Wd7 hw) e57 (g := (fr_tag m p1 60 (.val (.int (((p1.toUInt32 >>> ((24 : Int32) &&& 31).toUInt32).toInt32) &&& (3 : Int32)))) (vI q0) (vI q1) (vI q2) [(iV 1), (.ref b57), (.ref b57)])) rfl (D d1_60) rfl (by decide : ¬ ((1 : Int32) < (0 : Int32))) (cap := 1) (by decide) (by decide) (by decide) (by decide)
   obtain ⟨b65, g65⟩ : ∃ z, z = h57.size := ⟨_, rfl⟩
   rw [← g65] at A65 st65
   have ne66 : b57 ≠ b65 := Nat.ne_of_lt (Nat.lt_of_lt_of_le A57.lt (Nat.le_of_eq g65.symm))
   have f68 := (Nat.le_trans Z0 E57.1)
   have g67 : n0 ≤ b65 := Nat.le_trans f68 (Nat.le_of_eq g65.symm)
   have sf69 : Safe Z ownEL s.vm h57 b65 := Safe.new (Nat.le_of_eq g65.symm)
   have f71 := (Nat.le_trans (Nat.le_refl h0.size) E57.1)
   have z70 : h0.size ≤ b65 := Nat.le_trans f71 (Nat.le_of_eq g65.symm)
   have R72 := R61.trans (CHr.ext E65 R61.1)
   have sf73 := Safe.ext E65 R61.1 sf62
   have sf74 := Safe.ext E65 R61.1 sf69
   have V75 : Arv Z h65 b65 k65 .char (1 : Int32) [(iV 0)] (iV 0) := (Arv.new A65 (by decide)).pad (pad_rep [] (iV 0) 1)
   refine ownBy st65 ?_
   clear st65
   show oA p e below _ T65 (fr_tag m p1 62 (.val (.int (((p1.toUInt32 >>> ((24 : Int32) &&& 31).toUInt32).toInt32) &&& (3 : Int32)))) (vI q0) (vI q1) (vI q2) [(.ref b65), (.ref b57), (.ref b57)])
   refine oTo T65 (fr_tag m p1 65 (.val (.int (((p1.toUInt32 >>> ((24 : Int32) &&& 31).toUInt32).toInt32) &&& (3 : Int32)))) (vI q0) (vI q1) (vI q2) [(.int q0), (iV 0), (.ref b65), (.ref b65), (.ref b57), (.ref b57)]) (fun t kt => ?_) ?_
   ·refine XS.dup X65.here hx rfl (D d1_62) rfl rfl ?_
    refine XS.iconst X65.here hx rfl (D d1_63) ?_
    refine XS.iloadN X65.here hx rfl (D d1_64) rfl ?_
    exact kt
   obtain ⟨cl76, Ar76, q76, S76, N76, H76, G76⟩ := id V75
   have hin76 : ¬ ((0 : Int32) < 0 ∨ cl76.slots.size ≤ ((0 : Int32)).toNatClampNeg) := inb_of S76 ⟨by decide, by decide⟩
   obtain ⟨T76, h76, X76, e76, W76, st76⟩ := stC X65 hx hZ e65 Ar76 (j := (0 : Int32)) hin76 (g := (fr_tag m p1 65 (.val (.int (((p1.toUInt32 >>> ((24 : Int32) &&& 31).toUInt32).toInt32) &&& (3 : Int32)))) (vI q0) (vI q1) (vI q2) [(.int q0), (iV 0), (.ref b65), (.ref b65), (.ref b57), (.ref b57)])) rfl rfl (D d1_65)
   have V77 : Arv Z h76 b65 k65 .char (1 : Int32) [(.int (nar .char q0))] (iV 0) := Arv.set Ar76 q76 S76 N76 H76 G76 (fits_nar_char _) W76 0 rfl (oLe rfl)
   rw [own_c8 hr_q0] at V77
   clear hin76 G76 H76 N76 S76 q76 Ar76 cl76 V75
   have N78 := Fr.snoc X76 N0 g67
   have R79 := R72.trans (CHr.wr W76 sf74 R72.1)
   have sf80 := Safe.wr W76 sf74 R72.1 sf73
   have sf81 := Safe.wr W76 sf74 R72.1 sf74
   obtain ⟨Lh82, Xh82, Nh82⟩ := oHd 2 5 X76 N78 rfl rfl
   refine ownBy st76 ?_
   clear st76
   show oA p e below _ T76 (fr_tag m p1 66 (.val (.int (((p1.toUInt32 >>> ((24 : Int32) &&& 31).toUInt32).toInt32) &&& (3 : Int32)))) (vI q0) (vI q1) (vI q2) [(.ref b65), (.ref b57), (.ref b57)])
   have hp83 : ∀ c ∈ ([q0] : List Int32), ¬ c < 0 ∧ ¬ (255 : Int32) < c := by
    intro c hc
    simp only [List.mem_cons, List.not_mem_nil, or_false] at hc
    rcases hc with rfl
    ·exact hr_q0
   have f84 := (Nat.le_trans (Nat.le_trans f68 E65.1) (Keep.of_wr W76).1)
   have f85 := ((A57.ext E65).wr W76)
   have f86 := ((F63.ext E65).other W76 (Or.inl ne66))
   have f87 := ((F64.ext E65).other W76 (Or.inl ne66))
   have f88 := (((X00.ext E57).ext E65).wr W76 g67)
   obtain ⟨vv89, _, ⟨T89, L89, k89, n89⟩, -, X89, ⟨Lc89, hQ89, l89, y89, z89⟩, st89⟩ := Xh82.specialBack hx (y := yM1) rfl hown (mvT hZ (Wd8 hw)) (mvT hZ (Wd9 hw)) (mvT hZ (Wd10 hw)) (by decide) (StrChars.Road.backV (W := 1) hZ hws (kI := 4) (Wd5 hw) (cs := ([q0] : List Int32)) (bs := (([q0] : List Int32)).map (fun c => c.toInt8.toInt32)) (n := 1) g58 f84 f85 f86 f87 V77 (O2.ext f88.2) P5 rfl rfl (by decide) (by decide) hp83 rfl (by decide) (by decide)) (g := (fr_tag m p1 66 (.val (.int (((p1.toUInt32 >>> ((24 : Int32) &&& 31).toUInt32).toInt32) &&& (3 : Int32)))) (vI q0) (vI q1) (vI q2) [(.ref b65), (.ref b57), (.ref b57)])) rfl (by rw [hml]; rfl) (Steps.refl _) (a := b57) (argsL := [(.ref b65)]) (rest := [(.ref b57)]) (lenOf pd_27 rfl) rfl (oWt rfl) (D d1_66) (fun _ _ => ⟨rfl, e76, oLe rfl, oLe rfl⟩)
   dsimp only [Pt.U, Pt.locs, Pt.cells, Pt.slots] at X89 l89 y89 z89 st89 hQ89
   subst l89 y89 z89
   obtain ⟨rfl, Nq89, Kq89, Eq89, Cq89, t89, kb89, u89, v89, w89, Vq89, Aq89⟩ := hQ89
   have ne90 : b57 ≠ t89 := Nat.ne_of_lt (Nat.lt_of_lt_of_le f85.lt v89)
   have ne91 : b65 ≠ t89 := Nat.ne_of_lt (Nat.lt_of_lt_of_le V77.lt v89)
   have g92 : n0 ≤ t89 := Nat.le_trans f84 v89
   have sf93 : Safe Z ownEL s.vm h76 t89 := Safe.new v89
   have f95 := (Nat.le_trans (Nat.le_trans f71 E65.1) (Keep.of_wr W76).1)
   have z94 : h0.size ≤ t89 := Nat.le_trans f95 v89
   have N96 := Fr.app Nh82 Nq89
   have R97 := R79.trans (CHr.keep Kq89 (sfS sf80 sf0) R79.1)
   have sf98 := Safe.keep Kq89 (sfS sf80 sf0) R79.1 sf80
   have sf99 := Safe.keep Kq89 (sfS sf80 sf0) R79.1 sf81
   have sf100 := Safe.keep Kq89 (sfS sf80 sf0) R79.1 sf93
   obtain ⟨Lh101, Xh101, Nh101⟩ := oHd 3 6 X89 N96 rfl rfl
   refine ownSt st89 ?_
   clear st89
   show oA p e below _ T89 (fr_tag m p1 69 (.val (.int (((p1.toUInt32 >>> ((24 : Int32) &&& 31).toUInt32).toInt32) &&& (3 : Int32)))) (vI q0) (vI q1) (vI q2) [(.ref b57)])
   have f102 := (((((Keep.refl h0 []).ext E57).ext E65).wr W76 (Or.inr z70)).trans Kq89 (allS (Or.inr z60) all0))
   have f103 := (f85.keep Kq89)
   refine ownRetH Xh101 hS0 (Nat.le_trans (Nat.le_trans (Nat.le_trans (Nat.le_trans (Nat.le_refl _) E57.1) E65.1) (Keep.of_wr W76).1) Kq89.1) Bd.notSynchronized (v := some (.ref b57)) (fun h => by rw [Bd.returns] at h; cases h) ?_ (R97.trans (CHv.at Xh101 hZ hEL R97.1)) (oLe rfl) (oLe rfl) (fun fs hr => retOut Xh101 hx Bd.returns rfl (Or.inr (Or.inr (Or.inr (Or.inr ⟨rfl, rfl, rfl⟩)))) (D d1_69) hr)
   show (Q_tag Z p1 G1 h0 n0) (some (.ref b57)) T89.heap _
   exact ⟨b57, t89, kb89, _, _, rfl, Nh101, f102, z60, f103, Vq89, Cq89, Aq89, Or.inr (Or.inl ⟨q0, hr_q0, rfl, rfl⟩)⟩
  ·skip
   refine oTo s₁ (fr_tag m p1 72 (.val (.int (((p1.toUInt32 >>> ((24 : Int32) &&& 31).toUInt32).toInt32) &&& (3 : Int32)))) (vI q0) (vI q1) (vI q2) [(iV 2), (.int (((p1.toUInt32 >>> ((24 : Int32) &&& 31).toUInt32).toInt32) &&& (3 : Int32)))]) (fun t kt => ?_) ?_
   ·refine XS.icmpYes X0.here hx rfl (pc0 := 52) (pc' := 70) rfl (D d1_52) rfl (feq hc56).2 (by decide) (by decide) ?_
    refine XS.iloadN X0.here hx rfl (D d1_70) rfl ?_
    refine XS.iconst X0.here hx rfl (D d1_71) ?_
    exact kt
   by_cases hc105 : (((p1.toUInt32 >>> ((24 : Int32) &&& 31).toUInt32).toInt32) &&& (3 : Int32)) = (2 : Int32)
   ·skip
    refine oTo s₁ (fr_tag m p1 75 (.val (.int (((p1.toUInt32 >>> ((24 : Int32) &&& 31).toUInt32).toInt32) &&& (3 : Int32)))) (vI q0) (vI q1) (vI q2) []) (fun t kt => ?_) ?_
    ·refine XS.icmpNo X0.here hx rfl (D d1_72) rfl (teq hc105).2 ?_
     exact kt
    obtain ⟨T106, h106, X106, e106, E106, A106, D106, -, st106⟩ := newO X0 hx hZ hown (Wd4 hw) (Wd5 hw) (Wd6 hw) e0 (g := (fr_tag m p1 75 (.val (.int (((p1.toUInt32 >>> ((24 : Int32) &&& 31).toUInt32).toInt32) &&& (3 : Int32)))) (vI q0) (vI q1) (vI q2) [])) rfl (D d1_75) (by decide) (by decide)
    obtain ⟨b106, g106⟩ : ∃ z, z = h0.size := ⟨_, rfl⟩
    rw [← g106] at A106 D106 st106
    have g107 : n0 ≤ b106 := Nat.le_trans Z0 (Nat.le_of_eq g106.symm)
    have sf108 : Safe Z ownEL s.vm h0 b106 := Safe.new (Nat.le_of_eq g106.symm)
    have z109 : h0.size ≤ b106 := Nat.le_trans (Nat.le_refl h0.size) (Nat.le_of_eq g106.symm)
    have R110 := R0.trans (CHr.ext E106 R0.1)
    have sf111 := Safe.ext E106 R0.1 sf108
    have F112 : Fld Z h106 b106 "java/lang/String" "value" "[B" .null := D106 (Or.inr (Wd20 hw)) (ty := (.array .byte)) (by decide)
    have F113 : Fld Z h106 b106 "java/lang/String" "coder" "B" (iV 0) := D106 (Or.inr (Wd21 hw)) (ty := .byte) (by decide)
    refine ownBy st106 ?_
    clear st106
    show oA p e below _ T106 (fr_tag m p1 78 (.val (.int (((p1.toUInt32 >>> ((24 : Int32) &&& 31).toUInt32).toInt32) &&& (3 : Int32)))) (vI q0) (vI q1) (vI q2) [(.ref b106)])
    refine oTo T106 (fr_tag m p1 80 (.val (.int (((p1.toUInt32 >>> ((24 : Int32) &&& 31).toUInt32).toInt32) &&& (3 : Int32)))) (vI q0) (vI q1) (vI q2) [(iV 2), (.ref b106), (.ref b106)]) (fun t kt => ?_) ?_
    ·refine XS.dup X106.here hx rfl (D d1_78) rfl rfl ?_
     refine XS.iconst X106.here hx rfl (D d1_79) ?_
     exact kt
    obtain ⟨T114, h114, k114, X114, e114, E114, A114, st114⟩ := newP X106 hx hZ (aty := .char) (Wd7 hw) e106 (g := (fr_tag m p1 80 (.val (.int (((p1.toUInt32 >>> ((24 : Int32) &&& 31).toUInt32).toInt32) &&& (3 : Int32)))) (vI q0) (vI q1) (vI q2) [(iV 2), (.ref b106), (.ref b106)])) rfl (D d1_80) rfl (by decide : ¬ ((2 : Int32) < (0 : Int32))) (cap := 2) (by decide) (by decide) (by decide) (by decide)
    obtain ⟨b114, g114⟩ : ∃ z, z = h106.size := ⟨_, rfl⟩
    rw [← g114] at A114 st114
    have ne115 : b106 ≠ b114 := Nat.ne_of_lt (Nat.lt_of_lt_of_le A106.lt (Nat.le_of_eq g114.symm))
    have f117 := (Nat.le_trans Z0 E106.1)
    have g116 : n0 ≤ b114 := Nat.le_trans f117 (Nat.le_of_eq g114.symm)
    have sf118 : Safe Z ownEL s.vm h106 b114 := Safe.new (Nat.le_of_eq g114.symm)
    have f120 := (Nat.le_trans (Nat.le_refl h0.size) E106.1)
    have z119 : h0.size ≤ b114 := Nat.le_trans f120 (Nat.le_of_eq g114.symm)
    have R121 := R110.trans (CHr.ext E114 R110.1)
    have sf122 := Safe.ext E114 R110.1 sf111
    have sf123 := Safe.ext E114 R110.1 sf118
    have V124 : Arv Z h114 b114 k114 .char (2 : Int32) [(iV 0), (iV 0)] (iV 0) := (Arv.new A114 (by decide)).pad (pad_rep [] (iV 0) 2)
    refine ownBy st114 ?_
    clear st114
    show oA p e below _ T114 (fr_tag m p1 82 (.val (.int (((p1.toUInt32 >>> ((24 : Int32) &&& 31).toUInt32).toInt32) &&& (3 : Int32)))) (vI q0) (vI q1) (vI q2) [(.ref b114), (.ref b106), (.ref b106)])
    refine oTo T114 (fr_tag m p1 85 (.val (.int (((p1.toUInt32 >>> ((24 : Int32) &&& 31).toUInt32).toInt32) &&& (3 : Int32)))) (vI q0) (vI q1) (vI q2) [(.int q0), (iV 0), (.ref b114), (.ref b114), (.ref b106), (.ref b106)]) (fun t kt => ?_) ?_
    ·refine XS.dup X114.here hx rfl (D d1_82) rfl rfl ?_
     refine XS.iconst X114.here hx rfl (D d1_83) ?_
     refine XS.iloadN X114.here hx rfl (D d1_84) rfl ?_
     exact kt
    obtain ⟨cl125, Ar125, q125, S125, N125, H125, G125⟩ := id V124
    have hin125 : ¬ ((0 : Int32) < 0 ∨ cl125.slots.size ≤ ((0 : Int32)).toNatClampNeg) := inb_of S125 ⟨by decide, by decide⟩
    obtain ⟨T125, h125, X125, e125, W125, st125⟩ := stC X114 hx hZ e114 Ar125 (j := (0 : Int32)) hin125 (g := (fr_tag m p1 85 (.val (.int (((p1.toUInt32 >>> ((24 : Int32) &&& 31).toUInt32).toInt32) &&& (3 : Int32)))) (vI q0) (vI q1) (vI q2) [(.int q0), (iV 0), (.ref b114), (.ref b114), (.ref b106), (.ref b106)])) rfl rfl (D d1_85)
    have V126 : Arv Z h125 b114 k114 .char (2 : Int32) [(.int (nar .char q0)), (iV 0)] (iV 0) := Arv.set Ar125 q125 S125 N125 H125 G125 (fits_nar_char _) W125 0 rfl (oLe rfl)
    rw [own_c8 hr_q0] at V126
    clear hin125 G125 H125 N125 S125 q125 Ar125 cl125 V124
    have N127 := Fr.snoc X125 N0 g116
    have R128 := R121.trans (CHr.wr W125 sf123 R121.1)
    have sf129 := Safe.wr W125 sf123 R121.1 sf122
    have sf130 := Safe.wr W125 sf123 R121.1 sf123
    obtain ⟨Lh131, Xh131, Nh131⟩ := oHd 2 6 X125 N127 rfl rfl
    refine ownBy st125 ?_
    clear st125
    show oA p e below _ T125 (fr_tag m p1 86 (.val (.int (((p1.toUInt32 >>> ((24 : Int32) &&& 31).toUInt32).toInt32) &&& (3 : Int32)))) (vI q0) (vI q1) (vI q2) [(.ref b114), (.ref b106), (.ref b106)])
    refine oTo T125 (fr_tag m p1 89 (.val (.int (((p1.toUInt32 >>> ((24 : Int32) &&& 31).toUInt32).toInt32) &&& (3 : Int32)))) (vI q0) (vI q1) (vI q2) [(.int q1), (iV 1), (.ref b114), (.ref b114), (.ref b106), (.ref b106)]) (fun t kt => ?_) ?_
    ·refine XS.dup Xh131.here hx rfl (D d1_86) rfl rfl ?_
     refine XS.iconst Xh131.here hx rfl (D d1_87) ?_
     refine XS.iloadN Xh131.here hx rfl (D d1_88) rfl ?_
     exact kt
    obtain ⟨cl132, Ar132, q132, S132, N132, H132, G132⟩ := id V126
    have hin132 : ¬ ((1 : Int32) < 0 ∨ cl132.slots.size ≤ ((1 : Int32)).toNatClampNeg) := inb_of S132 ⟨by decide, by decide⟩
    obtain ⟨T132, h132, X132, e132, W132, st132⟩ := stC Xh131 hx hZ e125 Ar132 (j := (1 : Int32)) hin132 (g := (fr_tag m p1 89 (.val (.int (((p1.toUInt32 >>> ((24 : Int32) &&& 31).toUInt32).toInt32) &&& (3 : Int32)))) (vI q0) (vI q1) (vI q2) [(.int q1), (iV 1), (.ref b114), (.ref b114), (.ref b106), (.ref b106)])) rfl rfl (D d1_89)
    have V133 : Arv Z h132 b114 k114 .char (2 : Int32) [(.int q0), (.int (nar .char q1))] (iV 0) := Arv.set Ar132 q132 S132 N132 H132 G132 (fits_nar_char _) W132 1 rfl (oLe rfl)
    rw [own_c8 hr_q1] at V133
    clear hin132 G132 H132 N132 S132 q132 Ar132 cl132 V126
    have N134 := Fr.snoc X132 Nh131 g116
    have R135 := R128.trans (CHr.wr W132 sf130 R128.1)
    have sf136 := Safe.wr W132 sf130 R128.1 sf129
    have sf137 := Safe.wr W132 sf130 R128.1 sf130
    obtain ⟨Lh138, Xh138, Nh138⟩ := oHd 2 6 X132 N134 rfl rfl
    refine ownBy st132 ?_
    clear st132
    show oA p e below _ T132 (fr_tag m p1 90 (.val (.int (((p1.toUInt32 >>> ((24 : Int32) &&& 31).toUInt32).toInt32) &&& (3 : Int32)))) (vI q0) (vI q1) (vI q2) [(.ref b114), (.ref b106), (.ref b106)])
    have hp139 : ∀ c ∈ ([q0, q1] : List Int32), ¬ c < 0 ∧ ¬ (255 : Int32) < c := by
     intro c hc
     simp only [List.mem_cons, List.not_mem_nil, or_false] at hc
     rcases hc with rfl | rfl
     ·exact hr_q0
     ·exact hr_q1
    have f140 := (Nat.le_trans (Nat.le_trans (Nat.le_trans f117 E114.1) (Keep.of_wr W125).1) (Keep.of_wr W132).1)
    have f141 := (((A106.ext E114).wr W125).wr W132)
    have f142 := (((F112.ext E114).other W125 (Or.inl ne115)).other W132 (Or.inl ne115))
    have f143 := (((F113.ext E114).other W125 (Or.inl ne115)).other W132 (Or.inl ne115))
    have f144 := ((((X00.ext E106).ext E114).wr W125 g116).wr W132 g116)
    obtain ⟨vv145, _, ⟨T145, L145, k145, n145⟩, -, X145, ⟨Lc145, hQ145, l145, y145, z145⟩, st145⟩ := Xh138.specialBack hx (y := yM1) rfl hown (mvT hZ (Wd8 hw)) (mvT hZ (Wd9 hw)) (mvT hZ (Wd10 hw)) (by decide) (StrChars.Road.backV (W := 1) hZ hws (kI := 4) (Wd5 hw) (cs := ([q0, q1] : List Int32)) (bs := (([q0, q1] : List Int32)).map (fun c => c.toInt8.toInt32)) (n := 2) g107 f140 f141 f142 f143 V133 (O2.ext f144.2) P5 rfl rfl (by decide) (by decide) hp139 rfl (by decide) (by decide)) (g := (fr_tag m p1 90 (.val (.int (((p1.toUInt32 >>> ((24 : Int32) &&& 31).toUInt32).toInt32) &&& (3 : Int32)))) (vI q0) (vI q1) (vI q2) [(.ref b114), (.ref b106), (.ref b106)])) rfl (by rw [hml]; rfl) (Steps.refl _) (a := b106) (argsL := [(.ref b114)]) (rest := [(.ref b106)]) (lenOf pd_27 rfl) rfl (oWt rfl) (D d1_90) (fun _ _ => ⟨rfl, e132, oLe rfl, oLe rfl⟩)
    dsimp only [Pt.U, Pt.locs, Pt.cells, Pt.slots] at X145 l145 y145 z145 st145 hQ145
    subst l145 y145 z145
    obtain ⟨rfl, Nq145, Kq145, Eq145, Cq145, t145, kb145, u145, v145, w145, Vq145, Aq145⟩ := hQ145
    have ne146 : b106 ≠ t145 := Nat.ne_of_lt (Nat.lt_of_lt_of_le f141.lt v145)
    have ne147 : b114 ≠ t145 := Nat.ne_of_lt (Nat.lt_of_lt_of_le V133.lt v145)
    have g148 : n0 ≤ t145 := Nat.le_trans f140 v145
    have sf149 : Safe Z ownEL s.vm h132 t145 := Safe.new v145
    have f151 := (Nat.le_trans (Nat.le_trans (Nat.le_trans f120 E114.1) (Keep.of_wr W125).1) (Keep.of_wr W132).1)
    have z150 : h0.size ≤ t145 := Nat.le_trans f151 v145
    have N152 := Fr.app Nh138 Nq145
    have R153 := R135.trans (CHr.keep Kq145 (sfS sf136 sf0) R135.1)
    have sf154 := Safe.keep Kq145 (sfS sf136 sf0) R135.1 sf136
    have sf155 := Safe.keep Kq145 (sfS sf136 sf0) R135.1 sf137
    have sf156 := Safe.keep Kq145 (sfS sf136 sf0) R135.1 sf149
    obtain ⟨Lh157, Xh157, Nh157⟩ := oHd 3 8 X145 N152 rfl rfl
    refine ownSt st145 ?_
    clear st145
    show oA p e below _ T145 (fr_tag m p1 93 (.val (.int (((p1.toUInt32 >>> ((24 : Int32) &&& 31).toUInt32).toInt32) &&& (3 : Int32)))) (vI q0) (vI q1) (vI q2) [(.ref b106)])
    have f158 := ((((((Keep.refl h0 []).ext E106).ext E114).wr W125 (Or.inr z119)).wr W132 (Or.inr z119)).trans Kq145 (allS (Or.inr z109) all0))
    have f159 := (f141.keep Kq145)
    refine ownRetH Xh157 hS0 (Nat.le_trans (Nat.le_trans (Nat.le_trans (Nat.le_trans (Nat.le_trans (Nat.le_refl _) E106.1) E114.1) (Keep.of_wr W125).1) (Keep.of_wr W132).1) Kq145.1) Bd.notSynchronized (v := some (.ref b106)) (fun h => by rw [Bd.returns] at h; cases h) ?_ (R153.trans (CHv.at Xh157 hZ hEL R153.1)) (oLe rfl) (oLe rfl) (fun fs hr => retOut Xh157 hx Bd.returns rfl (Or.inr (Or.inr (Or.inr (Or.inr ⟨rfl, rfl, rfl⟩)))) (D d1_93) hr)
    show (Q_tag Z p1 G1 h0 n0) (some (.ref b106)) T145.heap _
    exact ⟨b106, t145, kb145, _, _, rfl, Nh157, f158, z109, f159, Vq145, Cq145, Aq145, Or.inr (Or.inr (Or.inl ⟨q0, q1, hr_q0, hr_q1, rfl, rfl⟩))⟩
   ·skip
    refine oTo s₁ (fr_tag m p1 94 (.val (.int (((p1.toUInt32 >>> ((24 : Int32) &&& 31).toUInt32).toInt32) &&& (3 : Int32)))) (vI q0) (vI q1) (vI q2) []) (fun t kt => ?_) ?_
    ·refine XS.icmpYes X0.here hx rfl (pc0 := 72) (pc' := 94) rfl (D d1_72) rfl (feq hc105).2 (by decide) (by decide) ?_
     exact kt
    obtain ⟨T161, h161, X161, e161, E161, A161, D161, -, st161⟩ := newO X0 hx hZ hown (Wd4 hw) (Wd5 hw) (Wd6 hw) e0 (g := (fr_tag m p1 94 (.val (.int (((p1.toUInt32 >>> ((24 : Int32) &&& 31).toUInt32).toInt32) &&& (3 : Int32)))) (vI q0) (vI q1) (vI q2) [])) rfl (D d1_94) (by decide) (by decide)
    obtain ⟨b161, g161⟩ : ∃ z, z = h0.size := ⟨_, rfl⟩
    rw [← g161] at A161 D161 st161
    have g162 : n0 ≤ b161 := Nat.le_trans Z0 (Nat.le_of_eq g161.symm)
    have sf163 : Safe Z ownEL s.vm h0 b161 := Safe.new (Nat.le_of_eq g161.symm)
    have z164 : h0.size ≤ b161 := Nat.le_trans (Nat.le_refl h0.size) (Nat.le_of_eq g161.symm)
    have R165 := R0.trans (CHr.ext E161 R0.1)
    have sf166 := Safe.ext E161 R0.1 sf163
    have F167 : Fld Z h161 b161 "java/lang/String" "value" "[B" .null := D161 (Or.inr (Wd20 hw)) (ty := (.array .byte)) (by decide)
    have F168 : Fld Z h161 b161 "java/lang/String" "coder" "B" (iV 0) := D161 (Or.inr (Wd21 hw)) (ty := .byte) (by decide)
    refine ownBy st161 ?_
    clear st161
    show oA p e below _ T161 (fr_tag m p1 97 (.val (.int (((p1.toUInt32 >>> ((24 : Int32) &&& 31).toUInt32).toInt32) &&& (3 : Int32)))) (vI q0) (vI q1) (vI q2) [(.ref b161)])
    refine oTo T161 (fr_tag m p1 99 (.val (.int (((p1.toUInt32 >>> ((24 : Int32) &&& 31).toUInt32).toInt32) &&& (3 : Int32)))) (vI q0) (vI q1) (vI q2) [(iV 3), (.ref b161), (.ref b161)]) (fun t kt => ?_) ?_
    ·refine XS.dup X161.here hx rfl (D d1_97) rfl rfl ?_
     refine XS.iconst X161.here hx rfl (D d1_98) ?_
     exact kt
    obtain ⟨T169, h169, k169, X169, e169, E169, A169, st169⟩ := newP X161 hx hZ (aty := .char) (Wd7 hw) e161 (g := (fr_tag m p1 99 (.val (.int (((p1.toUInt32 >>> ((24 : Int32) &&& 31).toUInt32).toInt32) &&& (3 : Int32)))) (vI q0) (vI q1) (vI q2) [(iV 3), (.ref b161), (.ref b161)])) rfl (D d1_99) rfl (by decide : ¬ ((3 : Int32) < (0 : Int32))) (cap := 3) (by decide) (by decide) (by decide) (by decide)
    obtain ⟨b169, g169⟩ : ∃ z, z = h161.size := ⟨_, rfl⟩
    rw [← g169] at A169 st169
    have ne170 : b161 ≠ b169 := Nat.ne_of_lt (Nat.lt_of_lt_of_le A161.lt (Nat.le_of_eq g169.symm))
    have f172 := (Nat.le_trans Z0 E161.1)
    have g171 : n0 ≤ b169 := Nat.le_trans f172 (Nat.le_of_eq g169.symm)
    have sf173 : Safe Z ownEL s.vm h161 b169 := Safe.new (Nat.le_of_eq g169.symm)
    have f175 := (Nat.le_trans (Nat.le_refl h0.size) E161.1)
    have z174 : h0.size ≤ b169 := Nat.le_trans f175 (Nat.le_of_eq g169.symm)
    have R176 := R165.trans (CHr.ext E169 R165.1)
    have sf177 := Safe.ext E169 R165.1 sf166
    have sf178 := Safe.ext E169 R165.1 sf173
    have V179 : Arv Z h169 b169 k169 .char (3 : Int32) [(iV 0), (iV 0), (iV 0)] (iV 0) := (Arv.new A169 (by decide)).pad (pad_rep [] (iV 0) 3)
    refine ownBy st169 ?_
    clear st169
    show oA p e below _ T169 (fr_tag m p1 101 (.val (.int (((p1.toUInt32 >>> ((24 : Int32) &&& 31).toUInt32).toInt32) &&& (3 : Int32)))) (vI q0) (vI q1) (vI q2) [(.ref b169), (.ref b161), (.ref b161)])
    refine oTo T169 (fr_tag m p1 104 (.val (.int (((p1.toUInt32 >>> ((24 : Int32) &&& 31).toUInt32).toInt32) &&& (3 : Int32)))) (vI q0) (vI q1) (vI q2) [(.int q0), (iV 0), (.ref b169), (.ref b169), (.ref b161), (.ref b161)]) (fun t kt => ?_) ?_
    ·refine XS.dup X169.here hx rfl (D d1_101) rfl rfl ?_
     refine XS.iconst X169.here hx rfl (D d1_102) ?_
     refine XS.iloadN X169.here hx rfl (D d1_103) rfl ?_
     exact kt
    obtain ⟨cl180, Ar180, q180, S180, N180, H180, G180⟩ := id V179
    have hin180 : ¬ ((0 : Int32) < 0 ∨ cl180.slots.size ≤ ((0 : Int32)).toNatClampNeg) := inb_of S180 ⟨by decide, by decide⟩
    obtain ⟨T180, h180, X180, e180, W180, st180⟩ := stC X169 hx hZ e169 Ar180 (j := (0 : Int32)) hin180 (g := (fr_tag m p1 104 (.val (.int (((p1.toUInt32 >>> ((24 : Int32) &&& 31).toUInt32).toInt32) &&& (3 : Int32)))) (vI q0) (vI q1) (vI q2) [(.int q0), (iV 0), (.ref b169), (.ref b169), (.ref b161), (.ref b161)])) rfl rfl (D d1_104)
    have V181 : Arv Z h180 b169 k169 .char (3 : Int32) [(.int (nar .char q0)), (iV 0), (iV 0)] (iV 0) := Arv.set Ar180 q180 S180 N180 H180 G180 (fits_nar_char _) W180 0 rfl (oLe rfl)
    rw [own_c8 hr_q0] at V181
    clear hin180 G180 H180 N180 S180 q180 Ar180 cl180 V179
    have N182 := Fr.snoc X180 N0 g171
    have R183 := R176.trans (CHr.wr W180 sf178 R176.1)
    have sf184 := Safe.wr W180 sf178 R176.1 sf177
    have sf185 := Safe.wr W180 sf178 R176.1 sf178
    obtain ⟨Lh186, Xh186, Nh186⟩ := oHd 2 7 X180 N182 rfl rfl
    refine ownBy st180 ?_
    clear st180
    show oA p e below _ T180 (fr_tag m p1 105 (.val (.int (((p1.toUInt32 >>> ((24 : Int32) &&& 31).toUInt32).toInt32) &&& (3 : Int32)))) (vI q0) (vI q1) (vI q2) [(.ref b169), (.ref b161), (.ref b161)])
    refine oTo T180 (fr_tag m p1 108 (.val (.int (((p1.toUInt32 >>> ((24 : Int32) &&& 31).toUInt32).toInt32) &&& (3 : Int32)))) (vI q0) (vI q1) (vI q2) [(.int q1), (iV 1), (.ref b169), (.ref b169), (.ref b161), (.ref b161)]) (fun t kt => ?_) ?_
    ·refine XS.dup Xh186.here hx rfl (D d1_105) rfl rfl ?_
     refine XS.iconst Xh186.here hx rfl (D d1_106) ?_
     refine XS.iloadN Xh186.here hx rfl (D d1_107) rfl ?_
     exact kt
    obtain ⟨cl187, Ar187, q187, S187, N187, H187, G187⟩ := id V181
    have hin187 : ¬ ((1 : Int32) < 0 ∨ cl187.slots.size ≤ ((1 : Int32)).toNatClampNeg) := inb_of S187 ⟨by decide, by decide⟩
    obtain ⟨T187, h187, X187, e187, W187, st187⟩ := stC Xh186 hx hZ e180 Ar187 (j := (1 : Int32)) hin187 (g := (fr_tag m p1 108 (.val (.int (((p1.toUInt32 >>> ((24 : Int32) &&& 31).toUInt32).toInt32) &&& (3 : Int32)))) (vI q0) (vI q1) (vI q2) [(.int q1), (iV 1), (.ref b169), (.ref b169), (.ref b161), (.ref b161)])) rfl rfl (D d1_108)
    have V188 : Arv Z h187 b169 k169 .char (3 : Int32) [(.int q0), (.int (nar .char q1)), (iV 0)] (iV 0) := Arv.set Ar187 q187 S187 N187 H187 G187 (fits_nar_char _) W187 1 rfl (oLe rfl)
    rw [own_c8 hr_q1] at V188
    clear hin187 G187 H187 N187 S187 q187 Ar187 cl187 V181
    have N189 := Fr.snoc X187 Nh186 g171
    have R190 := R183.trans (CHr.wr W187 sf185 R183.1)
    have sf191 := Safe.wr W187 sf185 R183.1 sf184
    have sf192 := Safe.wr W187 sf185 R183.1 sf185
    obtain ⟨Lh193, Xh193, Nh193⟩ := oHd 2 7 X187 N189 rfl rfl
    refine ownBy st187 ?_
    clear st187
    show oA p e below _ T187 (fr_tag m p1 109 (.val (.int (((p1.toUInt32 >>> ((24 : Int32) &&& 31).toUInt32).toInt32) &&& (3 : Int32)))) (vI q0) (vI q1) (vI q2) [(.ref b169), (.ref b161), (.ref b161)])
    refine oTo T187 (fr_tag m p1 113 (.val (.int (((p1.toUInt32 >>> ((24 : Int32) &&& 31).toUInt32).toInt32) &&& (3 : Int32)))) (vI q0) (vI q1) (vI q2) [(.int q2), (iV 2), (.ref b169), (.ref b169), (.ref b161), (.ref b161)]) (fun t kt => ?_) ?_
    ·refine XS.dup Xh193.here hx rfl (D d1_109) rfl rfl ?_
     refine XS.iconst Xh193.here hx rfl (D d1_110) ?_
     refine XS.iload Xh193.here hx rfl (D d1_111) rfl ?_
     exact kt
    obtain ⟨cl194, Ar194, q194, S194, N194, H194, G194⟩ := id V188
    have hin194 : ¬ ((2 : Int32) < 0 ∨ cl194.slots.size ≤ ((2 : Int32)).toNatClampNeg) := inb_of S194 ⟨by decide, by decide⟩
    obtain ⟨T194, h194, X194, e194, W194, st194⟩ := stC Xh193 hx hZ e187 Ar194 (j := (2 : Int32)) hin194 (g := (fr_tag m p1 113 (.val (.int (((p1.toUInt32 >>> ((24 : Int32) &&& 31).toUInt32).toInt32) &&& (3 : Int32)))) (vI q0) (vI q1) (vI q2) [(.int q2), (iV 2), (.ref b169), (.ref b169), (.ref b161), (.ref b161)])) rfl rfl (D d1_113)
    have V195 : Arv Z h194 b169 k169 .char (3 : Int32) [(.int q0), (.int q1), (.int (nar .char q2))] (iV 0) := Arv.set Ar194 q194 S194 N194 H194 G194 (fits_nar_char _) W194 2 rfl (oLe rfl)
    rw [own_c8 hr_q2] at V195
    clear hin194 G194 H194 N194 S194 q194 Ar194 cl194 V188
    have N196 := Fr.snoc X194 Nh193 g171
    have R197 := R190.trans (CHr.wr W194 sf192 R190.1)
    have sf198 := Safe.wr W194 sf192 R190.1 sf191
    have sf199 := Safe.wr W194 sf192 R190.1 sf192
    obtain ⟨Lh200, Xh200, Nh200⟩ := oHd 2 7 X194 N196 rfl rfl
    refine ownBy st194 ?_
    clear st194
    show oA p e below _ T194 (fr_tag m p1 114 (.val (.int (((p1.toUInt32 >>> ((24 : Int32) &&& 31).toUInt32).toInt32) &&& (3 : Int32)))) (vI q0) (vI q1) (vI q2) [(.ref b169), (.ref b161), (.ref b161)])
    have hp201 : ∀ c ∈ ([q0, q1, q2] : List Int32), ¬ c < 0 ∧ ¬ (255 : Int32) < c := by
     intro c hc
     simp only [List.mem_cons, List.not_mem_nil, or_false] at hc
     rcases hc with rfl | rfl | rfl
     ·exact hr_q0
     ·exact hr_q1
     ·exact hr_q2
    have f202 := (Nat.le_trans (Nat.le_trans (Nat.le_trans (Nat.le_trans f172 E169.1) (Keep.of_wr W180).1) (Keep.of_wr W187).1) (Keep.of_wr W194).1)
    have f203 := ((((A161.ext E169).wr W180).wr W187).wr W194)
    have f204 := ((((F167.ext E169).other W180 (Or.inl ne170)).other W187 (Or.inl ne170)).other W194 (Or.inl ne170))
    have f205 := ((((F168.ext E169).other W180 (Or.inl ne170)).other W187 (Or.inl ne170)).other W194 (Or.inl ne170))
    have f206 := (((((X00.ext E161).ext E169).wr W180 g171).wr W187 g171).wr W194 g171)
    obtain ⟨vv207, _, ⟨T207, L207, k207, n207⟩, -, X207, ⟨Lc207, hQ207, l207, y207, z207⟩, st207⟩ := Xh200.specialBack hx (y := yM1) rfl hown (mvT hZ (Wd8 hw)) (mvT hZ (Wd9 hw)) (mvT hZ (Wd10 hw)) (by decide) (StrChars.Road.backV (W := 1) hZ hws (kI := 4) (Wd5 hw) (cs := ([q0, q1, q2] : List Int32)) (bs := (([q0, q1, q2] : List Int32)).map (fun c => c.toInt8.toInt32)) (n := 3) g162 f202 f203 f204 f205 V195 (O2.ext f206.2) P5 rfl rfl (by decide) (by decide) hp201 rfl (by decide) (by decide)) (g := (fr_tag m p1 114 (.val (.int (((p1.toUInt32 >>> ((24 : Int32) &&& 31).toUInt32).toInt32) &&& (3 : Int32)))) (vI q0) (vI q1) (vI q2) [(.ref b169), (.ref b161), (.ref b161)])) rfl (by rw [hml]; rfl) (Steps.refl _) (a := b161) (argsL := [(.ref b169)]) (rest := [(.ref b161)]) (lenOf pd_27 rfl) rfl (oWt rfl) (D d1_114) (fun _ _ => ⟨rfl, e194, oLe rfl, oLe rfl⟩)
    dsimp only [Pt.U, Pt.locs, Pt.cells, Pt.slots] at X207 l207 y207 z207 st207 hQ207
    subst l207 y207 z207
    obtain ⟨rfl, Nq207, Kq207, Eq207, Cq207, t207, kb207, u207, v207, w207, Vq207, Aq207⟩ := hQ207
    have ne208 : b161 ≠ t207 := Nat.ne_of_lt (Nat.lt_of_lt_of_le f203.lt v207)
    have ne209 : b169 ≠ t207 := Nat.ne_of_lt (Nat.lt_of_lt_of_le V195.lt v207)
    have g210 : n0 ≤ t207 := Nat.le_trans f202 v207
    have sf211 : Safe Z ownEL s.vm h194 t207 := Safe.new v207
    have f213 := (Nat.le_trans (Nat.le_trans (Nat.le_trans (Nat.le_trans f175 E169.1) (Keep.of_wr W180).1) (Keep.of_wr W187).1) (Keep.of_wr W194).1)
    have z212 : h0.size ≤ t207 := Nat.le_trans f213 v207
    have N214 := Fr.app Nh200 Nq207
    have R215 := R197.trans (CHr.keep Kq207 (sfS sf198 sf0) R197.1)
    have sf216 := Safe.keep Kq207 (sfS sf198 sf0) R197.1 sf198
    have sf217 := Safe.keep Kq207 (sfS sf198 sf0) R197.1 sf199
    have sf218 := Safe.keep Kq207 (sfS sf198 sf0) R197.1 sf211
    obtain ⟨Lh219, Xh219, Nh219⟩ := oHd 3 10 X207 N214 rfl rfl
    refine ownSt st207 ?_
    clear st207
    show oA p e below _ T207 (fr_tag m p1 117 (.val (.int (((p1.toUInt32 >>> ((24 : Int32) &&& 31).toUInt32).toInt32) &&& (3 : Int32)))) (vI q0) (vI q1) (vI q2) [(.ref b161)])
    have f220 := (((((((Keep.refl h0 []).ext E161).ext E169).wr W180 (Or.inr z174)).wr W187 (Or.inr z174)).wr W194 (Or.inr z174)).trans Kq207 (allS (Or.inr z164) all0))
    have f221 := (f203.keep Kq207)
    refine ownRetH Xh219 hS0 (Nat.le_trans (Nat.le_trans (Nat.le_trans (Nat.le_trans (Nat.le_trans (Nat.le_trans (Nat.le_refl _) E161.1) E169.1) (Keep.of_wr W180).1) (Keep.of_wr W187).1) (Keep.of_wr W194).1) Kq207.1) Bd.notSynchronized (v := some (.ref b161)) (fun h => by rw [Bd.returns] at h; cases h) ?_ (R215.trans (CHv.at Xh219 hZ hEL R215.1)) (oLe rfl) (oLe rfl) (fun fs hr => retOut Xh219 hx Bd.returns rfl (Or.inr (Or.inr (Or.inr (Or.inr ⟨rfl, rfl, rfl⟩)))) (D d1_117) hr)
    show (Q_tag Z p1 G1 h0 n0) (some (.ref b161)) T207.heap _
    exact ⟨b161, t207, kb207, _, _, rfl, Nh219, f220, z164, f221, Vq207, Cq207, Aq207, Or.inr (Or.inr (Or.inr (⟨q0, q1, q2, hr_q0, hr_q1, hr_q2, rfl, rfl⟩)))⟩
abbrev fr_hin (m : MethodId) (a1 : Addr) (pc : Nat)  (st : List Value) : JFrame := mkF m pc #[vR a1] st
def Q_hin (Z : State) (a1 : Addr) (G1 : Int32) (h0 : Heap) (n0 : Nat) (v : Option Value) (h : Heap) (L : List Loc) : Prop := v = none ∧ Fr n0 L ∧ Keep h0 h [a1] ∧ ∃ (sb va : Addr) (kv : ClassId), h0.size ≤ sb ∧ h0.size ≤ va ∧ Exa Z h a1 "com/example/quayside/quayside/web/Html" ∧ Fld Z h a1 "com/example/quayside/quayside/web/Html" "html" "Ljava/lang/StringBuilder;" (.ref sb) ∧ Exa Z h sb "java/lang/StringBuilder" ∧ Fld Z h sb "java/lang/AbstractStringBuilder" "value" "[B" (.ref va) ∧ Fld Z h sb "java/lang/AbstractStringBuilder" "coder" "B" (iV 0) ∧ Fld Z h sb "java/lang/AbstractStringBuilder" "count" "I" (iV 0) ∧ Arv Z h va kv .byte (16 : Int32) [(iV 0), (iV 0), (iV 0), (iV 0), (iV 0), (iV 0), (iV 0), (iV 0), (iV 0), (iV 0), (iV 0), (iV 0), (iV 0), (iV 0), (iV 0), (iV 0)] (iV 0)
theorem ef_hin (m : MethodId) (x0 : Addr)  : entryFrame m #[(.ref x0)] 1 = mkF m 0 #[vR x0] [] := by first | (simp [entryFrame, mkF, argsToLocals, Value.category]; done) | rfl
set_option maxRecDepth 65536 in
set_option maxHeartbeats 40000000 in
theorem c_hin (l : Launch) (Z : State) (a0 : Array Value) (hw : HW a0 Z) (ws : List Jvm.Cond) (a1 : Addr) (G1 : Int32) (h0 : Heap) (n0 : Nat) (Z0 : n0 ≤ h0.size) (Eh : Exa Z h0 a1 "com/example/quayside/quayside/web/Html") (Fh : Fld Z h0 a1 "com/example/quayside/quayside/web/Html" "html" "Ljava/lang/StringBuilder;" .null) (g1 : n0 ≤ a1) (O2 : Sta Z Z.heap "java/lang/String" "COMPACT_STRINGS" "Z" (.int G1)) (P5 : ¬ (G1 = (0 : Int32))) (X00 : Old Z n0 h0) :
  MetFree l yM32 (head1 (Jvm.Cond.code yM32 prog_35_method_1_code 1 none :: ws) ({ frames := 3, cells := 2, slots := 20, locals := 42 } : Room)) (fun a U => a = #[(.ref a1)] ∧ Z.Warmed39 U.vm ∧ U.heap = h0) (fun _ _ _ _ _ => True) (fun _ U o U' => ∃ v L, o = .returned v ∧ (Q_hin Z a1 G1 h0 n0) v U'.heap L ∧ FrameEnd U o U' L ({ frames := 3, cells := 2, slots := 20, locals := 42 } : Room).cells ({ frames := 3, cells := 2, slots := 20, locals := 42 } : Room).slots) := by
 refine MetFree.of_bodySF (plainFor_of_name pn_28) hisR ?_
 intro p e s m args below meth c s₁ Bd hml0 hP hK
 obtain ⟨rfl, hZ, hHp⟩ := hP
 have hx := Bd.exec
 have D := fun {pc : Nat} {r} (h : decode _ pc = r) => hb Bd.bytes h
 have hml : c.maxLocals = 1 := hml0
 have hown : s.vm.findClass "com/example/quayside/quayside/web/Html" = some m.cls := findClass_of_methodNamed Bd.named
 have hnm := (name_of_methodNamed Bd.named Bd.method).1
 have X0 : Stand p l e ({ frames := 3, cells := 2, slots := 20, locals := 42 } : Room) s m #[(.ref a1)] below meth c s₁ [] 0 0 := Stand.of_body Bd
 have e0 : s₁.heap = h0 := by rw [← hHp, Bd.state]; rfl
 have N0 := Fr.nil n0
 refine ownOut (P := (Q_hin Z a1 G1 h0 n0)) ?_
 refine ownBy (A := s₁.setTop (mkF m 0 #[vR a1] [])) (fun t k => castTop (ef_hin m a1) k) ?_
 refine oTo s₁ (fr_hin m a1 1  [(.ref a1)]) (fun t kt => ?_) ?_
 ·refine XS.aloadN X0.here hx rfl (D d5_0) rfl rfl ?_
  exact kt
 obtain ⟨T21, X21, e21, st21⟩ := initO X0 hx hZ hown (Wd32 hw) (Wd16 hw) (Wd17 hw) e0 (g := (fr_hin m a1 1  [(.ref a1)])) rfl (by rw [hml]; rfl) rfl (D d5_1) (by decide) (W := 0) (oWt rfl) (by decide)
 refine ownBy st21 ?_
 clear st21
 show oA p e below _ T21 (fr_hin m a1 4  [])
 refine oTo T21 (fr_hin m a1 5  [(.ref a1)]) (fun t kt => ?_) ?_
 ·refine XS.aloadN X21.here hx rfl (D d5_4) rfl rfl ?_
  exact kt
 obtain ⟨T22, h22, X22, e22, E22, A22, D22, -, st22⟩ := newO X21 hx hZ hown (Wd33 hw) (Wd34 hw) (Wd35 hw) e21 (g := (fr_hin m a1 5  [(.ref a1)])) rfl (D d5_5) (by decide) (by decide)
 obtain ⟨b22, g22⟩ : ∃ z, z = h0.size := ⟨_, rfl⟩
 rw [← g22] at A22 D22 st22
 have ne23 : a1 ≠ b22 := Nat.ne_of_lt (Nat.lt_of_lt_of_le Eh.lt (Nat.le_of_eq g22.symm))
 have g24 : n0 ≤ b22 := Nat.le_trans Z0 (Nat.le_of_eq g22.symm)
 have z25 : h0.size ≤ b22 := Nat.le_trans (Nat.le_refl h0.size) (Nat.le_of_eq g22.symm)
 have F26 : Fld Z h22 b22 "java/lang/AbstractStringBuilder" "value" "[B" .null := D22 (Or.inl (Wd48 hw)) (ty := (.array .byte)) (by decide)
 have F27 : Fld Z h22 b22 "java/lang/AbstractStringBuilder" "coder" "B" (iV 0) := D22 (Or.inl (Wd50 hw)) (ty := .byte) (by decide)
 have F28 : Fld Z h22 b22 "java/lang/AbstractStringBuilder" "count" "I" (iV 0) := D22 (Or.inl (Wd81 hw)) (ty := .int) (by decide)
 refine ownBy st22 ?_
 clear st22
 show oA p e below _ T22 (fr_hin m a1 8  [(.ref b22), (.ref a1)])
 refine oTo T22 (fr_hin m a1 9  [(.ref b22), (.ref b22), (.ref a1)]) (fun t kt => ?_) ?_
 ·refine XS.dup X22.here hx rfl (D d5_8) rfl rfl ?_
  exact kt
 have f29 := (X00.ext E22)
 have f30 := (Nat.le_trans Z0 E22.1)
 obtain ⟨vv31, _, ⟨T31, L31, k31, n31⟩, -, X31, ⟨Lc31, hQ31, l31, y31, z31⟩, st31⟩ := X22.specialBack hx (y := yM10) rfl hown (mvT hZ (Wd36 hw)) (mvT hZ (Wd37 hw)) (mvT hZ (Wd38 hw)) (by decide) (backOf (W := 2) (c_sbi l Z a0 hw [] b22 _ G1 h22 n0 f30 A22 F26 F27 F28 g24 O2 P5 f29) hZ (Wd38 hw) (Wd35 hw) (by decide) (by decide)) (g := (fr_hin m a1 9  [(.ref b22), (.ref b22), (.ref a1)])) rfl (by rw [hml]; rfl) (Steps.refl _) (a := b22) (argsL := []) (rest := [(.ref b22), (.ref a1)]) (lenOf pd_29 rfl) rfl (oWt rfl) (D d5_9) (fun _ _ => ⟨rfl, e22, oLe rfl, oLe rfl⟩)
 dsimp only [Pt.U, Pt.locs, Pt.cells, Pt.slots] at X31 l31 y31 z31 st31 hQ31
 subst l31 y31 z31
 obtain ⟨rfl, Nq31, Kq31, t31, kv31, zq31, Eq31, Vq31, Cq31, Mq31, Aq31⟩ := hQ31
 have f33 := (Eh.ext E22)
 have ne32 : a1 ≠ t31 := Nat.ne_of_lt (Nat.lt_of_lt_of_le f33.lt zq31)
 have ne34 : b22 ≠ t31 := Nat.ne_of_lt (Nat.lt_of_lt_of_le A22.lt zq31)
 have g35 : n0 ≤ t31 := Nat.le_trans f30 zq31
 have f37 := (Nat.le_trans (Nat.le_refl h0.size) E22.1)
 have z36 : h0.size ≤ t31 := Nat.le_trans f37 zq31
 have N38 := Fr.app N0 Nq31
 obtain ⟨Lh39, Xh39, Nh39⟩ := oHd 2 20 X31 N38 rfl rfl
 refine ownSt st31 ?_
 clear st31
 show oA p e below _ T31 (fr_hin m a1 12  [(.ref b22), (.ref a1)])
 have f41 := ((Fh.ext E22).keep Kq31 (ninS ne23 nin0))
 have f42 := (f33.keep Kq31)
 obtain ⟨T40, h40, X40, e40, W40, st40⟩ := putF Xh39 hx hZ hown (host := "") (Or.inl (Wd51 hw)) Via.refl rfl f41 f42 (Or.inr ⟨(Wd52 hw), rfl, hnm⟩) (Wd27 hw) (ty := (.object "java/lang/StringBuilder")) (by decide) rfl rfl (g := (fr_hin m a1 12  [(.ref b22), (.ref a1)])) rfl rfl (D d5_12)
 have F43 := f41.same W40
 have N44 := Fr.snoc X40 Nh39 g1
 obtain ⟨Lh45, Xh45, Nh45⟩ := oHd 2 20 X40 N44 rfl rfl
 refine ownBy st40 ?_
 clear st40
 show oA p e below _ T40 (fr_hin m a1 15  [])
 have f46 := ((((Keep.refl h0 [a1]).ext E22).trans Kq31 (allS (Or.inr z25) all0)).wr W40 (Or.inl (List.mem_of_getElem? (i := 0) rfl)))
 have f47 := (f42.wr W40)
 have f48 := (Eq31.wr W40)
 have f49 := (Vq31.other W40 (Or.inl (Ne.symm ne23)))
 have f50 := (Cq31.other W40 (Or.inl (Ne.symm ne23)))
 have f51 := (Mq31.other W40 (Or.inl (Ne.symm ne23)))
 have f52 := (Aq31.other W40 (Ne.symm ne32))
 refine ownRet Xh45 Bd.notSynchronized (v := none) (fun _ => rfl) ?_ (oLe rfl) (oLe rfl) (fun fs hr => Xh45.returnOut hx Bd.returns (D d5_15) hr)
 show (Q_hin Z a1 G1 h0 n0) (none) T40.heap _
 rw [e40]
 exact ⟨rfl, Nh45, f46, b22, t31, kv31, z25, z36, f47, F43, f48, f49, f50, f51, f52⟩
abbrev fr_hcl (m : MethodId) (a1 : Addr) (x : Addr) (pc : Nat)  (st : List Value) : JFrame := mkF m pc #[vR a1, vR x] st
def Q_hcl (Z : State) (a1 : Addr) (x : Addr) (ta : Addr) (kb : ClassId) (z : Int32) (us : List Value) (sb : Addr) (va : Addr) (kv : ClassId) (zb : Int32) (vs : List Value) (cn : Int32) (w1 : List Value) (w2 : List Value) (w3 : List Value) (c1 : Int32) (c2 : Int32) (c3 : Int32) (G1 : Int32) (h0 : Heap) (n0 : Nat) (v : Option Value) (h : Heap) (L : List Loc) : Prop := v = some (.ref a1) ∧ Fr n0 L ∧ Keep h0 h [sb, va] ∧ Exa Z h sb "java/lang/StringBuilder" ∧ Fld Z h sb "java/lang/AbstractStringBuilder" "value" "[B" (.ref va) ∧ Fld Z h sb "java/lang/AbstractStringBuilder" "coder" "B" (iV 0) ∧ Fld Z h sb "java/lang/AbstractStringBuilder" "count" "I" (.int c3) ∧ Arv Z h va kv .byte zb w3 (iV 0)
theorem ef_hcl (m : MethodId) (x0 : Addr) (x1 : Addr)  : entryFrame m #[(.ref x0), (.ref x1)] 2 = mkF m 0 #[vR x0, vR x1] [] := by first | (simp [entryFrame, mkF, argsToLocals, Value.category]; done) | rfl
set_option maxRecDepth 65536 in
set_option maxHeartbeats 40000000 in
theorem c_hcl (l : Launch) (Z : State) (a0 : Array Value) (hw : HW a0 Z) (ws : List Jvm.Cond) (a1 : Addr) (x : Addr) (ta : Addr) (kb : ClassId) (z : Int32) (us : List Value) (sb : Addr) (va : Addr) (kv : ClassId) (zb : Int32) (vs : List Value) (cn : Int32) (w1 : List Value) (w2 : List Value) (w3 : List Value) (c1 : Int32) (c2 : Int32) (c3 : Int32) (G1 : Int32) (h0 : Heap) (n0 : Nat) (Z0 : n0 ≤ h0.size) (Eh : Exa Z h0 a1 "com/example/quayside/quayside/web/Html") (Fh : Fld Z h0 a1 "com/example/quayside/quayside/web/Html" "html" "Ljava/lang/StringBuilder;" (.ref sb)) (Es : Exa Z h0 x "java/lang/String") (Vs : Fld Z h0 x "java/lang/String" "value" "[B" (.ref ta)) (Cs : Fld Z h0 x "java/lang/String" "coder" "B" (iV 0)) (Ks : Arv Z h0 ta kb .byte z us (iV 0)) (Eb : Exa Z h0 sb "java/lang/StringBuilder") (Bv : Fld Z h0 sb "java/lang/AbstractStringBuilder" "value" "[B" (.ref va)) (Bc : Fld Z h0 sb "java/lang/AbstractStringBuilder" "coder" "B" (iV 0)) (Bn : Fld Z h0 sb "java/lang/AbstractStringBuilder" "count" "I" (.int cn)) (Ba : Arv Z h0 va kv .byte zb vs (iV 0)) (gb : n0 ≤ sb) (gv : n0 ≤ va) (ntv : ta ≠ va) (hzb : zb.toNatClampNeg = 16) (hC1 : Cpy vs [(iV 60), (iV 47)] w1 cn (2 : Int32) zb c1) (hC2 : Cpy w1 us w2 c1 z zb c2) (hC3 : Cps w2 w3 c2 zb c3 (62 : Int32)) (O2 : Sta Z Z.heap "java/lang/String" "COMPACT_STRINGS" "Z" (.int G1)) (P5 : ¬ (G1 = (0 : Int32))) (X00 : Old Z n0 h0) :
  MetFree l yM33 (head1 (Jvm.Cond.code yM33 prog_35_method_3_code 2 (some (.object "com/example/quayside/quayside/web/Html")) :: ws) ({ frames := 5, cells := 2, slots := 12, locals := 120 } : Room)) (fun a U => a = #[(.ref a1), (.ref x)] ∧ Z.Warmed39 U.vm ∧ U.heap = h0 ∧ CHv Z ownEL U.vm h0) (fun _ _ _ _ _ => True) (fun _ U o U' => ∃ v L, o = .returned v ∧ (Q_hcl Z a1 x ta kb z us sb va kv zb vs cn w1 w2 w3 c1 c2 c3 G1 h0 n0) v U'.heap L ∧ CHr Z ownEL U.vm U.heap U'.vm U'.heap ∧ ReturnedEndW U o U' L ({ frames := 5, cells := 2, slots := 12, locals := 120 } : Room).cells ({ frames := 5, cells := 2, slots := 12, locals := 120 } : Room).slots) := by
 refine MetFree.of_bodySF (plainFor_of_name pn_28) hisR ?_
 intro p e s m args below meth c s₁ Bd hml0 hP hK
 obtain ⟨rfl, hZ, hHp, hCH⟩ := hP
 have hx := Bd.exec
 have D := fun {pc : Nat} {r} (h : decode _ pc = r) => hb Bd.bytes h
 have hml : c.maxLocals = 2 := hml0
 have hown : s.vm.findClass "com/example/quayside/quayside/web/Html" = some m.cls := findClass_of_methodNamed Bd.named
 have hnm := (name_of_methodNamed Bd.named Bd.method).1
 have X0 : Stand p l e ({ frames := 5, cells := 2, slots := 12, locals := 120 } : Room) (s.setVm s.vm) m #[(.ref a1), (.ref x)] below meth c s₁ [] 0 0 := Stand.of_body Bd
 have e0 : s₁.heap = h0 := by rw [← hHp, Bd.state]; rfl
 have N0 := Fr.nil n0
 refine ownOutH hHp (P := (Q_hcl Z a1 x ta kb z us sb va kv zb vs cn w1 w2 w3 c1 c2 c3 G1 h0 n0)) ?_
 refine ownBy (A := s₁.setTop (mkF m 0 #[vR a1, vR x] [])) (fun t k => castTop (ef_hcl m a1 x) k) ?_
 have hS0 : s.Since s.vm h0.size := own_since
 have hEL := own_EW hw
 have R0 := CHr.refl hCH
 have wS := own_wS hw
 have nsv : sb ≠ va := Exa.neArv Eb Ba (Wd34 hw)
 have nxs : x ≠ sb := own_exa_ne Es Eb (by decide)
 have nxv : x ≠ va := Exa.neArv Es Ba (Wd5 hw)
 have nst : sb ≠ ta := Exa.neArv Eb Ks (Wd34 hw)
 have nxt : x ≠ ta := Exa.neArv Es Ks (Wd5 hw)
 have nhs : a1 ≠ sb := own_exa_ne Eh Eb (by decide)
 have nhv : a1 ≠ va := Exa.neArv Eh Ba (Wd27 hw)
 have sfb : Safe Z ownEL s.vm h0 sb := Safe.exa hZ.alike Eb (by decide) (by decide)
 have sfv : Safe Z ownEL s.vm h0 va := own_safe_len hZ (own_EN hw) Ba hzb
 refine oTo s₁ (fr_hcl m a1 x 1  [(.ref a1)]) (fun t kt => ?_) ?_
 ·refine XS.aloadN X0.here hx rfl (D d8_0) rfl rfl ?_
  exact kt
 refine own_getF X0 hx hZ hown (host := "") (Or.inl (Wd51 hw)) Via.refl e0 Fh (D d8_1) (fun T21 X21 e21 => ?_)
 obtain ⟨a22, T22, h22, k22, b22, kb22, X22, e22, E22, hS22, hk22, hZ22, hown22, A22, C22, V22, Ab22, -, -, hC22, Lt22, hne22, st22⟩ := ldcCH (text := "</") X21 hx hZ hown (Wd58 hw) wS e21 hS0 (Nat.le_refl _) hEL (by simp [ownEL]) R0.1 (vs := [(iV 60), (iV 47)]) (z := (2 : Int32)) ⟨by decide, by decide⟩ (by decide) rfl (g := (fr_hcl m a1 x 4  [(.ref sb)])) rfl (D d8_4) (n := 8) (by decide) (by decide) (by decide) (by decide)
 have R24 := R0.trans hC22
 have sf25 := CHr.safe hC22 Eb.lt sfb
 have sf26 := CHr.safe hC22 Ba.lt sfv
 have ne27 := hne22 sb sf25
 have ne28 := hne22 va sf26
 refine ownBy st22 ?_
 clear st22
 show oA p e below _ T22 (fr_hcl m a1 x 6  [(.ref a22), (.ref sb)])
 have f29 := (Eb.ext E22)
 have f30 := (Bv.ext E22)
 have f31 := (Bc.ext E22)
 have f32 := (Bn.ext E22)
 have f33 := (Ba.ext E22)
 have f34 := (X00.ext E22)
 have f35 := (Nat.le_trans Z0 E22.1)
 obtain ⟨cq36, kq36, q36a, q36b, q36c⟩ := isOf hZ22 e22 f29
 obtain ⟨vv36, _, ⟨T36, L36, k36, n36⟩, -, X36, ⟨Lc36, hQ36, l36, y36, z36⟩, st36⟩ := X22.virtualBack hx (y := yM16) (z := yM16) hown22 (mvT hZ22 (Wd59 hw)) (mvT hZ22 (Wd60 hw)) (oNf hZ22 (Wd62 hw)) (mvT hZ22 (Wd62 hw)) (mvT hZ22 (Wd61 hw)) (by decide) (backOf (W := 0) (c_sapp l Z a0 hw [] a22 b22 kb22 (2 : Int32) [(iV 60), (iV 47)] sb va kv zb vs cn w1 c1 G1 h22 n0 f35 A22 V22 C22 Ab22 f29 f30 f31 f32 f33 gb gv (Ne.symm ne28.2) hC1 O2 P5 f34) hZ22 (Wd63 hw) (Wd35 hw) (by decide) (by decide)) q36a q36c (g := (fr_hcl m a1 x 6  [(.ref a22), (.ref sb)])) rfl (by rw [hml]; rfl) (Steps.refl _) (argsL := [(.ref a22)]) (rest := []) (lenOf pd_30 rfl) rfl (oWt rfl) (D d8_6) (fun _ _ => ⟨rfl, e22, oLe rfl, oLe rfl⟩)
 dsimp only [Pt.U, Pt.locs, Pt.cells, Pt.slots] at X36 l36 y36 z36 st36 hQ36
 subst l36 y36 z36
 obtain ⟨rfl, Nq36, Kq36, Eq36, Vq36, Cq36, Mq36, Aq36⟩ := hQ36
 have N37 := Fr.app N0 Nq36
 have R38 := R24.trans (CHr.keep Kq36 (sfS sf25 (sfS sf26 sf0)) R24.1)
 have sf39 := Safe.keep Kq36 (sfS sf25 (sfS sf26 sf0)) R24.1 sf25
 have sf40 := Safe.keep Kq36 (sfS sf25 (sfS sf26 sf0)) R24.1 sf26
 obtain ⟨Lh41, Xh41, Nh41⟩ := oHd 2 12 X36 N37 rfl rfl
 refine ownSt st36 ?_
 clear st36
 show oA p e below _ T36 (fr_hcl m a1 x 9  [(.ref sb)])
 refine oTo T36 (fr_hcl m a1 x 10  [(.ref x), (.ref sb)]) (fun t kt => ?_) ?_
 ·refine XS.aloadN Xh41.here hx rfl (D d8_9) rfl rfl ?_
  exact kt
 have f42 := ((Es.ext E22).keep Kq36)
 have f43 := ((Vs.ext E22).keep Kq36 (ninS nxs (ninS nxv nin0)))
 have f44 := ((Cs.ext E22).keep Kq36 (ninS nxs (ninS nxv nin0)))
 have f45 := ((Ks.ext E22).keep Kq36 (ninS (Ne.symm nst) (ninS ntv nin0)))
 have f46 := (f34.keep Kq36 (allS gb (allS gv all0)))
 have f47 := (Nat.le_trans f35 Kq36.1)
 obtain ⟨cq48, kq48, q48a, q48b, q48c⟩ := isOf hZ22 rfl Eq36
 obtain ⟨vv48, _, ⟨T48, L48, k48, n48⟩, -, X48, ⟨Lc48, hQ48, l48, y48, z48⟩, st48⟩ := Xh41.virtualBack hx (y := yM16) (z := yM16) hown22 (mvT hZ22 (Wd59 hw)) (mvT hZ22 (Wd60 hw)) (oNf hZ22 (Wd62 hw)) (mvT hZ22 (Wd62 hw)) (mvT hZ22 (Wd61 hw)) (by decide) (backOf (W := 0) (c_sapp l Z a0 hw [] x ta kb z us sb va kv zb w1 c1 w2 c2 G1 T36.heap n0 f47 f42 f43 f44 f45 Eq36 Vq36 Cq36 Mq36 Aq36 gb gv ntv hC2 O2 P5 f46) hZ22 (Wd63 hw) (Wd35 hw) (by decide) (by decide)) q48a q48c (g := (fr_hcl m a1 x 10  [(.ref x), (.ref sb)])) rfl (by rw [hml]; rfl) (Steps.refl _) (argsL := [(.ref x)]) (rest := []) (lenOf pd_30 rfl) rfl (oWt rfl) (D d8_10) (fun _ _ => ⟨rfl, rfl, oLe rfl, oLe rfl⟩)
 dsimp only [Pt.U, Pt.locs, Pt.cells, Pt.slots] at X48 l48 y48 z48 st48 hQ48
 subst l48 y48 z48
 obtain ⟨rfl, Nq48, Kq48, Eq48, Vq48, Cq48, Mq48, Aq48⟩ := hQ48
 have N49 := Fr.app Nh41 Nq48
 have R50 := R38.trans (CHr.keep Kq48 (sfS sf39 (sfS sf40 sf0)) R38.1)
 have sf51 := Safe.keep Kq48 (sfS sf39 (sfS sf40 sf0)) R38.1 sf39
 have sf52 := Safe.keep Kq48 (sfS sf39 (sfS sf40 sf0)) R38.1 sf40
 obtain ⟨Lh53, Xh53, Nh53⟩ := oHd 2 12 X48 N49 rfl rfl
 refine ownSt st48 ?_
 clear st48
 show oA p e below _ T48 (fr_hcl m a1 x 13  [(.ref sb)])
 refine oTo T48 (fr_hcl m a1 x 15  [(iV 62), (.ref sb)]) (fun t kt => ?_) ?_
 ·refine XS.bipush Xh53.here hx rfl (D d8_13) ?_
  exact kt
 have f54 := (f46.keep Kq48 (allS gb (allS gv all0)))
 have f55 := (Nat.le_trans f47 Kq48.1)
 obtain ⟨cq56, kq56, q56a, q56b, q56c⟩ := isOf hZ22 rfl Eq48
 obtain ⟨vv56, _, ⟨T56, L56, k56, n56⟩, -, X56, ⟨Lc56, hQ56, l56, y56, z56⟩, st56⟩ := Xh53.virtualBack hx (y := yM20) (z := yM20) hown22 (mvT hZ22 (Wd107 hw)) (mvT hZ22 (Wd108 hw)) (oNf hZ22 (Wd110 hw)) (mvT hZ22 (Wd110 hw)) (mvT hZ22 (Wd109 hw)) (by decide) (backOf (W := 0) (c_sapc l Z a0 hw [] sb va kv zb w2 c2 w3 c3 G1 T48.heap n0 f55 Eq48 Vq48 Cq48 Mq48 Aq48 gb gv hC3 O2 P5 f54) hZ22 (Wd111 hw) (Wd35 hw) (by decide) (by decide)) q56a q56c (g := (fr_hcl m a1 x 15  [(iV 62), (.ref sb)])) rfl (by rw [hml]; rfl) (Steps.refl _) (argsL := [(iV 62)]) (rest := []) (lenOf pd_31 rfl) rfl (oWt rfl) (D d8_15) (fun _ _ => ⟨rfl, rfl, oLe rfl, oLe rfl⟩)
 dsimp only [Pt.U, Pt.locs, Pt.cells, Pt.slots] at X56 l56 y56 z56 st56 hQ56
 subst l56 y56 z56
 obtain ⟨rfl, Nq56, Kq56, Eq56, Vq56, Cq56, Mq56, Aq56⟩ := hQ56
 have N57 := Fr.app Nh53 Nq56
 have R58 := R50.trans (CHr.keep Kq56 (sfS sf51 (sfS sf52 sf0)) R50.1)
 have sf59 := Safe.keep Kq56 (sfS sf51 (sfS sf52 sf0)) R50.1 sf51
 have sf60 := Safe.keep Kq56 (sfS sf51 (sfS sf52 sf0)) R50.1 sf52
 obtain ⟨Lh61, Xh61, Nh61⟩ := oHd 2 12 X56 N57 rfl rfl
 refine ownSt st56 ?_
 clear st56
 show oA p e below _ T56 (fr_hcl m a1 x 18  [(.ref sb)])
 refine oTo T56 (fr_hcl m a1 x 20  [(.ref a1)]) (fun t kt => ?_) ?_
 ·refine XS.pop Xh61.here hx rfl (D d8_18) rfl rfl ?_
  refine XS.aloadN Xh61.here hx rfl (D d8_19) rfl rfl ?_
  exact kt
 have f62 := (((((Keep.refl h0 [sb, va]).ext E22).trans Kq36 (allS (Or.inl (List.mem_of_getElem? (i := 0) rfl)) (allS (Or.inl (List.mem_of_getElem? (i := 1) rfl)) all0))).trans Kq48 (allS (Or.inl (List.mem_of_getElem? (i := 0) rfl)) (allS (Or.inl (List.mem_of_getElem? (i := 1) rfl)) all0))).trans Kq56 (allS (Or.inl (List.mem_of_getElem? (i := 0) rfl)) (allS (Or.inl (List.mem_of_getElem? (i := 1) rfl)) all0)))
 refine ownRetH Xh61 hS22 (Nat.le_trans (Nat.le_trans (Nat.le_trans hk22 Kq36.1) Kq48.1) Kq56.1) Bd.notSynchronized (v := some (.ref a1)) (fun h => by rw [Bd.returns] at h; cases h) ?_ (R58.trans (CHv.at Xh61 hZ22 hEL R58.1)) (oLe rfl) (oLe rfl) (fun fs hr => retOut Xh61 hx Bd.returns rfl (Or.inr (Or.inr (Or.inr (Or.inr ⟨rfl, rfl, rfl⟩)))) (D d8_20) hr)
 show (Q_hcl Z a1 x ta kb z us sb va kv zb vs cn w1 w2 w3 c1 c2 c3 G1 h0 n0) (some (.ref a1)) T56.heap _
 exact ⟨rfl, Nh61, f62, Eq56, Vq56, Cq56, Mq56, Aq56⟩
def Q_hts (Z : State) (a1 : Addr) (sb : Addr) (va : Addr) (kv : ClassId) (zb : Int32) (vs : List Value) (cn : Int32) (rs : List Value) (G1 : Int32) (h0 : Heap) (n0 : Nat) (v : Option Value) (h : Heap) (L : List Loc) : Prop := ∃ (xn tn : Addr) (kn : ClassId), v = some (.ref xn) ∧ Fr n0 L ∧ Keep h0 h [] ∧ h0.size ≤ xn ∧ h0.size ≤ tn ∧ Exa Z h xn "java/lang/String" ∧ Fld Z h xn "java/lang/String" "value" "[B" (.ref tn) ∧ Fld Z h xn "java/lang/String" "coder" "B" (iV 0) ∧ Arv Z h tn kn .byte cn rs (iV 0)
theorem ef_hts (m : MethodId) (x0 : Addr)  : entryFrame m #[(.ref x0)] 1 = mkF m 0 #[vR x0] [] := by first | (simp [entryFrame, mkF, argsToLocals, Value.category]; done) | rfl
set_option maxRecDepth 65536 in
set_option maxHeartbeats 40000000 in
theorem c_hts (l : Launch) (Z : State) (a0 : Array Value) (hw : HW a0 Z) (ws : List Jvm.Cond) (a1 : Addr) (sb : Addr) (va : Addr) (kv : ClassId) (zb : Int32) (vs : List Value) (cn : Int32) (rs : List Value) (G1 : Int32) (h0 : Heap) (n0 : Nat) (Z0 : n0 ≤ h0.size) (Eh : Exa Z h0 a1 "com/example/quayside/quayside/web/Html") (Fh : Fld Z h0 a1 "com/example/quayside/quayside/web/Html" "html" "Ljava/lang/StringBuilder;" (.ref sb)) (Eb : Exa Z h0 sb "java/lang/StringBuilder") (Bv : Fld Z h0 sb "java/lang/AbstractStringBuilder" "value" "[B" (.ref va)) (Bc : Fld Z h0 sb "java/lang/AbstractStringBuilder" "coder" "B" (iV 0)) (Bn : Fld Z h0 sb "java/lang/AbstractStringBuilder" "count" "I" (.int cn)) (Ba : Arv Z h0 va kv .byte zb vs (iV 0)) (hC : Cor vs rs cn zb 16) (O2 : Sta Z Z.heap "java/lang/String" "COMPACT_STRINGS" "Z" (.int G1)) (P5 : ¬ (G1 = (0 : Int32))) (X00 : Old Z n0 h0) :
  MetFree l yM34 (head1 (Jvm.Cond.code yM34 prog_35_method_6_code 1 (some (.object "java/lang/String")) :: ws) ({ frames := 6, cells := 2, slots := 20, locals := 135 } : Room)) (fun a U => a = #[(.ref a1)] ∧ Z.Warmed39 U.vm ∧ U.heap = h0) (fun _ _ _ _ _ => True) (fun _ U o U' => ∃ v L, o = .returned v ∧ (Q_hts Z a1 sb va kv zb vs cn rs G1 h0 n0) v U'.heap L ∧ FrameEnd U o U' L ({ frames := 6, cells := 2, slots := 20, locals := 135 } : Room).cells ({ frames := 6, cells := 2, slots := 20, locals := 135 } : Room).slots) := by
 refine MetFree.of_bodySF (plainFor_of_name pn_28) hisR ?_
 intro p e s m args below meth c s₁ Bd hml0 hP hK
 obtain ⟨rfl, hZ, hHp⟩ := hP
 have hx := Bd.exec
 have D := fun {pc : Nat} {r} (h : decode _ pc = r) => hb Bd.bytes h
 have hml : c.maxLocals = 1 := hml0
 have hown : s.vm.findClass "com/example/quayside/quayside/web/Html" = some m.cls := findClass_of_methodNamed Bd.named
 have hnm := (name_of_methodNamed Bd.named Bd.method).1
 have X0 : Stand p l e ({ frames := 6, cells := 2, slots := 20, locals := 135 } : Room) s m #[(.ref a1)] below meth c s₁ [] 0 0 := Stand.of_body Bd
 have e0 : s₁.heap = h0 := by rw [← hHp, Bd.state]; rfl
 have N0 := Fr.nil n0
 refine ownOut (P := (Q_hts Z a1 sb va kv zb vs cn rs G1 h0 n0)) ?_
 refine ownBy (A := s₁.setTop (mkF m 0 #[vR a1] [])) (fun t k => castTop (ef_hts m a1) k) ?_
 have nsv : sb ≠ va := Exa.neArv Eb Ba (Wd34 hw)
 have nhs : a1 ≠ sb := own_exa_ne Eh Eb (by decide)
 have nhv : a1 ≠ va := Exa.neArv Eh Ba (Wd27 hw)
 refine oTo s₁ (mkF m 1 #[vR a1] [(.ref a1)]) (fun t kt => ?_) ?_
 ·refine XS.aloadN X0.here hx rfl (D d21_0) rfl rfl ?_
  exact kt
 refine own_getF X0 hx hZ hown (host := "") (Or.inl (Wd51 hw)) Via.refl e0 Fh (D d21_1) (fun T21 X21 e21 => ?_)
 obtain ⟨cq22, kq22, q22a, q22b, q22c⟩ := isOf hZ e21 Eb
 obtain ⟨vv22, _, ⟨T22, L22, k22, n22⟩, -, X22, ⟨Lc22, hQ22, l22, y22, z22⟩, st22⟩ := X21.virtualBack hx (y := yM30) (z := yM30) hown (mvT hZ (Wd130 hw)) (mvT hZ (Wd131 hw)) (oNf hZ (Wd133 hw)) (mvT hZ (Wd133 hw)) (mvT hZ (Wd132 hw)) (by decide) (backOf (W := 0) (c_sts l Z a0 hw [] sb va kv zb vs cn rs G1 h0 n0 Z0 Eb Bv Bc Bn Ba hC O2 P5 X00) hZ (Wd134 hw) (Wd35 hw) (by decide) (by decide)) q22a q22c (g := (mkF m 4 #[vR a1] [(.ref sb)])) rfl (by rw [hml]; rfl) (Steps.refl _) (argsL := []) (rest := []) (lenOf pd_32 rfl) rfl (oWt rfl) (D d21_4) (fun _ _ => ⟨rfl, e21, oLe rfl, oLe rfl⟩)
 dsimp only [Pt.U, Pt.locs, Pt.cells, Pt.slots] at X22 l22 y22 z22 st22 hQ22
 subst l22 y22 z22
 obtain ⟨x22, t22, kn22, rfl, Nq22, Kq22, zx22, zq22, Eq22, Vq22, Cq22, Aq22⟩ := hQ22
 have ne23 : sb ≠ x22 := Nat.ne_of_lt (Nat.lt_of_lt_of_le Eb.lt zx22)
 have ne24 : va ≠ x22 := Nat.ne_of_lt (Nat.lt_of_lt_of_le Ba.lt zx22)
 have ne25 : a1 ≠ x22 := Nat.ne_of_lt (Nat.lt_of_lt_of_le Eh.lt zx22)
 have g26 : n0 ≤ x22 := Nat.le_trans Z0 zx22
 have z27 : h0.size ≤ x22 := Nat.le_trans (Nat.le_refl h0.size) zx22
 have ne28 : sb ≠ t22 := Nat.ne_of_lt (Nat.lt_of_lt_of_le Eb.lt zq22)
 have ne29 : va ≠ t22 := Nat.ne_of_lt (Nat.lt_of_lt_of_le Ba.lt zq22)
 have ne30 : a1 ≠ t22 := Nat.ne_of_lt (Nat.lt_of_lt_of_le Eh.lt zq22)
 have g31 : n0 ≤ t22 := Nat.le_trans Z0 zq22
 have z32 : h0.size ≤ t22 := Nat.le_trans (Nat.le_refl h0.size) zq22
 have N33 := Fr.app N0 Nq22
 obtain ⟨Lh34, Xh34, Nh34⟩ := oHd 2 20 X22 N33 rfl rfl
 refine ownSt st22 ?_
 clear st22
 show oA p e below _ T22 (mkF m 7 #[vR a1] [(.ref x22)])
 have f35 := ((Keep.refl h0 []).trans Kq22 all0)
 refine ownRet Xh34 Bd.notSynchronized (v := some (.ref x22)) (fun h => by rw [Bd.returns] at h; cases h) ?_ (oLe rfl) (oLe rfl) (fun fs hr => retOut Xh34 hx Bd.returns rfl (Or.inr (Or.inr (Or.inr (Or.inr ⟨rfl, rfl, rfl⟩)))) (D d21_7) hr)
 show (Q_hts Z a1 sb va kv zb vs cn rs G1 h0 n0) (some (.ref x22)) T22.heap _
 exact ⟨x22, t22, kn22, rfl, Nh34, f35, z27, z32, Eq22, Vq22, Cq22, Aq22⟩
abbrev fr_clg0 (m : MethodId) (x : Addr) (of : Int32) (ky : Addr) (pc : Nat) (x3_ : Slot) (st : List Value) : JFrame := mkF m pc #[vR x, vI of, vR ky, x3_] st
def Q_clg0 (Z : State) (x : Addr) (ta : Addr) (kb : ClassId) (z : Int32) (us : List Value) (of : Int32) (ky : Addr) (tb : Addr) (kc : ClassId) (G1 : Int32) (G3 : Value) (h0 : Heap) (n0 : Nat) (v : Option Value) (h : Heap) (L : List Loc) : Prop := v = some (iV 1) ∧ Fr n0 L ∧ h = h0
theorem ef_clg0 (m : MethodId) (x0 : Addr) (x1 : Int32) (x2 : Addr)  : entryFrame m #[(.ref x0), (.int x1), (.ref x2)] 4 = mkF m 0 #[vR x0, vI x1, vR x2, .unset] [] := by first | (simp [entryFrame, mkF, argsToLocals, Value.category]; done) | rfl
set_option maxRecDepth 65536 in
set_option maxHeartbeats 40000000 in
theorem c_clg0 (l : Launch) (Z : State) (a0 : Array Value) (hw : HW a0 Z) (ws : List Jvm.Cond) (x : Addr) (ta : Addr) (kb : ClassId) (z : Int32) (us : List Value) (of : Int32) (ky : Addr) (tb : Addr) (kc : ClassId) (G1 : Int32) (G3 : Value) (h0 : Heap) (n0 : Nat) (Z0 : n0 ≤ h0.size) (Es : Exa Z h0 x "java/lang/String") (Vs : Fld Z h0 x "java/lang/String" "value" "[B" (.ref ta)) (Cs : Fld Z h0 x "java/lang/String" "coder" "B" (iV 0)) (Ks : Arv Z h0 ta kb .byte z us (iV 0)) (Ey : Exa Z h0 ky "java/lang/String") (Vy : Fld Z h0 ky "java/lang/String" "value" "[B" (.ref tb)) (Cy : Fld Z h0 ky "java/lang/String" "coder" "B" (iV 0)) (Ky : Arv Z h0 tb kc .byte (0 : Int32) [] (iV 0)) (hz : (z >>> ((0 : Int32) &&& 31)) = z) (hge : ¬ (z < ((of + (0 : Int32)) + (3 : Int32)))) (hp0 : Chl z us of (60 : Int32)) (hp1 : Chl z us (of + (1 : Int32)) (47 : Int32)) (hp2 : Chl z us ((of + (2 : Int32)) + (0 : Int32)) (62 : Int32)) (O2 : Sta Z Z.heap "java/lang/String" "COMPACT_STRINGS" "Z" (.int G1)) (P5 : ¬ (G1 = (0 : Int32))) (O4 : Sta Z Z.heap "jdk/internal/util/Preconditions" "SIOOBE_FORMATTER" "Ljava/util/function/BiFunction;" G3) (rG3 : G3.isRef = true) (X00 : Old Z n0 h0) :
  MetFree l yM35 (head1 (Jvm.Cond.code yM35 method_4_code 4 (some .boolean) :: ws) ({ frames := 4, cells := 0, slots := 0, locals := 60 } : Room)) (fun a U => a = #[(.ref x), (.int of), (.ref ky)] ∧ Z.Warmed39 U.vm ∧ U.heap = h0) (fun _ _ _ _ _ => True) (fun _ U o U' => ∃ v L, o = .returned v ∧ (Q_clg0 Z x ta kb z us of ky tb kc G1 G3 h0 n0) v U'.heap L ∧ FrameEnd U o U' L ({ frames := 4, cells := 0, slots := 0, locals := 60 } : Room).cells ({ frames := 4, cells := 0, slots := 0, locals := 60 } : Room).slots) := by
 refine MetFree.of_bodySF (plainFor_of_name pn_26) hisR ?_
 intro p e s m args below meth c s₁ Bd hml0 hP hK
 obtain ⟨rfl, hZ, hHp⟩ := hP
 have hx := Bd.exec
 have D := fun {pc : Nat} {r} (h : decode _ pc = r) => hb Bd.bytes h
 have hml : c.maxLocals = 4 := hml0
 have hown : s.vm.findClass "com/example/quayside/quayside/web/HtmlClosePinLaw" = some m.cls := findClass_of_methodNamed Bd.named
 have hnm := (name_of_methodNamed Bd.named Bd.method).1
 have X0 : Stand p l e ({ frames := 4, cells := 0, slots := 0, locals := 60 } : Room) s m #[(.ref x), (.int of), (.ref ky)] below meth c s₁ [] 0 0 := Stand.of_body Bd
 have e0 : s₁.heap = h0 := by rw [← hHp, Bd.state]; rfl
 have N0 := Fr.nil n0
 refine ownOut (P := (Q_clg0 Z x ta kb z us of ky tb kc G1 G3 h0 n0)) ?_
 refine ownBy (A := s₁.setTop (mkF m 0 #[vR x, vI of, vR ky, .unset] [])) (fun t k => castTop (ef_clg0 m x of ky) k) ?_
 refine oTo s₁ (fr_clg0 m x of ky 1 .unset [(.ref ky)]) (fun t kt => ?_) ?_
 ·refine XS.aloadN X0.here hx rfl (D d32_0) rfl rfl ?_
  exact kt
 obtain ⟨cq21, kq21, q21a, q21b, q21c⟩ := isOf hZ e0 Ey
 obtain ⟨vv21, _, ⟨T21, L21, k21, n21⟩, -, X21, ⟨Lc21, hQ21, l21, y21, z21⟩, st21⟩ := X0.virtualBack hx (y := yM4) (z := yM4) hown (mvT hZ (Wd174 hw)) (mvT hZ (Wd70 hw)) (oNf hZ (Wd72 hw)) (mvT hZ (Wd72 hw)) (mvT hZ (Wd71 hw)) (by decide) (backOf (W := 0) (c_leng l Z a0 hw [] ky tb kc (0 : Int32) [] G1 h0 n0 Z0 Ey Vy Cy Ky (by decide +kernel) O2 P5 X00) hZ (Wd73 hw) (Wd6 hw) (by decide) (by decide)) q21a q21c (g := (fr_clg0 m x of ky 1 .unset [(.ref ky)])) rfl (by rw [hml]; rfl) (Steps.refl _) (argsL := []) (rest := []) (lenOf pd_15 rfl) rfl (oWt rfl) (D d32_1) (fun _ _ => ⟨rfl, e0, oLe rfl, oLe rfl⟩)
 dsimp only [Pt.U, Pt.locs, Pt.cells, Pt.slots] at X21 l21 y21 z21 st21 hQ21
 subst l21 y21 z21
 obtain ⟨rfl, Nq21, Eq21⟩ := hQ21
 have N22 := Fr.app N0 Nq21
 obtain ⟨Lh23, Xh23, Nh23⟩ := oHd 0 0 X21 N22 rfl rfl
 refine ownSt st21 ?_
 clear st21
 show oA p e below _ T21 (fr_clg0 m x of ky 4 .unset [(iV 0)])
 refine oTo T21 (fr_clg0 m x of ky 6 (vI 0) [(.ref x)]) (fun t kt => ?_) ?_
 ·refine XS.istoreN Xh23.here hx rfl (D d32_4) rfl (l' := #[vR x, vI of, vR ky, vI 0]) rfl ?_
  refine XS.aloadN Xh23.here hx rfl (D d32_5) rfl rfl ?_
  exact kt
 obtain ⟨cq24, kq24, q24a, q24b, q24c⟩ := isOf hZ Eq21 Es
 obtain ⟨vv24, _, ⟨T24, L24, k24, n24⟩, -, X24, ⟨Lc24, hQ24, l24, y24, z24⟩, st24⟩ := Xh23.virtualBack hx (y := yM4) (z := yM4) hown (mvT hZ (Wd174 hw)) (mvT hZ (Wd70 hw)) (oNf hZ (Wd72 hw)) (mvT hZ (Wd72 hw)) (mvT hZ (Wd71 hw)) (by decide) (backOf (W := 0) (c_leng l Z a0 hw [] x ta kb z us G1 h0 n0 Z0 Es Vs Cs Ks hz O2 P5 X00) hZ (Wd73 hw) (Wd6 hw) (by decide) (by decide)) q24a q24c (g := (fr_clg0 m x of ky 6 (vI 0) [(.ref x)])) rfl (by rw [hml]; rfl) (Steps.refl _) (argsL := []) (rest := []) (lenOf pd_15 rfl) rfl (oWt rfl) (D d32_6) (fun _ _ => ⟨rfl, Eq21, oLe rfl, oLe rfl⟩)
 dsimp only [Pt.U, Pt.locs, Pt.cells, Pt.slots] at X24 l24 y24 z24 st24 hQ24
 subst l24 y24 z24
 obtain ⟨rfl, Nq24, Eq24⟩ := hQ24
 have N25 := Fr.app Nh23 Nq24
 obtain ⟨Lh26, Xh26, Nh26⟩ := oHd 0 0 X24 N25 rfl rfl
 refine ownSt st24 ?_
 clear st24
 show oA p e below _ T24 (fr_clg0 m x of ky 9 (vI 0) [(.int z)])
 refine oTo T24 (fr_clg0 m x of ky 21 (vI 0) [(.int of), (.ref x)]) (fun t kt => ?_) ?_
 ·refine XS.iloadN Xh26.here hx rfl (D d32_9) rfl ?_
  refine XS.iloadN Xh26.here hx rfl (D d32_10) rfl ?_
  refine XS.iadd Xh26.here hx rfl (D d32_11) rfl ?_
  refine XS.iconst Xh26.here hx rfl (D d32_12) ?_
  show Steps p.tables e below (T24.setTop (fr_clg0 m x of ky 13 (vI 0) [(iV 3), (.int (of + (0 : Int32))), (.int z)])) t
  refine XS.iadd Xh26.here hx rfl (D d32_13) rfl ?_
  refine XS.icmpYes Xh26.here hx rfl (pc0 := 14) (pc' := 19) rfl (D d32_14) rfl (flt hge).2.1 (by decide) (by decide) ?_
  refine XS.aloadN Xh26.here hx rfl (D d32_19) rfl rfl ?_
  refine XS.iloadN Xh26.here hx rfl (D d32_20) rfl ?_
  exact kt
 obtain ⟨cq27, kq27, q27a, q27b, q27c⟩ := isOf hZ Eq24 Es
 obtain ⟨vv27, _, ⟨T27, L27, k27, n27⟩, -, X27, ⟨Lc27, hQ27, l27, y27, z27⟩, st27⟩ := Xh26.virtualBack hx (y := yM8) (z := yM8) hown (mvT hZ (Wd175 hw)) (mvT hZ (Wd176 hw)) (oNf hZ (Wd178 hw)) (mvT hZ (Wd178 hw)) (mvT hZ (Wd177 hw)) (by decide) (backOf (W := 0) (c_chat l Z a0 hw [] x ta kb z us of (60 : Int32) G1 G3 h0 n0 Z0 Es Vs Cs Ks hp0 O2 P5 O4 rG3 X00) hZ (Wd179 hw) (Wd6 hw) (by decide) (by decide)) q27a q27c (g := (fr_clg0 m x of ky 21 (vI 0) [(.int of), (.ref x)])) rfl (by rw [hml]; rfl) (Steps.refl _) (argsL := [(.int of)]) (rest := []) (lenOf pd_33 rfl) rfl (oWt rfl) (D d32_21) (fun _ _ => ⟨rfl, Eq24, oLe rfl, oLe rfl⟩)
 dsimp only [Pt.U, Pt.locs, Pt.cells, Pt.slots] at X27 l27 y27 z27 st27 hQ27
 subst l27 y27 z27
 obtain ⟨rfl, Nq27, Eq27⟩ := hQ27
 have N28 := Fr.app Nh26 Nq27
 obtain ⟨Lh29, Xh29, Nh29⟩ := oHd 0 0 X27 N28 rfl rfl
 refine ownSt st27 ?_
 clear st27
 show oA p e below _ T27 (fr_clg0 m x of ky 24 (vI 0) [(iV 60)])
 refine oTo T27 (fr_clg0 m x of ky 35 (vI 0) [(.int (of + (1 : Int32))), (.ref x)]) (fun t kt => ?_) ?_
 ·refine XS.bipush Xh29.here hx rfl (D d32_24) ?_
  refine XS.icmpYes Xh29.here hx rfl (pc0 := 26) (pc' := 31) rfl (D d32_26) rfl (teq ((by decide) : (60 : Int32) = (60 : Int32))).1 (by decide) (by decide) ?_
  refine XS.aloadN Xh29.here hx rfl (D d32_31) rfl rfl ?_
  refine XS.iloadN Xh29.here hx rfl (D d32_32) rfl ?_
  show Steps p.tables e below (T27.setTop (fr_clg0 m x of ky 33 (vI 0) [(.int of), (.ref x)])) t
  refine XS.iconst Xh29.here hx rfl (D d32_33) ?_
  refine XS.iadd Xh29.here hx rfl (D d32_34) rfl ?_
  exact kt
 obtain ⟨cq30, kq30, q30a, q30b, q30c⟩ := isOf hZ Eq27 Es
 obtain ⟨vv30, _, ⟨T30, L30, k30, n30⟩, -, X30, ⟨Lc30, hQ30, l30, y30, z30⟩, st30⟩ := Xh29.virtualBack hx (y := yM8) (z := yM8) hown (mvT hZ (Wd175 hw)) (mvT hZ (Wd176 hw)) (oNf hZ (Wd178 hw)) (mvT hZ (Wd178 hw)) (mvT hZ (Wd177 hw)) (by decide) (backOf (W := 0) (c_chat l Z a0 hw [] x ta kb z us (of + (1 : Int32)) (47 : Int32) G1 G3 h0 n0 Z0 Es Vs Cs Ks hp1 O2 P5 O4 rG3 X00) hZ (Wd179 hw) (Wd6 hw) (by decide) (by decide)) q30a q30c (g := (fr_clg0 m x of ky 35 (vI 0) [(.int (of + (1 : Int32))), (.ref x)])) rfl (by rw [hml]; rfl) (Steps.refl _) (argsL := [(.int (of + (1 : Int32)))]) (rest := []) (lenOf pd_33 rfl) rfl (oWt rfl) (D d32_35) (fun _ _ => ⟨rfl, Eq27, oLe rfl, oLe rfl⟩)
 dsimp only [Pt.U, Pt.locs, Pt.cells, Pt.slots] at X30 l30 y30 z30 st30 hQ30
 subst l30 y30 z30
 obtain ⟨rfl, Nq30, Eq30⟩ := hQ30
 have N31 := Fr.app Nh29 Nq30
 obtain ⟨Lh32, Xh32, Nh32⟩ := oHd 0 0 X30 N31 rfl rfl
 refine ownSt st30 ?_
 clear st30
 show oA p e below _ T30 (fr_clg0 m x of ky 38 (vI 0) [(iV 47)])
 refine oTo T30 (fr_clg0 m x of ky 116 (vI 0) [(.int ((of + (2 : Int32)) + (0 : Int32))), (.ref x)]) (fun t kt => ?_) ?_
 ·refine XS.bipush Xh32.here hx rfl (D d32_38) ?_
  refine XS.icmpYes Xh32.here hx rfl (pc0 := 40) (pc' := 45) rfl (D d32_40) rfl (teq ((by decide) : (47 : Int32) = (47 : Int32))).1 (by decide) (by decide) ?_
  refine XS.iloadN Xh32.here hx rfl (D d32_45) rfl ?_
  refine XS.ifYes Xh32.here hx rfl (pc0 := 46) (pc' := 66) rfl (D d32_46) rfl ((if0 _ _).trans (flt ((by decide) : ¬ ((0 : Int32) < (0 : Int32)))).2.2.2) (by decide) (by decide) ?_
  show Steps p.tables e below (T30.setTop (fr_clg0 m x of ky 66 (vI 0) [])) t
  refine XS.iloadN Xh32.here hx rfl (D d32_66) rfl ?_
  refine XS.iconst Xh32.here hx rfl (D d32_67) ?_
  refine XS.icmpYes Xh32.here hx rfl (pc0 := 68) (pc' := 88) rfl (D d32_68) rfl (flt ((by decide) : ¬ ((1 : Int32) < (0 : Int32)))).2.2.2 (by decide) (by decide) ?_
  refine XS.iloadN Xh32.here hx rfl (D d32_88) rfl ?_
  show Steps p.tables e below (T30.setTop (fr_clg0 m x of ky 89 (vI 0) [(iV 0)])) t
  refine XS.iconst Xh32.here hx rfl (D d32_89) ?_
  refine XS.icmpYes Xh32.here hx rfl (pc0 := 90) (pc' := 110) rfl (D d32_90) rfl (flt ((by decide) : ¬ ((2 : Int32) < (0 : Int32)))).2.2.2 (by decide) (by decide) ?_
  refine XS.aloadN Xh32.here hx rfl (D d32_110) rfl rfl ?_
  refine XS.iloadN Xh32.here hx rfl (D d32_111) rfl ?_
  show Steps p.tables e below (T30.setTop (fr_clg0 m x of ky 112 (vI 0) [(.int of), (.ref x)])) t
  refine XS.iconst Xh32.here hx rfl (D d32_112) ?_
  refine XS.iadd Xh32.here hx rfl (D d32_113) rfl ?_
  refine XS.iloadN Xh32.here hx rfl (D d32_114) rfl ?_
  refine XS.iadd Xh32.here hx rfl (D d32_115) rfl ?_
  exact kt
 obtain ⟨cq33, kq33, q33a, q33b, q33c⟩ := isOf hZ Eq30 Es
 obtain ⟨vv33, _, ⟨T33, L33, k33, n33⟩, -, X33, ⟨Lc33, hQ33, l33, y33, z33⟩, st33⟩ := Xh32.virtualBack hx (y := yM8) (z := yM8) hown (mvT hZ (Wd175 hw)) (mvT hZ (Wd176 hw)) (oNf hZ (Wd178 hw)) (mvT hZ (Wd178 hw)) (mvT hZ (Wd177 hw)) (by decide) (backOf (W := 0) (c_chat l Z a0 hw [] x ta kb z us ((of + (2 : Int32)) + (0 : Int32)) (62 : Int32) G1 G3 h0 n0 Z0 Es Vs Cs Ks hp2 O2 P5 O4 rG3 X00) hZ (Wd179 hw) (Wd6 hw) (by decide) (by decide)) q33a q33c (g := (fr_clg0 m x of ky 116 (vI 0) [(.int ((of + (2 : Int32)) + (0 : Int32))), (.ref x)])) rfl (by rw [hml]; rfl) (Steps.refl _) (argsL := [(.int ((of + (2 : Int32)) + (0 : Int32)))]) (rest := []) (lenOf pd_33 rfl) rfl (oWt rfl) (D d32_116) (fun _ _ => ⟨rfl, Eq30, oLe rfl, oLe rfl⟩)
 dsimp only [Pt.U, Pt.locs, Pt.cells, Pt.slots] at X33 l33 y33 z33 st33 hQ33
 subst l33 y33 z33
 obtain ⟨rfl, Nq33, Eq33⟩ := hQ33
 have N34 := Fr.app Nh32 Nq33
 obtain ⟨Lh35, Xh35, Nh35⟩ := oHd 0 0 X33 N34 rfl rfl
 refine ownSt st33 ?_
 clear st33
 show oA p e below _ T33 (fr_clg0 m x of ky 119 (vI 0) [(iV 62)])
 refine oTo T33 (fr_clg0 m x of ky 129 (vI 0) [(iV 1)]) (fun t kt => ?_) ?_
 ·refine XS.bipush Xh35.here hx rfl (D d32_119) ?_
  refine XS.icmpNo Xh35.here hx rfl (D d32_121) rfl (teq ((by decide) : (62 : Int32) = (62 : Int32))).2 ?_
  refine XS.iconst Xh35.here hx rfl (D d32_124) ?_
  refine XS.goto Xh35.here hx rfl (pc0 := 125) (pc' := 129) rfl (D d32_125) (by decide) (by decide) ?_
  exact kt
 refine ownRet Xh35 Bd.notSynchronized (v := some (.int (nar .boolean (1 : Int32)))) (fun h => by rw [Bd.returns] at h; cases h) ?_ (oLe rfl) (oLe rfl) (fun fs hr => retN Xh35 hx (t := .boolean) Bd.returns (by simp) (D d32_129) hr)
 show (Q_clg0 Z x ta kb z us of ky tb kc G1 G3 h0 n0) (some (.int (nar .boolean (1 : Int32)))) T33.heap _
 rw [Eq33]
 exact ⟨rfl, Nh35, rfl⟩
abbrev fr_clg1 (m : MethodId) (x : Addr) (of : Int32) (ky : Addr) (pc : Nat) (x3_ : Slot) (st : List Value) : JFrame := mkF m pc #[vR x, vI of, vR ky, x3_] st
def Q_clg1 (Z : State) (x : Addr) (ta : Addr) (kb : ClassId) (z : Int32) (us : List Value) (of : Int32) (ky : Addr) (tb : Addr) (kc : ClassId) (d0 : Int32) (G1 : Int32) (G3 : Value) (h0 : Heap) (n0 : Nat) (v : Option Value) (h : Heap) (L : List Loc) : Prop := v = some (iV 1) ∧ Fr n0 L ∧ h = h0
theorem ef_clg1 (m : MethodId) (x0 : Addr) (x1 : Int32) (x2 : Addr)  : entryFrame m #[(.ref x0), (.int x1), (.ref x2)] 4 = mkF m 0 #[vR x0, vI x1, vR x2, .unset] [] := by first | (simp [entryFrame, mkF, argsToLocals, Value.category]; done) | rfl
set_option maxRecDepth 65536 in
set_option maxHeartbeats 40000000 in
theorem c_clg1 (l : Launch) (Z : State) (a0 : Array Value) (hw : HW a0 Z) (ws : List Jvm.Cond) (x : Addr) (ta : Addr) (kb : ClassId) (z : Int32) (us : List Value) (of : Int32) (ky : Addr) (tb : Addr) (kc : ClassId) (d0 : Int32) (G1 : Int32) (G3 : Value) (h0 : Heap) (n0 : Nat) (Z0 : n0 ≤ h0.size) (Es : Exa Z h0 x "java/lang/String") (Vs : Fld Z h0 x "java/lang/String" "value" "[B" (.ref ta)) (Cs : Fld Z h0 x "java/lang/String" "coder" "B" (iV 0)) (Ks : Arv Z h0 ta kb .byte z us (iV 0)) (Ey : Exa Z h0 ky "java/lang/String") (Vy : Fld Z h0 ky "java/lang/String" "value" "[B" (.ref tb)) (Cy : Fld Z h0 ky "java/lang/String" "coder" "B" (iV 0)) (Ky : Arv Z h0 tb kc .byte (1 : Int32) [(.int (oL d0))] (iV 0)) (hd0 : (¬ d0 < 0 ∧ ¬ (255 : Int32) < d0)) (hz : (z >>> ((0 : Int32) &&& 31)) = z) (hge : ¬ (z < ((of + (1 : Int32)) + (3 : Int32)))) (hp0 : Chl z us of (60 : Int32)) (hp1 : Chl z us (of + (1 : Int32)) (47 : Int32)) (hp2 : Chl z us (of + (2 : Int32)) d0) (hp3 : Chl z us ((of + (2 : Int32)) + (1 : Int32)) (62 : Int32)) (O2 : Sta Z Z.heap "java/lang/String" "COMPACT_STRINGS" "Z" (.int G1)) (P5 : ¬ (G1 = (0 : Int32))) (O4 : Sta Z Z.heap "jdk/internal/util/Preconditions" "SIOOBE_FORMATTER" "Ljava/util/function/BiFunction;" G3) (rG3 : G3.isRef = true) (X00 : Old Z n0 h0) :
  MetFree l yM35 (head1 (Jvm.Cond.code yM35 method_4_code 4 (some .boolean) :: ws) ({ frames := 4, cells := 0, slots := 0, locals := 60 } : Room)) (fun a U => a = #[(.ref x), (.int of), (.ref ky)] ∧ Z.Warmed39 U.vm ∧ U.heap = h0) (fun _ _ _ _ _ => True) (fun _ U o U' => ∃ v L, o = .returned v ∧ (Q_clg1 Z x ta kb z us of ky tb kc d0 G1 G3 h0 n0) v U'.heap L ∧ FrameEnd U o U' L ({ frames := 4, cells := 0, slots := 0, locals := 60 } : Room).cells ({ frames := 4, cells := 0, slots := 0, locals := 60 } : Room).slots) := by
 refine MetFree.of_bodySF (plainFor_of_name pn_26) hisR ?_
 intro p e s m args below meth c s₁ Bd hml0 hP hK
 obtain ⟨rfl, hZ, hHp⟩ := hP
 have hx := Bd.exec
 have D := fun {pc : Nat} {r} (h : decode _ pc = r) => hb Bd.bytes h
 have hml : c.maxLocals = 4 := hml0
 have hown : s.vm.findClass "com/example/quayside/quayside/web/HtmlClosePinLaw" = some m.cls := findClass_of_methodNamed Bd.named
 have hnm := (name_of_methodNamed Bd.named Bd.method).1
 have X0 : Stand p l e ({ frames := 4, cells := 0, slots := 0, locals := 60 } : Room) s m #[(.ref x), (.int of), (.ref ky)] below meth c s₁ [] 0 0 := Stand.of_body Bd
 have e0 : s₁.heap = h0 := by rw [← hHp, Bd.state]; rfl
 have N0 := Fr.nil n0
 refine ownOut (P := (Q_clg1 Z x ta kb z us of ky tb kc d0 G1 G3 h0 n0)) ?_
 refine ownBy (A := s₁.setTop (mkF m 0 #[vR x, vI of, vR ky, .unset] [])) (fun t k => castTop (ef_clg1 m x of ky) k) ?_
 refine oTo s₁ (fr_clg1 m x of ky 1 .unset [(.ref ky)]) (fun t kt => ?_) ?_
 ·refine XS.aloadN X0.here hx rfl (D d32_0) rfl rfl ?_
  exact kt
 obtain ⟨cq21, kq21, q21a, q21b, q21c⟩ := isOf hZ e0 Ey
 obtain ⟨vv21, _, ⟨T21, L21, k21, n21⟩, -, X21, ⟨Lc21, hQ21, l21, y21, z21⟩, st21⟩ := X0.virtualBack hx (y := yM4) (z := yM4) hown (mvT hZ (Wd174 hw)) (mvT hZ (Wd70 hw)) (oNf hZ (Wd72 hw)) (mvT hZ (Wd72 hw)) (mvT hZ (Wd71 hw)) (by decide) (backOf (W := 0) (c_leng l Z a0 hw [] ky tb kc (1 : Int32) [(.int (oL d0))] G1 h0 n0 Z0 Ey Vy Cy Ky (by decide +kernel) O2 P5 X00) hZ (Wd73 hw) (Wd6 hw) (by decide) (by decide)) q21a q21c (g := (fr_clg1 m x of ky 1 .unset [(.ref ky)])) rfl (by rw [hml]; rfl) (Steps.refl _) (argsL := []) (rest := []) (lenOf pd_15 rfl) rfl (oWt rfl) (D d32_1) (fun _ _ => ⟨rfl, e0, oLe rfl, oLe rfl⟩)
 dsimp only [Pt.U, Pt.locs, Pt.cells, Pt.slots] at X21 l21 y21 z21 st21 hQ21
 subst l21 y21 z21
 obtain ⟨rfl, Nq21, Eq21⟩ := hQ21
 have N22 := Fr.app N0 Nq21
 obtain ⟨Lh23, Xh23, Nh23⟩ := oHd 0 0 X21 N22 rfl rfl
 refine ownSt st21 ?_
 clear st21
 show oA p e below _ T21 (fr_clg1 m x of ky 4 .unset [(iV 1)])
 refine oTo T21 (fr_clg1 m x of ky 6 (vI 1) [(.ref x)]) (fun t kt => ?_) ?_
 ·refine XS.istoreN Xh23.here hx rfl (D d32_4) rfl (l' := #[vR x, vI of, vR ky, vI 1]) rfl ?_
  refine XS.aloadN Xh23.here hx rfl (D d32_5) rfl rfl ?_
  exact kt
 obtain ⟨cq24, kq24, q24a, q24b, q24c⟩ := isOf hZ Eq21 Es
 obtain ⟨vv24, _, ⟨T24, L24, k24, n24⟩, -, X24, ⟨Lc24, hQ24, l24, y24, z24⟩, st24⟩ := Xh23.virtualBack hx (y := yM4) (z := yM4) hown (mvT hZ (Wd174 hw)) (mvT hZ (Wd70 hw)) (oNf hZ (Wd72 hw)) (mvT hZ (Wd72 hw)) (mvT hZ (Wd71 hw)) (by decide) (backOf (W := 0) (c_leng l Z a0 hw [] x ta kb z us G1 h0 n0 Z0 Es Vs Cs Ks hz O2 P5 X00) hZ (Wd73 hw) (Wd6 hw) (by decide) (by decide)) q24a q24c (g := (fr_clg1 m x of ky 6 (vI 1) [(.ref x)])) rfl (by rw [hml]; rfl) (Steps.refl _) (argsL := []) (rest := []) (lenOf pd_15 rfl) rfl (oWt rfl) (D d32_6) (fun _ _ => ⟨rfl, Eq21, oLe rfl, oLe rfl⟩)
 dsimp only [Pt.U, Pt.locs, Pt.cells, Pt.slots] at X24 l24 y24 z24 st24 hQ24
 subst l24 y24 z24
 obtain ⟨rfl, Nq24, Eq24⟩ := hQ24
 have N25 := Fr.app Nh23 Nq24
 obtain ⟨Lh26, Xh26, Nh26⟩ := oHd 0 0 X24 N25 rfl rfl
 refine ownSt st24 ?_
 clear st24
 show oA p e below _ T24 (fr_clg1 m x of ky 9 (vI 1) [(.int z)])
 refine oTo T24 (fr_clg1 m x of ky 21 (vI 1) [(.int of), (.ref x)]) (fun t kt => ?_) ?_
 ·refine XS.iloadN Xh26.here hx rfl (D d32_9) rfl ?_
  refine XS.iloadN Xh26.here hx rfl (D d32_10) rfl ?_
  refine XS.iadd Xh26.here hx rfl (D d32_11) rfl ?_
  refine XS.iconst Xh26.here hx rfl (D d32_12) ?_
  show Steps p.tables e below (T24.setTop (fr_clg1 m x of ky 13 (vI 1) [(iV 3), (.int (of + (1 : Int32))), (.int z)])) t
  refine XS.iadd Xh26.here hx rfl (D d32_13) rfl ?_
  refine XS.icmpYes Xh26.here hx rfl (pc0 := 14) (pc' := 19) rfl (D d32_14) rfl (flt hge).2.1 (by decide) (by decide) ?_
  refine XS.aloadN Xh26.here hx rfl (D d32_19) rfl rfl ?_
  refine XS.iloadN Xh26.here hx rfl (D d32_20) rfl ?_
  exact kt
 obtain ⟨cq27, kq27, q27a, q27b, q27c⟩ := isOf hZ Eq24 Es
 obtain ⟨vv27, _, ⟨T27, L27, k27, n27⟩, -, X27, ⟨Lc27, hQ27, l27, y27, z27⟩, st27⟩ := Xh26.virtualBack hx (y := yM8) (z := yM8) hown (mvT hZ (Wd175 hw)) (mvT hZ (Wd176 hw)) (oNf hZ (Wd178 hw)) (mvT hZ (Wd178 hw)) (mvT hZ (Wd177 hw)) (by decide) (backOf (W := 0) (c_chat l Z a0 hw [] x ta kb z us of (60 : Int32) G1 G3 h0 n0 Z0 Es Vs Cs Ks hp0 O2 P5 O4 rG3 X00) hZ (Wd179 hw) (Wd6 hw) (by decide) (by decide)) q27a q27c (g := (fr_clg1 m x of ky 21 (vI 1) [(.int of), (.ref x)])) rfl (by rw [hml]; rfl) (Steps.refl _) (argsL := [(.int of)]) (rest := []) (lenOf pd_33 rfl) rfl (oWt rfl) (D d32_21) (fun _ _ => ⟨rfl, Eq24, oLe rfl, oLe rfl⟩)
 dsimp only [Pt.U, Pt.locs, Pt.cells, Pt.slots] at X27 l27 y27 z27 st27 hQ27
 subst l27 y27 z27
 obtain ⟨rfl, Nq27, Eq27⟩ := hQ27
 have N28 := Fr.app Nh26 Nq27
 obtain ⟨Lh29, Xh29, Nh29⟩ := oHd 0 0 X27 N28 rfl rfl
 refine ownSt st27 ?_
 clear st27
 show oA p e below _ T27 (fr_clg1 m x of ky 24 (vI 1) [(iV 60)])
 refine oTo T27 (fr_clg1 m x of ky 35 (vI 1) [(.int (of + (1 : Int32))), (.ref x)]) (fun t kt => ?_) ?_
 ·refine XS.bipush Xh29.here hx rfl (D d32_24) ?_
  refine XS.icmpYes Xh29.here hx rfl (pc0 := 26) (pc' := 31) rfl (D d32_26) rfl (teq ((by decide) : (60 : Int32) = (60 : Int32))).1 (by decide) (by decide) ?_
  refine XS.aloadN Xh29.here hx rfl (D d32_31) rfl rfl ?_
  refine XS.iloadN Xh29.here hx rfl (D d32_32) rfl ?_
  show Steps p.tables e below (T27.setTop (fr_clg1 m x of ky 33 (vI 1) [(.int of), (.ref x)])) t
  refine XS.iconst Xh29.here hx rfl (D d32_33) ?_
  refine XS.iadd Xh29.here hx rfl (D d32_34) rfl ?_
  exact kt
 obtain ⟨cq30, kq30, q30a, q30b, q30c⟩ := isOf hZ Eq27 Es
 obtain ⟨vv30, _, ⟨T30, L30, k30, n30⟩, -, X30, ⟨Lc30, hQ30, l30, y30, z30⟩, st30⟩ := Xh29.virtualBack hx (y := yM8) (z := yM8) hown (mvT hZ (Wd175 hw)) (mvT hZ (Wd176 hw)) (oNf hZ (Wd178 hw)) (mvT hZ (Wd178 hw)) (mvT hZ (Wd177 hw)) (by decide) (backOf (W := 0) (c_chat l Z a0 hw [] x ta kb z us (of + (1 : Int32)) (47 : Int32) G1 G3 h0 n0 Z0 Es Vs Cs Ks hp1 O2 P5 O4 rG3 X00) hZ (Wd179 hw) (Wd6 hw) (by decide) (by decide)) q30a q30c (g := (fr_clg1 m x of ky 35 (vI 1) [(.int (of + (1 : Int32))), (.ref x)])) rfl (by rw [hml]; rfl) (Steps.refl _) (argsL := [(.int (of + (1 : Int32)))]) (rest := []) (lenOf pd_33 rfl) rfl (oWt rfl) (D d32_35) (fun _ _ => ⟨rfl, Eq27, oLe rfl, oLe rfl⟩)
 dsimp only [Pt.U, Pt.locs, Pt.cells, Pt.slots] at X30 l30 y30 z30 st30 hQ30
 subst l30 y30 z30
 obtain ⟨rfl, Nq30, Eq30⟩ := hQ30
 have N31 := Fr.app Nh29 Nq30
 obtain ⟨Lh32, Xh32, Nh32⟩ := oHd 0 0 X30 N31 rfl rfl
 refine ownSt st30 ?_
 clear st30
 show oA p e below _ T30 (fr_clg1 m x of ky 38 (vI 1) [(iV 47)])
 refine oTo T30 (fr_clg1 m x of ky 53 (vI 1) [(.int (of + (2 : Int32))), (.ref x)]) (fun t kt => ?_) ?_
 ·refine XS.bipush Xh32.here hx rfl (D d32_38) ?_
  refine XS.icmpYes Xh32.here hx rfl (pc0 := 40) (pc' := 45) rfl (D d32_40) rfl (teq ((by decide) : (47 : Int32) = (47 : Int32))).1 (by decide) (by decide) ?_
  refine XS.iloadN Xh32.here hx rfl (D d32_45) rfl ?_
  refine XS.ifNo Xh32.here hx rfl (D d32_46) rfl ((if0 _ _).trans (tlt ((by decide) : (0 : Int32) < (1 : Int32))).2.2.2) ?_
  show Steps p.tables e below (T30.setTop (fr_clg1 m x of ky 49 (vI 1) [])) t
  refine XS.aloadN Xh32.here hx rfl (D d32_49) rfl rfl ?_
  refine XS.iloadN Xh32.here hx rfl (D d32_50) rfl ?_
  refine XS.iconst Xh32.here hx rfl (D d32_51) ?_
  refine XS.iadd Xh32.here hx rfl (D d32_52) rfl ?_
  exact kt
 obtain ⟨cq33, kq33, q33a, q33b, q33c⟩ := isOf hZ Eq30 Es
 obtain ⟨vv33, _, ⟨T33, L33, k33, n33⟩, -, X33, ⟨Lc33, hQ33, l33, y33, z33⟩, st33⟩ := Xh32.virtualBack hx (y := yM8) (z := yM8) hown (mvT hZ (Wd175 hw)) (mvT hZ (Wd176 hw)) (oNf hZ (Wd178 hw)) (mvT hZ (Wd178 hw)) (mvT hZ (Wd177 hw)) (by decide) (backOf (W := 0) (c_chat l Z a0 hw [] x ta kb z us (of + (2 : Int32)) d0 G1 G3 h0 n0 Z0 Es Vs Cs Ks hp2 O2 P5 O4 rG3 X00) hZ (Wd179 hw) (Wd6 hw) (by decide) (by decide)) q33a q33c (g := (fr_clg1 m x of ky 53 (vI 1) [(.int (of + (2 : Int32))), (.ref x)])) rfl (by rw [hml]; rfl) (Steps.refl _) (argsL := [(.int (of + (2 : Int32)))]) (rest := []) (lenOf pd_33 rfl) rfl (oWt rfl) (D d32_53) (fun _ _ => ⟨rfl, Eq30, oLe rfl, oLe rfl⟩)
 dsimp only [Pt.U, Pt.locs, Pt.cells, Pt.slots] at X33 l33 y33 z33 st33 hQ33
 subst l33 y33 z33
 obtain ⟨rfl, Nq33, Eq33⟩ := hQ33
 have N34 := Fr.app Nh32 Nq33
 obtain ⟨Lh35, Xh35, Nh35⟩ := oHd 0 0 X33 N34 rfl rfl
 refine ownSt st33 ?_
 clear st33
 show oA p e below _ T33 (fr_clg1 m x of ky 56 (vI 1) [(.int d0)])
 refine oTo T33 (fr_clg1 m x of ky 58 (vI 1) [(iV 0), (.ref ky), (.int d0)]) (fun t kt => ?_) ?_
 ·refine XS.aloadN Xh35.here hx rfl (D d32_56) rfl rfl ?_
  refine XS.iconst Xh35.here hx rfl (D d32_57) ?_
  exact kt
 obtain ⟨cq36, kq36, q36a, q36b, q36c⟩ := isOf hZ Eq33 Ey
 obtain ⟨vv36, _, ⟨T36, L36, k36, n36⟩, -, X36, ⟨Lc36, hQ36, l36, y36, z36⟩, st36⟩ := Xh35.virtualBack hx (y := yM8) (z := yM8) hown (mvT hZ (Wd175 hw)) (mvT hZ (Wd176 hw)) (oNf hZ (Wd178 hw)) (mvT hZ (Wd178 hw)) (mvT hZ (Wd177 hw)) (by decide) (backOf (W := 1) (c_chat l Z a0 hw [] ky tb kc (1 : Int32) [(.int (oL d0))] (0 : Int32) d0 G1 G3 h0 n0 Z0 Ey Vy Cy Ky ⟨⟨by decide, by decide⟩, rfl, hd0⟩ O2 P5 O4 rG3 X00) hZ (Wd179 hw) (Wd6 hw) (by decide) (by decide)) q36a q36c (g := (fr_clg1 m x of ky 58 (vI 1) [(iV 0), (.ref ky), (.int d0)])) rfl (by rw [hml]; rfl) (Steps.refl _) (argsL := [(iV 0)]) (rest := [(.int d0)]) (lenOf pd_33 rfl) rfl (oWt rfl) (D d32_58) (fun _ _ => ⟨rfl, Eq33, oLe rfl, oLe rfl⟩)
 dsimp only [Pt.U, Pt.locs, Pt.cells, Pt.slots] at X36 l36 y36 z36 st36 hQ36
 subst l36 y36 z36
 obtain ⟨rfl, Nq36, Eq36⟩ := hQ36
 have N37 := Fr.app Nh35 Nq36
 obtain ⟨Lh38, Xh38, Nh38⟩ := oHd 0 0 X36 N37 rfl rfl
 refine ownSt st36 ?_
 clear st36
 show oA p e below _ T36 (fr_clg1 m x of ky 61 (vI 1) [(.int d0), (.int d0)])
 refine oTo T36 (fr_clg1 m x of ky 116 (vI 1) [(.int ((of + (2 : Int32)) + (1 : Int32))), (.ref x)]) (fun t kt => ?_) ?_
 ·refine XS.icmpYes Xh38.here hx rfl (pc0 := 61) (pc' := 66) rfl (D d32_61) rfl (teq (rfl : d0 = d0)).1 (by decide) (by decide) ?_
  refine XS.iloadN Xh38.here hx rfl (D d32_66) rfl ?_
  refine XS.iconst Xh38.here hx rfl (D d32_67) ?_
  refine XS.icmpYes Xh38.here hx rfl (pc0 := 68) (pc' := 88) rfl (D d32_68) rfl (flt ((by decide) : ¬ ((1 : Int32) < (1 : Int32)))).2.2.2 (by decide) (by decide) ?_
  show Steps p.tables e below (T36.setTop (fr_clg1 m x of ky 88 (vI 1) [])) t
  refine XS.iloadN Xh38.here hx rfl (D d32_88) rfl ?_
  refine XS.iconst Xh38.here hx rfl (D d32_89) ?_
  refine XS.icmpYes Xh38.here hx rfl (pc0 := 90) (pc' := 110) rfl (D d32_90) rfl (flt ((by decide) : ¬ ((2 : Int32) < (1 : Int32)))).2.2.2 (by decide) (by decide) ?_
  refine XS.aloadN Xh38.here hx rfl (D d32_110) rfl rfl ?_
  show Steps p.tables e below (T36.setTop (fr_clg1 m x of ky 111 (vI 1) [(.ref x)])) t
  refine XS.iloadN Xh38.here hx rfl (D d32_111) rfl ?_
  refine XS.iconst Xh38.here hx rfl (D d32_112) ?_
  refine XS.iadd Xh38.here hx rfl (D d32_113) rfl ?_
  refine XS.iloadN Xh38.here hx rfl (D d32_114) rfl ?_
  show Steps p.tables e below (T36.setTop (fr_clg1 m x of ky 115 (vI 1) [(iV 1), (.int (of + (2 : Int32))), (.ref x)])) t
  refine XS.iadd Xh38.here hx rfl (D d32_115) rfl ?_
  exact kt
 obtain ⟨cq39, kq39, q39a, q39b, q39c⟩ := isOf hZ Eq36 Es
 obtain ⟨vv39, _, ⟨T39, L39, k39, n39⟩, -, X39, ⟨Lc39, hQ39, l39, y39, z39⟩, st39⟩ := Xh38.virtualBack hx (y := yM8) (z := yM8) hown (mvT hZ (Wd175 hw)) (mvT hZ (Wd176 hw)) (oNf hZ (Wd178 hw)) (mvT hZ (Wd178 hw)) (mvT hZ (Wd177 hw)) (by decide) (backOf (W := 0) (c_chat l Z a0 hw [] x ta kb z us ((of + (2 : Int32)) + (1 : Int32)) (62 : Int32) G1 G3 h0 n0 Z0 Es Vs Cs Ks hp3 O2 P5 O4 rG3 X00) hZ (Wd179 hw) (Wd6 hw) (by decide) (by decide)) q39a q39c (g := (fr_clg1 m x of ky 116 (vI 1) [(.int ((of + (2 : Int32)) + (1 : Int32))), (.ref x)])) rfl (by rw [hml]; rfl) (Steps.refl _) (argsL := [(.int ((of + (2 : Int32)) + (1 : Int32)))]) (rest := []) (lenOf pd_33 rfl) rfl (oWt rfl) (D d32_116) (fun _ _ => ⟨rfl, Eq36, oLe rfl, oLe rfl⟩)
 dsimp only [Pt.U, Pt.locs, Pt.cells, Pt.slots] at X39 l39 y39 z39 st39 hQ39
 subst l39 y39 z39
 obtain ⟨rfl, Nq39, Eq39⟩ := hQ39
 have N40 := Fr.app Nh38 Nq39
 obtain ⟨Lh41, Xh41, Nh41⟩ := oHd 0 0 X39 N40 rfl rfl
 refine ownSt st39 ?_
 clear st39
 show oA p e below _ T39 (fr_clg1 m x of ky 119 (vI 1) [(iV 62)])
 refine oTo T39 (fr_clg1 m x of ky 129 (vI 1) [(iV 1)]) (fun t kt => ?_) ?_
 ·refine XS.bipush Xh41.here hx rfl (D d32_119) ?_
  refine XS.icmpNo Xh41.here hx rfl (D d32_121) rfl (teq ((by decide) : (62 : Int32) = (62 : Int32))).2 ?_
  refine XS.iconst Xh41.here hx rfl (D d32_124) ?_
  refine XS.goto Xh41.here hx rfl (pc0 := 125) (pc' := 129) rfl (D d32_125) (by decide) (by decide) ?_
  exact kt
 refine ownRet Xh41 Bd.notSynchronized (v := some (.int (nar .boolean (1 : Int32)))) (fun h => by rw [Bd.returns] at h; cases h) ?_ (oLe rfl) (oLe rfl) (fun fs hr => retN Xh41 hx (t := .boolean) Bd.returns (by simp) (D d32_129) hr)
 show (Q_clg1 Z x ta kb z us of ky tb kc d0 G1 G3 h0 n0) (some (.int (nar .boolean (1 : Int32)))) T39.heap _
 rw [Eq39]
 exact ⟨rfl, Nh41, rfl⟩
abbrev fr_clg2 (m : MethodId) (x : Addr) (of : Int32) (ky : Addr) (pc : Nat) (x3_ : Slot) (st : List Value) : JFrame := mkF m pc #[vR x, vI of, vR ky, x3_] st
def Q_clg2 (Z : State) (x : Addr) (ta : Addr) (kb : ClassId) (z : Int32) (us : List Value) (of : Int32) (ky : Addr) (tb : Addr) (kc : ClassId) (d0 : Int32) (d1 : Int32) (G1 : Int32) (G3 : Value) (h0 : Heap) (n0 : Nat) (v : Option Value) (h : Heap) (L : List Loc) : Prop := v = some (iV 1) ∧ Fr n0 L ∧ h = h0
theorem ef_clg2 (m : MethodId) (x0 : Addr) (x1 : Int32) (x2 : Addr)  : entryFrame m #[(.ref x0), (.int x1), (.ref x2)] 4 = mkF m 0 #[vR x0, vI x1, vR x2, .unset] [] := by first | (simp [entryFrame, mkF, argsToLocals, Value.category]; done) | rfl
set_option maxRecDepth 65536 in
set_option maxHeartbeats 40000000 in
theorem c_clg2 (l : Launch) (Z : State) (a0 : Array Value) (hw : HW a0 Z) (ws : List Jvm.Cond) (x : Addr) (ta : Addr) (kb : ClassId) (z : Int32) (us : List Value) (of : Int32) (ky : Addr) (tb : Addr) (kc : ClassId) (d0 : Int32) (d1 : Int32) (G1 : Int32) (G3 : Value) (h0 : Heap) (n0 : Nat) (Z0 : n0 ≤ h0.size) (Es : Exa Z h0 x "java/lang/String") (Vs : Fld Z h0 x "java/lang/String" "value" "[B" (.ref ta)) (Cs : Fld Z h0 x "java/lang/String" "coder" "B" (iV 0)) (Ks : Arv Z h0 ta kb .byte z us (iV 0)) (Ey : Exa Z h0 ky "java/lang/String") (Vy : Fld Z h0 ky "java/lang/String" "value" "[B" (.ref tb)) (Cy : Fld Z h0 ky "java/lang/String" "coder" "B" (iV 0)) (Ky : Arv Z h0 tb kc .byte (2 : Int32) [(.int (oL d0)), (.int (oL d1))] (iV 0)) (hd0 : (¬ d0 < 0 ∧ ¬ (255 : Int32) < d0)) (hd1 : (¬ d1 < 0 ∧ ¬ (255 : Int32) < d1)) (hz : (z >>> ((0 : Int32) &&& 31)) = z) (hge : ¬ (z < ((of + (2 : Int32)) + (3 : Int32)))) (hp0 : Chl z us of (60 : Int32)) (hp1 : Chl z us (of + (1 : Int32)) (47 : Int32)) (hp2 : Chl z us (of + (2 : Int32)) d0) (hp3 : Chl z us (of + (3 : Int32)) d1) (hp4 : Chl z us ((of + (2 : Int32)) + (2 : Int32)) (62 : Int32)) (O2 : Sta Z Z.heap "java/lang/String" "COMPACT_STRINGS" "Z" (.int G1)) (P5 : ¬ (G1 = (0 : Int32))) (O4 : Sta Z Z.heap "jdk/internal/util/Preconditions" "SIOOBE_FORMATTER" "Ljava/util/function/BiFunction;" G3) (rG3 : G3.isRef = true) (X00 : Old Z n0 h0) :
  MetFree l yM35 (head1 (Jvm.Cond.code yM35 method_4_code 4 (some .boolean) :: ws) ({ frames := 4, cells := 0, slots := 0, locals := 60 } : Room)) (fun a U => a = #[(.ref x), (.int of), (.ref ky)] ∧ Z.Warmed39 U.vm ∧ U.heap = h0) (fun _ _ _ _ _ => True) (fun _ U o U' => ∃ v L, o = .returned v ∧ (Q_clg2 Z x ta kb z us of ky tb kc d0 d1 G1 G3 h0 n0) v U'.heap L ∧ FrameEnd U o U' L ({ frames := 4, cells := 0, slots := 0, locals := 60 } : Room).cells ({ frames := 4, cells := 0, slots := 0, locals := 60 } : Room).slots) := by
 refine MetFree.of_bodySF (plainFor_of_name pn_26) hisR ?_
 intro p e s m args below meth c s₁ Bd hml0 hP hK
 obtain ⟨rfl, hZ, hHp⟩ := hP
 have hx := Bd.exec
 have D := fun {pc : Nat} {r} (h : decode _ pc = r) => hb Bd.bytes h
 have hml : c.maxLocals = 4 := hml0
 have hown : s.vm.findClass "com/example/quayside/quayside/web/HtmlClosePinLaw" = some m.cls := findClass_of_methodNamed Bd.named
 have hnm := (name_of_methodNamed Bd.named Bd.method).1
 have X0 : Stand p l e ({ frames := 4, cells := 0, slots := 0, locals := 60 } : Room) s m #[(.ref x), (.int of), (.ref ky)] below meth c s₁ [] 0 0 := Stand.of_body Bd
 have e0 : s₁.heap = h0 := by rw [← hHp, Bd.state]; rfl
 have N0 := Fr.nil n0
 refine ownOut (P := (Q_clg2 Z x ta kb z us of ky tb kc d0 d1 G1 G3 h0 n0)) ?_
 refine ownBy (A := s₁.setTop (mkF m 0 #[vR x, vI of, vR ky, .unset] [])) (fun t k => castTop (ef_clg2 m x of ky) k) ?_
 refine oTo s₁ (fr_clg2 m x of ky 1 .unset [(.ref ky)]) (fun t kt => ?_) ?_
 ·refine XS.aloadN X0.here hx rfl (D d32_0) rfl rfl ?_
  exact kt
 obtain ⟨cq21, kq21, q21a, q21b, q21c⟩ := isOf hZ e0 Ey
 obtain ⟨vv21, _, ⟨T21, L21, k21, n21⟩, -, X21, ⟨Lc21, hQ21, l21, y21, z21⟩, st21⟩ := X0.virtualBack hx (y := yM4) (z := yM4) hown (mvT hZ (Wd174 hw)) (mvT hZ (Wd70 hw)) (oNf hZ (Wd72 hw)) (mvT hZ (Wd72 hw)) (mvT hZ (Wd71 hw)) (by decide) (backOf (W := 0) (c_leng l Z a0 hw [] ky tb kc (2 : Int32) [(.int (oL d0)), (.int (oL d1))] G1 h0 n0 Z0 Ey Vy Cy Ky (by decide +kernel) O2 P5 X00) hZ (Wd73 hw) (Wd6 hw) (by decide) (by decide)) q21a q21c (g := (fr_clg2 m x of ky 1 .unset [(.ref ky)])) rfl (by rw [hml]; rfl) (Steps.refl _) (argsL := []) (rest := []) (lenOf pd_15 rfl) rfl (oWt rfl) (D d32_1) (fun _ _ => ⟨rfl, e0, oLe rfl, oLe rfl⟩)
 dsimp only [Pt.U, Pt.locs, Pt.cells, Pt.slots] at X21 l21 y21 z21 st21 hQ21
 subst l21 y21 z21
 obtain ⟨rfl, Nq21, Eq21⟩ := hQ21
 have N22 := Fr.app N0 Nq21
 obtain ⟨Lh23, Xh23, Nh23⟩ := oHd 0 0 X21 N22 rfl rfl
 refine ownSt st21 ?_
 clear st21
 show oA p e below _ T21 (fr_clg2 m x of ky 4 .unset [(iV 2)])
 refine oTo T21 (fr_clg2 m x of ky 6 (vI 2) [(.ref x)]) (fun t kt => ?_) ?_
 ·refine XS.istoreN Xh23.here hx rfl (D d32_4) rfl (l' := #[vR x, vI of, vR ky, vI 2]) rfl ?_
  refine XS.aloadN Xh23.here hx rfl (D d32_5) rfl rfl ?_
  exact kt
 obtain ⟨cq24, kq24, q24a, q24b, q24c⟩ := isOf hZ Eq21 Es
 obtain ⟨vv24, _, ⟨T24, L24, k24, n24⟩, -, X24, ⟨Lc24, hQ24, l24, y24, z24⟩, st24⟩ := Xh23.virtualBack hx (y := yM4) (z := yM4) hown (mvT hZ (Wd174 hw)) (mvT hZ (Wd70 hw)) (oNf hZ (Wd72 hw)) (mvT hZ (Wd72 hw)) (mvT hZ (Wd71 hw)) (by decide) (backOf (W := 0) (c_leng l Z a0 hw [] x ta kb z us G1 h0 n0 Z0 Es Vs Cs Ks hz O2 P5 X00) hZ (Wd73 hw) (Wd6 hw) (by decide) (by decide)) q24a q24c (g := (fr_clg2 m x of ky 6 (vI 2) [(.ref x)])) rfl (by rw [hml]; rfl) (Steps.refl _) (argsL := []) (rest := []) (lenOf pd_15 rfl) rfl (oWt rfl) (D d32_6) (fun _ _ => ⟨rfl, Eq21, oLe rfl, oLe rfl⟩)
 dsimp only [Pt.U, Pt.locs, Pt.cells, Pt.slots] at X24 l24 y24 z24 st24 hQ24
 subst l24 y24 z24
 obtain ⟨rfl, Nq24, Eq24⟩ := hQ24
 have N25 := Fr.app Nh23 Nq24
 obtain ⟨Lh26, Xh26, Nh26⟩ := oHd 0 0 X24 N25 rfl rfl
 refine ownSt st24 ?_
 clear st24
 show oA p e below _ T24 (fr_clg2 m x of ky 9 (vI 2) [(.int z)])
 refine oTo T24 (fr_clg2 m x of ky 21 (vI 2) [(.int of), (.ref x)]) (fun t kt => ?_) ?_
 ·refine XS.iloadN Xh26.here hx rfl (D d32_9) rfl ?_
  refine XS.iloadN Xh26.here hx rfl (D d32_10) rfl ?_
  refine XS.iadd Xh26.here hx rfl (D d32_11) rfl ?_
  refine XS.iconst Xh26.here hx rfl (D d32_12) ?_
  show Steps p.tables e below (T24.setTop (fr_clg2 m x of ky 13 (vI 2) [(iV 3), (.int (of + (2 : Int32))), (.int z)])) t
  refine XS.iadd Xh26.here hx rfl (D d32_13) rfl ?_
  refine XS.icmpYes Xh26.here hx rfl (pc0 := 14) (pc' := 19) rfl (D d32_14) rfl (flt hge).2.1 (by decide) (by decide) ?_
  refine XS.aloadN Xh26.here hx rfl (D d32_19) rfl rfl ?_
  refine XS.iloadN Xh26.here hx rfl (D d32_20) rfl ?_
  exact kt
 obtain ⟨cq27, kq27, q27a, q27b, q27c⟩ := isOf hZ Eq24 Es
 obtain ⟨vv27, _, ⟨T27, L27, k27, n27⟩, -, X27, ⟨Lc27, hQ27, l27, y27, z27⟩, st27⟩ := Xh26.virtualBack hx (y := yM8) (z := yM8) hown (mvT hZ (Wd175 hw)) (mvT hZ (Wd176 hw)) (oNf hZ (Wd178 hw)) (mvT hZ (Wd178 hw)) (mvT hZ (Wd177 hw)) (by decide) (backOf (W := 0) (c_chat l Z a0 hw [] x ta kb z us of (60 : Int32) G1 G3 h0 n0 Z0 Es Vs Cs Ks hp0 O2 P5 O4 rG3 X00) hZ (Wd179 hw) (Wd6 hw) (by decide) (by decide)) q27a q27c (g := (fr_clg2 m x of ky 21 (vI 2) [(.int of), (.ref x)])) rfl (by rw [hml]; rfl) (Steps.refl _) (argsL := [(.int of)]) (rest := []) (lenOf pd_33 rfl) rfl (oWt rfl) (D d32_21) (fun _ _ => ⟨rfl, Eq24, oLe rfl, oLe rfl⟩)
 dsimp only [Pt.U, Pt.locs, Pt.cells, Pt.slots] at X27 l27 y27 z27 st27 hQ27
 subst l27 y27 z27
 obtain ⟨rfl, Nq27, Eq27⟩ := hQ27
 have N28 := Fr.app Nh26 Nq27
 obtain ⟨Lh29, Xh29, Nh29⟩ := oHd 0 0 X27 N28 rfl rfl
 refine ownSt st27 ?_
 clear st27
 show oA p e below _ T27 (fr_clg2 m x of ky 24 (vI 2) [(iV 60)])
 refine oTo T27 (fr_clg2 m x of ky 35 (vI 2) [(.int (of + (1 : Int32))), (.ref x)]) (fun t kt => ?_) ?_
 ·refine XS.bipush Xh29.here hx rfl (D d32_24) ?_
  refine XS.icmpYes Xh29.here hx rfl (pc0 := 26) (pc' := 31) rfl (D d32_26) rfl (teq ((by decide) : (60 : Int32) = (60 : Int32))).1 (by decide) (by decide) ?_
  refine XS.aloadN Xh29.here hx rfl (D d32_31) rfl rfl ?_
  refine XS.iloadN Xh29.here hx rfl (D d32_32) rfl ?_
  show Steps p.tables e below (T27.setTop (fr_clg2 m x of ky 33 (vI 2) [(.int of), (.ref x)])) t
  refine XS.iconst Xh29.here hx rfl (D d32_33) ?_
  refine XS.iadd Xh29.here hx rfl (D d32_34) rfl ?_
  exact kt
 obtain ⟨cq30, kq30, q30a, q30b, q30c⟩ := isOf hZ Eq27 Es
 obtain ⟨vv30, _, ⟨T30, L30, k30, n30⟩, -, X30, ⟨Lc30, hQ30, l30, y30, z30⟩, st30⟩ := Xh29.virtualBack hx (y := yM8) (z := yM8) hown (mvT hZ (Wd175 hw)) (mvT hZ (Wd176 hw)) (oNf hZ (Wd178 hw)) (mvT hZ (Wd178 hw)) (mvT hZ (Wd177 hw)) (by decide) (backOf (W := 0) (c_chat l Z a0 hw [] x ta kb z us (of + (1 : Int32)) (47 : Int32) G1 G3 h0 n0 Z0 Es Vs Cs Ks hp1 O2 P5 O4 rG3 X00) hZ (Wd179 hw) (Wd6 hw) (by decide) (by decide)) q30a q30c (g := (fr_clg2 m x of ky 35 (vI 2) [(.int (of + (1 : Int32))), (.ref x)])) rfl (by rw [hml]; rfl) (Steps.refl _) (argsL := [(.int (of + (1 : Int32)))]) (rest := []) (lenOf pd_33 rfl) rfl (oWt rfl) (D d32_35) (fun _ _ => ⟨rfl, Eq27, oLe rfl, oLe rfl⟩)
 dsimp only [Pt.U, Pt.locs, Pt.cells, Pt.slots] at X30 l30 y30 z30 st30 hQ30
 subst l30 y30 z30
 obtain ⟨rfl, Nq30, Eq30⟩ := hQ30
 have N31 := Fr.app Nh29 Nq30
 obtain ⟨Lh32, Xh32, Nh32⟩ := oHd 0 0 X30 N31 rfl rfl
 refine ownSt st30 ?_
 clear st30
 show oA p e below _ T30 (fr_clg2 m x of ky 38 (vI 2) [(iV 47)])
 refine oTo T30 (fr_clg2 m x of ky 53 (vI 2) [(.int (of + (2 : Int32))), (.ref x)]) (fun t kt => ?_) ?_
 ·refine XS.bipush Xh32.here hx rfl (D d32_38) ?_
  refine XS.icmpYes Xh32.here hx rfl (pc0 := 40) (pc' := 45) rfl (D d32_40) rfl (teq ((by decide) : (47 : Int32) = (47 : Int32))).1 (by decide) (by decide) ?_
  refine XS.iloadN Xh32.here hx rfl (D d32_45) rfl ?_
  refine XS.ifNo Xh32.here hx rfl (D d32_46) rfl ((if0 _ _).trans (tlt ((by decide) : (0 : Int32) < (2 : Int32))).2.2.2) ?_
  show Steps p.tables e below (T30.setTop (fr_clg2 m x of ky 49 (vI 2) [])) t
  refine XS.aloadN Xh32.here hx rfl (D d32_49) rfl rfl ?_
  refine XS.iloadN Xh32.here hx rfl (D d32_50) rfl ?_
  refine XS.iconst Xh32.here hx rfl (D d32_51) ?_
  refine XS.iadd Xh32.here hx rfl (D d32_52) rfl ?_
  exact kt
 obtain ⟨cq33, kq33, q33a, q33b, q33c⟩ := isOf hZ Eq30 Es
 obtain ⟨vv33, _, ⟨T33, L33, k33, n33⟩, -, X33, ⟨Lc33, hQ33, l33, y33, z33⟩, st33⟩ := Xh32.virtualBack hx (y := yM8) (z := yM8) hown (mvT hZ (Wd175 hw)) (mvT hZ (Wd176 hw)) (oNf hZ (Wd178 hw)) (mvT hZ (Wd178 hw)) (mvT hZ (Wd177 hw)) (by decide) (backOf (W := 0) (c_chat l Z a0 hw [] x ta kb z us (of + (2 : Int32)) d0 G1 G3 h0 n0 Z0 Es Vs Cs Ks hp2 O2 P5 O4 rG3 X00) hZ (Wd179 hw) (Wd6 hw) (by decide) (by decide)) q33a q33c (g := (fr_clg2 m x of ky 53 (vI 2) [(.int (of + (2 : Int32))), (.ref x)])) rfl (by rw [hml]; rfl) (Steps.refl _) (argsL := [(.int (of + (2 : Int32)))]) (rest := []) (lenOf pd_33 rfl) rfl (oWt rfl) (D d32_53) (fun _ _ => ⟨rfl, Eq30, oLe rfl, oLe rfl⟩)
 dsimp only [Pt.U, Pt.locs, Pt.cells, Pt.slots] at X33 l33 y33 z33 st33 hQ33
 subst l33 y33 z33
 obtain ⟨rfl, Nq33, Eq33⟩ := hQ33
 have N34 := Fr.app Nh32 Nq33
 obtain ⟨Lh35, Xh35, Nh35⟩ := oHd 0 0 X33 N34 rfl rfl
 refine ownSt st33 ?_
 clear st33
 show oA p e below _ T33 (fr_clg2 m x of ky 56 (vI 2) [(.int d0)])
 refine oTo T33 (fr_clg2 m x of ky 58 (vI 2) [(iV 0), (.ref ky), (.int d0)]) (fun t kt => ?_) ?_
 ·refine XS.aloadN Xh35.here hx rfl (D d32_56) rfl rfl ?_
  refine XS.iconst Xh35.here hx rfl (D d32_57) ?_
  exact kt
 obtain ⟨cq36, kq36, q36a, q36b, q36c⟩ := isOf hZ Eq33 Ey
 obtain ⟨vv36, _, ⟨T36, L36, k36, n36⟩, -, X36, ⟨Lc36, hQ36, l36, y36, z36⟩, st36⟩ := Xh35.virtualBack hx (y := yM8) (z := yM8) hown (mvT hZ (Wd175 hw)) (mvT hZ (Wd176 hw)) (oNf hZ (Wd178 hw)) (mvT hZ (Wd178 hw)) (mvT hZ (Wd177 hw)) (by decide) (backOf (W := 1) (c_chat l Z a0 hw [] ky tb kc (2 : Int32) [(.int (oL d0)), (.int (oL d1))] (0 : Int32) d0 G1 G3 h0 n0 Z0 Ey Vy Cy Ky ⟨⟨by decide, by decide⟩, rfl, hd0⟩ O2 P5 O4 rG3 X00) hZ (Wd179 hw) (Wd6 hw) (by decide) (by decide)) q36a q36c (g := (fr_clg2 m x of ky 58 (vI 2) [(iV 0), (.ref ky), (.int d0)])) rfl (by rw [hml]; rfl) (Steps.refl _) (argsL := [(iV 0)]) (rest := [(.int d0)]) (lenOf pd_33 rfl) rfl (oWt rfl) (D d32_58) (fun _ _ => ⟨rfl, Eq33, oLe rfl, oLe rfl⟩)
 dsimp only [Pt.U, Pt.locs, Pt.cells, Pt.slots] at X36 l36 y36 z36 st36 hQ36
 subst l36 y36 z36
 obtain ⟨rfl, Nq36, Eq36⟩ := hQ36
 have N37 := Fr.app Nh35 Nq36
 obtain ⟨Lh38, Xh38, Nh38⟩ := oHd 0 0 X36 N37 rfl rfl
 refine ownSt st36 ?_
 clear st36
 show oA p e below _ T36 (fr_clg2 m x of ky 61 (vI 2) [(.int d0), (.int d0)])
 refine oTo T36 (fr_clg2 m x of ky 75 (vI 2) [(.int (of + (3 : Int32))), (.ref x)]) (fun t kt => ?_) ?_
 ·refine XS.icmpYes Xh38.here hx rfl (pc0 := 61) (pc' := 66) rfl (D d32_61) rfl (teq (rfl : d0 = d0)).1 (by decide) (by decide) ?_
  refine XS.iloadN Xh38.here hx rfl (D d32_66) rfl ?_
  refine XS.iconst Xh38.here hx rfl (D d32_67) ?_
  refine XS.icmpNo Xh38.here hx rfl (D d32_68) rfl (tlt ((by decide) : (1 : Int32) < (2 : Int32))).2.2.2 ?_
  show Steps p.tables e below (T36.setTop (fr_clg2 m x of ky 71 (vI 2) [])) t
  refine XS.aloadN Xh38.here hx rfl (D d32_71) rfl rfl ?_
  refine XS.iloadN Xh38.here hx rfl (D d32_72) rfl ?_
  refine XS.iconst Xh38.here hx rfl (D d32_73) ?_
  refine XS.iadd Xh38.here hx rfl (D d32_74) rfl ?_
  exact kt
 obtain ⟨cq39, kq39, q39a, q39b, q39c⟩ := isOf hZ Eq36 Es
 obtain ⟨vv39, _, ⟨T39, L39, k39, n39⟩, -, X39, ⟨Lc39, hQ39, l39, y39, z39⟩, st39⟩ := Xh38.virtualBack hx (y := yM8) (z := yM8) hown (mvT hZ (Wd175 hw)) (mvT hZ (Wd176 hw)) (oNf hZ (Wd178 hw)) (mvT hZ (Wd178 hw)) (mvT hZ (Wd177 hw)) (by decide) (backOf (W := 0) (c_chat l Z a0 hw [] x ta kb z us (of + (3 : Int32)) d1 G1 G3 h0 n0 Z0 Es Vs Cs Ks hp3 O2 P5 O4 rG3 X00) hZ (Wd179 hw) (Wd6 hw) (by decide) (by decide)) q39a q39c (g := (fr_clg2 m x of ky 75 (vI 2) [(.int (of + (3 : Int32))), (.ref x)])) rfl (by rw [hml]; rfl) (Steps.refl _) (argsL := [(.int (of + (3 : Int32)))]) (rest := []) (lenOf pd_33 rfl) rfl (oWt rfl) (D d32_75) (fun _ _ => ⟨rfl, Eq36, oLe rfl, oLe rfl⟩)
 dsimp only [Pt.U, Pt.locs, Pt.cells, Pt.slots] at X39 l39 y39 z39 st39 hQ39
 subst l39 y39 z39
 obtain ⟨rfl, Nq39, Eq39⟩ := hQ39
 have N40 := Fr.app Nh38 Nq39
 obtain ⟨Lh41, Xh41, Nh41⟩ := oHd 0 0 X39 N40 rfl rfl
 refine ownSt st39 ?_
 clear st39
 show oA p e below _ T39 (fr_clg2 m x of ky 78 (vI 2) [(.int d1)])
 refine oTo T39 (fr_clg2 m x of ky 80 (vI 2) [(iV 1), (.ref ky), (.int d1)]) (fun t kt => ?_) ?_
 ·refine XS.aloadN Xh41.here hx rfl (D d32_78) rfl rfl ?_
  refine XS.iconst Xh41.here hx rfl (D d32_79) ?_
  exact kt
 obtain ⟨cq42, kq42, q42a, q42b, q42c⟩ := isOf hZ Eq39 Ey
 obtain ⟨vv42, _, ⟨T42, L42, k42, n42⟩, -, X42, ⟨Lc42, hQ42, l42, y42, z42⟩, st42⟩ := Xh41.virtualBack hx (y := yM8) (z := yM8) hown (mvT hZ (Wd175 hw)) (mvT hZ (Wd176 hw)) (oNf hZ (Wd178 hw)) (mvT hZ (Wd178 hw)) (mvT hZ (Wd177 hw)) (by decide) (backOf (W := 1) (c_chat l Z a0 hw [] ky tb kc (2 : Int32) [(.int (oL d0)), (.int (oL d1))] (1 : Int32) d1 G1 G3 h0 n0 Z0 Ey Vy Cy Ky ⟨⟨by decide, by decide⟩, rfl, hd1⟩ O2 P5 O4 rG3 X00) hZ (Wd179 hw) (Wd6 hw) (by decide) (by decide)) q42a q42c (g := (fr_clg2 m x of ky 80 (vI 2) [(iV 1), (.ref ky), (.int d1)])) rfl (by rw [hml]; rfl) (Steps.refl _) (argsL := [(iV 1)]) (rest := [(.int d1)]) (lenOf pd_33 rfl) rfl (oWt rfl) (D d32_80) (fun _ _ => ⟨rfl, Eq39, oLe rfl, oLe rfl⟩)
 dsimp only [Pt.U, Pt.locs, Pt.cells, Pt.slots] at X42 l42 y42 z42 st42 hQ42
 subst l42 y42 z42
 obtain ⟨rfl, Nq42, Eq42⟩ := hQ42
 have N43 := Fr.app Nh41 Nq42
 obtain ⟨Lh44, Xh44, Nh44⟩ := oHd 0 0 X42 N43 rfl rfl
 refine ownSt st42 ?_
 clear st42
 show oA p e below _ T42 (fr_clg2 m x of ky 83 (vI 2) [(.int d1), (.int d1)])
 refine oTo T42 (fr_clg2 m x of ky 116 (vI 2) [(.int ((of + (2 : Int32)) + (2 : Int32))), (.ref x)]) (fun t kt => ?_) ?_
 ·refine XS.icmpYes Xh44.here hx rfl (pc0 := 83) (pc' := 88) rfl (D d32_83) rfl (teq (rfl : d1 = d1)).1 (by decide) (by decide) ?_
  refine XS.iloadN Xh44.here hx rfl (D d32_88) rfl ?_
  refine XS.iconst Xh44.here hx rfl (D d32_89) ?_
  refine XS.icmpYes Xh44.here hx rfl (pc0 := 90) (pc' := 110) rfl (D d32_90) rfl (flt ((by decide) : ¬ ((2 : Int32) < (2 : Int32)))).2.2.2 (by decide) (by decide) ?_
  show Steps p.tables e below (T42.setTop (fr_clg2 m x of ky 110 (vI 2) [])) t
  refine XS.aloadN Xh44.here hx rfl (D d32_110) rfl rfl ?_
  refine XS.iloadN Xh44.here hx rfl (D d32_111) rfl ?_
  refine XS.iconst Xh44.here hx rfl (D d32_112) ?_
  refine XS.iadd Xh44.here hx rfl (D d32_113) rfl ?_
  show Steps p.tables e below (T42.setTop (fr_clg2 m x of ky 114 (vI 2) [(.int (of + (2 : Int32))), (.ref x)])) t
  refine XS.iloadN Xh44.here hx rfl (D d32_114) rfl ?_
  refine XS.iadd Xh44.here hx rfl (D d32_115) rfl ?_
  exact kt
 obtain ⟨cq45, kq45, q45a, q45b, q45c⟩ := isOf hZ Eq42 Es
 obtain ⟨vv45, _, ⟨T45, L45, k45, n45⟩, -, X45, ⟨Lc45, hQ45, l45, y45, z45⟩, st45⟩ := Xh44.virtualBack hx (y := yM8) (z := yM8) hown (mvT hZ (Wd175 hw)) (mvT hZ (Wd176 hw)) (oNf hZ (Wd178 hw)) (mvT hZ (Wd178 hw)) (mvT hZ (Wd177 hw)) (by decide) (backOf (W := 0) (c_chat l Z a0 hw [] x ta kb z us ((of + (2 : Int32)) + (2 : Int32)) (62 : Int32) G1 G3 h0 n0 Z0 Es Vs Cs Ks hp4 O2 P5 O4 rG3 X00) hZ (Wd179 hw) (Wd6 hw) (by decide) (by decide)) q45a q45c (g := (fr_clg2 m x of ky 116 (vI 2) [(.int ((of + (2 : Int32)) + (2 : Int32))), (.ref x)])) rfl (by rw [hml]; rfl) (Steps.refl _) (argsL := [(.int ((of + (2 : Int32)) + (2 : Int32)))]) (rest := []) (lenOf pd_33 rfl) rfl (oWt rfl) (D d32_116) (fun _ _ => ⟨rfl, Eq42, oLe rfl, oLe rfl⟩)
 dsimp only [Pt.U, Pt.locs, Pt.cells, Pt.slots] at X45 l45 y45 z45 st45 hQ45
 subst l45 y45 z45
 obtain ⟨rfl, Nq45, Eq45⟩ := hQ45
 have N46 := Fr.app Nh44 Nq45
 obtain ⟨Lh47, Xh47, Nh47⟩ := oHd 0 0 X45 N46 rfl rfl
 refine ownSt st45 ?_
 clear st45
 show oA p e below _ T45 (fr_clg2 m x of ky 119 (vI 2) [(iV 62)])
 refine oTo T45 (fr_clg2 m x of ky 129 (vI 2) [(iV 1)]) (fun t kt => ?_) ?_
 ·refine XS.bipush Xh47.here hx rfl (D d32_119) ?_
  refine XS.icmpNo Xh47.here hx rfl (D d32_121) rfl (teq ((by decide) : (62 : Int32) = (62 : Int32))).2 ?_
  refine XS.iconst Xh47.here hx rfl (D d32_124) ?_
  refine XS.goto Xh47.here hx rfl (pc0 := 125) (pc' := 129) rfl (D d32_125) (by decide) (by decide) ?_
  exact kt
 refine ownRet Xh47 Bd.notSynchronized (v := some (.int (nar .boolean (1 : Int32)))) (fun h => by rw [Bd.returns] at h; cases h) ?_ (oLe rfl) (oLe rfl) (fun fs hr => retN Xh47 hx (t := .boolean) Bd.returns (by simp) (D d32_129) hr)
 show (Q_clg2 Z x ta kb z us of ky tb kc d0 d1 G1 G3 h0 n0) (some (.int (nar .boolean (1 : Int32)))) T45.heap _
 rw [Eq45]
 exact ⟨rfl, Nh47, rfl⟩
abbrev fr_clg3 (m : MethodId) (x : Addr) (of : Int32) (ky : Addr) (pc : Nat) (x3_ : Slot) (st : List Value) : JFrame := mkF m pc #[vR x, vI of, vR ky, x3_] st
def Q_clg3 (Z : State) (x : Addr) (ta : Addr) (kb : ClassId) (z : Int32) (us : List Value) (of : Int32) (ky : Addr) (tb : Addr) (kc : ClassId) (d0 : Int32) (d1 : Int32) (d2 : Int32) (G1 : Int32) (G3 : Value) (h0 : Heap) (n0 : Nat) (v : Option Value) (h : Heap) (L : List Loc) : Prop := v = some (iV 1) ∧ Fr n0 L ∧ h = h0
theorem ef_clg3 (m : MethodId) (x0 : Addr) (x1 : Int32) (x2 : Addr)  : entryFrame m #[(.ref x0), (.int x1), (.ref x2)] 4 = mkF m 0 #[vR x0, vI x1, vR x2, .unset] [] := by first | (simp [entryFrame, mkF, argsToLocals, Value.category]; done) | rfl
set_option maxRecDepth 65536 in
set_option maxHeartbeats 40000000 in
theorem c_clg3 (l : Launch) (Z : State) (a0 : Array Value) (hw : HW a0 Z) (ws : List Jvm.Cond) (x : Addr) (ta : Addr) (kb : ClassId) (z : Int32) (us : List Value) (of : Int32) (ky : Addr) (tb : Addr) (kc : ClassId) (d0 : Int32) (d1 : Int32) (d2 : Int32) (G1 : Int32) (G3 : Value) (h0 : Heap) (n0 : Nat) (Z0 : n0 ≤ h0.size) (Es : Exa Z h0 x "java/lang/String") (Vs : Fld Z h0 x "java/lang/String" "value" "[B" (.ref ta)) (Cs : Fld Z h0 x "java/lang/String" "coder" "B" (iV 0)) (Ks : Arv Z h0 ta kb .byte z us (iV 0)) (Ey : Exa Z h0 ky "java/lang/String") (Vy : Fld Z h0 ky "java/lang/String" "value" "[B" (.ref tb)) (Cy : Fld Z h0 ky "java/lang/String" "coder" "B" (iV 0)) (Ky : Arv Z h0 tb kc .byte (3 : Int32) [(.int (oL d0)), (.int (oL d1)), (.int (oL d2))] (iV 0)) (hd0 : (¬ d0 < 0 ∧ ¬ (255 : Int32) < d0)) (hd1 : (¬ d1 < 0 ∧ ¬ (255 : Int32) < d1)) (hd2 : (¬ d2 < 0 ∧ ¬ (255 : Int32) < d2)) (hz : (z >>> ((0 : Int32) &&& 31)) = z) (hge : ¬ (z < ((of + (3 : Int32)) + (3 : Int32)))) (hp0 : Chl z us of (60 : Int32)) (hp1 : Chl z us (of + (1 : Int32)) (47 : Int32)) (hp2 : Chl z us (of + (2 : Int32)) d0) (hp3 : Chl z us (of + (3 : Int32)) d1) (hp4 : Chl z us (of + (4 : Int32)) d2) (hp5 : Chl z us ((of + (2 : Int32)) + (3 : Int32)) (62 : Int32)) (O2 : Sta Z Z.heap "java/lang/String" "COMPACT_STRINGS" "Z" (.int G1)) (P5 : ¬ (G1 = (0 : Int32))) (O4 : Sta Z Z.heap "jdk/internal/util/Preconditions" "SIOOBE_FORMATTER" "Ljava/util/function/BiFunction;" G3) (rG3 : G3.isRef = true) (X00 : Old Z n0 h0) :
  MetFree l yM35 (head1 (Jvm.Cond.code yM35 method_4_code 4 (some .boolean) :: ws) ({ frames := 4, cells := 0, slots := 0, locals := 60 } : Room)) (fun a U => a = #[(.ref x), (.int of), (.ref ky)] ∧ Z.Warmed39 U.vm ∧ U.heap = h0) (fun _ _ _ _ _ => True) (fun _ U o U' => ∃ v L, o = .returned v ∧ (Q_clg3 Z x ta kb z us of ky tb kc d0 d1 d2 G1 G3 h0 n0) v U'.heap L ∧ FrameEnd U o U' L ({ frames := 4, cells := 0, slots := 0, locals := 60 } : Room).cells ({ frames := 4, cells := 0, slots := 0, locals := 60 } : Room).slots) := by
 refine MetFree.of_bodySF (plainFor_of_name pn_26) hisR ?_
 intro p e s m args below meth c s₁ Bd hml0 hP hK
 obtain ⟨rfl, hZ, hHp⟩ := hP
 have hx := Bd.exec
 have D := fun {pc : Nat} {r} (h : decode _ pc = r) => hb Bd.bytes h
 have hml : c.maxLocals = 4 := hml0
 have hown : s.vm.findClass "com/example/quayside/quayside/web/HtmlClosePinLaw" = some m.cls := findClass_of_methodNamed Bd.named
 have hnm := (name_of_methodNamed Bd.named Bd.method).1
 have X0 : Stand p l e ({ frames := 4, cells := 0, slots := 0, locals := 60 } : Room) s m #[(.ref x), (.int of), (.ref ky)] below meth c s₁ [] 0 0 := Stand.of_body Bd
 have e0 : s₁.heap = h0 := by rw [← hHp, Bd.state]; rfl
 have N0 := Fr.nil n0
 refine ownOut (P := (Q_clg3 Z x ta kb z us of ky tb kc d0 d1 d2 G1 G3 h0 n0)) ?_
 refine ownBy (A := s₁.setTop (mkF m 0 #[vR x, vI of, vR ky, .unset] [])) (fun t k => castTop (ef_clg3 m x of ky) k) ?_
 refine oTo s₁ (fr_clg3 m x of ky 1 .unset [(.ref ky)]) (fun t kt => ?_) ?_
 ·refine XS.aloadN X0.here hx rfl (D d32_0) rfl rfl ?_
  exact kt
 obtain ⟨cq21, kq21, q21a, q21b, q21c⟩ := isOf hZ e0 Ey
 obtain ⟨vv21, _, ⟨T21, L21, k21, n21⟩, -, X21, ⟨Lc21, hQ21, l21, y21, z21⟩, st21⟩ := X0.virtualBack hx (y := yM4) (z := yM4) hown (mvT hZ (Wd174 hw)) (mvT hZ (Wd70 hw)) (oNf hZ (Wd72 hw)) (mvT hZ (Wd72 hw)) (mvT hZ (Wd71 hw)) (by decide) (backOf (W := 0) (c_leng l Z a0 hw [] ky tb kc (3 : Int32) [(.int (oL d0)), (.int (oL d1)), (.int (oL d2))] G1 h0 n0 Z0 Ey Vy Cy Ky (by decide +kernel) O2 P5 X00) hZ (Wd73 hw) (Wd6 hw) (by decide) (by decide)) q21a q21c (g := (fr_clg3 m x of ky 1 .unset [(.ref ky)])) rfl (by rw [hml]; rfl) (Steps.refl _) (argsL := []) (rest := []) (lenOf pd_15 rfl) rfl (oWt rfl) (D d32_1) (fun _ _ => ⟨rfl, e0, oLe rfl, oLe rfl⟩)
 dsimp only [Pt.U, Pt.locs, Pt.cells, Pt.slots] at X21 l21 y21 z21 st21 hQ21
 subst l21 y21 z21
 obtain ⟨rfl, Nq21, Eq21⟩ := hQ21
 have N22 := Fr.app N0 Nq21
 obtain ⟨Lh23, Xh23, Nh23⟩ := oHd 0 0 X21 N22 rfl rfl
 refine ownSt st21 ?_
 clear st21
 show oA p e below _ T21 (fr_clg3 m x of ky 4 .unset [(iV 3)])
 refine oTo T21 (fr_clg3 m x of ky 6 (vI 3) [(.ref x)]) (fun t kt => ?_) ?_
 ·refine XS.istoreN Xh23.here hx rfl (D d32_4) rfl (l' := #[vR x, vI of, vR ky, vI 3]) rfl ?_
  refine XS.aloadN Xh23.here hx rfl (D d32_5) rfl rfl ?_
  exact kt
 obtain ⟨cq24, kq24, q24a, q24b, q24c⟩ := isOf hZ Eq21 Es
 obtain ⟨vv24, _, ⟨T24, L24, k24, n24⟩, -, X24, ⟨Lc24, hQ24, l24, y24, z24⟩, st24⟩ := Xh23.virtualBack hx (y := yM4) (z := yM4) hown (mvT hZ (Wd174 hw)) (mvT hZ (Wd70 hw)) (oNf hZ (Wd72 hw)) (mvT hZ (Wd72 hw)) (mvT hZ (Wd71 hw)) (by decide) (backOf (W := 0) (c_leng l Z a0 hw [] x ta kb z us G1 h0 n0 Z0 Es Vs Cs Ks hz O2 P5 X00) hZ (Wd73 hw) (Wd6 hw) (by decide) (by decide)) q24a q24c (g := (fr_clg3 m x of ky 6 (vI 3) [(.ref x)])) rfl (by rw [hml]; rfl) (Steps.refl _) (argsL := []) (rest := []) (lenOf pd_15 rfl) rfl (oWt rfl) (D d32_6) (fun _ _ => ⟨rfl, Eq21, oLe rfl, oLe rfl⟩)
 dsimp only [Pt.U, Pt.locs, Pt.cells, Pt.slots] at X24 l24 y24 z24 st24 hQ24
 subst l24 y24 z24
 obtain ⟨rfl, Nq24, Eq24⟩ := hQ24
 have N25 := Fr.app Nh23 Nq24
 obtain ⟨Lh26, Xh26, Nh26⟩ := oHd 0 0 X24 N25 rfl rfl
 refine ownSt st24 ?_
 clear st24
 show oA p e below _ T24 (fr_clg3 m x of ky 9 (vI 3) [(.int z)])
 refine oTo T24 (fr_clg3 m x of ky 21 (vI 3) [(.int of), (.ref x)]) (fun t kt => ?_) ?_
 ·refine XS.iloadN Xh26.here hx rfl (D d32_9) rfl ?_
  refine XS.iloadN Xh26.here hx rfl (D d32_10) rfl ?_
  refine XS.iadd Xh26.here hx rfl (D d32_11) rfl ?_
  refine XS.iconst Xh26.here hx rfl (D d32_12) ?_
  show Steps p.tables e below (T24.setTop (fr_clg3 m x of ky 13 (vI 3) [(iV 3), (.int (of + (3 : Int32))), (.int z)])) t
  refine XS.iadd Xh26.here hx rfl (D d32_13) rfl ?_
  refine XS.icmpYes Xh26.here hx rfl (pc0 := 14) (pc' := 19) rfl (D d32_14) rfl (flt hge).2.1 (by decide) (by decide) ?_
  refine XS.aloadN Xh26.here hx rfl (D d32_19) rfl rfl ?_
  refine XS.iloadN Xh26.here hx rfl (D d32_20) rfl ?_
  exact kt
 obtain ⟨cq27, kq27, q27a, q27b, q27c⟩ := isOf hZ Eq24 Es
 obtain ⟨vv27, _, ⟨T27, L27, k27, n27⟩, -, X27, ⟨Lc27, hQ27, l27, y27, z27⟩, st27⟩ := Xh26.virtualBack hx (y := yM8) (z := yM8) hown (mvT hZ (Wd175 hw)) (mvT hZ (Wd176 hw)) (oNf hZ (Wd178 hw)) (mvT hZ (Wd178 hw)) (mvT hZ (Wd177 hw)) (by decide) (backOf (W := 0) (c_chat l Z a0 hw [] x ta kb z us of (60 : Int32) G1 G3 h0 n0 Z0 Es Vs Cs Ks hp0 O2 P5 O4 rG3 X00) hZ (Wd179 hw) (Wd6 hw) (by decide) (by decide)) q27a q27c (g := (fr_clg3 m x of ky 21 (vI 3) [(.int of), (.ref x)])) rfl (by rw [hml]; rfl) (Steps.refl _) (argsL := [(.int of)]) (rest := []) (lenOf pd_33 rfl) rfl (oWt rfl) (D d32_21) (fun _ _ => ⟨rfl, Eq24, oLe rfl, oLe rfl⟩)
 dsimp only [Pt.U, Pt.locs, Pt.cells, Pt.slots] at X27 l27 y27 z27 st27 hQ27
 subst l27 y27 z27
 obtain ⟨rfl, Nq27, Eq27⟩ := hQ27
 have N28 := Fr.app Nh26 Nq27
 obtain ⟨Lh29, Xh29, Nh29⟩ := oHd 0 0 X27 N28 rfl rfl
 refine ownSt st27 ?_
 clear st27
 show oA p e below _ T27 (fr_clg3 m x of ky 24 (vI 3) [(iV 60)])
 refine oTo T27 (fr_clg3 m x of ky 35 (vI 3) [(.int (of + (1 : Int32))), (.ref x)]) (fun t kt => ?_) ?_
 ·refine XS.bipush Xh29.here hx rfl (D d32_24) ?_
  refine XS.icmpYes Xh29.here hx rfl (pc0 := 26) (pc' := 31) rfl (D d32_26) rfl (teq ((by decide) : (60 : Int32) = (60 : Int32))).1 (by decide) (by decide) ?_
  refine XS.aloadN Xh29.here hx rfl (D d32_31) rfl rfl ?_
  refine XS.iloadN Xh29.here hx rfl (D d32_32) rfl ?_
  show Steps p.tables e below (T27.setTop (fr_clg3 m x of ky 33 (vI 3) [(.int of), (.ref x)])) t
  refine XS.iconst Xh29.here hx rfl (D d32_33) ?_
  refine XS.iadd Xh29.here hx rfl (D d32_34) rfl ?_
  exact kt
 obtain ⟨cq30, kq30, q30a, q30b, q30c⟩ := isOf hZ Eq27 Es
 obtain ⟨vv30, _, ⟨T30, L30, k30, n30⟩, -, X30, ⟨Lc30, hQ30, l30, y30, z30⟩, st30⟩ := Xh29.virtualBack hx (y := yM8) (z := yM8) hown (mvT hZ (Wd175 hw)) (mvT hZ (Wd176 hw)) (oNf hZ (Wd178 hw)) (mvT hZ (Wd178 hw)) (mvT hZ (Wd177 hw)) (by decide) (backOf (W := 0) (c_chat l Z a0 hw [] x ta kb z us (of + (1 : Int32)) (47 : Int32) G1 G3 h0 n0 Z0 Es Vs Cs Ks hp1 O2 P5 O4 rG3 X00) hZ (Wd179 hw) (Wd6 hw) (by decide) (by decide)) q30a q30c (g := (fr_clg3 m x of ky 35 (vI 3) [(.int (of + (1 : Int32))), (.ref x)])) rfl (by rw [hml]; rfl) (Steps.refl _) (argsL := [(.int (of + (1 : Int32)))]) (rest := []) (lenOf pd_33 rfl) rfl (oWt rfl) (D d32_35) (fun _ _ => ⟨rfl, Eq27, oLe rfl, oLe rfl⟩)
 dsimp only [Pt.U, Pt.locs, Pt.cells, Pt.slots] at X30 l30 y30 z30 st30 hQ30
 subst l30 y30 z30
 obtain ⟨rfl, Nq30, Eq30⟩ := hQ30
 have N31 := Fr.app Nh29 Nq30
 obtain ⟨Lh32, Xh32, Nh32⟩ := oHd 0 0 X30 N31 rfl rfl
 refine ownSt st30 ?_
 clear st30
 show oA p e below _ T30 (fr_clg3 m x of ky 38 (vI 3) [(iV 47)])
 refine oTo T30 (fr_clg3 m x of ky 53 (vI 3) [(.int (of + (2 : Int32))), (.ref x)]) (fun t kt => ?_) ?_
 ·refine XS.bipush Xh32.here hx rfl (D d32_38) ?_
  refine XS.icmpYes Xh32.here hx rfl (pc0 := 40) (pc' := 45) rfl (D d32_40) rfl (teq ((by decide) : (47 : Int32) = (47 : Int32))).1 (by decide) (by decide) ?_
  refine XS.iloadN Xh32.here hx rfl (D d32_45) rfl ?_
  refine XS.ifNo Xh32.here hx rfl (D d32_46) rfl ((if0 _ _).trans (tlt ((by decide) : (0 : Int32) < (3 : Int32))).2.2.2) ?_
  show Steps p.tables e below (T30.setTop (fr_clg3 m x of ky 49 (vI 3) [])) t
  refine XS.aloadN Xh32.here hx rfl (D d32_49) rfl rfl ?_
  refine XS.iloadN Xh32.here hx rfl (D d32_50) rfl ?_
  refine XS.iconst Xh32.here hx rfl (D d32_51) ?_
  refine XS.iadd Xh32.here hx rfl (D d32_52) rfl ?_
  exact kt
 obtain ⟨cq33, kq33, q33a, q33b, q33c⟩ := isOf hZ Eq30 Es
 obtain ⟨vv33, _, ⟨T33, L33, k33, n33⟩, -, X33, ⟨Lc33, hQ33, l33, y33, z33⟩, st33⟩ := Xh32.virtualBack hx (y := yM8) (z := yM8) hown (mvT hZ (Wd175 hw)) (mvT hZ (Wd176 hw)) (oNf hZ (Wd178 hw)) (mvT hZ (Wd178 hw)) (mvT hZ (Wd177 hw)) (by decide) (backOf (W := 0) (c_chat l Z a0 hw [] x ta kb z us (of + (2 : Int32)) d0 G1 G3 h0 n0 Z0 Es Vs Cs Ks hp2 O2 P5 O4 rG3 X00) hZ (Wd179 hw) (Wd6 hw) (by decide) (by decide)) q33a q33c (g := (fr_clg3 m x of ky 53 (vI 3) [(.int (of + (2 : Int32))), (.ref x)])) rfl (by rw [hml]; rfl) (Steps.refl _) (argsL := [(.int (of + (2 : Int32)))]) (rest := []) (lenOf pd_33 rfl) rfl (oWt rfl) (D d32_53) (fun _ _ => ⟨rfl, Eq30, oLe rfl, oLe rfl⟩)
 dsimp only [Pt.U, Pt.locs, Pt.cells, Pt.slots] at X33 l33 y33 z33 st33 hQ33
 subst l33 y33 z33
 obtain ⟨rfl, Nq33, Eq33⟩ := hQ33
 have N34 := Fr.app Nh32 Nq33
 obtain ⟨Lh35, Xh35, Nh35⟩ := oHd 0 0 X33 N34 rfl rfl
 refine ownSt st33 ?_
 clear st33
 show oA p e below _ T33 (fr_clg3 m x of ky 56 (vI 3) [(.int d0)])
 refine oTo T33 (fr_clg3 m x of ky 58 (vI 3) [(iV 0), (.ref ky), (.int d0)]) (fun t kt => ?_) ?_
 ·refine XS.aloadN Xh35.here hx rfl (D d32_56) rfl rfl ?_
  refine XS.iconst Xh35.here hx rfl (D d32_57) ?_
  exact kt
 obtain ⟨cq36, kq36, q36a, q36b, q36c⟩ := isOf hZ Eq33 Ey
 obtain ⟨vv36, _, ⟨T36, L36, k36, n36⟩, -, X36, ⟨Lc36, hQ36, l36, y36, z36⟩, st36⟩ := Xh35.virtualBack hx (y := yM8) (z := yM8) hown (mvT hZ (Wd175 hw)) (mvT hZ (Wd176 hw)) (oNf hZ (Wd178 hw)) (mvT hZ (Wd178 hw)) (mvT hZ (Wd177 hw)) (by decide) (backOf (W := 1) (c_chat l Z a0 hw [] ky tb kc (3 : Int32) [(.int (oL d0)), (.int (oL d1)), (.int (oL d2))] (0 : Int32) d0 G1 G3 h0 n0 Z0 Ey Vy Cy Ky ⟨⟨by decide, by decide⟩, rfl, hd0⟩ O2 P5 O4 rG3 X00) hZ (Wd179 hw) (Wd6 hw) (by decide) (by decide)) q36a q36c (g := (fr_clg3 m x of ky 58 (vI 3) [(iV 0), (.ref ky), (.int d0)])) rfl (by rw [hml]; rfl) (Steps.refl _) (argsL := [(iV 0)]) (rest := [(.int d0)]) (lenOf pd_33 rfl) rfl (oWt rfl) (D d32_58) (fun _ _ => ⟨rfl, Eq33, oLe rfl, oLe rfl⟩)
 dsimp only [Pt.U, Pt.locs, Pt.cells, Pt.slots] at X36 l36 y36 z36 st36 hQ36
 subst l36 y36 z36
 obtain ⟨rfl, Nq36, Eq36⟩ := hQ36
 have N37 := Fr.app Nh35 Nq36
 obtain ⟨Lh38, Xh38, Nh38⟩ := oHd 0 0 X36 N37 rfl rfl
 refine ownSt st36 ?_
 clear st36
 show oA p e below _ T36 (fr_clg3 m x of ky 61 (vI 3) [(.int d0), (.int d0)])
 refine oTo T36 (fr_clg3 m x of ky 75 (vI 3) [(.int (of + (3 : Int32))), (.ref x)]) (fun t kt => ?_) ?_
 ·refine XS.icmpYes Xh38.here hx rfl (pc0 := 61) (pc' := 66) rfl (D d32_61) rfl (teq (rfl : d0 = d0)).1 (by decide) (by decide) ?_
  refine XS.iloadN Xh38.here hx rfl (D d32_66) rfl ?_
  refine XS.iconst Xh38.here hx rfl (D d32_67) ?_
  refine XS.icmpNo Xh38.here hx rfl (D d32_68) rfl (tlt ((by decide) : (1 : Int32) < (3 : Int32))).2.2.2 ?_
  show Steps p.tables e below (T36.setTop (fr_clg3 m x of ky 71 (vI 3) [])) t
  refine XS.aloadN Xh38.here hx rfl (D d32_71) rfl rfl ?_
  refine XS.iloadN Xh38.here hx rfl (D d32_72) rfl ?_
  refine XS.iconst Xh38.here hx rfl (D d32_73) ?_
  refine XS.iadd Xh38.here hx rfl (D d32_74) rfl ?_
  exact kt
 obtain ⟨cq39, kq39, q39a, q39b, q39c⟩ := isOf hZ Eq36 Es
 obtain ⟨vv39, _, ⟨T39, L39, k39, n39⟩, -, X39, ⟨Lc39, hQ39, l39, y39, z39⟩, st39⟩ := Xh38.virtualBack hx (y := yM8) (z := yM8) hown (mvT hZ (Wd175 hw)) (mvT hZ (Wd176 hw)) (oNf hZ (Wd178 hw)) (mvT hZ (Wd178 hw)) (mvT hZ (Wd177 hw)) (by decide) (backOf (W := 0) (c_chat l Z a0 hw [] x ta kb z us (of + (3 : Int32)) d1 G1 G3 h0 n0 Z0 Es Vs Cs Ks hp3 O2 P5 O4 rG3 X00) hZ (Wd179 hw) (Wd6 hw) (by decide) (by decide)) q39a q39c (g := (fr_clg3 m x of ky 75 (vI 3) [(.int (of + (3 : Int32))), (.ref x)])) rfl (by rw [hml]; rfl) (Steps.refl _) (argsL := [(.int (of + (3 : Int32)))]) (rest := []) (lenOf pd_33 rfl) rfl (oWt rfl) (D d32_75) (fun _ _ => ⟨rfl, Eq36, oLe rfl, oLe rfl⟩)
 dsimp only [Pt.U, Pt.locs, Pt.cells, Pt.slots] at X39 l39 y39 z39 st39 hQ39
 subst l39 y39 z39
 obtain ⟨rfl, Nq39, Eq39⟩ := hQ39
 have N40 := Fr.app Nh38 Nq39
 obtain ⟨Lh41, Xh41, Nh41⟩ := oHd 0 0 X39 N40 rfl rfl
 refine ownSt st39 ?_
 clear st39
 show oA p e below _ T39 (fr_clg3 m x of ky 78 (vI 3) [(.int d1)])
 refine oTo T39 (fr_clg3 m x of ky 80 (vI 3) [(iV 1), (.ref ky), (.int d1)]) (fun t kt => ?_) ?_
 ·refine XS.aloadN Xh41.here hx rfl (D d32_78) rfl rfl ?_
  refine XS.iconst Xh41.here hx rfl (D d32_79) ?_
  exact kt
 obtain ⟨cq42, kq42, q42a, q42b, q42c⟩ := isOf hZ Eq39 Ey
 obtain ⟨vv42, _, ⟨T42, L42, k42, n42⟩, -, X42, ⟨Lc42, hQ42, l42, y42, z42⟩, st42⟩ := Xh41.virtualBack hx (y := yM8) (z := yM8) hown (mvT hZ (Wd175 hw)) (mvT hZ (Wd176 hw)) (oNf hZ (Wd178 hw)) (mvT hZ (Wd178 hw)) (mvT hZ (Wd177 hw)) (by decide) (backOf (W := 1) (c_chat l Z a0 hw [] ky tb kc (3 : Int32) [(.int (oL d0)), (.int (oL d1)), (.int (oL d2))] (1 : Int32) d1 G1 G3 h0 n0 Z0 Ey Vy Cy Ky ⟨⟨by decide, by decide⟩, rfl, hd1⟩ O2 P5 O4 rG3 X00) hZ (Wd179 hw) (Wd6 hw) (by decide) (by decide)) q42a q42c (g := (fr_clg3 m x of ky 80 (vI 3) [(iV 1), (.ref ky), (.int d1)])) rfl (by rw [hml]; rfl) (Steps.refl _) (argsL := [(iV 1)]) (rest := [(.int d1)]) (lenOf pd_33 rfl) rfl (oWt rfl) (D d32_80) (fun _ _ => ⟨rfl, Eq39, oLe rfl, oLe rfl⟩)
 dsimp only [Pt.U, Pt.locs, Pt.cells, Pt.slots] at X42 l42 y42 z42 st42 hQ42
 subst l42 y42 z42
 obtain ⟨rfl, Nq42, Eq42⟩ := hQ42
 have N43 := Fr.app Nh41 Nq42
 obtain ⟨Lh44, Xh44, Nh44⟩ := oHd 0 0 X42 N43 rfl rfl
 refine ownSt st42 ?_
 clear st42
 show oA p e below _ T42 (fr_clg3 m x of ky 83 (vI 3) [(.int d1), (.int d1)])
 refine oTo T42 (fr_clg3 m x of ky 97 (vI 3) [(.int (of + (4 : Int32))), (.ref x)]) (fun t kt => ?_) ?_
 ·refine XS.icmpYes Xh44.here hx rfl (pc0 := 83) (pc' := 88) rfl (D d32_83) rfl (teq (rfl : d1 = d1)).1 (by decide) (by decide) ?_
  refine XS.iloadN Xh44.here hx rfl (D d32_88) rfl ?_
  refine XS.iconst Xh44.here hx rfl (D d32_89) ?_
  refine XS.icmpNo Xh44.here hx rfl (D d32_90) rfl (tlt ((by decide) : (2 : Int32) < (3 : Int32))).2.2.2 ?_
  show Steps p.tables e below (T42.setTop (fr_clg3 m x of ky 93 (vI 3) [])) t
  refine XS.aloadN Xh44.here hx rfl (D d32_93) rfl rfl ?_
  refine XS.iloadN Xh44.here hx rfl (D d32_94) rfl ?_
  refine XS.iconst Xh44.here hx rfl (D d32_95) ?_
  refine XS.iadd Xh44.here hx rfl (D d32_96) rfl ?_
  exact kt
 obtain ⟨cq45, kq45, q45a, q45b, q45c⟩ := isOf hZ Eq42 Es
 obtain ⟨vv45, _, ⟨T45, L45, k45, n45⟩, -, X45, ⟨Lc45, hQ45, l45, y45, z45⟩, st45⟩ := Xh44.virtualBack hx (y := yM8) (z := yM8) hown (mvT hZ (Wd175 hw)) (mvT hZ (Wd176 hw)) (oNf hZ (Wd178 hw)) (mvT hZ (Wd178 hw)) (mvT hZ (Wd177 hw)) (by decide) (backOf (W := 0) (c_chat l Z a0 hw [] x ta kb z us (of + (4 : Int32)) d2 G1 G3 h0 n0 Z0 Es Vs Cs Ks hp4 O2 P5 O4 rG3 X00) hZ (Wd179 hw) (Wd6 hw) (by decide) (by decide)) q45a q45c (g := (fr_clg3 m x of ky 97 (vI 3) [(.int (of + (4 : Int32))), (.ref x)])) rfl (by rw [hml]; rfl) (Steps.refl _) (argsL := [(.int (of + (4 : Int32)))]) (rest := []) (lenOf pd_33 rfl) rfl (oWt rfl) (D d32_97) (fun _ _ => ⟨rfl, Eq42, oLe rfl, oLe rfl⟩)
 dsimp only [Pt.U, Pt.locs, Pt.cells, Pt.slots] at X45 l45 y45 z45 st45 hQ45
 subst l45 y45 z45
 obtain ⟨rfl, Nq45, Eq45⟩ := hQ45
 have N46 := Fr.app Nh44 Nq45
 obtain ⟨Lh47, Xh47, Nh47⟩ := oHd 0 0 X45 N46 rfl rfl
 refine ownSt st45 ?_
 clear st45
 show oA p e below _ T45 (fr_clg3 m x of ky 100 (vI 3) [(.int d2)])
 refine oTo T45 (fr_clg3 m x of ky 102 (vI 3) [(iV 2), (.ref ky), (.int d2)]) (fun t kt => ?_) ?_
 ·refine XS.aloadN Xh47.here hx rfl (D d32_100) rfl rfl ?_
  refine XS.iconst Xh47.here hx rfl (D d32_101) ?_
  exact kt
 obtain ⟨cq48, kq48, q48a, q48b, q48c⟩ := isOf hZ Eq45 Ey
 obtain ⟨vv48, _, ⟨T48, L48, k48, n48⟩, -, X48, ⟨Lc48, hQ48, l48, y48, z48⟩, st48⟩ := Xh47.virtualBack hx (y := yM8) (z := yM8) hown (mvT hZ (Wd175 hw)) (mvT hZ (Wd176 hw)) (oNf hZ (Wd178 hw)) (mvT hZ (Wd178 hw)) (mvT hZ (Wd177 hw)) (by decide) (backOf (W := 1) (c_chat l Z a0 hw [] ky tb kc (3 : Int32) [(.int (oL d0)), (.int (oL d1)), (.int (oL d2))] (2 : Int32) d2 G1 G3 h0 n0 Z0 Ey Vy Cy Ky ⟨⟨by decide, by decide⟩, rfl, hd2⟩ O2 P5 O4 rG3 X00) hZ (Wd179 hw) (Wd6 hw) (by decide) (by decide)) q48a q48c (g := (fr_clg3 m x of ky 102 (vI 3) [(iV 2), (.ref ky), (.int d2)])) rfl (by rw [hml]; rfl) (Steps.refl _) (argsL := [(iV 2)]) (rest := [(.int d2)]) (lenOf pd_33 rfl) rfl (oWt rfl) (D d32_102) (fun _ _ => ⟨rfl, Eq45, oLe rfl, oLe rfl⟩)
 dsimp only [Pt.U, Pt.locs, Pt.cells, Pt.slots] at X48 l48 y48 z48 st48 hQ48
 subst l48 y48 z48
 obtain ⟨rfl, Nq48, Eq48⟩ := hQ48
 have N49 := Fr.app Nh47 Nq48
 obtain ⟨Lh50, Xh50, Nh50⟩ := oHd 0 0 X48 N49 rfl rfl
 refine ownSt st48 ?_
 clear st48
 show oA p e below _ T48 (fr_clg3 m x of ky 105 (vI 3) [(.int d2), (.int d2)])
 refine oTo T48 (fr_clg3 m x of ky 116 (vI 3) [(.int ((of + (2 : Int32)) + (3 : Int32))), (.ref x)]) (fun t kt => ?_) ?_
 ·refine XS.icmpYes Xh50.here hx rfl (pc0 := 105) (pc' := 110) rfl (D d32_105) rfl (teq (rfl : d2 = d2)).1 (by decide) (by decide) ?_
  refine XS.aloadN Xh50.here hx rfl (D d32_110) rfl rfl ?_
  refine XS.iloadN Xh50.here hx rfl (D d32_111) rfl ?_
  refine XS.iconst Xh50.here hx rfl (D d32_112) ?_
  show Steps p.tables e below (T48.setTop (fr_clg3 m x of ky 113 (vI 3) [(iV 2), (.int of), (.ref x)])) t
  refine XS.iadd Xh50.here hx rfl (D d32_113) rfl ?_
  refine XS.iloadN Xh50.here hx rfl (D d32_114) rfl ?_
  refine XS.iadd Xh50.here hx rfl (D d32_115) rfl ?_
  exact kt
 obtain ⟨cq51, kq51, q51a, q51b, q51c⟩ := isOf hZ Eq48 Es
 obtain ⟨vv51, _, ⟨T51, L51, k51, n51⟩, -, X51, ⟨Lc51, hQ51, l51, y51, z51⟩, st51⟩ := Xh50.virtualBack hx (y := yM8) (z := yM8) hown (mvT hZ (Wd175 hw)) (mvT hZ (Wd176 hw)) (oNf hZ (Wd178 hw)) (mvT hZ (Wd178 hw)) (mvT hZ (Wd177 hw)) (by decide) (backOf (W := 0) (c_chat l Z a0 hw [] x ta kb z us ((of + (2 : Int32)) + (3 : Int32)) (62 : Int32) G1 G3 h0 n0 Z0 Es Vs Cs Ks hp5 O2 P5 O4 rG3 X00) hZ (Wd179 hw) (Wd6 hw) (by decide) (by decide)) q51a q51c (g := (fr_clg3 m x of ky 116 (vI 3) [(.int ((of + (2 : Int32)) + (3 : Int32))), (.ref x)])) rfl (by rw [hml]; rfl) (Steps.refl _) (argsL := [(.int ((of + (2 : Int32)) + (3 : Int32)))]) (rest := []) (lenOf pd_33 rfl) rfl (oWt rfl) (D d32_116) (fun _ _ => ⟨rfl, Eq48, oLe rfl, oLe rfl⟩)
 dsimp only [Pt.U, Pt.locs, Pt.cells, Pt.slots] at X51 l51 y51 z51 st51 hQ51
 subst l51 y51 z51
 obtain ⟨rfl, Nq51, Eq51⟩ := hQ51
 have N52 := Fr.app Nh50 Nq51
 obtain ⟨Lh53, Xh53, Nh53⟩ := oHd 0 0 X51 N52 rfl rfl
 refine ownSt st51 ?_
 clear st51
 show oA p e below _ T51 (fr_clg3 m x of ky 119 (vI 3) [(iV 62)])
 refine oTo T51 (fr_clg3 m x of ky 129 (vI 3) [(iV 1)]) (fun t kt => ?_) ?_
 ·refine XS.bipush Xh53.here hx rfl (D d32_119) ?_
  refine XS.icmpNo Xh53.here hx rfl (D d32_121) rfl (teq ((by decide) : (62 : Int32) = (62 : Int32))).2 ?_
  refine XS.iconst Xh53.here hx rfl (D d32_124) ?_
  refine XS.goto Xh53.here hx rfl (pc0 := 125) (pc' := 129) rfl (D d32_125) (by decide) (by decide) ?_
  exact kt
 refine ownRet Xh53 Bd.notSynchronized (v := some (.int (nar .boolean (1 : Int32)))) (fun h => by rw [Bd.returns] at h; cases h) ?_ (oLe rfl) (oLe rfl) (fun fs hr => retN Xh53 hx (t := .boolean) Bd.returns (by simp) (D d32_129) hr)
 show (Q_clg3 Z x ta kb z us of ky tb kc d0 d1 d2 G1 G3 h0 n0) (some (.int (nar .boolean (1 : Int32)))) T51.heap _
 rw [Eq51]
 exact ⟨rfl, Nh53, rfl⟩
abbrev fr_law (m : MethodId) (p1 : Int32) (p2 : Int32) (p3 : Int32) (pc : Nat) (x3_ x4_ x5_ x6_ x7_ x8_ x9_ : Slot) (st : List Value) : JFrame := mkF m pc #[vI p1, vI p2, vI p3, x3_, x4_, x5_, x6_, x7_, x8_, x9_] st
def Q_law (Z : State) (p1 : Int32) (p2 : Int32) (p3 : Int32) (G1 : Int32) (G3 : Value) (h0 : Heap) (n0 : Nat) (v : Option Value) (h : Heap) (L : List Loc) : Prop := v = some (.int 1) ∧ Fr n0 L
theorem ef_law (m : MethodId) (x0 : Int32) (x1 : Int32) (x2 : Int32)  : entryFrame m #[(.int x0), (.int x1), (.int x2)] maxLocals = mkF m 0 #[vI x0, vI x1, vI x2, .unset, .unset, .unset, .unset, .unset, .unset, .unset] [] := by first | (simp [entryFrame, mkF, argsToLocals, Value.category, maxLocals]; done) | rfl
set_option maxRecDepth 65536 in
set_option maxHeartbeats 40000000 in
theorem c_law (l : Launch) (Z : State) (a0 : Array Value) (hw : HW a0 Z) (ws : List Jvm.Cond) (p1 : Int32) (p2 : Int32) (p3 : Int32) (G1 : Int32) (G3 : Value) (h0 : Heap) (n0 : Nat) (Z0 : n0 ≤ h0.size) (O2 : Sta Z Z.heap "java/lang/String" "COMPACT_STRINGS" "Z" (.int G1)) (P5 : ¬ (G1 = (0 : Int32))) (O4 : Sta Z Z.heap "jdk/internal/util/Preconditions" "SIOOBE_FORMATTER" "Ljava/util/function/BiFunction;" G3) (rG3 : G3.isRef = true) (X00 : Old Z n0 h0) :
  MetFree l x (head1 (Jvm.Cond.code x code maxLocals ret :: ws) room_1) (fun a U => a = #[(.int p1), (.int p2), (.int p3)] ∧ Z.Warmed39 U.vm ∧ U.heap = h0 ∧ CHv Z ownEL U.vm h0) (fun _ _ _ _ _ => True) (fun _ U o U' => ∃ v L, o = .returned v ∧ (Q_law Z p1 p2 p3 G1 G3 h0 n0) v U'.heap L ∧ CHr Z ownEL U.vm U.heap U'.vm U'.heap ∧ ReturnedEndW U o U' L 40 2240) := by
 refine MetFree.of_bodySF (plainFor_of_name pn_26) hisR ?_
 intro p e s m args below meth c s₁ Bd hml0 hP hK
 obtain ⟨rfl, hZ, hHp, hCH⟩ := hP
 have hx := Bd.exec
 have D := fun {pc : Nat} {r} (h : decode _ pc = r) => hb Bd.bytes h
 have hml : c.maxLocals = 10 := hml0
 have hown : s.vm.findClass "com/example/quayside/quayside/web/HtmlClosePinLaw" = some m.cls := findClass_of_methodNamed Bd.named
 have hnm := (name_of_methodNamed Bd.named Bd.method).1
 have X0 : Stand p l e room_1 (s.setVm s.vm) m #[(.int p1), (.int p2), (.int p3)] below meth c s₁ [] 0 0 := Stand.of_body Bd
 have e0 : s₁.heap = h0 := by rw [← hHp, Bd.state]; rfl
 have N0 := Fr.nil n0
 refine ownOutH hHp (P := (Q_law Z p1 p2 p3 G1 G3 h0 n0)) ?_
 refine ownBy (A := s₁.setTop (mkF m 0 #[vI p1, vI p2, vI p3, .unset, .unset, .unset, .unset, .unset, .unset, .unset] [])) (fun t k => castTop (ef_law m p1 p2 p3) k) ?_
 have hS0 : s.Since s.vm h0.size := own_since
 have hEL := own_EW hw
 have R0 := CHr.refl hCH
 have wS := own_wS hw
 refine oTo s₁ (fr_law m p1 p2 p3 1 .unset .unset .unset .unset .unset .unset .unset [(.int p1)]) (fun t kt => ?_) ?_
 ·refine XS.iloadN X0.here hx rfl (D at_0) rfl ?_
  exact kt
 obtain ⟨vv21, _, ⟨T21, L21, k21, n21⟩, -, X21, hS21, hg21, ⟨Lc21, hQ21, l21, y21, z21, hC21⟩, st21⟩ := callSS X0 hx (y := yM31) hown (mvT hZ (Wd0 hw)) (mvT hZ (Wd1 hw)) (mvT hZ (Wd2 hw)) (mvT hZ (Wd3 hw)) (by decide) (backOfSH (W := 0) (s := s) (EL := ownEL) (c_tag l Z a0 hw [] p1 G1 h0 n0 Z0 O2 P5 X00) hZ (Wd3 hw) (Wd2 hw) (by decide) (by decide) hEL R0.1) (g := (fr_law m p1 p2 p3 1 .unset .unset .unset .unset .unset .unset .unset [(.int p1)])) rfl (by rw [hml]; rfl) (argsL := [(.int p1)]) (rest := []) (lenOf pd_34 rfl) rfl (oWt rfl) (D at_1) (fun _ _ => ⟨rfl, e0, oLe rfl, oLe rfl⟩)
 dsimp only [Pt.U, Pt.locs, Pt.cells, Pt.slots] at X21 l21 y21 z21 st21 hQ21 hS21 hg21 hC21
 subst l21 y21 z21
 obtain ⟨x21, t21, kb21, z21, us21, rfl, Nq21, Kq21, zq21, Eq21, Vq21, Cq21, Aq21, hT21⟩ := hQ21
 have g22 : n0 ≤ x21 := Nat.le_trans Z0 zq21
 have z23 : h0.size ≤ x21 := Nat.le_trans (Nat.le_refl h0.size) zq21
 have N24 := Fr.app N0 Nq21
 have R26 := R0.trans hC21
 obtain ⟨XR27, hSR27, hZ27, hown27⟩ := rebS hS0 (by rw [e0]; exact (Nat.le_refl _)) X21 hS21 hg21 hZ hown
 obtain ⟨Lh28, Xh28, Nh28⟩ := oHd 6 12 XR27 N24 rfl rfl
 refine ownSt st21 ?_
 clear st21
 show oA p e below _ T21 (fr_law m p1 p2 p3 4 .unset .unset .unset .unset .unset .unset .unset [(.ref x21)])
 refine oTo T21 (fr_law m p1 p2 p3 6 (vR x21) .unset .unset .unset .unset .unset .unset [(.int p2)]) (fun t kt => ?_) ?_
 ·refine XS.astoreN Xh28.here hx rfl (D at_4) rfl rfl (l' := #[vI p1, vI p2, vI p3, vR x21, .unset, .unset, .unset, .unset, .unset, .unset]) rfl ?_
  refine XS.iloadN Xh28.here hx rfl (D at_5) rfl ?_
  exact kt
 have f29 := (X00.keep Kq21 all0)
 have f30 := (Nat.le_trans Z0 Kq21.1)
 obtain ⟨vv31, _, ⟨T31, L31, k31, n31⟩, -, X31, hS31, hg31, ⟨Lc31, hQ31, l31, y31, z31, hC31⟩, st31⟩ := callSS Xh28 hx (y := yM31) hown27 (mvT hZ27 (Wd0 hw)) (mvT hZ27 (Wd1 hw)) (mvT hZ27 (Wd2 hw)) (mvT hZ27 (Wd3 hw)) (by decide) (backOfSH (W := 0) (s := s) (EL := ownEL) (c_tag l Z a0 hw [] p2 G1 T21.heap n0 f30 O2 P5 f29) hZ27 (Wd3 hw) (Wd2 hw) (by decide) (by decide) hEL R26.1) (g := (fr_law m p1 p2 p3 6 (vR x21) .unset .unset .unset .unset .unset .unset [(.int p2)])) rfl (by rw [hml]; rfl) (argsL := [(.int p2)]) (rest := []) (lenOf pd_34 rfl) rfl (oWt rfl) (D at_6) (fun _ _ => ⟨rfl, rfl, oLe rfl, oLe rfl⟩)
 dsimp only [Pt.U, Pt.locs, Pt.cells, Pt.slots] at X31 l31 y31 z31 st31 hQ31 hS31 hg31 hC31
 subst l31 y31 z31
 obtain ⟨x31, t31, kb31, z31, us31, rfl, Nq31, Kq31, zq31, Eq31, Vq31, Cq31, Aq31, hT31⟩ := hQ31
 have ne32 : x21 ≠ x31 := Nat.ne_of_lt (Nat.lt_of_lt_of_le Eq21.lt zq31)
 have ne33 : t21 ≠ x31 := Nat.ne_of_lt (Nat.lt_of_lt_of_le Aq21.lt zq31)
 have g34 : n0 ≤ x31 := Nat.le_trans f30 zq31
 have f36 := (Nat.le_trans (Nat.le_refl h0.size) Kq21.1)
 have z35 : h0.size ≤ x31 := Nat.le_trans f36 zq31
 have N37 := Fr.app Nh28 Nq31
 have R39 := R26.trans hC31
 obtain ⟨XR40, hSR40, hZ40, hown40⟩ := rebS hSR27 (Nat.le_refl _) X31 hS31 hg31 hZ27 hown27
 obtain ⟨Lh41, Xh41, Nh41⟩ := oHd 12 24 XR40 N37 rfl rfl
 refine ownSt st31 ?_
 clear st31
 show oA p e below _ T31 (fr_law m p1 p2 p3 9 (vR x21) .unset .unset .unset .unset .unset .unset [(.ref x31)])
 refine oTo T31 (fr_law m p1 p2 p3 14 (vR x21) (vR x31) .unset .unset .unset .unset .unset [(.int (p3 &&& (1 : Int32)))]) (fun t kt => ?_) ?_
 ·refine XS.astore Xh41.here hx rfl (D at_9) rfl rfl (l' := #[vI p1, vI p2, vI p3, vR x21, vR x31, .unset, .unset, .unset, .unset, .unset]) rfl ?_
  refine XS.iloadN Xh41.here hx rfl (D at_11) rfl ?_
  refine XS.iconst Xh41.here hx rfl (D at_12) ?_
  refine XS.iand Xh41.here hx rfl (D at_13) rfl ?_
  exact kt
 by_cases hc42 : (p3 &&& (1 : Int32)) = (0 : Int32)
 ·skip
  refine oTo T31 (fr_law m p1 p2 p3 24 (vR x21) (vR x31) (vI 0) .unset .unset .unset .unset []) (fun t kt => ?_) ?_
  ·refine XS.ifYes Xh41.here hx rfl (pc0 := 14) (pc' := 21) rfl (D at_14) rfl ((if0 _ _).trans (teq hc42).1) (by decide) (by decide) ?_
   refine XS.iconst Xh41.here hx rfl (D at_21) ?_
   refine XS.istore Xh41.here hx rfl (D at_22) rfl (l' := #[vI p1, vI p2, vI p3, vR x21, vR x31, vI 0, .unset, .unset, .unset, .unset]) rfl ?_
   exact kt
  obtain ⟨T43, h43, X43, e43, E43, A43, D43, -, st43⟩ := newO Xh41 hx hZ40 hown40 (Wd26 hw) (Wd27 hw) (Wd28 hw) rfl (g := (fr_law m p1 p2 p3 24 (vR x21) (vR x31) (vI 0) .unset .unset .unset .unset [])) rfl (D at_24) (by decide) (by decide)
  obtain ⟨b43, g43⟩ : ∃ z, z = T31.heap.size := ⟨_, rfl⟩
  rw [← g43] at A43 D43 st43
  have f45 := (Eq21.keep Kq31)
  have ne44 : x21 ≠ b43 := Nat.ne_of_lt (Nat.lt_of_lt_of_le f45.lt (Nat.le_of_eq g43.symm))
  have f47 := (Aq21.keep Kq31 nin0)
  have ne46 : t21 ≠ b43 := Nat.ne_of_lt (Nat.lt_of_lt_of_le f47.lt (Nat.le_of_eq g43.symm))
  have ne48 : x31 ≠ b43 := Nat.ne_of_lt (Nat.lt_of_lt_of_le Eq31.lt (Nat.le_of_eq g43.symm))
  have ne49 : t31 ≠ b43 := Nat.ne_of_lt (Nat.lt_of_lt_of_le Aq31.lt (Nat.le_of_eq g43.symm))
  have f51 := (Nat.le_trans f30 Kq31.1)
  have g50 : n0 ≤ b43 := Nat.le_trans f51 (Nat.le_of_eq g43.symm)
  have sf52 : Safe Z ownEL T31.vm T31.heap b43 := Safe.new (Nat.le_of_eq g43.symm)
  have f54 := (Nat.le_trans f36 Kq31.1)
  have z53 : h0.size ≤ b43 := Nat.le_trans f54 (Nat.le_of_eq g43.symm)
  have R55 := R39.trans (CHr.ext E43 R39.1)
  have sf56 := Safe.ext E43 R39.1 sf52
  have F57 : Fld Z h43 b43 "com/example/quayside/quayside/web/Html" "html" "Ljava/lang/StringBuilder;" .null := D43 (Or.inr (Wd52 hw)) (ty := (.object "java/lang/StringBuilder")) (by decide)
  refine ownBy st43 ?_
  clear st43
  show oA p e below _ T43 (fr_law m p1 p2 p3 27 (vR x21) (vR x31) (vI 0) .unset .unset .unset .unset [(.ref b43)])
  refine oTo T43 (fr_law m p1 p2 p3 28 (vR x21) (vR x31) (vI 0) .unset .unset .unset .unset [(.ref b43), (.ref b43)]) (fun t kt => ?_) ?_
  ·refine XS.dup X43.here hx rfl (D at_27) rfl rfl ?_
   exact kt
  have f58 := ((f29.keep Kq31 all0).ext E43)
  have f59 := (Nat.le_trans f51 E43.1)
  obtain ⟨vv60, _, ⟨T60, L60, k60, n60⟩, -, X60, ⟨Lc60, hQ60, l60, y60, z60⟩, st60⟩ := X43.specialBack hx (y := yM32) rfl hown40 (mvT hZ40 (Wd29 hw)) (mvT hZ40 (Wd30 hw)) (mvT hZ40 (Wd31 hw)) (by decide) (backOf (W := 1) (c_hin l Z a0 hw [] b43 G1 h43 n0 f59 A43 F57 g50 O2 P5 f58) hZ40 (Wd31 hw) (Wd28 hw) (by decide) (by decide)) (g := (fr_law m p1 p2 p3 28 (vR x21) (vR x31) (vI 0) .unset .unset .unset .unset [(.ref b43), (.ref b43)])) rfl (by rw [hml]; rfl) (Steps.refl _) (a := b43) (argsL := []) (rest := [(.ref b43)]) (lenOf pd_29 rfl) rfl (oWt rfl) (D at_28) (fun _ _ => ⟨rfl, e43, oLe rfl, oLe rfl⟩)
  dsimp only [Pt.U, Pt.locs, Pt.cells, Pt.slots] at X60 l60 y60 z60 st60 hQ60
  subst l60 y60 z60
  obtain ⟨rfl, Nq60, Kq60, sb60, t60, kv60, zb60, zv60, Eh60, Fh60, Eq60, Vq60, Cq60, Mq60, Aq60⟩ := hQ60
  have f62 := (f45.ext E43)
  have ne61 : x21 ≠ sb60 := Nat.ne_of_lt (Nat.lt_of_lt_of_le f62.lt zb60)
  have f64 := (f47.ext E43)
  have ne63 : t21 ≠ sb60 := Nat.ne_of_lt (Nat.lt_of_lt_of_le f64.lt zb60)
  have f66 := (Eq31.ext E43)
  have ne65 : x31 ≠ sb60 := Nat.ne_of_lt (Nat.lt_of_lt_of_le f66.lt zb60)
  have f68 := (Aq31.ext E43)
  have ne67 : t31 ≠ sb60 := Nat.ne_of_lt (Nat.lt_of_lt_of_le f68.lt zb60)
  have ne69 : b43 ≠ sb60 := Nat.ne_of_lt (Nat.lt_of_lt_of_le A43.lt zb60)
  have g70 : n0 ≤ sb60 := Nat.le_trans f59 zb60
  have sf71 : Safe Z ownEL T31.vm h43 sb60 := Safe.new zb60
  have f73 := (Nat.le_trans f54 E43.1)
  have z72 : h0.size ≤ sb60 := Nat.le_trans f73 zb60
  have ne74 : x21 ≠ t60 := Nat.ne_of_lt (Nat.lt_of_lt_of_le f62.lt zv60)
  have ne75 : t21 ≠ t60 := Nat.ne_of_lt (Nat.lt_of_lt_of_le f64.lt zv60)
  have ne76 : x31 ≠ t60 := Nat.ne_of_lt (Nat.lt_of_lt_of_le f66.lt zv60)
  have ne77 : t31 ≠ t60 := Nat.ne_of_lt (Nat.lt_of_lt_of_le f68.lt zv60)
  have ne78 : b43 ≠ t60 := Nat.ne_of_lt (Nat.lt_of_lt_of_le A43.lt zv60)
  have g79 : n0 ≤ t60 := Nat.le_trans f59 zv60
  have sf80 : Safe Z ownEL T31.vm h43 t60 := Safe.new zv60
  have z81 : h0.size ≤ t60 := Nat.le_trans f73 zv60
  have N82 := Fr.app Nh41 Nq60
  have R83 := R55.trans (CHr.keep Kq60 (sfS sf56 sf0) R55.1)
  have sf84 := Safe.keep Kq60 (sfS sf56 sf0) R55.1 sf56
  have sf85 := Safe.keep Kq60 (sfS sf56 sf0) R55.1 sf71
  have sf86 := Safe.keep Kq60 (sfS sf56 sf0) R55.1 sf80
  obtain ⟨Lh87, Xh87, Nh87⟩ := oHd 15 45 X60 N82 rfl rfl
  refine ownSt st60 ?_
  clear st60
  show oA p e below _ T60 (fr_law m p1 p2 p3 31 (vR x21) (vR x31) (vI 0) .unset .unset .unset .unset [(.ref b43)])
  have ne88 : sb60 ≠ t60 := Exa.neArv Eq60 Aq60 (Wd34 hw)
  refine oTo T60 (fr_law m p1 p2 p3 55 (vR x21) (vR x31) (vI 0) (vR b43) .unset .unset .unset []) (fun t kt => ?_) ?_
  ·refine XS.astore Xh87.here hx rfl (D at_31) rfl rfl (l' := #[vI p1, vI p2, vI p3, vR x21, vR x31, vI 0, vR b43, .unset, .unset, .unset]) rfl ?_
   refine XS.iload Xh87.here hx rfl (D at_33) rfl ?_
   refine XS.ifYes Xh87.here hx rfl (pc0 := 35) (pc' := 55) rfl (D at_35) rfl ((if0 _ _).trans (teq ((by decide) : (0 : Int32) = (0 : Int32))).1) (by decide) (by decide) ?_
   exact kt
  rcases hT31 with ⟨-, rfl, rfl⟩ | ⟨g0, hr_g0, rfl, rfl⟩ | ⟨g0, g1, hr_g0, hr_g1, rfl, rfl⟩ | ⟨g0, g1, g2, hr_g0, hr_g1, hr_g2, rfl, rfl⟩
  ·skip
   refine oTo T60 (fr_law m p1 p2 p3 59 (vR x21) (vR x31) (vI 0) (vR b43) .unset .unset .unset [(.ref x31), (.ref b43)]) (fun t kt => ?_) ?_
   ·refine XS.aload Xh87.here hx rfl (D at_55) rfl rfl ?_
    refine XS.aload Xh87.here hx rfl (D at_57) rfl rfl ?_
    exact kt
   have f89 := (f66.keep Kq60)
   have f90 := ((Vq31.ext E43).keep Kq60 (ninS ne48 nin0))
   have f91 := ((Cq31.ext E43).keep Kq60 (ninS ne48 nin0))
   have f92 := (f68.keep Kq60 (ninS ne49 nin0))
   have f93 := (f58.keep Kq60 (allS g50 all0))
   have f94 := (Nat.le_trans f59 Kq60.1)
   obtain ⟨cq95, kq95, q95a, q95b, q95c⟩ := isOf hZ40 rfl Eh60
   obtain ⟨vv95, _, ⟨T95, L95, k95, n95⟩, -, X95, hS95, hg95, ⟨Lc95, hQ95, l95, y95, z95, hC95⟩, st95⟩ := Xh87.virtualBackS hx (y := yM33) (z := yM33) hown40 (mvT hZ40 (Wd53 hw)) (mvT hZ40 (Wd54 hw)) (oNf hZ40 (Wd56 hw)) (mvT hZ40 (Wd56 hw)) (mvT hZ40 (Wd55 hw)) (by decide) (backOfSH (W := 0) (s := s) (EL := ownEL) (c_hcl l Z a0 hw [] b43 x31 t31 kb31 (0 : Int32) [] sb60 t60 kv60 (16 : Int32) (oI [0, 0, 0, 0, 0, 0, 0, 0, 0, 0, 0, 0, 0, 0, 0, 0]) (0 : Int32) (oI [60, 47, 0, 0, 0, 0, 0, 0, 0, 0, 0, 0, 0, 0, 0, 0]) (oI [60, 47, 0, 0, 0, 0, 0, 0, 0, 0, 0, 0, 0, 0, 0, 0]) (oI [60, 47, 62, 0, 0, 0, 0, 0, 0, 0, 0, 0, 0, 0, 0, 0]) (2 : Int32) (2 : Int32) (3 : Int32) G1 T60.heap n0 f94 Eh60 Fh60 f89 f90 f91 f92 Eq60 Vq60 Cq60 Mq60 Aq60 g70 g79 ne77 (by decide +kernel) (oCp (by decide +kernel) rfl rfl rfl) (oCp (by decide +kernel) rfl rfl rfl) (oCq (by decide +kernel) rfl rfl) O2 P5 f93) hZ40 (Wd57 hw) (Wd28 hw) (by decide) (by decide) hEL R83.1) q95a q95c (g := (fr_law m p1 p2 p3 59 (vR x21) (vR x31) (vI 0) (vR b43) .unset .unset .unset [(.ref x31), (.ref b43)])) rfl (by rw [hml]; rfl) (Steps.refl _) (argsL := [(.ref x31)]) (rest := []) (lenOf pd_35 rfl) rfl (oWt rfl) (D at_59) (fun _ _ => ⟨rfl, rfl, oLe rfl, oLe rfl⟩)
   dsimp only [Pt.U, Pt.locs, Pt.cells, Pt.slots] at X95 l95 y95 z95 st95 hQ95 hS95 hg95 hC95
   subst l95 y95 z95
   obtain ⟨rfl, Nq95, Kq95, Eq95, Vq95, Cq95, Mq95, Aq95⟩ := hQ95
   have N96 := Fr.app Nh87 Nq95
   have R98 := R83.trans hC95
   have sf99 := CHr.safe hC95 Eh60.lt sf84
   have sf100 := CHr.safe hC95 Eq60.lt sf85
   have sf101 := CHr.safe hC95 Aq60.lt sf86
   obtain ⟨XR102, hSR102, hZ102, hown102⟩ := rebS hSR40 (Nat.le_trans (Nat.le_trans (Nat.le_refl _) E43.1) Kq60.1) X95 hS95 hg95 hZ40 hown40
   obtain ⟨Lh103, Xh103, Nh103⟩ := oHd 17 57 XR102 N96 rfl rfl
   refine ownSt st95 ?_
   clear st95
   show oA p e below _ T95 (fr_law m p1 p2 p3 62 (vR x21) (vR x31) (vI 0) (vR b43) .unset .unset .unset [(.ref b43)])
   refine oTo T95 (fr_law m p1 p2 p3 75 (vR x21) (vR x31) (vI 0) (vR b43) (vR b43) .unset .unset [(.ref b43)]) (fun t kt => ?_) ?_
   ·refine XS.astore Xh103.here hx rfl (D at_62) rfl rfl (l' := #[vI p1, vI p2, vI p3, vR x21, vR x31, vI 0, vR b43, vR b43, .unset, .unset]) rfl ?_
    refine XS.aload Xh103.here hx rfl (D at_64) rfl rfl ?_
    refine XS.aload Xh103.here hx rfl (D at_66) rfl rfl ?_
    refine Jvm.RoadKit.acmp (g := (fr_law m p1 p2 p3 68 (vR x21) (vR x31) (vI 0) (vR b43) (vR b43) .unset .unset [(.ref b43), (.ref b43)])) Xh103 hx rfl rfl rfl (pc0 := 68) (pc' := 73) (same := true) rfl (D at_68) rfl (decide_eq_true rfl) (by decide) (by decide) ?_
    refine XS.aload Xh103.here hx rfl (D at_73) rfl rfl ?_
    exact kt
   have f104 := (Eh60.keep Kq95)
   have f105 := (Fh60.keep Kq95 (ninS ne69 (ninS ne78 nin0)))
   have f106 := (f93.keep Kq95 (allS g70 (allS g79 all0)))
   have f107 := (Nat.le_trans f94 Kq95.1)
   obtain ⟨cq108, kq108, q108a, q108b, q108c⟩ := isOf hZ102 rfl f104
   obtain ⟨vv108, _, ⟨T108, L108, k108, n108⟩, -, X108, ⟨Lc108, hQ108, l108, y108, z108⟩, st108⟩ := Xh103.virtualBack hx (y := yM34) (z := yM34) hown102 (mvT hZ102 (Wd125 hw)) (mvT hZ102 (Wd126 hw)) (oNf hZ102 (Wd128 hw)) (mvT hZ102 (Wd128 hw)) (mvT hZ102 (Wd127 hw)) (by decide) (backOf (W := 0) (c_hts l Z a0 hw [] b43 sb60 t60 kv60 (16 : Int32) (oI [60, 47, 62, 0, 0, 0, 0, 0, 0, 0, 0, 0, 0, 0, 0, 0]) (3 : Int32) (oI [60, 47, 62]) G1 T95.heap n0 f107 f104 f105 Eq95 Vq95 Cq95 Mq95 Aq95 (oCr (by decide +kernel) rfl) O2 P5 f106) hZ102 (Wd129 hw) (Wd28 hw) (by decide) (by decide)) q108a q108c (g := (fr_law m p1 p2 p3 75 (vR x21) (vR x31) (vI 0) (vR b43) (vR b43) .unset .unset [(.ref b43)])) rfl (by rw [hml]; rfl) (Steps.refl _) (argsL := []) (rest := []) (lenOf pd_32 rfl) rfl (oWt rfl) (D at_75) (fun _ _ => ⟨rfl, rfl, oLe rfl, oLe rfl⟩)
   dsimp only [Pt.U, Pt.locs, Pt.cells, Pt.slots] at X108 l108 y108 z108 st108 hQ108
   subst l108 y108 z108
   obtain ⟨x108, t108, kn108, rfl, Nq108, Kq108, zx108, zq108, Eq108, Vq108, Cq108, Aq108⟩ := hQ108
   have f110 := ((f62.keep Kq60).keep Kq95)
   have ne109 : x21 ≠ x108 := Nat.ne_of_lt (Nat.lt_of_lt_of_le f110.lt zx108)
   have f112 := ((f64.keep Kq60 (ninS ne46 nin0)).keep Kq95 (ninS ne63 (ninS ne75 nin0)))
   have ne111 : t21 ≠ x108 := Nat.ne_of_lt (Nat.lt_of_lt_of_le f112.lt zx108)
   have f114 := (f89.keep Kq95)
   have ne113 : x31 ≠ x108 := Nat.ne_of_lt (Nat.lt_of_lt_of_le f114.lt zx108)
   have f116 := (f92.keep Kq95 (ninS ne67 (ninS ne77 nin0)))
   have ne115 : t31 ≠ x108 := Nat.ne_of_lt (Nat.lt_of_lt_of_le f116.lt zx108)
   have ne117 : b43 ≠ x108 := Nat.ne_of_lt (Nat.lt_of_lt_of_le f104.lt zx108)
   have ne118 : sb60 ≠ x108 := Nat.ne_of_lt (Nat.lt_of_lt_of_le Eq95.lt zx108)
   have ne119 : t60 ≠ x108 := Nat.ne_of_lt (Nat.lt_of_lt_of_le Aq95.lt zx108)
   have g120 : n0 ≤ x108 := Nat.le_trans f107 zx108
   have sf121 : Safe Z ownEL T95.vm T95.heap x108 := Safe.new zx108
   have f123 := (Nat.le_trans (Nat.le_trans f73 Kq60.1) Kq95.1)
   have z122 : h0.size ≤ x108 := Nat.le_trans f123 zx108
   have ne124 : x21 ≠ t108 := Nat.ne_of_lt (Nat.lt_of_lt_of_le f110.lt zq108)
   have ne125 : t21 ≠ t108 := Nat.ne_of_lt (Nat.lt_of_lt_of_le f112.lt zq108)
   have ne126 : x31 ≠ t108 := Nat.ne_of_lt (Nat.lt_of_lt_of_le f114.lt zq108)
   have ne127 : t31 ≠ t108 := Nat.ne_of_lt (Nat.lt_of_lt_of_le f116.lt zq108)
   have ne128 : b43 ≠ t108 := Nat.ne_of_lt (Nat.lt_of_lt_of_le f104.lt zq108)
   have ne129 : sb60 ≠ t108 := Nat.ne_of_lt (Nat.lt_of_lt_of_le Eq95.lt zq108)
   have ne130 : t60 ≠ t108 := Nat.ne_of_lt (Nat.lt_of_lt_of_le Aq95.lt zq108)
   have g131 : n0 ≤ t108 := Nat.le_trans f107 zq108
   have sf132 : Safe Z ownEL T95.vm T95.heap t108 := Safe.new zq108
   have z133 : h0.size ≤ t108 := Nat.le_trans f123 zq108
   have N134 := Fr.app Nh103 Nq108
   have R135 := R98.trans (CHr.keep Kq108 sf0 R98.1)
   have sf136 := Safe.keep Kq108 sf0 R98.1 sf99
   have sf137 := Safe.keep Kq108 sf0 R98.1 sf100
   have sf138 := Safe.keep Kq108 sf0 R98.1 sf101
   have sf139 := Safe.keep Kq108 sf0 R98.1 sf121
   have sf140 := Safe.keep Kq108 sf0 R98.1 sf132
   obtain ⟨Lh141, Xh141, Nh141⟩ := oHd 19 77 X108 N134 rfl rfl
   refine ownSt st108 ?_
   clear st108
   show oA p e below _ T108 (fr_law m p1 p2 p3 78 (vR x21) (vR x31) (vI 0) (vR b43) (vR b43) .unset .unset [(.ref x108)])
   refine oTo T108 (fr_law m p1 p2 p3 114 (vR x21) (vR x31) (vI 0) (vR b43) (vR b43) (vR x108) (vI 0) [(.ref x31), (iV 0), (.ref x108)]) (fun t kt => ?_) ?_
   ·refine XS.astore Xh141.here hx rfl (D at_78) rfl rfl (l' := #[vI p1, vI p2, vI p3, vR x21, vR x31, vI 0, vR b43, vR b43, vR x108, .unset]) rfl ?_
    refine XS.iconst Xh141.here hx rfl (D at_80) ?_
    refine XS.istore Xh141.here hx rfl (D at_81) rfl (l' := #[vI p1, vI p2, vI p3, vR x21, vR x31, vI 0, vR b43, vR b43, vR x108, vI 0]) rfl ?_
    refine XS.iload Xh141.here hx rfl (D at_83) rfl ?_
    refine XS.ifYes Xh141.here hx rfl (pc0 := 85) (pc' := 108) rfl (D at_85) rfl ((if0 _ _).trans (teq ((by decide) : (0 : Int32) = (0 : Int32))).1) (by decide) (by decide) ?_
    refine XS.aload Xh141.here hx rfl (D at_108) rfl rfl ?_
    refine XS.iload Xh141.here hx rfl (D at_110) rfl ?_
    refine XS.aload Xh141.here hx rfl (D at_112) rfl rfl ?_
    exact kt
   have f142 := (f114.keep Kq108)
   have f143 := ((f90.keep Kq95 (ninS ne65 (ninS ne76 nin0))).keep Kq108 nin0)
   have f144 := ((f91.keep Kq95 (ninS ne65 (ninS ne76 nin0))).keep Kq108 nin0)
   have f145 := (f116.keep Kq108 nin0)
   have f146 := (f106.keep Kq108 all0)
   have f147 := (Nat.le_trans f107 Kq108.1)
   obtain ⟨vv148, _, ⟨T148, L148, k148, n148⟩, -, X148, ⟨Lc148, hQ148, l148, y148, z148⟩, st148⟩ := Jvm.LawKit.callS Xh141 hx (y := yM35) hown102 (mvT hZ102 (Wd171 hw)) (mvT hZ102 (Wd172 hw)) (mvT hZ102 (Wd2 hw)) (mvT hZ102 (Wd173 hw)) (by decide) (backOf (W := 0) (c_clg0 l Z a0 hw [] x108 t108 kn108 (3 : Int32) (oI [60, 47, 62]) (0 : Int32) x31 t31 kb31 G1 G3 T108.heap n0 f147 Eq108 Vq108 Cq108 Aq108 f142 f143 f144 f145 (by decide +kernel) (by decide +kernel) (oCl (by decide +kernel) rfl (by decide +kernel)) (oCl (by decide +kernel) rfl (by decide +kernel)) (oCl (by decide +kernel) rfl (by decide +kernel)) O2 P5 O4 rG3 f146) hZ102 (Wd173 hw) (Wd2 hw) (by decide) (by decide)) (g := (fr_law m p1 p2 p3 114 (vR x21) (vR x31) (vI 0) (vR b43) (vR b43) (vR x108) (vI 0) [(.ref x31), (iV 0), (.ref x108)])) rfl (by rw [hml]; rfl) (argsL := [(.ref x108), (iV 0), (.ref x31)]) (rest := []) (lenOf pd_36 rfl) rfl (oWt rfl) (D at_114) (fun _ _ => ⟨rfl, rfl, oLe rfl, oLe rfl⟩)
   dsimp only [Pt.U, Pt.locs, Pt.cells, Pt.slots] at X148 l148 y148 z148 st148 hQ148
   subst l148 y148 z148
   obtain ⟨rfl, Nq148, Eq148⟩ := hQ148
   have N149 := Fr.app Nh141 Nq148
   obtain ⟨Lh150, Xh150, Nh150⟩ := oHd 19 77 X148 N149 rfl rfl
   refine ownBy st148 ?_
   clear st148
   show oA p e below _ T148 (fr_law m p1 p2 p3 117 (vR x21) (vR x31) (vI 0) (vR b43) (vR b43) (vR x108) (vI 0) [(iV 1)])
   refine oTo T148 (fr_law m p1 p2 p3 124 (vR x21) (vR x31) (vI 0) (vR b43) (vR b43) (vR x108) (vI 0) [(.ref x108)]) (fun t kt => ?_) ?_
   ·refine XS.ifYes Xh150.here hx rfl (pc0 := 117) (pc' := 122) rfl (D at_117) rfl ((if0 _ _).trans (feq ((by decide) : ¬ ((1 : Int32) = (0 : Int32)))).2) (by decide) (by decide) ?_
    refine XS.aload Xh150.here hx rfl (D at_122) rfl rfl ?_
    exact kt
   obtain ⟨cq151, kq151, q151a, q151b, q151c⟩ := isOf hZ102 Eq148 Eq108
   obtain ⟨vv151, _, ⟨T151, L151, k151, n151⟩, -, X151, ⟨Lc151, hQ151, l151, y151, z151⟩, st151⟩ := Xh150.virtualBack hx (y := yM4) (z := yM4) hown102 (mvT hZ102 (Wd174 hw)) (mvT hZ102 (Wd70 hw)) (oNf hZ102 (Wd72 hw)) (mvT hZ102 (Wd72 hw)) (mvT hZ102 (Wd71 hw)) (by decide) (backOf (W := 0) (c_leng l Z a0 hw [] x108 t108 kn108 (3 : Int32) (oI [60, 47, 62]) G1 T108.heap n0 f147 Eq108 Vq108 Cq108 Aq108 (by decide +kernel) O2 P5 f146) hZ102 (Wd73 hw) (Wd6 hw) (by decide) (by decide)) q151a q151c (g := (fr_law m p1 p2 p3 124 (vR x21) (vR x31) (vI 0) (vR b43) (vR b43) (vR x108) (vI 0) [(.ref x108)])) rfl (by rw [hml]; rfl) (Steps.refl _) (argsL := []) (rest := []) (lenOf pd_15 rfl) rfl (oWt rfl) (D at_124) (fun _ _ => ⟨rfl, Eq148, oLe rfl, oLe rfl⟩)
   dsimp only [Pt.U, Pt.locs, Pt.cells, Pt.slots] at X151 l151 y151 z151 st151 hQ151
   subst l151 y151 z151
   obtain ⟨rfl, Nq151, Eq151⟩ := hQ151
   have N152 := Fr.app Nh150 Nq151
   obtain ⟨Lh153, Xh153, Nh153⟩ := oHd 19 77 X151 N152 rfl rfl
   refine ownSt st151 ?_
   clear st151
   show oA p e below _ T151 (fr_law m p1 p2 p3 127 (vR x21) (vR x31) (vI 0) (vR b43) (vR b43) (vR x108) (vI 0) [(iV 3)])
   refine oTo T151 (fr_law m p1 p2 p3 131 (vR x21) (vR x31) (vI 0) (vR b43) (vR b43) (vR x108) (vI 0) [(.ref x31), (iV 0), (iV 3)]) (fun t kt => ?_) ?_
   ·refine XS.iload Xh153.here hx rfl (D at_127) rfl ?_
    refine XS.aload Xh153.here hx rfl (D at_129) rfl rfl ?_
    exact kt
   obtain ⟨cq154, kq154, q154a, q154b, q154c⟩ := isOf hZ102 Eq151 f142
   obtain ⟨vv154, _, ⟨T154, L154, k154, n154⟩, -, X154, ⟨Lc154, hQ154, l154, y154, z154⟩, st154⟩ := Xh153.virtualBack hx (y := yM4) (z := yM4) hown102 (mvT hZ102 (Wd174 hw)) (mvT hZ102 (Wd70 hw)) (oNf hZ102 (Wd72 hw)) (mvT hZ102 (Wd72 hw)) (mvT hZ102 (Wd71 hw)) (by decide) (backOf (W := 2) (c_leng l Z a0 hw [] x31 t31 kb31 (0 : Int32) [] G1 T108.heap n0 f147 f142 f143 f144 f145 (by decide +kernel) O2 P5 f146) hZ102 (Wd73 hw) (Wd6 hw) (by decide) (by decide)) q154a q154c (g := (fr_law m p1 p2 p3 131 (vR x21) (vR x31) (vI 0) (vR b43) (vR b43) (vR x108) (vI 0) [(.ref x31), (iV 0), (iV 3)])) rfl (by rw [hml]; rfl) (Steps.refl _) (argsL := []) (rest := [(iV 0), (iV 3)]) (lenOf pd_15 rfl) rfl (oWt rfl) (D at_131) (fun _ _ => ⟨rfl, Eq151, oLe rfl, oLe rfl⟩)
   dsimp only [Pt.U, Pt.locs, Pt.cells, Pt.slots] at X154 l154 y154 z154 st154 hQ154
   subst l154 y154 z154
   obtain ⟨rfl, Nq154, Eq154⟩ := hQ154
   have N155 := Fr.app Nh153 Nq154
   obtain ⟨Lh156, Xh156, Nh156⟩ := oHd 19 77 X154 N155 rfl rfl
   refine ownSt st154 ?_
   clear st154
   show oA p e below _ T154 (fr_law m p1 p2 p3 134 (vR x21) (vR x31) (vI 0) (vR b43) (vR b43) (vR x108) (vI 0) [(iV 0), (iV 0), (iV 3)])
   refine oTo T154 (fr_law m p1 p2 p3 145 (vR x21) (vR x31) (vI 0) (vR b43) (vR b43) (vR x108) (vI 0) [(iV 1)]) (fun t kt => ?_) ?_
   ·refine XS.iadd Xh156.here hx rfl (D at_134) rfl ?_
    refine XS.iconst Xh156.here hx rfl (D at_135) ?_
    refine XS.iadd Xh156.here hx rfl (D at_136) rfl ?_
    refine XS.icmpNo Xh156.here hx rfl (D at_137) rfl (teq ((by decide) : (3 : Int32) = (3 : Int32))).2 ?_
    refine XS.iconst Xh156.here hx rfl (D at_140) ?_
    refine XS.goto Xh156.here hx rfl (pc0 := 141) (pc' := 145) rfl (D at_141) (by decide) (by decide) ?_
    exact kt
   refine ownRetH Xh156 hSR102 (by rw [Eq154]; exact (Nat.le_trans (Nat.le_refl _) Kq108.1)) Bd.notSynchronized (v := some (.int (nar .boolean (1 : Int32)))) (fun h => by rw [Bd.returns] at h; cases h) ?_ (R135.trans ((by rw [Eq154]; exact CHv.at Xh156 hZ102 hEL R135.1))) (oLe rfl) (oLe rfl) (fun fs hr => retN Xh156 hx (t := .boolean) Bd.returns (by simp) (D at_145) hr)
   show (Q_law Z p1 p2 p3 G1 G3 h0 n0) (some (.int (nar .boolean (1 : Int32)))) T154.heap _
   rw [Eq154]
   exact ⟨rfl, Nh156⟩
  ·skip
   refine oTo T60 (fr_law m p1 p2 p3 59 (vR x21) (vR x31) (vI 0) (vR b43) .unset .unset .unset [(.ref x31), (.ref b43)]) (fun t kt => ?_) ?_
   ·refine XS.aload Xh87.here hx rfl (D at_55) rfl rfl ?_
    refine XS.aload Xh87.here hx rfl (D at_57) rfl rfl ?_
    exact kt
   have f158 := (f66.keep Kq60)
   have f159 := ((Vq31.ext E43).keep Kq60 (ninS ne48 nin0))
   have f160 := ((Cq31.ext E43).keep Kq60 (ninS ne48 nin0))
   have f161 := (f68.keep Kq60 (ninS ne49 nin0))
   have f162 := (f58.keep Kq60 (allS g50 all0))
   have f163 := (Nat.le_trans f59 Kq60.1)
   obtain ⟨cq164, kq164, q164a, q164b, q164c⟩ := isOf hZ40 rfl Eh60
   obtain ⟨vv164, _, ⟨T164, L164, k164, n164⟩, -, X164, hS164, hg164, ⟨Lc164, hQ164, l164, y164, z164, hC164⟩, st164⟩ := Xh87.virtualBackS hx (y := yM33) (z := yM33) hown40 (mvT hZ40 (Wd53 hw)) (mvT hZ40 (Wd54 hw)) (oNf hZ40 (Wd56 hw)) (mvT hZ40 (Wd56 hw)) (mvT hZ40 (Wd55 hw)) (by decide) (backOfSH (W := 0) (s := s) (EL := ownEL) (c_hcl l Z a0 hw [] b43 x31 t31 kb31 (1 : Int32) (oI [oL g0]) sb60 t60 kv60 (16 : Int32) (oI [0, 0, 0, 0, 0, 0, 0, 0, 0, 0, 0, 0, 0, 0, 0, 0]) (0 : Int32) (oI [60, 47, 0, 0, 0, 0, 0, 0, 0, 0, 0, 0, 0, 0, 0, 0]) (oI [60, 47, oL g0, 0, 0, 0, 0, 0, 0, 0, 0, 0, 0, 0, 0, 0]) (oI [60, 47, oL g0, 62, 0, 0, 0, 0, 0, 0, 0, 0, 0, 0, 0, 0]) (2 : Int32) (3 : Int32) (4 : Int32) G1 T60.heap n0 f163 Eh60 Fh60 f158 f159 f160 f161 Eq60 Vq60 Cq60 Mq60 Aq60 g70 g79 ne77 (by decide +kernel) (oCp (by decide +kernel) rfl rfl rfl) (oCp (by decide +kernel) rfl rfl rfl) (oCq (by decide +kernel) rfl rfl) O2 P5 f162) hZ40 (Wd57 hw) (Wd28 hw) (by decide) (by decide) hEL R83.1) q164a q164c (g := (fr_law m p1 p2 p3 59 (vR x21) (vR x31) (vI 0) (vR b43) .unset .unset .unset [(.ref x31), (.ref b43)])) rfl (by rw [hml]; rfl) (Steps.refl _) (argsL := [(.ref x31)]) (rest := []) (lenOf pd_35 rfl) rfl (oWt rfl) (D at_59) (fun _ _ => ⟨rfl, rfl, oLe rfl, oLe rfl⟩)
   dsimp only [Pt.U, Pt.locs, Pt.cells, Pt.slots] at X164 l164 y164 z164 st164 hQ164 hS164 hg164 hC164
   subst l164 y164 z164
   obtain ⟨rfl, Nq164, Kq164, Eq164, Vq164, Cq164, Mq164, Aq164⟩ := hQ164
   have N165 := Fr.app Nh87 Nq164
   have R167 := R83.trans hC164
   have sf168 := CHr.safe hC164 Eh60.lt sf84
   have sf169 := CHr.safe hC164 Eq60.lt sf85
   have sf170 := CHr.safe hC164 Aq60.lt sf86
   obtain ⟨XR171, hSR171, hZ171, hown171⟩ := rebS hSR40 (Nat.le_trans (Nat.le_trans (Nat.le_refl _) E43.1) Kq60.1) X164 hS164 hg164 hZ40 hown40
   obtain ⟨Lh172, Xh172, Nh172⟩ := oHd 17 57 XR171 N165 rfl rfl
   refine ownSt st164 ?_
   clear st164
   show oA p e below _ T164 (fr_law m p1 p2 p3 62 (vR x21) (vR x31) (vI 0) (vR b43) .unset .unset .unset [(.ref b43)])
   refine oTo T164 (fr_law m p1 p2 p3 75 (vR x21) (vR x31) (vI 0) (vR b43) (vR b43) .unset .unset [(.ref b43)]) (fun t kt => ?_) ?_
   ·refine XS.astore Xh172.here hx rfl (D at_62) rfl rfl (l' := #[vI p1, vI p2, vI p3, vR x21, vR x31, vI 0, vR b43, vR b43, .unset, .unset]) rfl ?_
    refine XS.aload Xh172.here hx rfl (D at_64) rfl rfl ?_
    refine XS.aload Xh172.here hx rfl (D at_66) rfl rfl ?_
    refine Jvm.RoadKit.acmp (g := (fr_law m p1 p2 p3 68 (vR x21) (vR x31) (vI 0) (vR b43) (vR b43) .unset .unset [(.ref b43), (.ref b43)])) Xh172 hx rfl rfl rfl (pc0 := 68) (pc' := 73) (same := true) rfl (D at_68) rfl (decide_eq_true rfl) (by decide) (by decide) ?_
    refine XS.aload Xh172.here hx rfl (D at_73) rfl rfl ?_
    exact kt
   have f173 := (Eh60.keep Kq164)
   have f174 := (Fh60.keep Kq164 (ninS ne69 (ninS ne78 nin0)))
   have f175 := (f162.keep Kq164 (allS g70 (allS g79 all0)))
   have f176 := (Nat.le_trans f163 Kq164.1)
   obtain ⟨cq177, kq177, q177a, q177b, q177c⟩ := isOf hZ171 rfl f173
   obtain ⟨vv177, _, ⟨T177, L177, k177, n177⟩, -, X177, ⟨Lc177, hQ177, l177, y177, z177⟩, st177⟩ := Xh172.virtualBack hx (y := yM34) (z := yM34) hown171 (mvT hZ171 (Wd125 hw)) (mvT hZ171 (Wd126 hw)) (oNf hZ171 (Wd128 hw)) (mvT hZ171 (Wd128 hw)) (mvT hZ171 (Wd127 hw)) (by decide) (backOf (W := 0) (c_hts l Z a0 hw [] b43 sb60 t60 kv60 (16 : Int32) (oI [60, 47, oL g0, 62, 0, 0, 0, 0, 0, 0, 0, 0, 0, 0, 0, 0]) (4 : Int32) (oI [60, 47, oL g0, 62]) G1 T164.heap n0 f176 f173 f174 Eq164 Vq164 Cq164 Mq164 Aq164 (oCr (by decide +kernel) rfl) O2 P5 f175) hZ171 (Wd129 hw) (Wd28 hw) (by decide) (by decide)) q177a q177c (g := (fr_law m p1 p2 p3 75 (vR x21) (vR x31) (vI 0) (vR b43) (vR b43) .unset .unset [(.ref b43)])) rfl (by rw [hml]; rfl) (Steps.refl _) (argsL := []) (rest := []) (lenOf pd_32 rfl) rfl (oWt rfl) (D at_75) (fun _ _ => ⟨rfl, rfl, oLe rfl, oLe rfl⟩)
   dsimp only [Pt.U, Pt.locs, Pt.cells, Pt.slots] at X177 l177 y177 z177 st177 hQ177
   subst l177 y177 z177
   obtain ⟨x177, t177, kn177, rfl, Nq177, Kq177, zx177, zq177, Eq177, Vq177, Cq177, Aq177⟩ := hQ177
   have f179 := ((f62.keep Kq60).keep Kq164)
   have ne178 : x21 ≠ x177 := Nat.ne_of_lt (Nat.lt_of_lt_of_le f179.lt zx177)
   have f181 := ((f64.keep Kq60 (ninS ne46 nin0)).keep Kq164 (ninS ne63 (ninS ne75 nin0)))
   have ne180 : t21 ≠ x177 := Nat.ne_of_lt (Nat.lt_of_lt_of_le f181.lt zx177)
   have f183 := (f158.keep Kq164)
   have ne182 : x31 ≠ x177 := Nat.ne_of_lt (Nat.lt_of_lt_of_le f183.lt zx177)
   have f185 := (f161.keep Kq164 (ninS ne67 (ninS ne77 nin0)))
   have ne184 : t31 ≠ x177 := Nat.ne_of_lt (Nat.lt_of_lt_of_le f185.lt zx177)
   have ne186 : b43 ≠ x177 := Nat.ne_of_lt (Nat.lt_of_lt_of_le f173.lt zx177)
   have ne187 : sb60 ≠ x177 := Nat.ne_of_lt (Nat.lt_of_lt_of_le Eq164.lt zx177)
   have ne188 : t60 ≠ x177 := Nat.ne_of_lt (Nat.lt_of_lt_of_le Aq164.lt zx177)
   have g189 : n0 ≤ x177 := Nat.le_trans f176 zx177
   have sf190 : Safe Z ownEL T164.vm T164.heap x177 := Safe.new zx177
   have f192 := (Nat.le_trans (Nat.le_trans f73 Kq60.1) Kq164.1)
   have z191 : h0.size ≤ x177 := Nat.le_trans f192 zx177
   have ne193 : x21 ≠ t177 := Nat.ne_of_lt (Nat.lt_of_lt_of_le f179.lt zq177)
   have ne194 : t21 ≠ t177 := Nat.ne_of_lt (Nat.lt_of_lt_of_le f181.lt zq177)
   have ne195 : x31 ≠ t177 := Nat.ne_of_lt (Nat.lt_of_lt_of_le f183.lt zq177)
   have ne196 : t31 ≠ t177 := Nat.ne_of_lt (Nat.lt_of_lt_of_le f185.lt zq177)
   have ne197 : b43 ≠ t177 := Nat.ne_of_lt (Nat.lt_of_lt_of_le f173.lt zq177)
   have ne198 : sb60 ≠ t177 := Nat.ne_of_lt (Nat.lt_of_lt_of_le Eq164.lt zq177)
   have ne199 : t60 ≠ t177 := Nat.ne_of_lt (Nat.lt_of_lt_of_le Aq164.lt zq177)
   have g200 : n0 ≤ t177 := Nat.le_trans f176 zq177
   have sf201 : Safe Z ownEL T164.vm T164.heap t177 := Safe.new zq177
   have z202 : h0.size ≤ t177 := Nat.le_trans f192 zq177
   have N203 := Fr.app Nh172 Nq177
   have R204 := R167.trans (CHr.keep Kq177 sf0 R167.1)
   have sf205 := Safe.keep Kq177 sf0 R167.1 sf168
   have sf206 := Safe.keep Kq177 sf0 R167.1 sf169
   have sf207 := Safe.keep Kq177 sf0 R167.1 sf170
   have sf208 := Safe.keep Kq177 sf0 R167.1 sf190
   have sf209 := Safe.keep Kq177 sf0 R167.1 sf201
   obtain ⟨Lh210, Xh210, Nh210⟩ := oHd 19 77 X177 N203 rfl rfl
   refine ownSt st177 ?_
   clear st177
   show oA p e below _ T177 (fr_law m p1 p2 p3 78 (vR x21) (vR x31) (vI 0) (vR b43) (vR b43) .unset .unset [(.ref x177)])
   refine oTo T177 (fr_law m p1 p2 p3 114 (vR x21) (vR x31) (vI 0) (vR b43) (vR b43) (vR x177) (vI 0) [(.ref x31), (iV 0), (.ref x177)]) (fun t kt => ?_) ?_
   ·refine XS.astore Xh210.here hx rfl (D at_78) rfl rfl (l' := #[vI p1, vI p2, vI p3, vR x21, vR x31, vI 0, vR b43, vR b43, vR x177, .unset]) rfl ?_
    refine XS.iconst Xh210.here hx rfl (D at_80) ?_
    refine XS.istore Xh210.here hx rfl (D at_81) rfl (l' := #[vI p1, vI p2, vI p3, vR x21, vR x31, vI 0, vR b43, vR b43, vR x177, vI 0]) rfl ?_
    refine XS.iload Xh210.here hx rfl (D at_83) rfl ?_
    refine XS.ifYes Xh210.here hx rfl (pc0 := 85) (pc' := 108) rfl (D at_85) rfl ((if0 _ _).trans (teq ((by decide) : (0 : Int32) = (0 : Int32))).1) (by decide) (by decide) ?_
    refine XS.aload Xh210.here hx rfl (D at_108) rfl rfl ?_
    refine XS.iload Xh210.here hx rfl (D at_110) rfl ?_
    refine XS.aload Xh210.here hx rfl (D at_112) rfl rfl ?_
    exact kt
   have f211 := (f183.keep Kq177)
   have f212 := ((f159.keep Kq164 (ninS ne65 (ninS ne76 nin0))).keep Kq177 nin0)
   have f213 := ((f160.keep Kq164 (ninS ne65 (ninS ne76 nin0))).keep Kq177 nin0)
   have f214 := (f185.keep Kq177 nin0)
   have f215 := (f175.keep Kq177 all0)
   have f216 := (Nat.le_trans f176 Kq177.1)
   obtain ⟨vv217, _, ⟨T217, L217, k217, n217⟩, -, X217, ⟨Lc217, hQ217, l217, y217, z217⟩, st217⟩ := Jvm.LawKit.callS Xh210 hx (y := yM35) hown171 (mvT hZ171 (Wd171 hw)) (mvT hZ171 (Wd172 hw)) (mvT hZ171 (Wd2 hw)) (mvT hZ171 (Wd173 hw)) (by decide) (backOf (W := 0) (c_clg1 l Z a0 hw [] x177 t177 kn177 (4 : Int32) (oI [60, 47, oL g0, 62]) (0 : Int32) x31 t31 kb31 g0 G1 G3 T177.heap n0 f216 Eq177 Vq177 Cq177 Aq177 f211 f212 f213 f214 hr_g0 (by decide +kernel) (by decide +kernel) (oCl (by decide +kernel) rfl (by decide +kernel)) (oCl (by decide +kernel) rfl (by decide +kernel)) (oCl (by decide +kernel) rfl hr_g0) (oCl (by decide +kernel) rfl (by decide +kernel)) O2 P5 O4 rG3 f215) hZ171 (Wd173 hw) (Wd2 hw) (by decide) (by decide)) (g := (fr_law m p1 p2 p3 114 (vR x21) (vR x31) (vI 0) (vR b43) (vR b43) (vR x177) (vI 0) [(.ref x31), (iV 0), (.ref x177)])) rfl (by rw [hml]; rfl) (argsL := [(.ref x177), (iV 0), (.ref x31)]) (rest := []) (lenOf pd_36 rfl) rfl (oWt rfl) (D at_114) (fun _ _ => ⟨rfl, rfl, oLe rfl, oLe rfl⟩)
   dsimp only [Pt.U, Pt.locs, Pt.cells, Pt.slots] at X217 l217 y217 z217 st217 hQ217
   subst l217 y217 z217
   obtain ⟨rfl, Nq217, Eq217⟩ := hQ217
   have N218 := Fr.app Nh210 Nq217
   obtain ⟨Lh219, Xh219, Nh219⟩ := oHd 19 77 X217 N218 rfl rfl
   refine ownBy st217 ?_
   clear st217
   show oA p e below _ T217 (fr_law m p1 p2 p3 117 (vR x21) (vR x31) (vI 0) (vR b43) (vR b43) (vR x177) (vI 0) [(iV 1)])
   refine oTo T217 (fr_law m p1 p2 p3 124 (vR x21) (vR x31) (vI 0) (vR b43) (vR b43) (vR x177) (vI 0) [(.ref x177)]) (fun t kt => ?_) ?_
   ·refine XS.ifYes Xh219.here hx rfl (pc0 := 117) (pc' := 122) rfl (D at_117) rfl ((if0 _ _).trans (feq ((by decide) : ¬ ((1 : Int32) = (0 : Int32)))).2) (by decide) (by decide) ?_
    refine XS.aload Xh219.here hx rfl (D at_122) rfl rfl ?_
    exact kt
   obtain ⟨cq220, kq220, q220a, q220b, q220c⟩ := isOf hZ171 Eq217 Eq177
   obtain ⟨vv220, _, ⟨T220, L220, k220, n220⟩, -, X220, ⟨Lc220, hQ220, l220, y220, z220⟩, st220⟩ := Xh219.virtualBack hx (y := yM4) (z := yM4) hown171 (mvT hZ171 (Wd174 hw)) (mvT hZ171 (Wd70 hw)) (oNf hZ171 (Wd72 hw)) (mvT hZ171 (Wd72 hw)) (mvT hZ171 (Wd71 hw)) (by decide) (backOf (W := 0) (c_leng l Z a0 hw [] x177 t177 kn177 (4 : Int32) (oI [60, 47, oL g0, 62]) G1 T177.heap n0 f216 Eq177 Vq177 Cq177 Aq177 (by decide +kernel) O2 P5 f215) hZ171 (Wd73 hw) (Wd6 hw) (by decide) (by decide)) q220a q220c (g := (fr_law m p1 p2 p3 124 (vR x21) (vR x31) (vI 0) (vR b43) (vR b43) (vR x177) (vI 0) [(.ref x177)])) rfl (by rw [hml]; rfl) (Steps.refl _) (argsL := []) (rest := []) (lenOf pd_15 rfl) rfl (oWt rfl) (D at_124) (fun _ _ => ⟨rfl, Eq217, oLe rfl, oLe rfl⟩)
   dsimp only [Pt.U, Pt.locs, Pt.cells, Pt.slots] at X220 l220 y220 z220 st220 hQ220
   subst l220 y220 z220
   obtain ⟨rfl, Nq220, Eq220⟩ := hQ220
   have N221 := Fr.app Nh219 Nq220
   obtain ⟨Lh222, Xh222, Nh222⟩ := oHd 19 77 X220 N221 rfl rfl
   refine ownSt st220 ?_
   clear st220
   show oA p e below _ T220 (fr_law m p1 p2 p3 127 (vR x21) (vR x31) (vI 0) (vR b43) (vR b43) (vR x177) (vI 0) [(iV 4)])
   refine oTo T220 (fr_law m p1 p2 p3 131 (vR x21) (vR x31) (vI 0) (vR b43) (vR b43) (vR x177) (vI 0) [(.ref x31), (iV 0), (iV 4)]) (fun t kt => ?_) ?_
   ·refine XS.iload Xh222.here hx rfl (D at_127) rfl ?_
    refine XS.aload Xh222.here hx rfl (D at_129) rfl rfl ?_
    exact kt
   obtain ⟨cq223, kq223, q223a, q223b, q223c⟩ := isOf hZ171 Eq220 f211
   obtain ⟨vv223, _, ⟨T223, L223, k223, n223⟩, -, X223, ⟨Lc223, hQ223, l223, y223, z223⟩, st223⟩ := Xh222.virtualBack hx (y := yM4) (z := yM4) hown171 (mvT hZ171 (Wd174 hw)) (mvT hZ171 (Wd70 hw)) (oNf hZ171 (Wd72 hw)) (mvT hZ171 (Wd72 hw)) (mvT hZ171 (Wd71 hw)) (by decide) (backOf (W := 2) (c_leng l Z a0 hw [] x31 t31 kb31 (1 : Int32) (oI [oL g0]) G1 T177.heap n0 f216 f211 f212 f213 f214 (by decide +kernel) O2 P5 f215) hZ171 (Wd73 hw) (Wd6 hw) (by decide) (by decide)) q223a q223c (g := (fr_law m p1 p2 p3 131 (vR x21) (vR x31) (vI 0) (vR b43) (vR b43) (vR x177) (vI 0) [(.ref x31), (iV 0), (iV 4)])) rfl (by rw [hml]; rfl) (Steps.refl _) (argsL := []) (rest := [(iV 0), (iV 4)]) (lenOf pd_15 rfl) rfl (oWt rfl) (D at_131) (fun _ _ => ⟨rfl, Eq220, oLe rfl, oLe rfl⟩)
   dsimp only [Pt.U, Pt.locs, Pt.cells, Pt.slots] at X223 l223 y223 z223 st223 hQ223
   subst l223 y223 z223
   obtain ⟨rfl, Nq223, Eq223⟩ := hQ223
   have N224 := Fr.app Nh222 Nq223
   obtain ⟨Lh225, Xh225, Nh225⟩ := oHd 19 77 X223 N224 rfl rfl
   refine ownSt st223 ?_
   clear st223
   show oA p e below _ T223 (fr_law m p1 p2 p3 134 (vR x21) (vR x31) (vI 0) (vR b43) (vR b43) (vR x177) (vI 0) [(iV 1), (iV 0), (iV 4)])
   refine oTo T223 (fr_law m p1 p2 p3 145 (vR x21) (vR x31) (vI 0) (vR b43) (vR b43) (vR x177) (vI 0) [(iV 1)]) (fun t kt => ?_) ?_
   ·refine XS.iadd Xh225.here hx rfl (D at_134) rfl ?_
    refine XS.iconst Xh225.here hx rfl (D at_135) ?_
    refine XS.iadd Xh225.here hx rfl (D at_136) rfl ?_
    refine XS.icmpNo Xh225.here hx rfl (D at_137) rfl (teq ((by decide) : (4 : Int32) = (4 : Int32))).2 ?_
    refine XS.iconst Xh225.here hx rfl (D at_140) ?_
    refine XS.goto Xh225.here hx rfl (pc0 := 141) (pc' := 145) rfl (D at_141) (by decide) (by decide) ?_
    exact kt
   refine ownRetH Xh225 hSR171 (by rw [Eq223]; exact (Nat.le_trans (Nat.le_refl _) Kq177.1)) Bd.notSynchronized (v := some (.int (nar .boolean (1 : Int32)))) (fun h => by rw [Bd.returns] at h; cases h) ?_ (R204.trans ((by rw [Eq223]; exact CHv.at Xh225 hZ171 hEL R204.1))) (oLe rfl) (oLe rfl) (fun fs hr => retN Xh225 hx (t := .boolean) Bd.returns (by simp) (D at_145) hr)
   show (Q_law Z p1 p2 p3 G1 G3 h0 n0) (some (.int (nar .boolean (1 : Int32)))) T223.heap _
   rw [Eq223]
   exact ⟨rfl, Nh225⟩
  ·skip
   refine oTo T60 (fr_law m p1 p2 p3 59 (vR x21) (vR x31) (vI 0) (vR b43) .unset .unset .unset [(.ref x31), (.ref b43)]) (fun t kt => ?_) ?_
   ·refine XS.aload Xh87.here hx rfl (D at_55) rfl rfl ?_
    refine XS.aload Xh87.here hx rfl (D at_57) rfl rfl ?_
    exact kt
   have f227 := (f66.keep Kq60)
   have f228 := ((Vq31.ext E43).keep Kq60 (ninS ne48 nin0))
   have f229 := ((Cq31.ext E43).keep Kq60 (ninS ne48 nin0))
   have f230 := (f68.keep Kq60 (ninS ne49 nin0))
   have f231 := (f58.keep Kq60 (allS g50 all0))
   have f232 := (Nat.le_trans f59 Kq60.1)
   obtain ⟨cq233, kq233, q233a, q233b, q233c⟩ := isOf hZ40 rfl Eh60
   obtain ⟨vv233, _, ⟨T233, L233, k233, n233⟩, -, X233, hS233, hg233, ⟨Lc233, hQ233, l233, y233, z233, hC233⟩, st233⟩ := Xh87.virtualBackS hx (y := yM33) (z := yM33) hown40 (mvT hZ40 (Wd53 hw)) (mvT hZ40 (Wd54 hw)) (oNf hZ40 (Wd56 hw)) (mvT hZ40 (Wd56 hw)) (mvT hZ40 (Wd55 hw)) (by decide) (backOfSH (W := 0) (s := s) (EL := ownEL) (c_hcl l Z a0 hw [] b43 x31 t31 kb31 (2 : Int32) (oI [oL g0, oL g1]) sb60 t60 kv60 (16 : Int32) (oI [0, 0, 0, 0, 0, 0, 0, 0, 0, 0, 0, 0, 0, 0, 0, 0]) (0 : Int32) (oI [60, 47, 0, 0, 0, 0, 0, 0, 0, 0, 0, 0, 0, 0, 0, 0]) (oI [60, 47, oL g0, oL g1, 0, 0, 0, 0, 0, 0, 0, 0, 0, 0, 0, 0]) (oI [60, 47, oL g0, oL g1, 62, 0, 0, 0, 0, 0, 0, 0, 0, 0, 0, 0]) (2 : Int32) (4 : Int32) (5 : Int32) G1 T60.heap n0 f232 Eh60 Fh60 f227 f228 f229 f230 Eq60 Vq60 Cq60 Mq60 Aq60 g70 g79 ne77 (by decide +kernel) (oCp (by decide +kernel) rfl rfl rfl) (oCp (by decide +kernel) rfl rfl rfl) (oCq (by decide +kernel) rfl rfl) O2 P5 f231) hZ40 (Wd57 hw) (Wd28 hw) (by decide) (by decide) hEL R83.1) q233a q233c (g := (fr_law m p1 p2 p3 59 (vR x21) (vR x31) (vI 0) (vR b43) .unset .unset .unset [(.ref x31), (.ref b43)])) rfl (by rw [hml]; rfl) (Steps.refl _) (argsL := [(.ref x31)]) (rest := []) (lenOf pd_35 rfl) rfl (oWt rfl) (D at_59) (fun _ _ => ⟨rfl, rfl, oLe rfl, oLe rfl⟩)
   dsimp only [Pt.U, Pt.locs, Pt.cells, Pt.slots] at X233 l233 y233 z233 st233 hQ233 hS233 hg233 hC233
   subst l233 y233 z233
   obtain ⟨rfl, Nq233, Kq233, Eq233, Vq233, Cq233, Mq233, Aq233⟩ := hQ233
   have N234 := Fr.app Nh87 Nq233
   have R236 := R83.trans hC233
   have sf237 := CHr.safe hC233 Eh60.lt sf84
   have sf238 := CHr.safe hC233 Eq60.lt sf85
   have sf239 := CHr.safe hC233 Aq60.lt sf86
   obtain ⟨XR240, hSR240, hZ240, hown240⟩ := rebS hSR40 (Nat.le_trans (Nat.le_trans (Nat.le_refl _) E43.1) Kq60.1) X233 hS233 hg233 hZ40 hown40
   obtain ⟨Lh241, Xh241, Nh241⟩ := oHd 17 57 XR240 N234 rfl rfl
   refine ownSt st233 ?_
   clear st233
   show oA p e below _ T233 (fr_law m p1 p2 p3 62 (vR x21) (vR x31) (vI 0) (vR b43) .unset .unset .unset [(.ref b43)])
   refine oTo T233 (fr_law m p1 p2 p3 75 (vR x21) (vR x31) (vI 0) (vR b43) (vR b43) .unset .unset [(.ref b43)]) (fun t kt => ?_) ?_
   ·refine XS.astore Xh241.here hx rfl (D at_62) rfl rfl (l' := #[vI p1, vI p2, vI p3, vR x21, vR x31, vI 0, vR b43, vR b43, .unset, .unset]) rfl ?_
    refine XS.aload Xh241.here hx rfl (D at_64) rfl rfl ?_
    refine XS.aload Xh241.here hx rfl (D at_66) rfl rfl ?_
    refine Jvm.RoadKit.acmp (g := (fr_law m p1 p2 p3 68 (vR x21) (vR x31) (vI 0) (vR b43) (vR b43) .unset .unset [(.ref b43), (.ref b43)])) Xh241 hx rfl rfl rfl (pc0 := 68) (pc' := 73) (same := true) rfl (D at_68) rfl (decide_eq_true rfl) (by decide) (by decide) ?_
    refine XS.aload Xh241.here hx rfl (D at_73) rfl rfl ?_
    exact kt
   have f242 := (Eh60.keep Kq233)
   have f243 := (Fh60.keep Kq233 (ninS ne69 (ninS ne78 nin0)))
   have f244 := (f231.keep Kq233 (allS g70 (allS g79 all0)))
   have f245 := (Nat.le_trans f232 Kq233.1)
   obtain ⟨cq246, kq246, q246a, q246b, q246c⟩ := isOf hZ240 rfl f242
   obtain ⟨vv246, _, ⟨T246, L246, k246, n246⟩, -, X246, ⟨Lc246, hQ246, l246, y246, z246⟩, st246⟩ := Xh241.virtualBack hx (y := yM34) (z := yM34) hown240 (mvT hZ240 (Wd125 hw)) (mvT hZ240 (Wd126 hw)) (oNf hZ240 (Wd128 hw)) (mvT hZ240 (Wd128 hw)) (mvT hZ240 (Wd127 hw)) (by decide) (backOf (W := 0) (c_hts l Z a0 hw [] b43 sb60 t60 kv60 (16 : Int32) (oI [60, 47, oL g0, oL g1, 62, 0, 0, 0, 0, 0, 0, 0, 0, 0, 0, 0]) (5 : Int32) (oI [60, 47, oL g0, oL g1, 62]) G1 T233.heap n0 f245 f242 f243 Eq233 Vq233 Cq233 Mq233 Aq233 (oCr (by decide +kernel) rfl) O2 P5 f244) hZ240 (Wd129 hw) (Wd28 hw) (by decide) (by decide)) q246a q246c (g := (fr_law m p1 p2 p3 75 (vR x21) (vR x31) (vI 0) (vR b43) (vR b43) .unset .unset [(.ref b43)])) rfl (by rw [hml]; rfl) (Steps.refl _) (argsL := []) (rest := []) (lenOf pd_32 rfl) rfl (oWt rfl) (D at_75) (fun _ _ => ⟨rfl, rfl, oLe rfl, oLe rfl⟩)
   dsimp only [Pt.U, Pt.locs, Pt.cells, Pt.slots] at X246 l246 y246 z246 st246 hQ246
   subst l246 y246 z246
   obtain ⟨x246, t246, kn246, rfl, Nq246, Kq246, zx246, zq246, Eq246, Vq246, Cq246, Aq246⟩ := hQ246
   have f248 := ((f62.keep Kq60).keep Kq233)
   have ne247 : x21 ≠ x246 := Nat.ne_of_lt (Nat.lt_of_lt_of_le f248.lt zx246)
   have f250 := ((f64.keep Kq60 (ninS ne46 nin0)).keep Kq233 (ninS ne63 (ninS ne75 nin0)))
   have ne249 : t21 ≠ x246 := Nat.ne_of_lt (Nat.lt_of_lt_of_le f250.lt zx246)
   have f252 := (f227.keep Kq233)
   have ne251 : x31 ≠ x246 := Nat.ne_of_lt (Nat.lt_of_lt_of_le f252.lt zx246)
   have f254 := (f230.keep Kq233 (ninS ne67 (ninS ne77 nin0)))
   have ne253 : t31 ≠ x246 := Nat.ne_of_lt (Nat.lt_of_lt_of_le f254.lt zx246)
   have ne255 : b43 ≠ x246 := Nat.ne_of_lt (Nat.lt_of_lt_of_le f242.lt zx246)
   have ne256 : sb60 ≠ x246 := Nat.ne_of_lt (Nat.lt_of_lt_of_le Eq233.lt zx246)
   have ne257 : t60 ≠ x246 := Nat.ne_of_lt (Nat.lt_of_lt_of_le Aq233.lt zx246)
   have g258 : n0 ≤ x246 := Nat.le_trans f245 zx246
   have sf259 : Safe Z ownEL T233.vm T233.heap x246 := Safe.new zx246
   have f261 := (Nat.le_trans (Nat.le_trans f73 Kq60.1) Kq233.1)
   have z260 : h0.size ≤ x246 := Nat.le_trans f261 zx246
   have ne262 : x21 ≠ t246 := Nat.ne_of_lt (Nat.lt_of_lt_of_le f248.lt zq246)
   have ne263 : t21 ≠ t246 := Nat.ne_of_lt (Nat.lt_of_lt_of_le f250.lt zq246)
   have ne264 : x31 ≠ t246 := Nat.ne_of_lt (Nat.lt_of_lt_of_le f252.lt zq246)
   have ne265 : t31 ≠ t246 := Nat.ne_of_lt (Nat.lt_of_lt_of_le f254.lt zq246)
   have ne266 : b43 ≠ t246 := Nat.ne_of_lt (Nat.lt_of_lt_of_le f242.lt zq246)
   have ne267 : sb60 ≠ t246 := Nat.ne_of_lt (Nat.lt_of_lt_of_le Eq233.lt zq246)
   have ne268 : t60 ≠ t246 := Nat.ne_of_lt (Nat.lt_of_lt_of_le Aq233.lt zq246)
   have g269 : n0 ≤ t246 := Nat.le_trans f245 zq246
   have sf270 : Safe Z ownEL T233.vm T233.heap t246 := Safe.new zq246
   have z271 : h0.size ≤ t246 := Nat.le_trans f261 zq246
   have N272 := Fr.app Nh241 Nq246
   have R273 := R236.trans (CHr.keep Kq246 sf0 R236.1)
   have sf274 := Safe.keep Kq246 sf0 R236.1 sf237
   have sf275 := Safe.keep Kq246 sf0 R236.1 sf238
   have sf276 := Safe.keep Kq246 sf0 R236.1 sf239
   have sf277 := Safe.keep Kq246 sf0 R236.1 sf259
   have sf278 := Safe.keep Kq246 sf0 R236.1 sf270
   obtain ⟨Lh279, Xh279, Nh279⟩ := oHd 19 77 X246 N272 rfl rfl
   refine ownSt st246 ?_
   clear st246
   show oA p e below _ T246 (fr_law m p1 p2 p3 78 (vR x21) (vR x31) (vI 0) (vR b43) (vR b43) .unset .unset [(.ref x246)])
   refine oTo T246 (fr_law m p1 p2 p3 114 (vR x21) (vR x31) (vI 0) (vR b43) (vR b43) (vR x246) (vI 0) [(.ref x31), (iV 0), (.ref x246)]) (fun t kt => ?_) ?_
   ·refine XS.astore Xh279.here hx rfl (D at_78) rfl rfl (l' := #[vI p1, vI p2, vI p3, vR x21, vR x31, vI 0, vR b43, vR b43, vR x246, .unset]) rfl ?_
    refine XS.iconst Xh279.here hx rfl (D at_80) ?_
    refine XS.istore Xh279.here hx rfl (D at_81) rfl (l' := #[vI p1, vI p2, vI p3, vR x21, vR x31, vI 0, vR b43, vR b43, vR x246, vI 0]) rfl ?_
    refine XS.iload Xh279.here hx rfl (D at_83) rfl ?_
    refine XS.ifYes Xh279.here hx rfl (pc0 := 85) (pc' := 108) rfl (D at_85) rfl ((if0 _ _).trans (teq ((by decide) : (0 : Int32) = (0 : Int32))).1) (by decide) (by decide) ?_
    refine XS.aload Xh279.here hx rfl (D at_108) rfl rfl ?_
    refine XS.iload Xh279.here hx rfl (D at_110) rfl ?_
    refine XS.aload Xh279.here hx rfl (D at_112) rfl rfl ?_
    exact kt
   have f280 := (f252.keep Kq246)
   have f281 := ((f228.keep Kq233 (ninS ne65 (ninS ne76 nin0))).keep Kq246 nin0)
   have f282 := ((f229.keep Kq233 (ninS ne65 (ninS ne76 nin0))).keep Kq246 nin0)
   have f283 := (f254.keep Kq246 nin0)
   have f284 := (f244.keep Kq246 all0)
   have f285 := (Nat.le_trans f245 Kq246.1)
   obtain ⟨vv286, _, ⟨T286, L286, k286, n286⟩, -, X286, ⟨Lc286, hQ286, l286, y286, z286⟩, st286⟩ := Jvm.LawKit.callS Xh279 hx (y := yM35) hown240 (mvT hZ240 (Wd171 hw)) (mvT hZ240 (Wd172 hw)) (mvT hZ240 (Wd2 hw)) (mvT hZ240 (Wd173 hw)) (by decide) (backOf (W := 0) (c_clg2 l Z a0 hw [] x246 t246 kn246 (5 : Int32) (oI [60, 47, oL g0, oL g1, 62]) (0 : Int32) x31 t31 kb31 g0 g1 G1 G3 T246.heap n0 f285 Eq246 Vq246 Cq246 Aq246 f280 f281 f282 f283 hr_g0 hr_g1 (by decide +kernel) (by decide +kernel) (oCl (by decide +kernel) rfl (by decide +kernel)) (oCl (by decide +kernel) rfl (by decide +kernel)) (oCl (by decide +kernel) rfl hr_g0) (oCl (by decide +kernel) rfl hr_g1) (oCl (by decide +kernel) rfl (by decide +kernel)) O2 P5 O4 rG3 f284) hZ240 (Wd173 hw) (Wd2 hw) (by decide) (by decide)) (g := (fr_law m p1 p2 p3 114 (vR x21) (vR x31) (vI 0) (vR b43) (vR b43) (vR x246) (vI 0) [(.ref x31), (iV 0), (.ref x246)])) rfl (by rw [hml]; rfl) (argsL := [(.ref x246), (iV 0), (.ref x31)]) (rest := []) (lenOf pd_36 rfl) rfl (oWt rfl) (D at_114) (fun _ _ => ⟨rfl, rfl, oLe rfl, oLe rfl⟩)
   dsimp only [Pt.U, Pt.locs, Pt.cells, Pt.slots] at X286 l286 y286 z286 st286 hQ286
   subst l286 y286 z286
   obtain ⟨rfl, Nq286, Eq286⟩ := hQ286
   have N287 := Fr.app Nh279 Nq286
   obtain ⟨Lh288, Xh288, Nh288⟩ := oHd 19 77 X286 N287 rfl rfl
   refine ownBy st286 ?_
   clear st286
   show oA p e below _ T286 (fr_law m p1 p2 p3 117 (vR x21) (vR x31) (vI 0) (vR b43) (vR b43) (vR x246) (vI 0) [(iV 1)])
   refine oTo T286 (fr_law m p1 p2 p3 124 (vR x21) (vR x31) (vI 0) (vR b43) (vR b43) (vR x246) (vI 0) [(.ref x246)]) (fun t kt => ?_) ?_
   ·refine XS.ifYes Xh288.here hx rfl (pc0 := 117) (pc' := 122) rfl (D at_117) rfl ((if0 _ _).trans (feq ((by decide) : ¬ ((1 : Int32) = (0 : Int32)))).2) (by decide) (by decide) ?_
    refine XS.aload Xh288.here hx rfl (D at_122) rfl rfl ?_
    exact kt
   obtain ⟨cq289, kq289, q289a, q289b, q289c⟩ := isOf hZ240 Eq286 Eq246
   obtain ⟨vv289, _, ⟨T289, L289, k289, n289⟩, -, X289, ⟨Lc289, hQ289, l289, y289, z289⟩, st289⟩ := Xh288.virtualBack hx (y := yM4) (z := yM4) hown240 (mvT hZ240 (Wd174 hw)) (mvT hZ240 (Wd70 hw)) (oNf hZ240 (Wd72 hw)) (mvT hZ240 (Wd72 hw)) (mvT hZ240 (Wd71 hw)) (by decide) (backOf (W := 0) (c_leng l Z a0 hw [] x246 t246 kn246 (5 : Int32) (oI [60, 47, oL g0, oL g1, 62]) G1 T246.heap n0 f285 Eq246 Vq246 Cq246 Aq246 (by decide +kernel) O2 P5 f284) hZ240 (Wd73 hw) (Wd6 hw) (by decide) (by decide)) q289a q289c (g := (fr_law m p1 p2 p3 124 (vR x21) (vR x31) (vI 0) (vR b43) (vR b43) (vR x246) (vI 0) [(.ref x246)])) rfl (by rw [hml]; rfl) (Steps.refl _) (argsL := []) (rest := []) (lenOf pd_15 rfl) rfl (oWt rfl) (D at_124) (fun _ _ => ⟨rfl, Eq286, oLe rfl, oLe rfl⟩)
   dsimp only [Pt.U, Pt.locs, Pt.cells, Pt.slots] at X289 l289 y289 z289 st289 hQ289
   subst l289 y289 z289
   obtain ⟨rfl, Nq289, Eq289⟩ := hQ289
   have N290 := Fr.app Nh288 Nq289
   obtain ⟨Lh291, Xh291, Nh291⟩ := oHd 19 77 X289 N290 rfl rfl
   refine ownSt st289 ?_
   clear st289
   show oA p e below _ T289 (fr_law m p1 p2 p3 127 (vR x21) (vR x31) (vI 0) (vR b43) (vR b43) (vR x246) (vI 0) [(iV 5)])
   refine oTo T289 (fr_law m p1 p2 p3 131 (vR x21) (vR x31) (vI 0) (vR b43) (vR b43) (vR x246) (vI 0) [(.ref x31), (iV 0), (iV 5)]) (fun t kt => ?_) ?_
   ·refine XS.iload Xh291.here hx rfl (D at_127) rfl ?_
    refine XS.aload Xh291.here hx rfl (D at_129) rfl rfl ?_
    exact kt
   obtain ⟨cq292, kq292, q292a, q292b, q292c⟩ := isOf hZ240 Eq289 f280
   obtain ⟨vv292, _, ⟨T292, L292, k292, n292⟩, -, X292, ⟨Lc292, hQ292, l292, y292, z292⟩, st292⟩ := Xh291.virtualBack hx (y := yM4) (z := yM4) hown240 (mvT hZ240 (Wd174 hw)) (mvT hZ240 (Wd70 hw)) (oNf hZ240 (Wd72 hw)) (mvT hZ240 (Wd72 hw)) (mvT hZ240 (Wd71 hw)) (by decide) (backOf (W := 2) (c_leng l Z a0 hw [] x31 t31 kb31 (2 : Int32) (oI [oL g0, oL g1]) G1 T246.heap n0 f285 f280 f281 f282 f283 (by decide +kernel) O2 P5 f284) hZ240 (Wd73 hw) (Wd6 hw) (by decide) (by decide)) q292a q292c (g := (fr_law m p1 p2 p3 131 (vR x21) (vR x31) (vI 0) (vR b43) (vR b43) (vR x246) (vI 0) [(.ref x31), (iV 0), (iV 5)])) rfl (by rw [hml]; rfl) (Steps.refl _) (argsL := []) (rest := [(iV 0), (iV 5)]) (lenOf pd_15 rfl) rfl (oWt rfl) (D at_131) (fun _ _ => ⟨rfl, Eq289, oLe rfl, oLe rfl⟩)
   dsimp only [Pt.U, Pt.locs, Pt.cells, Pt.slots] at X292 l292 y292 z292 st292 hQ292
   subst l292 y292 z292
   obtain ⟨rfl, Nq292, Eq292⟩ := hQ292
   have N293 := Fr.app Nh291 Nq292
   obtain ⟨Lh294, Xh294, Nh294⟩ := oHd 19 77 X292 N293 rfl rfl
   refine ownSt st292 ?_
   clear st292
   show oA p e below _ T292 (fr_law m p1 p2 p3 134 (vR x21) (vR x31) (vI 0) (vR b43) (vR b43) (vR x246) (vI 0) [(iV 2), (iV 0), (iV 5)])
   refine oTo T292 (fr_law m p1 p2 p3 145 (vR x21) (vR x31) (vI 0) (vR b43) (vR b43) (vR x246) (vI 0) [(iV 1)]) (fun t kt => ?_) ?_
   ·refine XS.iadd Xh294.here hx rfl (D at_134) rfl ?_
    refine XS.iconst Xh294.here hx rfl (D at_135) ?_
    refine XS.iadd Xh294.here hx rfl (D at_136) rfl ?_
    refine XS.icmpNo Xh294.here hx rfl (D at_137) rfl (teq ((by decide) : (5 : Int32) = (5 : Int32))).2 ?_
    refine XS.iconst Xh294.here hx rfl (D at_140) ?_
    refine XS.goto Xh294.here hx rfl (pc0 := 141) (pc' := 145) rfl (D at_141) (by decide) (by decide) ?_
    exact kt
   refine ownRetH Xh294 hSR240 (by rw [Eq292]; exact (Nat.le_trans (Nat.le_refl _) Kq246.1)) Bd.notSynchronized (v := some (.int (nar .boolean (1 : Int32)))) (fun h => by rw [Bd.returns] at h; cases h) ?_ (R273.trans ((by rw [Eq292]; exact CHv.at Xh294 hZ240 hEL R273.1))) (oLe rfl) (oLe rfl) (fun fs hr => retN Xh294 hx (t := .boolean) Bd.returns (by simp) (D at_145) hr)
   show (Q_law Z p1 p2 p3 G1 G3 h0 n0) (some (.int (nar .boolean (1 : Int32)))) T292.heap _
   rw [Eq292]
   exact ⟨rfl, Nh294⟩
  ·skip
   refine oTo T60 (fr_law m p1 p2 p3 59 (vR x21) (vR x31) (vI 0) (vR b43) .unset .unset .unset [(.ref x31), (.ref b43)]) (fun t kt => ?_) ?_
   ·refine XS.aload Xh87.here hx rfl (D at_55) rfl rfl ?_
    refine XS.aload Xh87.here hx rfl (D at_57) rfl rfl ?_
    exact kt
   have f296 := (f66.keep Kq60)
   have f297 := ((Vq31.ext E43).keep Kq60 (ninS ne48 nin0))
   have f298 := ((Cq31.ext E43).keep Kq60 (ninS ne48 nin0))
   have f299 := (f68.keep Kq60 (ninS ne49 nin0))
   have f300 := (f58.keep Kq60 (allS g50 all0))
   have f301 := (Nat.le_trans f59 Kq60.1)
   obtain ⟨cq302, kq302, q302a, q302b, q302c⟩ := isOf hZ40 rfl Eh60
   obtain ⟨vv302, _, ⟨T302, L302, k302, n302⟩, -, X302, hS302, hg302, ⟨Lc302, hQ302, l302, y302, z302, hC302⟩, st302⟩ := Xh87.virtualBackS hx (y := yM33) (z := yM33) hown40 (mvT hZ40 (Wd53 hw)) (mvT hZ40 (Wd54 hw)) (oNf hZ40 (Wd56 hw)) (mvT hZ40 (Wd56 hw)) (mvT hZ40 (Wd55 hw)) (by decide) (backOfSH (W := 0) (s := s) (EL := ownEL) (c_hcl l Z a0 hw [] b43 x31 t31 kb31 (3 : Int32) (oI [oL g0, oL g1, oL g2]) sb60 t60 kv60 (16 : Int32) (oI [0, 0, 0, 0, 0, 0, 0, 0, 0, 0, 0, 0, 0, 0, 0, 0]) (0 : Int32) (oI [60, 47, 0, 0, 0, 0, 0, 0, 0, 0, 0, 0, 0, 0, 0, 0]) (oI [60, 47, oL g0, oL g1, oL g2, 0, 0, 0, 0, 0, 0, 0, 0, 0, 0, 0]) (oI [60, 47, oL g0, oL g1, oL g2, 62, 0, 0, 0, 0, 0, 0, 0, 0, 0, 0]) (2 : Int32) (5 : Int32) (6 : Int32) G1 T60.heap n0 f301 Eh60 Fh60 f296 f297 f298 f299 Eq60 Vq60 Cq60 Mq60 Aq60 g70 g79 ne77 (by decide +kernel) (oCp (by decide +kernel) rfl rfl rfl) (oCp (by decide +kernel) rfl rfl rfl) (oCq (by decide +kernel) rfl rfl) O2 P5 f300) hZ40 (Wd57 hw) (Wd28 hw) (by decide) (by decide) hEL R83.1) q302a q302c (g := (fr_law m p1 p2 p3 59 (vR x21) (vR x31) (vI 0) (vR b43) .unset .unset .unset [(.ref x31), (.ref b43)])) rfl (by rw [hml]; rfl) (Steps.refl _) (argsL := [(.ref x31)]) (rest := []) (lenOf pd_35 rfl) rfl (oWt rfl) (D at_59) (fun _ _ => ⟨rfl, rfl, oLe rfl, oLe rfl⟩)
   dsimp only [Pt.U, Pt.locs, Pt.cells, Pt.slots] at X302 l302 y302 z302 st302 hQ302 hS302 hg302 hC302
   subst l302 y302 z302
   obtain ⟨rfl, Nq302, Kq302, Eq302, Vq302, Cq302, Mq302, Aq302⟩ := hQ302
   have N303 := Fr.app Nh87 Nq302
   have R305 := R83.trans hC302
   have sf306 := CHr.safe hC302 Eh60.lt sf84
   have sf307 := CHr.safe hC302 Eq60.lt sf85
   have sf308 := CHr.safe hC302 Aq60.lt sf86
   obtain ⟨XR309, hSR309, hZ309, hown309⟩ := rebS hSR40 (Nat.le_trans (Nat.le_trans (Nat.le_refl _) E43.1) Kq60.1) X302 hS302 hg302 hZ40 hown40
   obtain ⟨Lh310, Xh310, Nh310⟩ := oHd 17 57 XR309 N303 rfl rfl
   refine ownSt st302 ?_
   clear st302
   show oA p e below _ T302 (fr_law m p1 p2 p3 62 (vR x21) (vR x31) (vI 0) (vR b43) .unset .unset .unset [(.ref b43)])
   refine oTo T302 (fr_law m p1 p2 p3 75 (vR x21) (vR x31) (vI 0) (vR b43) (vR b43) .unset .unset [(.ref b43)]) (fun t kt => ?_) ?_
   ·refine XS.astore Xh310.here hx rfl (D at_62) rfl rfl (l' := #[vI p1, vI p2, vI p3, vR x21, vR x31, vI 0, vR b43, vR b43, .unset, .unset]) rfl ?_
    refine XS.aload Xh310.here hx rfl (D at_64) rfl rfl ?_
    refine XS.aload Xh310.here hx rfl (D at_66) rfl rfl ?_
    refine Jvm.RoadKit.acmp (g := (fr_law m p1 p2 p3 68 (vR x21) (vR x31) (vI 0) (vR b43) (vR b43) .unset .unset [(.ref b43), (.ref b43)])) Xh310 hx rfl rfl rfl (pc0 := 68) (pc' := 73) (same := true) rfl (D at_68) rfl (decide_eq_true rfl) (by decide) (by decide) ?_
    refine XS.aload Xh310.here hx rfl (D at_73) rfl rfl ?_
    exact kt
   have f311 := (Eh60.keep Kq302)
   have f312 := (Fh60.keep Kq302 (ninS ne69 (ninS ne78 nin0)))
   have f313 := (f300.keep Kq302 (allS g70 (allS g79 all0)))
   have f314 := (Nat.le_trans f301 Kq302.1)
   obtain ⟨cq315, kq315, q315a, q315b, q315c⟩ := isOf hZ309 rfl f311
   obtain ⟨vv315, _, ⟨T315, L315, k315, n315⟩, -, X315, ⟨Lc315, hQ315, l315, y315, z315⟩, st315⟩ := Xh310.virtualBack hx (y := yM34) (z := yM34) hown309 (mvT hZ309 (Wd125 hw)) (mvT hZ309 (Wd126 hw)) (oNf hZ309 (Wd128 hw)) (mvT hZ309 (Wd128 hw)) (mvT hZ309 (Wd127 hw)) (by decide) (backOf (W := 0) (c_hts l Z a0 hw [] b43 sb60 t60 kv60 (16 : Int32) (oI [60, 47, oL g0, oL g1, oL g2, 62, 0, 0, 0, 0, 0, 0, 0, 0, 0, 0]) (6 : Int32) (oI [60, 47, oL g0, oL g1, oL g2, 62]) G1 T302.heap n0 f314 f311 f312 Eq302 Vq302 Cq302 Mq302 Aq302 (oCr (by decide +kernel) rfl) O2 P5 f313) hZ309 (Wd129 hw) (Wd28 hw) (by decide) (by decide)) q315a q315c (g := (fr_law m p1 p2 p3 75 (vR x21) (vR x31) (vI 0) (vR b43) (vR b43) .unset .unset [(.ref b43)])) rfl (by rw [hml]; rfl) (Steps.refl _) (argsL := []) (rest := []) (lenOf pd_32 rfl) rfl (oWt rfl) (D at_75) (fun _ _ => ⟨rfl, rfl, oLe rfl, oLe rfl⟩)
   dsimp only [Pt.U, Pt.locs, Pt.cells, Pt.slots] at X315 l315 y315 z315 st315 hQ315
   subst l315 y315 z315
   obtain ⟨x315, t315, kn315, rfl, Nq315, Kq315, zx315, zq315, Eq315, Vq315, Cq315, Aq315⟩ := hQ315
   have f317 := ((f62.keep Kq60).keep Kq302)
   have ne316 : x21 ≠ x315 := Nat.ne_of_lt (Nat.lt_of_lt_of_le f317.lt zx315)
   have f319 := ((f64.keep Kq60 (ninS ne46 nin0)).keep Kq302 (ninS ne63 (ninS ne75 nin0)))
   have ne318 : t21 ≠ x315 := Nat.ne_of_lt (Nat.lt_of_lt_of_le f319.lt zx315)
   have f321 := (f296.keep Kq302)
   have ne320 : x31 ≠ x315 := Nat.ne_of_lt (Nat.lt_of_lt_of_le f321.lt zx315)
   have f323 := (f299.keep Kq302 (ninS ne67 (ninS ne77 nin0)))
   have ne322 : t31 ≠ x315 := Nat.ne_of_lt (Nat.lt_of_lt_of_le f323.lt zx315)
   have ne324 : b43 ≠ x315 := Nat.ne_of_lt (Nat.lt_of_lt_of_le f311.lt zx315)
   have ne325 : sb60 ≠ x315 := Nat.ne_of_lt (Nat.lt_of_lt_of_le Eq302.lt zx315)
   have ne326 : t60 ≠ x315 := Nat.ne_of_lt (Nat.lt_of_lt_of_le Aq302.lt zx315)
   have g327 : n0 ≤ x315 := Nat.le_trans f314 zx315
   have sf328 : Safe Z ownEL T302.vm T302.heap x315 := Safe.new zx315
   have f330 := (Nat.le_trans (Nat.le_trans f73 Kq60.1) Kq302.1)
   have z329 : h0.size ≤ x315 := Nat.le_trans f330 zx315
   have ne331 : x21 ≠ t315 := Nat.ne_of_lt (Nat.lt_of_lt_of_le f317.lt zq315)
   have ne332 : t21 ≠ t315 := Nat.ne_of_lt (Nat.lt_of_lt_of_le f319.lt zq315)
   have ne333 : x31 ≠ t315 := Nat.ne_of_lt (Nat.lt_of_lt_of_le f321.lt zq315)
   have ne334 : t31 ≠ t315 := Nat.ne_of_lt (Nat.lt_of_lt_of_le f323.lt zq315)
   have ne335 : b43 ≠ t315 := Nat.ne_of_lt (Nat.lt_of_lt_of_le f311.lt zq315)
   have ne336 : sb60 ≠ t315 := Nat.ne_of_lt (Nat.lt_of_lt_of_le Eq302.lt zq315)
   have ne337 : t60 ≠ t315 := Nat.ne_of_lt (Nat.lt_of_lt_of_le Aq302.lt zq315)
   have g338 : n0 ≤ t315 := Nat.le_trans f314 zq315
   have sf339 : Safe Z ownEL T302.vm T302.heap t315 := Safe.new zq315
   have z340 : h0.size ≤ t315 := Nat.le_trans f330 zq315
   have N341 := Fr.app Nh310 Nq315
   have R342 := R305.trans (CHr.keep Kq315 sf0 R305.1)
   have sf343 := Safe.keep Kq315 sf0 R305.1 sf306
   have sf344 := Safe.keep Kq315 sf0 R305.1 sf307
   have sf345 := Safe.keep Kq315 sf0 R305.1 sf308
   have sf346 := Safe.keep Kq315 sf0 R305.1 sf328
   have sf347 := Safe.keep Kq315 sf0 R305.1 sf339
   obtain ⟨Lh348, Xh348, Nh348⟩ := oHd 19 77 X315 N341 rfl rfl
   refine ownSt st315 ?_
   clear st315
   show oA p e below _ T315 (fr_law m p1 p2 p3 78 (vR x21) (vR x31) (vI 0) (vR b43) (vR b43) .unset .unset [(.ref x315)])
   refine oTo T315 (fr_law m p1 p2 p3 114 (vR x21) (vR x31) (vI 0) (vR b43) (vR b43) (vR x315) (vI 0) [(.ref x31), (iV 0), (.ref x315)]) (fun t kt => ?_) ?_
   ·refine XS.astore Xh348.here hx rfl (D at_78) rfl rfl (l' := #[vI p1, vI p2, vI p3, vR x21, vR x31, vI 0, vR b43, vR b43, vR x315, .unset]) rfl ?_
    refine XS.iconst Xh348.here hx rfl (D at_80) ?_
    refine XS.istore Xh348.here hx rfl (D at_81) rfl (l' := #[vI p1, vI p2, vI p3, vR x21, vR x31, vI 0, vR b43, vR b43, vR x315, vI 0]) rfl ?_
    refine XS.iload Xh348.here hx rfl (D at_83) rfl ?_
    refine XS.ifYes Xh348.here hx rfl (pc0 := 85) (pc' := 108) rfl (D at_85) rfl ((if0 _ _).trans (teq ((by decide) : (0 : Int32) = (0 : Int32))).1) (by decide) (by decide) ?_
    refine XS.aload Xh348.here hx rfl (D at_108) rfl rfl ?_
    refine XS.iload Xh348.here hx rfl (D at_110) rfl ?_
    refine XS.aload Xh348.here hx rfl (D at_112) rfl rfl ?_
    exact kt
   have f349 := (f321.keep Kq315)
   have f350 := ((f297.keep Kq302 (ninS ne65 (ninS ne76 nin0))).keep Kq315 nin0)
   have f351 := ((f298.keep Kq302 (ninS ne65 (ninS ne76 nin0))).keep Kq315 nin0)
   have f352 := (f323.keep Kq315 nin0)
   have f353 := (f313.keep Kq315 all0)
   have f354 := (Nat.le_trans f314 Kq315.1)
   obtain ⟨vv355, _, ⟨T355, L355, k355, n355⟩, -, X355, ⟨Lc355, hQ355, l355, y355, z355⟩, st355⟩ := Jvm.LawKit.callS Xh348 hx (y := yM35) hown309 (mvT hZ309 (Wd171 hw)) (mvT hZ309 (Wd172 hw)) (mvT hZ309 (Wd2 hw)) (mvT hZ309 (Wd173 hw)) (by decide) (backOf (W := 0) (c_clg3 l Z a0 hw [] x315 t315 kn315 (6 : Int32) (oI [60, 47, oL g0, oL g1, oL g2, 62]) (0 : Int32) x31 t31 kb31 g0 g1 g2 G1 G3 T315.heap n0 f354 Eq315 Vq315 Cq315 Aq315 f349 f350 f351 f352 hr_g0 hr_g1 hr_g2 (by decide +kernel) (by decide +kernel) (oCl (by decide +kernel) rfl (by decide +kernel)) (oCl (by decide +kernel) rfl (by decide +kernel)) (oCl (by decide +kernel) rfl hr_g0) (oCl (by decide +kernel) rfl hr_g1) (oCl (by decide +kernel) rfl hr_g2) (oCl (by decide +kernel) rfl (by decide +kernel)) O2 P5 O4 rG3 f353) hZ309 (Wd173 hw) (Wd2 hw) (by decide) (by decide)) (g := (fr_law m p1 p2 p3 114 (vR x21) (vR x31) (vI 0) (vR b43) (vR b43) (vR x315) (vI 0) [(.ref x31), (iV 0), (.ref x315)])) rfl (by rw [hml]; rfl) (argsL := [(.ref x315), (iV 0), (.ref x31)]) (rest := []) (lenOf pd_36 rfl) rfl (oWt rfl) (D at_114) (fun _ _ => ⟨rfl, rfl, oLe rfl, oLe rfl⟩)
   dsimp only [Pt.U, Pt.locs, Pt.cells, Pt.slots] at X355 l355 y355 z355 st355 hQ355
   subst l355 y355 z355
   obtain ⟨rfl, Nq355, Eq355⟩ := hQ355
   have N356 := Fr.app Nh348 Nq355
   obtain ⟨Lh357, Xh357, Nh357⟩ := oHd 19 77 X355 N356 rfl rfl
   refine ownBy st355 ?_
   clear st355
   show oA p e below _ T355 (fr_law m p1 p2 p3 117 (vR x21) (vR x31) (vI 0) (vR b43) (vR b43) (vR x315) (vI 0) [(iV 1)])
   refine oTo T355 (fr_law m p1 p2 p3 124 (vR x21) (vR x31) (vI 0) (vR b43) (vR b43) (vR x315) (vI 0) [(.ref x315)]) (fun t kt => ?_) ?_
   ·refine XS.ifYes Xh357.here hx rfl (pc0 := 117) (pc' := 122) rfl (D at_117) rfl ((if0 _ _).trans (feq ((by decide) : ¬ ((1 : Int32) = (0 : Int32)))).2) (by decide) (by decide) ?_
    refine XS.aload Xh357.here hx rfl (D at_122) rfl rfl ?_
    exact kt
   obtain ⟨cq358, kq358, q358a, q358b, q358c⟩ := isOf hZ309 Eq355 Eq315
   obtain ⟨vv358, _, ⟨T358, L358, k358, n358⟩, -, X358, ⟨Lc358, hQ358, l358, y358, z358⟩, st358⟩ := Xh357.virtualBack hx (y := yM4) (z := yM4) hown309 (mvT hZ309 (Wd174 hw)) (mvT hZ309 (Wd70 hw)) (oNf hZ309 (Wd72 hw)) (mvT hZ309 (Wd72 hw)) (mvT hZ309 (Wd71 hw)) (by decide) (backOf (W := 0) (c_leng l Z a0 hw [] x315 t315 kn315 (6 : Int32) (oI [60, 47, oL g0, oL g1, oL g2, 62]) G1 T315.heap n0 f354 Eq315 Vq315 Cq315 Aq315 (by decide +kernel) O2 P5 f353) hZ309 (Wd73 hw) (Wd6 hw) (by decide) (by decide)) q358a q358c (g := (fr_law m p1 p2 p3 124 (vR x21) (vR x31) (vI 0) (vR b43) (vR b43) (vR x315) (vI 0) [(.ref x315)])) rfl (by rw [hml]; rfl) (Steps.refl _) (argsL := []) (rest := []) (lenOf pd_15 rfl) rfl (oWt rfl) (D at_124) (fun _ _ => ⟨rfl, Eq355, oLe rfl, oLe rfl⟩)
   dsimp only [Pt.U, Pt.locs, Pt.cells, Pt.slots] at X358 l358 y358 z358 st358 hQ358
   subst l358 y358 z358
   obtain ⟨rfl, Nq358, Eq358⟩ := hQ358
   have N359 := Fr.app Nh357 Nq358
   obtain ⟨Lh360, Xh360, Nh360⟩ := oHd 19 77 X358 N359 rfl rfl
   refine ownSt st358 ?_
   clear st358
   show oA p e below _ T358 (fr_law m p1 p2 p3 127 (vR x21) (vR x31) (vI 0) (vR b43) (vR b43) (vR x315) (vI 0) [(iV 6)])
   refine oTo T358 (fr_law m p1 p2 p3 131 (vR x21) (vR x31) (vI 0) (vR b43) (vR b43) (vR x315) (vI 0) [(.ref x31), (iV 0), (iV 6)]) (fun t kt => ?_) ?_
   ·refine XS.iload Xh360.here hx rfl (D at_127) rfl ?_
    refine XS.aload Xh360.here hx rfl (D at_129) rfl rfl ?_
    exact kt
   obtain ⟨cq361, kq361, q361a, q361b, q361c⟩ := isOf hZ309 Eq358 f349
   obtain ⟨vv361, _, ⟨T361, L361, k361, n361⟩, -, X361, ⟨Lc361, hQ361, l361, y361, z361⟩, st361⟩ := Xh360.virtualBack hx (y := yM4) (z := yM4) hown309 (mvT hZ309 (Wd174 hw)) (mvT hZ309 (Wd70 hw)) (oNf hZ309 (Wd72 hw)) (mvT hZ309 (Wd72 hw)) (mvT hZ309 (Wd71 hw)) (by decide) (backOf (W := 2) (c_leng l Z a0 hw [] x31 t31 kb31 (3 : Int32) (oI [oL g0, oL g1, oL g2]) G1 T315.heap n0 f354 f349 f350 f351 f352 (by decide +kernel) O2 P5 f353) hZ309 (Wd73 hw) (Wd6 hw) (by decide) (by decide)) q361a q361c (g := (fr_law m p1 p2 p3 131 (vR x21) (vR x31) (vI 0) (vR b43) (vR b43) (vR x315) (vI 0) [(.ref x31), (iV 0), (iV 6)])) rfl (by rw [hml]; rfl) (Steps.refl _) (argsL := []) (rest := [(iV 0), (iV 6)]) (lenOf pd_15 rfl) rfl (oWt rfl) (D at_131) (fun _ _ => ⟨rfl, Eq358, oLe rfl, oLe rfl⟩)
   dsimp only [Pt.U, Pt.locs, Pt.cells, Pt.slots] at X361 l361 y361 z361 st361 hQ361
   subst l361 y361 z361
   obtain ⟨rfl, Nq361, Eq361⟩ := hQ361
   have N362 := Fr.app Nh360 Nq361
   obtain ⟨Lh363, Xh363, Nh363⟩ := oHd 19 77 X361 N362 rfl rfl
   refine ownSt st361 ?_
   clear st361
   show oA p e below _ T361 (fr_law m p1 p2 p3 134 (vR x21) (vR x31) (vI 0) (vR b43) (vR b43) (vR x315) (vI 0) [(iV 3), (iV 0), (iV 6)])
   refine oTo T361 (fr_law m p1 p2 p3 145 (vR x21) (vR x31) (vI 0) (vR b43) (vR b43) (vR x315) (vI 0) [(iV 1)]) (fun t kt => ?_) ?_
   ·refine XS.iadd Xh363.here hx rfl (D at_134) rfl ?_
    refine XS.iconst Xh363.here hx rfl (D at_135) ?_
    refine XS.iadd Xh363.here hx rfl (D at_136) rfl ?_
    refine XS.icmpNo Xh363.here hx rfl (D at_137) rfl (teq ((by decide) : (6 : Int32) = (6 : Int32))).2 ?_
    refine XS.iconst Xh363.here hx rfl (D at_140) ?_
    refine XS.goto Xh363.here hx rfl (pc0 := 141) (pc' := 145) rfl (D at_141) (by decide) (by decide) ?_
    exact kt
   refine ownRetH Xh363 hSR309 (by rw [Eq361]; exact (Nat.le_trans (Nat.le_refl _) Kq315.1)) Bd.notSynchronized (v := some (.int (nar .boolean (1 : Int32)))) (fun h => by rw [Bd.returns] at h; cases h) ?_ (R342.trans ((by rw [Eq361]; exact CHv.at Xh363 hZ309 hEL R342.1))) (oLe rfl) (oLe rfl) (fun fs hr => retN Xh363 hx (t := .boolean) Bd.returns (by simp) (D at_145) hr)
   show (Q_law Z p1 p2 p3 G1 G3 h0 n0) (some (.int (nar .boolean (1 : Int32)))) T361.heap _
   rw [Eq361]
   exact ⟨rfl, Nh363⟩
 ·skip
  refine oTo T31 (fr_law m p1 p2 p3 24 (vR x21) (vR x31) (vI 1) .unset .unset .unset .unset []) (fun t kt => ?_) ?_
  ·refine XS.ifNo Xh41.here hx rfl (D at_14) rfl ((if0 _ _).trans (feq hc42).1) ?_
   refine XS.iconst Xh41.here hx rfl (D at_17) ?_
   refine XS.goto Xh41.here hx rfl (pc0 := 18) (pc' := 22) rfl (D at_18) (by decide) (by decide) ?_
   refine XS.istore Xh41.here hx rfl (D at_22) rfl (l' := #[vI p1, vI p2, vI p3, vR x21, vR x31, vI 1, .unset, .unset, .unset, .unset]) rfl ?_
   exact kt
  obtain ⟨T365, h365, X365, e365, E365, A365, D365, -, st365⟩ := newO Xh41 hx hZ40 hown40 (Wd26 hw) (Wd27 hw) (Wd28 hw) rfl (g := (fr_law m p1 p2 p3 24 (vR x21) (vR x31) (vI 1) .unset .unset .unset .unset [])) rfl (D at_24) (by decide) (by decide)
  obtain ⟨b365, g365⟩ : ∃ z, z = T31.heap.size := ⟨_, rfl⟩
  rw [← g365] at A365 D365 st365
  have f367 := (Eq21.keep Kq31)
  have ne366 : x21 ≠ b365 := Nat.ne_of_lt (Nat.lt_of_lt_of_le f367.lt (Nat.le_of_eq g365.symm))
  have f369 := (Aq21.keep Kq31 nin0)
  have ne368 : t21 ≠ b365 := Nat.ne_of_lt (Nat.lt_of_lt_of_le f369.lt (Nat.le_of_eq g365.symm))
  have ne370 : x31 ≠ b365 := Nat.ne_of_lt (Nat.lt_of_lt_of_le Eq31.lt (Nat.le_of_eq g365.symm))
  have ne371 : t31 ≠ b365 := Nat.ne_of_lt (Nat.lt_of_lt_of_le Aq31.lt (Nat.le_of_eq g365.symm))
  have f373 := (Nat.le_trans f30 Kq31.1)
  have g372 : n0 ≤ b365 := Nat.le_trans f373 (Nat.le_of_eq g365.symm)
  have sf374 : Safe Z ownEL T31.vm T31.heap b365 := Safe.new (Nat.le_of_eq g365.symm)
  have f376 := (Nat.le_trans f36 Kq31.1)
  have z375 : h0.size ≤ b365 := Nat.le_trans f376 (Nat.le_of_eq g365.symm)
  have R377 := R39.trans (CHr.ext E365 R39.1)
  have sf378 := Safe.ext E365 R39.1 sf374
  have F379 : Fld Z h365 b365 "com/example/quayside/quayside/web/Html" "html" "Ljava/lang/StringBuilder;" .null := D365 (Or.inr (Wd52 hw)) (ty := (.object "java/lang/StringBuilder")) (by decide)
  refine ownBy st365 ?_
  clear st365
  show oA p e below _ T365 (fr_law m p1 p2 p3 27 (vR x21) (vR x31) (vI 1) .unset .unset .unset .unset [(.ref b365)])
  refine oTo T365 (fr_law m p1 p2 p3 28 (vR x21) (vR x31) (vI 1) .unset .unset .unset .unset [(.ref b365), (.ref b365)]) (fun t kt => ?_) ?_
  ·refine XS.dup X365.here hx rfl (D at_27) rfl rfl ?_
   exact kt
  have f380 := ((f29.keep Kq31 all0).ext E365)
  have f381 := (Nat.le_trans f373 E365.1)
  obtain ⟨vv382, _, ⟨T382, L382, k382, n382⟩, -, X382, ⟨Lc382, hQ382, l382, y382, z382⟩, st382⟩ := X365.specialBack hx (y := yM32) rfl hown40 (mvT hZ40 (Wd29 hw)) (mvT hZ40 (Wd30 hw)) (mvT hZ40 (Wd31 hw)) (by decide) (backOf (W := 1) (c_hin l Z a0 hw [] b365 G1 h365 n0 f381 A365 F379 g372 O2 P5 f380) hZ40 (Wd31 hw) (Wd28 hw) (by decide) (by decide)) (g := (fr_law m p1 p2 p3 28 (vR x21) (vR x31) (vI 1) .unset .unset .unset .unset [(.ref b365), (.ref b365)])) rfl (by rw [hml]; rfl) (Steps.refl _) (a := b365) (argsL := []) (rest := [(.ref b365)]) (lenOf pd_29 rfl) rfl (oWt rfl) (D at_28) (fun _ _ => ⟨rfl, e365, oLe rfl, oLe rfl⟩)
  dsimp only [Pt.U, Pt.locs, Pt.cells, Pt.slots] at X382 l382 y382 z382 st382 hQ382
  subst l382 y382 z382
  obtain ⟨rfl, Nq382, Kq382, sb382, t382, kv382, zb382, zv382, Eh382, Fh382, Eq382, Vq382, Cq382, Mq382, Aq382⟩ := hQ382
  have f384 := (f367.ext E365)
  have ne383 : x21 ≠ sb382 := Nat.ne_of_lt (Nat.lt_of_lt_of_le f384.lt zb382)
  have f386 := (f369.ext E365)
  have ne385 : t21 ≠ sb382 := Nat.ne_of_lt (Nat.lt_of_lt_of_le f386.lt zb382)
  have f388 := (Eq31.ext E365)
  have ne387 : x31 ≠ sb382 := Nat.ne_of_lt (Nat.lt_of_lt_of_le f388.lt zb382)
  have f390 := (Aq31.ext E365)
  have ne389 : t31 ≠ sb382 := Nat.ne_of_lt (Nat.lt_of_lt_of_le f390.lt zb382)
  have ne391 : b365 ≠ sb382 := Nat.ne_of_lt (Nat.lt_of_lt_of_le A365.lt zb382)
  have g392 : n0 ≤ sb382 := Nat.le_trans f381 zb382
  have sf393 : Safe Z ownEL T31.vm h365 sb382 := Safe.new zb382
  have f395 := (Nat.le_trans f376 E365.1)
  have z394 : h0.size ≤ sb382 := Nat.le_trans f395 zb382
  have ne396 : x21 ≠ t382 := Nat.ne_of_lt (Nat.lt_of_lt_of_le f384.lt zv382)
  have ne397 : t21 ≠ t382 := Nat.ne_of_lt (Nat.lt_of_lt_of_le f386.lt zv382)
  have ne398 : x31 ≠ t382 := Nat.ne_of_lt (Nat.lt_of_lt_of_le f388.lt zv382)
  have ne399 : t31 ≠ t382 := Nat.ne_of_lt (Nat.lt_of_lt_of_le f390.lt zv382)
  have ne400 : b365 ≠ t382 := Nat.ne_of_lt (Nat.lt_of_lt_of_le A365.lt zv382)
  have g401 : n0 ≤ t382 := Nat.le_trans f381 zv382
  have sf402 : Safe Z ownEL T31.vm h365 t382 := Safe.new zv382
  have z403 : h0.size ≤ t382 := Nat.le_trans f395 zv382
  have N404 := Fr.app Nh41 Nq382
  have R405 := R377.trans (CHr.keep Kq382 (sfS sf378 sf0) R377.1)
  have sf406 := Safe.keep Kq382 (sfS sf378 sf0) R377.1 sf378
  have sf407 := Safe.keep Kq382 (sfS sf378 sf0) R377.1 sf393
  have sf408 := Safe.keep Kq382 (sfS sf378 sf0) R377.1 sf402
  obtain ⟨Lh409, Xh409, Nh409⟩ := oHd 15 45 X382 N404 rfl rfl
  refine ownSt st382 ?_
  clear st382
  show oA p e below _ T382 (fr_law m p1 p2 p3 31 (vR x21) (vR x31) (vI 1) .unset .unset .unset .unset [(.ref b365)])
  have ne410 : sb382 ≠ t382 := Exa.neArv Eq382 Aq382 (Wd34 hw)
  refine oTo T382 (fr_law m p1 p2 p3 38 (vR x21) (vR x31) (vI 1) (vR b365) .unset .unset .unset []) (fun t kt => ?_) ?_
  ·refine XS.astore Xh409.here hx rfl (D at_31) rfl rfl (l' := #[vI p1, vI p2, vI p3, vR x21, vR x31, vI 1, vR b365, .unset, .unset, .unset]) rfl ?_
   refine XS.iload Xh409.here hx rfl (D at_33) rfl ?_
   refine XS.ifNo Xh409.here hx rfl (D at_35) rfl ((if0 _ _).trans (feq ((by decide) : ¬ ((1 : Int32) = (0 : Int32)))).1) ?_
   exact kt
  rcases hT21 with ⟨-, rfl, rfl⟩ | ⟨f0, hr_f0, rfl, rfl⟩ | ⟨f0, f1, hr_f0, hr_f1, rfl, rfl⟩ | ⟨f0, f1, f2, hr_f0, hr_f1, hr_f2, rfl, rfl⟩
  ·skip
   refine oTo T382 (fr_law m p1 p2 p3 41 (vR x21) (vR x31) (vI 1) (vR b365) .unset .unset .unset [(.ref x21), (.ref b365)]) (fun t kt => ?_) ?_
   ·refine XS.aload Xh409.here hx rfl (D at_38) rfl rfl ?_
    refine XS.aloadN Xh409.here hx rfl (D at_40) rfl rfl ?_
    exact kt
   have f411 := (f384.keep Kq382)
   have f412 := (((Vq21.keep Kq31 nin0).ext E365).keep Kq382 (ninS ne366 nin0))
   have f413 := (((Cq21.keep Kq31 nin0).ext E365).keep Kq382 (ninS ne366 nin0))
   have f414 := (f386.keep Kq382 (ninS ne368 nin0))
   have f415 := (f380.keep Kq382 (allS g372 all0))
   have f416 := (Nat.le_trans f381 Kq382.1)
   obtain ⟨cq417, kq417, q417a, q417b, q417c⟩ := isOf hZ40 rfl Eh382
   obtain ⟨vv417, _, ⟨T417, L417, k417, n417⟩, -, X417, hS417, hg417, ⟨Lc417, hQ417, l417, y417, z417, hC417⟩, st417⟩ := Xh409.virtualBackS hx (y := yM33) (z := yM33) hown40 (mvT hZ40 (Wd53 hw)) (mvT hZ40 (Wd54 hw)) (oNf hZ40 (Wd56 hw)) (mvT hZ40 (Wd56 hw)) (mvT hZ40 (Wd55 hw)) (by decide) (backOfSH (W := 0) (s := s) (EL := ownEL) (c_hcl l Z a0 hw [] b365 x21 t21 kb21 (0 : Int32) [] sb382 t382 kv382 (16 : Int32) (oI [0, 0, 0, 0, 0, 0, 0, 0, 0, 0, 0, 0, 0, 0, 0, 0]) (0 : Int32) (oI [60, 47, 0, 0, 0, 0, 0, 0, 0, 0, 0, 0, 0, 0, 0, 0]) (oI [60, 47, 0, 0, 0, 0, 0, 0, 0, 0, 0, 0, 0, 0, 0, 0]) (oI [60, 47, 62, 0, 0, 0, 0, 0, 0, 0, 0, 0, 0, 0, 0, 0]) (2 : Int32) (2 : Int32) (3 : Int32) G1 T382.heap n0 f416 Eh382 Fh382 f411 f412 f413 f414 Eq382 Vq382 Cq382 Mq382 Aq382 g392 g401 ne397 (by decide +kernel) (oCp (by decide +kernel) rfl rfl rfl) (oCp (by decide +kernel) rfl rfl rfl) (oCq (by decide +kernel) rfl rfl) O2 P5 f415) hZ40 (Wd57 hw) (Wd28 hw) (by decide) (by decide) hEL R405.1) q417a q417c (g := (fr_law m p1 p2 p3 41 (vR x21) (vR x31) (vI 1) (vR b365) .unset .unset .unset [(.ref x21), (.ref b365)])) rfl (by rw [hml]; rfl) (Steps.refl _) (argsL := [(.ref x21)]) (rest := []) (lenOf pd_35 rfl) rfl (oWt rfl) (D at_41) (fun _ _ => ⟨rfl, rfl, oLe rfl, oLe rfl⟩)
   dsimp only [Pt.U, Pt.locs, Pt.cells, Pt.slots] at X417 l417 y417 z417 st417 hQ417 hS417 hg417 hC417
   subst l417 y417 z417
   obtain ⟨rfl, Nq417, Kq417, Eq417, Vq417, Cq417, Mq417, Aq417⟩ := hQ417
   have N418 := Fr.app Nh409 Nq417
   have R420 := R405.trans hC417
   have sf421 := CHr.safe hC417 Eh382.lt sf406
   have sf422 := CHr.safe hC417 Eq382.lt sf407
   have sf423 := CHr.safe hC417 Aq382.lt sf408
   obtain ⟨XR424, hSR424, hZ424, hown424⟩ := rebS hSR40 (Nat.le_trans (Nat.le_trans (Nat.le_refl _) E365.1) Kq382.1) X417 hS417 hg417 hZ40 hown40
   obtain ⟨Lh425, Xh425, Nh425⟩ := oHd 17 57 XR424 N418 rfl rfl
   refine ownSt st417 ?_
   clear st417
   show oA p e below _ T417 (fr_law m p1 p2 p3 44 (vR x21) (vR x31) (vI 1) (vR b365) .unset .unset .unset [(.ref b365)])
   refine oTo T417 (fr_law m p1 p2 p3 55 (vR x21) (vR x31) (vI 1) (vR b365) (vR b365) .unset .unset []) (fun t kt => ?_) ?_
   ·refine XS.astore Xh425.here hx rfl (D at_44) rfl rfl (l' := #[vI p1, vI p2, vI p3, vR x21, vR x31, vI 1, vR b365, vR b365, .unset, .unset]) rfl ?_
    refine XS.aload Xh425.here hx rfl (D at_46) rfl rfl ?_
    refine XS.aload Xh425.here hx rfl (D at_48) rfl rfl ?_
    refine Jvm.RoadKit.acmp (g := (fr_law m p1 p2 p3 50 (vR x21) (vR x31) (vI 1) (vR b365) (vR b365) .unset .unset [(.ref b365), (.ref b365)])) Xh425 hx rfl rfl rfl (pc0 := 50) (pc' := 55) (same := true) rfl (D at_50) rfl (decide_eq_true rfl) (by decide) (by decide) ?_
    exact kt
   rcases hT31 with ⟨-, rfl, rfl⟩ | ⟨g0, hr_g0, rfl, rfl⟩ | ⟨g0, g1, hr_g0, hr_g1, rfl, rfl⟩ | ⟨g0, g1, g2, hr_g0, hr_g1, hr_g2, rfl, rfl⟩
   ·skip
    refine oTo T417 (fr_law m p1 p2 p3 59 (vR x21) (vR x31) (vI 1) (vR b365) (vR b365) .unset .unset [(.ref x31), (.ref b365)]) (fun t kt => ?_) ?_
    ·refine XS.aload Xh425.here hx rfl (D at_55) rfl rfl ?_
     refine XS.aload Xh425.here hx rfl (D at_57) rfl rfl ?_
     exact kt
    have f426 := ((f388.keep Kq382).keep Kq417)
    have f427 := (((Vq31.ext E365).keep Kq382 (ninS ne370 nin0)).keep Kq417 (ninS ne387 (ninS ne398 nin0)))
    have f428 := (((Cq31.ext E365).keep Kq382 (ninS ne370 nin0)).keep Kq417 (ninS ne387 (ninS ne398 nin0)))
    have f429 := ((f390.keep Kq382 (ninS ne371 nin0)).keep Kq417 (ninS ne389 (ninS ne399 nin0)))
    have f430 := (Eh382.keep Kq417)
    have f431 := (Fh382.keep Kq417 (ninS ne391 (ninS ne400 nin0)))
    have f432 := (f415.keep Kq417 (allS g392 (allS g401 all0)))
    have f433 := (Nat.le_trans f416 Kq417.1)
    obtain ⟨cq434, kq434, q434a, q434b, q434c⟩ := isOf hZ424 rfl f430
    obtain ⟨vv434, _, ⟨T434, L434, k434, n434⟩, -, X434, hS434, hg434, ⟨Lc434, hQ434, l434, y434, z434, hC434⟩, st434⟩ := Xh425.virtualBackS hx (y := yM33) (z := yM33) hown424 (mvT hZ424 (Wd53 hw)) (mvT hZ424 (Wd54 hw)) (oNf hZ424 (Wd56 hw)) (mvT hZ424 (Wd56 hw)) (mvT hZ424 (Wd55 hw)) (by decide) (backOfSH (W := 0) (s := s) (EL := ownEL) (c_hcl l Z a0 hw [] b365 x31 t31 kb31 (0 : Int32) [] sb382 t382 kv382 (16 : Int32) (oI [60, 47, 62, 0, 0, 0, 0, 0, 0, 0, 0, 0, 0, 0, 0, 0]) (3 : Int32) (oI [60, 47, 62, 60, 47, 0, 0, 0, 0, 0, 0, 0, 0, 0, 0, 0]) (oI [60, 47, 62, 60, 47, 0, 0, 0, 0, 0, 0, 0, 0, 0, 0, 0]) (oI [60, 47, 62, 60, 47, 62, 0, 0, 0, 0, 0, 0, 0, 0, 0, 0]) (5 : Int32) (5 : Int32) (6 : Int32) G1 T417.heap n0 f433 f430 f431 f426 f427 f428 f429 Eq417 Vq417 Cq417 Mq417 Aq417 g392 g401 ne399 (by decide +kernel) (oCp (by decide +kernel) rfl rfl rfl) (oCp (by decide +kernel) rfl rfl rfl) (oCq (by decide +kernel) rfl rfl) O2 P5 f432) hZ424 (Wd57 hw) (Wd28 hw) (by decide) (by decide) hEL R420.1) q434a q434c (g := (fr_law m p1 p2 p3 59 (vR x21) (vR x31) (vI 1) (vR b365) (vR b365) .unset .unset [(.ref x31), (.ref b365)])) rfl (by rw [hml]; rfl) (Steps.refl _) (argsL := [(.ref x31)]) (rest := []) (lenOf pd_35 rfl) rfl (oWt rfl) (D at_59) (fun _ _ => ⟨rfl, rfl, oLe rfl, oLe rfl⟩)
    dsimp only [Pt.U, Pt.locs, Pt.cells, Pt.slots] at X434 l434 y434 z434 st434 hQ434 hS434 hg434 hC434
    subst l434 y434 z434
    obtain ⟨rfl, Nq434, Kq434, Eq434, Vq434, Cq434, Mq434, Aq434⟩ := hQ434
    have N435 := Fr.app Nh425 Nq434
    have R437 := R420.trans hC434
    have sf438 := CHr.safe hC434 f430.lt sf421
    have sf439 := CHr.safe hC434 Eq417.lt sf422
    have sf440 := CHr.safe hC434 Aq417.lt sf423
    obtain ⟨XR441, hSR441, hZ441, hown441⟩ := rebS hSR424 (Nat.le_refl _) X434 hS434 hg434 hZ424 hown424
    obtain ⟨Lh442, Xh442, Nh442⟩ := oHd 19 69 XR441 N435 rfl rfl
    refine ownSt st434 ?_
    clear st434
    show oA p e below _ T434 (fr_law m p1 p2 p3 62 (vR x21) (vR x31) (vI 1) (vR b365) (vR b365) .unset .unset [(.ref b365)])
    refine oTo T434 (fr_law m p1 p2 p3 75 (vR x21) (vR x31) (vI 1) (vR b365) (vR b365) .unset .unset [(.ref b365)]) (fun t kt => ?_) ?_
    ·refine XS.astore Xh442.here hx rfl (D at_62) rfl rfl (l' := #[vI p1, vI p2, vI p3, vR x21, vR x31, vI 1, vR b365, vR b365, .unset, .unset]) rfl ?_
     refine XS.aload Xh442.here hx rfl (D at_64) rfl rfl ?_
     refine XS.aload Xh442.here hx rfl (D at_66) rfl rfl ?_
     refine Jvm.RoadKit.acmp (g := (fr_law m p1 p2 p3 68 (vR x21) (vR x31) (vI 1) (vR b365) (vR b365) .unset .unset [(.ref b365), (.ref b365)])) Xh442 hx rfl rfl rfl (pc0 := 68) (pc' := 73) (same := true) rfl (D at_68) rfl (decide_eq_true rfl) (by decide) (by decide) ?_
     refine XS.aload Xh442.here hx rfl (D at_73) rfl rfl ?_
     exact kt
    have f443 := (f430.keep Kq434)
    have f444 := (f431.keep Kq434 (ninS ne391 (ninS ne400 nin0)))
    have f445 := (f432.keep Kq434 (allS g392 (allS g401 all0)))
    have f446 := (Nat.le_trans f433 Kq434.1)
    obtain ⟨cq447, kq447, q447a, q447b, q447c⟩ := isOf hZ441 rfl f443
    obtain ⟨vv447, _, ⟨T447, L447, k447, n447⟩, -, X447, ⟨Lc447, hQ447, l447, y447, z447⟩, st447⟩ := Xh442.virtualBack hx (y := yM34) (z := yM34) hown441 (mvT hZ441 (Wd125 hw)) (mvT hZ441 (Wd126 hw)) (oNf hZ441 (Wd128 hw)) (mvT hZ441 (Wd128 hw)) (mvT hZ441 (Wd127 hw)) (by decide) (backOf (W := 0) (c_hts l Z a0 hw [] b365 sb382 t382 kv382 (16 : Int32) (oI [60, 47, 62, 60, 47, 62, 0, 0, 0, 0, 0, 0, 0, 0, 0, 0]) (6 : Int32) (oI [60, 47, 62, 60, 47, 62]) G1 T434.heap n0 f446 f443 f444 Eq434 Vq434 Cq434 Mq434 Aq434 (oCr (by decide +kernel) rfl) O2 P5 f445) hZ441 (Wd129 hw) (Wd28 hw) (by decide) (by decide)) q447a q447c (g := (fr_law m p1 p2 p3 75 (vR x21) (vR x31) (vI 1) (vR b365) (vR b365) .unset .unset [(.ref b365)])) rfl (by rw [hml]; rfl) (Steps.refl _) (argsL := []) (rest := []) (lenOf pd_32 rfl) rfl (oWt rfl) (D at_75) (fun _ _ => ⟨rfl, rfl, oLe rfl, oLe rfl⟩)
    dsimp only [Pt.U, Pt.locs, Pt.cells, Pt.slots] at X447 l447 y447 z447 st447 hQ447
    subst l447 y447 z447
    obtain ⟨x447, t447, kn447, rfl, Nq447, Kq447, zx447, zq447, Eq447, Vq447, Cq447, Aq447⟩ := hQ447
    have f449 := ((f411.keep Kq417).keep Kq434)
    have ne448 : x21 ≠ x447 := Nat.ne_of_lt (Nat.lt_of_lt_of_le f449.lt zx447)
    have f451 := ((f414.keep Kq417 (ninS ne385 (ninS ne397 nin0))).keep Kq434 (ninS ne385 (ninS ne397 nin0)))
    have ne450 : t21 ≠ x447 := Nat.ne_of_lt (Nat.lt_of_lt_of_le f451.lt zx447)
    have f453 := (f426.keep Kq434)
    have ne452 : x31 ≠ x447 := Nat.ne_of_lt (Nat.lt_of_lt_of_le f453.lt zx447)
    have f455 := (f429.keep Kq434 (ninS ne389 (ninS ne399 nin0)))
    have ne454 : t31 ≠ x447 := Nat.ne_of_lt (Nat.lt_of_lt_of_le f455.lt zx447)
    have ne456 : b365 ≠ x447 := Nat.ne_of_lt (Nat.lt_of_lt_of_le f443.lt zx447)
    have ne457 : sb382 ≠ x447 := Nat.ne_of_lt (Nat.lt_of_lt_of_le Eq434.lt zx447)
    have ne458 : t382 ≠ x447 := Nat.ne_of_lt (Nat.lt_of_lt_of_le Aq434.lt zx447)
    have g459 : n0 ≤ x447 := Nat.le_trans f446 zx447
    have sf460 : Safe Z ownEL T434.vm T434.heap x447 := Safe.new zx447
    have f462 := (Nat.le_trans (Nat.le_trans (Nat.le_trans f395 Kq382.1) Kq417.1) Kq434.1)
    have z461 : h0.size ≤ x447 := Nat.le_trans f462 zx447
    have ne463 : x21 ≠ t447 := Nat.ne_of_lt (Nat.lt_of_lt_of_le f449.lt zq447)
    have ne464 : t21 ≠ t447 := Nat.ne_of_lt (Nat.lt_of_lt_of_le f451.lt zq447)
    have ne465 : x31 ≠ t447 := Nat.ne_of_lt (Nat.lt_of_lt_of_le f453.lt zq447)
    have ne466 : t31 ≠ t447 := Nat.ne_of_lt (Nat.lt_of_lt_of_le f455.lt zq447)
    have ne467 : b365 ≠ t447 := Nat.ne_of_lt (Nat.lt_of_lt_of_le f443.lt zq447)
    have ne468 : sb382 ≠ t447 := Nat.ne_of_lt (Nat.lt_of_lt_of_le Eq434.lt zq447)
    have ne469 : t382 ≠ t447 := Nat.ne_of_lt (Nat.lt_of_lt_of_le Aq434.lt zq447)
    have g470 : n0 ≤ t447 := Nat.le_trans f446 zq447
    have sf471 : Safe Z ownEL T434.vm T434.heap t447 := Safe.new zq447
    have z472 : h0.size ≤ t447 := Nat.le_trans f462 zq447
    have N473 := Fr.app Nh442 Nq447
    have R474 := R437.trans (CHr.keep Kq447 sf0 R437.1)
    have sf475 := Safe.keep Kq447 sf0 R437.1 sf438
    have sf476 := Safe.keep Kq447 sf0 R437.1 sf439
    have sf477 := Safe.keep Kq447 sf0 R437.1 sf440
    have sf478 := Safe.keep Kq447 sf0 R437.1 sf460
    have sf479 := Safe.keep Kq447 sf0 R437.1 sf471
    obtain ⟨Lh480, Xh480, Nh480⟩ := oHd 21 89 X447 N473 rfl rfl
    refine ownSt st447 ?_
    clear st447
    show oA p e below _ T447 (fr_law m p1 p2 p3 78 (vR x21) (vR x31) (vI 1) (vR b365) (vR b365) .unset .unset [(.ref x447)])
    refine oTo T447 (fr_law m p1 p2 p3 92 (vR x21) (vR x31) (vI 1) (vR b365) (vR b365) (vR x447) (vI 0) [(.ref x21), (iV 0), (.ref x447)]) (fun t kt => ?_) ?_
    ·refine XS.astore Xh480.here hx rfl (D at_78) rfl rfl (l' := #[vI p1, vI p2, vI p3, vR x21, vR x31, vI 1, vR b365, vR b365, vR x447, .unset]) rfl ?_
     refine XS.iconst Xh480.here hx rfl (D at_80) ?_
     refine XS.istore Xh480.here hx rfl (D at_81) rfl (l' := #[vI p1, vI p2, vI p3, vR x21, vR x31, vI 1, vR b365, vR b365, vR x447, vI 0]) rfl ?_
     refine XS.iload Xh480.here hx rfl (D at_83) rfl ?_
     refine XS.ifNo Xh480.here hx rfl (D at_85) rfl ((if0 _ _).trans (feq ((by decide) : ¬ ((1 : Int32) = (0 : Int32)))).1) ?_
     refine XS.aload Xh480.here hx rfl (D at_88) rfl rfl ?_
     refine XS.iconst Xh480.here hx rfl (D at_90) ?_
     refine XS.aloadN Xh480.here hx rfl (D at_91) rfl rfl ?_
     exact kt
    have f481 := (f449.keep Kq447)
    have f482 := (((f412.keep Kq417 (ninS ne383 (ninS ne396 nin0))).keep Kq434 (ninS ne383 (ninS ne396 nin0))).keep Kq447 nin0)
    have f483 := (((f413.keep Kq417 (ninS ne383 (ninS ne396 nin0))).keep Kq434 (ninS ne383 (ninS ne396 nin0))).keep Kq447 nin0)
    have f484 := (f451.keep Kq447 nin0)
    have f485 := (f445.keep Kq447 all0)
    have f486 := (Nat.le_trans f446 Kq447.1)
    obtain ⟨vv487, _, ⟨T487, L487, k487, n487⟩, -, X487, ⟨Lc487, hQ487, l487, y487, z487⟩, st487⟩ := Jvm.LawKit.callS Xh480 hx (y := yM35) hown441 (mvT hZ441 (Wd171 hw)) (mvT hZ441 (Wd172 hw)) (mvT hZ441 (Wd2 hw)) (mvT hZ441 (Wd173 hw)) (by decide) (backOf (W := 0) (c_clg0 l Z a0 hw [] x447 t447 kn447 (6 : Int32) (oI [60, 47, 62, 60, 47, 62]) (0 : Int32) x21 t21 kb21 G1 G3 T447.heap n0 f486 Eq447 Vq447 Cq447 Aq447 f481 f482 f483 f484 (by decide +kernel) (by decide +kernel) (oCl (by decide +kernel) rfl (by decide +kernel)) (oCl (by decide +kernel) rfl (by decide +kernel)) (oCl (by decide +kernel) rfl (by decide +kernel)) O2 P5 O4 rG3 f485) hZ441 (Wd173 hw) (Wd2 hw) (by decide) (by decide)) (g := (fr_law m p1 p2 p3 92 (vR x21) (vR x31) (vI 1) (vR b365) (vR b365) (vR x447) (vI 0) [(.ref x21), (iV 0), (.ref x447)])) rfl (by rw [hml]; rfl) (argsL := [(.ref x447), (iV 0), (.ref x21)]) (rest := []) (lenOf pd_36 rfl) rfl (oWt rfl) (D at_92) (fun _ _ => ⟨rfl, rfl, oLe rfl, oLe rfl⟩)
    dsimp only [Pt.U, Pt.locs, Pt.cells, Pt.slots] at X487 l487 y487 z487 st487 hQ487
    subst l487 y487 z487
    obtain ⟨rfl, Nq487, Eq487⟩ := hQ487
    have N488 := Fr.app Nh480 Nq487
    obtain ⟨Lh489, Xh489, Nh489⟩ := oHd 21 89 X487 N488 rfl rfl
    refine ownBy st487 ?_
    clear st487
    show oA p e below _ T487 (fr_law m p1 p2 p3 95 (vR x21) (vR x31) (vI 1) (vR b365) (vR b365) (vR x447) (vI 0) [(iV 1)])
    refine oTo T487 (fr_law m p1 p2 p3 101 (vR x21) (vR x31) (vI 1) (vR b365) (vR b365) (vR x447) (vI 0) [(.ref x21)]) (fun t kt => ?_) ?_
    ·refine XS.ifYes Xh489.here hx rfl (pc0 := 95) (pc' := 100) rfl (D at_95) rfl ((if0 _ _).trans (feq ((by decide) : ¬ ((1 : Int32) = (0 : Int32)))).2) (by decide) (by decide) ?_
     refine XS.aloadN Xh489.here hx rfl (D at_100) rfl rfl ?_
     exact kt
    obtain ⟨cq490, kq490, q490a, q490b, q490c⟩ := isOf hZ441 Eq487 f481
    obtain ⟨vv490, _, ⟨T490, L490, k490, n490⟩, -, X490, ⟨Lc490, hQ490, l490, y490, z490⟩, st490⟩ := Xh489.virtualBack hx (y := yM4) (z := yM4) hown441 (mvT hZ441 (Wd174 hw)) (mvT hZ441 (Wd70 hw)) (oNf hZ441 (Wd72 hw)) (mvT hZ441 (Wd72 hw)) (mvT hZ441 (Wd71 hw)) (by decide) (backOf (W := 0) (c_leng l Z a0 hw [] x21 t21 kb21 (0 : Int32) [] G1 T447.heap n0 f486 f481 f482 f483 f484 (by decide +kernel) O2 P5 f485) hZ441 (Wd73 hw) (Wd6 hw) (by decide) (by decide)) q490a q490c (g := (fr_law m p1 p2 p3 101 (vR x21) (vR x31) (vI 1) (vR b365) (vR b365) (vR x447) (vI 0) [(.ref x21)])) rfl (by rw [hml]; rfl) (Steps.refl _) (argsL := []) (rest := []) (lenOf pd_15 rfl) rfl (oWt rfl) (D at_101) (fun _ _ => ⟨rfl, Eq487, oLe rfl, oLe rfl⟩)
    dsimp only [Pt.U, Pt.locs, Pt.cells, Pt.slots] at X490 l490 y490 z490 st490 hQ490
    subst l490 y490 z490
    obtain ⟨rfl, Nq490, Eq490⟩ := hQ490
    have N491 := Fr.app Nh489 Nq490
    obtain ⟨Lh492, Xh492, Nh492⟩ := oHd 21 89 X490 N491 rfl rfl
    refine ownSt st490 ?_
    clear st490
    show oA p e below _ T490 (fr_law m p1 p2 p3 104 (vR x21) (vR x31) (vI 1) (vR b365) (vR b365) (vR x447) (vI 0) [(iV 0)])
    refine oTo T490 (fr_law m p1 p2 p3 114 (vR x21) (vR x31) (vI 1) (vR b365) (vR b365) (vR x447) (vI 3) [(.ref x31), (iV 3), (.ref x447)]) (fun t kt => ?_) ?_
    ·refine XS.iconst Xh492.here hx rfl (D at_104) ?_
     refine XS.iadd Xh492.here hx rfl (D at_105) rfl ?_
     refine XS.istore Xh492.here hx rfl (D at_106) rfl (l' := #[vI p1, vI p2, vI p3, vR x21, vR x31, vI 1, vR b365, vR b365, vR x447, vI 3]) rfl ?_
     refine XS.aload Xh492.here hx rfl (D at_108) rfl rfl ?_
     refine XS.iload Xh492.here hx rfl (D at_110) rfl ?_
     refine XS.aload Xh492.here hx rfl (D at_112) rfl rfl ?_
     exact kt
    have f493 := (f453.keep Kq447)
    have f494 := ((f427.keep Kq434 (ninS ne387 (ninS ne398 nin0))).keep Kq447 nin0)
    have f495 := ((f428.keep Kq434 (ninS ne387 (ninS ne398 nin0))).keep Kq447 nin0)
    have f496 := (f455.keep Kq447 nin0)
    obtain ⟨vv497, _, ⟨T497, L497, k497, n497⟩, -, X497, ⟨Lc497, hQ497, l497, y497, z497⟩, st497⟩ := Jvm.LawKit.callS Xh492 hx (y := yM35) hown441 (mvT hZ441 (Wd171 hw)) (mvT hZ441 (Wd172 hw)) (mvT hZ441 (Wd2 hw)) (mvT hZ441 (Wd173 hw)) (by decide) (backOf (W := 0) (c_clg0 l Z a0 hw [] x447 t447 kn447 (6 : Int32) (oI [60, 47, 62, 60, 47, 62]) (3 : Int32) x31 t31 kb31 G1 G3 T447.heap n0 f486 Eq447 Vq447 Cq447 Aq447 f493 f494 f495 f496 (by decide +kernel) (by decide +kernel) (oCl (by decide +kernel) rfl (by decide +kernel)) (oCl (by decide +kernel) rfl (by decide +kernel)) (oCl (by decide +kernel) rfl (by decide +kernel)) O2 P5 O4 rG3 f485) hZ441 (Wd173 hw) (Wd2 hw) (by decide) (by decide)) (g := (fr_law m p1 p2 p3 114 (vR x21) (vR x31) (vI 1) (vR b365) (vR b365) (vR x447) (vI 3) [(.ref x31), (iV 3), (.ref x447)])) rfl (by rw [hml]; rfl) (argsL := [(.ref x447), (iV 3), (.ref x31)]) (rest := []) (lenOf pd_36 rfl) rfl (oWt rfl) (D at_114) (fun _ _ => ⟨rfl, Eq490, oLe rfl, oLe rfl⟩)
    dsimp only [Pt.U, Pt.locs, Pt.cells, Pt.slots] at X497 l497 y497 z497 st497 hQ497
    subst l497 y497 z497
    obtain ⟨rfl, Nq497, Eq497⟩ := hQ497
    have N498 := Fr.app Nh492 Nq497
    obtain ⟨Lh499, Xh499, Nh499⟩ := oHd 21 89 X497 N498 rfl rfl
    refine ownBy st497 ?_
    clear st497
    show oA p e below _ T497 (fr_law m p1 p2 p3 117 (vR x21) (vR x31) (vI 1) (vR b365) (vR b365) (vR x447) (vI 3) [(iV 1)])
    refine oTo T497 (fr_law m p1 p2 p3 124 (vR x21) (vR x31) (vI 1) (vR b365) (vR b365) (vR x447) (vI 3) [(.ref x447)]) (fun t kt => ?_) ?_
    ·refine XS.ifYes Xh499.here hx rfl (pc0 := 117) (pc' := 122) rfl (D at_117) rfl ((if0 _ _).trans (feq ((by decide) : ¬ ((1 : Int32) = (0 : Int32)))).2) (by decide) (by decide) ?_
     refine XS.aload Xh499.here hx rfl (D at_122) rfl rfl ?_
     exact kt
    obtain ⟨cq500, kq500, q500a, q500b, q500c⟩ := isOf hZ441 Eq497 Eq447
    obtain ⟨vv500, _, ⟨T500, L500, k500, n500⟩, -, X500, ⟨Lc500, hQ500, l500, y500, z500⟩, st500⟩ := Xh499.virtualBack hx (y := yM4) (z := yM4) hown441 (mvT hZ441 (Wd174 hw)) (mvT hZ441 (Wd70 hw)) (oNf hZ441 (Wd72 hw)) (mvT hZ441 (Wd72 hw)) (mvT hZ441 (Wd71 hw)) (by decide) (backOf (W := 0) (c_leng l Z a0 hw [] x447 t447 kn447 (6 : Int32) (oI [60, 47, 62, 60, 47, 62]) G1 T447.heap n0 f486 Eq447 Vq447 Cq447 Aq447 (by decide +kernel) O2 P5 f485) hZ441 (Wd73 hw) (Wd6 hw) (by decide) (by decide)) q500a q500c (g := (fr_law m p1 p2 p3 124 (vR x21) (vR x31) (vI 1) (vR b365) (vR b365) (vR x447) (vI 3) [(.ref x447)])) rfl (by rw [hml]; rfl) (Steps.refl _) (argsL := []) (rest := []) (lenOf pd_15 rfl) rfl (oWt rfl) (D at_124) (fun _ _ => ⟨rfl, Eq497, oLe rfl, oLe rfl⟩)
    dsimp only [Pt.U, Pt.locs, Pt.cells, Pt.slots] at X500 l500 y500 z500 st500 hQ500
    subst l500 y500 z500
    obtain ⟨rfl, Nq500, Eq500⟩ := hQ500
    have N501 := Fr.app Nh499 Nq500
    obtain ⟨Lh502, Xh502, Nh502⟩ := oHd 21 89 X500 N501 rfl rfl
    refine ownSt st500 ?_
    clear st500
    show oA p e below _ T500 (fr_law m p1 p2 p3 127 (vR x21) (vR x31) (vI 1) (vR b365) (vR b365) (vR x447) (vI 3) [(iV 6)])
    refine oTo T500 (fr_law m p1 p2 p3 131 (vR x21) (vR x31) (vI 1) (vR b365) (vR b365) (vR x447) (vI 3) [(.ref x31), (iV 3), (iV 6)]) (fun t kt => ?_) ?_
    ·refine XS.iload Xh502.here hx rfl (D at_127) rfl ?_
     refine XS.aload Xh502.here hx rfl (D at_129) rfl rfl ?_
     exact kt
    obtain ⟨cq503, kq503, q503a, q503b, q503c⟩ := isOf hZ441 Eq500 f493
    obtain ⟨vv503, _, ⟨T503, L503, k503, n503⟩, -, X503, ⟨Lc503, hQ503, l503, y503, z503⟩, st503⟩ := Xh502.virtualBack hx (y := yM4) (z := yM4) hown441 (mvT hZ441 (Wd174 hw)) (mvT hZ441 (Wd70 hw)) (oNf hZ441 (Wd72 hw)) (mvT hZ441 (Wd72 hw)) (mvT hZ441 (Wd71 hw)) (by decide) (backOf (W := 2) (c_leng l Z a0 hw [] x31 t31 kb31 (0 : Int32) [] G1 T447.heap n0 f486 f493 f494 f495 f496 (by decide +kernel) O2 P5 f485) hZ441 (Wd73 hw) (Wd6 hw) (by decide) (by decide)) q503a q503c (g := (fr_law m p1 p2 p3 131 (vR x21) (vR x31) (vI 1) (vR b365) (vR b365) (vR x447) (vI 3) [(.ref x31), (iV 3), (iV 6)])) rfl (by rw [hml]; rfl) (Steps.refl _) (argsL := []) (rest := [(iV 3), (iV 6)]) (lenOf pd_15 rfl) rfl (oWt rfl) (D at_131) (fun _ _ => ⟨rfl, Eq500, oLe rfl, oLe rfl⟩)
    dsimp only [Pt.U, Pt.locs, Pt.cells, Pt.slots] at X503 l503 y503 z503 st503 hQ503
    subst l503 y503 z503
    obtain ⟨rfl, Nq503, Eq503⟩ := hQ503
    have N504 := Fr.app Nh502 Nq503
    obtain ⟨Lh505, Xh505, Nh505⟩ := oHd 21 89 X503 N504 rfl rfl
    refine ownSt st503 ?_
    clear st503
    show oA p e below _ T503 (fr_law m p1 p2 p3 134 (vR x21) (vR x31) (vI 1) (vR b365) (vR b365) (vR x447) (vI 3) [(iV 0), (iV 3), (iV 6)])
    refine oTo T503 (fr_law m p1 p2 p3 145 (vR x21) (vR x31) (vI 1) (vR b365) (vR b365) (vR x447) (vI 3) [(iV 1)]) (fun t kt => ?_) ?_
    ·refine XS.iadd Xh505.here hx rfl (D at_134) rfl ?_
     refine XS.iconst Xh505.here hx rfl (D at_135) ?_
     refine XS.iadd Xh505.here hx rfl (D at_136) rfl ?_
     refine XS.icmpNo Xh505.here hx rfl (D at_137) rfl (teq ((by decide) : (6 : Int32) = (6 : Int32))).2 ?_
     refine XS.iconst Xh505.here hx rfl (D at_140) ?_
     refine XS.goto Xh505.here hx rfl (pc0 := 141) (pc' := 145) rfl (D at_141) (by decide) (by decide) ?_
     exact kt
    refine ownRetH Xh505 hSR441 (by rw [Eq503]; exact (Nat.le_trans (Nat.le_refl _) Kq447.1)) Bd.notSynchronized (v := some (.int (nar .boolean (1 : Int32)))) (fun h => by rw [Bd.returns] at h; cases h) ?_ (R474.trans ((by rw [Eq503]; exact CHv.at Xh505 hZ441 hEL R474.1))) (oLe rfl) (oLe rfl) (fun fs hr => retN Xh505 hx (t := .boolean) Bd.returns (by simp) (D at_145) hr)
    show (Q_law Z p1 p2 p3 G1 G3 h0 n0) (some (.int (nar .boolean (1 : Int32)))) T503.heap _
    rw [Eq503]
    exact ⟨rfl, Nh505⟩
   ·skip
    refine oTo T417 (fr_law m p1 p2 p3 59 (vR x21) (vR x31) (vI 1) (vR b365) (vR b365) .unset .unset [(.ref x31), (.ref b365)]) (fun t kt => ?_) ?_
    ·refine XS.aload Xh425.here hx rfl (D at_55) rfl rfl ?_
     refine XS.aload Xh425.here hx rfl (D at_57) rfl rfl ?_
     exact kt
    have f507 := ((f388.keep Kq382).keep Kq417)
    have f508 := (((Vq31.ext E365).keep Kq382 (ninS ne370 nin0)).keep Kq417 (ninS ne387 (ninS ne398 nin0)))
    have f509 := (((Cq31.ext E365).keep Kq382 (ninS ne370 nin0)).keep Kq417 (ninS ne387 (ninS ne398 nin0)))
    have f510 := ((f390.keep Kq382 (ninS ne371 nin0)).keep Kq417 (ninS ne389 (ninS ne399 nin0)))
    have f511 := (Eh382.keep Kq417)
    have f512 := (Fh382.keep Kq417 (ninS ne391 (ninS ne400 nin0)))
    have f513 := (f415.keep Kq417 (allS g392 (allS g401 all0)))
    have f514 := (Nat.le_trans f416 Kq417.1)
    obtain ⟨cq515, kq515, q515a, q515b, q515c⟩ := isOf hZ424 rfl f511
    obtain ⟨vv515, _, ⟨T515, L515, k515, n515⟩, -, X515, hS515, hg515, ⟨Lc515, hQ515, l515, y515, z515, hC515⟩, st515⟩ := Xh425.virtualBackS hx (y := yM33) (z := yM33) hown424 (mvT hZ424 (Wd53 hw)) (mvT hZ424 (Wd54 hw)) (oNf hZ424 (Wd56 hw)) (mvT hZ424 (Wd56 hw)) (mvT hZ424 (Wd55 hw)) (by decide) (backOfSH (W := 0) (s := s) (EL := ownEL) (c_hcl l Z a0 hw [] b365 x31 t31 kb31 (1 : Int32) (oI [oL g0]) sb382 t382 kv382 (16 : Int32) (oI [60, 47, 62, 0, 0, 0, 0, 0, 0, 0, 0, 0, 0, 0, 0, 0]) (3 : Int32) (oI [60, 47, 62, 60, 47, 0, 0, 0, 0, 0, 0, 0, 0, 0, 0, 0]) (oI [60, 47, 62, 60, 47, oL g0, 0, 0, 0, 0, 0, 0, 0, 0, 0, 0]) (oI [60, 47, 62, 60, 47, oL g0, 62, 0, 0, 0, 0, 0, 0, 0, 0, 0]) (5 : Int32) (6 : Int32) (7 : Int32) G1 T417.heap n0 f514 f511 f512 f507 f508 f509 f510 Eq417 Vq417 Cq417 Mq417 Aq417 g392 g401 ne399 (by decide +kernel) (oCp (by decide +kernel) rfl rfl rfl) (oCp (by decide +kernel) rfl rfl rfl) (oCq (by decide +kernel) rfl rfl) O2 P5 f513) hZ424 (Wd57 hw) (Wd28 hw) (by decide) (by decide) hEL R420.1) q515a q515c (g := (fr_law m p1 p2 p3 59 (vR x21) (vR x31) (vI 1) (vR b365) (vR b365) .unset .unset [(.ref x31), (.ref b365)])) rfl (by rw [hml]; rfl) (Steps.refl _) (argsL := [(.ref x31)]) (rest := []) (lenOf pd_35 rfl) rfl (oWt rfl) (D at_59) (fun _ _ => ⟨rfl, rfl, oLe rfl, oLe rfl⟩)
    dsimp only [Pt.U, Pt.locs, Pt.cells, Pt.slots] at X515 l515 y515 z515 st515 hQ515 hS515 hg515 hC515
    subst l515 y515 z515
    obtain ⟨rfl, Nq515, Kq515, Eq515, Vq515, Cq515, Mq515, Aq515⟩ := hQ515
    have N516 := Fr.app Nh425 Nq515
    have R518 := R420.trans hC515
    have sf519 := CHr.safe hC515 f511.lt sf421
    have sf520 := CHr.safe hC515 Eq417.lt sf422
    have sf521 := CHr.safe hC515 Aq417.lt sf423
    obtain ⟨XR522, hSR522, hZ522, hown522⟩ := rebS hSR424 (Nat.le_refl _) X515 hS515 hg515 hZ424 hown424
    obtain ⟨Lh523, Xh523, Nh523⟩ := oHd 19 69 XR522 N516 rfl rfl
    refine ownSt st515 ?_
    clear st515
    show oA p e below _ T515 (fr_law m p1 p2 p3 62 (vR x21) (vR x31) (vI 1) (vR b365) (vR b365) .unset .unset [(.ref b365)])
    refine oTo T515 (fr_law m p1 p2 p3 75 (vR x21) (vR x31) (vI 1) (vR b365) (vR b365) .unset .unset [(.ref b365)]) (fun t kt => ?_) ?_
    ·refine XS.astore Xh523.here hx rfl (D at_62) rfl rfl (l' := #[vI p1, vI p2, vI p3, vR x21, vR x31, vI 1, vR b365, vR b365, .unset, .unset]) rfl ?_
     refine XS.aload Xh523.here hx rfl (D at_64) rfl rfl ?_
     refine XS.aload Xh523.here hx rfl (D at_66) rfl rfl ?_
     refine Jvm.RoadKit.acmp (g := (fr_law m p1 p2 p3 68 (vR x21) (vR x31) (vI 1) (vR b365) (vR b365) .unset .unset [(.ref b365), (.ref b365)])) Xh523 hx rfl rfl rfl (pc0 := 68) (pc' := 73) (same := true) rfl (D at_68) rfl (decide_eq_true rfl) (by decide) (by decide) ?_
     refine XS.aload Xh523.here hx rfl (D at_73) rfl rfl ?_
     exact kt
    have f524 := (f511.keep Kq515)
    have f525 := (f512.keep Kq515 (ninS ne391 (ninS ne400 nin0)))
    have f526 := (f513.keep Kq515 (allS g392 (allS g401 all0)))
    have f527 := (Nat.le_trans f514 Kq515.1)
    obtain ⟨cq528, kq528, q528a, q528b, q528c⟩ := isOf hZ522 rfl f524
    obtain ⟨vv528, _, ⟨T528, L528, k528, n528⟩, -, X528, ⟨Lc528, hQ528, l528, y528, z528⟩, st528⟩ := Xh523.virtualBack hx (y := yM34) (z := yM34) hown522 (mvT hZ522 (Wd125 hw)) (mvT hZ522 (Wd126 hw)) (oNf hZ522 (Wd128 hw)) (mvT hZ522 (Wd128 hw)) (mvT hZ522 (Wd127 hw)) (by decide) (backOf (W := 0) (c_hts l Z a0 hw [] b365 sb382 t382 kv382 (16 : Int32) (oI [60, 47, 62, 60, 47, oL g0, 62, 0, 0, 0, 0, 0, 0, 0, 0, 0]) (7 : Int32) (oI [60, 47, 62, 60, 47, oL g0, 62]) G1 T515.heap n0 f527 f524 f525 Eq515 Vq515 Cq515 Mq515 Aq515 (oCr (by decide +kernel) rfl) O2 P5 f526) hZ522 (Wd129 hw) (Wd28 hw) (by decide) (by decide)) q528a q528c (g := (fr_law m p1 p2 p3 75 (vR x21) (vR x31) (vI 1) (vR b365) (vR b365) .unset .unset [(.ref b365)])) rfl (by rw [hml]; rfl) (Steps.refl _) (argsL := []) (rest := []) (lenOf pd_32 rfl) rfl (oWt rfl) (D at_75) (fun _ _ => ⟨rfl, rfl, oLe rfl, oLe rfl⟩)
    dsimp only [Pt.U, Pt.locs, Pt.cells, Pt.slots] at X528 l528 y528 z528 st528 hQ528
    subst l528 y528 z528
    obtain ⟨x528, t528, kn528, rfl, Nq528, Kq528, zx528, zq528, Eq528, Vq528, Cq528, Aq528⟩ := hQ528
    have f530 := ((f411.keep Kq417).keep Kq515)
    have ne529 : x21 ≠ x528 := Nat.ne_of_lt (Nat.lt_of_lt_of_le f530.lt zx528)
    have f532 := ((f414.keep Kq417 (ninS ne385 (ninS ne397 nin0))).keep Kq515 (ninS ne385 (ninS ne397 nin0)))
    have ne531 : t21 ≠ x528 := Nat.ne_of_lt (Nat.lt_of_lt_of_le f532.lt zx528)
    have f534 := (f507.keep Kq515)
    have ne533 : x31 ≠ x528 := Nat.ne_of_lt (Nat.lt_of_lt_of_le f534.lt zx528)
    have f536 := (f510.keep Kq515 (ninS ne389 (ninS ne399 nin0)))
    have ne535 : t31 ≠ x528 := Nat.ne_of_lt (Nat.lt_of_lt_of_le f536.lt zx528)
    have ne537 : b365 ≠ x528 := Nat.ne_of_lt (Nat.lt_of_lt_of_le f524.lt zx528)
    have ne538 : sb382 ≠ x528 := Nat.ne_of_lt (Nat.lt_of_lt_of_le Eq515.lt zx528)
    have ne539 : t382 ≠ x528 := Nat.ne_of_lt (Nat.lt_of_lt_of_le Aq515.lt zx528)
    have g540 : n0 ≤ x528 := Nat.le_trans f527 zx528
    have sf541 : Safe Z ownEL T515.vm T515.heap x528 := Safe.new zx528
    have f543 := (Nat.le_trans (Nat.le_trans (Nat.le_trans f395 Kq382.1) Kq417.1) Kq515.1)
    have z542 : h0.size ≤ x528 := Nat.le_trans f543 zx528
    have ne544 : x21 ≠ t528 := Nat.ne_of_lt (Nat.lt_of_lt_of_le f530.lt zq528)
    have ne545 : t21 ≠ t528 := Nat.ne_of_lt (Nat.lt_of_lt_of_le f532.lt zq528)
    have ne546 : x31 ≠ t528 := Nat.ne_of_lt (Nat.lt_of_lt_of_le f534.lt zq528)
    have ne547 : t31 ≠ t528 := Nat.ne_of_lt (Nat.lt_of_lt_of_le f536.lt zq528)
    have ne548 : b365 ≠ t528 := Nat.ne_of_lt (Nat.lt_of_lt_of_le f524.lt zq528)
    have ne549 : sb382 ≠ t528 := Nat.ne_of_lt (Nat.lt_of_lt_of_le Eq515.lt zq528)
    have ne550 : t382 ≠ t528 := Nat.ne_of_lt (Nat.lt_of_lt_of_le Aq515.lt zq528)
    have g551 : n0 ≤ t528 := Nat.le_trans f527 zq528
    have sf552 : Safe Z ownEL T515.vm T515.heap t528 := Safe.new zq528
    have z553 : h0.size ≤ t528 := Nat.le_trans f543 zq528
    have N554 := Fr.app Nh523 Nq528
    have R555 := R518.trans (CHr.keep Kq528 sf0 R518.1)
    have sf556 := Safe.keep Kq528 sf0 R518.1 sf519
    have sf557 := Safe.keep Kq528 sf0 R518.1 sf520
    have sf558 := Safe.keep Kq528 sf0 R518.1 sf521
    have sf559 := Safe.keep Kq528 sf0 R518.1 sf541
    have sf560 := Safe.keep Kq528 sf0 R518.1 sf552
    obtain ⟨Lh561, Xh561, Nh561⟩ := oHd 21 89 X528 N554 rfl rfl
    refine ownSt st528 ?_
    clear st528
    show oA p e below _ T528 (fr_law m p1 p2 p3 78 (vR x21) (vR x31) (vI 1) (vR b365) (vR b365) .unset .unset [(.ref x528)])
    refine oTo T528 (fr_law m p1 p2 p3 92 (vR x21) (vR x31) (vI 1) (vR b365) (vR b365) (vR x528) (vI 0) [(.ref x21), (iV 0), (.ref x528)]) (fun t kt => ?_) ?_
    ·refine XS.astore Xh561.here hx rfl (D at_78) rfl rfl (l' := #[vI p1, vI p2, vI p3, vR x21, vR x31, vI 1, vR b365, vR b365, vR x528, .unset]) rfl ?_
     refine XS.iconst Xh561.here hx rfl (D at_80) ?_
     refine XS.istore Xh561.here hx rfl (D at_81) rfl (l' := #[vI p1, vI p2, vI p3, vR x21, vR x31, vI 1, vR b365, vR b365, vR x528, vI 0]) rfl ?_
     refine XS.iload Xh561.here hx rfl (D at_83) rfl ?_
     refine XS.ifNo Xh561.here hx rfl (D at_85) rfl ((if0 _ _).trans (feq ((by decide) : ¬ ((1 : Int32) = (0 : Int32)))).1) ?_
     refine XS.aload Xh561.here hx rfl (D at_88) rfl rfl ?_
     refine XS.iconst Xh561.here hx rfl (D at_90) ?_
     refine XS.aloadN Xh561.here hx rfl (D at_91) rfl rfl ?_
     exact kt
    have f562 := (f530.keep Kq528)
    have f563 := (((f412.keep Kq417 (ninS ne383 (ninS ne396 nin0))).keep Kq515 (ninS ne383 (ninS ne396 nin0))).keep Kq528 nin0)
    have f564 := (((f413.keep Kq417 (ninS ne383 (ninS ne396 nin0))).keep Kq515 (ninS ne383 (ninS ne396 nin0))).keep Kq528 nin0)
    have f565 := (f532.keep Kq528 nin0)
    have f566 := (f526.keep Kq528 all0)
    have f567 := (Nat.le_trans f527 Kq528.1)
    obtain ⟨vv568, _, ⟨T568, L568, k568, n568⟩, -, X568, ⟨Lc568, hQ568, l568, y568, z568⟩, st568⟩ := Jvm.LawKit.callS Xh561 hx (y := yM35) hown522 (mvT hZ522 (Wd171 hw)) (mvT hZ522 (Wd172 hw)) (mvT hZ522 (Wd2 hw)) (mvT hZ522 (Wd173 hw)) (by decide) (backOf (W := 0) (c_clg0 l Z a0 hw [] x528 t528 kn528 (7 : Int32) (oI [60, 47, 62, 60, 47, oL g0, 62]) (0 : Int32) x21 t21 kb21 G1 G3 T528.heap n0 f567 Eq528 Vq528 Cq528 Aq528 f562 f563 f564 f565 (by decide +kernel) (by decide +kernel) (oCl (by decide +kernel) rfl (by decide +kernel)) (oCl (by decide +kernel) rfl (by decide +kernel)) (oCl (by decide +kernel) rfl (by decide +kernel)) O2 P5 O4 rG3 f566) hZ522 (Wd173 hw) (Wd2 hw) (by decide) (by decide)) (g := (fr_law m p1 p2 p3 92 (vR x21) (vR x31) (vI 1) (vR b365) (vR b365) (vR x528) (vI 0) [(.ref x21), (iV 0), (.ref x528)])) rfl (by rw [hml]; rfl) (argsL := [(.ref x528), (iV 0), (.ref x21)]) (rest := []) (lenOf pd_36 rfl) rfl (oWt rfl) (D at_92) (fun _ _ => ⟨rfl, rfl, oLe rfl, oLe rfl⟩)
    dsimp only [Pt.U, Pt.locs, Pt.cells, Pt.slots] at X568 l568 y568 z568 st568 hQ568
    subst l568 y568 z568
    obtain ⟨rfl, Nq568, Eq568⟩ := hQ568
    have N569 := Fr.app Nh561 Nq568
    obtain ⟨Lh570, Xh570, Nh570⟩ := oHd 21 89 X568 N569 rfl rfl
    refine ownBy st568 ?_
    clear st568
    show oA p e below _ T568 (fr_law m p1 p2 p3 95 (vR x21) (vR x31) (vI 1) (vR b365) (vR b365) (vR x528) (vI 0) [(iV 1)])
    refine oTo T568 (fr_law m p1 p2 p3 101 (vR x21) (vR x31) (vI 1) (vR b365) (vR b365) (vR x528) (vI 0) [(.ref x21)]) (fun t kt => ?_) ?_
    ·refine XS.ifYes Xh570.here hx rfl (pc0 := 95) (pc' := 100) rfl (D at_95) rfl ((if0 _ _).trans (feq ((by decide) : ¬ ((1 : Int32) = (0 : Int32)))).2) (by decide) (by decide) ?_
     refine XS.aloadN Xh570.here hx rfl (D at_100) rfl rfl ?_
     exact kt
    obtain ⟨cq571, kq571, q571a, q571b, q571c⟩ := isOf hZ522 Eq568 f562
    obtain ⟨vv571, _, ⟨T571, L571, k571, n571⟩, -, X571, ⟨Lc571, hQ571, l571, y571, z571⟩, st571⟩ := Xh570.virtualBack hx (y := yM4) (z := yM4) hown522 (mvT hZ522 (Wd174 hw)) (mvT hZ522 (Wd70 hw)) (oNf hZ522 (Wd72 hw)) (mvT hZ522 (Wd72 hw)) (mvT hZ522 (Wd71 hw)) (by decide) (backOf (W := 0) (c_leng l Z a0 hw [] x21 t21 kb21 (0 : Int32) [] G1 T528.heap n0 f567 f562 f563 f564 f565 (by decide +kernel) O2 P5 f566) hZ522 (Wd73 hw) (Wd6 hw) (by decide) (by decide)) q571a q571c (g := (fr_law m p1 p2 p3 101 (vR x21) (vR x31) (vI 1) (vR b365) (vR b365) (vR x528) (vI 0) [(.ref x21)])) rfl (by rw [hml]; rfl) (Steps.refl _) (argsL := []) (rest := []) (lenOf pd_15 rfl) rfl (oWt rfl) (D at_101) (fun _ _ => ⟨rfl, Eq568, oLe rfl, oLe rfl⟩)
    dsimp only [Pt.U, Pt.locs, Pt.cells, Pt.slots] at X571 l571 y571 z571 st571 hQ571
    subst l571 y571 z571
    obtain ⟨rfl, Nq571, Eq571⟩ := hQ571
    have N572 := Fr.app Nh570 Nq571
    obtain ⟨Lh573, Xh573, Nh573⟩ := oHd 21 89 X571 N572 rfl rfl
    refine ownSt st571 ?_
    clear st571
    show oA p e below _ T571 (fr_law m p1 p2 p3 104 (vR x21) (vR x31) (vI 1) (vR b365) (vR b365) (vR x528) (vI 0) [(iV 0)])
    refine oTo T571 (fr_law m p1 p2 p3 114 (vR x21) (vR x31) (vI 1) (vR b365) (vR b365) (vR x528) (vI 3) [(.ref x31), (iV 3), (.ref x528)]) (fun t kt => ?_) ?_
    ·refine XS.iconst Xh573.here hx rfl (D at_104) ?_
     refine XS.iadd Xh573.here hx rfl (D at_105) rfl ?_
     refine XS.istore Xh573.here hx rfl (D at_106) rfl (l' := #[vI p1, vI p2, vI p3, vR x21, vR x31, vI 1, vR b365, vR b365, vR x528, vI 3]) rfl ?_
     refine XS.aload Xh573.here hx rfl (D at_108) rfl rfl ?_
     refine XS.iload Xh573.here hx rfl (D at_110) rfl ?_
     refine XS.aload Xh573.here hx rfl (D at_112) rfl rfl ?_
     exact kt
    have f574 := (f534.keep Kq528)
    have f575 := ((f508.keep Kq515 (ninS ne387 (ninS ne398 nin0))).keep Kq528 nin0)
    have f576 := ((f509.keep Kq515 (ninS ne387 (ninS ne398 nin0))).keep Kq528 nin0)
    have f577 := (f536.keep Kq528 nin0)
    obtain ⟨vv578, _, ⟨T578, L578, k578, n578⟩, -, X578, ⟨Lc578, hQ578, l578, y578, z578⟩, st578⟩ := Jvm.LawKit.callS Xh573 hx (y := yM35) hown522 (mvT hZ522 (Wd171 hw)) (mvT hZ522 (Wd172 hw)) (mvT hZ522 (Wd2 hw)) (mvT hZ522 (Wd173 hw)) (by decide) (backOf (W := 0) (c_clg1 l Z a0 hw [] x528 t528 kn528 (7 : Int32) (oI [60, 47, 62, 60, 47, oL g0, 62]) (3 : Int32) x31 t31 kb31 g0 G1 G3 T528.heap n0 f567 Eq528 Vq528 Cq528 Aq528 f574 f575 f576 f577 hr_g0 (by decide +kernel) (by decide +kernel) (oCl (by decide +kernel) rfl (by decide +kernel)) (oCl (by decide +kernel) rfl (by decide +kernel)) (oCl (by decide +kernel) rfl hr_g0) (oCl (by decide +kernel) rfl (by decide +kernel)) O2 P5 O4 rG3 f566) hZ522 (Wd173 hw) (Wd2 hw) (by decide) (by decide)) (g := (fr_law m p1 p2 p3 114 (vR x21) (vR x31) (vI 1) (vR b365) (vR b365) (vR x528) (vI 3) [(.ref x31), (iV 3), (.ref x528)])) rfl (by rw [hml]; rfl) (argsL := [(.ref x528), (iV 3), (.ref x31)]) (rest := []) (lenOf pd_36 rfl) rfl (oWt rfl) (D at_114) (fun _ _ => ⟨rfl, Eq571, oLe rfl, oLe rfl⟩)
    dsimp only [Pt.U, Pt.locs, Pt.cells, Pt.slots] at X578 l578 y578 z578 st578 hQ578
    subst l578 y578 z578
    obtain ⟨rfl, Nq578, Eq578⟩ := hQ578
    have N579 := Fr.app Nh573 Nq578
    obtain ⟨Lh580, Xh580, Nh580⟩ := oHd 21 89 X578 N579 rfl rfl
    refine ownBy st578 ?_
    clear st578
    show oA p e below _ T578 (fr_law m p1 p2 p3 117 (vR x21) (vR x31) (vI 1) (vR b365) (vR b365) (vR x528) (vI 3) [(iV 1)])
    refine oTo T578 (fr_law m p1 p2 p3 124 (vR x21) (vR x31) (vI 1) (vR b365) (vR b365) (vR x528) (vI 3) [(.ref x528)]) (fun t kt => ?_) ?_
    ·refine XS.ifYes Xh580.here hx rfl (pc0 := 117) (pc' := 122) rfl (D at_117) rfl ((if0 _ _).trans (feq ((by decide) : ¬ ((1 : Int32) = (0 : Int32)))).2) (by decide) (by decide) ?_
     refine XS.aload Xh580.here hx rfl (D at_122) rfl rfl ?_
     exact kt
    obtain ⟨cq581, kq581, q581a, q581b, q581c⟩ := isOf hZ522 Eq578 Eq528
    obtain ⟨vv581, _, ⟨T581, L581, k581, n581⟩, -, X581, ⟨Lc581, hQ581, l581, y581, z581⟩, st581⟩ := Xh580.virtualBack hx (y := yM4) (z := yM4) hown522 (mvT hZ522 (Wd174 hw)) (mvT hZ522 (Wd70 hw)) (oNf hZ522 (Wd72 hw)) (mvT hZ522 (Wd72 hw)) (mvT hZ522 (Wd71 hw)) (by decide) (backOf (W := 0) (c_leng l Z a0 hw [] x528 t528 kn528 (7 : Int32) (oI [60, 47, 62, 60, 47, oL g0, 62]) G1 T528.heap n0 f567 Eq528 Vq528 Cq528 Aq528 (by decide +kernel) O2 P5 f566) hZ522 (Wd73 hw) (Wd6 hw) (by decide) (by decide)) q581a q581c (g := (fr_law m p1 p2 p3 124 (vR x21) (vR x31) (vI 1) (vR b365) (vR b365) (vR x528) (vI 3) [(.ref x528)])) rfl (by rw [hml]; rfl) (Steps.refl _) (argsL := []) (rest := []) (lenOf pd_15 rfl) rfl (oWt rfl) (D at_124) (fun _ _ => ⟨rfl, Eq578, oLe rfl, oLe rfl⟩)
    dsimp only [Pt.U, Pt.locs, Pt.cells, Pt.slots] at X581 l581 y581 z581 st581 hQ581
    subst l581 y581 z581
    obtain ⟨rfl, Nq581, Eq581⟩ := hQ581
    have N582 := Fr.app Nh580 Nq581
    obtain ⟨Lh583, Xh583, Nh583⟩ := oHd 21 89 X581 N582 rfl rfl
    refine ownSt st581 ?_
    clear st581
    show oA p e below _ T581 (fr_law m p1 p2 p3 127 (vR x21) (vR x31) (vI 1) (vR b365) (vR b365) (vR x528) (vI 3) [(iV 7)])
    refine oTo T581 (fr_law m p1 p2 p3 131 (vR x21) (vR x31) (vI 1) (vR b365) (vR b365) (vR x528) (vI 3) [(.ref x31), (iV 3), (iV 7)]) (fun t kt => ?_) ?_
    ·refine XS.iload Xh583.here hx rfl (D at_127) rfl ?_
     refine XS.aload Xh583.here hx rfl (D at_129) rfl rfl ?_
     exact kt
    obtain ⟨cq584, kq584, q584a, q584b, q584c⟩ := isOf hZ522 Eq581 f574
    obtain ⟨vv584, _, ⟨T584, L584, k584, n584⟩, -, X584, ⟨Lc584, hQ584, l584, y584, z584⟩, st584⟩ := Xh583.virtualBack hx (y := yM4) (z := yM4) hown522 (mvT hZ522 (Wd174 hw)) (mvT hZ522 (Wd70 hw)) (oNf hZ522 (Wd72 hw)) (mvT hZ522 (Wd72 hw)) (mvT hZ522 (Wd71 hw)) (by decide) (backOf (W := 2) (c_leng l Z a0 hw [] x31 t31 kb31 (1 : Int32) (oI [oL g0]) G1 T528.heap n0 f567 f574 f575 f576 f577 (by decide +kernel) O2 P5 f566) hZ522 (Wd73 hw) (Wd6 hw) (by decide) (by decide)) q584a q584c (g := (fr_law m p1 p2 p3 131 (vR x21) (vR x31) (vI 1) (vR b365) (vR b365) (vR x528) (vI 3) [(.ref x31), (iV 3), (iV 7)])) rfl (by rw [hml]; rfl) (Steps.refl _) (argsL := []) (rest := [(iV 3), (iV 7)]) (lenOf pd_15 rfl) rfl (oWt rfl) (D at_131) (fun _ _ => ⟨rfl, Eq581, oLe rfl, oLe rfl⟩)
    dsimp only [Pt.U, Pt.locs, Pt.cells, Pt.slots] at X584 l584 y584 z584 st584 hQ584
    subst l584 y584 z584
    obtain ⟨rfl, Nq584, Eq584⟩ := hQ584
    have N585 := Fr.app Nh583 Nq584
    obtain ⟨Lh586, Xh586, Nh586⟩ := oHd 21 89 X584 N585 rfl rfl
    refine ownSt st584 ?_
    clear st584
    show oA p e below _ T584 (fr_law m p1 p2 p3 134 (vR x21) (vR x31) (vI 1) (vR b365) (vR b365) (vR x528) (vI 3) [(iV 1), (iV 3), (iV 7)])
    refine oTo T584 (fr_law m p1 p2 p3 145 (vR x21) (vR x31) (vI 1) (vR b365) (vR b365) (vR x528) (vI 3) [(iV 1)]) (fun t kt => ?_) ?_
    ·refine XS.iadd Xh586.here hx rfl (D at_134) rfl ?_
     refine XS.iconst Xh586.here hx rfl (D at_135) ?_
     refine XS.iadd Xh586.here hx rfl (D at_136) rfl ?_
     refine XS.icmpNo Xh586.here hx rfl (D at_137) rfl (teq ((by decide) : (7 : Int32) = (7 : Int32))).2 ?_
     refine XS.iconst Xh586.here hx rfl (D at_140) ?_
     refine XS.goto Xh586.here hx rfl (pc0 := 141) (pc' := 145) rfl (D at_141) (by decide) (by decide) ?_
     exact kt
    refine ownRetH Xh586 hSR522 (by rw [Eq584]; exact (Nat.le_trans (Nat.le_refl _) Kq528.1)) Bd.notSynchronized (v := some (.int (nar .boolean (1 : Int32)))) (fun h => by rw [Bd.returns] at h; cases h) ?_ (R555.trans ((by rw [Eq584]; exact CHv.at Xh586 hZ522 hEL R555.1))) (oLe rfl) (oLe rfl) (fun fs hr => retN Xh586 hx (t := .boolean) Bd.returns (by simp) (D at_145) hr)
    show (Q_law Z p1 p2 p3 G1 G3 h0 n0) (some (.int (nar .boolean (1 : Int32)))) T584.heap _
    rw [Eq584]
    exact ⟨rfl, Nh586⟩
   ·skip
    refine oTo T417 (fr_law m p1 p2 p3 59 (vR x21) (vR x31) (vI 1) (vR b365) (vR b365) .unset .unset [(.ref x31), (.ref b365)]) (fun t kt => ?_) ?_
    ·refine XS.aload Xh425.here hx rfl (D at_55) rfl rfl ?_
     refine XS.aload Xh425.here hx rfl (D at_57) rfl rfl ?_
     exact kt
    have f588 := ((f388.keep Kq382).keep Kq417)
    have f589 := (((Vq31.ext E365).keep Kq382 (ninS ne370 nin0)).keep Kq417 (ninS ne387 (ninS ne398 nin0)))
    have f590 := (((Cq31.ext E365).keep Kq382 (ninS ne370 nin0)).keep Kq417 (ninS ne387 (ninS ne398 nin0)))
    have f591 := ((f390.keep Kq382 (ninS ne371 nin0)).keep Kq417 (ninS ne389 (ninS ne399 nin0)))
    have f592 := (Eh382.keep Kq417)
    have f593 := (Fh382.keep Kq417 (ninS ne391 (ninS ne400 nin0)))
    have f594 := (f415.keep Kq417 (allS g392 (allS g401 all0)))
    have f595 := (Nat.le_trans f416 Kq417.1)
    obtain ⟨cq596, kq596, q596a, q596b, q596c⟩ := isOf hZ424 rfl f592
    obtain ⟨vv596, _, ⟨T596, L596, k596, n596⟩, -, X596, hS596, hg596, ⟨Lc596, hQ596, l596, y596, z596, hC596⟩, st596⟩ := Xh425.virtualBackS hx (y := yM33) (z := yM33) hown424 (mvT hZ424 (Wd53 hw)) (mvT hZ424 (Wd54 hw)) (oNf hZ424 (Wd56 hw)) (mvT hZ424 (Wd56 hw)) (mvT hZ424 (Wd55 hw)) (by decide) (backOfSH (W := 0) (s := s) (EL := ownEL) (c_hcl l Z a0 hw [] b365 x31 t31 kb31 (2 : Int32) (oI [oL g0, oL g1]) sb382 t382 kv382 (16 : Int32) (oI [60, 47, 62, 0, 0, 0, 0, 0, 0, 0, 0, 0, 0, 0, 0, 0]) (3 : Int32) (oI [60, 47, 62, 60, 47, 0, 0, 0, 0, 0, 0, 0, 0, 0, 0, 0]) (oI [60, 47, 62, 60, 47, oL g0, oL g1, 0, 0, 0, 0, 0, 0, 0, 0, 0]) (oI [60, 47, 62, 60, 47, oL g0, oL g1, 62, 0, 0, 0, 0, 0, 0, 0, 0]) (5 : Int32) (7 : Int32) (8 : Int32) G1 T417.heap n0 f595 f592 f593 f588 f589 f590 f591 Eq417 Vq417 Cq417 Mq417 Aq417 g392 g401 ne399 (by decide +kernel) (oCp (by decide +kernel) rfl rfl rfl) (oCp (by decide +kernel) rfl rfl rfl) (oCq (by decide +kernel) rfl rfl) O2 P5 f594) hZ424 (Wd57 hw) (Wd28 hw) (by decide) (by decide) hEL R420.1) q596a q596c (g := (fr_law m p1 p2 p3 59 (vR x21) (vR x31) (vI 1) (vR b365) (vR b365) .unset .unset [(.ref x31), (.ref b365)])) rfl (by rw [hml]; rfl) (Steps.refl _) (argsL := [(.ref x31)]) (rest := []) (lenOf pd_35 rfl) rfl (oWt rfl) (D at_59) (fun _ _ => ⟨rfl, rfl, oLe rfl, oLe rfl⟩)
    dsimp only [Pt.U, Pt.locs, Pt.cells, Pt.slots] at X596 l596 y596 z596 st596 hQ596 hS596 hg596 hC596
    subst l596 y596 z596
    obtain ⟨rfl, Nq596, Kq596, Eq596, Vq596, Cq596, Mq596, Aq596⟩ := hQ596
    have N597 := Fr.app Nh425 Nq596
    have R599 := R420.trans hC596
    have sf600 := CHr.safe hC596 f592.lt sf421
    have sf601 := CHr.safe hC596 Eq417.lt sf422
    have sf602 := CHr.safe hC596 Aq417.lt sf423
    obtain ⟨XR603, hSR603, hZ603, hown603⟩ := rebS hSR424 (Nat.le_refl _) X596 hS596 hg596 hZ424 hown424
    obtain ⟨Lh604, Xh604, Nh604⟩ := oHd 19 69 XR603 N597 rfl rfl
    refine ownSt st596 ?_
    clear st596
    show oA p e below _ T596 (fr_law m p1 p2 p3 62 (vR x21) (vR x31) (vI 1) (vR b365) (vR b365) .unset .unset [(.ref b365)])
    refine oTo T596 (fr_law m p1 p2 p3 75 (vR x21) (vR x31) (vI 1) (vR b365) (vR b365) .unset .unset [(.ref b365)]) (fun t kt => ?_) ?_
    ·refine XS.astore Xh604.here hx rfl (D at_62) rfl rfl (l' := #[vI p1, vI p2, vI p3, vR x21, vR x31, vI 1, vR b365, vR b365, .unset, .unset]) rfl ?_
     refine XS.aload Xh604.here hx rfl (D at_64) rfl rfl ?_
     refine XS.aload Xh604.here hx rfl (D at_66) rfl rfl ?_
     refine Jvm.RoadKit.acmp (g := (fr_law m p1 p2 p3 68 (vR x21) (vR x31) (vI 1) (vR b365) (vR b365) .unset .unset [(.ref b365), (.ref b365)])) Xh604 hx rfl rfl rfl (pc0 := 68) (pc' := 73) (same := true) rfl (D at_68) rfl (decide_eq_true rfl) (by decide) (by decide) ?_
     refine XS.aload Xh604.here hx rfl (D at_73) rfl rfl ?_
     exact kt
    have f605 := (f592.keep Kq596)
    have f606 := (f593.keep Kq596 (ninS ne391 (ninS ne400 nin0)))
    have f607 := (f594.keep Kq596 (allS g392 (allS g401 all0)))
    have f608 := (Nat.le_trans f595 Kq596.1)
    obtain ⟨cq609, kq609, q609a, q609b, q609c⟩ := isOf hZ603 rfl f605
    obtain ⟨vv609, _, ⟨T609, L609, k609, n609⟩, -, X609, ⟨Lc609, hQ609, l609, y609, z609⟩, st609⟩ := Xh604.virtualBack hx (y := yM34) (z := yM34) hown603 (mvT hZ603 (Wd125 hw)) (mvT hZ603 (Wd126 hw)) (oNf hZ603 (Wd128 hw)) (mvT hZ603 (Wd128 hw)) (mvT hZ603 (Wd127 hw)) (by decide) (backOf (W := 0) (c_hts l Z a0 hw [] b365 sb382 t382 kv382 (16 : Int32) (oI [60, 47, 62, 60, 47, oL g0, oL g1, 62, 0, 0, 0, 0, 0, 0, 0, 0]) (8 : Int32) (oI [60, 47, 62, 60, 47, oL g0, oL g1, 62]) G1 T596.heap n0 f608 f605 f606 Eq596 Vq596 Cq596 Mq596 Aq596 (oCr (by decide +kernel) rfl) O2 P5 f607) hZ603 (Wd129 hw) (Wd28 hw) (by decide) (by decide)) q609a q609c (g := (fr_law m p1 p2 p3 75 (vR x21) (vR x31) (vI 1) (vR b365) (vR b365) .unset .unset [(.ref b365)])) rfl (by rw [hml]; rfl) (Steps.refl _) (argsL := []) (rest := []) (lenOf pd_32 rfl) rfl (oWt rfl) (D at_75) (fun _ _ => ⟨rfl, rfl, oLe rfl, oLe rfl⟩)
    dsimp only [Pt.U, Pt.locs, Pt.cells, Pt.slots] at X609 l609 y609 z609 st609 hQ609
    subst l609 y609 z609
    obtain ⟨x609, t609, kn609, rfl, Nq609, Kq609, zx609, zq609, Eq609, Vq609, Cq609, Aq609⟩ := hQ609
    have f611 := ((f411.keep Kq417).keep Kq596)
    have ne610 : x21 ≠ x609 := Nat.ne_of_lt (Nat.lt_of_lt_of_le f611.lt zx609)
    have f613 := ((f414.keep Kq417 (ninS ne385 (ninS ne397 nin0))).keep Kq596 (ninS ne385 (ninS ne397 nin0)))
    have ne612 : t21 ≠ x609 := Nat.ne_of_lt (Nat.lt_of_lt_of_le f613.lt zx609)
    have f615 := (f588.keep Kq596)
    have ne614 : x31 ≠ x609 := Nat.ne_of_lt (Nat.lt_of_lt_of_le f615.lt zx609)
    have f617 := (f591.keep Kq596 (ninS ne389 (ninS ne399 nin0)))
    have ne616 : t31 ≠ x609 := Nat.ne_of_lt (Nat.lt_of_lt_of_le f617.lt zx609)
    have ne618 : b365 ≠ x609 := Nat.ne_of_lt (Nat.lt_of_lt_of_le f605.lt zx609)
    have ne619 : sb382 ≠ x609 := Nat.ne_of_lt (Nat.lt_of_lt_of_le Eq596.lt zx609)
    have ne620 : t382 ≠ x609 := Nat.ne_of_lt (Nat.lt_of_lt_of_le Aq596.lt zx609)
    have g621 : n0 ≤ x609 := Nat.le_trans f608 zx609
    have sf622 : Safe Z ownEL T596.vm T596.heap x609 := Safe.new zx609
    have f624 := (Nat.le_trans (Nat.le_trans (Nat.le_trans f395 Kq382.1) Kq417.1) Kq596.1)
    have z623 : h0.size ≤ x609 := Nat.le_trans f624 zx609
    have ne625 : x21 ≠ t609 := Nat.ne_of_lt (Nat.lt_of_lt_of_le f611.lt zq609)
    have ne626 : t21 ≠ t609 := Nat.ne_of_lt (Nat.lt_of_lt_of_le f613.lt zq609)
    have ne627 : x31 ≠ t609 := Nat.ne_of_lt (Nat.lt_of_lt_of_le f615.lt zq609)
    have ne628 : t31 ≠ t609 := Nat.ne_of_lt (Nat.lt_of_lt_of_le f617.lt zq609)
    have ne629 : b365 ≠ t609 := Nat.ne_of_lt (Nat.lt_of_lt_of_le f605.lt zq609)
    have ne630 : sb382 ≠ t609 := Nat.ne_of_lt (Nat.lt_of_lt_of_le Eq596.lt zq609)
    have ne631 : t382 ≠ t609 := Nat.ne_of_lt (Nat.lt_of_lt_of_le Aq596.lt zq609)
    have g632 : n0 ≤ t609 := Nat.le_trans f608 zq609
    have sf633 : Safe Z ownEL T596.vm T596.heap t609 := Safe.new zq609
    have z634 : h0.size ≤ t609 := Nat.le_trans f624 zq609
    have N635 := Fr.app Nh604 Nq609
    have R636 := R599.trans (CHr.keep Kq609 sf0 R599.1)
    have sf637 := Safe.keep Kq609 sf0 R599.1 sf600
    have sf638 := Safe.keep Kq609 sf0 R599.1 sf601
    have sf639 := Safe.keep Kq609 sf0 R599.1 sf602
    have sf640 := Safe.keep Kq609 sf0 R599.1 sf622
    have sf641 := Safe.keep Kq609 sf0 R599.1 sf633
    obtain ⟨Lh642, Xh642, Nh642⟩ := oHd 21 89 X609 N635 rfl rfl
    refine ownSt st609 ?_
    clear st609
    show oA p e below _ T609 (fr_law m p1 p2 p3 78 (vR x21) (vR x31) (vI 1) (vR b365) (vR b365) .unset .unset [(.ref x609)])
    refine oTo T609 (fr_law m p1 p2 p3 92 (vR x21) (vR x31) (vI 1) (vR b365) (vR b365) (vR x609) (vI 0) [(.ref x21), (iV 0), (.ref x609)]) (fun t kt => ?_) ?_
    ·refine XS.astore Xh642.here hx rfl (D at_78) rfl rfl (l' := #[vI p1, vI p2, vI p3, vR x21, vR x31, vI 1, vR b365, vR b365, vR x609, .unset]) rfl ?_
     refine XS.iconst Xh642.here hx rfl (D at_80) ?_
     refine XS.istore Xh642.here hx rfl (D at_81) rfl (l' := #[vI p1, vI p2, vI p3, vR x21, vR x31, vI 1, vR b365, vR b365, vR x609, vI 0]) rfl ?_
     refine XS.iload Xh642.here hx rfl (D at_83) rfl ?_
     refine XS.ifNo Xh642.here hx rfl (D at_85) rfl ((if0 _ _).trans (feq ((by decide) : ¬ ((1 : Int32) = (0 : Int32)))).1) ?_
     refine XS.aload Xh642.here hx rfl (D at_88) rfl rfl ?_
     refine XS.iconst Xh642.here hx rfl (D at_90) ?_
     refine XS.aloadN Xh642.here hx rfl (D at_91) rfl rfl ?_
     exact kt
    have f643 := (f611.keep Kq609)
    have f644 := (((f412.keep Kq417 (ninS ne383 (ninS ne396 nin0))).keep Kq596 (ninS ne383 (ninS ne396 nin0))).keep Kq609 nin0)
    have f645 := (((f413.keep Kq417 (ninS ne383 (ninS ne396 nin0))).keep Kq596 (ninS ne383 (ninS ne396 nin0))).keep Kq609 nin0)
    have f646 := (f613.keep Kq609 nin0)
    have f647 := (f607.keep Kq609 all0)
    have f648 := (Nat.le_trans f608 Kq609.1)
    obtain ⟨vv649, _, ⟨T649, L649, k649, n649⟩, -, X649, ⟨Lc649, hQ649, l649, y649, z649⟩, st649⟩ := Jvm.LawKit.callS Xh642 hx (y := yM35) hown603 (mvT hZ603 (Wd171 hw)) (mvT hZ603 (Wd172 hw)) (mvT hZ603 (Wd2 hw)) (mvT hZ603 (Wd173 hw)) (by decide) (backOf (W := 0) (c_clg0 l Z a0 hw [] x609 t609 kn609 (8 : Int32) (oI [60, 47, 62, 60, 47, oL g0, oL g1, 62]) (0 : Int32) x21 t21 kb21 G1 G3 T609.heap n0 f648 Eq609 Vq609 Cq609 Aq609 f643 f644 f645 f646 (by decide +kernel) (by decide +kernel) (oCl (by decide +kernel) rfl (by decide +kernel)) (oCl (by decide +kernel) rfl (by decide +kernel)) (oCl (by decide +kernel) rfl (by decide +kernel)) O2 P5 O4 rG3 f647) hZ603 (Wd173 hw) (Wd2 hw) (by decide) (by decide)) (g := (fr_law m p1 p2 p3 92 (vR x21) (vR x31) (vI 1) (vR b365) (vR b365) (vR x609) (vI 0) [(.ref x21), (iV 0), (.ref x609)])) rfl (by rw [hml]; rfl) (argsL := [(.ref x609), (iV 0), (.ref x21)]) (rest := []) (lenOf pd_36 rfl) rfl (oWt rfl) (D at_92) (fun _ _ => ⟨rfl, rfl, oLe rfl, oLe rfl⟩)
    dsimp only [Pt.U, Pt.locs, Pt.cells, Pt.slots] at X649 l649 y649 z649 st649 hQ649
    subst l649 y649 z649
    obtain ⟨rfl, Nq649, Eq649⟩ := hQ649
    have N650 := Fr.app Nh642 Nq649
    obtain ⟨Lh651, Xh651, Nh651⟩ := oHd 21 89 X649 N650 rfl rfl
    refine ownBy st649 ?_
    clear st649
    show oA p e below _ T649 (fr_law m p1 p2 p3 95 (vR x21) (vR x31) (vI 1) (vR b365) (vR b365) (vR x609) (vI 0) [(iV 1)])
    refine oTo T649 (fr_law m p1 p2 p3 101 (vR x21) (vR x31) (vI 1) (vR b365) (vR b365) (vR x609) (vI 0) [(.ref x21)]) (fun t kt => ?_) ?_
    ·refine XS.ifYes Xh651.here hx rfl (pc0 := 95) (pc' := 100) rfl (D at_95) rfl ((if0 _ _).trans (feq ((by decide) : ¬ ((1 : Int32) = (0 : Int32)))).2) (by decide) (by decide) ?_
     refine XS.aloadN Xh651.here hx rfl (D at_100) rfl rfl ?_
     exact kt
    obtain ⟨cq652, kq652, q652a, q652b, q652c⟩ := isOf hZ603 Eq649 f643
    obtain ⟨vv652, _, ⟨T652, L652, k652, n652⟩, -, X652, ⟨Lc652, hQ652, l652, y652, z652⟩, st652⟩ := Xh651.virtualBack hx (y := yM4) (z := yM4) hown603 (mvT hZ603 (Wd174 hw)) (mvT hZ603 (Wd70 hw)) (oNf hZ603 (Wd72 hw)) (mvT hZ603 (Wd72 hw)) (mvT hZ603 (Wd71 hw)) (by decide) (backOf (W := 0) (c_leng l Z a0 hw [] x21 t21 kb21 (0 : Int32) [] G1 T609.heap n0 f648 f643 f644 f645 f646 (by decide +kernel) O2 P5 f647) hZ603 (Wd73 hw) (Wd6 hw) (by decide) (by decide)) q652a q652c (g := (fr_law m p1 p2 p3 101 (vR x21) (vR x31) (vI 1) (vR b365) (vR b365) (vR x609) (vI 0) [(.ref x21)])) rfl (by rw [hml]; rfl) (Steps.refl _) (argsL := []) (rest := []) (lenOf pd_15 rfl) rfl (oWt rfl) (D at_101) (fun _ _ => ⟨rfl, Eq649, oLe rfl, oLe rfl⟩)
    dsimp only [Pt.U, Pt.locs, Pt.cells, Pt.slots] at X652 l652 y652 z652 st652 hQ652
    subst l652 y652 z652
    obtain ⟨rfl, Nq652, Eq652⟩ := hQ652
    have N653 := Fr.app Nh651 Nq652
    obtain ⟨Lh654, Xh654, Nh654⟩ := oHd 21 89 X652 N653 rfl rfl
    refine ownSt st652 ?_
    clear st652
    show oA p e below _ T652 (fr_law m p1 p2 p3 104 (vR x21) (vR x31) (vI 1) (vR b365) (vR b365) (vR x609) (vI 0) [(iV 0)])
    refine oTo T652 (fr_law m p1 p2 p3 114 (vR x21) (vR x31) (vI 1) (vR b365) (vR b365) (vR x609) (vI 3) [(.ref x31), (iV 3), (.ref x609)]) (fun t kt => ?_) ?_
    ·refine XS.iconst Xh654.here hx rfl (D at_104) ?_
     refine XS.iadd Xh654.here hx rfl (D at_105) rfl ?_
     refine XS.istore Xh654.here hx rfl (D at_106) rfl (l' := #[vI p1, vI p2, vI p3, vR x21, vR x31, vI 1, vR b365, vR b365, vR x609, vI 3]) rfl ?_
     refine XS.aload Xh654.here hx rfl (D at_108) rfl rfl ?_
     refine XS.iload Xh654.here hx rfl (D at_110) rfl ?_
     refine XS.aload Xh654.here hx rfl (D at_112) rfl rfl ?_
     exact kt
    have f655 := (f615.keep Kq609)
    have f656 := ((f589.keep Kq596 (ninS ne387 (ninS ne398 nin0))).keep Kq609 nin0)
    have f657 := ((f590.keep Kq596 (ninS ne387 (ninS ne398 nin0))).keep Kq609 nin0)
    have f658 := (f617.keep Kq609 nin0)
    obtain ⟨vv659, _, ⟨T659, L659, k659, n659⟩, -, X659, ⟨Lc659, hQ659, l659, y659, z659⟩, st659⟩ := Jvm.LawKit.callS Xh654 hx (y := yM35) hown603 (mvT hZ603 (Wd171 hw)) (mvT hZ603 (Wd172 hw)) (mvT hZ603 (Wd2 hw)) (mvT hZ603 (Wd173 hw)) (by decide) (backOf (W := 0) (c_clg2 l Z a0 hw [] x609 t609 kn609 (8 : Int32) (oI [60, 47, 62, 60, 47, oL g0, oL g1, 62]) (3 : Int32) x31 t31 kb31 g0 g1 G1 G3 T609.heap n0 f648 Eq609 Vq609 Cq609 Aq609 f655 f656 f657 f658 hr_g0 hr_g1 (by decide +kernel) (by decide +kernel) (oCl (by decide +kernel) rfl (by decide +kernel)) (oCl (by decide +kernel) rfl (by decide +kernel)) (oCl (by decide +kernel) rfl hr_g0) (oCl (by decide +kernel) rfl hr_g1) (oCl (by decide +kernel) rfl (by decide +kernel)) O2 P5 O4 rG3 f647) hZ603 (Wd173 hw) (Wd2 hw) (by decide) (by decide)) (g := (fr_law m p1 p2 p3 114 (vR x21) (vR x31) (vI 1) (vR b365) (vR b365) (vR x609) (vI 3) [(.ref x31), (iV 3), (.ref x609)])) rfl (by rw [hml]; rfl) (argsL := [(.ref x609), (iV 3), (.ref x31)]) (rest := []) (lenOf pd_36 rfl) rfl (oWt rfl) (D at_114) (fun _ _ => ⟨rfl, Eq652, oLe rfl, oLe rfl⟩)
    dsimp only [Pt.U, Pt.locs, Pt.cells, Pt.slots] at X659 l659 y659 z659 st659 hQ659
    subst l659 y659 z659
    obtain ⟨rfl, Nq659, Eq659⟩ := hQ659
    have N660 := Fr.app Nh654 Nq659
    obtain ⟨Lh661, Xh661, Nh661⟩ := oHd 21 89 X659 N660 rfl rfl
    refine ownBy st659 ?_
    clear st659
    show oA p e below _ T659 (fr_law m p1 p2 p3 117 (vR x21) (vR x31) (vI 1) (vR b365) (vR b365) (vR x609) (vI 3) [(iV 1)])
    refine oTo T659 (fr_law m p1 p2 p3 124 (vR x21) (vR x31) (vI 1) (vR b365) (vR b365) (vR x609) (vI 3) [(.ref x609)]) (fun t kt => ?_) ?_
    ·refine XS.ifYes Xh661.here hx rfl (pc0 := 117) (pc' := 122) rfl (D at_117) rfl ((if0 _ _).trans (feq ((by decide) : ¬ ((1 : Int32) = (0 : Int32)))).2) (by decide) (by decide) ?_
     refine XS.aload Xh661.here hx rfl (D at_122) rfl rfl ?_
     exact kt
    obtain ⟨cq662, kq662, q662a, q662b, q662c⟩ := isOf hZ603 Eq659 Eq609
    obtain ⟨vv662, _, ⟨T662, L662, k662, n662⟩, -, X662, ⟨Lc662, hQ662, l662, y662, z662⟩, st662⟩ := Xh661.virtualBack hx (y := yM4) (z := yM4) hown603 (mvT hZ603 (Wd174 hw)) (mvT hZ603 (Wd70 hw)) (oNf hZ603 (Wd72 hw)) (mvT hZ603 (Wd72 hw)) (mvT hZ603 (Wd71 hw)) (by decide) (backOf (W := 0) (c_leng l Z a0 hw [] x609 t609 kn609 (8 : Int32) (oI [60, 47, 62, 60, 47, oL g0, oL g1, 62]) G1 T609.heap n0 f648 Eq609 Vq609 Cq609 Aq609 (by decide +kernel) O2 P5 f647) hZ603 (Wd73 hw) (Wd6 hw) (by decide) (by decide)) q662a q662c (g := (fr_law m p1 p2 p3 124 (vR x21) (vR x31) (vI 1) (vR b365) (vR b365) (vR x609) (vI 3) [(.ref x609)])) rfl (by rw [hml]; rfl) (Steps.refl _) (argsL := []) (rest := []) (lenOf pd_15 rfl) rfl (oWt rfl) (D at_124) (fun _ _ => ⟨rfl, Eq659, oLe rfl, oLe rfl⟩)
    dsimp only [Pt.U, Pt.locs, Pt.cells, Pt.slots] at X662 l662 y662 z662 st662 hQ662
    subst l662 y662 z662
    obtain ⟨rfl, Nq662, Eq662⟩ := hQ662
    have N663 := Fr.app Nh661 Nq662
    obtain ⟨Lh664, Xh664, Nh664⟩ := oHd 21 89 X662 N663 rfl rfl
    refine ownSt st662 ?_
    clear st662
    show oA p e below _ T662 (fr_law m p1 p2 p3 127 (vR x21) (vR x31) (vI 1) (vR b365) (vR b365) (vR x609) (vI 3) [(iV 8)])
    refine oTo T662 (fr_law m p1 p2 p3 131 (vR x21) (vR x31) (vI 1) (vR b365) (vR b365) (vR x609) (vI 3) [(.ref x31), (iV 3), (iV 8)]) (fun t kt => ?_) ?_
    ·refine XS.iload Xh664.here hx rfl (D at_127) rfl ?_
     refine XS.aload Xh664.here hx rfl (D at_129) rfl rfl ?_
     exact kt
    obtain ⟨cq665, kq665, q665a, q665b, q665c⟩ := isOf hZ603 Eq662 f655
    obtain ⟨vv665, _, ⟨T665, L665, k665, n665⟩, -, X665, ⟨Lc665, hQ665, l665, y665, z665⟩, st665⟩ := Xh664.virtualBack hx (y := yM4) (z := yM4) hown603 (mvT hZ603 (Wd174 hw)) (mvT hZ603 (Wd70 hw)) (oNf hZ603 (Wd72 hw)) (mvT hZ603 (Wd72 hw)) (mvT hZ603 (Wd71 hw)) (by decide) (backOf (W := 2) (c_leng l Z a0 hw [] x31 t31 kb31 (2 : Int32) (oI [oL g0, oL g1]) G1 T609.heap n0 f648 f655 f656 f657 f658 (by decide +kernel) O2 P5 f647) hZ603 (Wd73 hw) (Wd6 hw) (by decide) (by decide)) q665a q665c (g := (fr_law m p1 p2 p3 131 (vR x21) (vR x31) (vI 1) (vR b365) (vR b365) (vR x609) (vI 3) [(.ref x31), (iV 3), (iV 8)])) rfl (by rw [hml]; rfl) (Steps.refl _) (argsL := []) (rest := [(iV 3), (iV 8)]) (lenOf pd_15 rfl) rfl (oWt rfl) (D at_131) (fun _ _ => ⟨rfl, Eq662, oLe rfl, oLe rfl⟩)
    dsimp only [Pt.U, Pt.locs, Pt.cells, Pt.slots] at X665 l665 y665 z665 st665 hQ665
    subst l665 y665 z665
    obtain ⟨rfl, Nq665, Eq665⟩ := hQ665
    have N666 := Fr.app Nh664 Nq665
    obtain ⟨Lh667, Xh667, Nh667⟩ := oHd 21 89 X665 N666 rfl rfl
    refine ownSt st665 ?_
    clear st665
    show oA p e below _ T665 (fr_law m p1 p2 p3 134 (vR x21) (vR x31) (vI 1) (vR b365) (vR b365) (vR x609) (vI 3) [(iV 2), (iV 3), (iV 8)])
    refine oTo T665 (fr_law m p1 p2 p3 145 (vR x21) (vR x31) (vI 1) (vR b365) (vR b365) (vR x609) (vI 3) [(iV 1)]) (fun t kt => ?_) ?_
    ·refine XS.iadd Xh667.here hx rfl (D at_134) rfl ?_
     refine XS.iconst Xh667.here hx rfl (D at_135) ?_
     refine XS.iadd Xh667.here hx rfl (D at_136) rfl ?_
     refine XS.icmpNo Xh667.here hx rfl (D at_137) rfl (teq ((by decide) : (8 : Int32) = (8 : Int32))).2 ?_
     refine XS.iconst Xh667.here hx rfl (D at_140) ?_
     refine XS.goto Xh667.here hx rfl (pc0 := 141) (pc' := 145) rfl (D at_141) (by decide) (by decide) ?_
     exact kt
    refine ownRetH Xh667 hSR603 (by rw [Eq665]; exact (Nat.le_trans (Nat.le_refl _) Kq609.1)) Bd.notSynchronized (v := some (.int (nar .boolean (1 : Int32)))) (fun h => by rw [Bd.returns] at h; cases h) ?_ (R636.trans ((by rw [Eq665]; exact CHv.at Xh667 hZ603 hEL R636.1))) (oLe rfl) (oLe rfl) (fun fs hr => retN Xh667 hx (t := .boolean) Bd.returns (by simp) (D at_145) hr)
    show (Q_law Z p1 p2 p3 G1 G3 h0 n0) (some (.int (nar .boolean (1 : Int32)))) T665.heap _
    rw [Eq665]
    exact ⟨rfl, Nh667⟩
   ·skip
    refine oTo T417 (fr_law m p1 p2 p3 59 (vR x21) (vR x31) (vI 1) (vR b365) (vR b365) .unset .unset [(.ref x31), (.ref b365)]) (fun t kt => ?_) ?_
    ·refine XS.aload Xh425.here hx rfl (D at_55) rfl rfl ?_
     refine XS.aload Xh425.here hx rfl (D at_57) rfl rfl ?_
     exact kt
    have f669 := ((f388.keep Kq382).keep Kq417)
    have f670 := (((Vq31.ext E365).keep Kq382 (ninS ne370 nin0)).keep Kq417 (ninS ne387 (ninS ne398 nin0)))
    have f671 := (((Cq31.ext E365).keep Kq382 (ninS ne370 nin0)).keep Kq417 (ninS ne387 (ninS ne398 nin0)))
    have f672 := ((f390.keep Kq382 (ninS ne371 nin0)).keep Kq417 (ninS ne389 (ninS ne399 nin0)))
    have f673 := (Eh382.keep Kq417)
    have f674 := (Fh382.keep Kq417 (ninS ne391 (ninS ne400 nin0)))
    have f675 := (f415.keep Kq417 (allS g392 (allS g401 all0)))
    have f676 := (Nat.le_trans f416 Kq417.1)
    obtain ⟨cq677, kq677, q677a, q677b, q677c⟩ := isOf hZ424 rfl f673
    obtain ⟨vv677, _, ⟨T677, L677, k677, n677⟩, -, X677, hS677, hg677, ⟨Lc677, hQ677, l677, y677, z677, hC677⟩, st677⟩ := Xh425.virtualBackS hx (y := yM33) (z := yM33) hown424 (mvT hZ424 (Wd53 hw)) (mvT hZ424 (Wd54 hw)) (oNf hZ424 (Wd56 hw)) (mvT hZ424 (Wd56 hw)) (mvT hZ424 (Wd55 hw)) (by decide) (backOfSH (W := 0) (s := s) (EL := ownEL) (c_hcl l Z a0 hw [] b365 x31 t31 kb31 (3 : Int32) (oI [oL g0, oL g1, oL g2]) sb382 t382 kv382 (16 : Int32) (oI [60, 47, 62, 0, 0, 0, 0, 0, 0, 0, 0, 0, 0, 0, 0, 0]) (3 : Int32) (oI [60, 47, 62, 60, 47, 0, 0, 0, 0, 0, 0, 0, 0, 0, 0, 0]) (oI [60, 47, 62, 60, 47, oL g0, oL g1, oL g2, 0, 0, 0, 0, 0, 0, 0, 0]) (oI [60, 47, 62, 60, 47, oL g0, oL g1, oL g2, 62, 0, 0, 0, 0, 0, 0, 0]) (5 : Int32) (8 : Int32) (9 : Int32) G1 T417.heap n0 f676 f673 f674 f669 f670 f671 f672 Eq417 Vq417 Cq417 Mq417 Aq417 g392 g401 ne399 (by decide +kernel) (oCp (by decide +kernel) rfl rfl rfl) (oCp (by decide +kernel) rfl rfl rfl) (oCq (by decide +kernel) rfl rfl) O2 P5 f675) hZ424 (Wd57 hw) (Wd28 hw) (by decide) (by decide) hEL R420.1) q677a q677c (g := (fr_law m p1 p2 p3 59 (vR x21) (vR x31) (vI 1) (vR b365) (vR b365) .unset .unset [(.ref x31), (.ref b365)])) rfl (by rw [hml]; rfl) (Steps.refl _) (argsL := [(.ref x31)]) (rest := []) (lenOf pd_35 rfl) rfl (oWt rfl) (D at_59) (fun _ _ => ⟨rfl, rfl, oLe rfl, oLe rfl⟩)
    dsimp only [Pt.U, Pt.locs, Pt.cells, Pt.slots] at X677 l677 y677 z677 st677 hQ677 hS677 hg677 hC677
    subst l677 y677 z677
    obtain ⟨rfl, Nq677, Kq677, Eq677, Vq677, Cq677, Mq677, Aq677⟩ := hQ677
    have N678 := Fr.app Nh425 Nq677
    have R680 := R420.trans hC677
    have sf681 := CHr.safe hC677 f673.lt sf421
    have sf682 := CHr.safe hC677 Eq417.lt sf422
    have sf683 := CHr.safe hC677 Aq417.lt sf423
    obtain ⟨XR684, hSR684, hZ684, hown684⟩ := rebS hSR424 (Nat.le_refl _) X677 hS677 hg677 hZ424 hown424
    obtain ⟨Lh685, Xh685, Nh685⟩ := oHd 19 69 XR684 N678 rfl rfl
    refine ownSt st677 ?_
    clear st677
    show oA p e below _ T677 (fr_law m p1 p2 p3 62 (vR x21) (vR x31) (vI 1) (vR b365) (vR b365) .unset .unset [(.ref b365)])
    refine oTo T677 (fr_law m p1 p2 p3 75 (vR x21) (vR x31) (vI 1) (vR b365) (vR b365) .unset .unset [(.ref b365)]) (fun t kt => ?_) ?_
    ·refine XS.astore Xh685.here hx rfl (D at_62) rfl rfl (l' := #[vI p1, vI p2, vI p3, vR x21, vR x31, vI 1, vR b365, vR b365, .unset, .unset]) rfl ?_
     refine XS.aload Xh685.here hx rfl (D at_64) rfl rfl ?_
     refine XS.aload Xh685.here hx rfl (D at_66) rfl rfl ?_
     refine Jvm.RoadKit.acmp (g := (fr_law m p1 p2 p3 68 (vR x21) (vR x31) (vI 1) (vR b365) (vR b365) .unset .unset [(.ref b365), (.ref b365)])) Xh685 hx rfl rfl rfl (pc0 := 68) (pc' := 73) (same := true) rfl (D at_68) rfl (decide_eq_true rfl) (by decide) (by decide) ?_
     refine XS.aload Xh685.here hx rfl (D at_73) rfl rfl ?_
     exact kt
    have f686 := (f673.keep Kq677)
    have f687 := (f674.keep Kq677 (ninS ne391 (ninS ne400 nin0)))
    have f688 := (f675.keep Kq677 (allS g392 (allS g401 all0)))
    have f689 := (Nat.le_trans f676 Kq677.1)
    obtain ⟨cq690, kq690, q690a, q690b, q690c⟩ := isOf hZ684 rfl f686
    obtain ⟨vv690, _, ⟨T690, L690, k690, n690⟩, -, X690, ⟨Lc690, hQ690, l690, y690, z690⟩, st690⟩ := Xh685.virtualBack hx (y := yM34) (z := yM34) hown684 (mvT hZ684 (Wd125 hw)) (mvT hZ684 (Wd126 hw)) (oNf hZ684 (Wd128 hw)) (mvT hZ684 (Wd128 hw)) (mvT hZ684 (Wd127 hw)) (by decide) (backOf (W := 0) (c_hts l Z a0 hw [] b365 sb382 t382 kv382 (16 : Int32) (oI [60, 47, 62, 60, 47, oL g0, oL g1, oL g2, 62, 0, 0, 0, 0, 0, 0, 0]) (9 : Int32) (oI [60, 47, 62, 60, 47, oL g0, oL g1, oL g2, 62]) G1 T677.heap n0 f689 f686 f687 Eq677 Vq677 Cq677 Mq677 Aq677 (oCr (by decide +kernel) rfl) O2 P5 f688) hZ684 (Wd129 hw) (Wd28 hw) (by decide) (by decide)) q690a q690c (g := (fr_law m p1 p2 p3 75 (vR x21) (vR x31) (vI 1) (vR b365) (vR b365) .unset .unset [(.ref b365)])) rfl (by rw [hml]; rfl) (Steps.refl _) (argsL := []) (rest := []) (lenOf pd_32 rfl) rfl (oWt rfl) (D at_75) (fun _ _ => ⟨rfl, rfl, oLe rfl, oLe rfl⟩)
    dsimp only [Pt.U, Pt.locs, Pt.cells, Pt.slots] at X690 l690 y690 z690 st690 hQ690
    subst l690 y690 z690
    obtain ⟨x690, t690, kn690, rfl, Nq690, Kq690, zx690, zq690, Eq690, Vq690, Cq690, Aq690⟩ := hQ690
    have f692 := ((f411.keep Kq417).keep Kq677)
    have ne691 : x21 ≠ x690 := Nat.ne_of_lt (Nat.lt_of_lt_of_le f692.lt zx690)
    have f694 := ((f414.keep Kq417 (ninS ne385 (ninS ne397 nin0))).keep Kq677 (ninS ne385 (ninS ne397 nin0)))
    have ne693 : t21 ≠ x690 := Nat.ne_of_lt (Nat.lt_of_lt_of_le f694.lt zx690)
    have f696 := (f669.keep Kq677)
    have ne695 : x31 ≠ x690 := Nat.ne_of_lt (Nat.lt_of_lt_of_le f696.lt zx690)
    have f698 := (f672.keep Kq677 (ninS ne389 (ninS ne399 nin0)))
    have ne697 : t31 ≠ x690 := Nat.ne_of_lt (Nat.lt_of_lt_of_le f698.lt zx690)
    have ne699 : b365 ≠ x690 := Nat.ne_of_lt (Nat.lt_of_lt_of_le f686.lt zx690)
    have ne700 : sb382 ≠ x690 := Nat.ne_of_lt (Nat.lt_of_lt_of_le Eq677.lt zx690)
    have ne701 : t382 ≠ x690 := Nat.ne_of_lt (Nat.lt_of_lt_of_le Aq677.lt zx690)
    have g702 : n0 ≤ x690 := Nat.le_trans f689 zx690
    have sf703 : Safe Z ownEL T677.vm T677.heap x690 := Safe.new zx690
    have f705 := (Nat.le_trans (Nat.le_trans (Nat.le_trans f395 Kq382.1) Kq417.1) Kq677.1)
    have z704 : h0.size ≤ x690 := Nat.le_trans f705 zx690
    have ne706 : x21 ≠ t690 := Nat.ne_of_lt (Nat.lt_of_lt_of_le f692.lt zq690)
    have ne707 : t21 ≠ t690 := Nat.ne_of_lt (Nat.lt_of_lt_of_le f694.lt zq690)
    have ne708 : x31 ≠ t690 := Nat.ne_of_lt (Nat.lt_of_lt_of_le f696.lt zq690)
    have ne709 : t31 ≠ t690 := Nat.ne_of_lt (Nat.lt_of_lt_of_le f698.lt zq690)
    have ne710 : b365 ≠ t690 := Nat.ne_of_lt (Nat.lt_of_lt_of_le f686.lt zq690)
    have ne711 : sb382 ≠ t690 := Nat.ne_of_lt (Nat.lt_of_lt_of_le Eq677.lt zq690)
    have ne712 : t382 ≠ t690 := Nat.ne_of_lt (Nat.lt_of_lt_of_le Aq677.lt zq690)
    have g713 : n0 ≤ t690 := Nat.le_trans f689 zq690
    have sf714 : Safe Z ownEL T677.vm T677.heap t690 := Safe.new zq690
    have z715 : h0.size ≤ t690 := Nat.le_trans f705 zq690
    have N716 := Fr.app Nh685 Nq690
    have R717 := R680.trans (CHr.keep Kq690 sf0 R680.1)
    have sf718 := Safe.keep Kq690 sf0 R680.1 sf681
    have sf719 := Safe.keep Kq690 sf0 R680.1 sf682
    have sf720 := Safe.keep Kq690 sf0 R680.1 sf683
    have sf721 := Safe.keep Kq690 sf0 R680.1 sf703
    have sf722 := Safe.keep Kq690 sf0 R680.1 sf714
    obtain ⟨Lh723, Xh723, Nh723⟩ := oHd 21 89 X690 N716 rfl rfl
    refine ownSt st690 ?_
    clear st690
    show oA p e below _ T690 (fr_law m p1 p2 p3 78 (vR x21) (vR x31) (vI 1) (vR b365) (vR b365) .unset .unset [(.ref x690)])
    refine oTo T690 (fr_law m p1 p2 p3 92 (vR x21) (vR x31) (vI 1) (vR b365) (vR b365) (vR x690) (vI 0) [(.ref x21), (iV 0), (.ref x690)]) (fun t kt => ?_) ?_
    ·refine XS.astore Xh723.here hx rfl (D at_78) rfl rfl (l' := #[vI p1, vI p2, vI p3, vR x21, vR x31, vI 1, vR b365, vR b365, vR x690, .unset]) rfl ?_
     refine XS.iconst Xh723.here hx rfl (D at_80) ?_
     refine XS.istore Xh723.here hx rfl (D at_81) rfl (l' := #[vI p1, vI p2, vI p3, vR x21, vR x31, vI 1, vR b365, vR b365, vR x690, vI 0]) rfl ?_
     refine XS.iload Xh723.here hx rfl (D at_83) rfl ?_
     refine XS.ifNo Xh723.here hx rfl (D at_85) rfl ((if0 _ _).trans (feq ((by decide) : ¬ ((1 : Int32) = (0 : Int32)))).1) ?_
     refine XS.aload Xh723.here hx rfl (D at_88) rfl rfl ?_
     refine XS.iconst Xh723.here hx rfl (D at_90) ?_
     refine XS.aloadN Xh723.here hx rfl (D at_91) rfl rfl ?_
     exact kt
    have f724 := (f692.keep Kq690)
    have f725 := (((f412.keep Kq417 (ninS ne383 (ninS ne396 nin0))).keep Kq677 (ninS ne383 (ninS ne396 nin0))).keep Kq690 nin0)
    have f726 := (((f413.keep Kq417 (ninS ne383 (ninS ne396 nin0))).keep Kq677 (ninS ne383 (ninS ne396 nin0))).keep Kq690 nin0)
    have f727 := (f694.keep Kq690 nin0)
    have f728 := (f688.keep Kq690 all0)
    have f729 := (Nat.le_trans f689 Kq690.1)
    obtain ⟨vv730, _, ⟨T730, L730, k730, n730⟩, -, X730, ⟨Lc730, hQ730, l730, y730, z730⟩, st730⟩ := Jvm.LawKit.callS Xh723 hx (y := yM35) hown684 (mvT hZ684 (Wd171 hw)) (mvT hZ684 (Wd172 hw)) (mvT hZ684 (Wd2 hw)) (mvT hZ684 (Wd173 hw)) (by decide) (backOf (W := 0) (c_clg0 l Z a0 hw [] x690 t690 kn690 (9 : Int32) (oI [60, 47, 62, 60, 47, oL g0, oL g1, oL g2, 62]) (0 : Int32) x21 t21 kb21 G1 G3 T690.heap n0 f729 Eq690 Vq690 Cq690 Aq690 f724 f725 f726 f727 (by decide +kernel) (by decide +kernel) (oCl (by decide +kernel) rfl (by decide +kernel)) (oCl (by decide +kernel) rfl (by decide +kernel)) (oCl (by decide +kernel) rfl (by decide +kernel)) O2 P5 O4 rG3 f728) hZ684 (Wd173 hw) (Wd2 hw) (by decide) (by decide)) (g := (fr_law m p1 p2 p3 92 (vR x21) (vR x31) (vI 1) (vR b365) (vR b365) (vR x690) (vI 0) [(.ref x21), (iV 0), (.ref x690)])) rfl (by rw [hml]; rfl) (argsL := [(.ref x690), (iV 0), (.ref x21)]) (rest := []) (lenOf pd_36 rfl) rfl (oWt rfl) (D at_92) (fun _ _ => ⟨rfl, rfl, oLe rfl, oLe rfl⟩)
    dsimp only [Pt.U, Pt.locs, Pt.cells, Pt.slots] at X730 l730 y730 z730 st730 hQ730
    subst l730 y730 z730
    obtain ⟨rfl, Nq730, Eq730⟩ := hQ730
    have N731 := Fr.app Nh723 Nq730
    obtain ⟨Lh732, Xh732, Nh732⟩ := oHd 21 89 X730 N731 rfl rfl
    refine ownBy st730 ?_
    clear st730
    show oA p e below _ T730 (fr_law m p1 p2 p3 95 (vR x21) (vR x31) (vI 1) (vR b365) (vR b365) (vR x690) (vI 0) [(iV 1)])
    refine oTo T730 (fr_law m p1 p2 p3 101 (vR x21) (vR x31) (vI 1) (vR b365) (vR b365) (vR x690) (vI 0) [(.ref x21)]) (fun t kt => ?_) ?_
    ·refine XS.ifYes Xh732.here hx rfl (pc0 := 95) (pc' := 100) rfl (D at_95) rfl ((if0 _ _).trans (feq ((by decide) : ¬ ((1 : Int32) = (0 : Int32)))).2) (by decide) (by decide) ?_
     refine XS.aloadN Xh732.here hx rfl (D at_100) rfl rfl ?_
     exact kt
    obtain ⟨cq733, kq733, q733a, q733b, q733c⟩ := isOf hZ684 Eq730 f724
    obtain ⟨vv733, _, ⟨T733, L733, k733, n733⟩, -, X733, ⟨Lc733, hQ733, l733, y733, z733⟩, st733⟩ := Xh732.virtualBack hx (y := yM4) (z := yM4) hown684 (mvT hZ684 (Wd174 hw)) (mvT hZ684 (Wd70 hw)) (oNf hZ684 (Wd72 hw)) (mvT hZ684 (Wd72 hw)) (mvT hZ684 (Wd71 hw)) (by decide) (backOf (W := 0) (c_leng l Z a0 hw [] x21 t21 kb21 (0 : Int32) [] G1 T690.heap n0 f729 f724 f725 f726 f727 (by decide +kernel) O2 P5 f728) hZ684 (Wd73 hw) (Wd6 hw) (by decide) (by decide)) q733a q733c (g := (fr_law m p1 p2 p3 101 (vR x21) (vR x31) (vI 1) (vR b365) (vR b365) (vR x690) (vI 0) [(.ref x21)])) rfl (by rw [hml]; rfl) (Steps.refl _) (argsL := []) (rest := []) (lenOf pd_15 rfl) rfl (oWt rfl) (D at_101) (fun _ _ => ⟨rfl, Eq730, oLe rfl, oLe rfl⟩)
    dsimp only [Pt.U, Pt.locs, Pt.cells, Pt.slots] at X733 l733 y733 z733 st733 hQ733
    subst l733 y733 z733
    obtain ⟨rfl, Nq733, Eq733⟩ := hQ733
    have N734 := Fr.app Nh732 Nq733
    obtain ⟨Lh735, Xh735, Nh735⟩ := oHd 21 89 X733 N734 rfl rfl
    refine ownSt st733 ?_
    clear st733
    show oA p e below _ T733 (fr_law m p1 p2 p3 104 (vR x21) (vR x31) (vI 1) (vR b365) (vR b365) (vR x690) (vI 0) [(iV 0)])
    refine oTo T733 (fr_law m p1 p2 p3 114 (vR x21) (vR x31) (vI 1) (vR b365) (vR b365) (vR x690) (vI 3) [(.ref x31), (iV 3), (.ref x690)]) (fun t kt => ?_) ?_
    ·refine XS.iconst Xh735.here hx rfl (D at_104) ?_
     refine XS.iadd Xh735.here hx rfl (D at_105) rfl ?_
     refine XS.istore Xh735.here hx rfl (D at_106) rfl (l' := #[vI p1, vI p2, vI p3, vR x21, vR x31, vI 1, vR b365, vR b365, vR x690, vI 3]) rfl ?_
     refine XS.aload Xh735.here hx rfl (D at_108) rfl rfl ?_
     refine XS.iload Xh735.here hx rfl (D at_110) rfl ?_
     refine XS.aload Xh735.here hx rfl (D at_112) rfl rfl ?_
     exact kt
    have f736 := (f696.keep Kq690)
    have f737 := ((f670.keep Kq677 (ninS ne387 (ninS ne398 nin0))).keep Kq690 nin0)
    have f738 := ((f671.keep Kq677 (ninS ne387 (ninS ne398 nin0))).keep Kq690 nin0)
    have f739 := (f698.keep Kq690 nin0)
    obtain ⟨vv740, _, ⟨T740, L740, k740, n740⟩, -, X740, ⟨Lc740, hQ740, l740, y740, z740⟩, st740⟩ := Jvm.LawKit.callS Xh735 hx (y := yM35) hown684 (mvT hZ684 (Wd171 hw)) (mvT hZ684 (Wd172 hw)) (mvT hZ684 (Wd2 hw)) (mvT hZ684 (Wd173 hw)) (by decide) (backOf (W := 0) (c_clg3 l Z a0 hw [] x690 t690 kn690 (9 : Int32) (oI [60, 47, 62, 60, 47, oL g0, oL g1, oL g2, 62]) (3 : Int32) x31 t31 kb31 g0 g1 g2 G1 G3 T690.heap n0 f729 Eq690 Vq690 Cq690 Aq690 f736 f737 f738 f739 hr_g0 hr_g1 hr_g2 (by decide +kernel) (by decide +kernel) (oCl (by decide +kernel) rfl (by decide +kernel)) (oCl (by decide +kernel) rfl (by decide +kernel)) (oCl (by decide +kernel) rfl hr_g0) (oCl (by decide +kernel) rfl hr_g1) (oCl (by decide +kernel) rfl hr_g2) (oCl (by decide +kernel) rfl (by decide +kernel)) O2 P5 O4 rG3 f728) hZ684 (Wd173 hw) (Wd2 hw) (by decide) (by decide)) (g := (fr_law m p1 p2 p3 114 (vR x21) (vR x31) (vI 1) (vR b365) (vR b365) (vR x690) (vI 3) [(.ref x31), (iV 3), (.ref x690)])) rfl (by rw [hml]; rfl) (argsL := [(.ref x690), (iV 3), (.ref x31)]) (rest := []) (lenOf pd_36 rfl) rfl (oWt rfl) (D at_114) (fun _ _ => ⟨rfl, Eq733, oLe rfl, oLe rfl⟩)
    dsimp only [Pt.U, Pt.locs, Pt.cells, Pt.slots] at X740 l740 y740 z740 st740 hQ740
    subst l740 y740 z740
    obtain ⟨rfl, Nq740, Eq740⟩ := hQ740
    have N741 := Fr.app Nh735 Nq740
    obtain ⟨Lh742, Xh742, Nh742⟩ := oHd 21 89 X740 N741 rfl rfl
    refine ownBy st740 ?_
    clear st740
    show oA p e below _ T740 (fr_law m p1 p2 p3 117 (vR x21) (vR x31) (vI 1) (vR b365) (vR b365) (vR x690) (vI 3) [(iV 1)])
    refine oTo T740 (fr_law m p1 p2 p3 124 (vR x21) (vR x31) (vI 1) (vR b365) (vR b365) (vR x690) (vI 3) [(.ref x690)]) (fun t kt => ?_) ?_
    ·refine XS.ifYes Xh742.here hx rfl (pc0 := 117) (pc' := 122) rfl (D at_117) rfl ((if0 _ _).trans (feq ((by decide) : ¬ ((1 : Int32) = (0 : Int32)))).2) (by decide) (by decide) ?_
     refine XS.aload Xh742.here hx rfl (D at_122) rfl rfl ?_
     exact kt
    obtain ⟨cq743, kq743, q743a, q743b, q743c⟩ := isOf hZ684 Eq740 Eq690
    obtain ⟨vv743, _, ⟨T743, L743, k743, n743⟩, -, X743, ⟨Lc743, hQ743, l743, y743, z743⟩, st743⟩ := Xh742.virtualBack hx (y := yM4) (z := yM4) hown684 (mvT hZ684 (Wd174 hw)) (mvT hZ684 (Wd70 hw)) (oNf hZ684 (Wd72 hw)) (mvT hZ684 (Wd72 hw)) (mvT hZ684 (Wd71 hw)) (by decide) (backOf (W := 0) (c_leng l Z a0 hw [] x690 t690 kn690 (9 : Int32) (oI [60, 47, 62, 60, 47, oL g0, oL g1, oL g2, 62]) G1 T690.heap n0 f729 Eq690 Vq690 Cq690 Aq690 (by decide +kernel) O2 P5 f728) hZ684 (Wd73 hw) (Wd6 hw) (by decide) (by decide)) q743a q743c (g := (fr_law m p1 p2 p3 124 (vR x21) (vR x31) (vI 1) (vR b365) (vR b365) (vR x690) (vI 3) [(.ref x690)])) rfl (by rw [hml]; rfl) (Steps.refl _) (argsL := []) (rest := []) (lenOf pd_15 rfl) rfl (oWt rfl) (D at_124) (fun _ _ => ⟨rfl, Eq740, oLe rfl, oLe rfl⟩)
    dsimp only [Pt.U, Pt.locs, Pt.cells, Pt.slots] at X743 l743 y743 z743 st743 hQ743
    subst l743 y743 z743
    obtain ⟨rfl, Nq743, Eq743⟩ := hQ743
    have N744 := Fr.app Nh742 Nq743
    obtain ⟨Lh745, Xh745, Nh745⟩ := oHd 21 89 X743 N744 rfl rfl
    refine ownSt st743 ?_
    clear st743
    show oA p e below _ T743 (fr_law m p1 p2 p3 127 (vR x21) (vR x31) (vI 1) (vR b365) (vR b365) (vR x690) (vI 3) [(iV 9)])
    refine oTo T743 (fr_law m p1 p2 p3 131 (vR x21) (vR x31) (vI 1) (vR b365) (vR b365) (vR x690) (vI 3) [(.ref x31), (iV 3), (iV 9)]) (fun t kt => ?_) ?_
    ·refine XS.iload Xh745.here hx rfl (D at_127) rfl ?_
     refine XS.aload Xh745.here hx rfl (D at_129) rfl rfl ?_
     exact kt
    obtain ⟨cq746, kq746, q746a, q746b, q746c⟩ := isOf hZ684 Eq743 f736
    obtain ⟨vv746, _, ⟨T746, L746, k746, n746⟩, -, X746, ⟨Lc746, hQ746, l746, y746, z746⟩, st746⟩ := Xh745.virtualBack hx (y := yM4) (z := yM4) hown684 (mvT hZ684 (Wd174 hw)) (mvT hZ684 (Wd70 hw)) (oNf hZ684 (Wd72 hw)) (mvT hZ684 (Wd72 hw)) (mvT hZ684 (Wd71 hw)) (by decide) (backOf (W := 2) (c_leng l Z a0 hw [] x31 t31 kb31 (3 : Int32) (oI [oL g0, oL g1, oL g2]) G1 T690.heap n0 f729 f736 f737 f738 f739 (by decide +kernel) O2 P5 f728) hZ684 (Wd73 hw) (Wd6 hw) (by decide) (by decide)) q746a q746c (g := (fr_law m p1 p2 p3 131 (vR x21) (vR x31) (vI 1) (vR b365) (vR b365) (vR x690) (vI 3) [(.ref x31), (iV 3), (iV 9)])) rfl (by rw [hml]; rfl) (Steps.refl _) (argsL := []) (rest := [(iV 3), (iV 9)]) (lenOf pd_15 rfl) rfl (oWt rfl) (D at_131) (fun _ _ => ⟨rfl, Eq743, oLe rfl, oLe rfl⟩)
    dsimp only [Pt.U, Pt.locs, Pt.cells, Pt.slots] at X746 l746 y746 z746 st746 hQ746
    subst l746 y746 z746
    obtain ⟨rfl, Nq746, Eq746⟩ := hQ746
    have N747 := Fr.app Nh745 Nq746
    obtain ⟨Lh748, Xh748, Nh748⟩ := oHd 21 89 X746 N747 rfl rfl
    refine ownSt st746 ?_
    clear st746
    show oA p e below _ T746 (fr_law m p1 p2 p3 134 (vR x21) (vR x31) (vI 1) (vR b365) (vR b365) (vR x690) (vI 3) [(iV 3), (iV 3), (iV 9)])
    refine oTo T746 (fr_law m p1 p2 p3 145 (vR x21) (vR x31) (vI 1) (vR b365) (vR b365) (vR x690) (vI 3) [(iV 1)]) (fun t kt => ?_) ?_
    ·refine XS.iadd Xh748.here hx rfl (D at_134) rfl ?_
     refine XS.iconst Xh748.here hx rfl (D at_135) ?_
     refine XS.iadd Xh748.here hx rfl (D at_136) rfl ?_
     refine XS.icmpNo Xh748.here hx rfl (D at_137) rfl (teq ((by decide) : (9 : Int32) = (9 : Int32))).2 ?_
     refine XS.iconst Xh748.here hx rfl (D at_140) ?_
     refine XS.goto Xh748.here hx rfl (pc0 := 141) (pc' := 145) rfl (D at_141) (by decide) (by decide) ?_
     exact kt
    refine ownRetH Xh748 hSR684 (by rw [Eq746]; exact (Nat.le_trans (Nat.le_refl _) Kq690.1)) Bd.notSynchronized (v := some (.int (nar .boolean (1 : Int32)))) (fun h => by rw [Bd.returns] at h; cases h) ?_ (R717.trans ((by rw [Eq746]; exact CHv.at Xh748 hZ684 hEL R717.1))) (oLe rfl) (oLe rfl) (fun fs hr => retN Xh748 hx (t := .boolean) Bd.returns (by simp) (D at_145) hr)
    show (Q_law Z p1 p2 p3 G1 G3 h0 n0) (some (.int (nar .boolean (1 : Int32)))) T746.heap _
    rw [Eq746]
    exact ⟨rfl, Nh748⟩
  ·skip
   refine oTo T382 (fr_law m p1 p2 p3 41 (vR x21) (vR x31) (vI 1) (vR b365) .unset .unset .unset [(.ref x21), (.ref b365)]) (fun t kt => ?_) ?_
   ·refine XS.aload Xh409.here hx rfl (D at_38) rfl rfl ?_
    refine XS.aloadN Xh409.here hx rfl (D at_40) rfl rfl ?_
    exact kt
   have f750 := (f384.keep Kq382)
   have f751 := (((Vq21.keep Kq31 nin0).ext E365).keep Kq382 (ninS ne366 nin0))
   have f752 := (((Cq21.keep Kq31 nin0).ext E365).keep Kq382 (ninS ne366 nin0))
   have f753 := (f386.keep Kq382 (ninS ne368 nin0))
   have f754 := (f380.keep Kq382 (allS g372 all0))
   have f755 := (Nat.le_trans f381 Kq382.1)
   obtain ⟨cq756, kq756, q756a, q756b, q756c⟩ := isOf hZ40 rfl Eh382
   obtain ⟨vv756, _, ⟨T756, L756, k756, n756⟩, -, X756, hS756, hg756, ⟨Lc756, hQ756, l756, y756, z756, hC756⟩, st756⟩ := Xh409.virtualBackS hx (y := yM33) (z := yM33) hown40 (mvT hZ40 (Wd53 hw)) (mvT hZ40 (Wd54 hw)) (oNf hZ40 (Wd56 hw)) (mvT hZ40 (Wd56 hw)) (mvT hZ40 (Wd55 hw)) (by decide) (backOfSH (W := 0) (s := s) (EL := ownEL) (c_hcl l Z a0 hw [] b365 x21 t21 kb21 (1 : Int32) (oI [oL f0]) sb382 t382 kv382 (16 : Int32) (oI [0, 0, 0, 0, 0, 0, 0, 0, 0, 0, 0, 0, 0, 0, 0, 0]) (0 : Int32) (oI [60, 47, 0, 0, 0, 0, 0, 0, 0, 0, 0, 0, 0, 0, 0, 0]) (oI [60, 47, oL f0, 0, 0, 0, 0, 0, 0, 0, 0, 0, 0, 0, 0, 0]) (oI [60, 47, oL f0, 62, 0, 0, 0, 0, 0, 0, 0, 0, 0, 0, 0, 0]) (2 : Int32) (3 : Int32) (4 : Int32) G1 T382.heap n0 f755 Eh382 Fh382 f750 f751 f752 f753 Eq382 Vq382 Cq382 Mq382 Aq382 g392 g401 ne397 (by decide +kernel) (oCp (by decide +kernel) rfl rfl rfl) (oCp (by decide +kernel) rfl rfl rfl) (oCq (by decide +kernel) rfl rfl) O2 P5 f754) hZ40 (Wd57 hw) (Wd28 hw) (by decide) (by decide) hEL R405.1) q756a q756c (g := (fr_law m p1 p2 p3 41 (vR x21) (vR x31) (vI 1) (vR b365) .unset .unset .unset [(.ref x21), (.ref b365)])) rfl (by rw [hml]; rfl) (Steps.refl _) (argsL := [(.ref x21)]) (rest := []) (lenOf pd_35 rfl) rfl (oWt rfl) (D at_41) (fun _ _ => ⟨rfl, rfl, oLe rfl, oLe rfl⟩)
   dsimp only [Pt.U, Pt.locs, Pt.cells, Pt.slots] at X756 l756 y756 z756 st756 hQ756 hS756 hg756 hC756
   subst l756 y756 z756
   obtain ⟨rfl, Nq756, Kq756, Eq756, Vq756, Cq756, Mq756, Aq756⟩ := hQ756
   have N757 := Fr.app Nh409 Nq756
   have R759 := R405.trans hC756
   have sf760 := CHr.safe hC756 Eh382.lt sf406
   have sf761 := CHr.safe hC756 Eq382.lt sf407
   have sf762 := CHr.safe hC756 Aq382.lt sf408
   obtain ⟨XR763, hSR763, hZ763, hown763⟩ := rebS hSR40 (Nat.le_trans (Nat.le_trans (Nat.le_refl _) E365.1) Kq382.1) X756 hS756 hg756 hZ40 hown40
   obtain ⟨Lh764, Xh764, Nh764⟩ := oHd 17 57 XR763 N757 rfl rfl
   refine ownSt st756 ?_
   clear st756
   show oA p e below _ T756 (fr_law m p1 p2 p3 44 (vR x21) (vR x31) (vI 1) (vR b365) .unset .unset .unset [(.ref b365)])
   refine oTo T756 (fr_law m p1 p2 p3 55 (vR x21) (vR x31) (vI 1) (vR b365) (vR b365) .unset .unset []) (fun t kt => ?_) ?_
   ·refine XS.astore Xh764.here hx rfl (D at_44) rfl rfl (l' := #[vI p1, vI p2, vI p3, vR x21, vR x31, vI 1, vR b365, vR b365, .unset, .unset]) rfl ?_
    refine XS.aload Xh764.here hx rfl (D at_46) rfl rfl ?_
    refine XS.aload Xh764.here hx rfl (D at_48) rfl rfl ?_
    refine Jvm.RoadKit.acmp (g := (fr_law m p1 p2 p3 50 (vR x21) (vR x31) (vI 1) (vR b365) (vR b365) .unset .unset [(.ref b365), (.ref b365)])) Xh764 hx rfl rfl rfl (pc0 := 50) (pc' := 55) (same := true) rfl (D at_50) rfl (decide_eq_true rfl) (by decide) (by decide) ?_
    exact kt
   rcases hT31 with ⟨-, rfl, rfl⟩ | ⟨g0, hr_g0, rfl, rfl⟩ | ⟨g0, g1, hr_g0, hr_g1, rfl, rfl⟩ | ⟨g0, g1, g2, hr_g0, hr_g1, hr_g2, rfl, rfl⟩
   ·skip
    refine oTo T756 (fr_law m p1 p2 p3 59 (vR x21) (vR x31) (vI 1) (vR b365) (vR b365) .unset .unset [(.ref x31), (.ref b365)]) (fun t kt => ?_) ?_
    ·refine XS.aload Xh764.here hx rfl (D at_55) rfl rfl ?_
     refine XS.aload Xh764.here hx rfl (D at_57) rfl rfl ?_
     exact kt
    have f765 := ((f388.keep Kq382).keep Kq756)
    have f766 := (((Vq31.ext E365).keep Kq382 (ninS ne370 nin0)).keep Kq756 (ninS ne387 (ninS ne398 nin0)))
    have f767 := (((Cq31.ext E365).keep Kq382 (ninS ne370 nin0)).keep Kq756 (ninS ne387 (ninS ne398 nin0)))
    have f768 := ((f390.keep Kq382 (ninS ne371 nin0)).keep Kq756 (ninS ne389 (ninS ne399 nin0)))
    have f769 := (Eh382.keep Kq756)
    have f770 := (Fh382.keep Kq756 (ninS ne391 (ninS ne400 nin0)))
    have f771 := (f754.keep Kq756 (allS g392 (allS g401 all0)))
    have f772 := (Nat.le_trans f755 Kq756.1)
    obtain ⟨cq773, kq773, q773a, q773b, q773c⟩ := isOf hZ763 rfl f769
    obtain ⟨vv773, _, ⟨T773, L773, k773, n773⟩, -, X773, hS773, hg773, ⟨Lc773, hQ773, l773, y773, z773, hC773⟩, st773⟩ := Xh764.virtualBackS hx (y := yM33) (z := yM33) hown763 (mvT hZ763 (Wd53 hw)) (mvT hZ763 (Wd54 hw)) (oNf hZ763 (Wd56 hw)) (mvT hZ763 (Wd56 hw)) (mvT hZ763 (Wd55 hw)) (by decide) (backOfSH (W := 0) (s := s) (EL := ownEL) (c_hcl l Z a0 hw [] b365 x31 t31 kb31 (0 : Int32) [] sb382 t382 kv382 (16 : Int32) (oI [60, 47, oL f0, 62, 0, 0, 0, 0, 0, 0, 0, 0, 0, 0, 0, 0]) (4 : Int32) (oI [60, 47, oL f0, 62, 60, 47, 0, 0, 0, 0, 0, 0, 0, 0, 0, 0]) (oI [60, 47, oL f0, 62, 60, 47, 0, 0, 0, 0, 0, 0, 0, 0, 0, 0]) (oI [60, 47, oL f0, 62, 60, 47, 62, 0, 0, 0, 0, 0, 0, 0, 0, 0]) (6 : Int32) (6 : Int32) (7 : Int32) G1 T756.heap n0 f772 f769 f770 f765 f766 f767 f768 Eq756 Vq756 Cq756 Mq756 Aq756 g392 g401 ne399 (by decide +kernel) (oCp (by decide +kernel) rfl rfl rfl) (oCp (by decide +kernel) rfl rfl rfl) (oCq (by decide +kernel) rfl rfl) O2 P5 f771) hZ763 (Wd57 hw) (Wd28 hw) (by decide) (by decide) hEL R759.1) q773a q773c (g := (fr_law m p1 p2 p3 59 (vR x21) (vR x31) (vI 1) (vR b365) (vR b365) .unset .unset [(.ref x31), (.ref b365)])) rfl (by rw [hml]; rfl) (Steps.refl _) (argsL := [(.ref x31)]) (rest := []) (lenOf pd_35 rfl) rfl (oWt rfl) (D at_59) (fun _ _ => ⟨rfl, rfl, oLe rfl, oLe rfl⟩)
    dsimp only [Pt.U, Pt.locs, Pt.cells, Pt.slots] at X773 l773 y773 z773 st773 hQ773 hS773 hg773 hC773
    subst l773 y773 z773
    obtain ⟨rfl, Nq773, Kq773, Eq773, Vq773, Cq773, Mq773, Aq773⟩ := hQ773
    have N774 := Fr.app Nh764 Nq773
    have R776 := R759.trans hC773
    have sf777 := CHr.safe hC773 f769.lt sf760
    have sf778 := CHr.safe hC773 Eq756.lt sf761
    have sf779 := CHr.safe hC773 Aq756.lt sf762
    obtain ⟨XR780, hSR780, hZ780, hown780⟩ := rebS hSR763 (Nat.le_refl _) X773 hS773 hg773 hZ763 hown763
    obtain ⟨Lh781, Xh781, Nh781⟩ := oHd 19 69 XR780 N774 rfl rfl
    refine ownSt st773 ?_
    clear st773
    show oA p e below _ T773 (fr_law m p1 p2 p3 62 (vR x21) (vR x31) (vI 1) (vR b365) (vR b365) .unset .unset [(.ref b365)])
    refine oTo T773 (fr_law m p1 p2 p3 75 (vR x21) (vR x31) (vI 1) (vR b365) (vR b365) .unset .unset [(.ref b365)]) (fun t kt => ?_) ?_
    ·refine XS.astore Xh781.here hx rfl (D at_62) rfl rfl (l' := #[vI p1, vI p2, vI p3, vR x21, vR x31, vI 1, vR b365, vR b365, .unset, .unset]) rfl ?_
     refine XS.aload Xh781.here hx rfl (D at_64) rfl rfl ?_
     refine XS.aload Xh781.here hx rfl (D at_66) rfl rfl ?_
     refine Jvm.RoadKit.acmp (g := (fr_law m p1 p2 p3 68 (vR x21) (vR x31) (vI 1) (vR b365) (vR b365) .unset .unset [(.ref b365), (.ref b365)])) Xh781 hx rfl rfl rfl (pc0 := 68) (pc' := 73) (same := true) rfl (D at_68) rfl (decide_eq_true rfl) (by decide) (by decide) ?_
     refine XS.aload Xh781.here hx rfl (D at_73) rfl rfl ?_
     exact kt
    have f782 := (f769.keep Kq773)
    have f783 := (f770.keep Kq773 (ninS ne391 (ninS ne400 nin0)))
    have f784 := (f771.keep Kq773 (allS g392 (allS g401 all0)))
    have f785 := (Nat.le_trans f772 Kq773.1)
    obtain ⟨cq786, kq786, q786a, q786b, q786c⟩ := isOf hZ780 rfl f782
    obtain ⟨vv786, _, ⟨T786, L786, k786, n786⟩, -, X786, ⟨Lc786, hQ786, l786, y786, z786⟩, st786⟩ := Xh781.virtualBack hx (y := yM34) (z := yM34) hown780 (mvT hZ780 (Wd125 hw)) (mvT hZ780 (Wd126 hw)) (oNf hZ780 (Wd128 hw)) (mvT hZ780 (Wd128 hw)) (mvT hZ780 (Wd127 hw)) (by decide) (backOf (W := 0) (c_hts l Z a0 hw [] b365 sb382 t382 kv382 (16 : Int32) (oI [60, 47, oL f0, 62, 60, 47, 62, 0, 0, 0, 0, 0, 0, 0, 0, 0]) (7 : Int32) (oI [60, 47, oL f0, 62, 60, 47, 62]) G1 T773.heap n0 f785 f782 f783 Eq773 Vq773 Cq773 Mq773 Aq773 (oCr (by decide +kernel) rfl) O2 P5 f784) hZ780 (Wd129 hw) (Wd28 hw) (by decide) (by decide)) q786a q786c (g := (fr_law m p1 p2 p3 75 (vR x21) (vR x31) (vI 1) (vR b365) (vR b365) .unset .unset [(.ref b365)])) rfl (by rw [hml]; rfl) (Steps.refl _) (argsL := []) (rest := []) (lenOf pd_32 rfl) rfl (oWt rfl) (D at_75) (fun _ _ => ⟨rfl, rfl, oLe rfl, oLe rfl⟩)
    dsimp only [Pt.U, Pt.locs, Pt.cells, Pt.slots] at X786 l786 y786 z786 st786 hQ786
    subst l786 y786 z786
    obtain ⟨x786, t786, kn786, rfl, Nq786, Kq786, zx786, zq786, Eq786, Vq786, Cq786, Aq786⟩ := hQ786
    have f788 := ((f750.keep Kq756).keep Kq773)
    have ne787 : x21 ≠ x786 := Nat.ne_of_lt (Nat.lt_of_lt_of_le f788.lt zx786)
    have f790 := ((f753.keep Kq756 (ninS ne385 (ninS ne397 nin0))).keep Kq773 (ninS ne385 (ninS ne397 nin0)))
    have ne789 : t21 ≠ x786 := Nat.ne_of_lt (Nat.lt_of_lt_of_le f790.lt zx786)
    have f792 := (f765.keep Kq773)
    have ne791 : x31 ≠ x786 := Nat.ne_of_lt (Nat.lt_of_lt_of_le f792.lt zx786)
    have f794 := (f768.keep Kq773 (ninS ne389 (ninS ne399 nin0)))
    have ne793 : t31 ≠ x786 := Nat.ne_of_lt (Nat.lt_of_lt_of_le f794.lt zx786)
    have ne795 : b365 ≠ x786 := Nat.ne_of_lt (Nat.lt_of_lt_of_le f782.lt zx786)
    have ne796 : sb382 ≠ x786 := Nat.ne_of_lt (Nat.lt_of_lt_of_le Eq773.lt zx786)
    have ne797 : t382 ≠ x786 := Nat.ne_of_lt (Nat.lt_of_lt_of_le Aq773.lt zx786)
    have g798 : n0 ≤ x786 := Nat.le_trans f785 zx786
    have sf799 : Safe Z ownEL T773.vm T773.heap x786 := Safe.new zx786
    have f801 := (Nat.le_trans (Nat.le_trans (Nat.le_trans f395 Kq382.1) Kq756.1) Kq773.1)
    have z800 : h0.size ≤ x786 := Nat.le_trans f801 zx786
    have ne802 : x21 ≠ t786 := Nat.ne_of_lt (Nat.lt_of_lt_of_le f788.lt zq786)
    have ne803 : t21 ≠ t786 := Nat.ne_of_lt (Nat.lt_of_lt_of_le f790.lt zq786)
    have ne804 : x31 ≠ t786 := Nat.ne_of_lt (Nat.lt_of_lt_of_le f792.lt zq786)
    have ne805 : t31 ≠ t786 := Nat.ne_of_lt (Nat.lt_of_lt_of_le f794.lt zq786)
    have ne806 : b365 ≠ t786 := Nat.ne_of_lt (Nat.lt_of_lt_of_le f782.lt zq786)
    have ne807 : sb382 ≠ t786 := Nat.ne_of_lt (Nat.lt_of_lt_of_le Eq773.lt zq786)
    have ne808 : t382 ≠ t786 := Nat.ne_of_lt (Nat.lt_of_lt_of_le Aq773.lt zq786)
    have g809 : n0 ≤ t786 := Nat.le_trans f785 zq786
    have sf810 : Safe Z ownEL T773.vm T773.heap t786 := Safe.new zq786
    have z811 : h0.size ≤ t786 := Nat.le_trans f801 zq786
    have N812 := Fr.app Nh781 Nq786
    have R813 := R776.trans (CHr.keep Kq786 sf0 R776.1)
    have sf814 := Safe.keep Kq786 sf0 R776.1 sf777
    have sf815 := Safe.keep Kq786 sf0 R776.1 sf778
    have sf816 := Safe.keep Kq786 sf0 R776.1 sf779
    have sf817 := Safe.keep Kq786 sf0 R776.1 sf799
    have sf818 := Safe.keep Kq786 sf0 R776.1 sf810
    obtain ⟨Lh819, Xh819, Nh819⟩ := oHd 21 89 X786 N812 rfl rfl
    refine ownSt st786 ?_
    clear st786
    show oA p e below _ T786 (fr_law m p1 p2 p3 78 (vR x21) (vR x31) (vI 1) (vR b365) (vR b365) .unset .unset [(.ref x786)])
    refine oTo T786 (fr_law m p1 p2 p3 92 (vR x21) (vR x31) (vI 1) (vR b365) (vR b365) (vR x786) (vI 0) [(.ref x21), (iV 0), (.ref x786)]) (fun t kt => ?_) ?_
    ·refine XS.astore Xh819.here hx rfl (D at_78) rfl rfl (l' := #[vI p1, vI p2, vI p3, vR x21, vR x31, vI 1, vR b365, vR b365, vR x786, .unset]) rfl ?_
     refine XS.iconst Xh819.here hx rfl (D at_80) ?_
     refine XS.istore Xh819.here hx rfl (D at_81) rfl (l' := #[vI p1, vI p2, vI p3, vR x21, vR x31, vI 1, vR b365, vR b365, vR x786, vI 0]) rfl ?_
     refine XS.iload Xh819.here hx rfl (D at_83) rfl ?_
     refine XS.ifNo Xh819.here hx rfl (D at_85) rfl ((if0 _ _).trans (feq ((by decide) : ¬ ((1 : Int32) = (0 : Int32)))).1) ?_
     refine XS.aload Xh819.here hx rfl (D at_88) rfl rfl ?_
     refine XS.iconst Xh819.here hx rfl (D at_90) ?_
     refine XS.aloadN Xh819.here hx rfl (D at_91) rfl rfl ?_
     exact kt
    have f820 := (f788.keep Kq786)
    have f821 := (((f751.keep Kq756 (ninS ne383 (ninS ne396 nin0))).keep Kq773 (ninS ne383 (ninS ne396 nin0))).keep Kq786 nin0)
    have f822 := (((f752.keep Kq756 (ninS ne383 (ninS ne396 nin0))).keep Kq773 (ninS ne383 (ninS ne396 nin0))).keep Kq786 nin0)
    have f823 := (f790.keep Kq786 nin0)
    have f824 := (f784.keep Kq786 all0)
    have f825 := (Nat.le_trans f785 Kq786.1)
    obtain ⟨vv826, _, ⟨T826, L826, k826, n826⟩, -, X826, ⟨Lc826, hQ826, l826, y826, z826⟩, st826⟩ := Jvm.LawKit.callS Xh819 hx (y := yM35) hown780 (mvT hZ780 (Wd171 hw)) (mvT hZ780 (Wd172 hw)) (mvT hZ780 (Wd2 hw)) (mvT hZ780 (Wd173 hw)) (by decide) (backOf (W := 0) (c_clg1 l Z a0 hw [] x786 t786 kn786 (7 : Int32) (oI [60, 47, oL f0, 62, 60, 47, 62]) (0 : Int32) x21 t21 kb21 f0 G1 G3 T786.heap n0 f825 Eq786 Vq786 Cq786 Aq786 f820 f821 f822 f823 hr_f0 (by decide +kernel) (by decide +kernel) (oCl (by decide +kernel) rfl (by decide +kernel)) (oCl (by decide +kernel) rfl (by decide +kernel)) (oCl (by decide +kernel) rfl hr_f0) (oCl (by decide +kernel) rfl (by decide +kernel)) O2 P5 O4 rG3 f824) hZ780 (Wd173 hw) (Wd2 hw) (by decide) (by decide)) (g := (fr_law m p1 p2 p3 92 (vR x21) (vR x31) (vI 1) (vR b365) (vR b365) (vR x786) (vI 0) [(.ref x21), (iV 0), (.ref x786)])) rfl (by rw [hml]; rfl) (argsL := [(.ref x786), (iV 0), (.ref x21)]) (rest := []) (lenOf pd_36 rfl) rfl (oWt rfl) (D at_92) (fun _ _ => ⟨rfl, rfl, oLe rfl, oLe rfl⟩)
    dsimp only [Pt.U, Pt.locs, Pt.cells, Pt.slots] at X826 l826 y826 z826 st826 hQ826
    subst l826 y826 z826
    obtain ⟨rfl, Nq826, Eq826⟩ := hQ826
    have N827 := Fr.app Nh819 Nq826
    obtain ⟨Lh828, Xh828, Nh828⟩ := oHd 21 89 X826 N827 rfl rfl
    refine ownBy st826 ?_
    clear st826
    show oA p e below _ T826 (fr_law m p1 p2 p3 95 (vR x21) (vR x31) (vI 1) (vR b365) (vR b365) (vR x786) (vI 0) [(iV 1)])
    refine oTo T826 (fr_law m p1 p2 p3 101 (vR x21) (vR x31) (vI 1) (vR b365) (vR b365) (vR x786) (vI 0) [(.ref x21)]) (fun t kt => ?_) ?_
    ·refine XS.ifYes Xh828.here hx rfl (pc0 := 95) (pc' := 100) rfl (D at_95) rfl ((if0 _ _).trans (feq ((by decide) : ¬ ((1 : Int32) = (0 : Int32)))).2) (by decide) (by decide) ?_
     refine XS.aloadN Xh828.here hx rfl (D at_100) rfl rfl ?_
     exact kt
    obtain ⟨cq829, kq829, q829a, q829b, q829c⟩ := isOf hZ780 Eq826 f820
    obtain ⟨vv829, _, ⟨T829, L829, k829, n829⟩, -, X829, ⟨Lc829, hQ829, l829, y829, z829⟩, st829⟩ := Xh828.virtualBack hx (y := yM4) (z := yM4) hown780 (mvT hZ780 (Wd174 hw)) (mvT hZ780 (Wd70 hw)) (oNf hZ780 (Wd72 hw)) (mvT hZ780 (Wd72 hw)) (mvT hZ780 (Wd71 hw)) (by decide) (backOf (W := 0) (c_leng l Z a0 hw [] x21 t21 kb21 (1 : Int32) (oI [oL f0]) G1 T786.heap n0 f825 f820 f821 f822 f823 (by decide +kernel) O2 P5 f824) hZ780 (Wd73 hw) (Wd6 hw) (by decide) (by decide)) q829a q829c (g := (fr_law m p1 p2 p3 101 (vR x21) (vR x31) (vI 1) (vR b365) (vR b365) (vR x786) (vI 0) [(.ref x21)])) rfl (by rw [hml]; rfl) (Steps.refl _) (argsL := []) (rest := []) (lenOf pd_15 rfl) rfl (oWt rfl) (D at_101) (fun _ _ => ⟨rfl, Eq826, oLe rfl, oLe rfl⟩)
    dsimp only [Pt.U, Pt.locs, Pt.cells, Pt.slots] at X829 l829 y829 z829 st829 hQ829
    subst l829 y829 z829
    obtain ⟨rfl, Nq829, Eq829⟩ := hQ829
    have N830 := Fr.app Nh828 Nq829
    obtain ⟨Lh831, Xh831, Nh831⟩ := oHd 21 89 X829 N830 rfl rfl
    refine ownSt st829 ?_
    clear st829
    show oA p e below _ T829 (fr_law m p1 p2 p3 104 (vR x21) (vR x31) (vI 1) (vR b365) (vR b365) (vR x786) (vI 0) [(iV 1)])
    refine oTo T829 (fr_law m p1 p2 p3 114 (vR x21) (vR x31) (vI 1) (vR b365) (vR b365) (vR x786) (vI 4) [(.ref x31), (iV 4), (.ref x786)]) (fun t kt => ?_) ?_
    ·refine XS.iconst Xh831.here hx rfl (D at_104) ?_
     refine XS.iadd Xh831.here hx rfl (D at_105) rfl ?_
     refine XS.istore Xh831.here hx rfl (D at_106) rfl (l' := #[vI p1, vI p2, vI p3, vR x21, vR x31, vI 1, vR b365, vR b365, vR x786, vI 4]) rfl ?_
     refine XS.aload Xh831.here hx rfl (D at_108) rfl rfl ?_
     refine XS.iload Xh831.here hx rfl (D at_110) rfl ?_
     refine XS.aload Xh831.here hx rfl (D at_112) rfl rfl ?_
     exact kt
    have f832 := (f792.keep Kq786)
    have f833 := ((f766.keep Kq773 (ninS ne387 (ninS ne398 nin0))).keep Kq786 nin0)
    have f834 := ((f767.keep Kq773 (ninS ne387 (ninS ne398 nin0))).keep Kq786 nin0)
    have f835 := (f794.keep Kq786 nin0)
    obtain ⟨vv836, _, ⟨T836, L836, k836, n836⟩, -, X836, ⟨Lc836, hQ836, l836, y836, z836⟩, st836⟩ := Jvm.LawKit.callS Xh831 hx (y := yM35) hown780 (mvT hZ780 (Wd171 hw)) (mvT hZ780 (Wd172 hw)) (mvT hZ780 (Wd2 hw)) (mvT hZ780 (Wd173 hw)) (by decide) (backOf (W := 0) (c_clg0 l Z a0 hw [] x786 t786 kn786 (7 : Int32) (oI [60, 47, oL f0, 62, 60, 47, 62]) (4 : Int32) x31 t31 kb31 G1 G3 T786.heap n0 f825 Eq786 Vq786 Cq786 Aq786 f832 f833 f834 f835 (by decide +kernel) (by decide +kernel) (oCl (by decide +kernel) rfl (by decide +kernel)) (oCl (by decide +kernel) rfl (by decide +kernel)) (oCl (by decide +kernel) rfl (by decide +kernel)) O2 P5 O4 rG3 f824) hZ780 (Wd173 hw) (Wd2 hw) (by decide) (by decide)) (g := (fr_law m p1 p2 p3 114 (vR x21) (vR x31) (vI 1) (vR b365) (vR b365) (vR x786) (vI 4) [(.ref x31), (iV 4), (.ref x786)])) rfl (by rw [hml]; rfl) (argsL := [(.ref x786), (iV 4), (.ref x31)]) (rest := []) (lenOf pd_36 rfl) rfl (oWt rfl) (D at_114) (fun _ _ => ⟨rfl, Eq829, oLe rfl, oLe rfl⟩)
    dsimp only [Pt.U, Pt.locs, Pt.cells, Pt.slots] at X836 l836 y836 z836 st836 hQ836
    subst l836 y836 z836
    obtain ⟨rfl, Nq836, Eq836⟩ := hQ836
    have N837 := Fr.app Nh831 Nq836
    obtain ⟨Lh838, Xh838, Nh838⟩ := oHd 21 89 X836 N837 rfl rfl
    refine ownBy st836 ?_
    clear st836
    show oA p e below _ T836 (fr_law m p1 p2 p3 117 (vR x21) (vR x31) (vI 1) (vR b365) (vR b365) (vR x786) (vI 4) [(iV 1)])
    refine oTo T836 (fr_law m p1 p2 p3 124 (vR x21) (vR x31) (vI 1) (vR b365) (vR b365) (vR x786) (vI 4) [(.ref x786)]) (fun t kt => ?_) ?_
    ·refine XS.ifYes Xh838.here hx rfl (pc0 := 117) (pc' := 122) rfl (D at_117) rfl ((if0 _ _).trans (feq ((by decide) : ¬ ((1 : Int32) = (0 : Int32)))).2) (by decide) (by decide) ?_
     refine XS.aload Xh838.here hx rfl (D at_122) rfl rfl ?_
     exact kt
    obtain ⟨cq839, kq839, q839a, q839b, q839c⟩ := isOf hZ780 Eq836 Eq786
    obtain ⟨vv839, _, ⟨T839, L839, k839, n839⟩, -, X839, ⟨Lc839, hQ839, l839, y839, z839⟩, st839⟩ := Xh838.virtualBack hx (y := yM4) (z := yM4) hown780 (mvT hZ780 (Wd174 hw)) (mvT hZ780 (Wd70 hw)) (oNf hZ780 (Wd72 hw)) (mvT hZ780 (Wd72 hw)) (mvT hZ780 (Wd71 hw)) (by decide) (backOf (W := 0) (c_leng l Z a0 hw [] x786 t786 kn786 (7 : Int32) (oI [60, 47, oL f0, 62, 60, 47, 62]) G1 T786.heap n0 f825 Eq786 Vq786 Cq786 Aq786 (by decide +kernel) O2 P5 f824) hZ780 (Wd73 hw) (Wd6 hw) (by decide) (by decide)) q839a q839c (g := (fr_law m p1 p2 p3 124 (vR x21) (vR x31) (vI 1) (vR b365) (vR b365) (vR x786) (vI 4) [(.ref x786)])) rfl (by rw [hml]; rfl) (Steps.refl _) (argsL := []) (rest := []) (lenOf pd_15 rfl) rfl (oWt rfl) (D at_124) (fun _ _ => ⟨rfl, Eq836, oLe rfl, oLe rfl⟩)
    dsimp only [Pt.U, Pt.locs, Pt.cells, Pt.slots] at X839 l839 y839 z839 st839 hQ839
    subst l839 y839 z839
    obtain ⟨rfl, Nq839, Eq839⟩ := hQ839
    have N840 := Fr.app Nh838 Nq839
    obtain ⟨Lh841, Xh841, Nh841⟩ := oHd 21 89 X839 N840 rfl rfl
    refine ownSt st839 ?_
    clear st839
    show oA p e below _ T839 (fr_law m p1 p2 p3 127 (vR x21) (vR x31) (vI 1) (vR b365) (vR b365) (vR x786) (vI 4) [(iV 7)])
    refine oTo T839 (fr_law m p1 p2 p3 131 (vR x21) (vR x31) (vI 1) (vR b365) (vR b365) (vR x786) (vI 4) [(.ref x31), (iV 4), (iV 7)]) (fun t kt => ?_) ?_
    ·refine XS.iload Xh841.here hx rfl (D at_127) rfl ?_
     refine XS.aload Xh841.here hx rfl (D at_129) rfl rfl ?_
     exact kt
    obtain ⟨cq842, kq842, q842a, q842b, q842c⟩ := isOf hZ780 Eq839 f832
    obtain ⟨vv842, _, ⟨T842, L842, k842, n842⟩, -, X842, ⟨Lc842, hQ842, l842, y842, z842⟩, st842⟩ := Xh841.virtualBack hx (y := yM4) (z := yM4) hown780 (mvT hZ780 (Wd174 hw)) (mvT hZ780 (Wd70 hw)) (oNf hZ780 (Wd72 hw)) (mvT hZ780 (Wd72 hw)) (mvT hZ780 (Wd71 hw)) (by decide) (backOf (W := 2) (c_leng l Z a0 hw [] x31 t31 kb31 (0 : Int32) [] G1 T786.heap n0 f825 f832 f833 f834 f835 (by decide +kernel) O2 P5 f824) hZ780 (Wd73 hw) (Wd6 hw) (by decide) (by decide)) q842a q842c (g := (fr_law m p1 p2 p3 131 (vR x21) (vR x31) (vI 1) (vR b365) (vR b365) (vR x786) (vI 4) [(.ref x31), (iV 4), (iV 7)])) rfl (by rw [hml]; rfl) (Steps.refl _) (argsL := []) (rest := [(iV 4), (iV 7)]) (lenOf pd_15 rfl) rfl (oWt rfl) (D at_131) (fun _ _ => ⟨rfl, Eq839, oLe rfl, oLe rfl⟩)
    dsimp only [Pt.U, Pt.locs, Pt.cells, Pt.slots] at X842 l842 y842 z842 st842 hQ842
    subst l842 y842 z842
    obtain ⟨rfl, Nq842, Eq842⟩ := hQ842
    have N843 := Fr.app Nh841 Nq842
    obtain ⟨Lh844, Xh844, Nh844⟩ := oHd 21 89 X842 N843 rfl rfl
    refine ownSt st842 ?_
    clear st842
    show oA p e below _ T842 (fr_law m p1 p2 p3 134 (vR x21) (vR x31) (vI 1) (vR b365) (vR b365) (vR x786) (vI 4) [(iV 0), (iV 4), (iV 7)])
    refine oTo T842 (fr_law m p1 p2 p3 145 (vR x21) (vR x31) (vI 1) (vR b365) (vR b365) (vR x786) (vI 4) [(iV 1)]) (fun t kt => ?_) ?_
    ·refine XS.iadd Xh844.here hx rfl (D at_134) rfl ?_
     refine XS.iconst Xh844.here hx rfl (D at_135) ?_
     refine XS.iadd Xh844.here hx rfl (D at_136) rfl ?_
     refine XS.icmpNo Xh844.here hx rfl (D at_137) rfl (teq ((by decide) : (7 : Int32) = (7 : Int32))).2 ?_
     refine XS.iconst Xh844.here hx rfl (D at_140) ?_
     refine XS.goto Xh844.here hx rfl (pc0 := 141) (pc' := 145) rfl (D at_141) (by decide) (by decide) ?_
     exact kt
    refine ownRetH Xh844 hSR780 (by rw [Eq842]; exact (Nat.le_trans (Nat.le_refl _) Kq786.1)) Bd.notSynchronized (v := some (.int (nar .boolean (1 : Int32)))) (fun h => by rw [Bd.returns] at h; cases h) ?_ (R813.trans ((by rw [Eq842]; exact CHv.at Xh844 hZ780 hEL R813.1))) (oLe rfl) (oLe rfl) (fun fs hr => retN Xh844 hx (t := .boolean) Bd.returns (by simp) (D at_145) hr)
    show (Q_law Z p1 p2 p3 G1 G3 h0 n0) (some (.int (nar .boolean (1 : Int32)))) T842.heap _
    rw [Eq842]
    exact ⟨rfl, Nh844⟩
   ·skip
    refine oTo T756 (fr_law m p1 p2 p3 59 (vR x21) (vR x31) (vI 1) (vR b365) (vR b365) .unset .unset [(.ref x31), (.ref b365)]) (fun t kt => ?_) ?_
    ·refine XS.aload Xh764.here hx rfl (D at_55) rfl rfl ?_
     refine XS.aload Xh764.here hx rfl (D at_57) rfl rfl ?_
     exact kt
    have f846 := ((f388.keep Kq382).keep Kq756)
    have f847 := (((Vq31.ext E365).keep Kq382 (ninS ne370 nin0)).keep Kq756 (ninS ne387 (ninS ne398 nin0)))
    have f848 := (((Cq31.ext E365).keep Kq382 (ninS ne370 nin0)).keep Kq756 (ninS ne387 (ninS ne398 nin0)))
    have f849 := ((f390.keep Kq382 (ninS ne371 nin0)).keep Kq756 (ninS ne389 (ninS ne399 nin0)))
    have f850 := (Eh382.keep Kq756)
    have f851 := (Fh382.keep Kq756 (ninS ne391 (ninS ne400 nin0)))
    have f852 := (f754.keep Kq756 (allS g392 (allS g401 all0)))
    have f853 := (Nat.le_trans f755 Kq756.1)
    obtain ⟨cq854, kq854, q854a, q854b, q854c⟩ := isOf hZ763 rfl f850
    obtain ⟨vv854, _, ⟨T854, L854, k854, n854⟩, -, X854, hS854, hg854, ⟨Lc854, hQ854, l854, y854, z854, hC854⟩, st854⟩ := Xh764.virtualBackS hx (y := yM33) (z := yM33) hown763 (mvT hZ763 (Wd53 hw)) (mvT hZ763 (Wd54 hw)) (oNf hZ763 (Wd56 hw)) (mvT hZ763 (Wd56 hw)) (mvT hZ763 (Wd55 hw)) (by decide) (backOfSH (W := 0) (s := s) (EL := ownEL) (c_hcl l Z a0 hw [] b365 x31 t31 kb31 (1 : Int32) (oI [oL g0]) sb382 t382 kv382 (16 : Int32) (oI [60, 47, oL f0, 62, 0, 0, 0, 0, 0, 0, 0, 0, 0, 0, 0, 0]) (4 : Int32) (oI [60, 47, oL f0, 62, 60, 47, 0, 0, 0, 0, 0, 0, 0, 0, 0, 0]) (oI [60, 47, oL f0, 62, 60, 47, oL g0, 0, 0, 0, 0, 0, 0, 0, 0, 0]) (oI [60, 47, oL f0, 62, 60, 47, oL g0, 62, 0, 0, 0, 0, 0, 0, 0, 0]) (6 : Int32) (7 : Int32) (8 : Int32) G1 T756.heap n0 f853 f850 f851 f846 f847 f848 f849 Eq756 Vq756 Cq756 Mq756 Aq756 g392 g401 ne399 (by decide +kernel) (oCp (by decide +kernel) rfl rfl rfl) (oCp (by decide +kernel) rfl rfl rfl) (oCq (by decide +kernel) rfl rfl) O2 P5 f852) hZ763 (Wd57 hw) (Wd28 hw) (by decide) (by decide) hEL R759.1) q854a q854c (g := (fr_law m p1 p2 p3 59 (vR x21) (vR x31) (vI 1) (vR b365) (vR b365) .unset .unset [(.ref x31), (.ref b365)])) rfl (by rw [hml]; rfl) (Steps.refl _) (argsL := [(.ref x31)]) (rest := []) (lenOf pd_35 rfl) rfl (oWt rfl) (D at_59) (fun _ _ => ⟨rfl, rfl, oLe rfl, oLe rfl⟩)
    dsimp only [Pt.U, Pt.locs, Pt.cells, Pt.slots] at X854 l854 y854 z854 st854 hQ854 hS854 hg854 hC854
    subst l854 y854 z854
    obtain ⟨rfl, Nq854, Kq854, Eq854, Vq854, Cq854, Mq854, Aq854⟩ := hQ854
    have N855 := Fr.app Nh764 Nq854
    have R857 := R759.trans hC854
    have sf858 := CHr.safe hC854 f850.lt sf760
    have sf859 := CHr.safe hC854 Eq756.lt sf761
    have sf860 := CHr.safe hC854 Aq756.lt sf762
    obtain ⟨XR861, hSR861, hZ861, hown861⟩ := rebS hSR763 (Nat.le_refl _) X854 hS854 hg854 hZ763 hown763
    obtain ⟨Lh862, Xh862, Nh862⟩ := oHd 19 69 XR861 N855 rfl rfl
    refine ownSt st854 ?_
    clear st854
    show oA p e below _ T854 (fr_law m p1 p2 p3 62 (vR x21) (vR x31) (vI 1) (vR b365) (vR b365) .unset .unset [(.ref b365)])
    refine oTo T854 (fr_law m p1 p2 p3 75 (vR x21) (vR x31) (vI 1) (vR b365) (vR b365) .unset .unset [(.ref b365)]) (fun t kt => ?_) ?_
    ·refine XS.astore Xh862.here hx rfl (D at_62) rfl rfl (l' := #[vI p1, vI p2, vI p3, vR x21, vR x31, vI 1, vR b365, vR b365, .unset, .unset]) rfl ?_
     refine XS.aload Xh862.here hx rfl (D at_64) rfl rfl ?_
     refine XS.aload Xh862.here hx rfl (D at_66) rfl rfl ?_
     refine Jvm.RoadKit.acmp (g := (fr_law m p1 p2 p3 68 (vR x21) (vR x31) (vI 1) (vR b365) (vR b365) .unset .unset [(.ref b365), (.ref b365)])) Xh862 hx rfl rfl rfl (pc0 := 68) (pc' := 73) (same := true) rfl (D at_68) rfl (decide_eq_true rfl) (by decide) (by decide) ?_
     refine XS.aload Xh862.here hx rfl (D at_73) rfl rfl ?_
     exact kt
    have f863 := (f850.keep Kq854)
    have f864 := (f851.keep Kq854 (ninS ne391 (ninS ne400 nin0)))
    have f865 := (f852.keep Kq854 (allS g392 (allS g401 all0)))
    have f866 := (Nat.le_trans f853 Kq854.1)
    obtain ⟨cq867, kq867, q867a, q867b, q867c⟩ := isOf hZ861 rfl f863
    obtain ⟨vv867, _, ⟨T867, L867, k867, n867⟩, -, X867, ⟨Lc867, hQ867, l867, y867, z867⟩, st867⟩ := Xh862.virtualBack hx (y := yM34) (z := yM34) hown861 (mvT hZ861 (Wd125 hw)) (mvT hZ861 (Wd126 hw)) (oNf hZ861 (Wd128 hw)) (mvT hZ861 (Wd128 hw)) (mvT hZ861 (Wd127 hw)) (by decide) (backOf (W := 0) (c_hts l Z a0 hw [] b365 sb382 t382 kv382 (16 : Int32) (oI [60, 47, oL f0, 62, 60, 47, oL g0, 62, 0, 0, 0, 0, 0, 0, 0, 0]) (8 : Int32) (oI [60, 47, oL f0, 62, 60, 47, oL g0, 62]) G1 T854.heap n0 f866 f863 f864 Eq854 Vq854 Cq854 Mq854 Aq854 (oCr (by decide +kernel) rfl) O2 P5 f865) hZ861 (Wd129 hw) (Wd28 hw) (by decide) (by decide)) q867a q867c (g := (fr_law m p1 p2 p3 75 (vR x21) (vR x31) (vI 1) (vR b365) (vR b365) .unset .unset [(.ref b365)])) rfl (by rw [hml]; rfl) (Steps.refl _) (argsL := []) (rest := []) (lenOf pd_32 rfl) rfl (oWt rfl) (D at_75) (fun _ _ => ⟨rfl, rfl, oLe rfl, oLe rfl⟩)
    dsimp only [Pt.U, Pt.locs, Pt.cells, Pt.slots] at X867 l867 y867 z867 st867 hQ867
    subst l867 y867 z867
    obtain ⟨x867, t867, kn867, rfl, Nq867, Kq867, zx867, zq867, Eq867, Vq867, Cq867, Aq867⟩ := hQ867
    have f869 := ((f750.keep Kq756).keep Kq854)
    have ne868 : x21 ≠ x867 := Nat.ne_of_lt (Nat.lt_of_lt_of_le f869.lt zx867)
    have f871 := ((f753.keep Kq756 (ninS ne385 (ninS ne397 nin0))).keep Kq854 (ninS ne385 (ninS ne397 nin0)))
    have ne870 : t21 ≠ x867 := Nat.ne_of_lt (Nat.lt_of_lt_of_le f871.lt zx867)
    have f873 := (f846.keep Kq854)
    have ne872 : x31 ≠ x867 := Nat.ne_of_lt (Nat.lt_of_lt_of_le f873.lt zx867)
    have f875 := (f849.keep Kq854 (ninS ne389 (ninS ne399 nin0)))
    have ne874 : t31 ≠ x867 := Nat.ne_of_lt (Nat.lt_of_lt_of_le f875.lt zx867)
    have ne876 : b365 ≠ x867 := Nat.ne_of_lt (Nat.lt_of_lt_of_le f863.lt zx867)
    have ne877 : sb382 ≠ x867 := Nat.ne_of_lt (Nat.lt_of_lt_of_le Eq854.lt zx867)
    have ne878 : t382 ≠ x867 := Nat.ne_of_lt (Nat.lt_of_lt_of_le Aq854.lt zx867)
    have g879 : n0 ≤ x867 := Nat.le_trans f866 zx867
    have sf880 : Safe Z ownEL T854.vm T854.heap x867 := Safe.new zx867
    have f882 := (Nat.le_trans (Nat.le_trans (Nat.le_trans f395 Kq382.1) Kq756.1) Kq854.1)
    have z881 : h0.size ≤ x867 := Nat.le_trans f882 zx867
    have ne883 : x21 ≠ t867 := Nat.ne_of_lt (Nat.lt_of_lt_of_le f869.lt zq867)
    have ne884 : t21 ≠ t867 := Nat.ne_of_lt (Nat.lt_of_lt_of_le f871.lt zq867)
    have ne885 : x31 ≠ t867 := Nat.ne_of_lt (Nat.lt_of_lt_of_le f873.lt zq867)
    have ne886 : t31 ≠ t867 := Nat.ne_of_lt (Nat.lt_of_lt_of_le f875.lt zq867)
    have ne887 : b365 ≠ t867 := Nat.ne_of_lt (Nat.lt_of_lt_of_le f863.lt zq867)
    have ne888 : sb382 ≠ t867 := Nat.ne_of_lt (Nat.lt_of_lt_of_le Eq854.lt zq867)
    have ne889 : t382 ≠ t867 := Nat.ne_of_lt (Nat.lt_of_lt_of_le Aq854.lt zq867)
    have g890 : n0 ≤ t867 := Nat.le_trans f866 zq867
    have sf891 : Safe Z ownEL T854.vm T854.heap t867 := Safe.new zq867
    have z892 : h0.size ≤ t867 := Nat.le_trans f882 zq867
    have N893 := Fr.app Nh862 Nq867
    have R894 := R857.trans (CHr.keep Kq867 sf0 R857.1)
    have sf895 := Safe.keep Kq867 sf0 R857.1 sf858
    have sf896 := Safe.keep Kq867 sf0 R857.1 sf859
    have sf897 := Safe.keep Kq867 sf0 R857.1 sf860
    have sf898 := Safe.keep Kq867 sf0 R857.1 sf880
    have sf899 := Safe.keep Kq867 sf0 R857.1 sf891
    obtain ⟨Lh900, Xh900, Nh900⟩ := oHd 21 89 X867 N893 rfl rfl
    refine ownSt st867 ?_
    clear st867
    show oA p e below _ T867 (fr_law m p1 p2 p3 78 (vR x21) (vR x31) (vI 1) (vR b365) (vR b365) .unset .unset [(.ref x867)])
    refine oTo T867 (fr_law m p1 p2 p3 92 (vR x21) (vR x31) (vI 1) (vR b365) (vR b365) (vR x867) (vI 0) [(.ref x21), (iV 0), (.ref x867)]) (fun t kt => ?_) ?_
    ·refine XS.astore Xh900.here hx rfl (D at_78) rfl rfl (l' := #[vI p1, vI p2, vI p3, vR x21, vR x31, vI 1, vR b365, vR b365, vR x867, .unset]) rfl ?_
     refine XS.iconst Xh900.here hx rfl (D at_80) ?_
     refine XS.istore Xh900.here hx rfl (D at_81) rfl (l' := #[vI p1, vI p2, vI p3, vR x21, vR x31, vI 1, vR b365, vR b365, vR x867, vI 0]) rfl ?_
     refine XS.iload Xh900.here hx rfl (D at_83) rfl ?_
     refine XS.ifNo Xh900.here hx rfl (D at_85) rfl ((if0 _ _).trans (feq ((by decide) : ¬ ((1 : Int32) = (0 : Int32)))).1) ?_
     refine XS.aload Xh900.here hx rfl (D at_88) rfl rfl ?_
     refine XS.iconst Xh900.here hx rfl (D at_90) ?_
     refine XS.aloadN Xh900.here hx rfl (D at_91) rfl rfl ?_
     exact kt
    have f901 := (f869.keep Kq867)
    have f902 := (((f751.keep Kq756 (ninS ne383 (ninS ne396 nin0))).keep Kq854 (ninS ne383 (ninS ne396 nin0))).keep Kq867 nin0)
    have f903 := (((f752.keep Kq756 (ninS ne383 (ninS ne396 nin0))).keep Kq854 (ninS ne383 (ninS ne396 nin0))).keep Kq867 nin0)
    have f904 := (f871.keep Kq867 nin0)
    have f905 := (f865.keep Kq867 all0)
    have f906 := (Nat.le_trans f866 Kq867.1)
    obtain ⟨vv907, _, ⟨T907, L907, k907, n907⟩, -, X907, ⟨Lc907, hQ907, l907, y907, z907⟩, st907⟩ := Jvm.LawKit.callS Xh900 hx (y := yM35) hown861 (mvT hZ861 (Wd171 hw)) (mvT hZ861 (Wd172 hw)) (mvT hZ861 (Wd2 hw)) (mvT hZ861 (Wd173 hw)) (by decide) (backOf (W := 0) (c_clg1 l Z a0 hw [] x867 t867 kn867 (8 : Int32) (oI [60, 47, oL f0, 62, 60, 47, oL g0, 62]) (0 : Int32) x21 t21 kb21 f0 G1 G3 T867.heap n0 f906 Eq867 Vq867 Cq867 Aq867 f901 f902 f903 f904 hr_f0 (by decide +kernel) (by decide +kernel) (oCl (by decide +kernel) rfl (by decide +kernel)) (oCl (by decide +kernel) rfl (by decide +kernel)) (oCl (by decide +kernel) rfl hr_f0) (oCl (by decide +kernel) rfl (by decide +kernel)) O2 P5 O4 rG3 f905) hZ861 (Wd173 hw) (Wd2 hw) (by decide) (by decide)) (g := (fr_law m p1 p2 p3 92 (vR x21) (vR x31) (vI 1) (vR b365) (vR b365) (vR x867) (vI 0) [(.ref x21), (iV 0), (.ref x867)])) rfl (by rw [hml]; rfl) (argsL := [(.ref x867), (iV 0), (.ref x21)]) (rest := []) (lenOf pd_36 rfl) rfl (oWt rfl) (D at_92) (fun _ _ => ⟨rfl, rfl, oLe rfl, oLe rfl⟩)
    dsimp only [Pt.U, Pt.locs, Pt.cells, Pt.slots] at X907 l907 y907 z907 st907 hQ907
    subst l907 y907 z907
    obtain ⟨rfl, Nq907, Eq907⟩ := hQ907
    have N908 := Fr.app Nh900 Nq907
    obtain ⟨Lh909, Xh909, Nh909⟩ := oHd 21 89 X907 N908 rfl rfl
    refine ownBy st907 ?_
    clear st907
    show oA p e below _ T907 (fr_law m p1 p2 p3 95 (vR x21) (vR x31) (vI 1) (vR b365) (vR b365) (vR x867) (vI 0) [(iV 1)])
    refine oTo T907 (fr_law m p1 p2 p3 101 (vR x21) (vR x31) (vI 1) (vR b365) (vR b365) (vR x867) (vI 0) [(.ref x21)]) (fun t kt => ?_) ?_
    ·refine XS.ifYes Xh909.here hx rfl (pc0 := 95) (pc' := 100) rfl (D at_95) rfl ((if0 _ _).trans (feq ((by decide) : ¬ ((1 : Int32) = (0 : Int32)))).2) (by decide) (by decide) ?_
     refine XS.aloadN Xh909.here hx rfl (D at_100) rfl rfl ?_
     exact kt
    obtain ⟨cq910, kq910, q910a, q910b, q910c⟩ := isOf hZ861 Eq907 f901
    obtain ⟨vv910, _, ⟨T910, L910, k910, n910⟩, -, X910, ⟨Lc910, hQ910, l910, y910, z910⟩, st910⟩ := Xh909.virtualBack hx (y := yM4) (z := yM4) hown861 (mvT hZ861 (Wd174 hw)) (mvT hZ861 (Wd70 hw)) (oNf hZ861 (Wd72 hw)) (mvT hZ861 (Wd72 hw)) (mvT hZ861 (Wd71 hw)) (by decide) (backOf (W := 0) (c_leng l Z a0 hw [] x21 t21 kb21 (1 : Int32) (oI [oL f0]) G1 T867.heap n0 f906 f901 f902 f903 f904 (by decide +kernel) O2 P5 f905) hZ861 (Wd73 hw) (Wd6 hw) (by decide) (by decide)) q910a q910c (g := (fr_law m p1 p2 p3 101 (vR x21) (vR x31) (vI 1) (vR b365) (vR b365) (vR x867) (vI 0) [(.ref x21)])) rfl (by rw [hml]; rfl) (Steps.refl _) (argsL := []) (rest := []) (lenOf pd_15 rfl) rfl (oWt rfl) (D at_101) (fun _ _ => ⟨rfl, Eq907, oLe rfl, oLe rfl⟩)
    dsimp only [Pt.U, Pt.locs, Pt.cells, Pt.slots] at X910 l910 y910 z910 st910 hQ910
    subst l910 y910 z910
    obtain ⟨rfl, Nq910, Eq910⟩ := hQ910
    have N911 := Fr.app Nh909 Nq910
    obtain ⟨Lh912, Xh912, Nh912⟩ := oHd 21 89 X910 N911 rfl rfl
    refine ownSt st910 ?_
    clear st910
    show oA p e below _ T910 (fr_law m p1 p2 p3 104 (vR x21) (vR x31) (vI 1) (vR b365) (vR b365) (vR x867) (vI 0) [(iV 1)])
    refine oTo T910 (fr_law m p1 p2 p3 114 (vR x21) (vR x31) (vI 1) (vR b365) (vR b365) (vR x867) (vI 4) [(.ref x31), (iV 4), (.ref x867)]) (fun t kt => ?_) ?_
    ·refine XS.iconst Xh912.here hx rfl (D at_104) ?_
     refine XS.iadd Xh912.here hx rfl (D at_105) rfl ?_
     refine XS.istore Xh912.here hx rfl (D at_106) rfl (l' := #[vI p1, vI p2, vI p3, vR x21, vR x31, vI 1, vR b365, vR b365, vR x867, vI 4]) rfl ?_
     refine XS.aload Xh912.here hx rfl (D at_108) rfl rfl ?_
     refine XS.iload Xh912.here hx rfl (D at_110) rfl ?_
     refine XS.aload Xh912.here hx rfl (D at_112) rfl rfl ?_
     exact kt
    have f913 := (f873.keep Kq867)
    have f914 := ((f847.keep Kq854 (ninS ne387 (ninS ne398 nin0))).keep Kq867 nin0)
    have f915 := ((f848.keep Kq854 (ninS ne387 (ninS ne398 nin0))).keep Kq867 nin0)
    have f916 := (f875.keep Kq867 nin0)
    obtain ⟨vv917, _, ⟨T917, L917, k917, n917⟩, -, X917, ⟨Lc917, hQ917, l917, y917, z917⟩, st917⟩ := Jvm.LawKit.callS Xh912 hx (y := yM35) hown861 (mvT hZ861 (Wd171 hw)) (mvT hZ861 (Wd172 hw)) (mvT hZ861 (Wd2 hw)) (mvT hZ861 (Wd173 hw)) (by decide) (backOf (W := 0) (c_clg1 l Z a0 hw [] x867 t867 kn867 (8 : Int32) (oI [60, 47, oL f0, 62, 60, 47, oL g0, 62]) (4 : Int32) x31 t31 kb31 g0 G1 G3 T867.heap n0 f906 Eq867 Vq867 Cq867 Aq867 f913 f914 f915 f916 hr_g0 (by decide +kernel) (by decide +kernel) (oCl (by decide +kernel) rfl (by decide +kernel)) (oCl (by decide +kernel) rfl (by decide +kernel)) (oCl (by decide +kernel) rfl hr_g0) (oCl (by decide +kernel) rfl (by decide +kernel)) O2 P5 O4 rG3 f905) hZ861 (Wd173 hw) (Wd2 hw) (by decide) (by decide)) (g := (fr_law m p1 p2 p3 114 (vR x21) (vR x31) (vI 1) (vR b365) (vR b365) (vR x867) (vI 4) [(.ref x31), (iV 4), (.ref x867)])) rfl (by rw [hml]; rfl) (argsL := [(.ref x867), (iV 4), (.ref x31)]) (rest := []) (lenOf pd_36 rfl) rfl (oWt rfl) (D at_114) (fun _ _ => ⟨rfl, Eq910, oLe rfl, oLe rfl⟩)
    dsimp only [Pt.U, Pt.locs, Pt.cells, Pt.slots] at X917 l917 y917 z917 st917 hQ917
    subst l917 y917 z917
    obtain ⟨rfl, Nq917, Eq917⟩ := hQ917
    have N918 := Fr.app Nh912 Nq917
    obtain ⟨Lh919, Xh919, Nh919⟩ := oHd 21 89 X917 N918 rfl rfl
    refine ownBy st917 ?_
    clear st917
    show oA p e below _ T917 (fr_law m p1 p2 p3 117 (vR x21) (vR x31) (vI 1) (vR b365) (vR b365) (vR x867) (vI 4) [(iV 1)])
    refine oTo T917 (fr_law m p1 p2 p3 124 (vR x21) (vR x31) (vI 1) (vR b365) (vR b365) (vR x867) (vI 4) [(.ref x867)]) (fun t kt => ?_) ?_
    ·refine XS.ifYes Xh919.here hx rfl (pc0 := 117) (pc' := 122) rfl (D at_117) rfl ((if0 _ _).trans (feq ((by decide) : ¬ ((1 : Int32) = (0 : Int32)))).2) (by decide) (by decide) ?_
     refine XS.aload Xh919.here hx rfl (D at_122) rfl rfl ?_
     exact kt
    obtain ⟨cq920, kq920, q920a, q920b, q920c⟩ := isOf hZ861 Eq917 Eq867
    obtain ⟨vv920, _, ⟨T920, L920, k920, n920⟩, -, X920, ⟨Lc920, hQ920, l920, y920, z920⟩, st920⟩ := Xh919.virtualBack hx (y := yM4) (z := yM4) hown861 (mvT hZ861 (Wd174 hw)) (mvT hZ861 (Wd70 hw)) (oNf hZ861 (Wd72 hw)) (mvT hZ861 (Wd72 hw)) (mvT hZ861 (Wd71 hw)) (by decide) (backOf (W := 0) (c_leng l Z a0 hw [] x867 t867 kn867 (8 : Int32) (oI [60, 47, oL f0, 62, 60, 47, oL g0, 62]) G1 T867.heap n0 f906 Eq867 Vq867 Cq867 Aq867 (by decide +kernel) O2 P5 f905) hZ861 (Wd73 hw) (Wd6 hw) (by decide) (by decide)) q920a q920c (g := (fr_law m p1 p2 p3 124 (vR x21) (vR x31) (vI 1) (vR b365) (vR b365) (vR x867) (vI 4) [(.ref x867)])) rfl (by rw [hml]; rfl) (Steps.refl _) (argsL := []) (rest := []) (lenOf pd_15 rfl) rfl (oWt rfl) (D at_124) (fun _ _ => ⟨rfl, Eq917, oLe rfl, oLe rfl⟩)
    dsimp only [Pt.U, Pt.locs, Pt.cells, Pt.slots] at X920 l920 y920 z920 st920 hQ920
    subst l920 y920 z920
    obtain ⟨rfl, Nq920, Eq920⟩ := hQ920
    have N921 := Fr.app Nh919 Nq920
    obtain ⟨Lh922, Xh922, Nh922⟩ := oHd 21 89 X920 N921 rfl rfl
    refine ownSt st920 ?_
    clear st920
    show oA p e below _ T920 (fr_law m p1 p2 p3 127 (vR x21) (vR x31) (vI 1) (vR b365) (vR b365) (vR x867) (vI 4) [(iV 8)])
    refine oTo T920 (fr_law m p1 p2 p3 131 (vR x21) (vR x31) (vI 1) (vR b365) (vR b365) (vR x867) (vI 4) [(.ref x31), (iV 4), (iV 8)]) (fun t kt => ?_) ?_
    ·refine XS.iload Xh922.here hx rfl (D at_127) rfl ?_
     refine XS.aload Xh922.here hx rfl (D at_129) rfl rfl ?_
     exact kt
    obtain ⟨cq923, kq923, q923a, q923b, q923c⟩ := isOf hZ861 Eq920 f913
    obtain ⟨vv923, _, ⟨T923, L923, k923, n923⟩, -, X923, ⟨Lc923, hQ923, l923, y923, z923⟩, st923⟩ := Xh922.virtualBack hx (y := yM4) (z := yM4) hown861 (mvT hZ861 (Wd174 hw)) (mvT hZ861 (Wd70 hw)) (oNf hZ861 (Wd72 hw)) (mvT hZ861 (Wd72 hw)) (mvT hZ861 (Wd71 hw)) (by decide) (backOf (W := 2) (c_leng l Z a0 hw [] x31 t31 kb31 (1 : Int32) (oI [oL g0]) G1 T867.heap n0 f906 f913 f914 f915 f916 (by decide +kernel) O2 P5 f905) hZ861 (Wd73 hw) (Wd6 hw) (by decide) (by decide)) q923a q923c (g := (fr_law m p1 p2 p3 131 (vR x21) (vR x31) (vI 1) (vR b365) (vR b365) (vR x867) (vI 4) [(.ref x31), (iV 4), (iV 8)])) rfl (by rw [hml]; rfl) (Steps.refl _) (argsL := []) (rest := [(iV 4), (iV 8)]) (lenOf pd_15 rfl) rfl (oWt rfl) (D at_131) (fun _ _ => ⟨rfl, Eq920, oLe rfl, oLe rfl⟩)
    dsimp only [Pt.U, Pt.locs, Pt.cells, Pt.slots] at X923 l923 y923 z923 st923 hQ923
    subst l923 y923 z923
    obtain ⟨rfl, Nq923, Eq923⟩ := hQ923
    have N924 := Fr.app Nh922 Nq923
    obtain ⟨Lh925, Xh925, Nh925⟩ := oHd 21 89 X923 N924 rfl rfl
    refine ownSt st923 ?_
    clear st923
    show oA p e below _ T923 (fr_law m p1 p2 p3 134 (vR x21) (vR x31) (vI 1) (vR b365) (vR b365) (vR x867) (vI 4) [(iV 1), (iV 4), (iV 8)])
    refine oTo T923 (fr_law m p1 p2 p3 145 (vR x21) (vR x31) (vI 1) (vR b365) (vR b365) (vR x867) (vI 4) [(iV 1)]) (fun t kt => ?_) ?_
    ·refine XS.iadd Xh925.here hx rfl (D at_134) rfl ?_
     refine XS.iconst Xh925.here hx rfl (D at_135) ?_
     refine XS.iadd Xh925.here hx rfl (D at_136) rfl ?_
     refine XS.icmpNo Xh925.here hx rfl (D at_137) rfl (teq ((by decide) : (8 : Int32) = (8 : Int32))).2 ?_
     refine XS.iconst Xh925.here hx rfl (D at_140) ?_
     refine XS.goto Xh925.here hx rfl (pc0 := 141) (pc' := 145) rfl (D at_141) (by decide) (by decide) ?_
     exact kt
    refine ownRetH Xh925 hSR861 (by rw [Eq923]; exact (Nat.le_trans (Nat.le_refl _) Kq867.1)) Bd.notSynchronized (v := some (.int (nar .boolean (1 : Int32)))) (fun h => by rw [Bd.returns] at h; cases h) ?_ (R894.trans ((by rw [Eq923]; exact CHv.at Xh925 hZ861 hEL R894.1))) (oLe rfl) (oLe rfl) (fun fs hr => retN Xh925 hx (t := .boolean) Bd.returns (by simp) (D at_145) hr)
    show (Q_law Z p1 p2 p3 G1 G3 h0 n0) (some (.int (nar .boolean (1 : Int32)))) T923.heap _
    rw [Eq923]
    exact ⟨rfl, Nh925⟩
   ·skip
    refine oTo T756 (fr_law m p1 p2 p3 59 (vR x21) (vR x31) (vI 1) (vR b365) (vR b365) .unset .unset [(.ref x31), (.ref b365)]) (fun t kt => ?_) ?_
    ·refine XS.aload Xh764.here hx rfl (D at_55) rfl rfl ?_
     refine XS.aload Xh764.here hx rfl (D at_57) rfl rfl ?_
     exact kt
    have f927 := ((f388.keep Kq382).keep Kq756)
    have f928 := (((Vq31.ext E365).keep Kq382 (ninS ne370 nin0)).keep Kq756 (ninS ne387 (ninS ne398 nin0)))
    have f929 := (((Cq31.ext E365).keep Kq382 (ninS ne370 nin0)).keep Kq756 (ninS ne387 (ninS ne398 nin0)))
    have f930 := ((f390.keep Kq382 (ninS ne371 nin0)).keep Kq756 (ninS ne389 (ninS ne399 nin0)))
    have f931 := (Eh382.keep Kq756)
    have f932 := (Fh382.keep Kq756 (ninS ne391 (ninS ne400 nin0)))
    have f933 := (f754.keep Kq756 (allS g392 (allS g401 all0)))
    have f934 := (Nat.le_trans f755 Kq756.1)
    obtain ⟨cq935, kq935, q935a, q935b, q935c⟩ := isOf hZ763 rfl f931
    obtain ⟨vv935, _, ⟨T935, L935, k935, n935⟩, -, X935, hS935, hg935, ⟨Lc935, hQ935, l935, y935, z935, hC935⟩, st935⟩ := Xh764.virtualBackS hx (y := yM33) (z := yM33) hown763 (mvT hZ763 (Wd53 hw)) (mvT hZ763 (Wd54 hw)) (oNf hZ763 (Wd56 hw)) (mvT hZ763 (Wd56 hw)) (mvT hZ763 (Wd55 hw)) (by decide) (backOfSH (W := 0) (s := s) (EL := ownEL) (c_hcl l Z a0 hw [] b365 x31 t31 kb31 (2 : Int32) (oI [oL g0, oL g1]) sb382 t382 kv382 (16 : Int32) (oI [60, 47, oL f0, 62, 0, 0, 0, 0, 0, 0, 0, 0, 0, 0, 0, 0]) (4 : Int32) (oI [60, 47, oL f0, 62, 60, 47, 0, 0, 0, 0, 0, 0, 0, 0, 0, 0]) (oI [60, 47, oL f0, 62, 60, 47, oL g0, oL g1, 0, 0, 0, 0, 0, 0, 0, 0]) (oI [60, 47, oL f0, 62, 60, 47, oL g0, oL g1, 62, 0, 0, 0, 0, 0, 0, 0]) (6 : Int32) (8 : Int32) (9 : Int32) G1 T756.heap n0 f934 f931 f932 f927 f928 f929 f930 Eq756 Vq756 Cq756 Mq756 Aq756 g392 g401 ne399 (by decide +kernel) (oCp (by decide +kernel) rfl rfl rfl) (oCp (by decide +kernel) rfl rfl rfl) (oCq (by decide +kernel) rfl rfl) O2 P5 f933) hZ763 (Wd57 hw) (Wd28 hw) (by decide) (by decide) hEL R759.1) q935a q935c (g := (fr_law m p1 p2 p3 59 (vR x21) (vR x31) (vI 1) (vR b365) (vR b365) .unset .unset [(.ref x31), (.ref b365)])) rfl (by rw [hml]; rfl) (Steps.refl _) (argsL := [(.ref x31)]) (rest := []) (lenOf pd_35 rfl) rfl (oWt rfl) (D at_59) (fun _ _ => ⟨rfl, rfl, oLe rfl, oLe rfl⟩)
    dsimp only [Pt.U, Pt.locs, Pt.cells, Pt.slots] at X935 l935 y935 z935 st935 hQ935 hS935 hg935 hC935
    subst l935 y935 z935
    obtain ⟨rfl, Nq935, Kq935, Eq935, Vq935, Cq935, Mq935, Aq935⟩ := hQ935
    have N936 := Fr.app Nh764 Nq935
    have R938 := R759.trans hC935
    have sf939 := CHr.safe hC935 f931.lt sf760
    have sf940 := CHr.safe hC935 Eq756.lt sf761
    have sf941 := CHr.safe hC935 Aq756.lt sf762
    obtain ⟨XR942, hSR942, hZ942, hown942⟩ := rebS hSR763 (Nat.le_refl _) X935 hS935 hg935 hZ763 hown763
    obtain ⟨Lh943, Xh943, Nh943⟩ := oHd 19 69 XR942 N936 rfl rfl
    refine ownSt st935 ?_
    clear st935
    show oA p e below _ T935 (fr_law m p1 p2 p3 62 (vR x21) (vR x31) (vI 1) (vR b365) (vR b365) .unset .unset [(.ref b365)])
    refine oTo T935 (fr_law m p1 p2 p3 75 (vR x21) (vR x31) (vI 1) (vR b365) (vR b365) .unset .unset [(.ref b365)]) (fun t kt => ?_) ?_
    ·refine XS.astore Xh943.here hx rfl (D at_62) rfl rfl (l' := #[vI p1, vI p2, vI p3, vR x21, vR x31, vI 1, vR b365, vR b365, .unset, .unset]) rfl ?_
     refine XS.aload Xh943.here hx rfl (D at_64) rfl rfl ?_
     refine XS.aload Xh943.here hx rfl (D at_66) rfl rfl ?_
     refine Jvm.RoadKit.acmp (g := (fr_law m p1 p2 p3 68 (vR x21) (vR x31) (vI 1) (vR b365) (vR b365) .unset .unset [(.ref b365), (.ref b365)])) Xh943 hx rfl rfl rfl (pc0 := 68) (pc' := 73) (same := true) rfl (D at_68) rfl (decide_eq_true rfl) (by decide) (by decide) ?_
     refine XS.aload Xh943.here hx rfl (D at_73) rfl rfl ?_
     exact kt
    have f944 := (f931.keep Kq935)
    have f945 := (f932.keep Kq935 (ninS ne391 (ninS ne400 nin0)))
    have f946 := (f933.keep Kq935 (allS g392 (allS g401 all0)))
    have f947 := (Nat.le_trans f934 Kq935.1)
    obtain ⟨cq948, kq948, q948a, q948b, q948c⟩ := isOf hZ942 rfl f944
    obtain ⟨vv948, _, ⟨T948, L948, k948, n948⟩, -, X948, ⟨Lc948, hQ948, l948, y948, z948⟩, st948⟩ := Xh943.virtualBack hx (y := yM34) (z := yM34) hown942 (mvT hZ942 (Wd125 hw)) (mvT hZ942 (Wd126 hw)) (oNf hZ942 (Wd128 hw)) (mvT hZ942 (Wd128 hw)) (mvT hZ942 (Wd127 hw)) (by decide) (backOf (W := 0) (c_hts l Z a0 hw [] b365 sb382 t382 kv382 (16 : Int32) (oI [60, 47, oL f0, 62, 60, 47, oL g0, oL g1, 62, 0, 0, 0, 0, 0, 0, 0]) (9 : Int32) (oI [60, 47, oL f0, 62, 60, 47, oL g0, oL g1, 62]) G1 T935.heap n0 f947 f944 f945 Eq935 Vq935 Cq935 Mq935 Aq935 (oCr (by decide +kernel) rfl) O2 P5 f946) hZ942 (Wd129 hw) (Wd28 hw) (by decide) (by decide)) q948a q948c (g := (fr_law m p1 p2 p3 75 (vR x21) (vR x31) (vI 1) (vR b365) (vR b365) .unset .unset [(.ref b365)])) rfl (by rw [hml]; rfl) (Steps.refl _) (argsL := []) (rest := []) (lenOf pd_32 rfl) rfl (oWt rfl) (D at_75) (fun _ _ => ⟨rfl, rfl, oLe rfl, oLe rfl⟩)
    dsimp only [Pt.U, Pt.locs, Pt.cells, Pt.slots] at X948 l948 y948 z948 st948 hQ948
    subst l948 y948 z948
    obtain ⟨x948, t948, kn948, rfl, Nq948, Kq948, zx948, zq948, Eq948, Vq948, Cq948, Aq948⟩ := hQ948
    have f950 := ((f750.keep Kq756).keep Kq935)
    have ne949 : x21 ≠ x948 := Nat.ne_of_lt (Nat.lt_of_lt_of_le f950.lt zx948)
    have f952 := ((f753.keep Kq756 (ninS ne385 (ninS ne397 nin0))).keep Kq935 (ninS ne385 (ninS ne397 nin0)))
    have ne951 : t21 ≠ x948 := Nat.ne_of_lt (Nat.lt_of_lt_of_le f952.lt zx948)
    have f954 := (f927.keep Kq935)
    have ne953 : x31 ≠ x948 := Nat.ne_of_lt (Nat.lt_of_lt_of_le f954.lt zx948)
    have f956 := (f930.keep Kq935 (ninS ne389 (ninS ne399 nin0)))
    have ne955 : t31 ≠ x948 := Nat.ne_of_lt (Nat.lt_of_lt_of_le f956.lt zx948)
    have ne957 : b365 ≠ x948 := Nat.ne_of_lt (Nat.lt_of_lt_of_le f944.lt zx948)
    have ne958 : sb382 ≠ x948 := Nat.ne_of_lt (Nat.lt_of_lt_of_le Eq935.lt zx948)
    have ne959 : t382 ≠ x948 := Nat.ne_of_lt (Nat.lt_of_lt_of_le Aq935.lt zx948)
    have g960 : n0 ≤ x948 := Nat.le_trans f947 zx948
    have sf961 : Safe Z ownEL T935.vm T935.heap x948 := Safe.new zx948
    have f963 := (Nat.le_trans (Nat.le_trans (Nat.le_trans f395 Kq382.1) Kq756.1) Kq935.1)
    have z962 : h0.size ≤ x948 := Nat.le_trans f963 zx948
    have ne964 : x21 ≠ t948 := Nat.ne_of_lt (Nat.lt_of_lt_of_le f950.lt zq948)
    have ne965 : t21 ≠ t948 := Nat.ne_of_lt (Nat.lt_of_lt_of_le f952.lt zq948)
    have ne966 : x31 ≠ t948 := Nat.ne_of_lt (Nat.lt_of_lt_of_le f954.lt zq948)
    have ne967 : t31 ≠ t948 := Nat.ne_of_lt (Nat.lt_of_lt_of_le f956.lt zq948)
    have ne968 : b365 ≠ t948 := Nat.ne_of_lt (Nat.lt_of_lt_of_le f944.lt zq948)
    have ne969 : sb382 ≠ t948 := Nat.ne_of_lt (Nat.lt_of_lt_of_le Eq935.lt zq948)
    have ne970 : t382 ≠ t948 := Nat.ne_of_lt (Nat.lt_of_lt_of_le Aq935.lt zq948)
    have g971 : n0 ≤ t948 := Nat.le_trans f947 zq948
    have sf972 : Safe Z ownEL T935.vm T935.heap t948 := Safe.new zq948
    have z973 : h0.size ≤ t948 := Nat.le_trans f963 zq948
    have N974 := Fr.app Nh943 Nq948
    have R975 := R938.trans (CHr.keep Kq948 sf0 R938.1)
    have sf976 := Safe.keep Kq948 sf0 R938.1 sf939
    have sf977 := Safe.keep Kq948 sf0 R938.1 sf940
    have sf978 := Safe.keep Kq948 sf0 R938.1 sf941
    have sf979 := Safe.keep Kq948 sf0 R938.1 sf961
    have sf980 := Safe.keep Kq948 sf0 R938.1 sf972
    obtain ⟨Lh981, Xh981, Nh981⟩ := oHd 21 89 X948 N974 rfl rfl
    refine ownSt st948 ?_
    clear st948
    show oA p e below _ T948 (fr_law m p1 p2 p3 78 (vR x21) (vR x31) (vI 1) (vR b365) (vR b365) .unset .unset [(.ref x948)])
    refine oTo T948 (fr_law m p1 p2 p3 92 (vR x21) (vR x31) (vI 1) (vR b365) (vR b365) (vR x948) (vI 0) [(.ref x21), (iV 0), (.ref x948)]) (fun t kt => ?_) ?_
    ·refine XS.astore Xh981.here hx rfl (D at_78) rfl rfl (l' := #[vI p1, vI p2, vI p3, vR x21, vR x31, vI 1, vR b365, vR b365, vR x948, .unset]) rfl ?_
     refine XS.iconst Xh981.here hx rfl (D at_80) ?_
     refine XS.istore Xh981.here hx rfl (D at_81) rfl (l' := #[vI p1, vI p2, vI p3, vR x21, vR x31, vI 1, vR b365, vR b365, vR x948, vI 0]) rfl ?_
     refine XS.iload Xh981.here hx rfl (D at_83) rfl ?_
     refine XS.ifNo Xh981.here hx rfl (D at_85) rfl ((if0 _ _).trans (feq ((by decide) : ¬ ((1 : Int32) = (0 : Int32)))).1) ?_
     refine XS.aload Xh981.here hx rfl (D at_88) rfl rfl ?_
     refine XS.iconst Xh981.here hx rfl (D at_90) ?_
     refine XS.aloadN Xh981.here hx rfl (D at_91) rfl rfl ?_
     exact kt
    have f982 := (f950.keep Kq948)
    have f983 := (((f751.keep Kq756 (ninS ne383 (ninS ne396 nin0))).keep Kq935 (ninS ne383 (ninS ne396 nin0))).keep Kq948 nin0)
    have f984 := (((f752.keep Kq756 (ninS ne383 (ninS ne396 nin0))).keep Kq935 (ninS ne383 (ninS ne396 nin0))).keep Kq948 nin0)
    have f985 := (f952.keep Kq948 nin0)
    have f986 := (f946.keep Kq948 all0)
    have f987 := (Nat.le_trans f947 Kq948.1)
    obtain ⟨vv988, _, ⟨T988, L988, k988, n988⟩, -, X988, ⟨Lc988, hQ988, l988, y988, z988⟩, st988⟩ := Jvm.LawKit.callS Xh981 hx (y := yM35) hown942 (mvT hZ942 (Wd171 hw)) (mvT hZ942 (Wd172 hw)) (mvT hZ942 (Wd2 hw)) (mvT hZ942 (Wd173 hw)) (by decide) (backOf (W := 0) (c_clg1 l Z a0 hw [] x948 t948 kn948 (9 : Int32) (oI [60, 47, oL f0, 62, 60, 47, oL g0, oL g1, 62]) (0 : Int32) x21 t21 kb21 f0 G1 G3 T948.heap n0 f987 Eq948 Vq948 Cq948 Aq948 f982 f983 f984 f985 hr_f0 (by decide +kernel) (by decide +kernel) (oCl (by decide +kernel) rfl (by decide +kernel)) (oCl (by decide +kernel) rfl (by decide +kernel)) (oCl (by decide +kernel) rfl hr_f0) (oCl (by decide +kernel) rfl (by decide +kernel)) O2 P5 O4 rG3 f986) hZ942 (Wd173 hw) (Wd2 hw) (by decide) (by decide)) (g := (fr_law m p1 p2 p3 92 (vR x21) (vR x31) (vI 1) (vR b365) (vR b365) (vR x948) (vI 0) [(.ref x21), (iV 0), (.ref x948)])) rfl (by rw [hml]; rfl) (argsL := [(.ref x948), (iV 0), (.ref x21)]) (rest := []) (lenOf pd_36 rfl) rfl (oWt rfl) (D at_92) (fun _ _ => ⟨rfl, rfl, oLe rfl, oLe rfl⟩)
    dsimp only [Pt.U, Pt.locs, Pt.cells, Pt.slots] at X988 l988 y988 z988 st988 hQ988
    subst l988 y988 z988
    obtain ⟨rfl, Nq988, Eq988⟩ := hQ988
    have N989 := Fr.app Nh981 Nq988
    obtain ⟨Lh990, Xh990, Nh990⟩ := oHd 21 89 X988 N989 rfl rfl
    refine ownBy st988 ?_
    clear st988
    show oA p e below _ T988 (fr_law m p1 p2 p3 95 (vR x21) (vR x31) (vI 1) (vR b365) (vR b365) (vR x948) (vI 0) [(iV 1)])
    refine oTo T988 (fr_law m p1 p2 p3 101 (vR x21) (vR x31) (vI 1) (vR b365) (vR b365) (vR x948) (vI 0) [(.ref x21)]) (fun t kt => ?_) ?_
    ·refine XS.ifYes Xh990.here hx rfl (pc0 := 95) (pc' := 100) rfl (D at_95) rfl ((if0 _ _).trans (feq ((by decide) : ¬ ((1 : Int32) = (0 : Int32)))).2) (by decide) (by decide) ?_
     refine XS.aloadN Xh990.here hx rfl (D at_100) rfl rfl ?_
     exact kt
    obtain ⟨cq991, kq991, q991a, q991b, q991c⟩ := isOf hZ942 Eq988 f982
    obtain ⟨vv991, _, ⟨T991, L991, k991, n991⟩, -, X991, ⟨Lc991, hQ991, l991, y991, z991⟩, st991⟩ := Xh990.virtualBack hx (y := yM4) (z := yM4) hown942 (mvT hZ942 (Wd174 hw)) (mvT hZ942 (Wd70 hw)) (oNf hZ942 (Wd72 hw)) (mvT hZ942 (Wd72 hw)) (mvT hZ942 (Wd71 hw)) (by decide) (backOf (W := 0) (c_leng l Z a0 hw [] x21 t21 kb21 (1 : Int32) (oI [oL f0]) G1 T948.heap n0 f987 f982 f983 f984 f985 (by decide +kernel) O2 P5 f986) hZ942 (Wd73 hw) (Wd6 hw) (by decide) (by decide)) q991a q991c (g := (fr_law m p1 p2 p3 101 (vR x21) (vR x31) (vI 1) (vR b365) (vR b365) (vR x948) (vI 0) [(.ref x21)])) rfl (by rw [hml]; rfl) (Steps.refl _) (argsL := []) (rest := []) (lenOf pd_15 rfl) rfl (oWt rfl) (D at_101) (fun _ _ => ⟨rfl, Eq988, oLe rfl, oLe rfl⟩)
    dsimp only [Pt.U, Pt.locs, Pt.cells, Pt.slots] at X991 l991 y991 z991 st991 hQ991
    subst l991 y991 z991
    obtain ⟨rfl, Nq991, Eq991⟩ := hQ991
    have N992 := Fr.app Nh990 Nq991
    obtain ⟨Lh993, Xh993, Nh993⟩ := oHd 21 89 X991 N992 rfl rfl
    refine ownSt st991 ?_
    clear st991
    show oA p e below _ T991 (fr_law m p1 p2 p3 104 (vR x21) (vR x31) (vI 1) (vR b365) (vR b365) (vR x948) (vI 0) [(iV 1)])
    refine oTo T991 (fr_law m p1 p2 p3 114 (vR x21) (vR x31) (vI 1) (vR b365) (vR b365) (vR x948) (vI 4) [(.ref x31), (iV 4), (.ref x948)]) (fun t kt => ?_) ?_
    ·refine XS.iconst Xh993.here hx rfl (D at_104) ?_
     refine XS.iadd Xh993.here hx rfl (D at_105) rfl ?_
     refine XS.istore Xh993.here hx rfl (D at_106) rfl (l' := #[vI p1, vI p2, vI p3, vR x21, vR x31, vI 1, vR b365, vR b365, vR x948, vI 4]) rfl ?_
     refine XS.aload Xh993.here hx rfl (D at_108) rfl rfl ?_
     refine XS.iload Xh993.here hx rfl (D at_110) rfl ?_
     refine XS.aload Xh993.here hx rfl (D at_112) rfl rfl ?_
     exact kt
    have f994 := (f954.keep Kq948)
    have f995 := ((f928.keep Kq935 (ninS ne387 (ninS ne398 nin0))).keep Kq948 nin0)
    have f996 := ((f929.keep Kq935 (ninS ne387 (ninS ne398 nin0))).keep Kq948 nin0)
    have f997 := (f956.keep Kq948 nin0)
    obtain ⟨vv998, _, ⟨T998, L998, k998, n998⟩, -, X998, ⟨Lc998, hQ998, l998, y998, z998⟩, st998⟩ := Jvm.LawKit.callS Xh993 hx (y := yM35) hown942 (mvT hZ942 (Wd171 hw)) (mvT hZ942 (Wd172 hw)) (mvT hZ942 (Wd2 hw)) (mvT hZ942 (Wd173 hw)) (by decide) (backOf (W := 0) (c_clg2 l Z a0 hw [] x948 t948 kn948 (9 : Int32) (oI [60, 47, oL f0, 62, 60, 47, oL g0, oL g1, 62]) (4 : Int32) x31 t31 kb31 g0 g1 G1 G3 T948.heap n0 f987 Eq948 Vq948 Cq948 Aq948 f994 f995 f996 f997 hr_g0 hr_g1 (by decide +kernel) (by decide +kernel) (oCl (by decide +kernel) rfl (by decide +kernel)) (oCl (by decide +kernel) rfl (by decide +kernel)) (oCl (by decide +kernel) rfl hr_g0) (oCl (by decide +kernel) rfl hr_g1) (oCl (by decide +kernel) rfl (by decide +kernel)) O2 P5 O4 rG3 f986) hZ942 (Wd173 hw) (Wd2 hw) (by decide) (by decide)) (g := (fr_law m p1 p2 p3 114 (vR x21) (vR x31) (vI 1) (vR b365) (vR b365) (vR x948) (vI 4) [(.ref x31), (iV 4), (.ref x948)])) rfl (by rw [hml]; rfl) (argsL := [(.ref x948), (iV 4), (.ref x31)]) (rest := []) (lenOf pd_36 rfl) rfl (oWt rfl) (D at_114) (fun _ _ => ⟨rfl, Eq991, oLe rfl, oLe rfl⟩)
    dsimp only [Pt.U, Pt.locs, Pt.cells, Pt.slots] at X998 l998 y998 z998 st998 hQ998
    subst l998 y998 z998
    obtain ⟨rfl, Nq998, Eq998⟩ := hQ998
    have N999 := Fr.app Nh993 Nq998
    obtain ⟨Lh1000, Xh1000, Nh1000⟩ := oHd 21 89 X998 N999 rfl rfl
    refine ownBy st998 ?_
    clear st998
    show oA p e below _ T998 (fr_law m p1 p2 p3 117 (vR x21) (vR x31) (vI 1) (vR b365) (vR b365) (vR x948) (vI 4) [(iV 1)])
    refine oTo T998 (fr_law m p1 p2 p3 124 (vR x21) (vR x31) (vI 1) (vR b365) (vR b365) (vR x948) (vI 4) [(.ref x948)]) (fun t kt => ?_) ?_
    ·refine XS.ifYes Xh1000.here hx rfl (pc0 := 117) (pc' := 122) rfl (D at_117) rfl ((if0 _ _).trans (feq ((by decide) : ¬ ((1 : Int32) = (0 : Int32)))).2) (by decide) (by decide) ?_
     refine XS.aload Xh1000.here hx rfl (D at_122) rfl rfl ?_
     exact kt
    obtain ⟨cq1001, kq1001, q1001a, q1001b, q1001c⟩ := isOf hZ942 Eq998 Eq948
    obtain ⟨vv1001, _, ⟨T1001, L1001, k1001, n1001⟩, -, X1001, ⟨Lc1001, hQ1001, l1001, y1001, z1001⟩, st1001⟩ := Xh1000.virtualBack hx (y := yM4) (z := yM4) hown942 (mvT hZ942 (Wd174 hw)) (mvT hZ942 (Wd70 hw)) (oNf hZ942 (Wd72 hw)) (mvT hZ942 (Wd72 hw)) (mvT hZ942 (Wd71 hw)) (by decide) (backOf (W := 0) (c_leng l Z a0 hw [] x948 t948 kn948 (9 : Int32) (oI [60, 47, oL f0, 62, 60, 47, oL g0, oL g1, 62]) G1 T948.heap n0 f987 Eq948 Vq948 Cq948 Aq948 (by decide +kernel) O2 P5 f986) hZ942 (Wd73 hw) (Wd6 hw) (by decide) (by decide)) q1001a q1001c (g := (fr_law m p1 p2 p3 124 (vR x21) (vR x31) (vI 1) (vR b365) (vR b365) (vR x948) (vI 4) [(.ref x948)])) rfl (by rw [hml]; rfl) (Steps.refl _) (argsL := []) (rest := []) (lenOf pd_15 rfl) rfl (oWt rfl) (D at_124) (fun _ _ => ⟨rfl, Eq998, oLe rfl, oLe rfl⟩)
    dsimp only [Pt.U, Pt.locs, Pt.cells, Pt.slots] at X1001 l1001 y1001 z1001 st1001 hQ1001
    subst l1001 y1001 z1001
    obtain ⟨rfl, Nq1001, Eq1001⟩ := hQ1001
    have N1002 := Fr.app Nh1000 Nq1001
    obtain ⟨Lh1003, Xh1003, Nh1003⟩ := oHd 21 89 X1001 N1002 rfl rfl
    refine ownSt st1001 ?_
    clear st1001
    show oA p e below _ T1001 (fr_law m p1 p2 p3 127 (vR x21) (vR x31) (vI 1) (vR b365) (vR b365) (vR x948) (vI 4) [(iV 9)])
    refine oTo T1001 (fr_law m p1 p2 p3 131 (vR x21) (vR x31) (vI 1) (vR b365) (vR b365) (vR x948) (vI 4) [(.ref x31), (iV 4), (iV 9)]) (fun t kt => ?_) ?_
    ·refine XS.iload Xh1003.here hx rfl (D at_127) rfl ?_
     refine XS.aload Xh1003.here hx rfl (D at_129) rfl rfl ?_
     exact kt
    obtain ⟨cq1004, kq1004, q1004a, q1004b, q1004c⟩ := isOf hZ942 Eq1001 f994
    obtain ⟨vv1004, _, ⟨T1004, L1004, k1004, n1004⟩, -, X1004, ⟨Lc1004, hQ1004, l1004, y1004, z1004⟩, st1004⟩ := Xh1003.virtualBack hx (y := yM4) (z := yM4) hown942 (mvT hZ942 (Wd174 hw)) (mvT hZ942 (Wd70 hw)) (oNf hZ942 (Wd72 hw)) (mvT hZ942 (Wd72 hw)) (mvT hZ942 (Wd71 hw)) (by decide) (backOf (W := 2) (c_leng l Z a0 hw [] x31 t31 kb31 (2 : Int32) (oI [oL g0, oL g1]) G1 T948.heap n0 f987 f994 f995 f996 f997 (by decide +kernel) O2 P5 f986) hZ942 (Wd73 hw) (Wd6 hw) (by decide) (by decide)) q1004a q1004c (g := (fr_law m p1 p2 p3 131 (vR x21) (vR x31) (vI 1) (vR b365) (vR b365) (vR x948) (vI 4) [(.ref x31), (iV 4), (iV 9)])) rfl (by rw [hml]; rfl) (Steps.refl _) (argsL := []) (rest := [(iV 4), (iV 9)]) (lenOf pd_15 rfl) rfl (oWt rfl) (D at_131) (fun _ _ => ⟨rfl, Eq1001, oLe rfl, oLe rfl⟩)
    dsimp only [Pt.U, Pt.locs, Pt.cells, Pt.slots] at X1004 l1004 y1004 z1004 st1004 hQ1004
    subst l1004 y1004 z1004
    obtain ⟨rfl, Nq1004, Eq1004⟩ := hQ1004
    have N1005 := Fr.app Nh1003 Nq1004
    obtain ⟨Lh1006, Xh1006, Nh1006⟩ := oHd 21 89 X1004 N1005 rfl rfl
    refine ownSt st1004 ?_
    clear st1004
    show oA p e below _ T1004 (fr_law m p1 p2 p3 134 (vR x21) (vR x31) (vI 1) (vR b365) (vR b365) (vR x948) (vI 4) [(iV 2), (iV 4), (iV 9)])
    refine oTo T1004 (fr_law m p1 p2 p3 145 (vR x21) (vR x31) (vI 1) (vR b365) (vR b365) (vR x948) (vI 4) [(iV 1)]) (fun t kt => ?_) ?_
    ·refine XS.iadd Xh1006.here hx rfl (D at_134) rfl ?_
     refine XS.iconst Xh1006.here hx rfl (D at_135) ?_
     refine XS.iadd Xh1006.here hx rfl (D at_136) rfl ?_
     refine XS.icmpNo Xh1006.here hx rfl (D at_137) rfl (teq ((by decide) : (9 : Int32) = (9 : Int32))).2 ?_
     refine XS.iconst Xh1006.here hx rfl (D at_140) ?_
     refine XS.goto Xh1006.here hx rfl (pc0 := 141) (pc' := 145) rfl (D at_141) (by decide) (by decide) ?_
     exact kt
    refine ownRetH Xh1006 hSR942 (by rw [Eq1004]; exact (Nat.le_trans (Nat.le_refl _) Kq948.1)) Bd.notSynchronized (v := some (.int (nar .boolean (1 : Int32)))) (fun h => by rw [Bd.returns] at h; cases h) ?_ (R975.trans ((by rw [Eq1004]; exact CHv.at Xh1006 hZ942 hEL R975.1))) (oLe rfl) (oLe rfl) (fun fs hr => retN Xh1006 hx (t := .boolean) Bd.returns (by simp) (D at_145) hr)
    show (Q_law Z p1 p2 p3 G1 G3 h0 n0) (some (.int (nar .boolean (1 : Int32)))) T1004.heap _
    rw [Eq1004]
    exact ⟨rfl, Nh1006⟩
   ·skip
    refine oTo T756 (fr_law m p1 p2 p3 59 (vR x21) (vR x31) (vI 1) (vR b365) (vR b365) .unset .unset [(.ref x31), (.ref b365)]) (fun t kt => ?_) ?_
    ·refine XS.aload Xh764.here hx rfl (D at_55) rfl rfl ?_
     refine XS.aload Xh764.here hx rfl (D at_57) rfl rfl ?_
     exact kt
    have f1008 := ((f388.keep Kq382).keep Kq756)
    have f1009 := (((Vq31.ext E365).keep Kq382 (ninS ne370 nin0)).keep Kq756 (ninS ne387 (ninS ne398 nin0)))
    have f1010 := (((Cq31.ext E365).keep Kq382 (ninS ne370 nin0)).keep Kq756 (ninS ne387 (ninS ne398 nin0)))
    have f1011 := ((f390.keep Kq382 (ninS ne371 nin0)).keep Kq756 (ninS ne389 (ninS ne399 nin0)))
    have f1012 := (Eh382.keep Kq756)
    have f1013 := (Fh382.keep Kq756 (ninS ne391 (ninS ne400 nin0)))
    have f1014 := (f754.keep Kq756 (allS g392 (allS g401 all0)))
    have f1015 := (Nat.le_trans f755 Kq756.1)
    obtain ⟨cq1016, kq1016, q1016a, q1016b, q1016c⟩ := isOf hZ763 rfl f1012
    obtain ⟨vv1016, _, ⟨T1016, L1016, k1016, n1016⟩, -, X1016, hS1016, hg1016, ⟨Lc1016, hQ1016, l1016, y1016, z1016, hC1016⟩, st1016⟩ := Xh764.virtualBackS hx (y := yM33) (z := yM33) hown763 (mvT hZ763 (Wd53 hw)) (mvT hZ763 (Wd54 hw)) (oNf hZ763 (Wd56 hw)) (mvT hZ763 (Wd56 hw)) (mvT hZ763 (Wd55 hw)) (by decide) (backOfSH (W := 0) (s := s) (EL := ownEL) (c_hcl l Z a0 hw [] b365 x31 t31 kb31 (3 : Int32) (oI [oL g0, oL g1, oL g2]) sb382 t382 kv382 (16 : Int32) (oI [60, 47, oL f0, 62, 0, 0, 0, 0, 0, 0, 0, 0, 0, 0, 0, 0]) (4 : Int32) (oI [60, 47, oL f0, 62, 60, 47, 0, 0, 0, 0, 0, 0, 0, 0, 0, 0]) (oI [60, 47, oL f0, 62, 60, 47, oL g0, oL g1, oL g2, 0, 0, 0, 0, 0, 0, 0]) (oI [60, 47, oL f0, 62, 60, 47, oL g0, oL g1, oL g2, 62, 0, 0, 0, 0, 0, 0]) (6 : Int32) (9 : Int32) (10 : Int32) G1 T756.heap n0 f1015 f1012 f1013 f1008 f1009 f1010 f1011 Eq756 Vq756 Cq756 Mq756 Aq756 g392 g401 ne399 (by decide +kernel) (oCp (by decide +kernel) rfl rfl rfl) (oCp (by decide +kernel) rfl rfl rfl) (oCq (by decide +kernel) rfl rfl) O2 P5 f1014) hZ763 (Wd57 hw) (Wd28 hw) (by decide) (by decide) hEL R759.1) q1016a q1016c (g := (fr_law m p1 p2 p3 59 (vR x21) (vR x31) (vI 1) (vR b365) (vR b365) .unset .unset [(.ref x31), (.ref b365)])) rfl (by rw [hml]; rfl) (Steps.refl _) (argsL := [(.ref x31)]) (rest := []) (lenOf pd_35 rfl) rfl (oWt rfl) (D at_59) (fun _ _ => ⟨rfl, rfl, oLe rfl, oLe rfl⟩)
    dsimp only [Pt.U, Pt.locs, Pt.cells, Pt.slots] at X1016 l1016 y1016 z1016 st1016 hQ1016 hS1016 hg1016 hC1016
    subst l1016 y1016 z1016
    obtain ⟨rfl, Nq1016, Kq1016, Eq1016, Vq1016, Cq1016, Mq1016, Aq1016⟩ := hQ1016
    have N1017 := Fr.app Nh764 Nq1016
    have R1019 := R759.trans hC1016
    have sf1020 := CHr.safe hC1016 f1012.lt sf760
    have sf1021 := CHr.safe hC1016 Eq756.lt sf761
    have sf1022 := CHr.safe hC1016 Aq756.lt sf762
    obtain ⟨XR1023, hSR1023, hZ1023, hown1023⟩ := rebS hSR763 (Nat.le_refl _) X1016 hS1016 hg1016 hZ763 hown763
    obtain ⟨Lh1024, Xh1024, Nh1024⟩ := oHd 19 69 XR1023 N1017 rfl rfl
    refine ownSt st1016 ?_
    clear st1016
    show oA p e below _ T1016 (fr_law m p1 p2 p3 62 (vR x21) (vR x31) (vI 1) (vR b365) (vR b365) .unset .unset [(.ref b365)])
    refine oTo T1016 (fr_law m p1 p2 p3 75 (vR x21) (vR x31) (vI 1) (vR b365) (vR b365) .unset .unset [(.ref b365)]) (fun t kt => ?_) ?_
    ·refine XS.astore Xh1024.here hx rfl (D at_62) rfl rfl (l' := #[vI p1, vI p2, vI p3, vR x21, vR x31, vI 1, vR b365, vR b365, .unset, .unset]) rfl ?_
     refine XS.aload Xh1024.here hx rfl (D at_64) rfl rfl ?_
     refine XS.aload Xh1024.here hx rfl (D at_66) rfl rfl ?_
     refine Jvm.RoadKit.acmp (g := (fr_law m p1 p2 p3 68 (vR x21) (vR x31) (vI 1) (vR b365) (vR b365) .unset .unset [(.ref b365), (.ref b365)])) Xh1024 hx rfl rfl rfl (pc0 := 68) (pc' := 73) (same := true) rfl (D at_68) rfl (decide_eq_true rfl) (by decide) (by decide) ?_
     refine XS.aload Xh1024.here hx rfl (D at_73) rfl rfl ?_
     exact kt
    have f1025 := (f1012.keep Kq1016)
    have f1026 := (f1013.keep Kq1016 (ninS ne391 (ninS ne400 nin0)))
    have f1027 := (f1014.keep Kq1016 (allS g392 (allS g401 all0)))
    have f1028 := (Nat.le_trans f1015 Kq1016.1)
    obtain ⟨cq1029, kq1029, q1029a, q1029b, q1029c⟩ := isOf hZ1023 rfl f1025
    obtain ⟨vv1029, _, ⟨T1029, L1029, k1029, n1029⟩, -, X1029, ⟨Lc1029, hQ1029, l1029, y1029, z1029⟩, st1029⟩ := Xh1024.virtualBack hx (y := yM34) (z := yM34) hown1023 (mvT hZ1023 (Wd125 hw)) (mvT hZ1023 (Wd126 hw)) (oNf hZ1023 (Wd128 hw)) (mvT hZ1023 (Wd128 hw)) (mvT hZ1023 (Wd127 hw)) (by decide) (backOf (W := 0) (c_hts l Z a0 hw [] b365 sb382 t382 kv382 (16 : Int32) (oI [60, 47, oL f0, 62, 60, 47, oL g0, oL g1, oL g2, 62, 0, 0, 0, 0, 0, 0]) (10 : Int32) (oI [60, 47, oL f0, 62, 60, 47, oL g0, oL g1, oL g2, 62]) G1 T1016.heap n0 f1028 f1025 f1026 Eq1016 Vq1016 Cq1016 Mq1016 Aq1016 (oCr (by decide +kernel) rfl) O2 P5 f1027) hZ1023 (Wd129 hw) (Wd28 hw) (by decide) (by decide)) q1029a q1029c (g := (fr_law m p1 p2 p3 75 (vR x21) (vR x31) (vI 1) (vR b365) (vR b365) .unset .unset [(.ref b365)])) rfl (by rw [hml]; rfl) (Steps.refl _) (argsL := []) (rest := []) (lenOf pd_32 rfl) rfl (oWt rfl) (D at_75) (fun _ _ => ⟨rfl, rfl, oLe rfl, oLe rfl⟩)
    dsimp only [Pt.U, Pt.locs, Pt.cells, Pt.slots] at X1029 l1029 y1029 z1029 st1029 hQ1029
    subst l1029 y1029 z1029
    obtain ⟨x1029, t1029, kn1029, rfl, Nq1029, Kq1029, zx1029, zq1029, Eq1029, Vq1029, Cq1029, Aq1029⟩ := hQ1029
    have f1031 := ((f750.keep Kq756).keep Kq1016)
    have ne1030 : x21 ≠ x1029 := Nat.ne_of_lt (Nat.lt_of_lt_of_le f1031.lt zx1029)
    have f1033 := ((f753.keep Kq756 (ninS ne385 (ninS ne397 nin0))).keep Kq1016 (ninS ne385 (ninS ne397 nin0)))
    have ne1032 : t21 ≠ x1029 := Nat.ne_of_lt (Nat.lt_of_lt_of_le f1033.lt zx1029)
    have f1035 := (f1008.keep Kq1016)
    have ne1034 : x31 ≠ x1029 := Nat.ne_of_lt (Nat.lt_of_lt_of_le f1035.lt zx1029)
    have f1037 := (f1011.keep Kq1016 (ninS ne389 (ninS ne399 nin0)))
    have ne1036 : t31 ≠ x1029 := Nat.ne_of_lt (Nat.lt_of_lt_of_le f1037.lt zx1029)
    have ne1038 : b365 ≠ x1029 := Nat.ne_of_lt (Nat.lt_of_lt_of_le f1025.lt zx1029)
    have ne1039 : sb382 ≠ x1029 := Nat.ne_of_lt (Nat.lt_of_lt_of_le Eq1016.lt zx1029)
    have ne1040 : t382 ≠ x1029 := Nat.ne_of_lt (Nat.lt_of_lt_of_le Aq1016.lt zx1029)
    have g1041 : n0 ≤ x1029 := Nat.le_trans f1028 zx1029
    have sf1042 : Safe Z ownEL T1016.vm T1016.heap x1029 := Safe.new zx1029
    have f1044 := (Nat.le_trans (Nat.le_trans (Nat.le_trans f395 Kq382.1) Kq756.1) Kq1016.1)
    have z1043 : h0.size ≤ x1029 := Nat.le_trans f1044 zx1029
    have ne1045 : x21 ≠ t1029 := Nat.ne_of_lt (Nat.lt_of_lt_of_le f1031.lt zq1029)
    have ne1046 : t21 ≠ t1029 := Nat.ne_of_lt (Nat.lt_of_lt_of_le f1033.lt zq1029)
    have ne1047 : x31 ≠ t1029 := Nat.ne_of_lt (Nat.lt_of_lt_of_le f1035.lt zq1029)
    have ne1048 : t31 ≠ t1029 := Nat.ne_of_lt (Nat.lt_of_lt_of_le f1037.lt zq1029)
    have ne1049 : b365 ≠ t1029 := Nat.ne_of_lt (Nat.lt_of_lt_of_le f1025.lt zq1029)
    have ne1050 : sb382 ≠ t1029 := Nat.ne_of_lt (Nat.lt_of_lt_of_le Eq1016.lt zq1029)
    have ne1051 : t382 ≠ t1029 := Nat.ne_of_lt (Nat.lt_of_lt_of_le Aq1016.lt zq1029)
    have g1052 : n0 ≤ t1029 := Nat.le_trans f1028 zq1029
    have sf1053 : Safe Z ownEL T1016.vm T1016.heap t1029 := Safe.new zq1029
    have z1054 : h0.size ≤ t1029 := Nat.le_trans f1044 zq1029
    have N1055 := Fr.app Nh1024 Nq1029
    have R1056 := R1019.trans (CHr.keep Kq1029 sf0 R1019.1)
    have sf1057 := Safe.keep Kq1029 sf0 R1019.1 sf1020
    have sf1058 := Safe.keep Kq1029 sf0 R1019.1 sf1021
    have sf1059 := Safe.keep Kq1029 sf0 R1019.1 sf1022
    have sf1060 := Safe.keep Kq1029 sf0 R1019.1 sf1042
    have sf1061 := Safe.keep Kq1029 sf0 R1019.1 sf1053
    obtain ⟨Lh1062, Xh1062, Nh1062⟩ := oHd 21 89 X1029 N1055 rfl rfl
    refine ownSt st1029 ?_
    clear st1029
    show oA p e below _ T1029 (fr_law m p1 p2 p3 78 (vR x21) (vR x31) (vI 1) (vR b365) (vR b365) .unset .unset [(.ref x1029)])
    refine oTo T1029 (fr_law m p1 p2 p3 92 (vR x21) (vR x31) (vI 1) (vR b365) (vR b365) (vR x1029) (vI 0) [(.ref x21), (iV 0), (.ref x1029)]) (fun t kt => ?_) ?_
    ·refine XS.astore Xh1062.here hx rfl (D at_78) rfl rfl (l' := #[vI p1, vI p2, vI p3, vR x21, vR x31, vI 1, vR b365, vR b365, vR x1029, .unset]) rfl ?_
     refine XS.iconst Xh1062.here hx rfl (D at_80) ?_
     refine XS.istore Xh1062.here hx rfl (D at_81) rfl (l' := #[vI p1, vI p2, vI p3, vR x21, vR x31, vI 1, vR b365, vR b365, vR x1029, vI 0]) rfl ?_
     refine XS.iload Xh1062.here hx rfl (D at_83) rfl ?_
     refine XS.ifNo Xh1062.here hx rfl (D at_85) rfl ((if0 _ _).trans (feq ((by decide) : ¬ ((1 : Int32) = (0 : Int32)))).1) ?_
     refine XS.aload Xh1062.here hx rfl (D at_88) rfl rfl ?_
     refine XS.iconst Xh1062.here hx rfl (D at_90) ?_
     refine XS.aloadN Xh1062.here hx rfl (D at_91) rfl rfl ?_
     exact kt
    have f1063 := (f1031.keep Kq1029)
    have f1064 := (((f751.keep Kq756 (ninS ne383 (ninS ne396 nin0))).keep Kq1016 (ninS ne383 (ninS ne396 nin0))).keep Kq1029 nin0)
    have f1065 := (((f752.keep Kq756 (ninS ne383 (ninS ne396 nin0))).keep Kq1016 (ninS ne383 (ninS ne396 nin0))).keep Kq1029 nin0)
    have f1066 := (f1033.keep Kq1029 nin0)
    have f1067 := (f1027.keep Kq1029 all0)
    have f1068 := (Nat.le_trans f1028 Kq1029.1)
    obtain ⟨vv1069, _, ⟨T1069, L1069, k1069, n1069⟩, -, X1069, ⟨Lc1069, hQ1069, l1069, y1069, z1069⟩, st1069⟩ := Jvm.LawKit.callS Xh1062 hx (y := yM35) hown1023 (mvT hZ1023 (Wd171 hw)) (mvT hZ1023 (Wd172 hw)) (mvT hZ1023 (Wd2 hw)) (mvT hZ1023 (Wd173 hw)) (by decide) (backOf (W := 0) (c_clg1 l Z a0 hw [] x1029 t1029 kn1029 (10 : Int32) (oI [60, 47, oL f0, 62, 60, 47, oL g0, oL g1, oL g2, 62]) (0 : Int32) x21 t21 kb21 f0 G1 G3 T1029.heap n0 f1068 Eq1029 Vq1029 Cq1029 Aq1029 f1063 f1064 f1065 f1066 hr_f0 (by decide +kernel) (by decide +kernel) (oCl (by decide +kernel) rfl (by decide +kernel)) (oCl (by decide +kernel) rfl (by decide +kernel)) (oCl (by decide +kernel) rfl hr_f0) (oCl (by decide +kernel) rfl (by decide +kernel)) O2 P5 O4 rG3 f1067) hZ1023 (Wd173 hw) (Wd2 hw) (by decide) (by decide)) (g := (fr_law m p1 p2 p3 92 (vR x21) (vR x31) (vI 1) (vR b365) (vR b365) (vR x1029) (vI 0) [(.ref x21), (iV 0), (.ref x1029)])) rfl (by rw [hml]; rfl) (argsL := [(.ref x1029), (iV 0), (.ref x21)]) (rest := []) (lenOf pd_36 rfl) rfl (oWt rfl) (D at_92) (fun _ _ => ⟨rfl, rfl, oLe rfl, oLe rfl⟩)
    dsimp only [Pt.U, Pt.locs, Pt.cells, Pt.slots] at X1069 l1069 y1069 z1069 st1069 hQ1069
    subst l1069 y1069 z1069
    obtain ⟨rfl, Nq1069, Eq1069⟩ := hQ1069
    have N1070 := Fr.app Nh1062 Nq1069
    obtain ⟨Lh1071, Xh1071, Nh1071⟩ := oHd 21 89 X1069 N1070 rfl rfl
    refine ownBy st1069 ?_
    clear st1069
    show oA p e below _ T1069 (fr_law m p1 p2 p3 95 (vR x21) (vR x31) (vI 1) (vR b365) (vR b365) (vR x1029) (vI 0) [(iV 1)])
    refine oTo T1069 (fr_law m p1 p2 p3 101 (vR x21) (vR x31) (vI 1) (vR b365) (vR b365) (vR x1029) (vI 0) [(.ref x21)]) (fun t kt => ?_) ?_
    ·refine XS.ifYes Xh1071.here hx rfl (pc0 := 95) (pc' := 100) rfl (D at_95) rfl ((if0 _ _).trans (feq ((by decide) : ¬ ((1 : Int32) = (0 : Int32)))).2) (by decide) (by decide) ?_
     refine XS.aloadN Xh1071.here hx rfl (D at_100) rfl rfl ?_
     exact kt
    obtain ⟨cq1072, kq1072, q1072a, q1072b, q1072c⟩ := isOf hZ1023 Eq1069 f1063
    obtain ⟨vv1072, _, ⟨T1072, L1072, k1072, n1072⟩, -, X1072, ⟨Lc1072, hQ1072, l1072, y1072, z1072⟩, st1072⟩ := Xh1071.virtualBack hx (y := yM4) (z := yM4) hown1023 (mvT hZ1023 (Wd174 hw)) (mvT hZ1023 (Wd70 hw)) (oNf hZ1023 (Wd72 hw)) (mvT hZ1023 (Wd72 hw)) (mvT hZ1023 (Wd71 hw)) (by decide) (backOf (W := 0) (c_leng l Z a0 hw [] x21 t21 kb21 (1 : Int32) (oI [oL f0]) G1 T1029.heap n0 f1068 f1063 f1064 f1065 f1066 (by decide +kernel) O2 P5 f1067) hZ1023 (Wd73 hw) (Wd6 hw) (by decide) (by decide)) q1072a q1072c (g := (fr_law m p1 p2 p3 101 (vR x21) (vR x31) (vI 1) (vR b365) (vR b365) (vR x1029) (vI 0) [(.ref x21)])) rfl (by rw [hml]; rfl) (Steps.refl _) (argsL := []) (rest := []) (lenOf pd_15 rfl) rfl (oWt rfl) (D at_101) (fun _ _ => ⟨rfl, Eq1069, oLe rfl, oLe rfl⟩)
    dsimp only [Pt.U, Pt.locs, Pt.cells, Pt.slots] at X1072 l1072 y1072 z1072 st1072 hQ1072
    subst l1072 y1072 z1072
    obtain ⟨rfl, Nq1072, Eq1072⟩ := hQ1072
    have N1073 := Fr.app Nh1071 Nq1072
    obtain ⟨Lh1074, Xh1074, Nh1074⟩ := oHd 21 89 X1072 N1073 rfl rfl
    refine ownSt st1072 ?_
    clear st1072
    show oA p e below _ T1072 (fr_law m p1 p2 p3 104 (vR x21) (vR x31) (vI 1) (vR b365) (vR b365) (vR x1029) (vI 0) [(iV 1)])
    refine oTo T1072 (fr_law m p1 p2 p3 114 (vR x21) (vR x31) (vI 1) (vR b365) (vR b365) (vR x1029) (vI 4) [(.ref x31), (iV 4), (.ref x1029)]) (fun t kt => ?_) ?_
    ·refine XS.iconst Xh1074.here hx rfl (D at_104) ?_
     refine XS.iadd Xh1074.here hx rfl (D at_105) rfl ?_
     refine XS.istore Xh1074.here hx rfl (D at_106) rfl (l' := #[vI p1, vI p2, vI p3, vR x21, vR x31, vI 1, vR b365, vR b365, vR x1029, vI 4]) rfl ?_
     refine XS.aload Xh1074.here hx rfl (D at_108) rfl rfl ?_
     refine XS.iload Xh1074.here hx rfl (D at_110) rfl ?_
     refine XS.aload Xh1074.here hx rfl (D at_112) rfl rfl ?_
     exact kt
    have f1075 := (f1035.keep Kq1029)
    have f1076 := ((f1009.keep Kq1016 (ninS ne387 (ninS ne398 nin0))).keep Kq1029 nin0)
    have f1077 := ((f1010.keep Kq1016 (ninS ne387 (ninS ne398 nin0))).keep Kq1029 nin0)
    have f1078 := (f1037.keep Kq1029 nin0)
    obtain ⟨vv1079, _, ⟨T1079, L1079, k1079, n1079⟩, -, X1079, ⟨Lc1079, hQ1079, l1079, y1079, z1079⟩, st1079⟩ := Jvm.LawKit.callS Xh1074 hx (y := yM35) hown1023 (mvT hZ1023 (Wd171 hw)) (mvT hZ1023 (Wd172 hw)) (mvT hZ1023 (Wd2 hw)) (mvT hZ1023 (Wd173 hw)) (by decide) (backOf (W := 0) (c_clg3 l Z a0 hw [] x1029 t1029 kn1029 (10 : Int32) (oI [60, 47, oL f0, 62, 60, 47, oL g0, oL g1, oL g2, 62]) (4 : Int32) x31 t31 kb31 g0 g1 g2 G1 G3 T1029.heap n0 f1068 Eq1029 Vq1029 Cq1029 Aq1029 f1075 f1076 f1077 f1078 hr_g0 hr_g1 hr_g2 (by decide +kernel) (by decide +kernel) (oCl (by decide +kernel) rfl (by decide +kernel)) (oCl (by decide +kernel) rfl (by decide +kernel)) (oCl (by decide +kernel) rfl hr_g0) (oCl (by decide +kernel) rfl hr_g1) (oCl (by decide +kernel) rfl hr_g2) (oCl (by decide +kernel) rfl (by decide +kernel)) O2 P5 O4 rG3 f1067) hZ1023 (Wd173 hw) (Wd2 hw) (by decide) (by decide)) (g := (fr_law m p1 p2 p3 114 (vR x21) (vR x31) (vI 1) (vR b365) (vR b365) (vR x1029) (vI 4) [(.ref x31), (iV 4), (.ref x1029)])) rfl (by rw [hml]; rfl) (argsL := [(.ref x1029), (iV 4), (.ref x31)]) (rest := []) (lenOf pd_36 rfl) rfl (oWt rfl) (D at_114) (fun _ _ => ⟨rfl, Eq1072, oLe rfl, oLe rfl⟩)
    dsimp only [Pt.U, Pt.locs, Pt.cells, Pt.slots] at X1079 l1079 y1079 z1079 st1079 hQ1079
    subst l1079 y1079 z1079
    obtain ⟨rfl, Nq1079, Eq1079⟩ := hQ1079
    have N1080 := Fr.app Nh1074 Nq1079
    obtain ⟨Lh1081, Xh1081, Nh1081⟩ := oHd 21 89 X1079 N1080 rfl rfl
    refine ownBy st1079 ?_
    clear st1079
    show oA p e below _ T1079 (fr_law m p1 p2 p3 117 (vR x21) (vR x31) (vI 1) (vR b365) (vR b365) (vR x1029) (vI 4) [(iV 1)])
    refine oTo T1079 (fr_law m p1 p2 p3 124 (vR x21) (vR x31) (vI 1) (vR b365) (vR b365) (vR x1029) (vI 4) [(.ref x1029)]) (fun t kt => ?_) ?_
    ·refine XS.ifYes Xh1081.here hx rfl (pc0 := 117) (pc' := 122) rfl (D at_117) rfl ((if0 _ _).trans (feq ((by decide) : ¬ ((1 : Int32) = (0 : Int32)))).2) (by decide) (by decide) ?_
     refine XS.aload Xh1081.here hx rfl (D at_122) rfl rfl ?_
     exact kt
    obtain ⟨cq1082, kq1082, q1082a, q1082b, q1082c⟩ := isOf hZ1023 Eq1079 Eq1029
    obtain ⟨vv1082, _, ⟨T1082, L1082, k1082, n1082⟩, -, X1082, ⟨Lc1082, hQ1082, l1082, y1082, z1082⟩, st1082⟩ := Xh1081.virtualBack hx (y := yM4) (z := yM4) hown1023 (mvT hZ1023 (Wd174 hw)) (mvT hZ1023 (Wd70 hw)) (oNf hZ1023 (Wd72 hw)) (mvT hZ1023 (Wd72 hw)) (mvT hZ1023 (Wd71 hw)) (by decide) (backOf (W := 0) (c_leng l Z a0 hw [] x1029 t1029 kn1029 (10 : Int32) (oI [60, 47, oL f0, 62, 60, 47, oL g0, oL g1, oL g2, 62]) G1 T1029.heap n0 f1068 Eq1029 Vq1029 Cq1029 Aq1029 (by decide +kernel) O2 P5 f1067) hZ1023 (Wd73 hw) (Wd6 hw) (by decide) (by decide)) q1082a q1082c (g := (fr_law m p1 p2 p3 124 (vR x21) (vR x31) (vI 1) (vR b365) (vR b365) (vR x1029) (vI 4) [(.ref x1029)])) rfl (by rw [hml]; rfl) (Steps.refl _) (argsL := []) (rest := []) (lenOf pd_15 rfl) rfl (oWt rfl) (D at_124) (fun _ _ => ⟨rfl, Eq1079, oLe rfl, oLe rfl⟩)
    dsimp only [Pt.U, Pt.locs, Pt.cells, Pt.slots] at X1082 l1082 y1082 z1082 st1082 hQ1082
    subst l1082 y1082 z1082
    obtain ⟨rfl, Nq1082, Eq1082⟩ := hQ1082
    have N1083 := Fr.app Nh1081 Nq1082
    obtain ⟨Lh1084, Xh1084, Nh1084⟩ := oHd 21 89 X1082 N1083 rfl rfl
    refine ownSt st1082 ?_
    clear st1082
    show oA p e below _ T1082 (fr_law m p1 p2 p3 127 (vR x21) (vR x31) (vI 1) (vR b365) (vR b365) (vR x1029) (vI 4) [(iV 10)])
    refine oTo T1082 (fr_law m p1 p2 p3 131 (vR x21) (vR x31) (vI 1) (vR b365) (vR b365) (vR x1029) (vI 4) [(.ref x31), (iV 4), (iV 10)]) (fun t kt => ?_) ?_
    ·refine XS.iload Xh1084.here hx rfl (D at_127) rfl ?_
     refine XS.aload Xh1084.here hx rfl (D at_129) rfl rfl ?_
     exact kt
    obtain ⟨cq1085, kq1085, q1085a, q1085b, q1085c⟩ := isOf hZ1023 Eq1082 f1075
    obtain ⟨vv1085, _, ⟨T1085, L1085, k1085, n1085⟩, -, X1085, ⟨Lc1085, hQ1085, l1085, y1085, z1085⟩, st1085⟩ := Xh1084.virtualBack hx (y := yM4) (z := yM4) hown1023 (mvT hZ1023 (Wd174 hw)) (mvT hZ1023 (Wd70 hw)) (oNf hZ1023 (Wd72 hw)) (mvT hZ1023 (Wd72 hw)) (mvT hZ1023 (Wd71 hw)) (by decide) (backOf (W := 2) (c_leng l Z a0 hw [] x31 t31 kb31 (3 : Int32) (oI [oL g0, oL g1, oL g2]) G1 T1029.heap n0 f1068 f1075 f1076 f1077 f1078 (by decide +kernel) O2 P5 f1067) hZ1023 (Wd73 hw) (Wd6 hw) (by decide) (by decide)) q1085a q1085c (g := (fr_law m p1 p2 p3 131 (vR x21) (vR x31) (vI 1) (vR b365) (vR b365) (vR x1029) (vI 4) [(.ref x31), (iV 4), (iV 10)])) rfl (by rw [hml]; rfl) (Steps.refl _) (argsL := []) (rest := [(iV 4), (iV 10)]) (lenOf pd_15 rfl) rfl (oWt rfl) (D at_131) (fun _ _ => ⟨rfl, Eq1082, oLe rfl, oLe rfl⟩)
    dsimp only [Pt.U, Pt.locs, Pt.cells, Pt.slots] at X1085 l1085 y1085 z1085 st1085 hQ1085
    subst l1085 y1085 z1085
    obtain ⟨rfl, Nq1085, Eq1085⟩ := hQ1085
    have N1086 := Fr.app Nh1084 Nq1085
    obtain ⟨Lh1087, Xh1087, Nh1087⟩ := oHd 21 89 X1085 N1086 rfl rfl
    refine ownSt st1085 ?_
    clear st1085
    show oA p e below _ T1085 (fr_law m p1 p2 p3 134 (vR x21) (vR x31) (vI 1) (vR b365) (vR b365) (vR x1029) (vI 4) [(iV 3), (iV 4), (iV 10)])
    refine oTo T1085 (fr_law m p1 p2 p3 145 (vR x21) (vR x31) (vI 1) (vR b365) (vR b365) (vR x1029) (vI 4) [(iV 1)]) (fun t kt => ?_) ?_
    ·refine XS.iadd Xh1087.here hx rfl (D at_134) rfl ?_
     refine XS.iconst Xh1087.here hx rfl (D at_135) ?_
     refine XS.iadd Xh1087.here hx rfl (D at_136) rfl ?_
     refine XS.icmpNo Xh1087.here hx rfl (D at_137) rfl (teq ((by decide) : (10 : Int32) = (10 : Int32))).2 ?_
     refine XS.iconst Xh1087.here hx rfl (D at_140) ?_
     refine XS.goto Xh1087.here hx rfl (pc0 := 141) (pc' := 145) rfl (D at_141) (by decide) (by decide) ?_
     exact kt
    refine ownRetH Xh1087 hSR1023 (by rw [Eq1085]; exact (Nat.le_trans (Nat.le_refl _) Kq1029.1)) Bd.notSynchronized (v := some (.int (nar .boolean (1 : Int32)))) (fun h => by rw [Bd.returns] at h; cases h) ?_ (R1056.trans ((by rw [Eq1085]; exact CHv.at Xh1087 hZ1023 hEL R1056.1))) (oLe rfl) (oLe rfl) (fun fs hr => retN Xh1087 hx (t := .boolean) Bd.returns (by simp) (D at_145) hr)
    show (Q_law Z p1 p2 p3 G1 G3 h0 n0) (some (.int (nar .boolean (1 : Int32)))) T1085.heap _
    rw [Eq1085]
    exact ⟨rfl, Nh1087⟩
  ·skip
   refine oTo T382 (fr_law m p1 p2 p3 41 (vR x21) (vR x31) (vI 1) (vR b365) .unset .unset .unset [(.ref x21), (.ref b365)]) (fun t kt => ?_) ?_
   ·refine XS.aload Xh409.here hx rfl (D at_38) rfl rfl ?_
    refine XS.aloadN Xh409.here hx rfl (D at_40) rfl rfl ?_
    exact kt
   have f1089 := (f384.keep Kq382)
   have f1090 := (((Vq21.keep Kq31 nin0).ext E365).keep Kq382 (ninS ne366 nin0))
   have f1091 := (((Cq21.keep Kq31 nin0).ext E365).keep Kq382 (ninS ne366 nin0))
   have f1092 := (f386.keep Kq382 (ninS ne368 nin0))
   have f1093 := (f380.keep Kq382 (allS g372 all0))
   have f1094 := (Nat.le_trans f381 Kq382.1)
   obtain ⟨cq1095, kq1095, q1095a, q1095b, q1095c⟩ := isOf hZ40 rfl Eh382
   obtain ⟨vv1095, _, ⟨T1095, L1095, k1095, n1095⟩, -, X1095, hS1095, hg1095, ⟨Lc1095, hQ1095, l1095, y1095, z1095, hC1095⟩, st1095⟩ := Xh409.virtualBackS hx (y := yM33) (z := yM33) hown40 (mvT hZ40 (Wd53 hw)) (mvT hZ40 (Wd54 hw)) (oNf hZ40 (Wd56 hw)) (mvT hZ40 (Wd56 hw)) (mvT hZ40 (Wd55 hw)) (by decide) (backOfSH (W := 0) (s := s) (EL := ownEL) (c_hcl l Z a0 hw [] b365 x21 t21 kb21 (2 : Int32) (oI [oL f0, oL f1]) sb382 t382 kv382 (16 : Int32) (oI [0, 0, 0, 0, 0, 0, 0, 0, 0, 0, 0, 0, 0, 0, 0, 0]) (0 : Int32) (oI [60, 47, 0, 0, 0, 0, 0, 0, 0, 0, 0, 0, 0, 0, 0, 0]) (oI [60, 47, oL f0, oL f1, 0, 0, 0, 0, 0, 0, 0, 0, 0, 0, 0, 0]) (oI [60, 47, oL f0, oL f1, 62, 0, 0, 0, 0, 0, 0, 0, 0, 0, 0, 0]) (2 : Int32) (4 : Int32) (5 : Int32) G1 T382.heap n0 f1094 Eh382 Fh382 f1089 f1090 f1091 f1092 Eq382 Vq382 Cq382 Mq382 Aq382 g392 g401 ne397 (by decide +kernel) (oCp (by decide +kernel) rfl rfl rfl) (oCp (by decide +kernel) rfl rfl rfl) (oCq (by decide +kernel) rfl rfl) O2 P5 f1093) hZ40 (Wd57 hw) (Wd28 hw) (by decide) (by decide) hEL R405.1) q1095a q1095c (g := (fr_law m p1 p2 p3 41 (vR x21) (vR x31) (vI 1) (vR b365) .unset .unset .unset [(.ref x21), (.ref b365)])) rfl (by rw [hml]; rfl) (Steps.refl _) (argsL := [(.ref x21)]) (rest := []) (lenOf pd_35 rfl) rfl (oWt rfl) (D at_41) (fun _ _ => ⟨rfl, rfl, oLe rfl, oLe rfl⟩)
   dsimp only [Pt.U, Pt.locs, Pt.cells, Pt.slots] at X1095 l1095 y1095 z1095 st1095 hQ1095 hS1095 hg1095 hC1095
   subst l1095 y1095 z1095
   obtain ⟨rfl, Nq1095, Kq1095, Eq1095, Vq1095, Cq1095, Mq1095, Aq1095⟩ := hQ1095
   have N1096 := Fr.app Nh409 Nq1095
   have R1098 := R405.trans hC1095
   have sf1099 := CHr.safe hC1095 Eh382.lt sf406
   have sf1100 := CHr.safe hC1095 Eq382.lt sf407
   have sf1101 := CHr.safe hC1095 Aq382.lt sf408
   obtain ⟨XR1102, hSR1102, hZ1102, hown1102⟩ := rebS hSR40 (Nat.le_trans (Nat.le_trans (Nat.le_refl _) E365.1) Kq382.1) X1095 hS1095 hg1095 hZ40 hown40
   obtain ⟨Lh1103, Xh1103, Nh1103⟩ := oHd 17 57 XR1102 N1096 rfl rfl
   refine ownSt st1095 ?_
   clear st1095
   show oA p e below _ T1095 (fr_law m p1 p2 p3 44 (vR x21) (vR x31) (vI 1) (vR b365) .unset .unset .unset [(.ref b365)])
   refine oTo T1095 (fr_law m p1 p2 p3 55 (vR x21) (vR x31) (vI 1) (vR b365) (vR b365) .unset .unset []) (fun t kt => ?_) ?_
   ·refine XS.astore Xh1103.here hx rfl (D at_44) rfl rfl (l' := #[vI p1, vI p2, vI p3, vR x21, vR x31, vI 1, vR b365, vR b365, .unset, .unset]) rfl ?_
    refine XS.aload Xh1103.here hx rfl (D at_46) rfl rfl ?_
    refine XS.aload Xh1103.here hx rfl (D at_48) rfl rfl ?_
    refine Jvm.RoadKit.acmp (g := (fr_law m p1 p2 p3 50 (vR x21) (vR x31) (vI 1) (vR b365) (vR b365) .unset .unset [(.ref b365), (.ref b365)])) Xh1103 hx rfl rfl rfl (pc0 := 50) (pc' := 55) (same := true) rfl (D at_50) rfl (decide_eq_true rfl) (by decide) (by decide) ?_
    exact kt
   rcases hT31 with ⟨-, rfl, rfl⟩ | ⟨g0, hr_g0, rfl, rfl⟩ | ⟨g0, g1, hr_g0, hr_g1, rfl, rfl⟩ | ⟨g0, g1, g2, hr_g0, hr_g1, hr_g2, rfl, rfl⟩
   ·skip
    refine oTo T1095 (fr_law m p1 p2 p3 59 (vR x21) (vR x31) (vI 1) (vR b365) (vR b365) .unset .unset [(.ref x31), (.ref b365)]) (fun t kt => ?_) ?_
    ·refine XS.aload Xh1103.here hx rfl (D at_55) rfl rfl ?_
     refine XS.aload Xh1103.here hx rfl (D at_57) rfl rfl ?_
     exact kt
    have f1104 := ((f388.keep Kq382).keep Kq1095)
    have f1105 := (((Vq31.ext E365).keep Kq382 (ninS ne370 nin0)).keep Kq1095 (ninS ne387 (ninS ne398 nin0)))
    have f1106 := (((Cq31.ext E365).keep Kq382 (ninS ne370 nin0)).keep Kq1095 (ninS ne387 (ninS ne398 nin0)))
    have f1107 := ((f390.keep Kq382 (ninS ne371 nin0)).keep Kq1095 (ninS ne389 (ninS ne399 nin0)))
    have f1108 := (Eh382.keep Kq1095)
    have f1109 := (Fh382.keep Kq1095 (ninS ne391 (ninS ne400 nin0)))
    have f1110 := (f1093.keep Kq1095 (allS g392 (allS g401 all0)))
    have f1111 := (Nat.le_trans f1094 Kq1095.1)
    obtain ⟨cq1112, kq1112, q1112a, q1112b, q1112c⟩ := isOf hZ1102 rfl f1108
    obtain ⟨vv1112, _, ⟨T1112, L1112, k1112, n1112⟩, -, X1112, hS1112, hg1112, ⟨Lc1112, hQ1112, l1112, y1112, z1112, hC1112⟩, st1112⟩ := Xh1103.virtualBackS hx (y := yM33) (z := yM33) hown1102 (mvT hZ1102 (Wd53 hw)) (mvT hZ1102 (Wd54 hw)) (oNf hZ1102 (Wd56 hw)) (mvT hZ1102 (Wd56 hw)) (mvT hZ1102 (Wd55 hw)) (by decide) (backOfSH (W := 0) (s := s) (EL := ownEL) (c_hcl l Z a0 hw [] b365 x31 t31 kb31 (0 : Int32) [] sb382 t382 kv382 (16 : Int32) (oI [60, 47, oL f0, oL f1, 62, 0, 0, 0, 0, 0, 0, 0, 0, 0, 0, 0]) (5 : Int32) (oI [60, 47, oL f0, oL f1, 62, 60, 47, 0, 0, 0, 0, 0, 0, 0, 0, 0]) (oI [60, 47, oL f0, oL f1, 62, 60, 47, 0, 0, 0, 0, 0, 0, 0, 0, 0]) (oI [60, 47, oL f0, oL f1, 62, 60, 47, 62, 0, 0, 0, 0, 0, 0, 0, 0]) (7 : Int32) (7 : Int32) (8 : Int32) G1 T1095.heap n0 f1111 f1108 f1109 f1104 f1105 f1106 f1107 Eq1095 Vq1095 Cq1095 Mq1095 Aq1095 g392 g401 ne399 (by decide +kernel) (oCp (by decide +kernel) rfl rfl rfl) (oCp (by decide +kernel) rfl rfl rfl) (oCq (by decide +kernel) rfl rfl) O2 P5 f1110) hZ1102 (Wd57 hw) (Wd28 hw) (by decide) (by decide) hEL R1098.1) q1112a q1112c (g := (fr_law m p1 p2 p3 59 (vR x21) (vR x31) (vI 1) (vR b365) (vR b365) .unset .unset [(.ref x31), (.ref b365)])) rfl (by rw [hml]; rfl) (Steps.refl _) (argsL := [(.ref x31)]) (rest := []) (lenOf pd_35 rfl) rfl (oWt rfl) (D at_59) (fun _ _ => ⟨rfl, rfl, oLe rfl, oLe rfl⟩)
    dsimp only [Pt.U, Pt.locs, Pt.cells, Pt.slots] at X1112 l1112 y1112 z1112 st1112 hQ1112 hS1112 hg1112 hC1112
    subst l1112 y1112 z1112
    obtain ⟨rfl, Nq1112, Kq1112, Eq1112, Vq1112, Cq1112, Mq1112, Aq1112⟩ := hQ1112
    have N1113 := Fr.app Nh1103 Nq1112
    have R1115 := R1098.trans hC1112
    have sf1116 := CHr.safe hC1112 f1108.lt sf1099
    have sf1117 := CHr.safe hC1112 Eq1095.lt sf1100
    have sf1118 := CHr.safe hC1112 Aq1095.lt sf1101
    obtain ⟨XR1119, hSR1119, hZ1119, hown1119⟩ := rebS hSR1102 (Nat.le_refl _) X1112 hS1112 hg1112 hZ1102 hown1102
    obtain ⟨Lh1120, Xh1120, Nh1120⟩ := oHd 19 69 XR1119 N1113 rfl rfl
    refine ownSt st1112 ?_
    clear st1112
    show oA p e below _ T1112 (fr_law m p1 p2 p3 62 (vR x21) (vR x31) (vI 1) (vR b365) (vR b365) .unset .unset [(.ref b365)])
    refine oTo T1112 (fr_law m p1 p2 p3 75 (vR x21) (vR x31) (vI 1) (vR b365) (vR b365) .unset .unset [(.ref b365)]) (fun t kt => ?_) ?_
    ·refine XS.astore Xh1120.here hx rfl (D at_62) rfl rfl (l' := #[vI p1, vI p2, vI p3, vR x21, vR x31, vI 1, vR b365, vR b365, .unset, .unset]) rfl ?_
     refine XS.aload Xh1120.here hx rfl (D at_64) rfl rfl ?_
     refine XS.aload Xh1120.here hx rfl (D at_66) rfl rfl ?_
     refine Jvm.RoadKit.acmp (g := (fr_law m p1 p2 p3 68 (vR x21) (vR x31) (vI 1) (vR b365) (vR b365) .unset .unset [(.ref b365), (.ref b365)])) Xh1120 hx rfl rfl rfl (pc0 := 68) (pc' := 73) (same := true) rfl (D at_68) rfl (decide_eq_true rfl) (by decide) (by decide) ?_
     refine XS.aload Xh1120.here hx rfl (D at_73) rfl rfl ?_
     exact kt
    have f1121 := (f1108.keep Kq1112)
    have f1122 := (f1109.keep Kq1112 (ninS ne391 (ninS ne400 nin0)))
    have f1123 := (f1110.keep Kq1112 (allS g392 (allS g401 all0)))
    have f1124 := (Nat.le_trans f1111 Kq1112.1)
    obtain ⟨cq1125, kq1125, q1125a, q1125b, q1125c⟩ := isOf hZ1119 rfl f1121
    obtain ⟨vv1125, _, ⟨T1125, L1125, k1125, n1125⟩, -, X1125, ⟨Lc1125, hQ1125, l1125, y1125, z1125⟩, st1125⟩ := Xh1120.virtualBack hx (y := yM34) (z := yM34) hown1119 (mvT hZ1119 (Wd125 hw)) (mvT hZ1119 (Wd126 hw)) (oNf hZ1119 (Wd128 hw)) (mvT hZ1119 (Wd128 hw)) (mvT hZ1119 (Wd127 hw)) (by decide) (backOf (W := 0) (c_hts l Z a0 hw [] b365 sb382 t382 kv382 (16 : Int32) (oI [60, 47, oL f0, oL f1, 62, 60, 47, 62, 0, 0, 0, 0, 0, 0, 0, 0]) (8 : Int32) (oI [60, 47, oL f0, oL f1, 62, 60, 47, 62]) G1 T1112.heap n0 f1124 f1121 f1122 Eq1112 Vq1112 Cq1112 Mq1112 Aq1112 (oCr (by decide +kernel) rfl) O2 P5 f1123) hZ1119 (Wd129 hw) (Wd28 hw) (by decide) (by decide)) q1125a q1125c (g := (fr_law m p1 p2 p3 75 (vR x21) (vR x31) (vI 1) (vR b365) (vR b365) .unset .unset [(.ref b365)])) rfl (by rw [hml]; rfl) (Steps.refl _) (argsL := []) (rest := []) (lenOf pd_32 rfl) rfl (oWt rfl) (D at_75) (fun _ _ => ⟨rfl, rfl, oLe rfl, oLe rfl⟩)
    dsimp only [Pt.U, Pt.locs, Pt.cells, Pt.slots] at X1125 l1125 y1125 z1125 st1125 hQ1125
    subst l1125 y1125 z1125
    obtain ⟨x1125, t1125, kn1125, rfl, Nq1125, Kq1125, zx1125, zq1125, Eq1125, Vq1125, Cq1125, Aq1125⟩ := hQ1125
    have f1127 := ((f1089.keep Kq1095).keep Kq1112)
    have ne1126 : x21 ≠ x1125 := Nat.ne_of_lt (Nat.lt_of_lt_of_le f1127.lt zx1125)
    have f1129 := ((f1092.keep Kq1095 (ninS ne385 (ninS ne397 nin0))).keep Kq1112 (ninS ne385 (ninS ne397 nin0)))
    have ne1128 : t21 ≠ x1125 := Nat.ne_of_lt (Nat.lt_of_lt_of_le f1129.lt zx1125)
    have f1131 := (f1104.keep Kq1112)
    have ne1130 : x31 ≠ x1125 := Nat.ne_of_lt (Nat.lt_of_lt_of_le f1131.lt zx1125)
    have f1133 := (f1107.keep Kq1112 (ninS ne389 (ninS ne399 nin0)))
    have ne1132 : t31 ≠ x1125 := Nat.ne_of_lt (Nat.lt_of_lt_of_le f1133.lt zx1125)
    have ne1134 : b365 ≠ x1125 := Nat.ne_of_lt (Nat.lt_of_lt_of_le f1121.lt zx1125)
    have ne1135 : sb382 ≠ x1125 := Nat.ne_of_lt (Nat.lt_of_lt_of_le Eq1112.lt zx1125)
    have ne1136 : t382 ≠ x1125 := Nat.ne_of_lt (Nat.lt_of_lt_of_le Aq1112.lt zx1125)
    have g1137 : n0 ≤ x1125 := Nat.le_trans f1124 zx1125
    have sf1138 : Safe Z ownEL T1112.vm T1112.heap x1125 := Safe.new zx1125
    have f1140 := (Nat.le_trans (Nat.le_trans (Nat.le_trans f395 Kq382.1) Kq1095.1) Kq1112.1)
    have z1139 : h0.size ≤ x1125 := Nat.le_trans f1140 zx1125
    have ne1141 : x21 ≠ t1125 := Nat.ne_of_lt (Nat.lt_of_lt_of_le f1127.lt zq1125)
    have ne1142 : t21 ≠ t1125 := Nat.ne_of_lt (Nat.lt_of_lt_of_le f1129.lt zq1125)
    have ne1143 : x31 ≠ t1125 := Nat.ne_of_lt (Nat.lt_of_lt_of_le f1131.lt zq1125)
    have ne1144 : t31 ≠ t1125 := Nat.ne_of_lt (Nat.lt_of_lt_of_le f1133.lt zq1125)
    have ne1145 : b365 ≠ t1125 := Nat.ne_of_lt (Nat.lt_of_lt_of_le f1121.lt zq1125)
    have ne1146 : sb382 ≠ t1125 := Nat.ne_of_lt (Nat.lt_of_lt_of_le Eq1112.lt zq1125)
    have ne1147 : t382 ≠ t1125 := Nat.ne_of_lt (Nat.lt_of_lt_of_le Aq1112.lt zq1125)
    have g1148 : n0 ≤ t1125 := Nat.le_trans f1124 zq1125
    have sf1149 : Safe Z ownEL T1112.vm T1112.heap t1125 := Safe.new zq1125
    have z1150 : h0.size ≤ t1125 := Nat.le_trans f1140 zq1125
    have N1151 := Fr.app Nh1120 Nq1125
    have R1152 := R1115.trans (CHr.keep Kq1125 sf0 R1115.1)
    have sf1153 := Safe.keep Kq1125 sf0 R1115.1 sf1116
    have sf1154 := Safe.keep Kq1125 sf0 R1115.1 sf1117
    have sf1155 := Safe.keep Kq1125 sf0 R1115.1 sf1118
    have sf1156 := Safe.keep Kq1125 sf0 R1115.1 sf1138
    have sf1157 := Safe.keep Kq1125 sf0 R1115.1 sf1149
    obtain ⟨Lh1158, Xh1158, Nh1158⟩ := oHd 21 89 X1125 N1151 rfl rfl
    refine ownSt st1125 ?_
    clear st1125
    show oA p e below _ T1125 (fr_law m p1 p2 p3 78 (vR x21) (vR x31) (vI 1) (vR b365) (vR b365) .unset .unset [(.ref x1125)])
    refine oTo T1125 (fr_law m p1 p2 p3 92 (vR x21) (vR x31) (vI 1) (vR b365) (vR b365) (vR x1125) (vI 0) [(.ref x21), (iV 0), (.ref x1125)]) (fun t kt => ?_) ?_
    ·refine XS.astore Xh1158.here hx rfl (D at_78) rfl rfl (l' := #[vI p1, vI p2, vI p3, vR x21, vR x31, vI 1, vR b365, vR b365, vR x1125, .unset]) rfl ?_
     refine XS.iconst Xh1158.here hx rfl (D at_80) ?_
     refine XS.istore Xh1158.here hx rfl (D at_81) rfl (l' := #[vI p1, vI p2, vI p3, vR x21, vR x31, vI 1, vR b365, vR b365, vR x1125, vI 0]) rfl ?_
     refine XS.iload Xh1158.here hx rfl (D at_83) rfl ?_
     refine XS.ifNo Xh1158.here hx rfl (D at_85) rfl ((if0 _ _).trans (feq ((by decide) : ¬ ((1 : Int32) = (0 : Int32)))).1) ?_
     refine XS.aload Xh1158.here hx rfl (D at_88) rfl rfl ?_
     refine XS.iconst Xh1158.here hx rfl (D at_90) ?_
     refine XS.aloadN Xh1158.here hx rfl (D at_91) rfl rfl ?_
     exact kt
    have f1159 := (f1127.keep Kq1125)
    have f1160 := (((f1090.keep Kq1095 (ninS ne383 (ninS ne396 nin0))).keep Kq1112 (ninS ne383 (ninS ne396 nin0))).keep Kq1125 nin0)
    have f1161 := (((f1091.keep Kq1095 (ninS ne383 (ninS ne396 nin0))).keep Kq1112 (ninS ne383 (ninS ne396 nin0))).keep Kq1125 nin0)
    have f1162 := (f1129.keep Kq1125 nin0)
    have f1163 := (f1123.keep Kq1125 all0)
    have f1164 := (Nat.le_trans f1124 Kq1125.1)
    obtain ⟨vv1165, _, ⟨T1165, L1165, k1165, n1165⟩, -, X1165, ⟨Lc1165, hQ1165, l1165, y1165, z1165⟩, st1165⟩ := Jvm.LawKit.callS Xh1158 hx (y := yM35) hown1119 (mvT hZ1119 (Wd171 hw)) (mvT hZ1119 (Wd172 hw)) (mvT hZ1119 (Wd2 hw)) (mvT hZ1119 (Wd173 hw)) (by decide) (backOf (W := 0) (c_clg2 l Z a0 hw [] x1125 t1125 kn1125 (8 : Int32) (oI [60, 47, oL f0, oL f1, 62, 60, 47, 62]) (0 : Int32) x21 t21 kb21 f0 f1 G1 G3 T1125.heap n0 f1164 Eq1125 Vq1125 Cq1125 Aq1125 f1159 f1160 f1161 f1162 hr_f0 hr_f1 (by decide +kernel) (by decide +kernel) (oCl (by decide +kernel) rfl (by decide +kernel)) (oCl (by decide +kernel) rfl (by decide +kernel)) (oCl (by decide +kernel) rfl hr_f0) (oCl (by decide +kernel) rfl hr_f1) (oCl (by decide +kernel) rfl (by decide +kernel)) O2 P5 O4 rG3 f1163) hZ1119 (Wd173 hw) (Wd2 hw) (by decide) (by decide)) (g := (fr_law m p1 p2 p3 92 (vR x21) (vR x31) (vI 1) (vR b365) (vR b365) (vR x1125) (vI 0) [(.ref x21), (iV 0), (.ref x1125)])) rfl (by rw [hml]; rfl) (argsL := [(.ref x1125), (iV 0), (.ref x21)]) (rest := []) (lenOf pd_36 rfl) rfl (oWt rfl) (D at_92) (fun _ _ => ⟨rfl, rfl, oLe rfl, oLe rfl⟩)
    dsimp only [Pt.U, Pt.locs, Pt.cells, Pt.slots] at X1165 l1165 y1165 z1165 st1165 hQ1165
    subst l1165 y1165 z1165
    obtain ⟨rfl, Nq1165, Eq1165⟩ := hQ1165
    have N1166 := Fr.app Nh1158 Nq1165
    obtain ⟨Lh1167, Xh1167, Nh1167⟩ := oHd 21 89 X1165 N1166 rfl rfl
    refine ownBy st1165 ?_
    clear st1165
    show oA p e below _ T1165 (fr_law m p1 p2 p3 95 (vR x21) (vR x31) (vI 1) (vR b365) (vR b365) (vR x1125) (vI 0) [(iV 1)])
    refine oTo T1165 (fr_law m p1 p2 p3 101 (vR x21) (vR x31) (vI 1) (vR b365) (vR b365) (vR x1125) (vI 0) [(.ref x21)]) (fun t kt => ?_) ?_
    ·refine XS.ifYes Xh1167.here hx rfl (pc0 := 95) (pc' := 100) rfl (D at_95) rfl ((if0 _ _).trans (feq ((by decide) : ¬ ((1 : Int32) = (0 : Int32)))).2) (by decide) (by decide) ?_
     refine XS.aloadN Xh1167.here hx rfl (D at_100) rfl rfl ?_
     exact kt
    obtain ⟨cq1168, kq1168, q1168a, q1168b, q1168c⟩ := isOf hZ1119 Eq1165 f1159
    obtain ⟨vv1168, _, ⟨T1168, L1168, k1168, n1168⟩, -, X1168, ⟨Lc1168, hQ1168, l1168, y1168, z1168⟩, st1168⟩ := Xh1167.virtualBack hx (y := yM4) (z := yM4) hown1119 (mvT hZ1119 (Wd174 hw)) (mvT hZ1119 (Wd70 hw)) (oNf hZ1119 (Wd72 hw)) (mvT hZ1119 (Wd72 hw)) (mvT hZ1119 (Wd71 hw)) (by decide) (backOf (W := 0) (c_leng l Z a0 hw [] x21 t21 kb21 (2 : Int32) (oI [oL f0, oL f1]) G1 T1125.heap n0 f1164 f1159 f1160 f1161 f1162 (by decide +kernel) O2 P5 f1163) hZ1119 (Wd73 hw) (Wd6 hw) (by decide) (by decide)) q1168a q1168c (g := (fr_law m p1 p2 p3 101 (vR x21) (vR x31) (vI 1) (vR b365) (vR b365) (vR x1125) (vI 0) [(.ref x21)])) rfl (by rw [hml]; rfl) (Steps.refl _) (argsL := []) (rest := []) (lenOf pd_15 rfl) rfl (oWt rfl) (D at_101) (fun _ _ => ⟨rfl, Eq1165, oLe rfl, oLe rfl⟩)
    dsimp only [Pt.U, Pt.locs, Pt.cells, Pt.slots] at X1168 l1168 y1168 z1168 st1168 hQ1168
    subst l1168 y1168 z1168
    obtain ⟨rfl, Nq1168, Eq1168⟩ := hQ1168
    have N1169 := Fr.app Nh1167 Nq1168
    obtain ⟨Lh1170, Xh1170, Nh1170⟩ := oHd 21 89 X1168 N1169 rfl rfl
    refine ownSt st1168 ?_
    clear st1168
    show oA p e below _ T1168 (fr_law m p1 p2 p3 104 (vR x21) (vR x31) (vI 1) (vR b365) (vR b365) (vR x1125) (vI 0) [(iV 2)])
    refine oTo T1168 (fr_law m p1 p2 p3 114 (vR x21) (vR x31) (vI 1) (vR b365) (vR b365) (vR x1125) (vI 5) [(.ref x31), (iV 5), (.ref x1125)]) (fun t kt => ?_) ?_
    ·refine XS.iconst Xh1170.here hx rfl (D at_104) ?_
     refine XS.iadd Xh1170.here hx rfl (D at_105) rfl ?_
     refine XS.istore Xh1170.here hx rfl (D at_106) rfl (l' := #[vI p1, vI p2, vI p3, vR x21, vR x31, vI 1, vR b365, vR b365, vR x1125, vI 5]) rfl ?_
     refine XS.aload Xh1170.here hx rfl (D at_108) rfl rfl ?_
     refine XS.iload Xh1170.here hx rfl (D at_110) rfl ?_
     refine XS.aload Xh1170.here hx rfl (D at_112) rfl rfl ?_
     exact kt
    have f1171 := (f1131.keep Kq1125)
    have f1172 := ((f1105.keep Kq1112 (ninS ne387 (ninS ne398 nin0))).keep Kq1125 nin0)
    have f1173 := ((f1106.keep Kq1112 (ninS ne387 (ninS ne398 nin0))).keep Kq1125 nin0)
    have f1174 := (f1133.keep Kq1125 nin0)
    obtain ⟨vv1175, _, ⟨T1175, L1175, k1175, n1175⟩, -, X1175, ⟨Lc1175, hQ1175, l1175, y1175, z1175⟩, st1175⟩ := Jvm.LawKit.callS Xh1170 hx (y := yM35) hown1119 (mvT hZ1119 (Wd171 hw)) (mvT hZ1119 (Wd172 hw)) (mvT hZ1119 (Wd2 hw)) (mvT hZ1119 (Wd173 hw)) (by decide) (backOf (W := 0) (c_clg0 l Z a0 hw [] x1125 t1125 kn1125 (8 : Int32) (oI [60, 47, oL f0, oL f1, 62, 60, 47, 62]) (5 : Int32) x31 t31 kb31 G1 G3 T1125.heap n0 f1164 Eq1125 Vq1125 Cq1125 Aq1125 f1171 f1172 f1173 f1174 (by decide +kernel) (by decide +kernel) (oCl (by decide +kernel) rfl (by decide +kernel)) (oCl (by decide +kernel) rfl (by decide +kernel)) (oCl (by decide +kernel) rfl (by decide +kernel)) O2 P5 O4 rG3 f1163) hZ1119 (Wd173 hw) (Wd2 hw) (by decide) (by decide)) (g := (fr_law m p1 p2 p3 114 (vR x21) (vR x31) (vI 1) (vR b365) (vR b365) (vR x1125) (vI 5) [(.ref x31), (iV 5), (.ref x1125)])) rfl (by rw [hml]; rfl) (argsL := [(.ref x1125), (iV 5), (.ref x31)]) (rest := []) (lenOf pd_36 rfl) rfl (oWt rfl) (D at_114) (fun _ _ => ⟨rfl, Eq1168, oLe rfl, oLe rfl⟩)
    dsimp only [Pt.U, Pt.locs, Pt.cells, Pt.slots] at X1175 l1175 y1175 z1175 st1175 hQ1175
    subst l1175 y1175 z1175
    obtain ⟨rfl, Nq1175, Eq1175⟩ := hQ1175
    have N1176 := Fr.app Nh1170 Nq1175
    obtain ⟨Lh1177, Xh1177, Nh1177⟩ := oHd 21 89 X1175 N1176 rfl rfl
    refine ownBy st1175 ?_
    clear st1175
    show oA p e below _ T1175 (fr_law m p1 p2 p3 117 (vR x21) (vR x31) (vI 1) (vR b365) (vR b365) (vR x1125) (vI 5) [(iV 1)])
    refine oTo T1175 (fr_law m p1 p2 p3 124 (vR x21) (vR x31) (vI 1) (vR b365) (vR b365) (vR x1125) (vI 5) [(.ref x1125)]) (fun t kt => ?_) ?_
    ·refine XS.ifYes Xh1177.here hx rfl (pc0 := 117) (pc' := 122) rfl (D at_117) rfl ((if0 _ _).trans (feq ((by decide) : ¬ ((1 : Int32) = (0 : Int32)))).2) (by decide) (by decide) ?_
     refine XS.aload Xh1177.here hx rfl (D at_122) rfl rfl ?_
     exact kt
    obtain ⟨cq1178, kq1178, q1178a, q1178b, q1178c⟩ := isOf hZ1119 Eq1175 Eq1125
    obtain ⟨vv1178, _, ⟨T1178, L1178, k1178, n1178⟩, -, X1178, ⟨Lc1178, hQ1178, l1178, y1178, z1178⟩, st1178⟩ := Xh1177.virtualBack hx (y := yM4) (z := yM4) hown1119 (mvT hZ1119 (Wd174 hw)) (mvT hZ1119 (Wd70 hw)) (oNf hZ1119 (Wd72 hw)) (mvT hZ1119 (Wd72 hw)) (mvT hZ1119 (Wd71 hw)) (by decide) (backOf (W := 0) (c_leng l Z a0 hw [] x1125 t1125 kn1125 (8 : Int32) (oI [60, 47, oL f0, oL f1, 62, 60, 47, 62]) G1 T1125.heap n0 f1164 Eq1125 Vq1125 Cq1125 Aq1125 (by decide +kernel) O2 P5 f1163) hZ1119 (Wd73 hw) (Wd6 hw) (by decide) (by decide)) q1178a q1178c (g := (fr_law m p1 p2 p3 124 (vR x21) (vR x31) (vI 1) (vR b365) (vR b365) (vR x1125) (vI 5) [(.ref x1125)])) rfl (by rw [hml]; rfl) (Steps.refl _) (argsL := []) (rest := []) (lenOf pd_15 rfl) rfl (oWt rfl) (D at_124) (fun _ _ => ⟨rfl, Eq1175, oLe rfl, oLe rfl⟩)
    dsimp only [Pt.U, Pt.locs, Pt.cells, Pt.slots] at X1178 l1178 y1178 z1178 st1178 hQ1178
    subst l1178 y1178 z1178
    obtain ⟨rfl, Nq1178, Eq1178⟩ := hQ1178
    have N1179 := Fr.app Nh1177 Nq1178
    obtain ⟨Lh1180, Xh1180, Nh1180⟩ := oHd 21 89 X1178 N1179 rfl rfl
    refine ownSt st1178 ?_
    clear st1178
    show oA p e below _ T1178 (fr_law m p1 p2 p3 127 (vR x21) (vR x31) (vI 1) (vR b365) (vR b365) (vR x1125) (vI 5) [(iV 8)])
    refine oTo T1178 (fr_law m p1 p2 p3 131 (vR x21) (vR x31) (vI 1) (vR b365) (vR b365) (vR x1125) (vI 5) [(.ref x31), (iV 5), (iV 8)]) (fun t kt => ?_) ?_
    ·refine XS.iload Xh1180.here hx rfl (D at_127) rfl ?_
     refine XS.aload Xh1180.here hx rfl (D at_129) rfl rfl ?_
     exact kt
    obtain ⟨cq1181, kq1181, q1181a, q1181b, q1181c⟩ := isOf hZ1119 Eq1178 f1171
    obtain ⟨vv1181, _, ⟨T1181, L1181, k1181, n1181⟩, -, X1181, ⟨Lc1181, hQ1181, l1181, y1181, z1181⟩, st1181⟩ := Xh1180.virtualBack hx (y := yM4) (z := yM4) hown1119 (mvT hZ1119 (Wd174 hw)) (mvT hZ1119 (Wd70 hw)) (oNf hZ1119 (Wd72 hw)) (mvT hZ1119 (Wd72 hw)) (mvT hZ1119 (Wd71 hw)) (by decide) (backOf (W := 2) (c_leng l Z a0 hw [] x31 t31 kb31 (0 : Int32) [] G1 T1125.heap n0 f1164 f1171 f1172 f1173 f1174 (by decide +kernel) O2 P5 f1163) hZ1119 (Wd73 hw) (Wd6 hw) (by decide) (by decide)) q1181a q1181c (g := (fr_law m p1 p2 p3 131 (vR x21) (vR x31) (vI 1) (vR b365) (vR b365) (vR x1125) (vI 5) [(.ref x31), (iV 5), (iV 8)])) rfl (by rw [hml]; rfl) (Steps.refl _) (argsL := []) (rest := [(iV 5), (iV 8)]) (lenOf pd_15 rfl) rfl (oWt rfl) (D at_131) (fun _ _ => ⟨rfl, Eq1178, oLe rfl, oLe rfl⟩)
    dsimp only [Pt.U, Pt.locs, Pt.cells, Pt.slots] at X1181 l1181 y1181 z1181 st1181 hQ1181
    subst l1181 y1181 z1181
    obtain ⟨rfl, Nq1181, Eq1181⟩ := hQ1181
    have N1182 := Fr.app Nh1180 Nq1181
    obtain ⟨Lh1183, Xh1183, Nh1183⟩ := oHd 21 89 X1181 N1182 rfl rfl
    refine ownSt st1181 ?_
    clear st1181
    show oA p e below _ T1181 (fr_law m p1 p2 p3 134 (vR x21) (vR x31) (vI 1) (vR b365) (vR b365) (vR x1125) (vI 5) [(iV 0), (iV 5), (iV 8)])
    refine oTo T1181 (fr_law m p1 p2 p3 145 (vR x21) (vR x31) (vI 1) (vR b365) (vR b365) (vR x1125) (vI 5) [(iV 1)]) (fun t kt => ?_) ?_
    ·refine XS.iadd Xh1183.here hx rfl (D at_134) rfl ?_
     refine XS.iconst Xh1183.here hx rfl (D at_135) ?_
     refine XS.iadd Xh1183.here hx rfl (D at_136) rfl ?_
     refine XS.icmpNo Xh1183.here hx rfl (D at_137) rfl (teq ((by decide) : (8 : Int32) = (8 : Int32))).2 ?_
     refine XS.iconst Xh1183.here hx rfl (D at_140) ?_
     refine XS.goto Xh1183.here hx rfl (pc0 := 141) (pc' := 145) rfl (D at_141) (by decide) (by decide) ?_
     exact kt
    refine ownRetH Xh1183 hSR1119 (by rw [Eq1181]; exact (Nat.le_trans (Nat.le_refl _) Kq1125.1)) Bd.notSynchronized (v := some (.int (nar .boolean (1 : Int32)))) (fun h => by rw [Bd.returns] at h; cases h) ?_ (R1152.trans ((by rw [Eq1181]; exact CHv.at Xh1183 hZ1119 hEL R1152.1))) (oLe rfl) (oLe rfl) (fun fs hr => retN Xh1183 hx (t := .boolean) Bd.returns (by simp) (D at_145) hr)
    show (Q_law Z p1 p2 p3 G1 G3 h0 n0) (some (.int (nar .boolean (1 : Int32)))) T1181.heap _
    rw [Eq1181]
    exact ⟨rfl, Nh1183⟩
   ·skip
    refine oTo T1095 (fr_law m p1 p2 p3 59 (vR x21) (vR x31) (vI 1) (vR b365) (vR b365) .unset .unset [(.ref x31), (.ref b365)]) (fun t kt => ?_) ?_
    ·refine XS.aload Xh1103.here hx rfl (D at_55) rfl rfl ?_
     refine XS.aload Xh1103.here hx rfl (D at_57) rfl rfl ?_
     exact kt
    have f1185 := ((f388.keep Kq382).keep Kq1095)
    have f1186 := (((Vq31.ext E365).keep Kq382 (ninS ne370 nin0)).keep Kq1095 (ninS ne387 (ninS ne398 nin0)))
    have f1187 := (((Cq31.ext E365).keep Kq382 (ninS ne370 nin0)).keep Kq1095 (ninS ne387 (ninS ne398 nin0)))
    have f1188 := ((f390.keep Kq382 (ninS ne371 nin0)).keep Kq1095 (ninS ne389 (ninS ne399 nin0)))
    have f1189 := (Eh382.keep Kq1095)
    have f1190 := (Fh382.keep Kq1095 (ninS ne391 (ninS ne400 nin0)))
    have f1191 := (f1093.keep Kq1095 (allS g392 (allS g401 all0)))
    have f1192 := (Nat.le_trans f1094 Kq1095.1)
    obtain ⟨cq1193, kq1193, q1193a, q1193b, q1193c⟩ := isOf hZ1102 rfl f1189
    obtain ⟨vv1193, _, ⟨T1193, L1193, k1193, n1193⟩, -, X1193, hS1193, hg1193, ⟨Lc1193, hQ1193, l1193, y1193, z1193, hC1193⟩, st1193⟩ := Xh1103.virtualBackS hx (y := yM33) (z := yM33) hown1102 (mvT hZ1102 (Wd53 hw)) (mvT hZ1102 (Wd54 hw)) (oNf hZ1102 (Wd56 hw)) (mvT hZ1102 (Wd56 hw)) (mvT hZ1102 (Wd55 hw)) (by decide) (backOfSH (W := 0) (s := s) (EL := ownEL) (c_hcl l Z a0 hw [] b365 x31 t31 kb31 (1 : Int32) (oI [oL g0]) sb382 t382 kv382 (16 : Int32) (oI [60, 47, oL f0, oL f1, 62, 0, 0, 0, 0, 0, 0, 0, 0, 0, 0, 0]) (5 : Int32) (oI [60, 47, oL f0, oL f1, 62, 60, 47, 0, 0, 0, 0, 0, 0, 0, 0, 0]) (oI [60, 47, oL f0, oL f1, 62, 60, 47, oL g0, 0, 0, 0, 0, 0, 0, 0, 0]) (oI [60, 47, oL f0, oL f1, 62, 60, 47, oL g0, 62, 0, 0, 0, 0, 0, 0, 0]) (7 : Int32) (8 : Int32) (9 : Int32) G1 T1095.heap n0 f1192 f1189 f1190 f1185 f1186 f1187 f1188 Eq1095 Vq1095 Cq1095 Mq1095 Aq1095 g392 g401 ne399 (by decide +kernel) (oCp (by decide +kernel) rfl rfl rfl) (oCp (by decide +kernel) rfl rfl rfl) (oCq (by decide +kernel) rfl rfl) O2 P5 f1191) hZ1102 (Wd57 hw) (Wd28 hw) (by decide) (by decide) hEL R1098.1) q1193a q1193c (g := (fr_law m p1 p2 p3 59 (vR x21) (vR x31) (vI 1) (vR b365) (vR b365) .unset .unset [(.ref x31), (.ref b365)])) rfl (by rw [hml]; rfl) (Steps.refl _) (argsL := [(.ref x31)]) (rest := []) (lenOf pd_35 rfl) rfl (oWt rfl) (D at_59) (fun _ _ => ⟨rfl, rfl, oLe rfl, oLe rfl⟩)
    dsimp only [Pt.U, Pt.locs, Pt.cells, Pt.slots] at X1193 l1193 y1193 z1193 st1193 hQ1193 hS1193 hg1193 hC1193
    subst l1193 y1193 z1193
    obtain ⟨rfl, Nq1193, Kq1193, Eq1193, Vq1193, Cq1193, Mq1193, Aq1193⟩ := hQ1193
    have N1194 := Fr.app Nh1103 Nq1193
    have R1196 := R1098.trans hC1193
    have sf1197 := CHr.safe hC1193 f1189.lt sf1099
    have sf1198 := CHr.safe hC1193 Eq1095.lt sf1100
    have sf1199 := CHr.safe hC1193 Aq1095.lt sf1101
    obtain ⟨XR1200, hSR1200, hZ1200, hown1200⟩ := rebS hSR1102 (Nat.le_refl _) X1193 hS1193 hg1193 hZ1102 hown1102
    obtain ⟨Lh1201, Xh1201, Nh1201⟩ := oHd 19 69 XR1200 N1194 rfl rfl
    refine ownSt st1193 ?_
    clear st1193
    show oA p e below _ T1193 (fr_law m p1 p2 p3 62 (vR x21) (vR x31) (vI 1) (vR b365) (vR b365) .unset .unset [(.ref b365)])
    refine oTo T1193 (fr_law m p1 p2 p3 75 (vR x21) (vR x31) (vI 1) (vR b365) (vR b365) .unset .unset [(.ref b365)]) (fun t kt => ?_) ?_
    ·refine XS.astore Xh1201.here hx rfl (D at_62) rfl rfl (l' := #[vI p1, vI p2, vI p3, vR x21, vR x31, vI 1, vR b365, vR b365, .unset, .unset]) rfl ?_
     refine XS.aload Xh1201.here hx rfl (D at_64) rfl rfl ?_
     refine XS.aload Xh1201.here hx rfl (D at_66) rfl rfl ?_
     refine Jvm.RoadKit.acmp (g := (fr_law m p1 p2 p3 68 (vR x21) (vR x31) (vI 1) (vR b365) (vR b365) .unset .unset [(.ref b365), (.ref b365)])) Xh1201 hx rfl rfl rfl (pc0 := 68) (pc' := 73) (same := true) rfl (D at_68) rfl (decide_eq_true rfl) (by decide) (by decide) ?_
     refine XS.aload Xh1201.here hx rfl (D at_73) rfl rfl ?_
     exact kt
    have f1202 := (f1189.keep Kq1193)
    have f1203 := (f1190.keep Kq1193 (ninS ne391 (ninS ne400 nin0)))
    have f1204 := (f1191.keep Kq1193 (allS g392 (allS g401 all0)))
    have f1205 := (Nat.le_trans f1192 Kq1193.1)
    obtain ⟨cq1206, kq1206, q1206a, q1206b, q1206c⟩ := isOf hZ1200 rfl f1202
    obtain ⟨vv1206, _, ⟨T1206, L1206, k1206, n1206⟩, -, X1206, ⟨Lc1206, hQ1206, l1206, y1206, z1206⟩, st1206⟩ := Xh1201.virtualBack hx (y := yM34) (z := yM34) hown1200 (mvT hZ1200 (Wd125 hw)) (mvT hZ1200 (Wd126 hw)) (oNf hZ1200 (Wd128 hw)) (mvT hZ1200 (Wd128 hw)) (mvT hZ1200 (Wd127 hw)) (by decide) (backOf (W := 0) (c_hts l Z a0 hw [] b365 sb382 t382 kv382 (16 : Int32) (oI [60, 47, oL f0, oL f1, 62, 60, 47, oL g0, 62, 0, 0, 0, 0, 0, 0, 0]) (9 : Int32) (oI [60, 47, oL f0, oL f1, 62, 60, 47, oL g0, 62]) G1 T1193.heap n0 f1205 f1202 f1203 Eq1193 Vq1193 Cq1193 Mq1193 Aq1193 (oCr (by decide +kernel) rfl) O2 P5 f1204) hZ1200 (Wd129 hw) (Wd28 hw) (by decide) (by decide)) q1206a q1206c (g := (fr_law m p1 p2 p3 75 (vR x21) (vR x31) (vI 1) (vR b365) (vR b365) .unset .unset [(.ref b365)])) rfl (by rw [hml]; rfl) (Steps.refl _) (argsL := []) (rest := []) (lenOf pd_32 rfl) rfl (oWt rfl) (D at_75) (fun _ _ => ⟨rfl, rfl, oLe rfl, oLe rfl⟩)
    dsimp only [Pt.U, Pt.locs, Pt.cells, Pt.slots] at X1206 l1206 y1206 z1206 st1206 hQ1206
    subst l1206 y1206 z1206
    obtain ⟨x1206, t1206, kn1206, rfl, Nq1206, Kq1206, zx1206, zq1206, Eq1206, Vq1206, Cq1206, Aq1206⟩ := hQ1206
    have f1208 := ((f1089.keep Kq1095).keep Kq1193)
    have ne1207 : x21 ≠ x1206 := Nat.ne_of_lt (Nat.lt_of_lt_of_le f1208.lt zx1206)
    have f1210 := ((f1092.keep Kq1095 (ninS ne385 (ninS ne397 nin0))).keep Kq1193 (ninS ne385 (ninS ne397 nin0)))
    have ne1209 : t21 ≠ x1206 := Nat.ne_of_lt (Nat.lt_of_lt_of_le f1210.lt zx1206)
    have f1212 := (f1185.keep Kq1193)
    have ne1211 : x31 ≠ x1206 := Nat.ne_of_lt (Nat.lt_of_lt_of_le f1212.lt zx1206)
    have f1214 := (f1188.keep Kq1193 (ninS ne389 (ninS ne399 nin0)))
    have ne1213 : t31 ≠ x1206 := Nat.ne_of_lt (Nat.lt_of_lt_of_le f1214.lt zx1206)
    have ne1215 : b365 ≠ x1206 := Nat.ne_of_lt (Nat.lt_of_lt_of_le f1202.lt zx1206)
    have ne1216 : sb382 ≠ x1206 := Nat.ne_of_lt (Nat.lt_of_lt_of_le Eq1193.lt zx1206)
    have ne1217 : t382 ≠ x1206 := Nat.ne_of_lt (Nat.lt_of_lt_of_le Aq1193.lt zx1206)
    have g1218 : n0 ≤ x1206 := Nat.le_trans f1205 zx1206
    have sf1219 : Safe Z ownEL T1193.vm T1193.heap x1206 := Safe.new zx1206
    have f1221 := (Nat.le_trans (Nat.le_trans (Nat.le_trans f395 Kq382.1) Kq1095.1) Kq1193.1)
    have z1220 : h0.size ≤ x1206 := Nat.le_trans f1221 zx1206
    have ne1222 : x21 ≠ t1206 := Nat.ne_of_lt (Nat.lt_of_lt_of_le f1208.lt zq1206)
    have ne1223 : t21 ≠ t1206 := Nat.ne_of_lt (Nat.lt_of_lt_of_le f1210.lt zq1206)
    have ne1224 : x31 ≠ t1206 := Nat.ne_of_lt (Nat.lt_of_lt_of_le f1212.lt zq1206)
    have ne1225 : t31 ≠ t1206 := Nat.ne_of_lt (Nat.lt_of_lt_of_le f1214.lt zq1206)
    have ne1226 : b365 ≠ t1206 := Nat.ne_of_lt (Nat.lt_of_lt_of_le f1202.lt zq1206)
    have ne1227 : sb382 ≠ t1206 := Nat.ne_of_lt (Nat.lt_of_lt_of_le Eq1193.lt zq1206)
    have ne1228 : t382 ≠ t1206 := Nat.ne_of_lt (Nat.lt_of_lt_of_le Aq1193.lt zq1206)
    have g1229 : n0 ≤ t1206 := Nat.le_trans f1205 zq1206
    have sf1230 : Safe Z ownEL T1193.vm T1193.heap t1206 := Safe.new zq1206
    have z1231 : h0.size ≤ t1206 := Nat.le_trans f1221 zq1206
    have N1232 := Fr.app Nh1201 Nq1206
    have R1233 := R1196.trans (CHr.keep Kq1206 sf0 R1196.1)
    have sf1234 := Safe.keep Kq1206 sf0 R1196.1 sf1197
    have sf1235 := Safe.keep Kq1206 sf0 R1196.1 sf1198
    have sf1236 := Safe.keep Kq1206 sf0 R1196.1 sf1199
    have sf1237 := Safe.keep Kq1206 sf0 R1196.1 sf1219
    have sf1238 := Safe.keep Kq1206 sf0 R1196.1 sf1230
    obtain ⟨Lh1239, Xh1239, Nh1239⟩ := oHd 21 89 X1206 N1232 rfl rfl
    refine ownSt st1206 ?_
    clear st1206
    show oA p e below _ T1206 (fr_law m p1 p2 p3 78 (vR x21) (vR x31) (vI 1) (vR b365) (vR b365) .unset .unset [(.ref x1206)])
    refine oTo T1206 (fr_law m p1 p2 p3 92 (vR x21) (vR x31) (vI 1) (vR b365) (vR b365) (vR x1206) (vI 0) [(.ref x21), (iV 0), (.ref x1206)]) (fun t kt => ?_) ?_
    ·refine XS.astore Xh1239.here hx rfl (D at_78) rfl rfl (l' := #[vI p1, vI p2, vI p3, vR x21, vR x31, vI 1, vR b365, vR b365, vR x1206, .unset]) rfl ?_
     refine XS.iconst Xh1239.here hx rfl (D at_80) ?_
     refine XS.istore Xh1239.here hx rfl (D at_81) rfl (l' := #[vI p1, vI p2, vI p3, vR x21, vR x31, vI 1, vR b365, vR b365, vR x1206, vI 0]) rfl ?_
     refine XS.iload Xh1239.here hx rfl (D at_83) rfl ?_
     refine XS.ifNo Xh1239.here hx rfl (D at_85) rfl ((if0 _ _).trans (feq ((by decide) : ¬ ((1 : Int32) = (0 : Int32)))).1) ?_
     refine XS.aload Xh1239.here hx rfl (D at_88) rfl rfl ?_
     refine XS.iconst Xh1239.here hx rfl (D at_90) ?_
     refine XS.aloadN Xh1239.here hx rfl (D at_91) rfl rfl ?_
     exact kt
    have f1240 := (f1208.keep Kq1206)
    have f1241 := (((f1090.keep Kq1095 (ninS ne383 (ninS ne396 nin0))).keep Kq1193 (ninS ne383 (ninS ne396 nin0))).keep Kq1206 nin0)
    have f1242 := (((f1091.keep Kq1095 (ninS ne383 (ninS ne396 nin0))).keep Kq1193 (ninS ne383 (ninS ne396 nin0))).keep Kq1206 nin0)
    have f1243 := (f1210.keep Kq1206 nin0)
    have f1244 := (f1204.keep Kq1206 all0)
    have f1245 := (Nat.le_trans f1205 Kq1206.1)
    obtain ⟨vv1246, _, ⟨T1246, L1246, k1246, n1246⟩, -, X1246, ⟨Lc1246, hQ1246, l1246, y1246, z1246⟩, st1246⟩ := Jvm.LawKit.callS Xh1239 hx (y := yM35) hown1200 (mvT hZ1200 (Wd171 hw)) (mvT hZ1200 (Wd172 hw)) (mvT hZ1200 (Wd2 hw)) (mvT hZ1200 (Wd173 hw)) (by decide) (backOf (W := 0) (c_clg2 l Z a0 hw [] x1206 t1206 kn1206 (9 : Int32) (oI [60, 47, oL f0, oL f1, 62, 60, 47, oL g0, 62]) (0 : Int32) x21 t21 kb21 f0 f1 G1 G3 T1206.heap n0 f1245 Eq1206 Vq1206 Cq1206 Aq1206 f1240 f1241 f1242 f1243 hr_f0 hr_f1 (by decide +kernel) (by decide +kernel) (oCl (by decide +kernel) rfl (by decide +kernel)) (oCl (by decide +kernel) rfl (by decide +kernel)) (oCl (by decide +kernel) rfl hr_f0) (oCl (by decide +kernel) rfl hr_f1) (oCl (by decide +kernel) rfl (by decide +kernel)) O2 P5 O4 rG3 f1244) hZ1200 (Wd173 hw) (Wd2 hw) (by decide) (by decide)) (g := (fr_law m p1 p2 p3 92 (vR x21) (vR x31) (vI 1) (vR b365) (vR b365) (vR x1206) (vI 0) [(.ref x21), (iV 0), (.ref x1206)])) rfl (by rw [hml]; rfl) (argsL := [(.ref x1206), (iV 0), (.ref x21)]) (rest := []) (lenOf pd_36 rfl) rfl (oWt rfl) (D at_92) (fun _ _ => ⟨rfl, rfl, oLe rfl, oLe rfl⟩)
    dsimp only [Pt.U, Pt.locs, Pt.cells, Pt.slots] at X1246 l1246 y1246 z1246 st1246 hQ1246
    subst l1246 y1246 z1246
    obtain ⟨rfl, Nq1246, Eq1246⟩ := hQ1246
    have N1247 := Fr.app Nh1239 Nq1246
    obtain ⟨Lh1248, Xh1248, Nh1248⟩ := oHd 21 89 X1246 N1247 rfl rfl
    refine ownBy st1246 ?_
    clear st1246
    show oA p e below _ T1246 (fr_law m p1 p2 p3 95 (vR x21) (vR x31) (vI 1) (vR b365) (vR b365) (vR x1206) (vI 0) [(iV 1)])
    refine oTo T1246 (fr_law m p1 p2 p3 101 (vR x21) (vR x31) (vI 1) (vR b365) (vR b365) (vR x1206) (vI 0) [(.ref x21)]) (fun t kt => ?_) ?_
    ·refine XS.ifYes Xh1248.here hx rfl (pc0 := 95) (pc' := 100) rfl (D at_95) rfl ((if0 _ _).trans (feq ((by decide) : ¬ ((1 : Int32) = (0 : Int32)))).2) (by decide) (by decide) ?_
     refine XS.aloadN Xh1248.here hx rfl (D at_100) rfl rfl ?_
     exact kt
    obtain ⟨cq1249, kq1249, q1249a, q1249b, q1249c⟩ := isOf hZ1200 Eq1246 f1240
    obtain ⟨vv1249, _, ⟨T1249, L1249, k1249, n1249⟩, -, X1249, ⟨Lc1249, hQ1249, l1249, y1249, z1249⟩, st1249⟩ := Xh1248.virtualBack hx (y := yM4) (z := yM4) hown1200 (mvT hZ1200 (Wd174 hw)) (mvT hZ1200 (Wd70 hw)) (oNf hZ1200 (Wd72 hw)) (mvT hZ1200 (Wd72 hw)) (mvT hZ1200 (Wd71 hw)) (by decide) (backOf (W := 0) (c_leng l Z a0 hw [] x21 t21 kb21 (2 : Int32) (oI [oL f0, oL f1]) G1 T1206.heap n0 f1245 f1240 f1241 f1242 f1243 (by decide +kernel) O2 P5 f1244) hZ1200 (Wd73 hw) (Wd6 hw) (by decide) (by decide)) q1249a q1249c (g := (fr_law m p1 p2 p3 101 (vR x21) (vR x31) (vI 1) (vR b365) (vR b365) (vR x1206) (vI 0) [(.ref x21)])) rfl (by rw [hml]; rfl) (Steps.refl _) (argsL := []) (rest := []) (lenOf pd_15 rfl) rfl (oWt rfl) (D at_101) (fun _ _ => ⟨rfl, Eq1246, oLe rfl, oLe rfl⟩)
    dsimp only [Pt.U, Pt.locs, Pt.cells, Pt.slots] at X1249 l1249 y1249 z1249 st1249 hQ1249
    subst l1249 y1249 z1249
    obtain ⟨rfl, Nq1249, Eq1249⟩ := hQ1249
    have N1250 := Fr.app Nh1248 Nq1249
    obtain ⟨Lh1251, Xh1251, Nh1251⟩ := oHd 21 89 X1249 N1250 rfl rfl
    refine ownSt st1249 ?_
    clear st1249
    show oA p e below _ T1249 (fr_law m p1 p2 p3 104 (vR x21) (vR x31) (vI 1) (vR b365) (vR b365) (vR x1206) (vI 0) [(iV 2)])
    refine oTo T1249 (fr_law m p1 p2 p3 114 (vR x21) (vR x31) (vI 1) (vR b365) (vR b365) (vR x1206) (vI 5) [(.ref x31), (iV 5), (.ref x1206)]) (fun t kt => ?_) ?_
    ·refine XS.iconst Xh1251.here hx rfl (D at_104) ?_
     refine XS.iadd Xh1251.here hx rfl (D at_105) rfl ?_
     refine XS.istore Xh1251.here hx rfl (D at_106) rfl (l' := #[vI p1, vI p2, vI p3, vR x21, vR x31, vI 1, vR b365, vR b365, vR x1206, vI 5]) rfl ?_
     refine XS.aload Xh1251.here hx rfl (D at_108) rfl rfl ?_
     refine XS.iload Xh1251.here hx rfl (D at_110) rfl ?_
     refine XS.aload Xh1251.here hx rfl (D at_112) rfl rfl ?_
     exact kt
    have f1252 := (f1212.keep Kq1206)
    have f1253 := ((f1186.keep Kq1193 (ninS ne387 (ninS ne398 nin0))).keep Kq1206 nin0)
    have f1254 := ((f1187.keep Kq1193 (ninS ne387 (ninS ne398 nin0))).keep Kq1206 nin0)
    have f1255 := (f1214.keep Kq1206 nin0)
    obtain ⟨vv1256, _, ⟨T1256, L1256, k1256, n1256⟩, -, X1256, ⟨Lc1256, hQ1256, l1256, y1256, z1256⟩, st1256⟩ := Jvm.LawKit.callS Xh1251 hx (y := yM35) hown1200 (mvT hZ1200 (Wd171 hw)) (mvT hZ1200 (Wd172 hw)) (mvT hZ1200 (Wd2 hw)) (mvT hZ1200 (Wd173 hw)) (by decide) (backOf (W := 0) (c_clg1 l Z a0 hw [] x1206 t1206 kn1206 (9 : Int32) (oI [60, 47, oL f0, oL f1, 62, 60, 47, oL g0, 62]) (5 : Int32) x31 t31 kb31 g0 G1 G3 T1206.heap n0 f1245 Eq1206 Vq1206 Cq1206 Aq1206 f1252 f1253 f1254 f1255 hr_g0 (by decide +kernel) (by decide +kernel) (oCl (by decide +kernel) rfl (by decide +kernel)) (oCl (by decide +kernel) rfl (by decide +kernel)) (oCl (by decide +kernel) rfl hr_g0) (oCl (by decide +kernel) rfl (by decide +kernel)) O2 P5 O4 rG3 f1244) hZ1200 (Wd173 hw) (Wd2 hw) (by decide) (by decide)) (g := (fr_law m p1 p2 p3 114 (vR x21) (vR x31) (vI 1) (vR b365) (vR b365) (vR x1206) (vI 5) [(.ref x31), (iV 5), (.ref x1206)])) rfl (by rw [hml]; rfl) (argsL := [(.ref x1206), (iV 5), (.ref x31)]) (rest := []) (lenOf pd_36 rfl) rfl (oWt rfl) (D at_114) (fun _ _ => ⟨rfl, Eq1249, oLe rfl, oLe rfl⟩)
    dsimp only [Pt.U, Pt.locs, Pt.cells, Pt.slots] at X1256 l1256 y1256 z1256 st1256 hQ1256
    subst l1256 y1256 z1256
    obtain ⟨rfl, Nq1256, Eq1256⟩ := hQ1256
    have N1257 := Fr.app Nh1251 Nq1256
    obtain ⟨Lh1258, Xh1258, Nh1258⟩ := oHd 21 89 X1256 N1257 rfl rfl
    refine ownBy st1256 ?_
    clear st1256
    show oA p e below _ T1256 (fr_law m p1 p2 p3 117 (vR x21) (vR x31) (vI 1) (vR b365) (vR b365) (vR x1206) (vI 5) [(iV 1)])
    refine oTo T1256 (fr_law m p1 p2 p3 124 (vR x21) (vR x31) (vI 1) (vR b365) (vR b365) (vR x1206) (vI 5) [(.ref x1206)]) (fun t kt => ?_) ?_
    ·refine XS.ifYes Xh1258.here hx rfl (pc0 := 117) (pc' := 122) rfl (D at_117) rfl ((if0 _ _).trans (feq ((by decide) : ¬ ((1 : Int32) = (0 : Int32)))).2) (by decide) (by decide) ?_
     refine XS.aload Xh1258.here hx rfl (D at_122) rfl rfl ?_
     exact kt
    obtain ⟨cq1259, kq1259, q1259a, q1259b, q1259c⟩ := isOf hZ1200 Eq1256 Eq1206
    obtain ⟨vv1259, _, ⟨T1259, L1259, k1259, n1259⟩, -, X1259, ⟨Lc1259, hQ1259, l1259, y1259, z1259⟩, st1259⟩ := Xh1258.virtualBack hx (y := yM4) (z := yM4) hown1200 (mvT hZ1200 (Wd174 hw)) (mvT hZ1200 (Wd70 hw)) (oNf hZ1200 (Wd72 hw)) (mvT hZ1200 (Wd72 hw)) (mvT hZ1200 (Wd71 hw)) (by decide) (backOf (W := 0) (c_leng l Z a0 hw [] x1206 t1206 kn1206 (9 : Int32) (oI [60, 47, oL f0, oL f1, 62, 60, 47, oL g0, 62]) G1 T1206.heap n0 f1245 Eq1206 Vq1206 Cq1206 Aq1206 (by decide +kernel) O2 P5 f1244) hZ1200 (Wd73 hw) (Wd6 hw) (by decide) (by decide)) q1259a q1259c (g := (fr_law m p1 p2 p3 124 (vR x21) (vR x31) (vI 1) (vR b365) (vR b365) (vR x1206) (vI 5) [(.ref x1206)])) rfl (by rw [hml]; rfl) (Steps.refl _) (argsL := []) (rest := []) (lenOf pd_15 rfl) rfl (oWt rfl) (D at_124) (fun _ _ => ⟨rfl, Eq1256, oLe rfl, oLe rfl⟩)
    dsimp only [Pt.U, Pt.locs, Pt.cells, Pt.slots] at X1259 l1259 y1259 z1259 st1259 hQ1259
    subst l1259 y1259 z1259
    obtain ⟨rfl, Nq1259, Eq1259⟩ := hQ1259
    have N1260 := Fr.app Nh1258 Nq1259
    obtain ⟨Lh1261, Xh1261, Nh1261⟩ := oHd 21 89 X1259 N1260 rfl rfl
    refine ownSt st1259 ?_
    clear st1259
    show oA p e below _ T1259 (fr_law m p1 p2 p3 127 (vR x21) (vR x31) (vI 1) (vR b365) (vR b365) (vR x1206) (vI 5) [(iV 9)])
    refine oTo T1259 (fr_law m p1 p2 p3 131 (vR x21) (vR x31) (vI 1) (vR b365) (vR b365) (vR x1206) (vI 5) [(.ref x31), (iV 5), (iV 9)]) (fun t kt => ?_) ?_
    ·refine XS.iload Xh1261.here hx rfl (D at_127) rfl ?_
     refine XS.aload Xh1261.here hx rfl (D at_129) rfl rfl ?_
     exact kt
    obtain ⟨cq1262, kq1262, q1262a, q1262b, q1262c⟩ := isOf hZ1200 Eq1259 f1252
    obtain ⟨vv1262, _, ⟨T1262, L1262, k1262, n1262⟩, -, X1262, ⟨Lc1262, hQ1262, l1262, y1262, z1262⟩, st1262⟩ := Xh1261.virtualBack hx (y := yM4) (z := yM4) hown1200 (mvT hZ1200 (Wd174 hw)) (mvT hZ1200 (Wd70 hw)) (oNf hZ1200 (Wd72 hw)) (mvT hZ1200 (Wd72 hw)) (mvT hZ1200 (Wd71 hw)) (by decide) (backOf (W := 2) (c_leng l Z a0 hw [] x31 t31 kb31 (1 : Int32) (oI [oL g0]) G1 T1206.heap n0 f1245 f1252 f1253 f1254 f1255 (by decide +kernel) O2 P5 f1244) hZ1200 (Wd73 hw) (Wd6 hw) (by decide) (by decide)) q1262a q1262c (g := (fr_law m p1 p2 p3 131 (vR x21) (vR x31) (vI 1) (vR b365) (vR b365) (vR x1206) (vI 5) [(.ref x31), (iV 5), (iV 9)])) rfl (by rw [hml]; rfl) (Steps.refl _) (argsL := []) (rest := [(iV 5), (iV 9)]) (lenOf pd_15 rfl) rfl (oWt rfl) (D at_131) (fun _ _ => ⟨rfl, Eq1259, oLe rfl, oLe rfl⟩)
    dsimp only [Pt.U, Pt.locs, Pt.cells, Pt.slots] at X1262 l1262 y1262 z1262 st1262 hQ1262
    subst l1262 y1262 z1262
    obtain ⟨rfl, Nq1262, Eq1262⟩ := hQ1262
    have N1263 := Fr.app Nh1261 Nq1262
    obtain ⟨Lh1264, Xh1264, Nh1264⟩ := oHd 21 89 X1262 N1263 rfl rfl
    refine ownSt st1262 ?_
    clear st1262
    show oA p e below _ T1262 (fr_law m p1 p2 p3 134 (vR x21) (vR x31) (vI 1) (vR b365) (vR b365) (vR x1206) (vI 5) [(iV 1), (iV 5), (iV 9)])
    refine oTo T1262 (fr_law m p1 p2 p3 145 (vR x21) (vR x31) (vI 1) (vR b365) (vR b365) (vR x1206) (vI 5) [(iV 1)]) (fun t kt => ?_) ?_
    ·refine XS.iadd Xh1264.here hx rfl (D at_134) rfl ?_
     refine XS.iconst Xh1264.here hx rfl (D at_135) ?_
     refine XS.iadd Xh1264.here hx rfl (D at_136) rfl ?_
     refine XS.icmpNo Xh1264.here hx rfl (D at_137) rfl (teq ((by decide) : (9 : Int32) = (9 : Int32))).2 ?_
     refine XS.iconst Xh1264.here hx rfl (D at_140) ?_
     refine XS.goto Xh1264.here hx rfl (pc0 := 141) (pc' := 145) rfl (D at_141) (by decide) (by decide) ?_
     exact kt
    refine ownRetH Xh1264 hSR1200 (by rw [Eq1262]; exact (Nat.le_trans (Nat.le_refl _) Kq1206.1)) Bd.notSynchronized (v := some (.int (nar .boolean (1 : Int32)))) (fun h => by rw [Bd.returns] at h; cases h) ?_ (R1233.trans ((by rw [Eq1262]; exact CHv.at Xh1264 hZ1200 hEL R1233.1))) (oLe rfl) (oLe rfl) (fun fs hr => retN Xh1264 hx (t := .boolean) Bd.returns (by simp) (D at_145) hr)
    show (Q_law Z p1 p2 p3 G1 G3 h0 n0) (some (.int (nar .boolean (1 : Int32)))) T1262.heap _
    rw [Eq1262]
    exact ⟨rfl, Nh1264⟩
   ·skip
    refine oTo T1095 (fr_law m p1 p2 p3 59 (vR x21) (vR x31) (vI 1) (vR b365) (vR b365) .unset .unset [(.ref x31), (.ref b365)]) (fun t kt => ?_) ?_
    ·refine XS.aload Xh1103.here hx rfl (D at_55) rfl rfl ?_
     refine XS.aload Xh1103.here hx rfl (D at_57) rfl rfl ?_
     exact kt
    have f1266 := ((f388.keep Kq382).keep Kq1095)
    have f1267 := (((Vq31.ext E365).keep Kq382 (ninS ne370 nin0)).keep Kq1095 (ninS ne387 (ninS ne398 nin0)))
    have f1268 := (((Cq31.ext E365).keep Kq382 (ninS ne370 nin0)).keep Kq1095 (ninS ne387 (ninS ne398 nin0)))
    have f1269 := ((f390.keep Kq382 (ninS ne371 nin0)).keep Kq1095 (ninS ne389 (ninS ne399 nin0)))
    have f1270 := (Eh382.keep Kq1095)
    have f1271 := (Fh382.keep Kq1095 (ninS ne391 (ninS ne400 nin0)))
    have f1272 := (f1093.keep Kq1095 (allS g392 (allS g401 all0)))
    have f1273 := (Nat.le_trans f1094 Kq1095.1)
    obtain ⟨cq1274, kq1274, q1274a, q1274b, q1274c⟩ := isOf hZ1102 rfl f1270
    obtain ⟨vv1274, _, ⟨T1274, L1274, k1274, n1274⟩, -, X1274, hS1274, hg1274, ⟨Lc1274, hQ1274, l1274, y1274, z1274, hC1274⟩, st1274⟩ := Xh1103.virtualBackS hx (y := yM33) (z := yM33) hown1102 (mvT hZ1102 (Wd53 hw)) (mvT hZ1102 (Wd54 hw)) (oNf hZ1102 (Wd56 hw)) (mvT hZ1102 (Wd56 hw)) (mvT hZ1102 (Wd55 hw)) (by decide) (backOfSH (W := 0) (s := s) (EL := ownEL) (c_hcl l Z a0 hw [] b365 x31 t31 kb31 (2 : Int32) (oI [oL g0, oL g1]) sb382 t382 kv382 (16 : Int32) (oI [60, 47, oL f0, oL f1, 62, 0, 0, 0, 0, 0, 0, 0, 0, 0, 0, 0]) (5 : Int32) (oI [60, 47, oL f0, oL f1, 62, 60, 47, 0, 0, 0, 0, 0, 0, 0, 0, 0]) (oI [60, 47, oL f0, oL f1, 62, 60, 47, oL g0, oL g1, 0, 0, 0, 0, 0, 0, 0]) (oI [60, 47, oL f0, oL f1, 62, 60, 47, oL g0, oL g1, 62, 0, 0, 0, 0, 0, 0]) (7 : Int32) (9 : Int32) (10 : Int32) G1 T1095.heap n0 f1273 f1270 f1271 f1266 f1267 f1268 f1269 Eq1095 Vq1095 Cq1095 Mq1095 Aq1095 g392 g401 ne399 (by decide +kernel) (oCp (by decide +kernel) rfl rfl rfl) (oCp (by decide +kernel) rfl rfl rfl) (oCq (by decide +kernel) rfl rfl) O2 P5 f1272) hZ1102 (Wd57 hw) (Wd28 hw) (by decide) (by decide) hEL R1098.1) q1274a q1274c (g := (fr_law m p1 p2 p3 59 (vR x21) (vR x31) (vI 1) (vR b365) (vR b365) .unset .unset [(.ref x31), (.ref b365)])) rfl (by rw [hml]; rfl) (Steps.refl _) (argsL := [(.ref x31)]) (rest := []) (lenOf pd_35 rfl) rfl (oWt rfl) (D at_59) (fun _ _ => ⟨rfl, rfl, oLe rfl, oLe rfl⟩)
    dsimp only [Pt.U, Pt.locs, Pt.cells, Pt.slots] at X1274 l1274 y1274 z1274 st1274 hQ1274 hS1274 hg1274 hC1274
    subst l1274 y1274 z1274
    obtain ⟨rfl, Nq1274, Kq1274, Eq1274, Vq1274, Cq1274, Mq1274, Aq1274⟩ := hQ1274
    have N1275 := Fr.app Nh1103 Nq1274
    have R1277 := R1098.trans hC1274
    have sf1278 := CHr.safe hC1274 f1270.lt sf1099
    have sf1279 := CHr.safe hC1274 Eq1095.lt sf1100
    have sf1280 := CHr.safe hC1274 Aq1095.lt sf1101
    obtain ⟨XR1281, hSR1281, hZ1281, hown1281⟩ := rebS hSR1102 (Nat.le_refl _) X1274 hS1274 hg1274 hZ1102 hown1102
    obtain ⟨Lh1282, Xh1282, Nh1282⟩ := oHd 19 69 XR1281 N1275 rfl rfl
    refine ownSt st1274 ?_
    clear st1274
    show oA p e below _ T1274 (fr_law m p1 p2 p3 62 (vR x21) (vR x31) (vI 1) (vR b365) (vR b365) .unset .unset [(.ref b365)])
    refine oTo T1274 (fr_law m p1 p2 p3 75 (vR x21) (vR x31) (vI 1) (vR b365) (vR b365) .unset .unset [(.ref b365)]) (fun t kt => ?_) ?_
    ·refine XS.astore Xh1282.here hx rfl (D at_62) rfl rfl (l' := #[vI p1, vI p2, vI p3, vR x21, vR x31, vI 1, vR b365, vR b365, .unset, .unset]) rfl ?_
     refine XS.aload Xh1282.here hx rfl (D at_64) rfl rfl ?_
     refine XS.aload Xh1282.here hx rfl (D at_66) rfl rfl ?_
     refine Jvm.RoadKit.acmp (g := (fr_law m p1 p2 p3 68 (vR x21) (vR x31) (vI 1) (vR b365) (vR b365) .unset .unset [(.ref b365), (.ref b365)])) Xh1282 hx rfl rfl rfl (pc0 := 68) (pc' := 73) (same := true) rfl (D at_68) rfl (decide_eq_true rfl) (by decide) (by decide) ?_
     refine XS.aload Xh1282.here hx rfl (D at_73) rfl rfl ?_
     exact kt
    have f1283 := (f1270.keep Kq1274)
    have f1284 := (f1271.keep Kq1274 (ninS ne391 (ninS ne400 nin0)))
    have f1285 := (f1272.keep Kq1274 (allS g392 (allS g401 all0)))
    have f1286 := (Nat.le_trans f1273 Kq1274.1)
    obtain ⟨cq1287, kq1287, q1287a, q1287b, q1287c⟩ := isOf hZ1281 rfl f1283
    obtain ⟨vv1287, _, ⟨T1287, L1287, k1287, n1287⟩, -, X1287, ⟨Lc1287, hQ1287, l1287, y1287, z1287⟩, st1287⟩ := Xh1282.virtualBack hx (y := yM34) (z := yM34) hown1281 (mvT hZ1281 (Wd125 hw)) (mvT hZ1281 (Wd126 hw)) (oNf hZ1281 (Wd128 hw)) (mvT hZ1281 (Wd128 hw)) (mvT hZ1281 (Wd127 hw)) (by decide) (backOf (W := 0) (c_hts l Z a0 hw [] b365 sb382 t382 kv382 (16 : Int32) (oI [60, 47, oL f0, oL f1, 62, 60, 47, oL g0, oL g1, 62, 0, 0, 0, 0, 0, 0]) (10 : Int32) (oI [60, 47, oL f0, oL f1, 62, 60, 47, oL g0, oL g1, 62]) G1 T1274.heap n0 f1286 f1283 f1284 Eq1274 Vq1274 Cq1274 Mq1274 Aq1274 (oCr (by decide +kernel) rfl) O2 P5 f1285) hZ1281 (Wd129 hw) (Wd28 hw) (by decide) (by decide)) q1287a q1287c (g := (fr_law m p1 p2 p3 75 (vR x21) (vR x31) (vI 1) (vR b365) (vR b365) .unset .unset [(.ref b365)])) rfl (by rw [hml]; rfl) (Steps.refl _) (argsL := []) (rest := []) (lenOf pd_32 rfl) rfl (oWt rfl) (D at_75) (fun _ _ => ⟨rfl, rfl, oLe rfl, oLe rfl⟩)
    dsimp only [Pt.U, Pt.locs, Pt.cells, Pt.slots] at X1287 l1287 y1287 z1287 st1287 hQ1287
    subst l1287 y1287 z1287
    obtain ⟨x1287, t1287, kn1287, rfl, Nq1287, Kq1287, zx1287, zq1287, Eq1287, Vq1287, Cq1287, Aq1287⟩ := hQ1287
    have f1289 := ((f1089.keep Kq1095).keep Kq1274)
    have ne1288 : x21 ≠ x1287 := Nat.ne_of_lt (Nat.lt_of_lt_of_le f1289.lt zx1287)
    have f1291 := ((f1092.keep Kq1095 (ninS ne385 (ninS ne397 nin0))).keep Kq1274 (ninS ne385 (ninS ne397 nin0)))
    have ne1290 : t21 ≠ x1287 := Nat.ne_of_lt (Nat.lt_of_lt_of_le f1291.lt zx1287)
    have f1293 := (f1266.keep Kq1274)
    have ne1292 : x31 ≠ x1287 := Nat.ne_of_lt (Nat.lt_of_lt_of_le f1293.lt zx1287)
    have f1295 := (f1269.keep Kq1274 (ninS ne389 (ninS ne399 nin0)))
    have ne1294 : t31 ≠ x1287 := Nat.ne_of_lt (Nat.lt_of_lt_of_le f1295.lt zx1287)
    have ne1296 : b365 ≠ x1287 := Nat.ne_of_lt (Nat.lt_of_lt_of_le f1283.lt zx1287)
    have ne1297 : sb382 ≠ x1287 := Nat.ne_of_lt (Nat.lt_of_lt_of_le Eq1274.lt zx1287)
    have ne1298 : t382 ≠ x1287 := Nat.ne_of_lt (Nat.lt_of_lt_of_le Aq1274.lt zx1287)
    have g1299 : n0 ≤ x1287 := Nat.le_trans f1286 zx1287
    have sf1300 : Safe Z ownEL T1274.vm T1274.heap x1287 := Safe.new zx1287
    have f1302 := (Nat.le_trans (Nat.le_trans (Nat.le_trans f395 Kq382.1) Kq1095.1) Kq1274.1)
    have z1301 : h0.size ≤ x1287 := Nat.le_trans f1302 zx1287
    have ne1303 : x21 ≠ t1287 := Nat.ne_of_lt (Nat.lt_of_lt_of_le f1289.lt zq1287)
    have ne1304 : t21 ≠ t1287 := Nat.ne_of_lt (Nat.lt_of_lt_of_le f1291.lt zq1287)
    have ne1305 : x31 ≠ t1287 := Nat.ne_of_lt (Nat.lt_of_lt_of_le f1293.lt zq1287)
    have ne1306 : t31 ≠ t1287 := Nat.ne_of_lt (Nat.lt_of_lt_of_le f1295.lt zq1287)
    have ne1307 : b365 ≠ t1287 := Nat.ne_of_lt (Nat.lt_of_lt_of_le f1283.lt zq1287)
    have ne1308 : sb382 ≠ t1287 := Nat.ne_of_lt (Nat.lt_of_lt_of_le Eq1274.lt zq1287)
    have ne1309 : t382 ≠ t1287 := Nat.ne_of_lt (Nat.lt_of_lt_of_le Aq1274.lt zq1287)
    have g1310 : n0 ≤ t1287 := Nat.le_trans f1286 zq1287
    have sf1311 : Safe Z ownEL T1274.vm T1274.heap t1287 := Safe.new zq1287
    have z1312 : h0.size ≤ t1287 := Nat.le_trans f1302 zq1287
    have N1313 := Fr.app Nh1282 Nq1287
    have R1314 := R1277.trans (CHr.keep Kq1287 sf0 R1277.1)
    have sf1315 := Safe.keep Kq1287 sf0 R1277.1 sf1278
    have sf1316 := Safe.keep Kq1287 sf0 R1277.1 sf1279
    have sf1317 := Safe.keep Kq1287 sf0 R1277.1 sf1280
    have sf1318 := Safe.keep Kq1287 sf0 R1277.1 sf1300
    have sf1319 := Safe.keep Kq1287 sf0 R1277.1 sf1311
    obtain ⟨Lh1320, Xh1320, Nh1320⟩ := oHd 21 89 X1287 N1313 rfl rfl
    refine ownSt st1287 ?_
    clear st1287
    show oA p e below _ T1287 (fr_law m p1 p2 p3 78 (vR x21) (vR x31) (vI 1) (vR b365) (vR b365) .unset .unset [(.ref x1287)])
    refine oTo T1287 (fr_law m p1 p2 p3 92 (vR x21) (vR x31) (vI 1) (vR b365) (vR b365) (vR x1287) (vI 0) [(.ref x21), (iV 0), (.ref x1287)]) (fun t kt => ?_) ?_
    ·refine XS.astore Xh1320.here hx rfl (D at_78) rfl rfl (l' := #[vI p1, vI p2, vI p3, vR x21, vR x31, vI 1, vR b365, vR b365, vR x1287, .unset]) rfl ?_
     refine XS.iconst Xh1320.here hx rfl (D at_80) ?_
     refine XS.istore Xh1320.here hx rfl (D at_81) rfl (l' := #[vI p1, vI p2, vI p3, vR x21, vR x31, vI 1, vR b365, vR b365, vR x1287, vI 0]) rfl ?_
     refine XS.iload Xh1320.here hx rfl (D at_83) rfl ?_
     refine XS.ifNo Xh1320.here hx rfl (D at_85) rfl ((if0 _ _).trans (feq ((by decide) : ¬ ((1 : Int32) = (0 : Int32)))).1) ?_
     refine XS.aload Xh1320.here hx rfl (D at_88) rfl rfl ?_
     refine XS.iconst Xh1320.here hx rfl (D at_90) ?_
     refine XS.aloadN Xh1320.here hx rfl (D at_91) rfl rfl ?_
     exact kt
    have f1321 := (f1289.keep Kq1287)
    have f1322 := (((f1090.keep Kq1095 (ninS ne383 (ninS ne396 nin0))).keep Kq1274 (ninS ne383 (ninS ne396 nin0))).keep Kq1287 nin0)
    have f1323 := (((f1091.keep Kq1095 (ninS ne383 (ninS ne396 nin0))).keep Kq1274 (ninS ne383 (ninS ne396 nin0))).keep Kq1287 nin0)
    have f1324 := (f1291.keep Kq1287 nin0)
    have f1325 := (f1285.keep Kq1287 all0)
    have f1326 := (Nat.le_trans f1286 Kq1287.1)
    obtain ⟨vv1327, _, ⟨T1327, L1327, k1327, n1327⟩, -, X1327, ⟨Lc1327, hQ1327, l1327, y1327, z1327⟩, st1327⟩ := Jvm.LawKit.callS Xh1320 hx (y := yM35) hown1281 (mvT hZ1281 (Wd171 hw)) (mvT hZ1281 (Wd172 hw)) (mvT hZ1281 (Wd2 hw)) (mvT hZ1281 (Wd173 hw)) (by decide) (backOf (W := 0) (c_clg2 l Z a0 hw [] x1287 t1287 kn1287 (10 : Int32) (oI [60, 47, oL f0, oL f1, 62, 60, 47, oL g0, oL g1, 62]) (0 : Int32) x21 t21 kb21 f0 f1 G1 G3 T1287.heap n0 f1326 Eq1287 Vq1287 Cq1287 Aq1287 f1321 f1322 f1323 f1324 hr_f0 hr_f1 (by decide +kernel) (by decide +kernel) (oCl (by decide +kernel) rfl (by decide +kernel)) (oCl (by decide +kernel) rfl (by decide +kernel)) (oCl (by decide +kernel) rfl hr_f0) (oCl (by decide +kernel) rfl hr_f1) (oCl (by decide +kernel) rfl (by decide +kernel)) O2 P5 O4 rG3 f1325) hZ1281 (Wd173 hw) (Wd2 hw) (by decide) (by decide)) (g := (fr_law m p1 p2 p3 92 (vR x21) (vR x31) (vI 1) (vR b365) (vR b365) (vR x1287) (vI 0) [(.ref x21), (iV 0), (.ref x1287)])) rfl (by rw [hml]; rfl) (argsL := [(.ref x1287), (iV 0), (.ref x21)]) (rest := []) (lenOf pd_36 rfl) rfl (oWt rfl) (D at_92) (fun _ _ => ⟨rfl, rfl, oLe rfl, oLe rfl⟩)
    dsimp only [Pt.U, Pt.locs, Pt.cells, Pt.slots] at X1327 l1327 y1327 z1327 st1327 hQ1327
    subst l1327 y1327 z1327
    obtain ⟨rfl, Nq1327, Eq1327⟩ := hQ1327
    have N1328 := Fr.app Nh1320 Nq1327
    obtain ⟨Lh1329, Xh1329, Nh1329⟩ := oHd 21 89 X1327 N1328 rfl rfl
    refine ownBy st1327 ?_
    clear st1327
    show oA p e below _ T1327 (fr_law m p1 p2 p3 95 (vR x21) (vR x31) (vI 1) (vR b365) (vR b365) (vR x1287) (vI 0) [(iV 1)])
    refine oTo T1327 (fr_law m p1 p2 p3 101 (vR x21) (vR x31) (vI 1) (vR b365) (vR b365) (vR x1287) (vI 0) [(.ref x21)]) (fun t kt => ?_) ?_
    ·refine XS.ifYes Xh1329.here hx rfl (pc0 := 95) (pc' := 100) rfl (D at_95) rfl ((if0 _ _).trans (feq ((by decide) : ¬ ((1 : Int32) = (0 : Int32)))).2) (by decide) (by decide) ?_
     refine XS.aloadN Xh1329.here hx rfl (D at_100) rfl rfl ?_
     exact kt
    obtain ⟨cq1330, kq1330, q1330a, q1330b, q1330c⟩ := isOf hZ1281 Eq1327 f1321
    obtain ⟨vv1330, _, ⟨T1330, L1330, k1330, n1330⟩, -, X1330, ⟨Lc1330, hQ1330, l1330, y1330, z1330⟩, st1330⟩ := Xh1329.virtualBack hx (y := yM4) (z := yM4) hown1281 (mvT hZ1281 (Wd174 hw)) (mvT hZ1281 (Wd70 hw)) (oNf hZ1281 (Wd72 hw)) (mvT hZ1281 (Wd72 hw)) (mvT hZ1281 (Wd71 hw)) (by decide) (backOf (W := 0) (c_leng l Z a0 hw [] x21 t21 kb21 (2 : Int32) (oI [oL f0, oL f1]) G1 T1287.heap n0 f1326 f1321 f1322 f1323 f1324 (by decide +kernel) O2 P5 f1325) hZ1281 (Wd73 hw) (Wd6 hw) (by decide) (by decide)) q1330a q1330c (g := (fr_law m p1 p2 p3 101 (vR x21) (vR x31) (vI 1) (vR b365) (vR b365) (vR x1287) (vI 0) [(.ref x21)])) rfl (by rw [hml]; rfl) (Steps.refl _) (argsL := []) (rest := []) (lenOf pd_15 rfl) rfl (oWt rfl) (D at_101) (fun _ _ => ⟨rfl, Eq1327, oLe rfl, oLe rfl⟩)
    dsimp only [Pt.U, Pt.locs, Pt.cells, Pt.slots] at X1330 l1330 y1330 z1330 st1330 hQ1330
    subst l1330 y1330 z1330
    obtain ⟨rfl, Nq1330, Eq1330⟩ := hQ1330
    have N1331 := Fr.app Nh1329 Nq1330
    obtain ⟨Lh1332, Xh1332, Nh1332⟩ := oHd 21 89 X1330 N1331 rfl rfl
    refine ownSt st1330 ?_
    clear st1330
    show oA p e below _ T1330 (fr_law m p1 p2 p3 104 (vR x21) (vR x31) (vI 1) (vR b365) (vR b365) (vR x1287) (vI 0) [(iV 2)])
    refine oTo T1330 (fr_law m p1 p2 p3 114 (vR x21) (vR x31) (vI 1) (vR b365) (vR b365) (vR x1287) (vI 5) [(.ref x31), (iV 5), (.ref x1287)]) (fun t kt => ?_) ?_
    ·refine XS.iconst Xh1332.here hx rfl (D at_104) ?_
     refine XS.iadd Xh1332.here hx rfl (D at_105) rfl ?_
     refine XS.istore Xh1332.here hx rfl (D at_106) rfl (l' := #[vI p1, vI p2, vI p3, vR x21, vR x31, vI 1, vR b365, vR b365, vR x1287, vI 5]) rfl ?_
     refine XS.aload Xh1332.here hx rfl (D at_108) rfl rfl ?_
     refine XS.iload Xh1332.here hx rfl (D at_110) rfl ?_
     refine XS.aload Xh1332.here hx rfl (D at_112) rfl rfl ?_
     exact kt
    have f1333 := (f1293.keep Kq1287)
    have f1334 := ((f1267.keep Kq1274 (ninS ne387 (ninS ne398 nin0))).keep Kq1287 nin0)
    have f1335 := ((f1268.keep Kq1274 (ninS ne387 (ninS ne398 nin0))).keep Kq1287 nin0)
    have f1336 := (f1295.keep Kq1287 nin0)
    obtain ⟨vv1337, _, ⟨T1337, L1337, k1337, n1337⟩, -, X1337, ⟨Lc1337, hQ1337, l1337, y1337, z1337⟩, st1337⟩ := Jvm.LawKit.callS Xh1332 hx (y := yM35) hown1281 (mvT hZ1281 (Wd171 hw)) (mvT hZ1281 (Wd172 hw)) (mvT hZ1281 (Wd2 hw)) (mvT hZ1281 (Wd173 hw)) (by decide) (backOf (W := 0) (c_clg2 l Z a0 hw [] x1287 t1287 kn1287 (10 : Int32) (oI [60, 47, oL f0, oL f1, 62, 60, 47, oL g0, oL g1, 62]) (5 : Int32) x31 t31 kb31 g0 g1 G1 G3 T1287.heap n0 f1326 Eq1287 Vq1287 Cq1287 Aq1287 f1333 f1334 f1335 f1336 hr_g0 hr_g1 (by decide +kernel) (by decide +kernel) (oCl (by decide +kernel) rfl (by decide +kernel)) (oCl (by decide +kernel) rfl (by decide +kernel)) (oCl (by decide +kernel) rfl hr_g0) (oCl (by decide +kernel) rfl hr_g1) (oCl (by decide +kernel) rfl (by decide +kernel)) O2 P5 O4 rG3 f1325) hZ1281 (Wd173 hw) (Wd2 hw) (by decide) (by decide)) (g := (fr_law m p1 p2 p3 114 (vR x21) (vR x31) (vI 1) (vR b365) (vR b365) (vR x1287) (vI 5) [(.ref x31), (iV 5), (.ref x1287)])) rfl (by rw [hml]; rfl) (argsL := [(.ref x1287), (iV 5), (.ref x31)]) (rest := []) (lenOf pd_36 rfl) rfl (oWt rfl) (D at_114) (fun _ _ => ⟨rfl, Eq1330, oLe rfl, oLe rfl⟩)
    dsimp only [Pt.U, Pt.locs, Pt.cells, Pt.slots] at X1337 l1337 y1337 z1337 st1337 hQ1337
    subst l1337 y1337 z1337
    obtain ⟨rfl, Nq1337, Eq1337⟩ := hQ1337
    have N1338 := Fr.app Nh1332 Nq1337
    obtain ⟨Lh1339, Xh1339, Nh1339⟩ := oHd 21 89 X1337 N1338 rfl rfl
    refine ownBy st1337 ?_
    clear st1337
    show oA p e below _ T1337 (fr_law m p1 p2 p3 117 (vR x21) (vR x31) (vI 1) (vR b365) (vR b365) (vR x1287) (vI 5) [(iV 1)])
    refine oTo T1337 (fr_law m p1 p2 p3 124 (vR x21) (vR x31) (vI 1) (vR b365) (vR b365) (vR x1287) (vI 5) [(.ref x1287)]) (fun t kt => ?_) ?_
    ·refine XS.ifYes Xh1339.here hx rfl (pc0 := 117) (pc' := 122) rfl (D at_117) rfl ((if0 _ _).trans (feq ((by decide) : ¬ ((1 : Int32) = (0 : Int32)))).2) (by decide) (by decide) ?_
     refine XS.aload Xh1339.here hx rfl (D at_122) rfl rfl ?_
     exact kt
    obtain ⟨cq1340, kq1340, q1340a, q1340b, q1340c⟩ := isOf hZ1281 Eq1337 Eq1287
    obtain ⟨vv1340, _, ⟨T1340, L1340, k1340, n1340⟩, -, X1340, ⟨Lc1340, hQ1340, l1340, y1340, z1340⟩, st1340⟩ := Xh1339.virtualBack hx (y := yM4) (z := yM4) hown1281 (mvT hZ1281 (Wd174 hw)) (mvT hZ1281 (Wd70 hw)) (oNf hZ1281 (Wd72 hw)) (mvT hZ1281 (Wd72 hw)) (mvT hZ1281 (Wd71 hw)) (by decide) (backOf (W := 0) (c_leng l Z a0 hw [] x1287 t1287 kn1287 (10 : Int32) (oI [60, 47, oL f0, oL f1, 62, 60, 47, oL g0, oL g1, 62]) G1 T1287.heap n0 f1326 Eq1287 Vq1287 Cq1287 Aq1287 (by decide +kernel) O2 P5 f1325) hZ1281 (Wd73 hw) (Wd6 hw) (by decide) (by decide)) q1340a q1340c (g := (fr_law m p1 p2 p3 124 (vR x21) (vR x31) (vI 1) (vR b365) (vR b365) (vR x1287) (vI 5) [(.ref x1287)])) rfl (by rw [hml]; rfl) (Steps.refl _) (argsL := []) (rest := []) (lenOf pd_15 rfl) rfl (oWt rfl) (D at_124) (fun _ _ => ⟨rfl, Eq1337, oLe rfl, oLe rfl⟩)
    dsimp only [Pt.U, Pt.locs, Pt.cells, Pt.slots] at X1340 l1340 y1340 z1340 st1340 hQ1340
    subst l1340 y1340 z1340
    obtain ⟨rfl, Nq1340, Eq1340⟩ := hQ1340
    have N1341 := Fr.app Nh1339 Nq1340
    obtain ⟨Lh1342, Xh1342, Nh1342⟩ := oHd 21 89 X1340 N1341 rfl rfl
    refine ownSt st1340 ?_
    clear st1340
    show oA p e below _ T1340 (fr_law m p1 p2 p3 127 (vR x21) (vR x31) (vI 1) (vR b365) (vR b365) (vR x1287) (vI 5) [(iV 10)])
    refine oTo T1340 (fr_law m p1 p2 p3 131 (vR x21) (vR x31) (vI 1) (vR b365) (vR b365) (vR x1287) (vI 5) [(.ref x31), (iV 5), (iV 10)]) (fun t kt => ?_) ?_
    ·refine XS.iload Xh1342.here hx rfl (D at_127) rfl ?_
     refine XS.aload Xh1342.here hx rfl (D at_129) rfl rfl ?_
     exact kt
    obtain ⟨cq1343, kq1343, q1343a, q1343b, q1343c⟩ := isOf hZ1281 Eq1340 f1333
    obtain ⟨vv1343, _, ⟨T1343, L1343, k1343, n1343⟩, -, X1343, ⟨Lc1343, hQ1343, l1343, y1343, z1343⟩, st1343⟩ := Xh1342.virtualBack hx (y := yM4) (z := yM4) hown1281 (mvT hZ1281 (Wd174 hw)) (mvT hZ1281 (Wd70 hw)) (oNf hZ1281 (Wd72 hw)) (mvT hZ1281 (Wd72 hw)) (mvT hZ1281 (Wd71 hw)) (by decide) (backOf (W := 2) (c_leng l Z a0 hw [] x31 t31 kb31 (2 : Int32) (oI [oL g0, oL g1]) G1 T1287.heap n0 f1326 f1333 f1334 f1335 f1336 (by decide +kernel) O2 P5 f1325) hZ1281 (Wd73 hw) (Wd6 hw) (by decide) (by decide)) q1343a q1343c (g := (fr_law m p1 p2 p3 131 (vR x21) (vR x31) (vI 1) (vR b365) (vR b365) (vR x1287) (vI 5) [(.ref x31), (iV 5), (iV 10)])) rfl (by rw [hml]; rfl) (Steps.refl _) (argsL := []) (rest := [(iV 5), (iV 10)]) (lenOf pd_15 rfl) rfl (oWt rfl) (D at_131) (fun _ _ => ⟨rfl, Eq1340, oLe rfl, oLe rfl⟩)
    dsimp only [Pt.U, Pt.locs, Pt.cells, Pt.slots] at X1343 l1343 y1343 z1343 st1343 hQ1343
    subst l1343 y1343 z1343
    obtain ⟨rfl, Nq1343, Eq1343⟩ := hQ1343
    have N1344 := Fr.app Nh1342 Nq1343
    obtain ⟨Lh1345, Xh1345, Nh1345⟩ := oHd 21 89 X1343 N1344 rfl rfl
    refine ownSt st1343 ?_
    clear st1343
    show oA p e below _ T1343 (fr_law m p1 p2 p3 134 (vR x21) (vR x31) (vI 1) (vR b365) (vR b365) (vR x1287) (vI 5) [(iV 2), (iV 5), (iV 10)])
    refine oTo T1343 (fr_law m p1 p2 p3 145 (vR x21) (vR x31) (vI 1) (vR b365) (vR b365) (vR x1287) (vI 5) [(iV 1)]) (fun t kt => ?_) ?_
    ·refine XS.iadd Xh1345.here hx rfl (D at_134) rfl ?_
     refine XS.iconst Xh1345.here hx rfl (D at_135) ?_
     refine XS.iadd Xh1345.here hx rfl (D at_136) rfl ?_
     refine XS.icmpNo Xh1345.here hx rfl (D at_137) rfl (teq ((by decide) : (10 : Int32) = (10 : Int32))).2 ?_
     refine XS.iconst Xh1345.here hx rfl (D at_140) ?_
     refine XS.goto Xh1345.here hx rfl (pc0 := 141) (pc' := 145) rfl (D at_141) (by decide) (by decide) ?_
     exact kt
    refine ownRetH Xh1345 hSR1281 (by rw [Eq1343]; exact (Nat.le_trans (Nat.le_refl _) Kq1287.1)) Bd.notSynchronized (v := some (.int (nar .boolean (1 : Int32)))) (fun h => by rw [Bd.returns] at h; cases h) ?_ (R1314.trans ((by rw [Eq1343]; exact CHv.at Xh1345 hZ1281 hEL R1314.1))) (oLe rfl) (oLe rfl) (fun fs hr => retN Xh1345 hx (t := .boolean) Bd.returns (by simp) (D at_145) hr)
    show (Q_law Z p1 p2 p3 G1 G3 h0 n0) (some (.int (nar .boolean (1 : Int32)))) T1343.heap _
    rw [Eq1343]
    exact ⟨rfl, Nh1345⟩
   ·skip
    refine oTo T1095 (fr_law m p1 p2 p3 59 (vR x21) (vR x31) (vI 1) (vR b365) (vR b365) .unset .unset [(.ref x31), (.ref b365)]) (fun t kt => ?_) ?_
    ·refine XS.aload Xh1103.here hx rfl (D at_55) rfl rfl ?_
     refine XS.aload Xh1103.here hx rfl (D at_57) rfl rfl ?_
     exact kt
    have f1347 := ((f388.keep Kq382).keep Kq1095)
    have f1348 := (((Vq31.ext E365).keep Kq382 (ninS ne370 nin0)).keep Kq1095 (ninS ne387 (ninS ne398 nin0)))
    have f1349 := (((Cq31.ext E365).keep Kq382 (ninS ne370 nin0)).keep Kq1095 (ninS ne387 (ninS ne398 nin0)))
    have f1350 := ((f390.keep Kq382 (ninS ne371 nin0)).keep Kq1095 (ninS ne389 (ninS ne399 nin0)))
    have f1351 := (Eh382.keep Kq1095)
    have f1352 := (Fh382.keep Kq1095 (ninS ne391 (ninS ne400 nin0)))
    have f1353 := (f1093.keep Kq1095 (allS g392 (allS g401 all0)))
    have f1354 := (Nat.le_trans f1094 Kq1095.1)
    obtain ⟨cq1355, kq1355, q1355a, q1355b, q1355c⟩ := isOf hZ1102 rfl f1351
    obtain ⟨vv1355, _, ⟨T1355, L1355, k1355, n1355⟩, -, X1355, hS1355, hg1355, ⟨Lc1355, hQ1355, l1355, y1355, z1355, hC1355⟩, st1355⟩ := Xh1103.virtualBackS hx (y := yM33) (z := yM33) hown1102 (mvT hZ1102 (Wd53 hw)) (mvT hZ1102 (Wd54 hw)) (oNf hZ1102 (Wd56 hw)) (mvT hZ1102 (Wd56 hw)) (mvT hZ1102 (Wd55 hw)) (by decide) (backOfSH (W := 0) (s := s) (EL := ownEL) (c_hcl l Z a0 hw [] b365 x31 t31 kb31 (3 : Int32) (oI [oL g0, oL g1, oL g2]) sb382 t382 kv382 (16 : Int32) (oI [60, 47, oL f0, oL f1, 62, 0, 0, 0, 0, 0, 0, 0, 0, 0, 0, 0]) (5 : Int32) (oI [60, 47, oL f0, oL f1, 62, 60, 47, 0, 0, 0, 0, 0, 0, 0, 0, 0]) (oI [60, 47, oL f0, oL f1, 62, 60, 47, oL g0, oL g1, oL g2, 0, 0, 0, 0, 0, 0]) (oI [60, 47, oL f0, oL f1, 62, 60, 47, oL g0, oL g1, oL g2, 62, 0, 0, 0, 0, 0]) (7 : Int32) (10 : Int32) (11 : Int32) G1 T1095.heap n0 f1354 f1351 f1352 f1347 f1348 f1349 f1350 Eq1095 Vq1095 Cq1095 Mq1095 Aq1095 g392 g401 ne399 (by decide +kernel) (oCp (by decide +kernel) rfl rfl rfl) (oCp (by decide +kernel) rfl rfl rfl) (oCq (by decide +kernel) rfl rfl) O2 P5 f1353) hZ1102 (Wd57 hw) (Wd28 hw) (by decide) (by decide) hEL R1098.1) q1355a q1355c (g := (fr_law m p1 p2 p3 59 (vR x21) (vR x31) (vI 1) (vR b365) (vR b365) .unset .unset [(.ref x31), (.ref b365)])) rfl (by rw [hml]; rfl) (Steps.refl _) (argsL := [(.ref x31)]) (rest := []) (lenOf pd_35 rfl) rfl (oWt rfl) (D at_59) (fun _ _ => ⟨rfl, rfl, oLe rfl, oLe rfl⟩)
    dsimp only [Pt.U, Pt.locs, Pt.cells, Pt.slots] at X1355 l1355 y1355 z1355 st1355 hQ1355 hS1355 hg1355 hC1355
    subst l1355 y1355 z1355
    obtain ⟨rfl, Nq1355, Kq1355, Eq1355, Vq1355, Cq1355, Mq1355, Aq1355⟩ := hQ1355
    have N1356 := Fr.app Nh1103 Nq1355
    have R1358 := R1098.trans hC1355
    have sf1359 := CHr.safe hC1355 f1351.lt sf1099
    have sf1360 := CHr.safe hC1355 Eq1095.lt sf1100
    have sf1361 := CHr.safe hC1355 Aq1095.lt sf1101
    obtain ⟨XR1362, hSR1362, hZ1362, hown1362⟩ := rebS hSR1102 (Nat.le_refl _) X1355 hS1355 hg1355 hZ1102 hown1102
    obtain ⟨Lh1363, Xh1363, Nh1363⟩ := oHd 19 69 XR1362 N1356 rfl rfl
    refine ownSt st1355 ?_
    clear st1355
    show oA p e below _ T1355 (fr_law m p1 p2 p3 62 (vR x21) (vR x31) (vI 1) (vR b365) (vR b365) .unset .unset [(.ref b365)])
    refine oTo T1355 (fr_law m p1 p2 p3 75 (vR x21) (vR x31) (vI 1) (vR b365) (vR b365) .unset .unset [(.ref b365)]) (fun t kt => ?_) ?_
    ·refine XS.astore Xh1363.here hx rfl (D at_62) rfl rfl (l' := #[vI p1, vI p2, vI p3, vR x21, vR x31, vI 1, vR b365, vR b365, .unset, .unset]) rfl ?_
     refine XS.aload Xh1363.here hx rfl (D at_64) rfl rfl ?_
     refine XS.aload Xh1363.here hx rfl (D at_66) rfl rfl ?_
     refine Jvm.RoadKit.acmp (g := (fr_law m p1 p2 p3 68 (vR x21) (vR x31) (vI 1) (vR b365) (vR b365) .unset .unset [(.ref b365), (.ref b365)])) Xh1363 hx rfl rfl rfl (pc0 := 68) (pc' := 73) (same := true) rfl (D at_68) rfl (decide_eq_true rfl) (by decide) (by decide) ?_
     refine XS.aload Xh1363.here hx rfl (D at_73) rfl rfl ?_
     exact kt
    have f1364 := (f1351.keep Kq1355)
    have f1365 := (f1352.keep Kq1355 (ninS ne391 (ninS ne400 nin0)))
    have f1366 := (f1353.keep Kq1355 (allS g392 (allS g401 all0)))
    have f1367 := (Nat.le_trans f1354 Kq1355.1)
    obtain ⟨cq1368, kq1368, q1368a, q1368b, q1368c⟩ := isOf hZ1362 rfl f1364
    obtain ⟨vv1368, _, ⟨T1368, L1368, k1368, n1368⟩, -, X1368, ⟨Lc1368, hQ1368, l1368, y1368, z1368⟩, st1368⟩ := Xh1363.virtualBack hx (y := yM34) (z := yM34) hown1362 (mvT hZ1362 (Wd125 hw)) (mvT hZ1362 (Wd126 hw)) (oNf hZ1362 (Wd128 hw)) (mvT hZ1362 (Wd128 hw)) (mvT hZ1362 (Wd127 hw)) (by decide) (backOf (W := 0) (c_hts l Z a0 hw [] b365 sb382 t382 kv382 (16 : Int32) (oI [60, 47, oL f0, oL f1, 62, 60, 47, oL g0, oL g1, oL g2, 62, 0, 0, 0, 0, 0]) (11 : Int32) (oI [60, 47, oL f0, oL f1, 62, 60, 47, oL g0, oL g1, oL g2, 62]) G1 T1355.heap n0 f1367 f1364 f1365 Eq1355 Vq1355 Cq1355 Mq1355 Aq1355 (oCr (by decide +kernel) rfl) O2 P5 f1366) hZ1362 (Wd129 hw) (Wd28 hw) (by decide) (by decide)) q1368a q1368c (g := (fr_law m p1 p2 p3 75 (vR x21) (vR x31) (vI 1) (vR b365) (vR b365) .unset .unset [(.ref b365)])) rfl (by rw [hml]; rfl) (Steps.refl _) (argsL := []) (rest := []) (lenOf pd_32 rfl) rfl (oWt rfl) (D at_75) (fun _ _ => ⟨rfl, rfl, oLe rfl, oLe rfl⟩)
    dsimp only [Pt.U, Pt.locs, Pt.cells, Pt.slots] at X1368 l1368 y1368 z1368 st1368 hQ1368
    subst l1368 y1368 z1368
    obtain ⟨x1368, t1368, kn1368, rfl, Nq1368, Kq1368, zx1368, zq1368, Eq1368, Vq1368, Cq1368, Aq1368⟩ := hQ1368
    have f1370 := ((f1089.keep Kq1095).keep Kq1355)
    have ne1369 : x21 ≠ x1368 := Nat.ne_of_lt (Nat.lt_of_lt_of_le f1370.lt zx1368)
    have f1372 := ((f1092.keep Kq1095 (ninS ne385 (ninS ne397 nin0))).keep Kq1355 (ninS ne385 (ninS ne397 nin0)))
    have ne1371 : t21 ≠ x1368 := Nat.ne_of_lt (Nat.lt_of_lt_of_le f1372.lt zx1368)
    have f1374 := (f1347.keep Kq1355)
    have ne1373 : x31 ≠ x1368 := Nat.ne_of_lt (Nat.lt_of_lt_of_le f1374.lt zx1368)
    have f1376 := (f1350.keep Kq1355 (ninS ne389 (ninS ne399 nin0)))
    have ne1375 : t31 ≠ x1368 := Nat.ne_of_lt (Nat.lt_of_lt_of_le f1376.lt zx1368)
    have ne1377 : b365 ≠ x1368 := Nat.ne_of_lt (Nat.lt_of_lt_of_le f1364.lt zx1368)
    have ne1378 : sb382 ≠ x1368 := Nat.ne_of_lt (Nat.lt_of_lt_of_le Eq1355.lt zx1368)
    have ne1379 : t382 ≠ x1368 := Nat.ne_of_lt (Nat.lt_of_lt_of_le Aq1355.lt zx1368)
    have g1380 : n0 ≤ x1368 := Nat.le_trans f1367 zx1368
    have sf1381 : Safe Z ownEL T1355.vm T1355.heap x1368 := Safe.new zx1368
    have f1383 := (Nat.le_trans (Nat.le_trans (Nat.le_trans f395 Kq382.1) Kq1095.1) Kq1355.1)
    have z1382 : h0.size ≤ x1368 := Nat.le_trans f1383 zx1368
    have ne1384 : x21 ≠ t1368 := Nat.ne_of_lt (Nat.lt_of_lt_of_le f1370.lt zq1368)
    have ne1385 : t21 ≠ t1368 := Nat.ne_of_lt (Nat.lt_of_lt_of_le f1372.lt zq1368)
    have ne1386 : x31 ≠ t1368 := Nat.ne_of_lt (Nat.lt_of_lt_of_le f1374.lt zq1368)
    have ne1387 : t31 ≠ t1368 := Nat.ne_of_lt (Nat.lt_of_lt_of_le f1376.lt zq1368)
    have ne1388 : b365 ≠ t1368 := Nat.ne_of_lt (Nat.lt_of_lt_of_le f1364.lt zq1368)
    have ne1389 : sb382 ≠ t1368 := Nat.ne_of_lt (Nat.lt_of_lt_of_le Eq1355.lt zq1368)
    have ne1390 : t382 ≠ t1368 := Nat.ne_of_lt (Nat.lt_of_lt_of_le Aq1355.lt zq1368)
    have g1391 : n0 ≤ t1368 := Nat.le_trans f1367 zq1368
    have sf1392 : Safe Z ownEL T1355.vm T1355.heap t1368 := Safe.new zq1368
    have z1393 : h0.size ≤ t1368 := Nat.le_trans f1383 zq1368
    have N1394 := Fr.app Nh1363 Nq1368
    have R1395 := R1358.trans (CHr.keep Kq1368 sf0 R1358.1)
    have sf1396 := Safe.keep Kq1368 sf0 R1358.1 sf1359
    have sf1397 := Safe.keep Kq1368 sf0 R1358.1 sf1360
    have sf1398 := Safe.keep Kq1368 sf0 R1358.1 sf1361
    have sf1399 := Safe.keep Kq1368 sf0 R1358.1 sf1381
    have sf1400 := Safe.keep Kq1368 sf0 R1358.1 sf1392
    obtain ⟨Lh1401, Xh1401, Nh1401⟩ := oHd 21 89 X1368 N1394 rfl rfl
    refine ownSt st1368 ?_
    clear st1368
    show oA p e below _ T1368 (fr_law m p1 p2 p3 78 (vR x21) (vR x31) (vI 1) (vR b365) (vR b365) .unset .unset [(.ref x1368)])
    refine oTo T1368 (fr_law m p1 p2 p3 92 (vR x21) (vR x31) (vI 1) (vR b365) (vR b365) (vR x1368) (vI 0) [(.ref x21), (iV 0), (.ref x1368)]) (fun t kt => ?_) ?_
    ·refine XS.astore Xh1401.here hx rfl (D at_78) rfl rfl (l' := #[vI p1, vI p2, vI p3, vR x21, vR x31, vI 1, vR b365, vR b365, vR x1368, .unset]) rfl ?_
     refine XS.iconst Xh1401.here hx rfl (D at_80) ?_
     refine XS.istore Xh1401.here hx rfl (D at_81) rfl (l' := #[vI p1, vI p2, vI p3, vR x21, vR x31, vI 1, vR b365, vR b365, vR x1368, vI 0]) rfl ?_
     refine XS.iload Xh1401.here hx rfl (D at_83) rfl ?_
     refine XS.ifNo Xh1401.here hx rfl (D at_85) rfl ((if0 _ _).trans (feq ((by decide) : ¬ ((1 : Int32) = (0 : Int32)))).1) ?_
     refine XS.aload Xh1401.here hx rfl (D at_88) rfl rfl ?_
     refine XS.iconst Xh1401.here hx rfl (D at_90) ?_
     refine XS.aloadN Xh1401.here hx rfl (D at_91) rfl rfl ?_
     exact kt
    have f1402 := (f1370.keep Kq1368)
    have f1403 := (((f1090.keep Kq1095 (ninS ne383 (ninS ne396 nin0))).keep Kq1355 (ninS ne383 (ninS ne396 nin0))).keep Kq1368 nin0)
    have f1404 := (((f1091.keep Kq1095 (ninS ne383 (ninS ne396 nin0))).keep Kq1355 (ninS ne383 (ninS ne396 nin0))).keep Kq1368 nin0)
    have f1405 := (f1372.keep Kq1368 nin0)
    have f1406 := (f1366.keep Kq1368 all0)
    have f1407 := (Nat.le_trans f1367 Kq1368.1)
    obtain ⟨vv1408, _, ⟨T1408, L1408, k1408, n1408⟩, -, X1408, ⟨Lc1408, hQ1408, l1408, y1408, z1408⟩, st1408⟩ := Jvm.LawKit.callS Xh1401 hx (y := yM35) hown1362 (mvT hZ1362 (Wd171 hw)) (mvT hZ1362 (Wd172 hw)) (mvT hZ1362 (Wd2 hw)) (mvT hZ1362 (Wd173 hw)) (by decide) (backOf (W := 0) (c_clg2 l Z a0 hw [] x1368 t1368 kn1368 (11 : Int32) (oI [60, 47, oL f0, oL f1, 62, 60, 47, oL g0, oL g1, oL g2, 62]) (0 : Int32) x21 t21 kb21 f0 f1 G1 G3 T1368.heap n0 f1407 Eq1368 Vq1368 Cq1368 Aq1368 f1402 f1403 f1404 f1405 hr_f0 hr_f1 (by decide +kernel) (by decide +kernel) (oCl (by decide +kernel) rfl (by decide +kernel)) (oCl (by decide +kernel) rfl (by decide +kernel)) (oCl (by decide +kernel) rfl hr_f0) (oCl (by decide +kernel) rfl hr_f1) (oCl (by decide +kernel) rfl (by decide +kernel)) O2 P5 O4 rG3 f1406) hZ1362 (Wd173 hw) (Wd2 hw) (by decide) (by decide)) (g := (fr_law m p1 p2 p3 92 (vR x21) (vR x31) (vI 1) (vR b365) (vR b365) (vR x1368) (vI 0) [(.ref x21), (iV 0), (.ref x1368)])) rfl (by rw [hml]; rfl) (argsL := [(.ref x1368), (iV 0), (.ref x21)]) (rest := []) (lenOf pd_36 rfl) rfl (oWt rfl) (D at_92) (fun _ _ => ⟨rfl, rfl, oLe rfl, oLe rfl⟩)
    dsimp only [Pt.U, Pt.locs, Pt.cells, Pt.slots] at X1408 l1408 y1408 z1408 st1408 hQ1408
    subst l1408 y1408 z1408
    obtain ⟨rfl, Nq1408, Eq1408⟩ := hQ1408
    have N1409 := Fr.app Nh1401 Nq1408
    obtain ⟨Lh1410, Xh1410, Nh1410⟩ := oHd 21 89 X1408 N1409 rfl rfl
    refine ownBy st1408 ?_
    clear st1408
    show oA p e below _ T1408 (fr_law m p1 p2 p3 95 (vR x21) (vR x31) (vI 1) (vR b365) (vR b365) (vR x1368) (vI 0) [(iV 1)])
    refine oTo T1408 (fr_law m p1 p2 p3 101 (vR x21) (vR x31) (vI 1) (vR b365) (vR b365) (vR x1368) (vI 0) [(.ref x21)]) (fun t kt => ?_) ?_
    ·refine XS.ifYes Xh1410.here hx rfl (pc0 := 95) (pc' := 100) rfl (D at_95) rfl ((if0 _ _).trans (feq ((by decide) : ¬ ((1 : Int32) = (0 : Int32)))).2) (by decide) (by decide) ?_
     refine XS.aloadN Xh1410.here hx rfl (D at_100) rfl rfl ?_
     exact kt
    obtain ⟨cq1411, kq1411, q1411a, q1411b, q1411c⟩ := isOf hZ1362 Eq1408 f1402
    obtain ⟨vv1411, _, ⟨T1411, L1411, k1411, n1411⟩, -, X1411, ⟨Lc1411, hQ1411, l1411, y1411, z1411⟩, st1411⟩ := Xh1410.virtualBack hx (y := yM4) (z := yM4) hown1362 (mvT hZ1362 (Wd174 hw)) (mvT hZ1362 (Wd70 hw)) (oNf hZ1362 (Wd72 hw)) (mvT hZ1362 (Wd72 hw)) (mvT hZ1362 (Wd71 hw)) (by decide) (backOf (W := 0) (c_leng l Z a0 hw [] x21 t21 kb21 (2 : Int32) (oI [oL f0, oL f1]) G1 T1368.heap n0 f1407 f1402 f1403 f1404 f1405 (by decide +kernel) O2 P5 f1406) hZ1362 (Wd73 hw) (Wd6 hw) (by decide) (by decide)) q1411a q1411c (g := (fr_law m p1 p2 p3 101 (vR x21) (vR x31) (vI 1) (vR b365) (vR b365) (vR x1368) (vI 0) [(.ref x21)])) rfl (by rw [hml]; rfl) (Steps.refl _) (argsL := []) (rest := []) (lenOf pd_15 rfl) rfl (oWt rfl) (D at_101) (fun _ _ => ⟨rfl, Eq1408, oLe rfl, oLe rfl⟩)
    dsimp only [Pt.U, Pt.locs, Pt.cells, Pt.slots] at X1411 l1411 y1411 z1411 st1411 hQ1411
    subst l1411 y1411 z1411
    obtain ⟨rfl, Nq1411, Eq1411⟩ := hQ1411
    have N1412 := Fr.app Nh1410 Nq1411
    obtain ⟨Lh1413, Xh1413, Nh1413⟩ := oHd 21 89 X1411 N1412 rfl rfl
    refine ownSt st1411 ?_
    clear st1411
    show oA p e below _ T1411 (fr_law m p1 p2 p3 104 (vR x21) (vR x31) (vI 1) (vR b365) (vR b365) (vR x1368) (vI 0) [(iV 2)])
    refine oTo T1411 (fr_law m p1 p2 p3 114 (vR x21) (vR x31) (vI 1) (vR b365) (vR b365) (vR x1368) (vI 5) [(.ref x31), (iV 5), (.ref x1368)]) (fun t kt => ?_) ?_
    ·refine XS.iconst Xh1413.here hx rfl (D at_104) ?_
     refine XS.iadd Xh1413.here hx rfl (D at_105) rfl ?_
     refine XS.istore Xh1413.here hx rfl (D at_106) rfl (l' := #[vI p1, vI p2, vI p3, vR x21, vR x31, vI 1, vR b365, vR b365, vR x1368, vI 5]) rfl ?_
     refine XS.aload Xh1413.here hx rfl (D at_108) rfl rfl ?_
     refine XS.iload Xh1413.here hx rfl (D at_110) rfl ?_
     refine XS.aload Xh1413.here hx rfl (D at_112) rfl rfl ?_
     exact kt
    have f1414 := (f1374.keep Kq1368)
    have f1415 := ((f1348.keep Kq1355 (ninS ne387 (ninS ne398 nin0))).keep Kq1368 nin0)
    have f1416 := ((f1349.keep Kq1355 (ninS ne387 (ninS ne398 nin0))).keep Kq1368 nin0)
    have f1417 := (f1376.keep Kq1368 nin0)
    obtain ⟨vv1418, _, ⟨T1418, L1418, k1418, n1418⟩, -, X1418, ⟨Lc1418, hQ1418, l1418, y1418, z1418⟩, st1418⟩ := Jvm.LawKit.callS Xh1413 hx (y := yM35) hown1362 (mvT hZ1362 (Wd171 hw)) (mvT hZ1362 (Wd172 hw)) (mvT hZ1362 (Wd2 hw)) (mvT hZ1362 (Wd173 hw)) (by decide) (backOf (W := 0) (c_clg3 l Z a0 hw [] x1368 t1368 kn1368 (11 : Int32) (oI [60, 47, oL f0, oL f1, 62, 60, 47, oL g0, oL g1, oL g2, 62]) (5 : Int32) x31 t31 kb31 g0 g1 g2 G1 G3 T1368.heap n0 f1407 Eq1368 Vq1368 Cq1368 Aq1368 f1414 f1415 f1416 f1417 hr_g0 hr_g1 hr_g2 (by decide +kernel) (by decide +kernel) (oCl (by decide +kernel) rfl (by decide +kernel)) (oCl (by decide +kernel) rfl (by decide +kernel)) (oCl (by decide +kernel) rfl hr_g0) (oCl (by decide +kernel) rfl hr_g1) (oCl (by decide +kernel) rfl hr_g2) (oCl (by decide +kernel) rfl (by decide +kernel)) O2 P5 O4 rG3 f1406) hZ1362 (Wd173 hw) (Wd2 hw) (by decide) (by decide)) (g := (fr_law m p1 p2 p3 114 (vR x21) (vR x31) (vI 1) (vR b365) (vR b365) (vR x1368) (vI 5) [(.ref x31), (iV 5), (.ref x1368)])) rfl (by rw [hml]; rfl) (argsL := [(.ref x1368), (iV 5), (.ref x31)]) (rest := []) (lenOf pd_36 rfl) rfl (oWt rfl) (D at_114) (fun _ _ => ⟨rfl, Eq1411, oLe rfl, oLe rfl⟩)
    dsimp only [Pt.U, Pt.locs, Pt.cells, Pt.slots] at X1418 l1418 y1418 z1418 st1418 hQ1418
    subst l1418 y1418 z1418
    obtain ⟨rfl, Nq1418, Eq1418⟩ := hQ1418
    have N1419 := Fr.app Nh1413 Nq1418
    obtain ⟨Lh1420, Xh1420, Nh1420⟩ := oHd 21 89 X1418 N1419 rfl rfl
    refine ownBy st1418 ?_
    clear st1418
    show oA p e below _ T1418 (fr_law m p1 p2 p3 117 (vR x21) (vR x31) (vI 1) (vR b365) (vR b365) (vR x1368) (vI 5) [(iV 1)])
    refine oTo T1418 (fr_law m p1 p2 p3 124 (vR x21) (vR x31) (vI 1) (vR b365) (vR b365) (vR x1368) (vI 5) [(.ref x1368)]) (fun t kt => ?_) ?_
    ·refine XS.ifYes Xh1420.here hx rfl (pc0 := 117) (pc' := 122) rfl (D at_117) rfl ((if0 _ _).trans (feq ((by decide) : ¬ ((1 : Int32) = (0 : Int32)))).2) (by decide) (by decide) ?_
     refine XS.aload Xh1420.here hx rfl (D at_122) rfl rfl ?_
     exact kt
    obtain ⟨cq1421, kq1421, q1421a, q1421b, q1421c⟩ := isOf hZ1362 Eq1418 Eq1368
    obtain ⟨vv1421, _, ⟨T1421, L1421, k1421, n1421⟩, -, X1421, ⟨Lc1421, hQ1421, l1421, y1421, z1421⟩, st1421⟩ := Xh1420.virtualBack hx (y := yM4) (z := yM4) hown1362 (mvT hZ1362 (Wd174 hw)) (mvT hZ1362 (Wd70 hw)) (oNf hZ1362 (Wd72 hw)) (mvT hZ1362 (Wd72 hw)) (mvT hZ1362 (Wd71 hw)) (by decide) (backOf (W := 0) (c_leng l Z a0 hw [] x1368 t1368 kn1368 (11 : Int32) (oI [60, 47, oL f0, oL f1, 62, 60, 47, oL g0, oL g1, oL g2, 62]) G1 T1368.heap n0 f1407 Eq1368 Vq1368 Cq1368 Aq1368 (by decide +kernel) O2 P5 f1406) hZ1362 (Wd73 hw) (Wd6 hw) (by decide) (by decide)) q1421a q1421c (g := (fr_law m p1 p2 p3 124 (vR x21) (vR x31) (vI 1) (vR b365) (vR b365) (vR x1368) (vI 5) [(.ref x1368)])) rfl (by rw [hml]; rfl) (Steps.refl _) (argsL := []) (rest := []) (lenOf pd_15 rfl) rfl (oWt rfl) (D at_124) (fun _ _ => ⟨rfl, Eq1418, oLe rfl, oLe rfl⟩)
    dsimp only [Pt.U, Pt.locs, Pt.cells, Pt.slots] at X1421 l1421 y1421 z1421 st1421 hQ1421
    subst l1421 y1421 z1421
    obtain ⟨rfl, Nq1421, Eq1421⟩ := hQ1421
    have N1422 := Fr.app Nh1420 Nq1421
    obtain ⟨Lh1423, Xh1423, Nh1423⟩ := oHd 21 89 X1421 N1422 rfl rfl
    refine ownSt st1421 ?_
    clear st1421
    show oA p e below _ T1421 (fr_law m p1 p2 p3 127 (vR x21) (vR x31) (vI 1) (vR b365) (vR b365) (vR x1368) (vI 5) [(iV 11)])
    refine oTo T1421 (fr_law m p1 p2 p3 131 (vR x21) (vR x31) (vI 1) (vR b365) (vR b365) (vR x1368) (vI 5) [(.ref x31), (iV 5), (iV 11)]) (fun t kt => ?_) ?_
    ·refine XS.iload Xh1423.here hx rfl (D at_127) rfl ?_
     refine XS.aload Xh1423.here hx rfl (D at_129) rfl rfl ?_
     exact kt
    obtain ⟨cq1424, kq1424, q1424a, q1424b, q1424c⟩ := isOf hZ1362 Eq1421 f1414
    obtain ⟨vv1424, _, ⟨T1424, L1424, k1424, n1424⟩, -, X1424, ⟨Lc1424, hQ1424, l1424, y1424, z1424⟩, st1424⟩ := Xh1423.virtualBack hx (y := yM4) (z := yM4) hown1362 (mvT hZ1362 (Wd174 hw)) (mvT hZ1362 (Wd70 hw)) (oNf hZ1362 (Wd72 hw)) (mvT hZ1362 (Wd72 hw)) (mvT hZ1362 (Wd71 hw)) (by decide) (backOf (W := 2) (c_leng l Z a0 hw [] x31 t31 kb31 (3 : Int32) (oI [oL g0, oL g1, oL g2]) G1 T1368.heap n0 f1407 f1414 f1415 f1416 f1417 (by decide +kernel) O2 P5 f1406) hZ1362 (Wd73 hw) (Wd6 hw) (by decide) (by decide)) q1424a q1424c (g := (fr_law m p1 p2 p3 131 (vR x21) (vR x31) (vI 1) (vR b365) (vR b365) (vR x1368) (vI 5) [(.ref x31), (iV 5), (iV 11)])) rfl (by rw [hml]; rfl) (Steps.refl _) (argsL := []) (rest := [(iV 5), (iV 11)]) (lenOf pd_15 rfl) rfl (oWt rfl) (D at_131) (fun _ _ => ⟨rfl, Eq1421, oLe rfl, oLe rfl⟩)
    dsimp only [Pt.U, Pt.locs, Pt.cells, Pt.slots] at X1424 l1424 y1424 z1424 st1424 hQ1424
    subst l1424 y1424 z1424
    obtain ⟨rfl, Nq1424, Eq1424⟩ := hQ1424
    have N1425 := Fr.app Nh1423 Nq1424
    obtain ⟨Lh1426, Xh1426, Nh1426⟩ := oHd 21 89 X1424 N1425 rfl rfl
    refine ownSt st1424 ?_
    clear st1424
    show oA p e below _ T1424 (fr_law m p1 p2 p3 134 (vR x21) (vR x31) (vI 1) (vR b365) (vR b365) (vR x1368) (vI 5) [(iV 3), (iV 5), (iV 11)])
    refine oTo T1424 (fr_law m p1 p2 p3 145 (vR x21) (vR x31) (vI 1) (vR b365) (vR b365) (vR x1368) (vI 5) [(iV 1)]) (fun t kt => ?_) ?_
    ·refine XS.iadd Xh1426.here hx rfl (D at_134) rfl ?_
     refine XS.iconst Xh1426.here hx rfl (D at_135) ?_
     refine XS.iadd Xh1426.here hx rfl (D at_136) rfl ?_
     refine XS.icmpNo Xh1426.here hx rfl (D at_137) rfl (teq ((by decide) : (11 : Int32) = (11 : Int32))).2 ?_
     refine XS.iconst Xh1426.here hx rfl (D at_140) ?_
     refine XS.goto Xh1426.here hx rfl (pc0 := 141) (pc' := 145) rfl (D at_141) (by decide) (by decide) ?_
     exact kt
    refine ownRetH Xh1426 hSR1362 (by rw [Eq1424]; exact (Nat.le_trans (Nat.le_refl _) Kq1368.1)) Bd.notSynchronized (v := some (.int (nar .boolean (1 : Int32)))) (fun h => by rw [Bd.returns] at h; cases h) ?_ (R1395.trans ((by rw [Eq1424]; exact CHv.at Xh1426 hZ1362 hEL R1395.1))) (oLe rfl) (oLe rfl) (fun fs hr => retN Xh1426 hx (t := .boolean) Bd.returns (by simp) (D at_145) hr)
    show (Q_law Z p1 p2 p3 G1 G3 h0 n0) (some (.int (nar .boolean (1 : Int32)))) T1424.heap _
    rw [Eq1424]
    exact ⟨rfl, Nh1426⟩
  ·skip
   refine oTo T382 (fr_law m p1 p2 p3 41 (vR x21) (vR x31) (vI 1) (vR b365) .unset .unset .unset [(.ref x21), (.ref b365)]) (fun t kt => ?_) ?_
   ·refine XS.aload Xh409.here hx rfl (D at_38) rfl rfl ?_
    refine XS.aloadN Xh409.here hx rfl (D at_40) rfl rfl ?_
    exact kt
   have f1428 := (f384.keep Kq382)
   have f1429 := (((Vq21.keep Kq31 nin0).ext E365).keep Kq382 (ninS ne366 nin0))
   have f1430 := (((Cq21.keep Kq31 nin0).ext E365).keep Kq382 (ninS ne366 nin0))
   have f1431 := (f386.keep Kq382 (ninS ne368 nin0))
   have f1432 := (f380.keep Kq382 (allS g372 all0))
   have f1433 := (Nat.le_trans f381 Kq382.1)
   obtain ⟨cq1434, kq1434, q1434a, q1434b, q1434c⟩ := isOf hZ40 rfl Eh382
   obtain ⟨vv1434, _, ⟨T1434, L1434, k1434, n1434⟩, -, X1434, hS1434, hg1434, ⟨Lc1434, hQ1434, l1434, y1434, z1434, hC1434⟩, st1434⟩ := Xh409.virtualBackS hx (y := yM33) (z := yM33) hown40 (mvT hZ40 (Wd53 hw)) (mvT hZ40 (Wd54 hw)) (oNf hZ40 (Wd56 hw)) (mvT hZ40 (Wd56 hw)) (mvT hZ40 (Wd55 hw)) (by decide) (backOfSH (W := 0) (s := s) (EL := ownEL) (c_hcl l Z a0 hw [] b365 x21 t21 kb21 (3 : Int32) (oI [oL f0, oL f1, oL f2]) sb382 t382 kv382 (16 : Int32) (oI [0, 0, 0, 0, 0, 0, 0, 0, 0, 0, 0, 0, 0, 0, 0, 0]) (0 : Int32) (oI [60, 47, 0, 0, 0, 0, 0, 0, 0, 0, 0, 0, 0, 0, 0, 0]) (oI [60, 47, oL f0, oL f1, oL f2, 0, 0, 0, 0, 0, 0, 0, 0, 0, 0, 0]) (oI [60, 47, oL f0, oL f1, oL f2, 62, 0, 0, 0, 0, 0, 0, 0, 0, 0, 0]) (2 : Int32) (5 : Int32) (6 : Int32) G1 T382.heap n0 f1433 Eh382 Fh382 f1428 f1429 f1430 f1431 Eq382 Vq382 Cq382 Mq382 Aq382 g392 g401 ne397 (by decide +kernel) (oCp (by decide +kernel) rfl rfl rfl) (oCp (by decide +kernel) rfl rfl rfl) (oCq (by decide +kernel) rfl rfl) O2 P5 f1432) hZ40 (Wd57 hw) (Wd28 hw) (by decide) (by decide) hEL R405.1) q1434a q1434c (g := (fr_law m p1 p2 p3 41 (vR x21) (vR x31) (vI 1) (vR b365) .unset .unset .unset [(.ref x21), (.ref b365)])) rfl (by rw [hml]; rfl) (Steps.refl _) (argsL := [(.ref x21)]) (rest := []) (lenOf pd_35 rfl) rfl (oWt rfl) (D at_41) (fun _ _ => ⟨rfl, rfl, oLe rfl, oLe rfl⟩)
   dsimp only [Pt.U, Pt.locs, Pt.cells, Pt.slots] at X1434 l1434 y1434 z1434 st1434 hQ1434 hS1434 hg1434 hC1434
   subst l1434 y1434 z1434
   obtain ⟨rfl, Nq1434, Kq1434, Eq1434, Vq1434, Cq1434, Mq1434, Aq1434⟩ := hQ1434
   have N1435 := Fr.app Nh409 Nq1434
   have R1437 := R405.trans hC1434
   have sf1438 := CHr.safe hC1434 Eh382.lt sf406
   have sf1439 := CHr.safe hC1434 Eq382.lt sf407
   have sf1440 := CHr.safe hC1434 Aq382.lt sf408
   obtain ⟨XR1441, hSR1441, hZ1441, hown1441⟩ := rebS hSR40 (Nat.le_trans (Nat.le_trans (Nat.le_refl _) E365.1) Kq382.1) X1434 hS1434 hg1434 hZ40 hown40
   obtain ⟨Lh1442, Xh1442, Nh1442⟩ := oHd 17 57 XR1441 N1435 rfl rfl
   refine ownSt st1434 ?_
   clear st1434
   show oA p e below _ T1434 (fr_law m p1 p2 p3 44 (vR x21) (vR x31) (vI 1) (vR b365) .unset .unset .unset [(.ref b365)])
   refine oTo T1434 (fr_law m p1 p2 p3 55 (vR x21) (vR x31) (vI 1) (vR b365) (vR b365) .unset .unset []) (fun t kt => ?_) ?_
   ·refine XS.astore Xh1442.here hx rfl (D at_44) rfl rfl (l' := #[vI p1, vI p2, vI p3, vR x21, vR x31, vI 1, vR b365, vR b365, .unset, .unset]) rfl ?_
    refine XS.aload Xh1442.here hx rfl (D at_46) rfl rfl ?_
    refine XS.aload Xh1442.here hx rfl (D at_48) rfl rfl ?_
    refine Jvm.RoadKit.acmp (g := (fr_law m p1 p2 p3 50 (vR x21) (vR x31) (vI 1) (vR b365) (vR b365) .unset .unset [(.ref b365), (.ref b365)])) Xh1442 hx rfl rfl rfl (pc0 := 50) (pc' := 55) (same := true) rfl (D at_50) rfl (decide_eq_true rfl) (by decide) (by decide) ?_
    exact kt
   rcases hT31 with ⟨-, rfl, rfl⟩ | ⟨g0, hr_g0, rfl, rfl⟩ | ⟨g0, g1, hr_g0, hr_g1, rfl, rfl⟩ | ⟨g0, g1, g2, hr_g0, hr_g1, hr_g2, rfl, rfl⟩
   ·skip
    refine oTo T1434 (fr_law m p1 p2 p3 59 (vR x21) (vR x31) (vI 1) (vR b365) (vR b365) .unset .unset [(.ref x31), (.ref b365)]) (fun t kt => ?_) ?_
    ·refine XS.aload Xh1442.here hx rfl (D at_55) rfl rfl ?_
     refine XS.aload Xh1442.here hx rfl (D at_57) rfl rfl ?_
     exact kt
    have f1443 := ((f388.keep Kq382).keep Kq1434)
    have f1444 := (((Vq31.ext E365).keep Kq382 (ninS ne370 nin0)).keep Kq1434 (ninS ne387 (ninS ne398 nin0)))
    have f1445 := (((Cq31.ext E365).keep Kq382 (ninS ne370 nin0)).keep Kq1434 (ninS ne387 (ninS ne398 nin0)))
    have f1446 := ((f390.keep Kq382 (ninS ne371 nin0)).keep Kq1434 (ninS ne389 (ninS ne399 nin0)))
    have f1447 := (Eh382.keep Kq1434)
    have f1448 := (Fh382.keep Kq1434 (ninS ne391 (ninS ne400 nin0)))
    have f1449 := (f1432.keep Kq1434 (allS g392 (allS g401 all0)))
    have f1450 := (Nat.le_trans f1433 Kq1434.1)
    obtain ⟨cq1451, kq1451, q1451a, q1451b, q1451c⟩ := isOf hZ1441 rfl f1447
    obtain ⟨vv1451, _, ⟨T1451, L1451, k1451, n1451⟩, -, X1451, hS1451, hg1451, ⟨Lc1451, hQ1451, l1451, y1451, z1451, hC1451⟩, st1451⟩ := Xh1442.virtualBackS hx (y := yM33) (z := yM33) hown1441 (mvT hZ1441 (Wd53 hw)) (mvT hZ1441 (Wd54 hw)) (oNf hZ1441 (Wd56 hw)) (mvT hZ1441 (Wd56 hw)) (mvT hZ1441 (Wd55 hw)) (by decide) (backOfSH (W := 0) (s := s) (EL := ownEL) (c_hcl l Z a0 hw [] b365 x31 t31 kb31 (0 : Int32) [] sb382 t382 kv382 (16 : Int32) (oI [60, 47, oL f0, oL f1, oL f2, 62, 0, 0, 0, 0, 0, 0, 0, 0, 0, 0]) (6 : Int32) (oI [60, 47, oL f0, oL f1, oL f2, 62, 60, 47, 0, 0, 0, 0, 0, 0, 0, 0]) (oI [60, 47, oL f0, oL f1, oL f2, 62, 60, 47, 0, 0, 0, 0, 0, 0, 0, 0]) (oI [60, 47, oL f0, oL f1, oL f2, 62, 60, 47, 62, 0, 0, 0, 0, 0, 0, 0]) (8 : Int32) (8 : Int32) (9 : Int32) G1 T1434.heap n0 f1450 f1447 f1448 f1443 f1444 f1445 f1446 Eq1434 Vq1434 Cq1434 Mq1434 Aq1434 g392 g401 ne399 (by decide +kernel) (oCp (by decide +kernel) rfl rfl rfl) (oCp (by decide +kernel) rfl rfl rfl) (oCq (by decide +kernel) rfl rfl) O2 P5 f1449) hZ1441 (Wd57 hw) (Wd28 hw) (by decide) (by decide) hEL R1437.1) q1451a q1451c (g := (fr_law m p1 p2 p3 59 (vR x21) (vR x31) (vI 1) (vR b365) (vR b365) .unset .unset [(.ref x31), (.ref b365)])) rfl (by rw [hml]; rfl) (Steps.refl _) (argsL := [(.ref x31)]) (rest := []) (lenOf pd_35 rfl) rfl (oWt rfl) (D at_59) (fun _ _ => ⟨rfl, rfl, oLe rfl, oLe rfl⟩)
    dsimp only [Pt.U, Pt.locs, Pt.cells, Pt.slots] at X1451 l1451 y1451 z1451 st1451 hQ1451 hS1451 hg1451 hC1451
    subst l1451 y1451 z1451
    obtain ⟨rfl, Nq1451, Kq1451, Eq1451, Vq1451, Cq1451, Mq1451, Aq1451⟩ := hQ1451
    have N1452 := Fr.app Nh1442 Nq1451
    have R1454 := R1437.trans hC1451
    have sf1455 := CHr.safe hC1451 f1447.lt sf1438
    have sf1456 := CHr.safe hC1451 Eq1434.lt sf1439
    have sf1457 := CHr.safe hC1451 Aq1434.lt sf1440
    obtain ⟨XR1458, hSR1458, hZ1458, hown1458⟩ := rebS hSR1441 (Nat.le_refl _) X1451 hS1451 hg1451 hZ1441 hown1441
    obtain ⟨Lh1459, Xh1459, Nh1459⟩ := oHd 19 69 XR1458 N1452 rfl rfl
    refine ownSt st1451 ?_
    clear st1451
    show oA p e below _ T1451 (fr_law m p1 p2 p3 62 (vR x21) (vR x31) (vI 1) (vR b365) (vR b365) .unset .unset [(.ref b365)])
    refine oTo T1451 (fr_law m p1 p2 p3 75 (vR x21) (vR x31) (vI 1) (vR b365) (vR b365) .unset .unset [(.ref b365)]) (fun t kt => ?_) ?_
    ·refine XS.astore Xh1459.here hx rfl (D at_62) rfl rfl (l' := #[vI p1, vI p2, vI p3, vR x21, vR x31, vI 1, vR b365, vR b365, .unset, .unset]) rfl ?_
     refine XS.aload Xh1459.here hx rfl (D at_64) rfl rfl ?_
     refine XS.aload Xh1459.here hx rfl (D at_66) rfl rfl ?_
     refine Jvm.RoadKit.acmp (g := (fr_law m p1 p2 p3 68 (vR x21) (vR x31) (vI 1) (vR b365) (vR b365) .unset .unset [(.ref b365), (.ref b365)])) Xh1459 hx rfl rfl rfl (pc0 := 68) (pc' := 73) (same := true) rfl (D at_68) rfl (decide_eq_true rfl) (by decide) (by decide) ?_
     refine XS.aload Xh1459.here hx rfl (D at_73) rfl rfl ?_
     exact kt
    have f1460 := (f1447.keep Kq1451)
    have f1461 := (f1448.keep Kq1451 (ninS ne391 (ninS ne400 nin0)))
    have f1462 := (f1449.keep Kq1451 (allS g392 (allS g401 all0)))
    have f1463 := (Nat.le_trans f1450 Kq1451.1)
    obtain ⟨cq1464, kq1464, q1464a, q1464b, q1464c⟩ := isOf hZ1458 rfl f1460
    obtain ⟨vv1464, _, ⟨T1464, L1464, k1464, n1464⟩, -, X1464, ⟨Lc1464, hQ1464, l1464, y1464, z1464⟩, st1464⟩ := Xh1459.virtualBack hx (y := yM34) (z := yM34) hown1458 (mvT hZ1458 (Wd125 hw)) (mvT hZ1458 (Wd126 hw)) (oNf hZ1458 (Wd128 hw)) (mvT hZ1458 (Wd128 hw)) (mvT hZ1458 (Wd127 hw)) (by decide) (backOf (W := 0) (c_hts l Z a0 hw [] b365 sb382 t382 kv382 (16 : Int32) (oI [60, 47, oL f0, oL f1, oL f2, 62, 60, 47, 62, 0, 0, 0, 0, 0, 0, 0]) (9 : Int32) (oI [60, 47, oL f0, oL f1, oL f2, 62, 60, 47, 62]) G1 T1451.heap n0 f1463 f1460 f1461 Eq1451 Vq1451 Cq1451 Mq1451 Aq1451 (oCr (by decide +kernel) rfl) O2 P5 f1462) hZ1458 (Wd129 hw) (Wd28 hw) (by decide) (by decide)) q1464a q1464c (g := (fr_law m p1 p2 p3 75 (vR x21) (vR x31) (vI 1) (vR b365) (vR b365) .unset .unset [(.ref b365)])) rfl (by rw [hml]; rfl) (Steps.refl _) (argsL := []) (rest := []) (lenOf pd_32 rfl) rfl (oWt rfl) (D at_75) (fun _ _ => ⟨rfl, rfl, oLe rfl, oLe rfl⟩)
    dsimp only [Pt.U, Pt.locs, Pt.cells, Pt.slots] at X1464 l1464 y1464 z1464 st1464 hQ1464
    subst l1464 y1464 z1464
    obtain ⟨x1464, t1464, kn1464, rfl, Nq1464, Kq1464, zx1464, zq1464, Eq1464, Vq1464, Cq1464, Aq1464⟩ := hQ1464
    have f1466 := ((f1428.keep Kq1434).keep Kq1451)
    have ne1465 : x21 ≠ x1464 := Nat.ne_of_lt (Nat.lt_of_lt_of_le f1466.lt zx1464)
    have f1468 := ((f1431.keep Kq1434 (ninS ne385 (ninS ne397 nin0))).keep Kq1451 (ninS ne385 (ninS ne397 nin0)))
    have ne1467 : t21 ≠ x1464 := Nat.ne_of_lt (Nat.lt_of_lt_of_le f1468.lt zx1464)
    have f1470 := (f1443.keep Kq1451)
    have ne1469 : x31 ≠ x1464 := Nat.ne_of_lt (Nat.lt_of_lt_of_le f1470.lt zx1464)
    have f1472 := (f1446.keep Kq1451 (ninS ne389 (ninS ne399 nin0)))
    have ne1471 : t31 ≠ x1464 := Nat.ne_of_lt (Nat.lt_of_lt_of_le f1472.lt zx1464)
    have ne1473 : b365 ≠ x1464 := Nat.ne_of_lt (Nat.lt_of_lt_of_le f1460.lt zx1464)
    have ne1474 : sb382 ≠ x1464 := Nat.ne_of_lt (Nat.lt_of_lt_of_le Eq1451.lt zx1464)
    have ne1475 : t382 ≠ x1464 := Nat.ne_of_lt (Nat.lt_of_lt_of_le Aq1451.lt zx1464)
    have g1476 : n0 ≤ x1464 := Nat.le_trans f1463 zx1464
    have sf1477 : Safe Z ownEL T1451.vm T1451.heap x1464 := Safe.new zx1464
    have f1479 := (Nat.le_trans (Nat.le_trans (Nat.le_trans f395 Kq382.1) Kq1434.1) Kq1451.1)
    have z1478 : h0.size ≤ x1464 := Nat.le_trans f1479 zx1464
    have ne1480 : x21 ≠ t1464 := Nat.ne_of_lt (Nat.lt_of_lt_of_le f1466.lt zq1464)
    have ne1481 : t21 ≠ t1464 := Nat.ne_of_lt (Nat.lt_of_lt_of_le f1468.lt zq1464)
    have ne1482 : x31 ≠ t1464 := Nat.ne_of_lt (Nat.lt_of_lt_of_le f1470.lt zq1464)
    have ne1483 : t31 ≠ t1464 := Nat.ne_of_lt (Nat.lt_of_lt_of_le f1472.lt zq1464)
    have ne1484 : b365 ≠ t1464 := Nat.ne_of_lt (Nat.lt_of_lt_of_le f1460.lt zq1464)
    have ne1485 : sb382 ≠ t1464 := Nat.ne_of_lt (Nat.lt_of_lt_of_le Eq1451.lt zq1464)
    have ne1486 : t382 ≠ t1464 := Nat.ne_of_lt (Nat.lt_of_lt_of_le Aq1451.lt zq1464)
    have g1487 : n0 ≤ t1464 := Nat.le_trans f1463 zq1464
    have sf1488 : Safe Z ownEL T1451.vm T1451.heap t1464 := Safe.new zq1464
    have z1489 : h0.size ≤ t1464 := Nat.le_trans f1479 zq1464
    have N1490 := Fr.app Nh1459 Nq1464
    have R1491 := R1454.trans (CHr.keep Kq1464 sf0 R1454.1)
    have sf1492 := Safe.keep Kq1464 sf0 R1454.1 sf1455
    have sf1493 := Safe.keep Kq1464 sf0 R1454.1 sf1456
    have sf1494 := Safe.keep Kq1464 sf0 R1454.1 sf1457
    have sf1495 := Safe.keep Kq1464 sf0 R1454.1 sf1477
    have sf1496 := Safe.keep Kq1464 sf0 R1454.1 sf1488
    obtain ⟨Lh1497, Xh1497, Nh1497⟩ := oHd 21 89 X1464 N1490 rfl rfl
    refine ownSt st1464 ?_
    clear st1464
    show oA p e below _ T1464 (fr_law m p1 p2 p3 78 (vR x21) (vR x31) (vI 1) (vR b365) (vR b365) .unset .unset [(.ref x1464)])
    refine oTo T1464 (fr_law m p1 p2 p3 92 (vR x21) (vR x31) (vI 1) (vR b365) (vR b365) (vR x1464) (vI 0) [(.ref x21), (iV 0), (.ref x1464)]) (fun t kt => ?_) ?_
    ·refine XS.astore Xh1497.here hx rfl (D at_78) rfl rfl (l' := #[vI p1, vI p2, vI p3, vR x21, vR x31, vI 1, vR b365, vR b365, vR x1464, .unset]) rfl ?_
     refine XS.iconst Xh1497.here hx rfl (D at_80) ?_
     refine XS.istore Xh1497.here hx rfl (D at_81) rfl (l' := #[vI p1, vI p2, vI p3, vR x21, vR x31, vI 1, vR b365, vR b365, vR x1464, vI 0]) rfl ?_
     refine XS.iload Xh1497.here hx rfl (D at_83) rfl ?_
     refine XS.ifNo Xh1497.here hx rfl (D at_85) rfl ((if0 _ _).trans (feq ((by decide) : ¬ ((1 : Int32) = (0 : Int32)))).1) ?_
     refine XS.aload Xh1497.here hx rfl (D at_88) rfl rfl ?_
     refine XS.iconst Xh1497.here hx rfl (D at_90) ?_
     refine XS.aloadN Xh1497.here hx rfl (D at_91) rfl rfl ?_
     exact kt
    have f1498 := (f1466.keep Kq1464)
    have f1499 := (((f1429.keep Kq1434 (ninS ne383 (ninS ne396 nin0))).keep Kq1451 (ninS ne383 (ninS ne396 nin0))).keep Kq1464 nin0)
    have f1500 := (((f1430.keep Kq1434 (ninS ne383 (ninS ne396 nin0))).keep Kq1451 (ninS ne383 (ninS ne396 nin0))).keep Kq1464 nin0)
    have f1501 := (f1468.keep Kq1464 nin0)
    have f1502 := (f1462.keep Kq1464 all0)
    have f1503 := (Nat.le_trans f1463 Kq1464.1)
    obtain ⟨vv1504, _, ⟨T1504, L1504, k1504, n1504⟩, -, X1504, ⟨Lc1504, hQ1504, l1504, y1504, z1504⟩, st1504⟩ := Jvm.LawKit.callS Xh1497 hx (y := yM35) hown1458 (mvT hZ1458 (Wd171 hw)) (mvT hZ1458 (Wd172 hw)) (mvT hZ1458 (Wd2 hw)) (mvT hZ1458 (Wd173 hw)) (by decide) (backOf (W := 0) (c_clg3 l Z a0 hw [] x1464 t1464 kn1464 (9 : Int32) (oI [60, 47, oL f0, oL f1, oL f2, 62, 60, 47, 62]) (0 : Int32) x21 t21 kb21 f0 f1 f2 G1 G3 T1464.heap n0 f1503 Eq1464 Vq1464 Cq1464 Aq1464 f1498 f1499 f1500 f1501 hr_f0 hr_f1 hr_f2 (by decide +kernel) (by decide +kernel) (oCl (by decide +kernel) rfl (by decide +kernel)) (oCl (by decide +kernel) rfl (by decide +kernel)) (oCl (by decide +kernel) rfl hr_f0) (oCl (by decide +kernel) rfl hr_f1) (oCl (by decide +kernel) rfl hr_f2) (oCl (by decide +kernel) rfl (by decide +kernel)) O2 P5 O4 rG3 f1502) hZ1458 (Wd173 hw) (Wd2 hw) (by decide) (by decide)) (g := (fr_law m p1 p2 p3 92 (vR x21) (vR x31) (vI 1) (vR b365) (vR b365) (vR x1464) (vI 0) [(.ref x21), (iV 0), (.ref x1464)])) rfl (by rw [hml]; rfl) (argsL := [(.ref x1464), (iV 0), (.ref x21)]) (rest := []) (lenOf pd_36 rfl) rfl (oWt rfl) (D at_92) (fun _ _ => ⟨rfl, rfl, oLe rfl, oLe rfl⟩)
    dsimp only [Pt.U, Pt.locs, Pt.cells, Pt.slots] at X1504 l1504 y1504 z1504 st1504 hQ1504
    subst l1504 y1504 z1504
    obtain ⟨rfl, Nq1504, Eq1504⟩ := hQ1504
    have N1505 := Fr.app Nh1497 Nq1504
    obtain ⟨Lh1506, Xh1506, Nh1506⟩ := oHd 21 89 X1504 N1505 rfl rfl
    refine ownBy st1504 ?_
    clear st1504
    show oA p e below _ T1504 (fr_law m p1 p2 p3 95 (vR x21) (vR x31) (vI 1) (vR b365) (vR b365) (vR x1464) (vI 0) [(iV 1)])
    refine oTo T1504 (fr_law m p1 p2 p3 101 (vR x21) (vR x31) (vI 1) (vR b365) (vR b365) (vR x1464) (vI 0) [(.ref x21)]) (fun t kt => ?_) ?_
    ·refine XS.ifYes Xh1506.here hx rfl (pc0 := 95) (pc' := 100) rfl (D at_95) rfl ((if0 _ _).trans (feq ((by decide) : ¬ ((1 : Int32) = (0 : Int32)))).2) (by decide) (by decide) ?_
     refine XS.aloadN Xh1506.here hx rfl (D at_100) rfl rfl ?_
     exact kt
    obtain ⟨cq1507, kq1507, q1507a, q1507b, q1507c⟩ := isOf hZ1458 Eq1504 f1498
    obtain ⟨vv1507, _, ⟨T1507, L1507, k1507, n1507⟩, -, X1507, ⟨Lc1507, hQ1507, l1507, y1507, z1507⟩, st1507⟩ := Xh1506.virtualBack hx (y := yM4) (z := yM4) hown1458 (mvT hZ1458 (Wd174 hw)) (mvT hZ1458 (Wd70 hw)) (oNf hZ1458 (Wd72 hw)) (mvT hZ1458 (Wd72 hw)) (mvT hZ1458 (Wd71 hw)) (by decide) (backOf (W := 0) (c_leng l Z a0 hw [] x21 t21 kb21 (3 : Int32) (oI [oL f0, oL f1, oL f2]) G1 T1464.heap n0 f1503 f1498 f1499 f1500 f1501 (by decide +kernel) O2 P5 f1502) hZ1458 (Wd73 hw) (Wd6 hw) (by decide) (by decide)) q1507a q1507c (g := (fr_law m p1 p2 p3 101 (vR x21) (vR x31) (vI 1) (vR b365) (vR b365) (vR x1464) (vI 0) [(.ref x21)])) rfl (by rw [hml]; rfl) (Steps.refl _) (argsL := []) (rest := []) (lenOf pd_15 rfl) rfl (oWt rfl) (D at_101) (fun _ _ => ⟨rfl, Eq1504, oLe rfl, oLe rfl⟩)
    dsimp only [Pt.U, Pt.locs, Pt.cells, Pt.slots] at X1507 l1507 y1507 z1507 st1507 hQ1507
    subst l1507 y1507 z1507
    obtain ⟨rfl, Nq1507, Eq1507⟩ := hQ1507
    have N1508 := Fr.app Nh1506 Nq1507
    obtain ⟨Lh1509, Xh1509, Nh1509⟩ := oHd 21 89 X1507 N1508 rfl rfl
    refine ownSt st1507 ?_
    clear st1507
    show oA p e below _ T1507 (fr_law m p1 p2 p3 104 (vR x21) (vR x31) (vI 1) (vR b365) (vR b365) (vR x1464) (vI 0) [(iV 3)])
    refine oTo T1507 (fr_law m p1 p2 p3 114 (vR x21) (vR x31) (vI 1) (vR b365) (vR b365) (vR x1464) (vI 6) [(.ref x31), (iV 6), (.ref x1464)]) (fun t kt => ?_) ?_
    ·refine XS.iconst Xh1509.here hx rfl (D at_104) ?_
     refine XS.iadd Xh1509.here hx rfl (D at_105) rfl ?_
     refine XS.istore Xh1509.here hx rfl (D at_106) rfl (l' := #[vI p1, vI p2, vI p3, vR x21, vR x31, vI 1, vR b365, vR b365, vR x1464, vI 6]) rfl ?_
     refine XS.aload Xh1509.here hx rfl (D at_108) rfl rfl ?_
     refine XS.iload Xh1509.here hx rfl (D at_110) rfl ?_
     refine XS.aload Xh1509.here hx rfl (D at_112) rfl rfl ?_
     exact kt
    have f1510 := (f1470.keep Kq1464)
    have f1511 := ((f1444.keep Kq1451 (ninS ne387 (ninS ne398 nin0))).keep Kq1464 nin0)
    have f1512 := ((f1445.keep Kq1451 (ninS ne387 (ninS ne398 nin0))).keep Kq1464 nin0)
    have f1513 := (f1472.keep Kq1464 nin0)
    obtain ⟨vv1514, _, ⟨T1514, L1514, k1514, n1514⟩, -, X1514, ⟨Lc1514, hQ1514, l1514, y1514, z1514⟩, st1514⟩ := Jvm.LawKit.callS Xh1509 hx (y := yM35) hown1458 (mvT hZ1458 (Wd171 hw)) (mvT hZ1458 (Wd172 hw)) (mvT hZ1458 (Wd2 hw)) (mvT hZ1458 (Wd173 hw)) (by decide) (backOf (W := 0) (c_clg0 l Z a0 hw [] x1464 t1464 kn1464 (9 : Int32) (oI [60, 47, oL f0, oL f1, oL f2, 62, 60, 47, 62]) (6 : Int32) x31 t31 kb31 G1 G3 T1464.heap n0 f1503 Eq1464 Vq1464 Cq1464 Aq1464 f1510 f1511 f1512 f1513 (by decide +kernel) (by decide +kernel) (oCl (by decide +kernel) rfl (by decide +kernel)) (oCl (by decide +kernel) rfl (by decide +kernel)) (oCl (by decide +kernel) rfl (by decide +kernel)) O2 P5 O4 rG3 f1502) hZ1458 (Wd173 hw) (Wd2 hw) (by decide) (by decide)) (g := (fr_law m p1 p2 p3 114 (vR x21) (vR x31) (vI 1) (vR b365) (vR b365) (vR x1464) (vI 6) [(.ref x31), (iV 6), (.ref x1464)])) rfl (by rw [hml]; rfl) (argsL := [(.ref x1464), (iV 6), (.ref x31)]) (rest := []) (lenOf pd_36 rfl) rfl (oWt rfl) (D at_114) (fun _ _ => ⟨rfl, Eq1507, oLe rfl, oLe rfl⟩)
    dsimp only [Pt.U, Pt.locs, Pt.cells, Pt.slots] at X1514 l1514 y1514 z1514 st1514 hQ1514
    subst l1514 y1514 z1514
    obtain ⟨rfl, Nq1514, Eq1514⟩ := hQ1514
    have N1515 := Fr.app Nh1509 Nq1514
    obtain ⟨Lh1516, Xh1516, Nh1516⟩ := oHd 21 89 X1514 N1515 rfl rfl
    refine ownBy st1514 ?_
    clear st1514
    show oA p e below _ T1514 (fr_law m p1 p2 p3 117 (vR x21) (vR x31) (vI 1) (vR b365) (vR b365) (vR x1464) (vI 6) [(iV 1)])
    refine oTo T1514 (fr_law m p1 p2 p3 124 (vR x21) (vR x31) (vI 1) (vR b365) (vR b365) (vR x1464) (vI 6) [(.ref x1464)]) (fun t kt => ?_) ?_
    ·refine XS.ifYes Xh1516.here hx rfl (pc0 := 117) (pc' := 122) rfl (D at_117) rfl ((if0 _ _).trans (feq ((by decide) : ¬ ((1 : Int32) = (0 : Int32)))).2) (by decide) (by decide) ?_
     refine XS.aload Xh1516.here hx rfl (D at_122) rfl rfl ?_
     exact kt
    obtain ⟨cq1517, kq1517, q1517a, q1517b, q1517c⟩ := isOf hZ1458 Eq1514 Eq1464
    obtain ⟨vv1517, _, ⟨T1517, L1517, k1517, n1517⟩, -, X1517, ⟨Lc1517, hQ1517, l1517, y1517, z1517⟩, st1517⟩ := Xh1516.virtualBack hx (y := yM4) (z := yM4) hown1458 (mvT hZ1458 (Wd174 hw)) (mvT hZ1458 (Wd70 hw)) (oNf hZ1458 (Wd72 hw)) (mvT hZ1458 (Wd72 hw)) (mvT hZ1458 (Wd71 hw)) (by decide) (backOf (W := 0) (c_leng l Z a0 hw [] x1464 t1464 kn1464 (9 : Int32) (oI [60, 47, oL f0, oL f1, oL f2, 62, 60, 47, 62]) G1 T1464.heap n0 f1503 Eq1464 Vq1464 Cq1464 Aq1464 (by decide +kernel) O2 P5 f1502) hZ1458 (Wd73 hw) (Wd6 hw) (by decide) (by decide)) q1517a q1517c (g := (fr_law m p1 p2 p3 124 (vR x21) (vR x31) (vI 1) (vR b365) (vR b365) (vR x1464) (vI 6) [(.ref x1464)])) rfl (by rw [hml]; rfl) (Steps.refl _) (argsL := []) (rest := []) (lenOf pd_15 rfl) rfl (oWt rfl) (D at_124) (fun _ _ => ⟨rfl, Eq1514, oLe rfl, oLe rfl⟩)
    dsimp only [Pt.U, Pt.locs, Pt.cells, Pt.slots] at X1517 l1517 y1517 z1517 st1517 hQ1517
    subst l1517 y1517 z1517
    obtain ⟨rfl, Nq1517, Eq1517⟩ := hQ1517
    have N1518 := Fr.app Nh1516 Nq1517
    obtain ⟨Lh1519, Xh1519, Nh1519⟩ := oHd 21 89 X1517 N1518 rfl rfl
    refine ownSt st1517 ?_
    clear st1517
    show oA p e below _ T1517 (fr_law m p1 p2 p3 127 (vR x21) (vR x31) (vI 1) (vR b365) (vR b365) (vR x1464) (vI 6) [(iV 9)])
    refine oTo T1517 (fr_law m p1 p2 p3 131 (vR x21) (vR x31) (vI 1) (vR b365) (vR b365) (vR x1464) (vI 6) [(.ref x31), (iV 6), (iV 9)]) (fun t kt => ?_) ?_
    ·refine XS.iload Xh1519.here hx rfl (D at_127) rfl ?_
     refine XS.aload Xh1519.here hx rfl (D at_129) rfl rfl ?_
     exact kt
    obtain ⟨cq1520, kq1520, q1520a, q1520b, q1520c⟩ := isOf hZ1458 Eq1517 f1510
    obtain ⟨vv1520, _, ⟨T1520, L1520, k1520, n1520⟩, -, X1520, ⟨Lc1520, hQ1520, l1520, y1520, z1520⟩, st1520⟩ := Xh1519.virtualBack hx (y := yM4) (z := yM4) hown1458 (mvT hZ1458 (Wd174 hw)) (mvT hZ1458 (Wd70 hw)) (oNf hZ1458 (Wd72 hw)) (mvT hZ1458 (Wd72 hw)) (mvT hZ1458 (Wd71 hw)) (by decide) (backOf (W := 2) (c_leng l Z a0 hw [] x31 t31 kb31 (0 : Int32) [] G1 T1464.heap n0 f1503 f1510 f1511 f1512 f1513 (by decide +kernel) O2 P5 f1502) hZ1458 (Wd73 hw) (Wd6 hw) (by decide) (by decide)) q1520a q1520c (g := (fr_law m p1 p2 p3 131 (vR x21) (vR x31) (vI 1) (vR b365) (vR b365) (vR x1464) (vI 6) [(.ref x31), (iV 6), (iV 9)])) rfl (by rw [hml]; rfl) (Steps.refl _) (argsL := []) (rest := [(iV 6), (iV 9)]) (lenOf pd_15 rfl) rfl (oWt rfl) (D at_131) (fun _ _ => ⟨rfl, Eq1517, oLe rfl, oLe rfl⟩)
    dsimp only [Pt.U, Pt.locs, Pt.cells, Pt.slots] at X1520 l1520 y1520 z1520 st1520 hQ1520
    subst l1520 y1520 z1520
    obtain ⟨rfl, Nq1520, Eq1520⟩ := hQ1520
    have N1521 := Fr.app Nh1519 Nq1520
    obtain ⟨Lh1522, Xh1522, Nh1522⟩ := oHd 21 89 X1520 N1521 rfl rfl
    refine ownSt st1520 ?_
    clear st1520
    show oA p e below _ T1520 (fr_law m p1 p2 p3 134 (vR x21) (vR x31) (vI 1) (vR b365) (vR b365) (vR x1464) (vI 6) [(iV 0), (iV 6), (iV 9)])
    refine oTo T1520 (fr_law m p1 p2 p3 145 (vR x21) (vR x31) (vI 1) (vR b365) (vR b365) (vR x1464) (vI 6) [(iV 1)]) (fun t kt => ?_) ?_
    ·refine XS.iadd Xh1522.here hx rfl (D at_134) rfl ?_
     refine XS.iconst Xh1522.here hx rfl (D at_135) ?_
     refine XS.iadd Xh1522.here hx rfl (D at_136) rfl ?_
     refine XS.icmpNo Xh1522.here hx rfl (D at_137) rfl (teq ((by decide) : (9 : Int32) = (9 : Int32))).2 ?_
     refine XS.iconst Xh1522.here hx rfl (D at_140) ?_
     refine XS.goto Xh1522.here hx rfl (pc0 := 141) (pc' := 145) rfl (D at_141) (by decide) (by decide) ?_
     exact kt
    refine ownRetH Xh1522 hSR1458 (by rw [Eq1520]; exact (Nat.le_trans (Nat.le_refl _) Kq1464.1)) Bd.notSynchronized (v := some (.int (nar .boolean (1 : Int32)))) (fun h => by rw [Bd.returns] at h; cases h) ?_ (R1491.trans ((by rw [Eq1520]; exact CHv.at Xh1522 hZ1458 hEL R1491.1))) (oLe rfl) (oLe rfl) (fun fs hr => retN Xh1522 hx (t := .boolean) Bd.returns (by simp) (D at_145) hr)
    show (Q_law Z p1 p2 p3 G1 G3 h0 n0) (some (.int (nar .boolean (1 : Int32)))) T1520.heap _
    rw [Eq1520]
    exact ⟨rfl, Nh1522⟩
   ·skip
    refine oTo T1434 (fr_law m p1 p2 p3 59 (vR x21) (vR x31) (vI 1) (vR b365) (vR b365) .unset .unset [(.ref x31), (.ref b365)]) (fun t kt => ?_) ?_
    ·refine XS.aload Xh1442.here hx rfl (D at_55) rfl rfl ?_
     refine XS.aload Xh1442.here hx rfl (D at_57) rfl rfl ?_
     exact kt
    have f1524 := ((f388.keep Kq382).keep Kq1434)
    have f1525 := (((Vq31.ext E365).keep Kq382 (ninS ne370 nin0)).keep Kq1434 (ninS ne387 (ninS ne398 nin0)))
    have f1526 := (((Cq31.ext E365).keep Kq382 (ninS ne370 nin0)).keep Kq1434 (ninS ne387 (ninS ne398 nin0)))
    have f1527 := ((f390.keep Kq382 (ninS ne371 nin0)).keep Kq1434 (ninS ne389 (ninS ne399 nin0)))
    have f1528 := (Eh382.keep Kq1434)
    have f1529 := (Fh382.keep Kq1434 (ninS ne391 (ninS ne400 nin0)))
    have f1530 := (f1432.keep Kq1434 (allS g392 (allS g401 all0)))
    have f1531 := (Nat.le_trans f1433 Kq1434.1)
    obtain ⟨cq1532, kq1532, q1532a, q1532b, q1532c⟩ := isOf hZ1441 rfl f1528
    obtain ⟨vv1532, _, ⟨T1532, L1532, k1532, n1532⟩, -, X1532, hS1532, hg1532, ⟨Lc1532, hQ1532, l1532, y1532, z1532, hC1532⟩, st1532⟩ := Xh1442.virtualBackS hx (y := yM33) (z := yM33) hown1441 (mvT hZ1441 (Wd53 hw)) (mvT hZ1441 (Wd54 hw)) (oNf hZ1441 (Wd56 hw)) (mvT hZ1441 (Wd56 hw)) (mvT hZ1441 (Wd55 hw)) (by decide) (backOfSH (W := 0) (s := s) (EL := ownEL) (c_hcl l Z a0 hw [] b365 x31 t31 kb31 (1 : Int32) (oI [oL g0]) sb382 t382 kv382 (16 : Int32) (oI [60, 47, oL f0, oL f1, oL f2, 62, 0, 0, 0, 0, 0, 0, 0, 0, 0, 0]) (6 : Int32) (oI [60, 47, oL f0, oL f1, oL f2, 62, 60, 47, 0, 0, 0, 0, 0, 0, 0, 0]) (oI [60, 47, oL f0, oL f1, oL f2, 62, 60, 47, oL g0, 0, 0, 0, 0, 0, 0, 0]) (oI [60, 47, oL f0, oL f1, oL f2, 62, 60, 47, oL g0, 62, 0, 0, 0, 0, 0, 0]) (8 : Int32) (9 : Int32) (10 : Int32) G1 T1434.heap n0 f1531 f1528 f1529 f1524 f1525 f1526 f1527 Eq1434 Vq1434 Cq1434 Mq1434 Aq1434 g392 g401 ne399 (by decide +kernel) (oCp (by decide +kernel) rfl rfl rfl) (oCp (by decide +kernel) rfl rfl rfl) (oCq (by decide +kernel) rfl rfl) O2 P5 f1530) hZ1441 (Wd57 hw) (Wd28 hw) (by decide) (by decide) hEL R1437.1) q1532a q1532c (g := (fr_law m p1 p2 p3 59 (vR x21) (vR x31) (vI 1) (vR b365) (vR b365) .unset .unset [(.ref x31), (.ref b365)])) rfl (by rw [hml]; rfl) (Steps.refl _) (argsL := [(.ref x31)]) (rest := []) (lenOf pd_35 rfl) rfl (oWt rfl) (D at_59) (fun _ _ => ⟨rfl, rfl, oLe rfl, oLe rfl⟩)
    dsimp only [Pt.U, Pt.locs, Pt.cells, Pt.slots] at X1532 l1532 y1532 z1532 st1532 hQ1532 hS1532 hg1532 hC1532
    subst l1532 y1532 z1532
    obtain ⟨rfl, Nq1532, Kq1532, Eq1532, Vq1532, Cq1532, Mq1532, Aq1532⟩ := hQ1532
    have N1533 := Fr.app Nh1442 Nq1532
    have R1535 := R1437.trans hC1532
    have sf1536 := CHr.safe hC1532 f1528.lt sf1438
    have sf1537 := CHr.safe hC1532 Eq1434.lt sf1439
    have sf1538 := CHr.safe hC1532 Aq1434.lt sf1440
    obtain ⟨XR1539, hSR1539, hZ1539, hown1539⟩ := rebS hSR1441 (Nat.le_refl _) X1532 hS1532 hg1532 hZ1441 hown1441
    obtain ⟨Lh1540, Xh1540, Nh1540⟩ := oHd 19 69 XR1539 N1533 rfl rfl
    refine ownSt st1532 ?_
    clear st1532
    show oA p e below _ T1532 (fr_law m p1 p2 p3 62 (vR x21) (vR x31) (vI 1) (vR b365) (vR b365) .unset .unset [(.ref b365)])
    refine oTo T1532 (fr_law m p1 p2 p3 75 (vR x21) (vR x31) (vI 1) (vR b365) (vR b365) .unset .unset [(.ref b365)]) (fun t kt => ?_) ?_
    ·refine XS.astore Xh1540.here hx rfl (D at_62) rfl rfl (l' := #[vI p1, vI p2, vI p3, vR x21, vR x31, vI 1, vR b365, vR b365, .unset, .unset]) rfl ?_
     refine XS.aload Xh1540.here hx rfl (D at_64) rfl rfl ?_
     refine XS.aload Xh1540.here hx rfl (D at_66) rfl rfl ?_
     refine Jvm.RoadKit.acmp (g := (fr_law m p1 p2 p3 68 (vR x21) (vR x31) (vI 1) (vR b365) (vR b365) .unset .unset [(.ref b365), (.ref b365)])) Xh1540 hx rfl rfl rfl (pc0 := 68) (pc' := 73) (same := true) rfl (D at_68) rfl (decide_eq_true rfl) (by decide) (by decide) ?_
     refine XS.aload Xh1540.here hx rfl (D at_73) rfl rfl ?_
     exact kt
    have f1541 := (f1528.keep Kq1532)
    have f1542 := (f1529.keep Kq1532 (ninS ne391 (ninS ne400 nin0)))
    have f1543 := (f1530.keep Kq1532 (allS g392 (allS g401 all0)))
    have f1544 := (Nat.le_trans f1531 Kq1532.1)
    obtain ⟨cq1545, kq1545, q1545a, q1545b, q1545c⟩ := isOf hZ1539 rfl f1541
    obtain ⟨vv1545, _, ⟨T1545, L1545, k1545, n1545⟩, -, X1545, ⟨Lc1545, hQ1545, l1545, y1545, z1545⟩, st1545⟩ := Xh1540.virtualBack hx (y := yM34) (z := yM34) hown1539 (mvT hZ1539 (Wd125 hw)) (mvT hZ1539 (Wd126 hw)) (oNf hZ1539 (Wd128 hw)) (mvT hZ1539 (Wd128 hw)) (mvT hZ1539 (Wd127 hw)) (by decide) (backOf (W := 0) (c_hts l Z a0 hw [] b365 sb382 t382 kv382 (16 : Int32) (oI [60, 47, oL f0, oL f1, oL f2, 62, 60, 47, oL g0, 62, 0, 0, 0, 0, 0, 0]) (10 : Int32) (oI [60, 47, oL f0, oL f1, oL f2, 62, 60, 47, oL g0, 62]) G1 T1532.heap n0 f1544 f1541 f1542 Eq1532 Vq1532 Cq1532 Mq1532 Aq1532 (oCr (by decide +kernel) rfl) O2 P5 f1543) hZ1539 (Wd129 hw) (Wd28 hw) (by decide) (by decide)) q1545a q1545c (g := (fr_law m p1 p2 p3 75 (vR x21) (vR x31) (vI 1) (vR b365) (vR b365) .unset .unset [(.ref b365)])) rfl (by rw [hml]; rfl) (Steps.refl _) (argsL := []) (rest := []) (lenOf pd_32 rfl) rfl (oWt rfl) (D at_75) (fun _ _ => ⟨rfl, rfl, oLe rfl, oLe rfl⟩)
    dsimp only [Pt.U, Pt.locs, Pt.cells, Pt.slots] at X1545 l1545 y1545 z1545 st1545 hQ1545
    subst l1545 y1545 z1545
    obtain ⟨x1545, t1545, kn1545, rfl, Nq1545, Kq1545, zx1545, zq1545, Eq1545, Vq1545, Cq1545, Aq1545⟩ := hQ1545
    have f1547 := ((f1428.keep Kq1434).keep Kq1532)
    have ne1546 : x21 ≠ x1545 := Nat.ne_of_lt (Nat.lt_of_lt_of_le f1547.lt zx1545)
    have f1549 := ((f1431.keep Kq1434 (ninS ne385 (ninS ne397 nin0))).keep Kq1532 (ninS ne385 (ninS ne397 nin0)))
    have ne1548 : t21 ≠ x1545 := Nat.ne_of_lt (Nat.lt_of_lt_of_le f1549.lt zx1545)
    have f1551 := (f1524.keep Kq1532)
    have ne1550 : x31 ≠ x1545 := Nat.ne_of_lt (Nat.lt_of_lt_of_le f1551.lt zx1545)
    have f1553 := (f1527.keep Kq1532 (ninS ne389 (ninS ne399 nin0)))
    have ne1552 : t31 ≠ x1545 := Nat.ne_of_lt (Nat.lt_of_lt_of_le f1553.lt zx1545)
    have ne1554 : b365 ≠ x1545 := Nat.ne_of_lt (Nat.lt_of_lt_of_le f1541.lt zx1545)
    have ne1555 : sb382 ≠ x1545 := Nat.ne_of_lt (Nat.lt_of_lt_of_le Eq1532.lt zx1545)
    have ne1556 : t382 ≠ x1545 := Nat.ne_of_lt (Nat.lt_of_lt_of_le Aq1532.lt zx1545)
    have g1557 : n0 ≤ x1545 := Nat.le_trans f1544 zx1545
    have sf1558 : Safe Z ownEL T1532.vm T1532.heap x1545 := Safe.new zx1545
    have f1560 := (Nat.le_trans (Nat.le_trans (Nat.le_trans f395 Kq382.1) Kq1434.1) Kq1532.1)
    have z1559 : h0.size ≤ x1545 := Nat.le_trans f1560 zx1545
    have ne1561 : x21 ≠ t1545 := Nat.ne_of_lt (Nat.lt_of_lt_of_le f1547.lt zq1545)
    have ne1562 : t21 ≠ t1545 := Nat.ne_of_lt (Nat.lt_of_lt_of_le f1549.lt zq1545)
    have ne1563 : x31 ≠ t1545 := Nat.ne_of_lt (Nat.lt_of_lt_of_le f1551.lt zq1545)
    have ne1564 : t31 ≠ t1545 := Nat.ne_of_lt (Nat.lt_of_lt_of_le f1553.lt zq1545)
    have ne1565 : b365 ≠ t1545 := Nat.ne_of_lt (Nat.lt_of_lt_of_le f1541.lt zq1545)
    have ne1566 : sb382 ≠ t1545 := Nat.ne_of_lt (Nat.lt_of_lt_of_le Eq1532.lt zq1545)
    have ne1567 : t382 ≠ t1545 := Nat.ne_of_lt (Nat.lt_of_lt_of_le Aq1532.lt zq1545)
    have g1568 : n0 ≤ t1545 := Nat.le_trans f1544 zq1545
    have sf1569 : Safe Z ownEL T1532.vm T1532.heap t1545 := Safe.new zq1545
    have z1570 : h0.size ≤ t1545 := Nat.le_trans f1560 zq1545
    have N1571 := Fr.app Nh1540 Nq1545
    have R1572 := R1535.trans (CHr.keep Kq1545 sf0 R1535.1)
    have sf1573 := Safe.keep Kq1545 sf0 R1535.1 sf1536
    have sf1574 := Safe.keep Kq1545 sf0 R1535.1 sf1537
    have sf1575 := Safe.keep Kq1545 sf0 R1535.1 sf1538
    have sf1576 := Safe.keep Kq1545 sf0 R1535.1 sf1558
    have sf1577 := Safe.keep Kq1545 sf0 R1535.1 sf1569
    obtain ⟨Lh1578, Xh1578, Nh1578⟩ := oHd 21 89 X1545 N1571 rfl rfl
    refine ownSt st1545 ?_
    clear st1545
    show oA p e below _ T1545 (fr_law m p1 p2 p3 78 (vR x21) (vR x31) (vI 1) (vR b365) (vR b365) .unset .unset [(.ref x1545)])
    refine oTo T1545 (fr_law m p1 p2 p3 92 (vR x21) (vR x31) (vI 1) (vR b365) (vR b365) (vR x1545) (vI 0) [(.ref x21), (iV 0), (.ref x1545)]) (fun t kt => ?_) ?_
    ·refine XS.astore Xh1578.here hx rfl (D at_78) rfl rfl (l' := #[vI p1, vI p2, vI p3, vR x21, vR x31, vI 1, vR b365, vR b365, vR x1545, .unset]) rfl ?_
     refine XS.iconst Xh1578.here hx rfl (D at_80) ?_
     refine XS.istore Xh1578.here hx rfl (D at_81) rfl (l' := #[vI p1, vI p2, vI p3, vR x21, vR x31, vI 1, vR b365, vR b365, vR x1545, vI 0]) rfl ?_
     refine XS.iload Xh1578.here hx rfl (D at_83) rfl ?_
     refine XS.ifNo Xh1578.here hx rfl (D at_85) rfl ((if0 _ _).trans (feq ((by decide) : ¬ ((1 : Int32) = (0 : Int32)))).1) ?_
     refine XS.aload Xh1578.here hx rfl (D at_88) rfl rfl ?_
     refine XS.iconst Xh1578.here hx rfl (D at_90) ?_
     refine XS.aloadN Xh1578.here hx rfl (D at_91) rfl rfl ?_
     exact kt
    have f1579 := (f1547.keep Kq1545)
    have f1580 := (((f1429.keep Kq1434 (ninS ne383 (ninS ne396 nin0))).keep Kq1532 (ninS ne383 (ninS ne396 nin0))).keep Kq1545 nin0)
    have f1581 := (((f1430.keep Kq1434 (ninS ne383 (ninS ne396 nin0))).keep Kq1532 (ninS ne383 (ninS ne396 nin0))).keep Kq1545 nin0)
    have f1582 := (f1549.keep Kq1545 nin0)
    have f1583 := (f1543.keep Kq1545 all0)
    have f1584 := (Nat.le_trans f1544 Kq1545.1)
    obtain ⟨vv1585, _, ⟨T1585, L1585, k1585, n1585⟩, -, X1585, ⟨Lc1585, hQ1585, l1585, y1585, z1585⟩, st1585⟩ := Jvm.LawKit.callS Xh1578 hx (y := yM35) hown1539 (mvT hZ1539 (Wd171 hw)) (mvT hZ1539 (Wd172 hw)) (mvT hZ1539 (Wd2 hw)) (mvT hZ1539 (Wd173 hw)) (by decide) (backOf (W := 0) (c_clg3 l Z a0 hw [] x1545 t1545 kn1545 (10 : Int32) (oI [60, 47, oL f0, oL f1, oL f2, 62, 60, 47, oL g0, 62]) (0 : Int32) x21 t21 kb21 f0 f1 f2 G1 G3 T1545.heap n0 f1584 Eq1545 Vq1545 Cq1545 Aq1545 f1579 f1580 f1581 f1582 hr_f0 hr_f1 hr_f2 (by decide +kernel) (by decide +kernel) (oCl (by decide +kernel) rfl (by decide +kernel)) (oCl (by decide +kernel) rfl (by decide +kernel)) (oCl (by decide +kernel) rfl hr_f0) (oCl (by decide +kernel) rfl hr_f1) (oCl (by decide +kernel) rfl hr_f2) (oCl (by decide +kernel) rfl (by decide +kernel)) O2 P5 O4 rG3 f1583) hZ1539 (Wd173 hw) (Wd2 hw) (by decide) (by decide)) (g := (fr_law m p1 p2 p3 92 (vR x21) (vR x31) (vI 1) (vR b365) (vR b365) (vR x1545) (vI 0) [(.ref x21), (iV 0), (.ref x1545)])) rfl (by rw [hml]; rfl) (argsL := [(.ref x1545), (iV 0), (.ref x21)]) (rest := []) (lenOf pd_36 rfl) rfl (oWt rfl) (D at_92) (fun _ _ => ⟨rfl, rfl, oLe rfl, oLe rfl⟩)
    dsimp only [Pt.U, Pt.locs, Pt.cells, Pt.slots] at X1585 l1585 y1585 z1585 st1585 hQ1585
    subst l1585 y1585 z1585
    obtain ⟨rfl, Nq1585, Eq1585⟩ := hQ1585
    have N1586 := Fr.app Nh1578 Nq1585
    obtain ⟨Lh1587, Xh1587, Nh1587⟩ := oHd 21 89 X1585 N1586 rfl rfl
    refine ownBy st1585 ?_
    clear st1585
    show oA p e below _ T1585 (fr_law m p1 p2 p3 95 (vR x21) (vR x31) (vI 1) (vR b365) (vR b365) (vR x1545) (vI 0) [(iV 1)])
    refine oTo T1585 (fr_law m p1 p2 p3 101 (vR x21) (vR x31) (vI 1) (vR b365) (vR b365) (vR x1545) (vI 0) [(.ref x21)]) (fun t kt => ?_) ?_
    ·refine XS.ifYes Xh1587.here hx rfl (pc0 := 95) (pc' := 100) rfl (D at_95) rfl ((if0 _ _).trans (feq ((by decide) : ¬ ((1 : Int32) = (0 : Int32)))).2) (by decide) (by decide) ?_
     refine XS.aloadN Xh1587.here hx rfl (D at_100) rfl rfl ?_
     exact kt
    obtain ⟨cq1588, kq1588, q1588a, q1588b, q1588c⟩ := isOf hZ1539 Eq1585 f1579
    obtain ⟨vv1588, _, ⟨T1588, L1588, k1588, n1588⟩, -, X1588, ⟨Lc1588, hQ1588, l1588, y1588, z1588⟩, st1588⟩ := Xh1587.virtualBack hx (y := yM4) (z := yM4) hown1539 (mvT hZ1539 (Wd174 hw)) (mvT hZ1539 (Wd70 hw)) (oNf hZ1539 (Wd72 hw)) (mvT hZ1539 (Wd72 hw)) (mvT hZ1539 (Wd71 hw)) (by decide) (backOf (W := 0) (c_leng l Z a0 hw [] x21 t21 kb21 (3 : Int32) (oI [oL f0, oL f1, oL f2]) G1 T1545.heap n0 f1584 f1579 f1580 f1581 f1582 (by decide +kernel) O2 P5 f1583) hZ1539 (Wd73 hw) (Wd6 hw) (by decide) (by decide)) q1588a q1588c (g := (fr_law m p1 p2 p3 101 (vR x21) (vR x31) (vI 1) (vR b365) (vR b365) (vR x1545) (vI 0) [(.ref x21)])) rfl (by rw [hml]; rfl) (Steps.refl _) (argsL := []) (rest := []) (lenOf pd_15 rfl) rfl (oWt rfl) (D at_101) (fun _ _ => ⟨rfl, Eq1585, oLe rfl, oLe rfl⟩)
    dsimp only [Pt.U, Pt.locs, Pt.cells, Pt.slots] at X1588 l1588 y1588 z1588 st1588 hQ1588
    subst l1588 y1588 z1588
    obtain ⟨rfl, Nq1588, Eq1588⟩ := hQ1588
    have N1589 := Fr.app Nh1587 Nq1588
    obtain ⟨Lh1590, Xh1590, Nh1590⟩ := oHd 21 89 X1588 N1589 rfl rfl
    refine ownSt st1588 ?_
    clear st1588
    show oA p e below _ T1588 (fr_law m p1 p2 p3 104 (vR x21) (vR x31) (vI 1) (vR b365) (vR b365) (vR x1545) (vI 0) [(iV 3)])
    refine oTo T1588 (fr_law m p1 p2 p3 114 (vR x21) (vR x31) (vI 1) (vR b365) (vR b365) (vR x1545) (vI 6) [(.ref x31), (iV 6), (.ref x1545)]) (fun t kt => ?_) ?_
    ·refine XS.iconst Xh1590.here hx rfl (D at_104) ?_
     refine XS.iadd Xh1590.here hx rfl (D at_105) rfl ?_
     refine XS.istore Xh1590.here hx rfl (D at_106) rfl (l' := #[vI p1, vI p2, vI p3, vR x21, vR x31, vI 1, vR b365, vR b365, vR x1545, vI 6]) rfl ?_
     refine XS.aload Xh1590.here hx rfl (D at_108) rfl rfl ?_
     refine XS.iload Xh1590.here hx rfl (D at_110) rfl ?_
     refine XS.aload Xh1590.here hx rfl (D at_112) rfl rfl ?_
     exact kt
    have f1591 := (f1551.keep Kq1545)
    have f1592 := ((f1525.keep Kq1532 (ninS ne387 (ninS ne398 nin0))).keep Kq1545 nin0)
    have f1593 := ((f1526.keep Kq1532 (ninS ne387 (ninS ne398 nin0))).keep Kq1545 nin0)
    have f1594 := (f1553.keep Kq1545 nin0)
    obtain ⟨vv1595, _, ⟨T1595, L1595, k1595, n1595⟩, -, X1595, ⟨Lc1595, hQ1595, l1595, y1595, z1595⟩, st1595⟩ := Jvm.LawKit.callS Xh1590 hx (y := yM35) hown1539 (mvT hZ1539 (Wd171 hw)) (mvT hZ1539 (Wd172 hw)) (mvT hZ1539 (Wd2 hw)) (mvT hZ1539 (Wd173 hw)) (by decide) (backOf (W := 0) (c_clg1 l Z a0 hw [] x1545 t1545 kn1545 (10 : Int32) (oI [60, 47, oL f0, oL f1, oL f2, 62, 60, 47, oL g0, 62]) (6 : Int32) x31 t31 kb31 g0 G1 G3 T1545.heap n0 f1584 Eq1545 Vq1545 Cq1545 Aq1545 f1591 f1592 f1593 f1594 hr_g0 (by decide +kernel) (by decide +kernel) (oCl (by decide +kernel) rfl (by decide +kernel)) (oCl (by decide +kernel) rfl (by decide +kernel)) (oCl (by decide +kernel) rfl hr_g0) (oCl (by decide +kernel) rfl (by decide +kernel)) O2 P5 O4 rG3 f1583) hZ1539 (Wd173 hw) (Wd2 hw) (by decide) (by decide)) (g := (fr_law m p1 p2 p3 114 (vR x21) (vR x31) (vI 1) (vR b365) (vR b365) (vR x1545) (vI 6) [(.ref x31), (iV 6), (.ref x1545)])) rfl (by rw [hml]; rfl) (argsL := [(.ref x1545), (iV 6), (.ref x31)]) (rest := []) (lenOf pd_36 rfl) rfl (oWt rfl) (D at_114) (fun _ _ => ⟨rfl, Eq1588, oLe rfl, oLe rfl⟩)
    dsimp only [Pt.U, Pt.locs, Pt.cells, Pt.slots] at X1595 l1595 y1595 z1595 st1595 hQ1595
    subst l1595 y1595 z1595
    obtain ⟨rfl, Nq1595, Eq1595⟩ := hQ1595
    have N1596 := Fr.app Nh1590 Nq1595
    obtain ⟨Lh1597, Xh1597, Nh1597⟩ := oHd 21 89 X1595 N1596 rfl rfl
    refine ownBy st1595 ?_
    clear st1595
    show oA p e below _ T1595 (fr_law m p1 p2 p3 117 (vR x21) (vR x31) (vI 1) (vR b365) (vR b365) (vR x1545) (vI 6) [(iV 1)])
    refine oTo T1595 (fr_law m p1 p2 p3 124 (vR x21) (vR x31) (vI 1) (vR b365) (vR b365) (vR x1545) (vI 6) [(.ref x1545)]) (fun t kt => ?_) ?_
    ·refine XS.ifYes Xh1597.here hx rfl (pc0 := 117) (pc' := 122) rfl (D at_117) rfl ((if0 _ _).trans (feq ((by decide) : ¬ ((1 : Int32) = (0 : Int32)))).2) (by decide) (by decide) ?_
     refine XS.aload Xh1597.here hx rfl (D at_122) rfl rfl ?_
     exact kt
    obtain ⟨cq1598, kq1598, q1598a, q1598b, q1598c⟩ := isOf hZ1539 Eq1595 Eq1545
    obtain ⟨vv1598, _, ⟨T1598, L1598, k1598, n1598⟩, -, X1598, ⟨Lc1598, hQ1598, l1598, y1598, z1598⟩, st1598⟩ := Xh1597.virtualBack hx (y := yM4) (z := yM4) hown1539 (mvT hZ1539 (Wd174 hw)) (mvT hZ1539 (Wd70 hw)) (oNf hZ1539 (Wd72 hw)) (mvT hZ1539 (Wd72 hw)) (mvT hZ1539 (Wd71 hw)) (by decide) (backOf (W := 0) (c_leng l Z a0 hw [] x1545 t1545 kn1545 (10 : Int32) (oI [60, 47, oL f0, oL f1, oL f2, 62, 60, 47, oL g0, 62]) G1 T1545.heap n0 f1584 Eq1545 Vq1545 Cq1545 Aq1545 (by decide +kernel) O2 P5 f1583) hZ1539 (Wd73 hw) (Wd6 hw) (by decide) (by decide)) q1598a q1598c (g := (fr_law m p1 p2 p3 124 (vR x21) (vR x31) (vI 1) (vR b365) (vR b365) (vR x1545) (vI 6) [(.ref x1545)])) rfl (by rw [hml]; rfl) (Steps.refl _) (argsL := []) (rest := []) (lenOf pd_15 rfl) rfl (oWt rfl) (D at_124) (fun _ _ => ⟨rfl, Eq1595, oLe rfl, oLe rfl⟩)
    dsimp only [Pt.U, Pt.locs, Pt.cells, Pt.slots] at X1598 l1598 y1598 z1598 st1598 hQ1598
    subst l1598 y1598 z1598
    obtain ⟨rfl, Nq1598, Eq1598⟩ := hQ1598
    have N1599 := Fr.app Nh1597 Nq1598
    obtain ⟨Lh1600, Xh1600, Nh1600⟩ := oHd 21 89 X1598 N1599 rfl rfl
    refine ownSt st1598 ?_
    clear st1598
    show oA p e below _ T1598 (fr_law m p1 p2 p3 127 (vR x21) (vR x31) (vI 1) (vR b365) (vR b365) (vR x1545) (vI 6) [(iV 10)])
    refine oTo T1598 (fr_law m p1 p2 p3 131 (vR x21) (vR x31) (vI 1) (vR b365) (vR b365) (vR x1545) (vI 6) [(.ref x31), (iV 6), (iV 10)]) (fun t kt => ?_) ?_
    ·refine XS.iload Xh1600.here hx rfl (D at_127) rfl ?_
     refine XS.aload Xh1600.here hx rfl (D at_129) rfl rfl ?_
     exact kt
    obtain ⟨cq1601, kq1601, q1601a, q1601b, q1601c⟩ := isOf hZ1539 Eq1598 f1591
    obtain ⟨vv1601, _, ⟨T1601, L1601, k1601, n1601⟩, -, X1601, ⟨Lc1601, hQ1601, l1601, y1601, z1601⟩, st1601⟩ := Xh1600.virtualBack hx (y := yM4) (z := yM4) hown1539 (mvT hZ1539 (Wd174 hw)) (mvT hZ1539 (Wd70 hw)) (oNf hZ1539 (Wd72 hw)) (mvT hZ1539 (Wd72 hw)) (mvT hZ1539 (Wd71 hw)) (by decide) (backOf (W := 2) (c_leng l Z a0 hw [] x31 t31 kb31 (1 : Int32) (oI [oL g0]) G1 T1545.heap n0 f1584 f1591 f1592 f1593 f1594 (by decide +kernel) O2 P5 f1583) hZ1539 (Wd73 hw) (Wd6 hw) (by decide) (by decide)) q1601a q1601c (g := (fr_law m p1 p2 p3 131 (vR x21) (vR x31) (vI 1) (vR b365) (vR b365) (vR x1545) (vI 6) [(.ref x31), (iV 6), (iV 10)])) rfl (by rw [hml]; rfl) (Steps.refl _) (argsL := []) (rest := [(iV 6), (iV 10)]) (lenOf pd_15 rfl) rfl (oWt rfl) (D at_131) (fun _ _ => ⟨rfl, Eq1598, oLe rfl, oLe rfl⟩)
    dsimp only [Pt.U, Pt.locs, Pt.cells, Pt.slots] at X1601 l1601 y1601 z1601 st1601 hQ1601
    subst l1601 y1601 z1601
    obtain ⟨rfl, Nq1601, Eq1601⟩ := hQ1601
    have N1602 := Fr.app Nh1600 Nq1601
    obtain ⟨Lh1603, Xh1603, Nh1603⟩ := oHd 21 89 X1601 N1602 rfl rfl
    refine ownSt st1601 ?_
    clear st1601
    show oA p e below _ T1601 (fr_law m p1 p2 p3 134 (vR x21) (vR x31) (vI 1) (vR b365) (vR b365) (vR x1545) (vI 6) [(iV 1), (iV 6), (iV 10)])
    refine oTo T1601 (fr_law m p1 p2 p3 145 (vR x21) (vR x31) (vI 1) (vR b365) (vR b365) (vR x1545) (vI 6) [(iV 1)]) (fun t kt => ?_) ?_
    ·refine XS.iadd Xh1603.here hx rfl (D at_134) rfl ?_
     refine XS.iconst Xh1603.here hx rfl (D at_135) ?_
     refine XS.iadd Xh1603.here hx rfl (D at_136) rfl ?_
     refine XS.icmpNo Xh1603.here hx rfl (D at_137) rfl (teq ((by decide) : (10 : Int32) = (10 : Int32))).2 ?_
     refine XS.iconst Xh1603.here hx rfl (D at_140) ?_
     refine XS.goto Xh1603.here hx rfl (pc0 := 141) (pc' := 145) rfl (D at_141) (by decide) (by decide) ?_
     exact kt
    refine ownRetH Xh1603 hSR1539 (by rw [Eq1601]; exact (Nat.le_trans (Nat.le_refl _) Kq1545.1)) Bd.notSynchronized (v := some (.int (nar .boolean (1 : Int32)))) (fun h => by rw [Bd.returns] at h; cases h) ?_ (R1572.trans ((by rw [Eq1601]; exact CHv.at Xh1603 hZ1539 hEL R1572.1))) (oLe rfl) (oLe rfl) (fun fs hr => retN Xh1603 hx (t := .boolean) Bd.returns (by simp) (D at_145) hr)
    show (Q_law Z p1 p2 p3 G1 G3 h0 n0) (some (.int (nar .boolean (1 : Int32)))) T1601.heap _
    rw [Eq1601]
    exact ⟨rfl, Nh1603⟩
   ·skip
    refine oTo T1434 (fr_law m p1 p2 p3 59 (vR x21) (vR x31) (vI 1) (vR b365) (vR b365) .unset .unset [(.ref x31), (.ref b365)]) (fun t kt => ?_) ?_
    ·refine XS.aload Xh1442.here hx rfl (D at_55) rfl rfl ?_
     refine XS.aload Xh1442.here hx rfl (D at_57) rfl rfl ?_
     exact kt
    have f1605 := ((f388.keep Kq382).keep Kq1434)
    have f1606 := (((Vq31.ext E365).keep Kq382 (ninS ne370 nin0)).keep Kq1434 (ninS ne387 (ninS ne398 nin0)))
    have f1607 := (((Cq31.ext E365).keep Kq382 (ninS ne370 nin0)).keep Kq1434 (ninS ne387 (ninS ne398 nin0)))
    have f1608 := ((f390.keep Kq382 (ninS ne371 nin0)).keep Kq1434 (ninS ne389 (ninS ne399 nin0)))
    have f1609 := (Eh382.keep Kq1434)
    have f1610 := (Fh382.keep Kq1434 (ninS ne391 (ninS ne400 nin0)))
    have f1611 := (f1432.keep Kq1434 (allS g392 (allS g401 all0)))
    have f1612 := (Nat.le_trans f1433 Kq1434.1)
    obtain ⟨cq1613, kq1613, q1613a, q1613b, q1613c⟩ := isOf hZ1441 rfl f1609
    obtain ⟨vv1613, _, ⟨T1613, L1613, k1613, n1613⟩, -, X1613, hS1613, hg1613, ⟨Lc1613, hQ1613, l1613, y1613, z1613, hC1613⟩, st1613⟩ := Xh1442.virtualBackS hx (y := yM33) (z := yM33) hown1441 (mvT hZ1441 (Wd53 hw)) (mvT hZ1441 (Wd54 hw)) (oNf hZ1441 (Wd56 hw)) (mvT hZ1441 (Wd56 hw)) (mvT hZ1441 (Wd55 hw)) (by decide) (backOfSH (W := 0) (s := s) (EL := ownEL) (c_hcl l Z a0 hw [] b365 x31 t31 kb31 (2 : Int32) (oI [oL g0, oL g1]) sb382 t382 kv382 (16 : Int32) (oI [60, 47, oL f0, oL f1, oL f2, 62, 0, 0, 0, 0, 0, 0, 0, 0, 0, 0]) (6 : Int32) (oI [60, 47, oL f0, oL f1, oL f2, 62, 60, 47, 0, 0, 0, 0, 0, 0, 0, 0]) (oI [60, 47, oL f0, oL f1, oL f2, 62, 60, 47, oL g0, oL g1, 0, 0, 0, 0, 0, 0]) (oI [60, 47, oL f0, oL f1, oL f2, 62, 60, 47, oL g0, oL g1, 62, 0, 0, 0, 0, 0]) (8 : Int32) (10 : Int32) (11 : Int32) G1 T1434.heap n0 f1612 f1609 f1610 f1605 f1606 f1607 f1608 Eq1434 Vq1434 Cq1434 Mq1434 Aq1434 g392 g401 ne399 (by decide +kernel) (oCp (by decide +kernel) rfl rfl rfl) (oCp (by decide +kernel) rfl rfl rfl) (oCq (by decide +kernel) rfl rfl) O2 P5 f1611) hZ1441 (Wd57 hw) (Wd28 hw) (by decide) (by decide) hEL R1437.1) q1613a q1613c (g := (fr_law m p1 p2 p3 59 (vR x21) (vR x31) (vI 1) (vR b365) (vR b365) .unset .unset [(.ref x31), (.ref b365)])) rfl (by rw [hml]; rfl) (Steps.refl _) (argsL := [(.ref x31)]) (rest := []) (lenOf pd_35 rfl) rfl (oWt rfl) (D at_59) (fun _ _ => ⟨rfl, rfl, oLe rfl, oLe rfl⟩)
    dsimp only [Pt.U, Pt.locs, Pt.cells, Pt.slots] at X1613 l1613 y1613 z1613 st1613 hQ1613 hS1613 hg1613 hC1613
    subst l1613 y1613 z1613
    obtain ⟨rfl, Nq1613, Kq1613, Eq1613, Vq1613, Cq1613, Mq1613, Aq1613⟩ := hQ1613
    have N1614 := Fr.app Nh1442 Nq1613
    have R1616 := R1437.trans hC1613
    have sf1617 := CHr.safe hC1613 f1609.lt sf1438
    have sf1618 := CHr.safe hC1613 Eq1434.lt sf1439
    have sf1619 := CHr.safe hC1613 Aq1434.lt sf1440
    obtain ⟨XR1620, hSR1620, hZ1620, hown1620⟩ := rebS hSR1441 (Nat.le_refl _) X1613 hS1613 hg1613 hZ1441 hown1441
    obtain ⟨Lh1621, Xh1621, Nh1621⟩ := oHd 19 69 XR1620 N1614 rfl rfl
    refine ownSt st1613 ?_
    clear st1613
    show oA p e below _ T1613 (fr_law m p1 p2 p3 62 (vR x21) (vR x31) (vI 1) (vR b365) (vR b365) .unset .unset [(.ref b365)])
    refine oTo T1613 (fr_law m p1 p2 p3 75 (vR x21) (vR x31) (vI 1) (vR b365) (vR b365) .unset .unset [(.ref b365)]) (fun t kt => ?_) ?_
    ·refine XS.astore Xh1621.here hx rfl (D at_62) rfl rfl (l' := #[vI p1, vI p2, vI p3, vR x21, vR x31, vI 1, vR b365, vR b365, .unset, .unset]) rfl ?_
     refine XS.aload Xh1621.here hx rfl (D at_64) rfl rfl ?_
     refine XS.aload Xh1621.here hx rfl (D at_66) rfl rfl ?_
     refine Jvm.RoadKit.acmp (g := (fr_law m p1 p2 p3 68 (vR x21) (vR x31) (vI 1) (vR b365) (vR b365) .unset .unset [(.ref b365), (.ref b365)])) Xh1621 hx rfl rfl rfl (pc0 := 68) (pc' := 73) (same := true) rfl (D at_68) rfl (decide_eq_true rfl) (by decide) (by decide) ?_
     refine XS.aload Xh1621.here hx rfl (D at_73) rfl rfl ?_
     exact kt
    have f1622 := (f1609.keep Kq1613)
    have f1623 := (f1610.keep Kq1613 (ninS ne391 (ninS ne400 nin0)))
    have f1624 := (f1611.keep Kq1613 (allS g392 (allS g401 all0)))
    have f1625 := (Nat.le_trans f1612 Kq1613.1)
    obtain ⟨cq1626, kq1626, q1626a, q1626b, q1626c⟩ := isOf hZ1620 rfl f1622
    obtain ⟨vv1626, _, ⟨T1626, L1626, k1626, n1626⟩, -, X1626, ⟨Lc1626, hQ1626, l1626, y1626, z1626⟩, st1626⟩ := Xh1621.virtualBack hx (y := yM34) (z := yM34) hown1620 (mvT hZ1620 (Wd125 hw)) (mvT hZ1620 (Wd126 hw)) (oNf hZ1620 (Wd128 hw)) (mvT hZ1620 (Wd128 hw)) (mvT hZ1620 (Wd127 hw)) (by decide) (backOf (W := 0) (c_hts l Z a0 hw [] b365 sb382 t382 kv382 (16 : Int32) (oI [60, 47, oL f0, oL f1, oL f2, 62, 60, 47, oL g0, oL g1, 62, 0, 0, 0, 0, 0]) (11 : Int32) (oI [60, 47, oL f0, oL f1, oL f2, 62, 60, 47, oL g0, oL g1, 62]) G1 T1613.heap n0 f1625 f1622 f1623 Eq1613 Vq1613 Cq1613 Mq1613 Aq1613 (oCr (by decide +kernel) rfl) O2 P5 f1624) hZ1620 (Wd129 hw) (Wd28 hw) (by decide) (by decide)) q1626a q1626c (g := (fr_law m p1 p2 p3 75 (vR x21) (vR x31) (vI 1) (vR b365) (vR b365) .unset .unset [(.ref b365)])) rfl (by rw [hml]; rfl) (Steps.refl _) (argsL := []) (rest := []) (lenOf pd_32 rfl) rfl (oWt rfl) (D at_75) (fun _ _ => ⟨rfl, rfl, oLe rfl, oLe rfl⟩)
    dsimp only [Pt.U, Pt.locs, Pt.cells, Pt.slots] at X1626 l1626 y1626 z1626 st1626 hQ1626
    subst l1626 y1626 z1626
    obtain ⟨x1626, t1626, kn1626, rfl, Nq1626, Kq1626, zx1626, zq1626, Eq1626, Vq1626, Cq1626, Aq1626⟩ := hQ1626
    have f1628 := ((f1428.keep Kq1434).keep Kq1613)
    have ne1627 : x21 ≠ x1626 := Nat.ne_of_lt (Nat.lt_of_lt_of_le f1628.lt zx1626)
    have f1630 := ((f1431.keep Kq1434 (ninS ne385 (ninS ne397 nin0))).keep Kq1613 (ninS ne385 (ninS ne397 nin0)))
    have ne1629 : t21 ≠ x1626 := Nat.ne_of_lt (Nat.lt_of_lt_of_le f1630.lt zx1626)
    have f1632 := (f1605.keep Kq1613)
    have ne1631 : x31 ≠ x1626 := Nat.ne_of_lt (Nat.lt_of_lt_of_le f1632.lt zx1626)
    have f1634 := (f1608.keep Kq1613 (ninS ne389 (ninS ne399 nin0)))
    have ne1633 : t31 ≠ x1626 := Nat.ne_of_lt (Nat.lt_of_lt_of_le f1634.lt zx1626)
    have ne1635 : b365 ≠ x1626 := Nat.ne_of_lt (Nat.lt_of_lt_of_le f1622.lt zx1626)
    have ne1636 : sb382 ≠ x1626 := Nat.ne_of_lt (Nat.lt_of_lt_of_le Eq1613.lt zx1626)
    have ne1637 : t382 ≠ x1626 := Nat.ne_of_lt (Nat.lt_of_lt_of_le Aq1613.lt zx1626)
    have g1638 : n0 ≤ x1626 := Nat.le_trans f1625 zx1626
    have sf1639 : Safe Z ownEL T1613.vm T1613.heap x1626 := Safe.new zx1626
    have f1641 := (Nat.le_trans (Nat.le_trans (Nat.le_trans f395 Kq382.1) Kq1434.1) Kq1613.1)
    have z1640 : h0.size ≤ x1626 := Nat.le_trans f1641 zx1626
    have ne1642 : x21 ≠ t1626 := Nat.ne_of_lt (Nat.lt_of_lt_of_le f1628.lt zq1626)
    have ne1643 : t21 ≠ t1626 := Nat.ne_of_lt (Nat.lt_of_lt_of_le f1630.lt zq1626)
    have ne1644 : x31 ≠ t1626 := Nat.ne_of_lt (Nat.lt_of_lt_of_le f1632.lt zq1626)
    have ne1645 : t31 ≠ t1626 := Nat.ne_of_lt (Nat.lt_of_lt_of_le f1634.lt zq1626)
    have ne1646 : b365 ≠ t1626 := Nat.ne_of_lt (Nat.lt_of_lt_of_le f1622.lt zq1626)
    have ne1647 : sb382 ≠ t1626 := Nat.ne_of_lt (Nat.lt_of_lt_of_le Eq1613.lt zq1626)
    have ne1648 : t382 ≠ t1626 := Nat.ne_of_lt (Nat.lt_of_lt_of_le Aq1613.lt zq1626)
    have g1649 : n0 ≤ t1626 := Nat.le_trans f1625 zq1626
    have sf1650 : Safe Z ownEL T1613.vm T1613.heap t1626 := Safe.new zq1626
    have z1651 : h0.size ≤ t1626 := Nat.le_trans f1641 zq1626
    have N1652 := Fr.app Nh1621 Nq1626
    have R1653 := R1616.trans (CHr.keep Kq1626 sf0 R1616.1)
    have sf1654 := Safe.keep Kq1626 sf0 R1616.1 sf1617
    have sf1655 := Safe.keep Kq1626 sf0 R1616.1 sf1618
    have sf1656 := Safe.keep Kq1626 sf0 R1616.1 sf1619
    have sf1657 := Safe.keep Kq1626 sf0 R1616.1 sf1639
    have sf1658 := Safe.keep Kq1626 sf0 R1616.1 sf1650
    obtain ⟨Lh1659, Xh1659, Nh1659⟩ := oHd 21 89 X1626 N1652 rfl rfl
    refine ownSt st1626 ?_
    clear st1626
    show oA p e below _ T1626 (fr_law m p1 p2 p3 78 (vR x21) (vR x31) (vI 1) (vR b365) (vR b365) .unset .unset [(.ref x1626)])
    refine oTo T1626 (fr_law m p1 p2 p3 92 (vR x21) (vR x31) (vI 1) (vR b365) (vR b365) (vR x1626) (vI 0) [(.ref x21), (iV 0), (.ref x1626)]) (fun t kt => ?_) ?_
    ·refine XS.astore Xh1659.here hx rfl (D at_78) rfl rfl (l' := #[vI p1, vI p2, vI p3, vR x21, vR x31, vI 1, vR b365, vR b365, vR x1626, .unset]) rfl ?_
     refine XS.iconst Xh1659.here hx rfl (D at_80) ?_
     refine XS.istore Xh1659.here hx rfl (D at_81) rfl (l' := #[vI p1, vI p2, vI p3, vR x21, vR x31, vI 1, vR b365, vR b365, vR x1626, vI 0]) rfl ?_
     refine XS.iload Xh1659.here hx rfl (D at_83) rfl ?_
     refine XS.ifNo Xh1659.here hx rfl (D at_85) rfl ((if0 _ _).trans (feq ((by decide) : ¬ ((1 : Int32) = (0 : Int32)))).1) ?_
     refine XS.aload Xh1659.here hx rfl (D at_88) rfl rfl ?_
     refine XS.iconst Xh1659.here hx rfl (D at_90) ?_
     refine XS.aloadN Xh1659.here hx rfl (D at_91) rfl rfl ?_
     exact kt
    have f1660 := (f1628.keep Kq1626)
    have f1661 := (((f1429.keep Kq1434 (ninS ne383 (ninS ne396 nin0))).keep Kq1613 (ninS ne383 (ninS ne396 nin0))).keep Kq1626 nin0)
    have f1662 := (((f1430.keep Kq1434 (ninS ne383 (ninS ne396 nin0))).keep Kq1613 (ninS ne383 (ninS ne396 nin0))).keep Kq1626 nin0)
    have f1663 := (f1630.keep Kq1626 nin0)
    have f1664 := (f1624.keep Kq1626 all0)
    have f1665 := (Nat.le_trans f1625 Kq1626.1)
    obtain ⟨vv1666, _, ⟨T1666, L1666, k1666, n1666⟩, -, X1666, ⟨Lc1666, hQ1666, l1666, y1666, z1666⟩, st1666⟩ := Jvm.LawKit.callS Xh1659 hx (y := yM35) hown1620 (mvT hZ1620 (Wd171 hw)) (mvT hZ1620 (Wd172 hw)) (mvT hZ1620 (Wd2 hw)) (mvT hZ1620 (Wd173 hw)) (by decide) (backOf (W := 0) (c_clg3 l Z a0 hw [] x1626 t1626 kn1626 (11 : Int32) (oI [60, 47, oL f0, oL f1, oL f2, 62, 60, 47, oL g0, oL g1, 62]) (0 : Int32) x21 t21 kb21 f0 f1 f2 G1 G3 T1626.heap n0 f1665 Eq1626 Vq1626 Cq1626 Aq1626 f1660 f1661 f1662 f1663 hr_f0 hr_f1 hr_f2 (by decide +kernel) (by decide +kernel) (oCl (by decide +kernel) rfl (by decide +kernel)) (oCl (by decide +kernel) rfl (by decide +kernel)) (oCl (by decide +kernel) rfl hr_f0) (oCl (by decide +kernel) rfl hr_f1) (oCl (by decide +kernel) rfl hr_f2) (oCl (by decide +kernel) rfl (by decide +kernel)) O2 P5 O4 rG3 f1664) hZ1620 (Wd173 hw) (Wd2 hw) (by decide) (by decide)) (g := (fr_law m p1 p2 p3 92 (vR x21) (vR x31) (vI 1) (vR b365) (vR b365) (vR x1626) (vI 0) [(.ref x21), (iV 0), (.ref x1626)])) rfl (by rw [hml]; rfl) (argsL := [(.ref x1626), (iV 0), (.ref x21)]) (rest := []) (lenOf pd_36 rfl) rfl (oWt rfl) (D at_92) (fun _ _ => ⟨rfl, rfl, oLe rfl, oLe rfl⟩)
    dsimp only [Pt.U, Pt.locs, Pt.cells, Pt.slots] at X1666 l1666 y1666 z1666 st1666 hQ1666
    subst l1666 y1666 z1666
    obtain ⟨rfl, Nq1666, Eq1666⟩ := hQ1666
    have N1667 := Fr.app Nh1659 Nq1666
    obtain ⟨Lh1668, Xh1668, Nh1668⟩ := oHd 21 89 X1666 N1667 rfl rfl
    refine ownBy st1666 ?_
    clear st1666
    show oA p e below _ T1666 (fr_law m p1 p2 p3 95 (vR x21) (vR x31) (vI 1) (vR b365) (vR b365) (vR x1626) (vI 0) [(iV 1)])
    refine oTo T1666 (fr_law m p1 p2 p3 101 (vR x21) (vR x31) (vI 1) (vR b365) (vR b365) (vR x1626) (vI 0) [(.ref x21)]) (fun t kt => ?_) ?_
    ·refine XS.ifYes Xh1668.here hx rfl (pc0 := 95) (pc' := 100) rfl (D at_95) rfl ((if0 _ _).trans (feq ((by decide) : ¬ ((1 : Int32) = (0 : Int32)))).2) (by decide) (by decide) ?_
     refine XS.aloadN Xh1668.here hx rfl (D at_100) rfl rfl ?_
     exact kt
    obtain ⟨cq1669, kq1669, q1669a, q1669b, q1669c⟩ := isOf hZ1620 Eq1666 f1660
    obtain ⟨vv1669, _, ⟨T1669, L1669, k1669, n1669⟩, -, X1669, ⟨Lc1669, hQ1669, l1669, y1669, z1669⟩, st1669⟩ := Xh1668.virtualBack hx (y := yM4) (z := yM4) hown1620 (mvT hZ1620 (Wd174 hw)) (mvT hZ1620 (Wd70 hw)) (oNf hZ1620 (Wd72 hw)) (mvT hZ1620 (Wd72 hw)) (mvT hZ1620 (Wd71 hw)) (by decide) (backOf (W := 0) (c_leng l Z a0 hw [] x21 t21 kb21 (3 : Int32) (oI [oL f0, oL f1, oL f2]) G1 T1626.heap n0 f1665 f1660 f1661 f1662 f1663 (by decide +kernel) O2 P5 f1664) hZ1620 (Wd73 hw) (Wd6 hw) (by decide) (by decide)) q1669a q1669c (g := (fr_law m p1 p2 p3 101 (vR x21) (vR x31) (vI 1) (vR b365) (vR b365) (vR x1626) (vI 0) [(.ref x21)])) rfl (by rw [hml]; rfl) (Steps.refl _) (argsL := []) (rest := []) (lenOf pd_15 rfl) rfl (oWt rfl) (D at_101) (fun _ _ => ⟨rfl, Eq1666, oLe rfl, oLe rfl⟩)
    dsimp only [Pt.U, Pt.locs, Pt.cells, Pt.slots] at X1669 l1669 y1669 z1669 st1669 hQ1669
    subst l1669 y1669 z1669
    obtain ⟨rfl, Nq1669, Eq1669⟩ := hQ1669
    have N1670 := Fr.app Nh1668 Nq1669
    obtain ⟨Lh1671, Xh1671, Nh1671⟩ := oHd 21 89 X1669 N1670 rfl rfl
    refine ownSt st1669 ?_
    clear st1669
    show oA p e below _ T1669 (fr_law m p1 p2 p3 104 (vR x21) (vR x31) (vI 1) (vR b365) (vR b365) (vR x1626) (vI 0) [(iV 3)])
    refine oTo T1669 (fr_law m p1 p2 p3 114 (vR x21) (vR x31) (vI 1) (vR b365) (vR b365) (vR x1626) (vI 6) [(.ref x31), (iV 6), (.ref x1626)]) (fun t kt => ?_) ?_
    ·refine XS.iconst Xh1671.here hx rfl (D at_104) ?_
     refine XS.iadd Xh1671.here hx rfl (D at_105) rfl ?_
     refine XS.istore Xh1671.here hx rfl (D at_106) rfl (l' := #[vI p1, vI p2, vI p3, vR x21, vR x31, vI 1, vR b365, vR b365, vR x1626, vI 6]) rfl ?_
     refine XS.aload Xh1671.here hx rfl (D at_108) rfl rfl ?_
     refine XS.iload Xh1671.here hx rfl (D at_110) rfl ?_
     refine XS.aload Xh1671.here hx rfl (D at_112) rfl rfl ?_
     exact kt
    have f1672 := (f1632.keep Kq1626)
    have f1673 := ((f1606.keep Kq1613 (ninS ne387 (ninS ne398 nin0))).keep Kq1626 nin0)
    have f1674 := ((f1607.keep Kq1613 (ninS ne387 (ninS ne398 nin0))).keep Kq1626 nin0)
    have f1675 := (f1634.keep Kq1626 nin0)
    obtain ⟨vv1676, _, ⟨T1676, L1676, k1676, n1676⟩, -, X1676, ⟨Lc1676, hQ1676, l1676, y1676, z1676⟩, st1676⟩ := Jvm.LawKit.callS Xh1671 hx (y := yM35) hown1620 (mvT hZ1620 (Wd171 hw)) (mvT hZ1620 (Wd172 hw)) (mvT hZ1620 (Wd2 hw)) (mvT hZ1620 (Wd173 hw)) (by decide) (backOf (W := 0) (c_clg2 l Z a0 hw [] x1626 t1626 kn1626 (11 : Int32) (oI [60, 47, oL f0, oL f1, oL f2, 62, 60, 47, oL g0, oL g1, 62]) (6 : Int32) x31 t31 kb31 g0 g1 G1 G3 T1626.heap n0 f1665 Eq1626 Vq1626 Cq1626 Aq1626 f1672 f1673 f1674 f1675 hr_g0 hr_g1 (by decide +kernel) (by decide +kernel) (oCl (by decide +kernel) rfl (by decide +kernel)) (oCl (by decide +kernel) rfl (by decide +kernel)) (oCl (by decide +kernel) rfl hr_g0) (oCl (by decide +kernel) rfl hr_g1) (oCl (by decide +kernel) rfl (by decide +kernel)) O2 P5 O4 rG3 f1664) hZ1620 (Wd173 hw) (Wd2 hw) (by decide) (by decide)) (g := (fr_law m p1 p2 p3 114 (vR x21) (vR x31) (vI 1) (vR b365) (vR b365) (vR x1626) (vI 6) [(.ref x31), (iV 6), (.ref x1626)])) rfl (by rw [hml]; rfl) (argsL := [(.ref x1626), (iV 6), (.ref x31)]) (rest := []) (lenOf pd_36 rfl) rfl (oWt rfl) (D at_114) (fun _ _ => ⟨rfl, Eq1669, oLe rfl, oLe rfl⟩)
    dsimp only [Pt.U, Pt.locs, Pt.cells, Pt.slots] at X1676 l1676 y1676 z1676 st1676 hQ1676
    subst l1676 y1676 z1676
    obtain ⟨rfl, Nq1676, Eq1676⟩ := hQ1676
    have N1677 := Fr.app Nh1671 Nq1676
    obtain ⟨Lh1678, Xh1678, Nh1678⟩ := oHd 21 89 X1676 N1677 rfl rfl
    refine ownBy st1676 ?_
    clear st1676
    show oA p e below _ T1676 (fr_law m p1 p2 p3 117 (vR x21) (vR x31) (vI 1) (vR b365) (vR b365) (vR x1626) (vI 6) [(iV 1)])
    refine oTo T1676 (fr_law m p1 p2 p3 124 (vR x21) (vR x31) (vI 1) (vR b365) (vR b365) (vR x1626) (vI 6) [(.ref x1626)]) (fun t kt => ?_) ?_
    ·refine XS.ifYes Xh1678.here hx rfl (pc0 := 117) (pc' := 122) rfl (D at_117) rfl ((if0 _ _).trans (feq ((by decide) : ¬ ((1 : Int32) = (0 : Int32)))).2) (by decide) (by decide) ?_
     refine XS.aload Xh1678.here hx rfl (D at_122) rfl rfl ?_
     exact kt
    obtain ⟨cq1679, kq1679, q1679a, q1679b, q1679c⟩ := isOf hZ1620 Eq1676 Eq1626
    obtain ⟨vv1679, _, ⟨T1679, L1679, k1679, n1679⟩, -, X1679, ⟨Lc1679, hQ1679, l1679, y1679, z1679⟩, st1679⟩ := Xh1678.virtualBack hx (y := yM4) (z := yM4) hown1620 (mvT hZ1620 (Wd174 hw)) (mvT hZ1620 (Wd70 hw)) (oNf hZ1620 (Wd72 hw)) (mvT hZ1620 (Wd72 hw)) (mvT hZ1620 (Wd71 hw)) (by decide) (backOf (W := 0) (c_leng l Z a0 hw [] x1626 t1626 kn1626 (11 : Int32) (oI [60, 47, oL f0, oL f1, oL f2, 62, 60, 47, oL g0, oL g1, 62]) G1 T1626.heap n0 f1665 Eq1626 Vq1626 Cq1626 Aq1626 (by decide +kernel) O2 P5 f1664) hZ1620 (Wd73 hw) (Wd6 hw) (by decide) (by decide)) q1679a q1679c (g := (fr_law m p1 p2 p3 124 (vR x21) (vR x31) (vI 1) (vR b365) (vR b365) (vR x1626) (vI 6) [(.ref x1626)])) rfl (by rw [hml]; rfl) (Steps.refl _) (argsL := []) (rest := []) (lenOf pd_15 rfl) rfl (oWt rfl) (D at_124) (fun _ _ => ⟨rfl, Eq1676, oLe rfl, oLe rfl⟩)
    dsimp only [Pt.U, Pt.locs, Pt.cells, Pt.slots] at X1679 l1679 y1679 z1679 st1679 hQ1679
    subst l1679 y1679 z1679
    obtain ⟨rfl, Nq1679, Eq1679⟩ := hQ1679
    have N1680 := Fr.app Nh1678 Nq1679
    obtain ⟨Lh1681, Xh1681, Nh1681⟩ := oHd 21 89 X1679 N1680 rfl rfl
    refine ownSt st1679 ?_
    clear st1679
    show oA p e below _ T1679 (fr_law m p1 p2 p3 127 (vR x21) (vR x31) (vI 1) (vR b365) (vR b365) (vR x1626) (vI 6) [(iV 11)])
    refine oTo T1679 (fr_law m p1 p2 p3 131 (vR x21) (vR x31) (vI 1) (vR b365) (vR b365) (vR x1626) (vI 6) [(.ref x31), (iV 6), (iV 11)]) (fun t kt => ?_) ?_
    ·refine XS.iload Xh1681.here hx rfl (D at_127) rfl ?_
     refine XS.aload Xh1681.here hx rfl (D at_129) rfl rfl ?_
     exact kt
    obtain ⟨cq1682, kq1682, q1682a, q1682b, q1682c⟩ := isOf hZ1620 Eq1679 f1672
    obtain ⟨vv1682, _, ⟨T1682, L1682, k1682, n1682⟩, -, X1682, ⟨Lc1682, hQ1682, l1682, y1682, z1682⟩, st1682⟩ := Xh1681.virtualBack hx (y := yM4) (z := yM4) hown1620 (mvT hZ1620 (Wd174 hw)) (mvT hZ1620 (Wd70 hw)) (oNf hZ1620 (Wd72 hw)) (mvT hZ1620 (Wd72 hw)) (mvT hZ1620 (Wd71 hw)) (by decide) (backOf (W := 2) (c_leng l Z a0 hw [] x31 t31 kb31 (2 : Int32) (oI [oL g0, oL g1]) G1 T1626.heap n0 f1665 f1672 f1673 f1674 f1675 (by decide +kernel) O2 P5 f1664) hZ1620 (Wd73 hw) (Wd6 hw) (by decide) (by decide)) q1682a q1682c (g := (fr_law m p1 p2 p3 131 (vR x21) (vR x31) (vI 1) (vR b365) (vR b365) (vR x1626) (vI 6) [(.ref x31), (iV 6), (iV 11)])) rfl (by rw [hml]; rfl) (Steps.refl _) (argsL := []) (rest := [(iV 6), (iV 11)]) (lenOf pd_15 rfl) rfl (oWt rfl) (D at_131) (fun _ _ => ⟨rfl, Eq1679, oLe rfl, oLe rfl⟩)
    dsimp only [Pt.U, Pt.locs, Pt.cells, Pt.slots] at X1682 l1682 y1682 z1682 st1682 hQ1682
    subst l1682 y1682 z1682
    obtain ⟨rfl, Nq1682, Eq1682⟩ := hQ1682
    have N1683 := Fr.app Nh1681 Nq1682
    obtain ⟨Lh1684, Xh1684, Nh1684⟩ := oHd 21 89 X1682 N1683 rfl rfl
    refine ownSt st1682 ?_
    clear st1682
    show oA p e below _ T1682 (fr_law m p1 p2 p3 134 (vR x21) (vR x31) (vI 1) (vR b365) (vR b365) (vR x1626) (vI 6) [(iV 2), (iV 6), (iV 11)])
    refine oTo T1682 (fr_law m p1 p2 p3 145 (vR x21) (vR x31) (vI 1) (vR b365) (vR b365) (vR x1626) (vI 6) [(iV 1)]) (fun t kt => ?_) ?_
    ·refine XS.iadd Xh1684.here hx rfl (D at_134) rfl ?_
     refine XS.iconst Xh1684.here hx rfl (D at_135) ?_
     refine XS.iadd Xh1684.here hx rfl (D at_136) rfl ?_
     refine XS.icmpNo Xh1684.here hx rfl (D at_137) rfl (teq ((by decide) : (11 : Int32) = (11 : Int32))).2 ?_
     refine XS.iconst Xh1684.here hx rfl (D at_140) ?_
     refine XS.goto Xh1684.here hx rfl (pc0 := 141) (pc' := 145) rfl (D at_141) (by decide) (by decide) ?_
     exact kt
    refine ownRetH Xh1684 hSR1620 (by rw [Eq1682]; exact (Nat.le_trans (Nat.le_refl _) Kq1626.1)) Bd.notSynchronized (v := some (.int (nar .boolean (1 : Int32)))) (fun h => by rw [Bd.returns] at h; cases h) ?_ (R1653.trans ((by rw [Eq1682]; exact CHv.at Xh1684 hZ1620 hEL R1653.1))) (oLe rfl) (oLe rfl) (fun fs hr => retN Xh1684 hx (t := .boolean) Bd.returns (by simp) (D at_145) hr)
    show (Q_law Z p1 p2 p3 G1 G3 h0 n0) (some (.int (nar .boolean (1 : Int32)))) T1682.heap _
    rw [Eq1682]
    exact ⟨rfl, Nh1684⟩
   ·skip
    refine oTo T1434 (fr_law m p1 p2 p3 59 (vR x21) (vR x31) (vI 1) (vR b365) (vR b365) .unset .unset [(.ref x31), (.ref b365)]) (fun t kt => ?_) ?_
    ·refine XS.aload Xh1442.here hx rfl (D at_55) rfl rfl ?_
     refine XS.aload Xh1442.here hx rfl (D at_57) rfl rfl ?_
     exact kt
    have f1686 := ((f388.keep Kq382).keep Kq1434)
    have f1687 := (((Vq31.ext E365).keep Kq382 (ninS ne370 nin0)).keep Kq1434 (ninS ne387 (ninS ne398 nin0)))
    have f1688 := (((Cq31.ext E365).keep Kq382 (ninS ne370 nin0)).keep Kq1434 (ninS ne387 (ninS ne398 nin0)))
    have f1689 := ((f390.keep Kq382 (ninS ne371 nin0)).keep Kq1434 (ninS ne389 (ninS ne399 nin0)))
    have f1690 := (Eh382.keep Kq1434)
    have f1691 := (Fh382.keep Kq1434 (ninS ne391 (ninS ne400 nin0)))
    have f1692 := (f1432.keep Kq1434 (allS g392 (allS g401 all0)))
    have f1693 := (Nat.le_trans f1433 Kq1434.1)
    obtain ⟨cq1694, kq1694, q1694a, q1694b, q1694c⟩ := isOf hZ1441 rfl f1690
    obtain ⟨vv1694, _, ⟨T1694, L1694, k1694, n1694⟩, -, X1694, hS1694, hg1694, ⟨Lc1694, hQ1694, l1694, y1694, z1694, hC1694⟩, st1694⟩ := Xh1442.virtualBackS hx (y := yM33) (z := yM33) hown1441 (mvT hZ1441 (Wd53 hw)) (mvT hZ1441 (Wd54 hw)) (oNf hZ1441 (Wd56 hw)) (mvT hZ1441 (Wd56 hw)) (mvT hZ1441 (Wd55 hw)) (by decide) (backOfSH (W := 0) (s := s) (EL := ownEL) (c_hcl l Z a0 hw [] b365 x31 t31 kb31 (3 : Int32) (oI [oL g0, oL g1, oL g2]) sb382 t382 kv382 (16 : Int32) (oI [60, 47, oL f0, oL f1, oL f2, 62, 0, 0, 0, 0, 0, 0, 0, 0, 0, 0]) (6 : Int32) (oI [60, 47, oL f0, oL f1, oL f2, 62, 60, 47, 0, 0, 0, 0, 0, 0, 0, 0]) (oI [60, 47, oL f0, oL f1, oL f2, 62, 60, 47, oL g0, oL g1, oL g2, 0, 0, 0, 0, 0]) (oI [60, 47, oL f0, oL f1, oL f2, 62, 60, 47, oL g0, oL g1, oL g2, 62, 0, 0, 0, 0]) (8 : Int32) (11 : Int32) (12 : Int32) G1 T1434.heap n0 f1693 f1690 f1691 f1686 f1687 f1688 f1689 Eq1434 Vq1434 Cq1434 Mq1434 Aq1434 g392 g401 ne399 (by decide +kernel) (oCp (by decide +kernel) rfl rfl rfl) (oCp (by decide +kernel) rfl rfl rfl) (oCq (by decide +kernel) rfl rfl) O2 P5 f1692) hZ1441 (Wd57 hw) (Wd28 hw) (by decide) (by decide) hEL R1437.1) q1694a q1694c (g := (fr_law m p1 p2 p3 59 (vR x21) (vR x31) (vI 1) (vR b365) (vR b365) .unset .unset [(.ref x31), (.ref b365)])) rfl (by rw [hml]; rfl) (Steps.refl _) (argsL := [(.ref x31)]) (rest := []) (lenOf pd_35 rfl) rfl (oWt rfl) (D at_59) (fun _ _ => ⟨rfl, rfl, oLe rfl, oLe rfl⟩)
    dsimp only [Pt.U, Pt.locs, Pt.cells, Pt.slots] at X1694 l1694 y1694 z1694 st1694 hQ1694 hS1694 hg1694 hC1694
    subst l1694 y1694 z1694
    obtain ⟨rfl, Nq1694, Kq1694, Eq1694, Vq1694, Cq1694, Mq1694, Aq1694⟩ := hQ1694
    have N1695 := Fr.app Nh1442 Nq1694
    have R1697 := R1437.trans hC1694
    have sf1698 := CHr.safe hC1694 f1690.lt sf1438
    have sf1699 := CHr.safe hC1694 Eq1434.lt sf1439
    have sf1700 := CHr.safe hC1694 Aq1434.lt sf1440
    obtain ⟨XR1701, hSR1701, hZ1701, hown1701⟩ := rebS hSR1441 (Nat.le_refl _) X1694 hS1694 hg1694 hZ1441 hown1441
    obtain ⟨Lh1702, Xh1702, Nh1702⟩ := oHd 19 69 XR1701 N1695 rfl rfl
    refine ownSt st1694 ?_
    clear st1694
    show oA p e below _ T1694 (fr_law m p1 p2 p3 62 (vR x21) (vR x31) (vI 1) (vR b365) (vR b365) .unset .unset [(.ref b365)])
    refine oTo T1694 (fr_law m p1 p2 p3 75 (vR x21) (vR x31) (vI 1) (vR b365) (vR b365) .unset .unset [(.ref b365)]) (fun t kt => ?_) ?_
    ·refine XS.astore Xh1702.here hx rfl (D at_62) rfl rfl (l' := #[vI p1, vI p2, vI p3, vR x21, vR x31, vI 1, vR b365, vR b365, .unset, .unset]) rfl ?_
     refine XS.aload Xh1702.here hx rfl (D at_64) rfl rfl ?_
     refine XS.aload Xh1702.here hx rfl (D at_66) rfl rfl ?_
     refine Jvm.RoadKit.acmp (g := (fr_law m p1 p2 p3 68 (vR x21) (vR x31) (vI 1) (vR b365) (vR b365) .unset .unset [(.ref b365), (.ref b365)])) Xh1702 hx rfl rfl rfl (pc0 := 68) (pc' := 73) (same := true) rfl (D at_68) rfl (decide_eq_true rfl) (by decide) (by decide) ?_
     refine XS.aload Xh1702.here hx rfl (D at_73) rfl rfl ?_
     exact kt
    have f1703 := (f1690.keep Kq1694)
    have f1704 := (f1691.keep Kq1694 (ninS ne391 (ninS ne400 nin0)))
    have f1705 := (f1692.keep Kq1694 (allS g392 (allS g401 all0)))
    have f1706 := (Nat.le_trans f1693 Kq1694.1)
    obtain ⟨cq1707, kq1707, q1707a, q1707b, q1707c⟩ := isOf hZ1701 rfl f1703
    obtain ⟨vv1707, _, ⟨T1707, L1707, k1707, n1707⟩, -, X1707, ⟨Lc1707, hQ1707, l1707, y1707, z1707⟩, st1707⟩ := Xh1702.virtualBack hx (y := yM34) (z := yM34) hown1701 (mvT hZ1701 (Wd125 hw)) (mvT hZ1701 (Wd126 hw)) (oNf hZ1701 (Wd128 hw)) (mvT hZ1701 (Wd128 hw)) (mvT hZ1701 (Wd127 hw)) (by decide) (backOf (W := 0) (c_hts l Z a0 hw [] b365 sb382 t382 kv382 (16 : Int32) (oI [60, 47, oL f0, oL f1, oL f2, 62, 60, 47, oL g0, oL g1, oL g2, 62, 0, 0, 0, 0]) (12 : Int32) (oI [60, 47, oL f0, oL f1, oL f2, 62, 60, 47, oL g0, oL g1, oL g2, 62]) G1 T1694.heap n0 f1706 f1703 f1704 Eq1694 Vq1694 Cq1694 Mq1694 Aq1694 (oCr (by decide +kernel) rfl) O2 P5 f1705) hZ1701 (Wd129 hw) (Wd28 hw) (by decide) (by decide)) q1707a q1707c (g := (fr_law m p1 p2 p3 75 (vR x21) (vR x31) (vI 1) (vR b365) (vR b365) .unset .unset [(.ref b365)])) rfl (by rw [hml]; rfl) (Steps.refl _) (argsL := []) (rest := []) (lenOf pd_32 rfl) rfl (oWt rfl) (D at_75) (fun _ _ => ⟨rfl, rfl, oLe rfl, oLe rfl⟩)
    dsimp only [Pt.U, Pt.locs, Pt.cells, Pt.slots] at X1707 l1707 y1707 z1707 st1707 hQ1707
    subst l1707 y1707 z1707
    obtain ⟨x1707, t1707, kn1707, rfl, Nq1707, Kq1707, zx1707, zq1707, Eq1707, Vq1707, Cq1707, Aq1707⟩ := hQ1707
    have f1709 := ((f1428.keep Kq1434).keep Kq1694)
    have ne1708 : x21 ≠ x1707 := Nat.ne_of_lt (Nat.lt_of_lt_of_le f1709.lt zx1707)
    have f1711 := ((f1431.keep Kq1434 (ninS ne385 (ninS ne397 nin0))).keep Kq1694 (ninS ne385 (ninS ne397 nin0)))
    have ne1710 : t21 ≠ x1707 := Nat.ne_of_lt (Nat.lt_of_lt_of_le f1711.lt zx1707)
    have f1713 := (f1686.keep Kq1694)
    have ne1712 : x31 ≠ x1707 := Nat.ne_of_lt (Nat.lt_of_lt_of_le f1713.lt zx1707)
    have f1715 := (f1689.keep Kq1694 (ninS ne389 (ninS ne399 nin0)))
    have ne1714 : t31 ≠ x1707 := Nat.ne_of_lt (Nat.lt_of_lt_of_le f1715.lt zx1707)
    have ne1716 : b365 ≠ x1707 := Nat.ne_of_lt (Nat.lt_of_lt_of_le f1703.lt zx1707)
    have ne1717 : sb382 ≠ x1707 := Nat.ne_of_lt (Nat.lt_of_lt_of_le Eq1694.lt zx1707)
    have ne1718 : t382 ≠ x1707 := Nat.ne_of_lt (Nat.lt_of_lt_of_le Aq1694.lt zx1707)
    have g1719 : n0 ≤ x1707 := Nat.le_trans f1706 zx1707
    have sf1720 : Safe Z ownEL T1694.vm T1694.heap x1707 := Safe.new zx1707
    have f1722 := (Nat.le_trans (Nat.le_trans (Nat.le_trans f395 Kq382.1) Kq1434.1) Kq1694.1)
    have z1721 : h0.size ≤ x1707 := Nat.le_trans f1722 zx1707
    have ne1723 : x21 ≠ t1707 := Nat.ne_of_lt (Nat.lt_of_lt_of_le f1709.lt zq1707)
    have ne1724 : t21 ≠ t1707 := Nat.ne_of_lt (Nat.lt_of_lt_of_le f1711.lt zq1707)
    have ne1725 : x31 ≠ t1707 := Nat.ne_of_lt (Nat.lt_of_lt_of_le f1713.lt zq1707)
    have ne1726 : t31 ≠ t1707 := Nat.ne_of_lt (Nat.lt_of_lt_of_le f1715.lt zq1707)
    have ne1727 : b365 ≠ t1707 := Nat.ne_of_lt (Nat.lt_of_lt_of_le f1703.lt zq1707)
    have ne1728 : sb382 ≠ t1707 := Nat.ne_of_lt (Nat.lt_of_lt_of_le Eq1694.lt zq1707)
    have ne1729 : t382 ≠ t1707 := Nat.ne_of_lt (Nat.lt_of_lt_of_le Aq1694.lt zq1707)
    have g1730 : n0 ≤ t1707 := Nat.le_trans f1706 zq1707
    have sf1731 : Safe Z ownEL T1694.vm T1694.heap t1707 := Safe.new zq1707
    have z1732 : h0.size ≤ t1707 := Nat.le_trans f1722 zq1707
    have N1733 := Fr.app Nh1702 Nq1707
    have R1734 := R1697.trans (CHr.keep Kq1707 sf0 R1697.1)
    have sf1735 := Safe.keep Kq1707 sf0 R1697.1 sf1698
    have sf1736 := Safe.keep Kq1707 sf0 R1697.1 sf1699
    have sf1737 := Safe.keep Kq1707 sf0 R1697.1 sf1700
    have sf1738 := Safe.keep Kq1707 sf0 R1697.1 sf1720
    have sf1739 := Safe.keep Kq1707 sf0 R1697.1 sf1731
    obtain ⟨Lh1740, Xh1740, Nh1740⟩ := oHd 21 89 X1707 N1733 rfl rfl
    refine ownSt st1707 ?_
    clear st1707
    show oA p e below _ T1707 (fr_law m p1 p2 p3 78 (vR x21) (vR x31) (vI 1) (vR b365) (vR b365) .unset .unset [(.ref x1707)])
    refine oTo T1707 (fr_law m p1 p2 p3 92 (vR x21) (vR x31) (vI 1) (vR b365) (vR b365) (vR x1707) (vI 0) [(.ref x21), (iV 0), (.ref x1707)]) (fun t kt => ?_) ?_
    ·refine XS.astore Xh1740.here hx rfl (D at_78) rfl rfl (l' := #[vI p1, vI p2, vI p3, vR x21, vR x31, vI 1, vR b365, vR b365, vR x1707, .unset]) rfl ?_
     refine XS.iconst Xh1740.here hx rfl (D at_80) ?_
     refine XS.istore Xh1740.here hx rfl (D at_81) rfl (l' := #[vI p1, vI p2, vI p3, vR x21, vR x31, vI 1, vR b365, vR b365, vR x1707, vI 0]) rfl ?_
     refine XS.iload Xh1740.here hx rfl (D at_83) rfl ?_
     refine XS.ifNo Xh1740.here hx rfl (D at_85) rfl ((if0 _ _).trans (feq ((by decide) : ¬ ((1 : Int32) = (0 : Int32)))).1) ?_
     refine XS.aload Xh1740.here hx rfl (D at_88) rfl rfl ?_
     refine XS.iconst Xh1740.here hx rfl (D at_90) ?_
     refine XS.aloadN Xh1740.here hx rfl (D at_91) rfl rfl ?_
     exact kt
    have f1741 := (f1709.keep Kq1707)
    have f1742 := (((f1429.keep Kq1434 (ninS ne383 (ninS ne396 nin0))).keep Kq1694 (ninS ne383 (ninS ne396 nin0))).keep Kq1707 nin0)
    have f1743 := (((f1430.keep Kq1434 (ninS ne383 (ninS ne396 nin0))).keep Kq1694 (ninS ne383 (ninS ne396 nin0))).keep Kq1707 nin0)
    have f1744 := (f1711.keep Kq1707 nin0)
    have f1745 := (f1705.keep Kq1707 all0)
    have f1746 := (Nat.le_trans f1706 Kq1707.1)
    obtain ⟨vv1747, _, ⟨T1747, L1747, k1747, n1747⟩, -, X1747, ⟨Lc1747, hQ1747, l1747, y1747, z1747⟩, st1747⟩ := Jvm.LawKit.callS Xh1740 hx (y := yM35) hown1701 (mvT hZ1701 (Wd171 hw)) (mvT hZ1701 (Wd172 hw)) (mvT hZ1701 (Wd2 hw)) (mvT hZ1701 (Wd173 hw)) (by decide) (backOf (W := 0) (c_clg3 l Z a0 hw [] x1707 t1707 kn1707 (12 : Int32) (oI [60, 47, oL f0, oL f1, oL f2, 62, 60, 47, oL g0, oL g1, oL g2, 62]) (0 : Int32) x21 t21 kb21 f0 f1 f2 G1 G3 T1707.heap n0 f1746 Eq1707 Vq1707 Cq1707 Aq1707 f1741 f1742 f1743 f1744 hr_f0 hr_f1 hr_f2 (by decide +kernel) (by decide +kernel) (oCl (by decide +kernel) rfl (by decide +kernel)) (oCl (by decide +kernel) rfl (by decide +kernel)) (oCl (by decide +kernel) rfl hr_f0) (oCl (by decide +kernel) rfl hr_f1) (oCl (by decide +kernel) rfl hr_f2) (oCl (by decide +kernel) rfl (by decide +kernel)) O2 P5 O4 rG3 f1745) hZ1701 (Wd173 hw) (Wd2 hw) (by decide) (by decide)) (g := (fr_law m p1 p2 p3 92 (vR x21) (vR x31) (vI 1) (vR b365) (vR b365) (vR x1707) (vI 0) [(.ref x21), (iV 0), (.ref x1707)])) rfl (by rw [hml]; rfl) (argsL := [(.ref x1707), (iV 0), (.ref x21)]) (rest := []) (lenOf pd_36 rfl) rfl (oWt rfl) (D at_92) (fun _ _ => ⟨rfl, rfl, oLe rfl, oLe rfl⟩)
    dsimp only [Pt.U, Pt.locs, Pt.cells, Pt.slots] at X1747 l1747 y1747 z1747 st1747 hQ1747
    subst l1747 y1747 z1747
    obtain ⟨rfl, Nq1747, Eq1747⟩ := hQ1747
    have N1748 := Fr.app Nh1740 Nq1747
    obtain ⟨Lh1749, Xh1749, Nh1749⟩ := oHd 21 89 X1747 N1748 rfl rfl
    refine ownBy st1747 ?_
    clear st1747
    show oA p e below _ T1747 (fr_law m p1 p2 p3 95 (vR x21) (vR x31) (vI 1) (vR b365) (vR b365) (vR x1707) (vI 0) [(iV 1)])
    refine oTo T1747 (fr_law m p1 p2 p3 101 (vR x21) (vR x31) (vI 1) (vR b365) (vR b365) (vR x1707) (vI 0) [(.ref x21)]) (fun t kt => ?_) ?_
    ·refine XS.ifYes Xh1749.here hx rfl (pc0 := 95) (pc' := 100) rfl (D at_95) rfl ((if0 _ _).trans (feq ((by decide) : ¬ ((1 : Int32) = (0 : Int32)))).2) (by decide) (by decide) ?_
     refine XS.aloadN Xh1749.here hx rfl (D at_100) rfl rfl ?_
     exact kt
    obtain ⟨cq1750, kq1750, q1750a, q1750b, q1750c⟩ := isOf hZ1701 Eq1747 f1741
    obtain ⟨vv1750, _, ⟨T1750, L1750, k1750, n1750⟩, -, X1750, ⟨Lc1750, hQ1750, l1750, y1750, z1750⟩, st1750⟩ := Xh1749.virtualBack hx (y := yM4) (z := yM4) hown1701 (mvT hZ1701 (Wd174 hw)) (mvT hZ1701 (Wd70 hw)) (oNf hZ1701 (Wd72 hw)) (mvT hZ1701 (Wd72 hw)) (mvT hZ1701 (Wd71 hw)) (by decide) (backOf (W := 0) (c_leng l Z a0 hw [] x21 t21 kb21 (3 : Int32) (oI [oL f0, oL f1, oL f2]) G1 T1707.heap n0 f1746 f1741 f1742 f1743 f1744 (by decide +kernel) O2 P5 f1745) hZ1701 (Wd73 hw) (Wd6 hw) (by decide) (by decide)) q1750a q1750c (g := (fr_law m p1 p2 p3 101 (vR x21) (vR x31) (vI 1) (vR b365) (vR b365) (vR x1707) (vI 0) [(.ref x21)])) rfl (by rw [hml]; rfl) (Steps.refl _) (argsL := []) (rest := []) (lenOf pd_15 rfl) rfl (oWt rfl) (D at_101) (fun _ _ => ⟨rfl, Eq1747, oLe rfl, oLe rfl⟩)
    dsimp only [Pt.U, Pt.locs, Pt.cells, Pt.slots] at X1750 l1750 y1750 z1750 st1750 hQ1750
    subst l1750 y1750 z1750
    obtain ⟨rfl, Nq1750, Eq1750⟩ := hQ1750
    have N1751 := Fr.app Nh1749 Nq1750
    obtain ⟨Lh1752, Xh1752, Nh1752⟩ := oHd 21 89 X1750 N1751 rfl rfl
    refine ownSt st1750 ?_
    clear st1750
    show oA p e below _ T1750 (fr_law m p1 p2 p3 104 (vR x21) (vR x31) (vI 1) (vR b365) (vR b365) (vR x1707) (vI 0) [(iV 3)])
    refine oTo T1750 (fr_law m p1 p2 p3 114 (vR x21) (vR x31) (vI 1) (vR b365) (vR b365) (vR x1707) (vI 6) [(.ref x31), (iV 6), (.ref x1707)]) (fun t kt => ?_) ?_
    ·refine XS.iconst Xh1752.here hx rfl (D at_104) ?_
     refine XS.iadd Xh1752.here hx rfl (D at_105) rfl ?_
     refine XS.istore Xh1752.here hx rfl (D at_106) rfl (l' := #[vI p1, vI p2, vI p3, vR x21, vR x31, vI 1, vR b365, vR b365, vR x1707, vI 6]) rfl ?_
     refine XS.aload Xh1752.here hx rfl (D at_108) rfl rfl ?_
     refine XS.iload Xh1752.here hx rfl (D at_110) rfl ?_
     refine XS.aload Xh1752.here hx rfl (D at_112) rfl rfl ?_
     exact kt
    have f1753 := (f1713.keep Kq1707)
    have f1754 := ((f1687.keep Kq1694 (ninS ne387 (ninS ne398 nin0))).keep Kq1707 nin0)
    have f1755 := ((f1688.keep Kq1694 (ninS ne387 (ninS ne398 nin0))).keep Kq1707 nin0)
    have f1756 := (f1715.keep Kq1707 nin0)
    obtain ⟨vv1757, _, ⟨T1757, L1757, k1757, n1757⟩, -, X1757, ⟨Lc1757, hQ1757, l1757, y1757, z1757⟩, st1757⟩ := Jvm.LawKit.callS Xh1752 hx (y := yM35) hown1701 (mvT hZ1701 (Wd171 hw)) (mvT hZ1701 (Wd172 hw)) (mvT hZ1701 (Wd2 hw)) (mvT hZ1701 (Wd173 hw)) (by decide) (backOf (W := 0) (c_clg3 l Z a0 hw [] x1707 t1707 kn1707 (12 : Int32) (oI [60, 47, oL f0, oL f1, oL f2, 62, 60, 47, oL g0, oL g1, oL g2, 62]) (6 : Int32) x31 t31 kb31 g0 g1 g2 G1 G3 T1707.heap n0 f1746 Eq1707 Vq1707 Cq1707 Aq1707 f1753 f1754 f1755 f1756 hr_g0 hr_g1 hr_g2 (by decide +kernel) (by decide +kernel) (oCl (by decide +kernel) rfl (by decide +kernel)) (oCl (by decide +kernel) rfl (by decide +kernel)) (oCl (by decide +kernel) rfl hr_g0) (oCl (by decide +kernel) rfl hr_g1) (oCl (by decide +kernel) rfl hr_g2) (oCl (by decide +kernel) rfl (by decide +kernel)) O2 P5 O4 rG3 f1745) hZ1701 (Wd173 hw) (Wd2 hw) (by decide) (by decide)) (g := (fr_law m p1 p2 p3 114 (vR x21) (vR x31) (vI 1) (vR b365) (vR b365) (vR x1707) (vI 6) [(.ref x31), (iV 6), (.ref x1707)])) rfl (by rw [hml]; rfl) (argsL := [(.ref x1707), (iV 6), (.ref x31)]) (rest := []) (lenOf pd_36 rfl) rfl (oWt rfl) (D at_114) (fun _ _ => ⟨rfl, Eq1750, oLe rfl, oLe rfl⟩)
    dsimp only [Pt.U, Pt.locs, Pt.cells, Pt.slots] at X1757 l1757 y1757 z1757 st1757 hQ1757
    subst l1757 y1757 z1757
    obtain ⟨rfl, Nq1757, Eq1757⟩ := hQ1757
    have N1758 := Fr.app Nh1752 Nq1757
    obtain ⟨Lh1759, Xh1759, Nh1759⟩ := oHd 21 89 X1757 N1758 rfl rfl
    refine ownBy st1757 ?_
    clear st1757
    show oA p e below _ T1757 (fr_law m p1 p2 p3 117 (vR x21) (vR x31) (vI 1) (vR b365) (vR b365) (vR x1707) (vI 6) [(iV 1)])
    refine oTo T1757 (fr_law m p1 p2 p3 124 (vR x21) (vR x31) (vI 1) (vR b365) (vR b365) (vR x1707) (vI 6) [(.ref x1707)]) (fun t kt => ?_) ?_
    ·refine XS.ifYes Xh1759.here hx rfl (pc0 := 117) (pc' := 122) rfl (D at_117) rfl ((if0 _ _).trans (feq ((by decide) : ¬ ((1 : Int32) = (0 : Int32)))).2) (by decide) (by decide) ?_
     refine XS.aload Xh1759.here hx rfl (D at_122) rfl rfl ?_
     exact kt
    obtain ⟨cq1760, kq1760, q1760a, q1760b, q1760c⟩ := isOf hZ1701 Eq1757 Eq1707
    obtain ⟨vv1760, _, ⟨T1760, L1760, k1760, n1760⟩, -, X1760, ⟨Lc1760, hQ1760, l1760, y1760, z1760⟩, st1760⟩ := Xh1759.virtualBack hx (y := yM4) (z := yM4) hown1701 (mvT hZ1701 (Wd174 hw)) (mvT hZ1701 (Wd70 hw)) (oNf hZ1701 (Wd72 hw)) (mvT hZ1701 (Wd72 hw)) (mvT hZ1701 (Wd71 hw)) (by decide) (backOf (W := 0) (c_leng l Z a0 hw [] x1707 t1707 kn1707 (12 : Int32) (oI [60, 47, oL f0, oL f1, oL f2, 62, 60, 47, oL g0, oL g1, oL g2, 62]) G1 T1707.heap n0 f1746 Eq1707 Vq1707 Cq1707 Aq1707 (by decide +kernel) O2 P5 f1745) hZ1701 (Wd73 hw) (Wd6 hw) (by decide) (by decide)) q1760a q1760c (g := (fr_law m p1 p2 p3 124 (vR x21) (vR x31) (vI 1) (vR b365) (vR b365) (vR x1707) (vI 6) [(.ref x1707)])) rfl (by rw [hml]; rfl) (Steps.refl _) (argsL := []) (rest := []) (lenOf pd_15 rfl) rfl (oWt rfl) (D at_124) (fun _ _ => ⟨rfl, Eq1757, oLe rfl, oLe rfl⟩)
    dsimp only [Pt.U, Pt.locs, Pt.cells, Pt.slots] at X1760 l1760 y1760 z1760 st1760 hQ1760
    subst l1760 y1760 z1760
    obtain ⟨rfl, Nq1760, Eq1760⟩ := hQ1760
    have N1761 := Fr.app Nh1759 Nq1760
    obtain ⟨Lh1762, Xh1762, Nh1762⟩ := oHd 21 89 X1760 N1761 rfl rfl
    refine ownSt st1760 ?_
    clear st1760
    show oA p e below _ T1760 (fr_law m p1 p2 p3 127 (vR x21) (vR x31) (vI 1) (vR b365) (vR b365) (vR x1707) (vI 6) [(iV 12)])
    refine oTo T1760 (fr_law m p1 p2 p3 131 (vR x21) (vR x31) (vI 1) (vR b365) (vR b365) (vR x1707) (vI 6) [(.ref x31), (iV 6), (iV 12)]) (fun t kt => ?_) ?_
    ·refine XS.iload Xh1762.here hx rfl (D at_127) rfl ?_
     refine XS.aload Xh1762.here hx rfl (D at_129) rfl rfl ?_
     exact kt
    obtain ⟨cq1763, kq1763, q1763a, q1763b, q1763c⟩ := isOf hZ1701 Eq1760 f1753
    obtain ⟨vv1763, _, ⟨T1763, L1763, k1763, n1763⟩, -, X1763, ⟨Lc1763, hQ1763, l1763, y1763, z1763⟩, st1763⟩ := Xh1762.virtualBack hx (y := yM4) (z := yM4) hown1701 (mvT hZ1701 (Wd174 hw)) (mvT hZ1701 (Wd70 hw)) (oNf hZ1701 (Wd72 hw)) (mvT hZ1701 (Wd72 hw)) (mvT hZ1701 (Wd71 hw)) (by decide) (backOf (W := 2) (c_leng l Z a0 hw [] x31 t31 kb31 (3 : Int32) (oI [oL g0, oL g1, oL g2]) G1 T1707.heap n0 f1746 f1753 f1754 f1755 f1756 (by decide +kernel) O2 P5 f1745) hZ1701 (Wd73 hw) (Wd6 hw) (by decide) (by decide)) q1763a q1763c (g := (fr_law m p1 p2 p3 131 (vR x21) (vR x31) (vI 1) (vR b365) (vR b365) (vR x1707) (vI 6) [(.ref x31), (iV 6), (iV 12)])) rfl (by rw [hml]; rfl) (Steps.refl _) (argsL := []) (rest := [(iV 6), (iV 12)]) (lenOf pd_15 rfl) rfl (oWt rfl) (D at_131) (fun _ _ => ⟨rfl, Eq1760, oLe rfl, oLe rfl⟩)
    dsimp only [Pt.U, Pt.locs, Pt.cells, Pt.slots] at X1763 l1763 y1763 z1763 st1763 hQ1763
    subst l1763 y1763 z1763
    obtain ⟨rfl, Nq1763, Eq1763⟩ := hQ1763
    have N1764 := Fr.app Nh1762 Nq1763
    obtain ⟨Lh1765, Xh1765, Nh1765⟩ := oHd 21 89 X1763 N1764 rfl rfl
    refine ownSt st1763 ?_
    clear st1763
    show oA p e below _ T1763 (fr_law m p1 p2 p3 134 (vR x21) (vR x31) (vI 1) (vR b365) (vR b365) (vR x1707) (vI 6) [(iV 3), (iV 6), (iV 12)])
    refine oTo T1763 (fr_law m p1 p2 p3 145 (vR x21) (vR x31) (vI 1) (vR b365) (vR b365) (vR x1707) (vI 6) [(iV 1)]) (fun t kt => ?_) ?_
    ·refine XS.iadd Xh1765.here hx rfl (D at_134) rfl ?_
     refine XS.iconst Xh1765.here hx rfl (D at_135) ?_
     refine XS.iadd Xh1765.here hx rfl (D at_136) rfl ?_
     refine XS.icmpNo Xh1765.here hx rfl (D at_137) rfl (teq ((by decide) : (12 : Int32) = (12 : Int32))).2 ?_
     refine XS.iconst Xh1765.here hx rfl (D at_140) ?_
     refine XS.goto Xh1765.here hx rfl (pc0 := 141) (pc' := 145) rfl (D at_141) (by decide) (by decide) ?_
     exact kt
    refine ownRetH Xh1765 hSR1701 (by rw [Eq1763]; exact (Nat.le_trans (Nat.le_refl _) Kq1707.1)) Bd.notSynchronized (v := some (.int (nar .boolean (1 : Int32)))) (fun h => by rw [Bd.returns] at h; cases h) ?_ (R1734.trans ((by rw [Eq1763]; exact CHv.at Xh1765 hZ1701 hEL R1734.1))) (oLe rfl) (oLe rfl) (fun fs hr => retN Xh1765 hx (t := .boolean) Bd.returns (by simp) (D at_145) hr)
    show (Q_law Z p1 p2 p3 G1 G3 h0 n0) (some (.int (nar .boolean (1 : Int32)))) T1763.heap _
    rw [Eq1763]
    exact ⟨rfl, Nh1765⟩
set_option maxRecDepth 65536 in
set_option maxHeartbeats 40000000 in
theorem comes_1 {Post : Tables → Env → Array Value → State → Outcome → State → Prop} (hpost : ∀ tb e args s v u, (limb_1_1.after args s (.returned v) u = true ∧ limb_1_2.after args s (.returned v) u = true ∧ True) → ReturnedEndW s (.returned v) u (Jvm.fieldLocs frame_1_writes args s ++ Jvm.arrayLocs frame_1_arrays args s ++ Jvm.staticLocs frame_1_statics s) 40 2240 → Post tb e args s (.returned v) u) :
  ArmFor flags0 classFile x code maxLocals ret World_1 tables_1 room_1 Calls_1 rest_1 Pre_1 Post := by
 intro l hfl _ _ p e ha hc hk s m args below hf hA hF happ hP
 obtain ⟨hcalls, hrest, hpre⟩ := hP
 obtain ⟨-, -, -, hnamed, -, -, -, hat⟩ := (Spec.applies_iff hf).mp happ
 obtain ⟨hg, hn⟩ := and_e (Cond.before_iff.mp (show (Jvm.Cond.and given_1 narrow_1).before args s = true from hpre))
 obtain ⟨g1767, g1768⟩ := and_e hg
 obtain ⟨g1769, g1770⟩ := and_e g1768
 obtain ⟨g1771, g1772⟩ := and_e g1770
 obtain ⟨w0, w1, w2, rfl⟩ : ∃ w0 w1 w2 : Value, args = #[w0, w1, w2] := by
  have hs : args.size = 3 := by simpa [Cond.value, given_1] using g1767
  obtain ⟨L⟩ := args
  match L, hs with
  | [w0, w1, w2], _ => exact ⟨w0, w1, w2, rfl⟩
 have hw := fun d (hd : d ∈ tables_1) => atoms_spec (ws := Jvm.Cond.code x code maxLocals ret :: tables_1) hat d (List.mem_cons_of_mem _ hd)
 have hfit : Fit s := fun {y c} hc i hi => by
  obtain ⟨ha, rfl⟩ := Array.getElem?_eq_some_iff.mp hc
  have q := List.all_eq_true.mp ((Array.all_eq_true_iff_forall_mem.mp hF) _ (Array.getElem_mem ha)) i (List.mem_range.mpr hi)
  simpa [Array.getElem?_eq_getElem hi] using q
 obtain ⟨hsets, hown0⟩ := atoms_of _ (rest_1_c_eq ▸ (show rest_1_c.before _ s = true from hrest))
 have hr0 := Cond.before_iff.mp hown0
 obtain ⟨i0, ei0⟩ := is_v g1769
 obtain rfl : w0 = (.int i0) := Option.some.inj ei0
 obtain ⟨i1, ei1⟩ := is_v g1771
 obtain rfl : w1 = (.int i1) := Option.some.inj ei1
 obtain ⟨i2, ei2⟩ := is_v g1772
 obtain rfl : w2 = (.int i2) := Option.some.inj ei2
 obtain ⟨G1, eG1⟩ := is_v (Cond.before_iff.mp (hsets _ (List.mem_of_getElem? (i := 1) rfl)))
 have O2 := Sta.start eG1 (Or.inl (hsets _ (List.mem_of_getElem? (i := 0) rfl)))
 have P5 : ¬ (G1 = (0 : Int32)) := own_nz eG1 (Cond.before_iff.mp (hsets _ (List.mem_of_getElem? (i := 2) rfl)))
 obtain ⟨G3, eG3, rG3⟩ := isR_v (Cond.before_iff.mp (hsets _ (List.mem_of_getElem? (i := 8) rfl)))
 have O4 := Sta.start eG3 (Or.inl (hsets _ (List.mem_of_getElem? (i := 7) rfl)))
 have hCH : CHv s ownEL s.vm s.heap := CHv.start (own_EW hw) (fun q hq => hcalls.1 q hq) (hsets _ (List.mem_of_getElem? (i := 2) rfl)) (Wd19 hw) (Wd5 hw)
 obtain ⟨n, o, h1, h2, h3, _, L, rfl, ⟨rfl, N⟩, -, hq⟩ := c_law l s _ hw tables_1 i0 i1 i2 G1 G3 s.heap s.heap.size (Nat.le_refl _) O2 P5 O4 rG3 (Old.start s) p e ha hc hk s m _ below hf ((Spec.applies_iff_loose hf).mp happ).1 ⟨rfl, State.Warmed39.refl s, rfl, hCH⟩ trivial
 refine ⟨n, _, h1, h2, h3, hpost _ _ _ _ _ _ ⟨Cond.after_iff.mpr rfl, Cond.after_iff.mpr (eq_i res_at (Term.int_eval (1)) rfl), trivial⟩ ⟨hq.1, hq.2.1, hq.2.2.1, (hq.2.2.2.sift fun y hy => Or.inr (N y hy)).mono (by decide) (by decide)⟩⟩
theorem main_1_1 : Claimed_1_1 := comes_1 fun _ _ _ _ _ _ h hF => ⟨h.1, hF⟩
theorem main_1_2 : Claimed_1_2 := comes_1 fun _ _ _ _ _ _ h hF => ⟨h.2.1, hF⟩
end Jvm.Pilot.@@N@@
namespace Jvm.Pilot.@@N@@
open Jvm Jvm.ClassFile Sem Op Lib Jvm.Free Jvm.Stand Jvm.Pilot.@@N@@.Jvm.D
/-! MADE BY PROGRAM (witnessworld.py) out of the Statement's table words and the real class files: 24 classes; the members and pool entries that the words name. The judged class is class 1, her method 1. -/
namespace start1
open Jvm.ClassFile
def u (s : String) : CpInfo := .utf8 (stringToUtf16 s)
/-- a pool by its gaps: so many unusable entries, then the entry; so many at the end -/
def gap : Nat → List CpInfo → List CpInfo
  | 0, r => r
  | n + 1, r => .unusable :: gap n r
def poolList (es : List (Nat × CpInfo)) (last : Nat) : List CpInfo := es.foldr (fun e r => gap e.1 (e.2 :: r)) (gap last [])
def pool (es : List (Nat × CpInfo)) (last : Nat) : Array CpInfo := ⟨poolList es last⟩
def fileOf (pool : Array CpInfo) (this : Nat) (attrs : Array Attribute := #[]) (ms : Array MethodInfo := #[]) (fl : Nat := 33) (sup : Nat := 0) (ifs : Array Nat := #[]) (fds : Array FieldInfo := #[]) : ClassFile where
  minorVersion := 0
  majorVersion := 65
  constantPool := pool
  accessFlags := fl
  thisClass := this
  superClass := sup
  interfaces := ifs
  fields := fds
  methods := ms
  attributes := attrs
def plain (name : String) (sup : Option ClassId) : Class where
  name := name
  kind := .ordinary
  loader := none
  accessFlags := 33
  super := sup
  interfaces := #[]
  cf := none
  fields := #[]
  methods := #[]
  instanceTypes := #[]
  staticTypes := #[]
  resolved := #[]
  callSites := []
  init := .initialized
  statics := none
  mirror := none

def pool0 : Array CpInfo := pool [(5, u "<init>"), (0, u "()V"), (1, .class_ 10), (1, u "java/lang/Object")] 113

def k0c0 : Code := { maxStack := 0, maxLocals := 1, code := object_method_1_code, exceptionTable := #[], attributes := #[] }
def k0m0 : Method := { name := "<init>", desc := "()V", sig := { parameters := [], returnType := none }, accessFlags := 1, code := some k0c0 }
/-- java/lang/Object -/
def k0 : Class := { plain "java/lang/Object" none with
  accessFlags := 33
  interfaces := #[]
  cf := some (fileOf pool0 8 #[] #[{ accessFlags := 1, nameIndex := 5, descriptorIndex := 6, attributes := #[] }] 33 0 #[] #[])
  fields := #[]
  methods := #[k0m0]
  instanceTypes := #[]
  staticTypes := #[]
  resolved := Array.replicate 124 none
  statics := none }

def pool1 : Array CpInfo := pool [(2, .class_ 4), (0, .nameAndType 5 6), (0, u "java/lang/Object"), (0, u "<init>"), (0, u "()V"), (0, .methodref 8 9), (0, .class_ 10), (0, .nameAndType 11 12), (0, u "com/example/quayside/quayside/web/HtmlClosePinLaw"), (0, u "tag"), (0, u "(I)Ljava/lang/String;"), (0, .class_ 14), (0, u "com/example/quayside/quayside/web/Html"), (0, .methodref 13 3), (0, .methodref 13 17), (0, .nameAndType 18 19), (0, u "close"), (0, u "(Ljava/lang/String;)Lcom/example/quayside/quayside/web/Html;"), (0, .methodref 13 21), (0, .nameAndType 22 23), (0, u "toString"), (0, u "()Ljava/lang/String;"), (0, .methodref 8 25), (0, .nameAndType 26 27), (0, u "closing"), (0, u "(Ljava/lang/String;ILjava/lang/String;)Z"), (0, .methodref 29 30), (0, .class_ 31), (0, .nameAndType 32 33), (0, u "java/lang/String"), (0, u "length"), (0, u "()I"), (0, .methodref 29 35), (0, .nameAndType 5 36), (0, u "([C)V"), (0, .methodref 29 38), (0, .nameAndType 39 40), (0, u "charAt"), (0, u "(I)C"), (2, u "law"), (0, u "(III)Z")] 3

def k1m0 : Method := { name := "<init>", desc := "()V", sig := { parameters := [], returnType := none }, accessFlags := 1, code := none }
def k1c1 : Code := { maxStack := 3, maxLocals := 10, code := code, exceptionTable := #[], attributes := #[] }
def k1m1 : Method := { name := "law", desc := "(III)Z", sig := { parameters := [.int, .int, .int], returnType := some .boolean }, accessFlags := 9, code := some k1c1 }
def k1c2 : Code := { maxStack := 6, maxLocals := 5, code := method_3_code, exceptionTable := #[], attributes := #[] }
def k1m2 : Method := { name := "tag", desc := "(I)Ljava/lang/String;", sig := { parameters := [.int], returnType := some (.object "java/lang/String") }, accessFlags := 10, code := some k1c2 }
def k1c3 : Code := { maxStack := 3, maxLocals := 4, code := method_4_code, exceptionTable := #[], attributes := #[] }
def k1m3 : Method := { name := "closing", desc := "(Ljava/lang/String;ILjava/lang/String;)Z", sig := { parameters := [(.object "java/lang/String"), .int, (.object "java/lang/String")], returnType := some .boolean }, accessFlags := 10, code := some k1c3 }
/-- com/example/quayside/quayside/web/HtmlClosePinLaw -/
def k1 : Class := { plain "com/example/quayside/quayside/web/HtmlClosePinLaw" (some 0) with
  accessFlags := 49
  interfaces := #[]
  cf := some (fileOf pool1 8 #[] #[{ accessFlags := 1, nameIndex := 5, descriptorIndex := 6, attributes := #[] }, { accessFlags := 9, nameIndex := 43, descriptorIndex := 44, attributes := #[] }, { accessFlags := 10, nameIndex := 11, descriptorIndex := 12, attributes := #[] }, { accessFlags := 10, nameIndex := 26, descriptorIndex := 27, attributes := #[] }] 49 2 #[] #[])
  fields := #[]
  methods := #[k1m0, k1m1, k1m2, k1m3]
  instanceTypes := #[]
  staticTypes := #[]
  resolved := Array.replicate 48 none
  statics := none }

def pool2 : Array CpInfo := pool [(1, .class_ 2), (0, u "java/io/Serializable"), (0, .class_ 4), (0, u "java/lang/Object")] 2

/-- java/io/Serializable -/
def k2 : Class := { plain "java/io/Serializable" (some 0) with
  accessFlags := 1537
  interfaces := #[]
  cf := some (fileOf pool2 1 #[] #[] 1537 3 #[] #[])
  fields := #[]
  methods := #[]
  instanceTypes := #[]
  staticTypes := #[]
  resolved := Array.replicate 7 none
  statics := none }

def pool3 : Array CpInfo := pool [(1, .class_ 2), (0, u "java/lang/Comparable"), (0, .class_ 4), (0, u "java/lang/Object")] 7

/-- java/lang/Comparable -/
def k3 : Class := { plain "java/lang/Comparable" (some 0) with
  accessFlags := 1537
  interfaces := #[]
  cf := some (fileOf pool3 1 #[] #[] 1537 3 #[] #[])
  fields := #[]
  methods := #[]
  instanceTypes := #[]
  staticTypes := #[]
  resolved := Array.replicate 12 none
  statics := none }

def pool4 : Array CpInfo := pool [(2, .class_ 4), (1, u "java/lang/CharSequence"), (42, .class_ 48), (0, u "java/lang/CharSequence$1CodePointIterator"), (10, .class_ 60), (0, u "java/lang/CharSequence$1CharIterator"), (5, .class_ 67), (0, u "java/lang/Object")] 63

/-- java/lang/CharSequence -/
def k4 : Class := { plain "java/lang/CharSequence" (some 0) with
  accessFlags := 1537
  interfaces := #[]
  cf := some (fileOf pool4 2 #[.nestMembers #[47, 59]] #[] 1537 66 #[] #[])
  fields := #[]
  methods := #[]
  instanceTypes := #[]
  staticTypes := #[]
  resolved := Array.replicate 131 none
  statics := none }

def pool5 : Array CpInfo := pool [(1, .class_ 2), (0, u "java/lang/constant/Constable"), (0, .class_ 4), (0, u "java/lang/Object")] 6

/-- java/lang/constant/Constable -/
def k5 : Class := { plain "java/lang/constant/Constable" (some 0) with
  accessFlags := 1537
  interfaces := #[]
  cf := some (fileOf pool5 1 #[] #[] 1537 3 #[] #[])
  fields := #[]
  methods := #[]
  instanceTypes := #[]
  staticTypes := #[]
  resolved := Array.replicate 11 none
  statics := none }

def pool6 : Array CpInfo := pool [(1, .class_ 2), (0, u "java/lang/constant/ConstantDesc"), (0, .class_ 4), (0, u "java/lang/Object")] 32

/-- java/lang/constant/ConstantDesc -/
def k6 : Class := { plain "java/lang/constant/ConstantDesc" (some 0) with
  accessFlags := 1537
  interfaces := #[]
  cf := some (fileOf pool6 1 #[] #[] 1537 3 #[] #[])
  fields := #[]
  methods := #[]
  instanceTypes := #[]
  staticTypes := #[]
  resolved := Array.replicate 37 none
  statics := none }

def pool7 : Array CpInfo := pool [(1, .methodref 2 3), (0, .class_ 4), (0, .nameAndType 5 6), (0, u "java/lang/Object"), (0, u "<init>"), (0, u "()V"), (0, .string 8), (0, u ""), (0, .fieldref 10 11), (0, .class_ 12), (0, .nameAndType 13 14), (0, u "java/lang/String"), (0, u "value"), (0, u "[B"), (0, .fieldref 10 16), (0, .nameAndType 17 18), (0, u "coder"), (0, u "B"), (2, u "hash"), (0, u "I"), (2, u "hashIsZero"), (0, u "Z"), (0, .methodref 10 28), (0, .nameAndType 5 29), (0, u "([CIILjava/lang/Void;)V"), (8, .fieldref 10 39), (0, .nameAndType 40 26), (0, u "COMPACT_STRINGS"), (1, .class_ 44), (1, u "java/lang/StringUTF16"), (0, u "compress"), (1, .methodref 42 48), (0, .nameAndType 49 50), (0, u "coderFromArrayLen"), (0, u "([BI)B"), (3, .methodref 55 56), (0, .class_ 57), (0, .nameAndType 58 59), (0, u "java/util/Arrays"), (0, u "copyOfRange"), (0, u "([BII)[B"), (47, .class_ 109), (1, u "java/lang/StringLatin1"), (32, u "()Z"), (34, .methodref 42 178), (0, .nameAndType 45 179), (0, u "([CII)[B"), (13, .class_ 195), (1, u "java/lang/System"), (16, .methodref 193 213), (0, .nameAndType 214 215), (0, u "arraycopy"), (0, u "(Ljava/lang/Object;ILjava/lang/Object;II)V"), (118, u "()I"), (0, .methodref 10 336), (0, .nameAndType 17 337), (0, u "()B"), (2, u "()[B"), (22, u "([BI)C"), (27, u "(II)V"), (35, u "(I)C"), (61, .methodref 10 490), (0, .nameAndType 5 491), (0, u "(Ljava/lang/AbstractStringBuilder;Ljava/lang/Void;)V"), (0, .methodref 10 493), (0, .nameAndType 494 142), (0, u "isLatin1"), (0, .methodref 107 496), (0, .nameAndType 497 363), (0, u "charAt"), (3, u "checkIndex"), (4, .nameAndType 507 334), (0, u "length"), (24, u "getBytes"), (16, .methodref 550 506), (0, .class_ 551), (0, u "java/lang/AbstractStringBuilder"), (0, .methodref 550 553), (0, .nameAndType 554 340), (0, u "getValue"), (20, .class_ 576), (0, u "java/lang/CharSequence"), (22, u "CASE_INSENSITIVE_ORDER"), (0, u "Ljava/util/Comparator;"), (220, u "([BIB)V"), (188, u "([C)V"), (36, .methodref 550 493), (5, .fieldref 1054 1055), (0, .class_ 1056), (0, .nameAndType 1057 1058), (0, u "jdk/internal/util/Preconditions"), (0, u "SIOOBE_FORMATTER"), (0, u "Ljava/util/function/BiFunction;"), (0, .methodref 1054 1060), (0, .nameAndType 501 1061), (0, u "(IILjava/util/function/BiFunction;)I"), (39, u "serialPersistentFields"), (0, u "[Ljava/io/ObjectStreamField;"), (0, .class_ 1104), (0, u "java/lang/String$CaseInsensitiveComparator"), (1, .class_ 1107), (0, u "java/io/Serializable"), (0, .class_ 1109), (0, u "java/lang/Comparable"), (0, .class_ 1111), (0, u "java/lang/constant/Constable"), (0, .class_ 1113), (0, u "java/lang/constant/ConstantDesc"), (2, u "serialVersionUID"), (0, u "J"), (3, u "REPL"), (0, u "C"), (2, u "LATIN1"), (1, u "UTF16"), (105, u "(Ljava/lang/StringBuilder;)V")] 217

def k7m0 : Method := { name := "<init>", desc := "()V", sig := { parameters := [], returnType := none }, accessFlags := 1, code := none }
def k7c1 : Code := { maxStack := 5, maxLocals := 2, code := jdk_42_method_3_code, exceptionTable := #[], attributes := #[] }
def k7m1 : Method := { name := "<init>", desc := "([C)V", sig := { parameters := [(.array .char)], returnType := none }, accessFlags := 1, code := some k7c1 }
def k7c2 : Code := { maxStack := 3, maxLocals := 2, code := jdk_42_method_53_code, exceptionTable := #[], attributes := #[] }
def k7m2 : Method := { name := "<init>", desc := "(Ljava/lang/StringBuilder;)V", sig := { parameters := [(.object "java/lang/StringBuilder")], returnType := none }, accessFlags := 1, code := some k7c2 }
def k7c3 : Code := { maxStack := 2, maxLocals := 1, code := jdk_42_method_54_code, exceptionTable := #[], attributes := #[] }
def k7m3 : Method := { name := "length", desc := "()I", sig := { parameters := [], returnType := some .int }, accessFlags := 1, code := some k7c3 }
def k7c4 : Code := { maxStack := 2, maxLocals := 2, code := jdk_42_method_56_code, exceptionTable := #[], attributes := #[] }
def k7m4 : Method := { name := "charAt", desc := "(I)C", sig := { parameters := [.int], returnType := some .char }, accessFlags := 1, code := some k7c4 }
def k7c5 : Code := { maxStack := 5, maxLocals := 4, code := jdk_42_method_147_code, exceptionTable := #[], attributes := #[] }
def k7m5 : Method := { name := "getBytes", desc := "([BIB)V", sig := { parameters := [(.array .byte), .int, .byte], returnType := none }, accessFlags := 0, code := some k7c5 }
def k7c6 : Code := { maxStack := 4, maxLocals := 6, code := jdk_42_method_149_code, exceptionTable := #[], attributes := #[] }
def k7m6 : Method := { name := "<init>", desc := "([CIILjava/lang/Void;)V", sig := { parameters := [(.array .char), .int, .int, (.object "java/lang/Void")], returnType := none }, accessFlags := 2, code := some k7c6 }
def k7c7 : Code := { maxStack := 5, maxLocals := 5, code := jdk_42_method_150_code, exceptionTable := #[], attributes := #[] }
def k7m7 : Method := { name := "<init>", desc := "(Ljava/lang/AbstractStringBuilder;Ljava/lang/Void;)V", sig := { parameters := [(.object "java/lang/AbstractStringBuilder"), (.object "java/lang/Void")], returnType := none }, accessFlags := 0, code := some k7c7 }
def k7c8 : Code := { maxStack := 1, maxLocals := 1, code := jdk_42_method_152_code, exceptionTable := #[], attributes := #[] }
def k7m8 : Method := { name := "coder", desc := "()B", sig := { parameters := [], returnType := some .byte }, accessFlags := 0, code := some k7c8 }
def k7c9 : Code := { maxStack := 1, maxLocals := 1, code := jdk_42_method_154_code, exceptionTable := #[], attributes := #[] }
def k7m9 : Method := { name := "isLatin1", desc := "()Z", sig := { parameters := [], returnType := some .boolean }, accessFlags := 0, code := some k7c9 }
def k7c10 : Code := { maxStack := 3, maxLocals := 2, code := jdk_42_method_155_code, exceptionTable := #[], attributes := #[] }
def k7m10 : Method := { name := "checkIndex", desc := "(II)V", sig := { parameters := [.int, .int], returnType := none }, accessFlags := 8, code := some k7c10 }
/-- java/lang/String -/
def k7 : Class := { plain "java/lang/String" (some 0) with
  accessFlags := 49
  interfaces := #[2, 3, 4, 5, 6]
  cf := some (fileOf pool7 10 #[.nestMembers #[1103]] #[{ accessFlags := 1, nameIndex := 5, descriptorIndex := 6, attributes := #[] }, { accessFlags := 1, nameIndex := 5, descriptorIndex := 1010, attributes := #[] }, { accessFlags := 1, nameIndex := 5, descriptorIndex := 1233, attributes := #[] }, { accessFlags := 1, nameIndex := 507, descriptorIndex := 334, attributes := #[] }, { accessFlags := 1, nameIndex := 497, descriptorIndex := 427, attributes := #[] }, { accessFlags := 0, nameIndex := 532, descriptorIndex := 821, attributes := #[] }, { accessFlags := 2, nameIndex := 5, descriptorIndex := 29, attributes := #[] }, { accessFlags := 0, nameIndex := 5, descriptorIndex := 491, attributes := #[] }, { accessFlags := 0, nameIndex := 17, descriptorIndex := 337, attributes := #[] }, { accessFlags := 0, nameIndex := 494, descriptorIndex := 142, attributes := #[] }, { accessFlags := 8, nameIndex := 501, descriptorIndex := 391, attributes := #[] }] 49 2 #[1106, 1108, 575, 1110, 1112] #[{ accessFlags := 18, nameIndex := 13, descriptorIndex := 14, attributes := #[] }, { accessFlags := 18, nameIndex := 17, descriptorIndex := 18, attributes := #[] }, { accessFlags := 2, nameIndex := 21, descriptorIndex := 22, attributes := #[] }, { accessFlags := 2, nameIndex := 25, descriptorIndex := 26, attributes := #[] }, { accessFlags := 26, nameIndex := 1116, descriptorIndex := 1117, attributes := #[] }, { accessFlags := 24, nameIndex := 40, descriptorIndex := 26, attributes := #[] }, { accessFlags := 26, nameIndex := 1101, descriptorIndex := 1102, attributes := #[] }, { accessFlags := 26, nameIndex := 1121, descriptorIndex := 1122, attributes := #[] }, { accessFlags := 25, nameIndex := 599, descriptorIndex := 600, attributes := #[] }, { accessFlags := 24, nameIndex := 1125, descriptorIndex := 18, attributes := #[] }, { accessFlags := 24, nameIndex := 1127, descriptorIndex := 18, attributes := #[] }])
  fields := #[{ name := "value", type := (.array .byte), accessFlags := 18, slot := 0, constantValue := 0 }, { name := "coder", type := .byte, accessFlags := 18, slot := 1, constantValue := 0 }, { name := "hash", type := .int, accessFlags := 2, slot := 2, constantValue := 0 }, { name := "hashIsZero", type := .boolean, accessFlags := 2, slot := 3, constantValue := 0 }, { name := "serialVersionUID", type := .long, accessFlags := 26, slot := 0, constantValue := 0 }, { name := "COMPACT_STRINGS", type := .boolean, accessFlags := 24, slot := 1, constantValue := 0 }, { name := "serialPersistentFields", type := (.array (.object "java/io/ObjectStreamField")), accessFlags := 26, slot := 2, constantValue := 0 }, { name := "REPL", type := .char, accessFlags := 26, slot := 3, constantValue := 0 }, { name := "CASE_INSENSITIVE_ORDER", type := (.object "java/util/Comparator"), accessFlags := 25, slot := 4, constantValue := 0 }, { name := "LATIN1", type := .byte, accessFlags := 24, slot := 5, constantValue := 0 }, { name := "UTF16", type := .byte, accessFlags := 24, slot := 6, constantValue := 0 }]
  methods := #[k7m0, k7m1, k7m2, k7m3, k7m4, k7m5, k7m6, k7m7, k7m8, k7m9, k7m10]
  instanceTypes := #[(.array .byte), .byte, .int, .boolean]
  staticTypes := #[.long, .boolean, (.array (.object "java/io/ObjectStreamField")), .char, (.object "java/util/Comparator"), .byte, .byte]
  resolved := Array.replicate 1451 none
  statics := some 0 }

def pool8 : Array CpInfo := pool [(1, .methodref 2 3), (0, .class_ 4), (0, .nameAndType 5 6), (0, u "java/lang/Object"), (0, u "<init>"), (0, u "()V"), (0, .class_ 8), (0, u "java/lang/StringBuilder"), (0, .methodref 7 3), (0, .fieldref 11 12), (0, .class_ 13), (0, .nameAndType 14 15), (0, u "com/example/quayside/quayside/web/Html"), (0, u "html"), (0, u "Ljava/lang/StringBuilder;"), (0, .methodref 7 17), (0, .nameAndType 18 19), (0, u "append"), (0, u "(C)Ljava/lang/StringBuilder;"), (0, .methodref 7 21), (0, .nameAndType 18 22), (0, u "(Ljava/lang/String;)Ljava/lang/StringBuilder;"), (6, .string 30), (0, u "</"), (7, u "(Ljava/lang/String;)Lcom/example/quayside/quayside/web/Html;"), (2, u "close"), (0, .methodref 7 43), (0, .nameAndType 44 45), (0, u "toString"), (0, u "()Ljava/lang/String;")] 30

def k8c0 : Code := { maxStack := 3, maxLocals := 1, code := prog_35_method_1_code, exceptionTable := #[], attributes := #[] }
def k8m0 : Method := { name := "<init>", desc := "()V", sig := { parameters := [], returnType := none }, accessFlags := 0, code := some k8c0 }
def k8c1 : Code := { maxStack := 2, maxLocals := 2, code := prog_35_method_3_code, exceptionTable := #[], attributes := #[] }
def k8m1 : Method := { name := "close", desc := "(Ljava/lang/String;)Lcom/example/quayside/quayside/web/Html;", sig := { parameters := [(.object "java/lang/String")], returnType := some (.object "com/example/quayside/quayside/web/Html") }, accessFlags := 0, code := some k8c1 }
def k8c2 : Code := { maxStack := 1, maxLocals := 1, code := prog_35_method_6_code, exceptionTable := #[], attributes := #[] }
def k8m2 : Method := { name := "toString", desc := "()Ljava/lang/String;", sig := { parameters := [], returnType := some (.object "java/lang/String") }, accessFlags := 1, code := some k8c2 }
/-- com/example/quayside/quayside/web/Html -/
def k8 : Class := { plain "com/example/quayside/quayside/web/Html" (some 0) with
  accessFlags := 48
  interfaces := #[]
  cf := some (fileOf pool8 11 #[] #[{ accessFlags := 0, nameIndex := 5, descriptorIndex := 6, attributes := #[] }, { accessFlags := 0, nameIndex := 41, descriptorIndex := 38, attributes := #[] }, { accessFlags := 1, nameIndex := 44, descriptorIndex := 45, attributes := #[] }] 48 2 #[] #[{ accessFlags := 18, nameIndex := 14, descriptorIndex := 15, attributes := #[] }])
  fields := #[{ name := "html", type := (.object "java/lang/StringBuilder"), accessFlags := 18, slot := 0, constantValue := 0 }]
  methods := #[k8m0, k8m1, k8m2]
  instanceTypes := #[(.object "java/lang/StringBuilder")]
  staticTypes := #[]
  resolved := Array.replicate 76 none
  statics := none }

def pool9 : Array CpInfo := pool [(1, .class_ 2), (0, u "java/lang/Appendable"), (0, .class_ 4), (0, u "java/lang/Object")] 9

/-- java/lang/Appendable -/
def k9 : Class := { plain "java/lang/Appendable" (some 0) with
  accessFlags := 1537
  interfaces := #[]
  cf := some (fileOf pool9 1 #[] #[] 1537 3 #[] #[])
  fields := #[]
  methods := #[]
  instanceTypes := #[]
  staticTypes := #[]
  resolved := Array.replicate 14 none
  statics := none }

def pool10 : Array CpInfo := pool [(1, .class_ 2), (0, u "java/lang/String"), (0, .methodref 4 5), (0, .class_ 6), (0, .nameAndType 7 8), (0, u "java/lang/Object"), (0, u "<init>"), (0, u "()V"), (1, .class_ 12), (1, u "java/lang/AbstractStringBuilder"), (0, u "EMPTYVALUE"), (0, u "[B"), (0, .fieldref 10 16), (0, .nameAndType 17 14), (0, u "value"), (0, .fieldref 1 19), (0, .nameAndType 20 21), (0, u "COMPACT_STRINGS"), (0, u "Z"), (0, .fieldref 10 23), (0, .nameAndType 24 25), (0, u "coder"), (0, u "B"), (6, .methodref 1 33), (0, .nameAndType 34 35), (0, u "length"), (0, u "()I"), (4, .methodref 1 41), (0, .nameAndType 24 42), (0, u "()B"), (2, u "append"), (0, u "(Ljava/lang/String;)Ljava/lang/AbstractStringBuilder;"), (1, .class_ 49), (0, u "java/lang/CharSequence"), (19, u "(Ljava/lang/String;)V"), (5, u "maybeLatin1"), (3, .fieldref 10 80), (0, .nameAndType 81 82), (0, u "count"), (0, u "I"), (0, .methodref 10 84), (0, .nameAndType 85 86), (0, u "isLatin1"), (0, u "()Z"), (1, .class_ 90), (1, u "java/lang/StringLatin1"), (9, .methodref 10 101), (0, .nameAndType 102 103), (0, u "ensureCapacityInternal"), (0, u "(I)V"), (87, .methodref 88 192), (0, .nameAndType 193 194), (0, u "canEncode"), (0, u "(C)Z"), (13, .methodref 10 209), (0, .nameAndType 210 211), (0, u "putStringAt"), (0, u "(ILjava/lang/String;)V"), (5, u "inflateIfNeededFor"), (2, .nameAndType 221 222), (0, u "getBytes"), (0, u "([BIB)V"), (69, u "(C)Ljava/lang/AbstractStringBuilder;"), (104, .methodref 10 398), (0, .nameAndType 217 69), (0, .methodref 1 220), (3, u "()[B"), (40, .class_ 445), (0, u "java/lang/Appendable"), (106, u "getValue")] 56

def k10m0 : Method := { name := "<init>", desc := "()V", sig := { parameters := [], returnType := none }, accessFlags := 0, code := none }
def k10c1 : Code := { maxStack := 2, maxLocals := 2, code := jdk_68_method_2_code, exceptionTable := #[], attributes := #[] }
def k10m1 : Method := { name := "<init>", desc := "(I)V", sig := { parameters := [.int], returnType := none }, accessFlags := 0, code := some k10c1 }
def k10c2 : Code := { maxStack := 1, maxLocals := 1, code := jdk_68_method_6_code, exceptionTable := #[], attributes := #[] }
def k10m2 : Method := { name := "length", desc := "()I", sig := { parameters := [], returnType := some .int }, accessFlags := 1, code := some k10c2 }
def k10c3 : Code := { maxStack := 4, maxLocals := 3, code := jdk_68_method_9_code, exceptionTable := #[], attributes := #[] }
def k10m3 : Method := { name := "ensureCapacityInternal", desc := "(I)V", sig := { parameters := [.int], returnType := none }, accessFlags := 2, code := some k10c3 }
def k10c4 : Code := { maxStack := 3, maxLocals := 3, code := jdk_68_method_22_code, exceptionTable := #[], attributes := #[] }
def k10m4 : Method := { name := "append", desc := "(Ljava/lang/String;)Ljava/lang/AbstractStringBuilder;", sig := { parameters := [(.object "java/lang/String")], returnType := some (.object "java/lang/AbstractStringBuilder") }, accessFlags := 1, code := some k10c4 }
def k10c5 : Code := { maxStack := 5, maxLocals := 2, code := jdk_68_method_31_code, exceptionTable := #[], attributes := #[] }
def k10m5 : Method := { name := "append", desc := "(C)Ljava/lang/AbstractStringBuilder;", sig := { parameters := [.char], returnType := some (.object "java/lang/AbstractStringBuilder") }, accessFlags := 1, code := some k10c5 }
def k10c6 : Code := { maxStack := 1, maxLocals := 1, code := jdk_68_method_64_code, exceptionTable := #[], attributes := #[] }
def k10m6 : Method := { name := "getValue", desc := "()[B", sig := { parameters := [], returnType := some (.array .byte) }, accessFlags := 16, code := some k10c6 }
def k10c7 : Code := { maxStack := 1, maxLocals := 1, code := jdk_68_method_68_code, exceptionTable := #[], attributes := #[] }
def k10m7 : Method := { name := "isLatin1", desc := "()Z", sig := { parameters := [], returnType := some .boolean }, accessFlags := 16, code := some k10c7 }
def k10c8 : Code := { maxStack := 2, maxLocals := 2, code := jdk_68_method_71_code, exceptionTable := #[], attributes := #[] }
def k10m8 : Method := { name := "inflateIfNeededFor", desc := "(Ljava/lang/String;)V", sig := { parameters := [(.object "java/lang/String")], returnType := none }, accessFlags := 2, code := some k10c8 }
def k10c9 : Code := { maxStack := 4, maxLocals := 3, code := jdk_68_method_73_code, exceptionTable := #[], attributes := #[] }
def k10m9 : Method := { name := "putStringAt", desc := "(ILjava/lang/String;)V", sig := { parameters := [.int, (.object "java/lang/String")], returnType := none }, accessFlags := 2, code := some k10c9 }
/-- java/lang/AbstractStringBuilder -/
def k10 : Class := { plain "java/lang/AbstractStringBuilder" (some 0) with
  accessFlags := 1056
  interfaces := #[9, 4]
  cf := some (fileOf pool10 10 #[] #[{ accessFlags := 0, nameIndex := 7, descriptorIndex := 8, attributes := #[] }, { accessFlags := 0, nameIndex := 7, descriptorIndex := 103, attributes := #[] }, { accessFlags := 1, nameIndex := 34, descriptorIndex := 35, attributes := #[] }, { accessFlags := 2, nameIndex := 102, descriptorIndex := 103, attributes := #[] }, { accessFlags := 1, nameIndex := 45, descriptorIndex := 46, attributes := #[] }, { accessFlags := 1, nameIndex := 45, descriptorIndex := 292, attributes := #[] }, { accessFlags := 16, nameIndex := 552, descriptorIndex := 403, attributes := #[] }, { accessFlags := 16, nameIndex := 85, descriptorIndex := 86, attributes := #[] }, { accessFlags := 2, nameIndex := 217, descriptorIndex := 69, attributes := #[] }, { accessFlags := 2, nameIndex := 210, descriptorIndex := 211, attributes := #[] }] 1056 4 #[444, 48] #[{ accessFlags := 0, nameIndex := 17, descriptorIndex := 14, attributes := #[] }, { accessFlags := 0, nameIndex := 24, descriptorIndex := 25, attributes := #[] }, { accessFlags := 0, nameIndex := 75, descriptorIndex := 21, attributes := #[] }, { accessFlags := 0, nameIndex := 81, descriptorIndex := 82, attributes := #[] }, { accessFlags := 26, nameIndex := 13, descriptorIndex := 14, attributes := #[] }])
  fields := #[{ name := "value", type := (.array .byte), accessFlags := 0, slot := 0, constantValue := 0 }, { name := "coder", type := .byte, accessFlags := 0, slot := 1, constantValue := 0 }, { name := "maybeLatin1", type := .boolean, accessFlags := 0, slot := 2, constantValue := 0 }, { name := "count", type := .int, accessFlags := 0, slot := 3, constantValue := 0 }, { name := "EMPTYVALUE", type := (.array .byte), accessFlags := 26, slot := 0, constantValue := 0 }]
  methods := #[k10m0, k10m1, k10m2, k10m3, k10m4, k10m5, k10m6, k10m7, k10m8, k10m9]
  instanceTypes := #[(.array .byte), .byte, .boolean, .int]
  staticTypes := #[(.array .byte)]
  resolved := Array.replicate 609 none
  statics := none }

def pool11 : Array CpInfo := pool [(1, .methodref 2 3), (0, .class_ 4), (0, .nameAndType 5 6), (0, u "java/lang/AbstractStringBuilder"), (0, u "<init>"), (0, u "(I)V"), (11, .class_ 20), (1, u "java/lang/String"), (3, .class_ 26), (1, u "java/lang/StringBuilder"), (0, u "append"), (0, u "(Ljava/lang/String;)Ljava/lang/StringBuilder;"), (0, .methodref 2 30), (0, .nameAndType 27 31), (0, u "(Ljava/lang/String;)Ljava/lang/AbstractStringBuilder;"), (18, .methodref 2 51), (0, .nameAndType 27 52), (0, u "(C)Ljava/lang/AbstractStringBuilder;"), (84, .methodref 18 138), (0, .nameAndType 5 139), (0, u "(Ljava/lang/StringBuilder;)V"), (5, u "()V"), (10, u "()I"), (129, u "(C)Ljava/lang/StringBuilder;"), (56, .methodref 2 344), (0, .nameAndType 345 156), (0, u "length"), (3, .class_ 350), (0, u "java/lang/Appendable"), (0, .class_ 352), (0, u "java/io/Serializable"), (0, .class_ 354), (0, u "java/lang/Comparable"), (0, .class_ 356), (0, u "java/lang/CharSequence"), (0, u "serialVersionUID"), (0, u "J"), (40, u "toString"), (0, u "()Ljava/lang/String;")] 21

def k11c0 : Code := { maxStack := 2, maxLocals := 1, code := jdk_67_method_1_code, exceptionTable := #[], attributes := #[] }
def k11m0 : Method := { name := "<init>", desc := "()V", sig := { parameters := [], returnType := none }, accessFlags := 1, code := some k11c0 }
def k11c1 : Code := { maxStack := 2, maxLocals := 2, code := jdk_67_method_7_code, exceptionTable := #[], attributes := #[] }
def k11m1 : Method := { name := "append", desc := "(Ljava/lang/String;)Ljava/lang/StringBuilder;", sig := { parameters := [(.object "java/lang/String")], returnType := some (.object "java/lang/StringBuilder") }, accessFlags := 1, code := some k11c1 }
def k11c2 : Code := { maxStack := 2, maxLocals := 2, code := jdk_67_method_14_code, exceptionTable := #[], attributes := #[] }
def k11m2 : Method := { name := "append", desc := "(C)Ljava/lang/StringBuilder;", sig := { parameters := [.char], returnType := some (.object "java/lang/StringBuilder") }, accessFlags := 1, code := some k11c2 }
def k11c3 : Code := { maxStack := 3, maxLocals := 1, code := jdk_67_method_42_code, exceptionTable := #[], attributes := #[] }
def k11m3 : Method := { name := "toString", desc := "()Ljava/lang/String;", sig := { parameters := [], returnType := some (.object "java/lang/String") }, accessFlags := 1, code := some k11c3 }
def k11c4 : Code := { maxStack := 1, maxLocals := 1, code := jdk_67_method_93_code, exceptionTable := #[], attributes := #[] }
def k11m4 : Method := { name := "length", desc := "()I", sig := { parameters := [], returnType := some .int }, accessFlags := 4161, code := some k11c4 }
/-- java/lang/StringBuilder -/
def k11 : Class := { plain "java/lang/StringBuilder" (some 10) with
  accessFlags := 49
  interfaces := #[9, 2, 3, 4]
  cf := some (fileOf pool11 24 #[] #[{ accessFlags := 1, nameIndex := 5, descriptorIndex := 145, attributes := #[] }, { accessFlags := 1, nameIndex := 27, descriptorIndex := 28, attributes := #[] }, { accessFlags := 1, nameIndex := 27, descriptorIndex := 286, attributes := #[] }, { accessFlags := 1, nameIndex := 399, descriptorIndex := 400, attributes := #[] }, { accessFlags := 4161, nameIndex := 345, descriptorIndex := 156, attributes := #[] }] 49 2 #[349, 351, 353, 355] #[{ accessFlags := 24, nameIndex := 357, descriptorIndex := 358, attributes := #[] }])
  fields := #[{ name := "serialVersionUID", type := .long, accessFlags := 24, slot := 0, constantValue := 0 }]
  methods := #[k11m0, k11m1, k11m2, k11m3, k11m4]
  instanceTypes := #[(.array .byte), .byte, .boolean, .int]
  staticTypes := #[.long]
  resolved := Array.replicate 422 none
  statics := none }

def pool12 : Array CpInfo := pool [(2, .class_ 4), (1, u "java/lang/Object"), (0, u "<init>"), (0, u "()V"), (1, .class_ 10), (1, u "java/lang/System"), (0, u "allowSecurityManager"), (0, u "I"), (16, u "cons"), (0, u "Ljava/io/Console;"), (77, .class_ 110), (1, u "java/lang/System$CallersHolder"), (43, u "initialErrStream"), (0, u "Ljava/io/PrintStream;"), (19, u "security"), (0, u "Ljava/lang/SecurityManager;"), (31, .class_ 209), (0, u "java/lang/System$1"), (7, u "props"), (0, u "Ljava/util/Properties;"), (2, u "lineSeparator"), (0, u "Ljava/lang/String;"), (96, .class_ 321), (1, u "java/lang/System$LoggerFinder"), (5, .class_ 328), (0, u "java/lang/System$Logger"), (67, u "err"), (2, u "out"), (91, u "notSupportedJnuEncoding"), (15, u "in"), (17, u "initialIn"), (0, u "Ljava/io/InputStream;"), (35, u "bootLayer"), (0, u "Ljava/lang/ModuleLayer;"), (99, .class_ 664), (0, u "java/lang/System$2"), (9, u "NEVER"), (2, u "MAYBE"), (49, u "arraycopy"), (0, u "(Ljava/lang/Object;ILjava/lang/Object;II)V"), (72, .class_ 802), (0, u "java/lang/System$Logger$Level")] 31

def k12m0 : Method := { name := "<init>", desc := "()V", sig := { parameters := [], returnType := none }, accessFlags := 2, code := none }
def k12m1 : Method := { name := "arraycopy", desc := "(Ljava/lang/Object;ILjava/lang/Object;II)V", sig := { parameters := [(.object "java/lang/Object"), .int, (.object "java/lang/Object"), .int, .int], returnType := none }, accessFlags := 265, code := none }
/-- java/lang/System -/
def k12 : Class := { plain "java/lang/System" (some 0) with
  accessFlags := 49
  interfaces := #[]
  cf := some (fileOf pool12 8 #[.nestMembers #[319, 327, 801, 108, 663, 208]] #[{ accessFlags := 2, nameIndex := 5, descriptorIndex := 6, attributes := #[] }, { accessFlags := 265, nameIndex := 727, descriptorIndex := 728, attributes := #[] }] 49 2 #[] #[{ accessFlags := 25, nameIndex := 507, descriptorIndex := 526, attributes := #[] }, { accessFlags := 25, nameIndex := 399, descriptorIndex := 155, attributes := #[] }, { accessFlags := 25, nameIndex := 396, descriptorIndex := 155, attributes := #[] }, { accessFlags := 10, nameIndex := 525, descriptorIndex := 526, attributes := #[] }, { accessFlags := 26, nameIndex := 674, descriptorIndex := 12, attributes := #[] }, { accessFlags := 26, nameIndex := 677, descriptorIndex := 12, attributes := #[] }, { accessFlags := 10, nameIndex := 11, descriptorIndex := 12, attributes := #[] }, { accessFlags := 74, nameIndex := 175, descriptorIndex := 176, attributes := #[] }, { accessFlags := 10, nameIndex := 491, descriptorIndex := 222, attributes := #[] }, { accessFlags := 74, nameIndex := 29, descriptorIndex := 30, attributes := #[] }, { accessFlags := 74, nameIndex := 154, descriptorIndex := 155, attributes := #[] }, { accessFlags := 10, nameIndex := 217, descriptorIndex := 218, attributes := #[] }, { accessFlags := 10, nameIndex := 221, descriptorIndex := 222, attributes := #[] }, { accessFlags := 8, nameIndex := 562, descriptorIndex := 563, attributes := #[] }])
  fields := #[{ name := "in", type := (.object "java/io/InputStream"), accessFlags := 25, slot := 0, constantValue := 0 }, { name := "out", type := (.object "java/io/PrintStream"), accessFlags := 25, slot := 1, constantValue := 0 }, { name := "err", type := (.object "java/io/PrintStream"), accessFlags := 25, slot := 2, constantValue := 0 }, { name := "initialIn", type := (.object "java/io/InputStream"), accessFlags := 10, slot := 3, constantValue := 0 }, { name := "NEVER", type := .int, accessFlags := 26, slot := 4, constantValue := 0 }, { name := "MAYBE", type := .int, accessFlags := 26, slot := 5, constantValue := 0 }, { name := "allowSecurityManager", type := .int, accessFlags := 10, slot := 6, constantValue := 0 }, { name := "security", type := (.object "java/lang/SecurityManager"), accessFlags := 74, slot := 7, constantValue := 0 }, { name := "notSupportedJnuEncoding", type := (.object "java/lang/String"), accessFlags := 10, slot := 8, constantValue := 0 }, { name := "cons", type := (.object "java/io/Console"), accessFlags := 74, slot := 9, constantValue := 0 }, { name := "initialErrStream", type := (.object "java/io/PrintStream"), accessFlags := 74, slot := 10, constantValue := 0 }, { name := "props", type := (.object "java/util/Properties"), accessFlags := 10, slot := 11, constantValue := 0 }, { name := "lineSeparator", type := (.object "java/lang/String"), accessFlags := 10, slot := 12, constantValue := 0 }, { name := "bootLayer", type := (.object "java/lang/ModuleLayer"), accessFlags := 8, slot := 13, constantValue := 0 }]
  methods := #[k12m0, k12m1]
  instanceTypes := #[]
  staticTypes := #[(.object "java/io/InputStream"), (.object "java/io/PrintStream"), (.object "java/io/PrintStream"), (.object "java/io/InputStream"), .int, .int, .int, (.object "java/lang/SecurityManager"), (.object "java/lang/String"), (.object "java/io/Console"), (.object "java/io/PrintStream"), (.object "java/util/Properties"), (.object "java/lang/String"), (.object "java/lang/ModuleLayer")]
  resolved := Array.replicate 834 none
  statics := none }

def pool13 : Array CpInfo := pool [(1, .class_ 2), (0, u "java/lang/String"), (1, .class_ 6), (1, u "java/lang/Object"), (0, u "<init>"), (0, u "()V"), (0, .methodref 1 10), (0, .nameAndType 11 12), (0, u "checkIndex"), (0, u "(II)V"), (1, .class_ 16), (1, u "java/lang/StringLatin1"), (36, u "([BI)C"), (36, u "canEncode"), (14, u "(C)Z"), (15, u "$assertionsDisabled"), (0, u "Z"), (98, .class_ 223), (1, u "java/lang/StringLatin1$LinesSpliterator"), (28, u "charAt"), (137, .class_ 391), (0, u "java/lang/StringLatin1$CharsSpliterator")] 3

def k13m0 : Method := { name := "<init>", desc := "()V", sig := { parameters := [], returnType := none }, accessFlags := 0, code := none }
def k13c1 : Code := { maxStack := 2, maxLocals := 2, code := jdk_43_method_2_code, exceptionTable := #[], attributes := #[] }
def k13m1 : Method := { name := "charAt", desc := "([BI)C", sig := { parameters := [(.array .byte), .int], returnType := some .char }, accessFlags := 9, code := some k13c1 }
def k13c2 : Code := { maxStack := 2, maxLocals := 1, code := jdk_43_method_3_code, exceptionTable := #[], attributes := #[] }
def k13m2 : Method := { name := "canEncode", desc := "(C)Z", sig := { parameters := [.char], returnType := some .boolean }, accessFlags := 9, code := some k13c2 }
/-- java/lang/StringLatin1 -/
def k13 : Class := { plain "java/lang/StringLatin1" (some 0) with
  accessFlags := 48
  interfaces := #[]
  cf := some (fileOf pool13 14 #[.nestMembers #[390, 221]] #[{ accessFlags := 0, nameIndex := 7, descriptorIndex := 8, attributes := #[] }, { accessFlags := 9, nameIndex := 252, descriptorIndex := 53, attributes := #[] }, { accessFlags := 9, nameIndex := 90, descriptorIndex := 105, attributes := #[] }] 48 4 #[] #[{ accessFlags := 4120, nameIndex := 121, descriptorIndex := 122, attributes := #[] }])
  fields := #[{ name := "$assertionsDisabled", type := .boolean, accessFlags := 4120, slot := 0, constantValue := 0 }]
  methods := #[k13m0, k13m1, k13m2]
  instanceTypes := #[]
  staticTypes := #[.boolean]
  resolved := Array.replicate 395 none
  statics := none }

def pool14 : Array CpInfo := pool [(2, .class_ 4), (1, u "java/lang/Object"), (0, u "<init>"), (0, u "()V"), (7, .class_ 16), (1, u "java/util/Arrays"), (57, .class_ 76), (1, u "java/util/Arrays$NaturalOrder"), (36, .class_ 115), (1, u "java/util/Arrays$LegacyMergeSort"), (1, u "Z"), (21, u "copyOfRange"), (10, .methodref 151 152), (0, .class_ 153), (0, .nameAndType 154 155), (0, u "java/lang/System"), (0, u "arraycopy"), (0, u "(Ljava/lang/Object;ILjava/lang/Object;II)V"), (148, .methodref 305 306), (0, .class_ 307), (0, .nameAndType 308 309), (0, u "java/lang/Math"), (0, u "min"), (0, u "(II)I"), (29, .methodref 14 340), (0, .nameAndType 341 342), (0, u "copyOfRangeByte"), (0, u "([BII)[B"), (0, .methodref 14 344), (0, .nameAndType 345 346), (0, u "checkLength"), (0, u "(II)V"), (28, .class_ 376), (0, u "java/util/Arrays$ArrayList"), (68, u "$assertionsDisabled"), (269, u "MIN_ARRAY_SORT_GRAN"), (0, u "I"), (2, u "INSERTIONSORT_THRESHOLD"), (255, .class_ 976), (0, u "java/util/Arrays$ArrayItr")] 52

def k14m0 : Method := { name := "<init>", desc := "()V", sig := { parameters := [], returnType := none }, accessFlags := 2, code := none }
def k14c1 : Code := { maxStack := 4, maxLocals := 2, code := jdk_65_method_131_code, exceptionTable := #[], attributes := #[] }
def k14m1 : Method := { name := "checkLength", desc := "(II)V", sig := { parameters := [.int, .int], returnType := none }, accessFlags := 10, code := some k14c1 }
def k14c2 : Code := { maxStack := 3, maxLocals := 3, code := jdk_65_method_132_code, exceptionTable := #[], attributes := #[] }
def k14m2 : Method := { name := "copyOfRange", desc := "([BII)[B", sig := { parameters := [(.array .byte), .int, .int], returnType := some (.array .byte) }, accessFlags := 9, code := some k14c2 }
def k14c3 : Code := { maxStack := 6, maxLocals := 5, code := jdk_65_method_133_code, exceptionTable := #[], attributes := #[] }
def k14m3 : Method := { name := "copyOfRangeByte", desc := "([BII)[B", sig := { parameters := [(.array .byte), .int, .int], returnType := some (.array .byte) }, accessFlags := 10, code := some k14c3 }
/-- java/util/Arrays -/
def k14 : Class := { plain "java/util/Arrays" (some 0) with
  accessFlags := 49
  interfaces := #[]
  cf := some (fileOf pool14 14 #[.nestMembers #[975, 375, 113, 74]] #[{ accessFlags := 2, nameIndex := 5, descriptorIndex := 6, attributes := #[] }, { accessFlags := 10, nameIndex := 345, descriptorIndex := 346, attributes := #[] }, { accessFlags := 9, nameIndex := 139, descriptorIndex := 342, attributes := #[] }, { accessFlags := 10, nameIndex := 341, descriptorIndex := 342, attributes := #[] }] 49 2 #[] #[{ accessFlags := 26, nameIndex := 715, descriptorIndex := 716, attributes := #[] }, { accessFlags := 26, nameIndex := 719, descriptorIndex := 716, attributes := #[] }, { accessFlags := 4120, nameIndex := 445, descriptorIndex := 117, attributes := #[] }])
  fields := #[{ name := "MIN_ARRAY_SORT_GRAN", type := .int, accessFlags := 26, slot := 0, constantValue := 0 }, { name := "INSERTIONSORT_THRESHOLD", type := .int, accessFlags := 26, slot := 1, constantValue := 0 }, { name := "$assertionsDisabled", type := .boolean, accessFlags := 4120, slot := 2, constantValue := 0 }]
  methods := #[k14m0, k14m1, k14m2, k14m3]
  instanceTypes := #[]
  staticTypes := #[.int, .int, .boolean]
  resolved := Array.replicate 1029 none
  statics := none }

def pool15 : Array CpInfo := pool [(1, .class_ 2), (0, u "java/lang/Math"), (1, .class_ 6), (1, u "java/lang/Object"), (0, u "<init>"), (0, u "()V"), (89, .class_ 100), (1, u "java/lang/Math$RandomNumberGeneratorHolder"), (71, u "negativeZeroFloatBits"), (0, u "J"), (2, u "negativeZeroDoubleBits"), (24, u "min"), (43, u "$assertionsDisabled"), (0, u "Z"), (88, u "(II)I"), (2, u "twoToTheDoubleScaleDown"), (0, u "D"), (4, u "twoToTheDoubleScaleUp"), (9, u "E"), (3, u "PI"), (2, u "TAU"), (2, u "DEGREES_TO_RADIANS"), (0, u "RADIANS_TO_DEGREES")] 94

def k15m0 : Method := { name := "<init>", desc := "()V", sig := { parameters := [], returnType := none }, accessFlags := 2, code := none }
def k15c1 : Code := { maxStack := 2, maxLocals := 2, code := jdk_29_method_69_code, exceptionTable := #[], attributes := #[] }
def k15m1 : Method := { name := "min", desc := "(II)I", sig := { parameters := [.int, .int], returnType := some .int }, accessFlags := 9, code := some k15c1 }
/-- java/lang/Math -/
def k15 : Class := { plain "java/lang/Math" (some 0) with
  accessFlags := 49
  interfaces := #[]
  cf := some (fileOf pool15 1 #[.nestMembers #[98]] #[{ accessFlags := 2, nameIndex := 7, descriptorIndex := 8, attributes := #[] }, { accessFlags := 9, nameIndex := 201, descriptorIndex := 335, attributes := #[] }] 49 4 #[] #[{ accessFlags := 25, nameIndex := 354, descriptorIndex := 339, attributes := #[] }, { accessFlags := 25, nameIndex := 358, descriptorIndex := 339, attributes := #[] }, { accessFlags := 25, nameIndex := 361, descriptorIndex := 339, attributes := #[] }, { accessFlags := 26, nameIndex := 364, descriptorIndex := 339, attributes := #[] }, { accessFlags := 26, nameIndex := 365, descriptorIndex := 339, attributes := #[] }, { accessFlags := 26, nameIndex := 172, descriptorIndex := 173, attributes := #[] }, { accessFlags := 26, nameIndex := 176, descriptorIndex := 173, attributes := #[] }, { accessFlags := 8, nameIndex := 344, descriptorIndex := 339, attributes := #[] }, { accessFlags := 8, nameIndex := 338, descriptorIndex := 339, attributes := #[] }, { accessFlags := 4120, nameIndex := 245, descriptorIndex := 246, attributes := #[] }])
  fields := #[{ name := "E", type := .double, accessFlags := 25, slot := 0, constantValue := 0 }, { name := "PI", type := .double, accessFlags := 25, slot := 1, constantValue := 0 }, { name := "TAU", type := .double, accessFlags := 25, slot := 2, constantValue := 0 }, { name := "DEGREES_TO_RADIANS", type := .double, accessFlags := 26, slot := 3, constantValue := 0 }, { name := "RADIANS_TO_DEGREES", type := .double, accessFlags := 26, slot := 4, constantValue := 0 }, { name := "negativeZeroFloatBits", type := .long, accessFlags := 26, slot := 5, constantValue := 0 }, { name := "negativeZeroDoubleBits", type := .long, accessFlags := 26, slot := 6, constantValue := 0 }, { name := "twoToTheDoubleScaleUp", type := .double, accessFlags := 8, slot := 7, constantValue := 0 }, { name := "twoToTheDoubleScaleDown", type := .double, accessFlags := 8, slot := 8, constantValue := 0 }, { name := "$assertionsDisabled", type := .boolean, accessFlags := 4120, slot := 9, constantValue := 0 }]
  methods := #[k15m0, k15m1]
  instanceTypes := #[]
  staticTypes := #[.double, .double, .double, .double, .double, .long, .long, .double, .double, .boolean]
  resolved := Array.replicate 460 none
  statics := none }

def pool16 : Array CpInfo := pool [(2, .class_ 4), (1, u "java/lang/Object"), (0, u "<init>"), (0, u "()V"), (17, .class_ 26), (1, u "jdk/internal/util/Preconditions"), (6, u "checkIndex"), (21, .class_ 56), (0, u "jdk/internal/util/Preconditions$4"), (57, .class_ 115), (0, u "jdk/internal/util/Preconditions$1"), (7, u "SIOOBE_FORMATTER"), (0, u "Ljava/util/function/BiFunction;"), (0, .class_ 126), (0, u "jdk/internal/util/Preconditions$2"), (3, u "AIOOBE_FORMATTER"), (0, .class_ 132), (0, u "jdk/internal/util/Preconditions$3"), (3, u "IOOBE_FORMATTER"), (41, u "(IILjava/util/function/BiFunction;)I")] 15

def k16m0 : Method := { name := "<init>", desc := "()V", sig := { parameters := [], returnType := none }, accessFlags := 1, code := none }
def k16c1 : Code := { maxStack := 3, maxLocals := 3, code := jdk_41_method_11_code, exceptionTable := #[], attributes := #[] }
def k16m1 : Method := { name := "checkIndex", desc := "(IILjava/util/function/BiFunction;)I", sig := { parameters := [.int, .int, (.object "java/util/function/BiFunction")], returnType := some .int }, accessFlags := 9, code := some k16c1 }
/-- jdk/internal/util/Preconditions -/
def k16 : Class := { plain "jdk/internal/util/Preconditions" (some 0) with
  accessFlags := 33
  interfaces := #[]
  cf := some (fileOf pool16 24 #[.nestMembers #[55, 131, 125, 114]] #[{ accessFlags := 1, nameIndex := 5, descriptorIndex := 6, attributes := #[] }, { accessFlags := 9, nameIndex := 33, descriptorIndex := 178, attributes := #[] }] 33 2 #[] #[{ accessFlags := 25, nameIndex := 123, descriptorIndex := 124, attributes := #[] }, { accessFlags := 25, nameIndex := 130, descriptorIndex := 124, attributes := #[] }, { accessFlags := 25, nameIndex := 136, descriptorIndex := 124, attributes := #[] }])
  fields := #[{ name := "SIOOBE_FORMATTER", type := (.object "java/util/function/BiFunction"), accessFlags := 25, slot := 0, constantValue := 0 }, { name := "AIOOBE_FORMATTER", type := (.object "java/util/function/BiFunction"), accessFlags := 25, slot := 1, constantValue := 0 }, { name := "IOOBE_FORMATTER", type := (.object "java/util/function/BiFunction"), accessFlags := 25, slot := 2, constantValue := 0 }]
  methods := #[k16m0, k16m1]
  instanceTypes := #[]
  staticTypes := #[(.object "java/util/function/BiFunction"), (.object "java/util/function/BiFunction"), (.object "java/util/function/BiFunction")]
  resolved := Array.replicate 194 none
  statics := some 1 }

def pool17 : Array CpInfo := pool [(6, .class_ 8), (1, u "java/lang/Object"), (0, u "<init>"), (0, u "()V"), (1, .class_ 14), (1, u "java/lang/StringUTF16"), (31, u "$assertionsDisabled"), (0, u "Z"), (13, u "HI_BYTE_SHIFT"), (0, u "I"), (2, u "LO_BYTE_SHIFT"), (49, .methodref 12 116), (0, .nameAndType 117 118), (0, u "compress"), (0, u "([CI[BII)I"), (3, u "([CII)[B"), (138, u "coderFromArrayLen"), (0, u "([BI)B"), (106, .class_ 371), (1, u "java/lang/StringUTF16$LinesSpliterator"), (58, u "MAX_LENGTH"), (196, .class_ 628), (0, u "java/lang/StringUTF16$CodePointsSpliterator"), (0, .class_ 630), (0, u "java/lang/StringUTF16$CharsSpliterator")] 4

def k17m0 : Method := { name := "<init>", desc := "()V", sig := { parameters := [], returnType := none }, accessFlags := 0, code := none }
def k17c1 : Code := { maxStack := 2, maxLocals := 2, code := jdk_52_method_15_code, exceptionTable := #[], attributes := #[] }
def k17m1 : Method := { name := "coderFromArrayLen", desc := "([BI)B", sig := { parameters := [(.array .byte), .int], returnType := some .byte }, accessFlags := 8, code := some k17c1 }
def k17c2 : Code := { maxStack := 5, maxLocals := 6, code := jdk_52_method_16_code, exceptionTable := #[], attributes := #[] }
def k17m2 : Method := { name := "compress", desc := "([CII)[B", sig := { parameters := [(.array .char), .int, .int], returnType := some (.array .byte) }, accessFlags := 9, code := some k17c2 }
def k17c3 : Code := { maxStack := 3, maxLocals := 7, code := jdk_52_method_21_code, exceptionTable := #[], attributes := #[] }
def k17m3 : Method := { name := "compress", desc := "([CI[BII)I", sig := { parameters := [(.array .char), .int, (.array .byte), .int, .int], returnType := some .int }, accessFlags := 9, code := some k17c3 }
/-- java/lang/StringUTF16 -/
def k17 : Class := { plain "java/lang/StringUTF16" (some 0) with
  accessFlags := 48
  interfaces := #[]
  cf := some (fileOf pool17 12 #[.nestMembers #[627, 629, 369]] #[{ accessFlags := 0, nameIndex := 9, descriptorIndex := 10, attributes := #[] }, { accessFlags := 8, nameIndex := 261, descriptorIndex := 262, attributes := #[] }, { accessFlags := 9, nameIndex := 117, descriptorIndex := 122, attributes := #[] }, { accessFlags := 9, nameIndex := 117, descriptorIndex := 118, attributes := #[] }] 48 6 #[] #[{ accessFlags := 26, nameIndex := 61, descriptorIndex := 62, attributes := #[] }, { accessFlags := 26, nameIndex := 65, descriptorIndex := 62, attributes := #[] }, { accessFlags := 24, nameIndex := 430, descriptorIndex := 62, attributes := #[] }, { accessFlags := 4120, nameIndex := 46, descriptorIndex := 47, attributes := #[] }])
  fields := #[{ name := "HI_BYTE_SHIFT", type := .int, accessFlags := 26, slot := 0, constantValue := 0 }, { name := "LO_BYTE_SHIFT", type := .int, accessFlags := 26, slot := 1, constantValue := 0 }, { name := "MAX_LENGTH", type := .int, accessFlags := 24, slot := 2, constantValue := 0 }, { name := "$assertionsDisabled", type := .boolean, accessFlags := 4120, slot := 3, constantValue := 0 }]
  methods := #[k17m0, k17m1, k17m2, k17m3]
  instanceTypes := #[]
  staticTypes := #[.int, .int, .int, .boolean]
  resolved := Array.replicate 635 none
  statics := none }

def pool18 : Array CpInfo := pool [(9, u "<init>"), (6, .class_ 18), (1, u "java/lang/Object"), (0, u "()V"), (1, .class_ 23), (1, u "jdk/internal/util/ArraysSupport"), (0, u "LOG2_ARRAY_LONG_INDEX_SCALE"), (0, u "I"), (2, u "U"), (0, u "Ljdk/internal/misc/Unsafe;"), (8, u "BIG_ENDIAN"), (0, u "Z"), (8, u "LOG2_BYTE_BIT_SIZE"), (4, u "LOG2_ARRAY_INT_INDEX_SCALE"), (54, u "JLA"), (0, u "Ljdk/internal/access/JavaLangAccess;"), (11, u "LOG2_ARRAY_BOOLEAN_INDEX_SCALE"), (9, u "LOG2_ARRAY_BYTE_INDEX_SCALE"), (5, u "LOG2_ARRAY_CHAR_INDEX_SCALE"), (5, u "LOG2_ARRAY_SHORT_INDEX_SCALE"), (18, u "LOG2_ARRAY_FLOAT_INDEX_SCALE"), (24, u "LOG2_ARRAY_DOUBLE_INDEX_SCALE"), (89, u "T_BOOLEAN"), (2, u "T_CHAR"), (1, u "T_FLOAT"), (1, u "T_DOUBLE"), (1, u "T_BYTE"), (1, u "T_SHORT"), (1, u "T_INT"), (1, u "T_LONG"), (1, u "SOFT_MAX_ARRAY_LENGTH")] 83

def k18m0 : Method := { name := "<init>", desc := "()V", sig := { parameters := [], returnType := none }, accessFlags := 2, code := none }
/-- jdk/internal/util/ArraysSupport -/
def k18 : Class := { plain "jdk/internal/util/ArraysSupport" (some 0) with
  accessFlags := 33
  interfaces := #[]
  cf := some (fileOf pool18 21 #[] #[{ accessFlags := 2, nameIndex := 9, descriptorIndex := 19, attributes := #[] }] 33 16 #[] #[{ accessFlags := 24, nameIndex := 28, descriptorIndex := 29, attributes := #[] }, { accessFlags := 26, nameIndex := 38, descriptorIndex := 39, attributes := #[] }, { accessFlags := 25, nameIndex := 121, descriptorIndex := 25, attributes := #[] }, { accessFlags := 25, nameIndex := 131, descriptorIndex := 25, attributes := #[] }, { accessFlags := 25, nameIndex := 137, descriptorIndex := 25, attributes := #[] }, { accessFlags := 25, nameIndex := 143, descriptorIndex := 25, attributes := #[] }, { accessFlags := 25, nameIndex := 53, descriptorIndex := 25, attributes := #[] }, { accessFlags := 25, nameIndex := 24, descriptorIndex := 25, attributes := #[] }, { accessFlags := 25, nameIndex := 162, descriptorIndex := 25, attributes := #[] }, { accessFlags := 25, nameIndex := 187, descriptorIndex := 25, attributes := #[] }, { accessFlags := 26, nameIndex := 48, descriptorIndex := 25, attributes := #[] }, { accessFlags := 25, nameIndex := 277, descriptorIndex := 25, attributes := #[] }, { accessFlags := 25, nameIndex := 280, descriptorIndex := 25, attributes := #[] }, { accessFlags := 25, nameIndex := 282, descriptorIndex := 25, attributes := #[] }, { accessFlags := 25, nameIndex := 284, descriptorIndex := 25, attributes := #[] }, { accessFlags := 25, nameIndex := 286, descriptorIndex := 25, attributes := #[] }, { accessFlags := 25, nameIndex := 288, descriptorIndex := 25, attributes := #[] }, { accessFlags := 25, nameIndex := 290, descriptorIndex := 25, attributes := #[] }, { accessFlags := 25, nameIndex := 292, descriptorIndex := 25, attributes := #[] }, { accessFlags := 26, nameIndex := 108, descriptorIndex := 109, attributes := #[] }, { accessFlags := 25, nameIndex := 294, descriptorIndex := 25, attributes := #[] }])
  fields := #[{ name := "U", type := (.object "jdk/internal/misc/Unsafe"), accessFlags := 24, slot := 0, constantValue := 0 }, { name := "BIG_ENDIAN", type := .boolean, accessFlags := 26, slot := 1, constantValue := 0 }, { name := "LOG2_ARRAY_BOOLEAN_INDEX_SCALE", type := .int, accessFlags := 25, slot := 2, constantValue := 0 }, { name := "LOG2_ARRAY_BYTE_INDEX_SCALE", type := .int, accessFlags := 25, slot := 3, constantValue := 0 }, { name := "LOG2_ARRAY_CHAR_INDEX_SCALE", type := .int, accessFlags := 25, slot := 4, constantValue := 0 }, { name := "LOG2_ARRAY_SHORT_INDEX_SCALE", type := .int, accessFlags := 25, slot := 5, constantValue := 0 }, { name := "LOG2_ARRAY_INT_INDEX_SCALE", type := .int, accessFlags := 25, slot := 6, constantValue := 0 }, { name := "LOG2_ARRAY_LONG_INDEX_SCALE", type := .int, accessFlags := 25, slot := 7, constantValue := 0 }, { name := "LOG2_ARRAY_FLOAT_INDEX_SCALE", type := .int, accessFlags := 25, slot := 8, constantValue := 0 }, { name := "LOG2_ARRAY_DOUBLE_INDEX_SCALE", type := .int, accessFlags := 25, slot := 9, constantValue := 0 }, { name := "LOG2_BYTE_BIT_SIZE", type := .int, accessFlags := 26, slot := 10, constantValue := 0 }, { name := "T_BOOLEAN", type := .int, accessFlags := 25, slot := 11, constantValue := 0 }, { name := "T_CHAR", type := .int, accessFlags := 25, slot := 12, constantValue := 0 }, { name := "T_FLOAT", type := .int, accessFlags := 25, slot := 13, constantValue := 0 }, { name := "T_DOUBLE", type := .int, accessFlags := 25, slot := 14, constantValue := 0 }, { name := "T_BYTE", type := .int, accessFlags := 25, slot := 15, constantValue := 0 }, { name := "T_SHORT", type := .int, accessFlags := 25, slot := 16, constantValue := 0 }, { name := "T_INT", type := .int, accessFlags := 25, slot := 17, constantValue := 0 }, { name := "T_LONG", type := .int, accessFlags := 25, slot := 18, constantValue := 0 }, { name := "JLA", type := (.object "jdk/internal/access/JavaLangAccess"), accessFlags := 26, slot := 19, constantValue := 0 }, { name := "SOFT_MAX_ARRAY_LENGTH", type := .int, accessFlags := 25, slot := 20, constantValue := 0 }]
  methods := #[k18m0]
  instanceTypes := #[]
  staticTypes := #[(.object "jdk/internal/misc/Unsafe"), .boolean, .int, .int, .int, .int, .int, .int, .int, .int, .int, .int, .int, .int, .int, .int, .int, .int, .int, (.object "jdk/internal/access/JavaLangAccess"), .int]
  resolved := Array.replicate 378 none
  statics := none }

def pool19 : Array CpInfo := pool [(1, u "java/lang/Cloneable"), (0, .class_ 1), (0, u "java/lang/Object"), (0, .class_ 3)] 3

/-- java/lang/Cloneable -/
def k19 : Class := { plain "java/lang/Cloneable" (some 0) with
  accessFlags := 1537
  interfaces := #[]
  cf := some (fileOf pool19 2 #[] #[] 1537 4 #[] #[])
  fields := #[]
  methods := #[]
  instanceTypes := #[]
  staticTypes := #[]
  resolved := Array.replicate 8 none
  statics := none }

/-- the primitive byte -/
def k20 : Class := { plain "byte" none with kind := .primitive 'B', accessFlags := 0x411 }
/-- [B -/
def k21 : Class := { plain "[B" (some 0) with kind := .array 20 .byte, interfaces := #[19, 2], accessFlags := 1041 }

/-- the primitive char -/
def k22 : Class := { plain "char" none with kind := .primitive 'C', accessFlags := 0x411 }
/-- [C -/
def k23 : Class := { plain "[C" (some 0) with kind := .array 22 .char, interfaces := #[19, 2], accessFlags := 1041 }

def heap : Heap := #[{ cls := 7, slots := #[.long 0, .int 1, .null, .int 0, .null, .int 0, .int 0], vm := .statics 7 },
  { cls := 16, slots := #[.null, .null, .null], vm := .statics 16 }]
def classes : Array Class := #[k0, k1, k2, k3, k4, k5, k6, k7, k8, k9, k10, k11, k12, k13, k14, k15, k16, k17, k18, k19, k20, k21, k22, k23]
def interned : List (Array UInt16 × Addr) := []
def slotsUsed : Nat := 10
def theMethod : MethodId := ⟨1, 1⟩
def args0 : Array Value := #[.int 33620225, .int 50529027, .int 1]
def aboutOver (below : List Frame) : State where
  vm := { classes := classes, interned := interned.toArray }
  heap := heap
  slotsUsed := slotsUsed
  threads := #[{ frames := .invoking theMethod args0 :: below }]
def below0 : List Frame := [.native { method := ⟨0, 0⟩, args := #[] }]
def about1 : State := aboutOver below0
def p0 : Program := .bare "" "" ""
def e0 : Env := launch0.env 0 0 0
theorem w_frames : about1.frames = Frame.invoking theMethod args0 :: below0 := rfl
set_option maxRecDepth 65536 in
theorem w_args : argsFit about1.vm theMethod args0 = true := by decide +kernel
set_option maxRecDepth 65536 in
theorem w_heap : heapFits about1 = true := by decide +kernel
set_option maxRecDepth 65536 in
theorem w_runnable : about1.curStatus? = some .runnable := by decide +kernel
set_option maxRecDepth 65536 in
theorem w_alone : about1.alone = true := by decide +kernel
set_option maxRecDepth 65536 in
theorem w_named : about1.methodNamed? x = some theMethod := by decide +kernel
set_option maxRecDepth 65536 in
theorem w_hears : about1.hears theMethod below0 = true := by decide +kernel
set_option maxRecDepth 65536 in
theorem w_ripe : about1.ripe theMethod args0 below0 = true := by decide +kernel
theorem w_running : about1.status = .running := rfl
set_option maxRecDepth 65536 in
theorem w_room : about1.hasRoom e0.platform room_1 = true :=
  launch0.hasRoom_least _ room_1 (by decide +kernel) (by decide +kernel) (by decide +kernel) (by decide +kernel) (by decide +kernel) (by decide +kernel)
theorem allAtoms_all (ts : List Jvm.Cond) (a : Array Jvm.Value) (st : Jvm.State) : (allAtoms ts).before a st = ts.all (fun c => c.before a st) := by
  induction ts with
  | nil => rfl
  | cons c t ih =>
    show (Jvm.Cond.and c (allAtoms t)).before a st = _
    rw [Jvm.Cond.before_and, ih, List.all_cons]
def words1 : List Jvm.Cond := Jvm.Cond.code x code maxLocals ret :: tables_1
/-- a 'code' word, met by the world's own term for the bytes: nothing is compared byte by byte -/
theorem code_word {y : MethodName} {bytes : ByteArray} {mx : Nat} {rt : Option FieldType} {a : Array Value} {s : State} {m : MethodId} {meth : Method} {c : Code} (h1 : s.methodNamed? y = some m) (h2 : s.vm.method? m = some meth) (h3 : meth.code = some c) (h4 : c.code = bytes)
    (h5 : (c.maxLocals == mx && c.exceptionTable.isEmpty && decide (c.maxStack ≤ mostOperands) && decide (meth.sig.returnType = rt) && !meth.locks && decide (parseMethodDescriptor y.desc = some meth.sig)) = true) : (Jvm.Cond.code y bytes mx rt).before a s = true := by
  simp only [Bool.and_eq_true, beq_iff_eq, Bool.not_eq_true', decide_eq_true_eq] at h5
  obtain ⟨⟨⟨⟨⟨g1, g2⟩, g3⟩, g4⟩, g5⟩, g6⟩ := h5
  simp [Cond.before, Cond.holds, Cond.value, h1, h2, h3, h4, g1, g2, g3, g4, g5, g6]
def isCode : Jvm.Cond → Bool
  | .code _ _ _ _ => true
  | _ => false
theorem all_split {L : List Jvm.Cond} {P : Jvm.Cond → Bool} (h1 : L.all (fun c => isCode c || P c) = true) (h2 : ∀ c ∈ L.filter isCode, P c = true) : L.all P = true := by
  refine List.all_eq_true.mpr fun c hc => ?_
  have h := List.all_eq_true.mp h1 c hc
  rcases Bool.eq_false_or_eq_true (isCode c) with hi | hi
  · exact h2 c (List.mem_filter.mpr ⟨hc, hi⟩)
  · simpa [hi] using h
set_option maxRecDepth 65536 in
theorem w_c0 : (Jvm.Cond.code x code maxLocals ret).before args0 about1 = true := code_word (m := ⟨1, 1⟩) (meth := k1m1) (c := k1c1) (by decide +kernel) rfl rfl rfl (by decide +kernel)
set_option maxRecDepth 65536 in
theorem w_c1 : (Jvm.Cond.code ({ cls := "com/example/quayside/quayside/web/HtmlClosePinLaw", name := "tag", desc := "(I)Ljava/lang/String;" } : Jvm.MethodName) method_3_code (5 : Nat) (Option.some (Jvm.ClassFile.FieldType.object "java/lang/String"))).before args0 about1 = true := code_word (m := ⟨1, 2⟩) (meth := k1m2) (c := k1c2) (by decide +kernel) rfl rfl rfl (by decide +kernel)
set_option maxRecDepth 65536 in
theorem w_c2 : (Jvm.Cond.code ({ cls := "java/lang/String", name := "<init>", desc := "([C)V" } : Jvm.MethodName) jdk_42_method_3_code (2 : Nat) (Option.none : Option Jvm.ClassFile.FieldType)).before args0 about1 = true := code_word (m := ⟨7, 1⟩) (meth := k7m1) (c := k7c1) (by decide +kernel) rfl rfl rfl (by decide +kernel)
set_option maxRecDepth 65536 in
theorem w_c3 : (Jvm.Cond.code ({ cls := "java/lang/String", name := "<init>", desc := "([CIILjava/lang/Void;)V" } : Jvm.MethodName) jdk_42_method_149_code (6 : Nat) (Option.none : Option Jvm.ClassFile.FieldType)).before args0 about1 = true := code_word (m := ⟨7, 6⟩) (meth := k7m6) (c := k7c6) (by decide +kernel) rfl rfl rfl (by decide +kernel)
set_option maxRecDepth 65536 in
theorem w_c4 : (Jvm.Cond.code ({ cls := "java/lang/Object", name := "<init>", desc := "()V" } : Jvm.MethodName) object_method_1_code (1 : Nat) (Option.none : Option Jvm.ClassFile.FieldType)).before args0 about1 = true := code_word (m := ⟨0, 0⟩) (meth := k0m0) (c := k0c0) (by decide +kernel) rfl rfl rfl (by decide +kernel)
set_option maxRecDepth 65536 in
theorem w_c5 : (Jvm.Cond.code ({ cls := "com/example/quayside/quayside/web/Html", name := "<init>", desc := "()V" } : Jvm.MethodName) prog_35_method_1_code (1 : Nat) (Option.none : Option Jvm.ClassFile.FieldType)).before args0 about1 = true := code_word (m := ⟨8, 0⟩) (meth := k8m0) (c := k8c0) (by decide +kernel) rfl rfl rfl (by decide +kernel)
set_option maxRecDepth 65536 in
theorem w_c6 : (Jvm.Cond.code ({ cls := "java/lang/StringBuilder", name := "<init>", desc := "()V" } : Jvm.MethodName) jdk_67_method_1_code (1 : Nat) (Option.none : Option Jvm.ClassFile.FieldType)).before args0 about1 = true := code_word (m := ⟨11, 0⟩) (meth := k11m0) (c := k11c0) (by decide +kernel) rfl rfl rfl (by decide +kernel)
set_option maxRecDepth 65536 in
theorem w_c7 : (Jvm.Cond.code ({ cls := "java/lang/AbstractStringBuilder", name := "<init>", desc := "(I)V" } : Jvm.MethodName) jdk_68_method_2_code (2 : Nat) (Option.none : Option Jvm.ClassFile.FieldType)).before args0 about1 = true := code_word (m := ⟨10, 1⟩) (meth := k10m1) (c := k10c1) (by decide +kernel) rfl rfl rfl (by decide +kernel)
set_option maxRecDepth 65536 in
theorem w_c8 : (Jvm.Cond.code ({ cls := "com/example/quayside/quayside/web/Html", name := "close", desc := "(Ljava/lang/String;)Lcom/example/quayside/quayside/web/Html;" } : Jvm.MethodName) prog_35_method_3_code (2 : Nat) (Option.some (Jvm.ClassFile.FieldType.object "com/example/quayside/quayside/web/Html"))).before args0 about1 = true := code_word (m := ⟨8, 1⟩) (meth := k8m1) (c := k8c1) (by decide +kernel) rfl rfl rfl (by decide +kernel)
set_option maxRecDepth 65536 in
theorem w_c9 : (Jvm.Cond.code ({ cls := "java/lang/StringBuilder", name := "append", desc := "(Ljava/lang/String;)Ljava/lang/StringBuilder;" } : Jvm.MethodName) jdk_67_method_7_code (2 : Nat) (Option.some (Jvm.ClassFile.FieldType.object "java/lang/StringBuilder"))).before args0 about1 = true := code_word (m := ⟨11, 1⟩) (meth := k11m1) (c := k11c1) (by decide +kernel) rfl rfl rfl (by decide +kernel)
set_option maxRecDepth 65536 in
theorem w_c10 : (Jvm.Cond.code ({ cls := "java/lang/AbstractStringBuilder", name := "append", desc := "(Ljava/lang/String;)Ljava/lang/AbstractStringBuilder;" } : Jvm.MethodName) jdk_68_method_22_code (3 : Nat) (Option.some (Jvm.ClassFile.FieldType.object "java/lang/AbstractStringBuilder"))).before args0 about1 = true := code_word (m := ⟨10, 4⟩) (meth := k10m4) (c := k10c4) (by decide +kernel) rfl rfl rfl (by decide +kernel)
set_option maxRecDepth 65536 in
theorem w_c11 : (Jvm.Cond.code ({ cls := "java/lang/String", name := "length", desc := "()I" } : Jvm.MethodName) jdk_42_method_54_code (1 : Nat) (Option.some Jvm.ClassFile.FieldType.int)).before args0 about1 = true := code_word (m := ⟨7, 3⟩) (meth := k7m3) (c := k7c3) (by decide +kernel) rfl rfl rfl (by decide +kernel)
set_option maxRecDepth 65536 in
theorem w_c12 : (Jvm.Cond.code ({ cls := "java/lang/String", name := "coder", desc := "()B" } : Jvm.MethodName) jdk_42_method_152_code (1 : Nat) (Option.some Jvm.ClassFile.FieldType.byte)).before args0 about1 = true := code_word (m := ⟨7, 8⟩) (meth := k7m8) (c := k7c8) (by decide +kernel) rfl rfl rfl (by decide +kernel)
set_option maxRecDepth 65536 in
theorem w_c13 : (Jvm.Cond.code ({ cls := "java/lang/AbstractStringBuilder", name := "ensureCapacityInternal", desc := "(I)V" } : Jvm.MethodName) jdk_68_method_9_code (3 : Nat) (Option.none : Option Jvm.ClassFile.FieldType)).before args0 about1 = true := code_word (m := ⟨10, 3⟩) (meth := k10m3) (c := k10c3) (by decide +kernel) rfl rfl rfl (by decide +kernel)
set_option maxRecDepth 65536 in
theorem w_c14 : (Jvm.Cond.code ({ cls := "java/lang/AbstractStringBuilder", name := "putStringAt", desc := "(ILjava/lang/String;)V" } : Jvm.MethodName) jdk_68_method_73_code (3 : Nat) (Option.none : Option Jvm.ClassFile.FieldType)).before args0 about1 = true := code_word (m := ⟨10, 9⟩) (meth := k10m9) (c := k10c9) (by decide +kernel) rfl rfl rfl (by decide +kernel)
set_option maxRecDepth 65536 in
theorem w_c15 : (Jvm.Cond.code ({ cls := "java/lang/AbstractStringBuilder", name := "inflateIfNeededFor", desc := "(Ljava/lang/String;)V" } : Jvm.MethodName) jdk_68_method_71_code (2 : Nat) (Option.none : Option Jvm.ClassFile.FieldType)).before args0 about1 = true := code_word (m := ⟨10, 8⟩) (meth := k10m8) (c := k10c8) (by decide +kernel) rfl rfl rfl (by decide +kernel)
set_option maxRecDepth 65536 in
theorem w_c16 : (Jvm.Cond.code ({ cls := "java/lang/String", name := "getBytes", desc := "([BIB)V" } : Jvm.MethodName) jdk_42_method_147_code (4 : Nat) (Option.none : Option Jvm.ClassFile.FieldType)).before args0 about1 = true := code_word (m := ⟨7, 5⟩) (meth := k7m5) (c := k7c5) (by decide +kernel) rfl rfl rfl (by decide +kernel)
set_option maxRecDepth 65536 in
theorem w_c17 : (Jvm.Cond.code ({ cls := "java/lang/StringBuilder", name := "append", desc := "(C)Ljava/lang/StringBuilder;" } : Jvm.MethodName) jdk_67_method_14_code (2 : Nat) (Option.some (Jvm.ClassFile.FieldType.object "java/lang/StringBuilder"))).before args0 about1 = true := code_word (m := ⟨11, 2⟩) (meth := k11m2) (c := k11c2) (by decide +kernel) rfl rfl rfl (by decide +kernel)
set_option maxRecDepth 65536 in
theorem w_c18 : (Jvm.Cond.code ({ cls := "java/lang/AbstractStringBuilder", name := "append", desc := "(C)Ljava/lang/AbstractStringBuilder;" } : Jvm.MethodName) jdk_68_method_31_code (2 : Nat) (Option.some (Jvm.ClassFile.FieldType.object "java/lang/AbstractStringBuilder"))).before args0 about1 = true := code_word (m := ⟨10, 5⟩) (meth := k10m5) (c := k10c5) (by decide +kernel) rfl rfl rfl (by decide +kernel)
set_option maxRecDepth 65536 in
theorem w_c19 : (Jvm.Cond.code ({ cls := "java/lang/AbstractStringBuilder", name := "isLatin1", desc := "()Z" } : Jvm.MethodName) jdk_68_method_68_code (1 : Nat) (Option.some Jvm.ClassFile.FieldType.boolean)).before args0 about1 = true := code_word (m := ⟨10, 7⟩) (meth := k10m7) (c := k10c7) (by decide +kernel) rfl rfl rfl (by decide +kernel)
set_option maxRecDepth 65536 in
theorem w_c20 : (Jvm.Cond.code ({ cls := "java/lang/StringLatin1", name := "canEncode", desc := "(C)Z" } : Jvm.MethodName) jdk_43_method_3_code (1 : Nat) (Option.some Jvm.ClassFile.FieldType.boolean)).before args0 about1 = true := code_word (m := ⟨13, 2⟩) (meth := k13m2) (c := k13c2) (by decide +kernel) rfl rfl rfl (by decide +kernel)
set_option maxRecDepth 65536 in
theorem w_c21 : (Jvm.Cond.code ({ cls := "com/example/quayside/quayside/web/Html", name := "toString", desc := "()Ljava/lang/String;" } : Jvm.MethodName) prog_35_method_6_code (1 : Nat) (Option.some (Jvm.ClassFile.FieldType.object "java/lang/String"))).before args0 about1 = true := code_word (m := ⟨8, 2⟩) (meth := k8m2) (c := k8c2) (by decide +kernel) rfl rfl rfl (by decide +kernel)
set_option maxRecDepth 65536 in
theorem w_c22 : (Jvm.Cond.code ({ cls := "java/lang/StringBuilder", name := "toString", desc := "()Ljava/lang/String;" } : Jvm.MethodName) jdk_67_method_42_code (1 : Nat) (Option.some (Jvm.ClassFile.FieldType.object "java/lang/String"))).before args0 about1 = true := code_word (m := ⟨11, 3⟩) (meth := k11m3) (c := k11c3) (by decide +kernel) rfl rfl rfl (by decide +kernel)
set_option maxRecDepth 65536 in
theorem w_c23 : (Jvm.Cond.code ({ cls := "java/lang/String", name := "<init>", desc := "(Ljava/lang/StringBuilder;)V" } : Jvm.MethodName) jdk_42_method_53_code (2 : Nat) (Option.none : Option Jvm.ClassFile.FieldType)).before args0 about1 = true := code_word (m := ⟨7, 2⟩) (meth := k7m2) (c := k7c2) (by decide +kernel) rfl rfl rfl (by decide +kernel)
set_option maxRecDepth 65536 in
theorem w_c24 : (Jvm.Cond.code ({ cls := "java/lang/String", name := "<init>", desc := "(Ljava/lang/AbstractStringBuilder;Ljava/lang/Void;)V" } : Jvm.MethodName) jdk_42_method_150_code (5 : Nat) (Option.none : Option Jvm.ClassFile.FieldType)).before args0 about1 = true := code_word (m := ⟨7, 7⟩) (meth := k7m7) (c := k7c7) (by decide +kernel) rfl rfl rfl (by decide +kernel)
set_option maxRecDepth 65536 in
theorem w_c25 : (Jvm.Cond.code ({ cls := "java/lang/AbstractStringBuilder", name := "getValue", desc := "()[B" } : Jvm.MethodName) jdk_68_method_64_code (1 : Nat) (Option.some (Jvm.ClassFile.FieldType.array Jvm.ClassFile.FieldType.byte))).before args0 about1 = true := code_word (m := ⟨10, 6⟩) (meth := k10m6) (c := k10c6) (by decide +kernel) rfl rfl rfl (by decide +kernel)
set_option maxRecDepth 65536 in
theorem w_c26 : (Jvm.Cond.code ({ cls := "java/lang/StringBuilder", name := "length", desc := "()I" } : Jvm.MethodName) jdk_67_method_93_code (1 : Nat) (Option.some Jvm.ClassFile.FieldType.int)).before args0 about1 = true := code_word (m := ⟨11, 4⟩) (meth := k11m4) (c := k11c4) (by decide +kernel) rfl rfl rfl (by decide +kernel)
set_option maxRecDepth 65536 in
theorem w_c27 : (Jvm.Cond.code ({ cls := "java/lang/AbstractStringBuilder", name := "length", desc := "()I" } : Jvm.MethodName) jdk_68_method_6_code (1 : Nat) (Option.some Jvm.ClassFile.FieldType.int)).before args0 about1 = true := code_word (m := ⟨10, 2⟩) (meth := k10m2) (c := k10c2) (by decide +kernel) rfl rfl rfl (by decide +kernel)
set_option maxRecDepth 65536 in
theorem w_c28 : (Jvm.Cond.code ({ cls := "java/util/Arrays", name := "copyOfRange", desc := "([BII)[B" } : Jvm.MethodName) jdk_65_method_132_code (3 : Nat) (Option.some (Jvm.ClassFile.FieldType.array Jvm.ClassFile.FieldType.byte))).before args0 about1 = true := code_word (m := ⟨14, 2⟩) (meth := k14m2) (c := k14c2) (by decide +kernel) rfl rfl rfl (by decide +kernel)
set_option maxRecDepth 65536 in
theorem w_c29 : (Jvm.Cond.code ({ cls := "java/util/Arrays", name := "copyOfRangeByte", desc := "([BII)[B" } : Jvm.MethodName) jdk_65_method_133_code (5 : Nat) (Option.some (Jvm.ClassFile.FieldType.array Jvm.ClassFile.FieldType.byte))).before args0 about1 = true := code_word (m := ⟨14, 3⟩) (meth := k14m3) (c := k14c3) (by decide +kernel) rfl rfl rfl (by decide +kernel)
set_option maxRecDepth 65536 in
theorem w_c30 : (Jvm.Cond.code ({ cls := "java/util/Arrays", name := "checkLength", desc := "(II)V" } : Jvm.MethodName) jdk_65_method_131_code (2 : Nat) (Option.none : Option Jvm.ClassFile.FieldType)).before args0 about1 = true := code_word (m := ⟨14, 1⟩) (meth := k14m1) (c := k14c1) (by decide +kernel) rfl rfl rfl (by decide +kernel)
set_option maxRecDepth 65536 in
theorem w_c31 : (Jvm.Cond.code ({ cls := "java/lang/Math", name := "min", desc := "(II)I" } : Jvm.MethodName) jdk_29_method_69_code (2 : Nat) (Option.some Jvm.ClassFile.FieldType.int)).before args0 about1 = true := code_word (m := ⟨15, 1⟩) (meth := k15m1) (c := k15c1) (by decide +kernel) rfl rfl rfl (by decide +kernel)
set_option maxRecDepth 65536 in
theorem w_c32 : (Jvm.Cond.code ({ cls := "com/example/quayside/quayside/web/HtmlClosePinLaw", name := "closing", desc := "(Ljava/lang/String;ILjava/lang/String;)Z" } : Jvm.MethodName) method_4_code (4 : Nat) (Option.some Jvm.ClassFile.FieldType.boolean)).before args0 about1 = true := code_word (m := ⟨1, 3⟩) (meth := k1m3) (c := k1c3) (by decide +kernel) rfl rfl rfl (by decide +kernel)
set_option maxRecDepth 65536 in
theorem w_c33 : (Jvm.Cond.code ({ cls := "java/lang/String", name := "charAt", desc := "(I)C" } : Jvm.MethodName) jdk_42_method_56_code (2 : Nat) (Option.some Jvm.ClassFile.FieldType.char)).before args0 about1 = true := code_word (m := ⟨7, 4⟩) (meth := k7m4) (c := k7c4) (by decide +kernel) rfl rfl rfl (by decide +kernel)
set_option maxRecDepth 65536 in
theorem w_c34 : (Jvm.Cond.code ({ cls := "java/lang/String", name := "isLatin1", desc := "()Z" } : Jvm.MethodName) jdk_42_method_154_code (1 : Nat) (Option.some Jvm.ClassFile.FieldType.boolean)).before args0 about1 = true := code_word (m := ⟨7, 9⟩) (meth := k7m9) (c := k7c9) (by decide +kernel) rfl rfl rfl (by decide +kernel)
set_option maxRecDepth 65536 in
theorem w_c35 : (Jvm.Cond.code ({ cls := "java/lang/StringLatin1", name := "charAt", desc := "([BI)C" } : Jvm.MethodName) jdk_43_method_2_code (2 : Nat) (Option.some Jvm.ClassFile.FieldType.char)).before args0 about1 = true := code_word (m := ⟨13, 1⟩) (meth := k13m1) (c := k13c1) (by decide +kernel) rfl rfl rfl (by decide +kernel)
set_option maxRecDepth 65536 in
theorem w_c36 : (Jvm.Cond.code ({ cls := "java/lang/String", name := "checkIndex", desc := "(II)V" } : Jvm.MethodName) jdk_42_method_155_code (2 : Nat) (Option.none : Option Jvm.ClassFile.FieldType)).before args0 about1 = true := code_word (m := ⟨7, 10⟩) (meth := k7m10) (c := k7c10) (by decide +kernel) rfl rfl rfl (by decide +kernel)
set_option maxRecDepth 65536 in
theorem w_c37 : (Jvm.Cond.code ({ cls := "jdk/internal/util/Preconditions", name := "checkIndex", desc := "(IILjava/util/function/BiFunction;)I" } : Jvm.MethodName) jdk_41_method_11_code (3 : Nat) (Option.some Jvm.ClassFile.FieldType.int)).before args0 about1 = true := code_word (m := ⟨16, 1⟩) (meth := k16m1) (c := k16c1) (by decide +kernel) rfl rfl rfl (by decide +kernel)
set_option maxRecDepth 65536 in
theorem w_c38 : (Jvm.Cond.code ({ cls := "java/lang/StringUTF16", name := "compress", desc := "([CII)[B" } : Jvm.MethodName) jdk_52_method_16_code (6 : Nat) (Option.some (Jvm.ClassFile.FieldType.array Jvm.ClassFile.FieldType.byte))).before args0 about1 = true := code_word (m := ⟨17, 2⟩) (meth := k17m2) (c := k17c2) (by decide +kernel) rfl rfl rfl (by decide +kernel)
set_option maxRecDepth 65536 in
theorem w_c39 : (Jvm.Cond.code ({ cls := "java/lang/StringUTF16", name := "compress", desc := "([CI[BII)I" } : Jvm.MethodName) jdk_52_method_21_code (7 : Nat) (Option.some Jvm.ClassFile.FieldType.int)).before args0 about1 = true := code_word (m := ⟨17, 3⟩) (meth := k17m3) (c := k17c3) (by decide +kernel) rfl rfl rfl (by decide +kernel)
set_option maxRecDepth 65536 in
theorem w_c40 : (Jvm.Cond.code ({ cls := "java/lang/StringUTF16", name := "coderFromArrayLen", desc := "([BI)B" } : Jvm.MethodName) jdk_52_method_15_code (2 : Nat) (Option.some Jvm.ClassFile.FieldType.byte)).before args0 about1 = true := code_word (m := ⟨17, 1⟩) (meth := k17m1) (c := k17c1) (by decide +kernel) rfl rfl rfl (by decide +kernel)
def codes1 : List Jvm.Cond := [Jvm.Cond.code x code maxLocals ret, Jvm.Cond.code ({ cls := "com/example/quayside/quayside/web/HtmlClosePinLaw", name := "tag", desc := "(I)Ljava/lang/String;" } : Jvm.MethodName) method_3_code (5 : Nat) (Option.some (Jvm.ClassFile.FieldType.object "java/lang/String")), Jvm.Cond.code ({ cls := "java/lang/String", name := "<init>", desc := "([C)V" } : Jvm.MethodName) jdk_42_method_3_code (2 : Nat) (Option.none : Option Jvm.ClassFile.FieldType), Jvm.Cond.code ({ cls := "java/lang/String", name := "<init>", desc := "([CIILjava/lang/Void;)V" } : Jvm.MethodName) jdk_42_method_149_code (6 : Nat) (Option.none : Option Jvm.ClassFile.FieldType), Jvm.Cond.code ({ cls := "java/lang/Object", name := "<init>", desc := "()V" } : Jvm.MethodName) object_method_1_code (1 : Nat) (Option.none : Option Jvm.ClassFile.FieldType), Jvm.Cond.code ({ cls := "com/example/quayside/quayside/web/Html", name := "<init>", desc := "()V" } : Jvm.MethodName) prog_35_method_1_code (1 : Nat) (Option.none : Option Jvm.ClassFile.FieldType), Jvm.Cond.code ({ cls := "java/lang/StringBuilder", name := "<init>", desc := "()V" } : Jvm.MethodName) jdk_67_method_1_code (1 : Nat) (Option.none : Option Jvm.ClassFile.FieldType), Jvm.Cond.code ({ cls := "java/lang/AbstractStringBuilder", name := "<init>", desc := "(I)V" } : Jvm.MethodName) jdk_68_method_2_code (2 : Nat) (Option.none : Option Jvm.ClassFile.FieldType), Jvm.Cond.code ({ cls := "com/example/quayside/quayside/web/Html", name := "close", desc := "(Ljava/lang/String;)Lcom/example/quayside/quayside/web/Html;" } : Jvm.MethodName) prog_35_method_3_code (2 : Nat) (Option.some (Jvm.ClassFile.FieldType.object "com/example/quayside/quayside/web/Html")), Jvm.Cond.code ({ cls := "java/lang/StringBuilder", name := "append", desc := "(Ljava/lang/String;)Ljava/lang/StringBuilder;" } : Jvm.MethodName) jdk_67_method_7_code (2 : Nat) (Option.some (Jvm.ClassFile.FieldType.object "java/lang/StringBuilder")), Jvm.Cond.code ({ cls := "java/lang/AbstractStringBuilder", name := "append", desc := "(Ljava/lang/String;)Ljava/lang/AbstractStringBuilder;" } : Jvm.MethodName) jdk_68_method_22_code (3 : Nat) (Option.some (Jvm.ClassFile.FieldType.object "java/lang/AbstractStringBuilder")), Jvm.Cond.code ({ cls := "java/lang/String", name := "length", desc := "()I" } : Jvm.MethodName) jdk_42_method_54_code (1 : Nat) (Option.some Jvm.ClassFile.FieldType.int), Jvm.Cond.code ({ cls := "java/lang/String", name := "coder", desc := "()B" } : Jvm.MethodName) jdk_42_method_152_code (1 : Nat) (Option.some Jvm.ClassFile.FieldType.byte), Jvm.Cond.code ({ cls := "java/lang/AbstractStringBuilder", name := "ensureCapacityInternal", desc := "(I)V" } : Jvm.MethodName) jdk_68_method_9_code (3 : Nat) (Option.none : Option Jvm.ClassFile.FieldType), Jvm.Cond.code ({ cls := "java/lang/AbstractStringBuilder", name := "putStringAt", desc := "(ILjava/lang/String;)V" } : Jvm.MethodName) jdk_68_method_73_code (3 : Nat) (Option.none : Option Jvm.ClassFile.FieldType), Jvm.Cond.code ({ cls := "java/lang/AbstractStringBuilder", name := "inflateIfNeededFor", desc := "(Ljava/lang/String;)V" } : Jvm.MethodName) jdk_68_method_71_code (2 : Nat) (Option.none : Option Jvm.ClassFile.FieldType), Jvm.Cond.code ({ cls := "java/lang/String", name := "getBytes", desc := "([BIB)V" } : Jvm.MethodName) jdk_42_method_147_code (4 : Nat) (Option.none : Option Jvm.ClassFile.FieldType), Jvm.Cond.code ({ cls := "java/lang/StringBuilder", name := "append", desc := "(C)Ljava/lang/StringBuilder;" } : Jvm.MethodName) jdk_67_method_14_code (2 : Nat) (Option.some (Jvm.ClassFile.FieldType.object "java/lang/StringBuilder")), Jvm.Cond.code ({ cls := "java/lang/AbstractStringBuilder", name := "append", desc := "(C)Ljava/lang/AbstractStringBuilder;" } : Jvm.MethodName) jdk_68_method_31_code (2 : Nat) (Option.some (Jvm.ClassFile.FieldType.object "java/lang/AbstractStringBuilder")), Jvm.Cond.code ({ cls := "java/lang/AbstractStringBuilder", name := "isLatin1", desc := "()Z" } : Jvm.MethodName) jdk_68_method_68_code (1 : Nat) (Option.some Jvm.ClassFile.FieldType.boolean), Jvm.Cond.code ({ cls := "java/lang/StringLatin1", name := "canEncode", desc := "(C)Z" } : Jvm.MethodName) jdk_43_method_3_code (1 : Nat) (Option.some Jvm.ClassFile.FieldType.boolean), Jvm.Cond.code ({ cls := "com/example/quayside/quayside/web/Html", name := "toString", desc := "()Ljava/lang/String;" } : Jvm.MethodName) prog_35_method_6_code (1 : Nat) (Option.some (Jvm.ClassFile.FieldType.object "java/lang/String")), Jvm.Cond.code ({ cls := "java/lang/StringBuilder", name := "toString", desc := "()Ljava/lang/String;" } : Jvm.MethodName) jdk_67_method_42_code (1 : Nat) (Option.some (Jvm.ClassFile.FieldType.object "java/lang/String")), Jvm.Cond.code ({ cls := "java/lang/String", name := "<init>", desc := "(Ljava/lang/StringBuilder;)V" } : Jvm.MethodName) jdk_42_method_53_code (2 : Nat) (Option.none : Option Jvm.ClassFile.FieldType), Jvm.Cond.code ({ cls := "java/lang/String", name := "<init>", desc := "(Ljava/lang/AbstractStringBuilder;Ljava/lang/Void;)V" } : Jvm.MethodName) jdk_42_method_150_code (5 : Nat) (Option.none : Option Jvm.ClassFile.FieldType), Jvm.Cond.code ({ cls := "java/lang/AbstractStringBuilder", name := "getValue", desc := "()[B" } : Jvm.MethodName) jdk_68_method_64_code (1 : Nat) (Option.some (Jvm.ClassFile.FieldType.array Jvm.ClassFile.FieldType.byte)), Jvm.Cond.code ({ cls := "java/lang/StringBuilder", name := "length", desc := "()I" } : Jvm.MethodName) jdk_67_method_93_code (1 : Nat) (Option.some Jvm.ClassFile.FieldType.int), Jvm.Cond.code ({ cls := "java/lang/AbstractStringBuilder", name := "length", desc := "()I" } : Jvm.MethodName) jdk_68_method_6_code (1 : Nat) (Option.some Jvm.ClassFile.FieldType.int), Jvm.Cond.code ({ cls := "java/util/Arrays", name := "copyOfRange", desc := "([BII)[B" } : Jvm.MethodName) jdk_65_method_132_code (3 : Nat) (Option.some (Jvm.ClassFile.FieldType.array Jvm.ClassFile.FieldType.byte)), Jvm.Cond.code ({ cls := "java/util/Arrays", name := "copyOfRangeByte", desc := "([BII)[B" } : Jvm.MethodName) jdk_65_method_133_code (5 : Nat) (Option.some (Jvm.ClassFile.FieldType.array Jvm.ClassFile.FieldType.byte)), Jvm.Cond.code ({ cls := "java/util/Arrays", name := "checkLength", desc := "(II)V" } : Jvm.MethodName) jdk_65_method_131_code (2 : Nat) (Option.none : Option Jvm.ClassFile.FieldType), Jvm.Cond.code ({ cls := "java/lang/Math", name := "min", desc := "(II)I" } : Jvm.MethodName) jdk_29_method_69_code (2 : Nat) (Option.some Jvm.ClassFile.FieldType.int), Jvm.Cond.code ({ cls := "com/example/quayside/quayside/web/HtmlClosePinLaw", name := "closing", desc := "(Ljava/lang/String;ILjava/lang/String;)Z" } : Jvm.MethodName) method_4_code (4 : Nat) (Option.some Jvm.ClassFile.FieldType.boolean), Jvm.Cond.code ({ cls := "java/lang/String", name := "charAt", desc := "(I)C" } : Jvm.MethodName) jdk_42_method_56_code (2 : Nat) (Option.some Jvm.ClassFile.FieldType.char), Jvm.Cond.code ({ cls := "java/lang/String", name := "isLatin1", desc := "()Z" } : Jvm.MethodName) jdk_42_method_154_code (1 : Nat) (Option.some Jvm.ClassFile.FieldType.boolean), Jvm.Cond.code ({ cls := "java/lang/StringLatin1", name := "charAt", desc := "([BI)C" } : Jvm.MethodName) jdk_43_method_2_code (2 : Nat) (Option.some Jvm.ClassFile.FieldType.char), Jvm.Cond.code ({ cls := "java/lang/String", name := "checkIndex", desc := "(II)V" } : Jvm.MethodName) jdk_42_method_155_code (2 : Nat) (Option.none : Option Jvm.ClassFile.FieldType), Jvm.Cond.code ({ cls := "jdk/internal/util/Preconditions", name := "checkIndex", desc := "(IILjava/util/function/BiFunction;)I" } : Jvm.MethodName) jdk_41_method_11_code (3 : Nat) (Option.some Jvm.ClassFile.FieldType.int), Jvm.Cond.code ({ cls := "java/lang/StringUTF16", name := "compress", desc := "([CII)[B" } : Jvm.MethodName) jdk_52_method_16_code (6 : Nat) (Option.some (Jvm.ClassFile.FieldType.array Jvm.ClassFile.FieldType.byte)), Jvm.Cond.code ({ cls := "java/lang/StringUTF16", name := "compress", desc := "([CI[BII)I" } : Jvm.MethodName) jdk_52_method_21_code (7 : Nat) (Option.some Jvm.ClassFile.FieldType.int), Jvm.Cond.code ({ cls := "java/lang/StringUTF16", name := "coderFromArrayLen", desc := "([BI)B" } : Jvm.MethodName) jdk_52_method_15_code (2 : Nat) (Option.some Jvm.ClassFile.FieldType.byte)]
set_option maxRecDepth 65536 in
theorem codes_eq : words1.filter isCode = codes1 := rfl
theorem w_codes : ∀ c ∈ words1.filter isCode, c.before args0 about1 = true := by
  rw [codes_eq]
  intro c hc
  simp only [codes1, List.mem_cons, List.not_mem_nil, or_false] at hc
  rcases hc with rfl | rfl | rfl | rfl | rfl | rfl | rfl | rfl | rfl | rfl | rfl | rfl | rfl | rfl | rfl | rfl | rfl | rfl | rfl | rfl | rfl | rfl | rfl | rfl | rfl | rfl | rfl | rfl | rfl | rfl | rfl | rfl | rfl | rfl | rfl | rfl | rfl | rfl | rfl | rfl | rfl
  · exact w_c0
  · exact w_c1
  · exact w_c2
  · exact w_c3
  · exact w_c4
  · exact w_c5
  · exact w_c6
  · exact w_c7
  · exact w_c8
  · exact w_c9
  · exact w_c10
  · exact w_c11
  · exact w_c12
  · exact w_c13
  · exact w_c14
  · exact w_c15
  · exact w_c16
  · exact w_c17
  · exact w_c18
  · exact w_c19
  · exact w_c20
  · exact w_c21
  · exact w_c22
  · exact w_c23
  · exact w_c24
  · exact w_c25
  · exact w_c26
  · exact w_c27
  · exact w_c28
  · exact w_c29
  · exact w_c30
  · exact w_c31
  · exact w_c32
  · exact w_c33
  · exact w_c34
  · exact w_c35
  · exact w_c36
  · exact w_c37
  · exact w_c38
  · exact w_c39
  · exact w_c40
set_option maxRecDepth 65536 in
theorem w_t1 : (words1.take 24).all (fun c => isCode c || c.before args0 about1) = true := by decide +kernel
set_option maxRecDepth 65536 in
theorem w_t2 : ((words1.drop 24).take 24).all (fun c => isCode c || c.before args0 about1) = true := by decide +kernel
set_option maxRecDepth 65536 in
theorem w_t3 : (((words1.drop 24).drop 24).take 24).all (fun c => isCode c || c.before args0 about1) = true := by decide +kernel
set_option maxRecDepth 65536 in
theorem w_t4 : ((((words1.drop 24).drop 24).drop 24).take 24).all (fun c => isCode c || c.before args0 about1) = true := by decide +kernel
set_option maxRecDepth 65536 in
theorem w_t5 : (((((words1.drop 24).drop 24).drop 24).drop 24).take 24).all (fun c => isCode c || c.before args0 about1) = true := by decide +kernel
set_option maxRecDepth 65536 in
theorem w_t6 : ((((((words1.drop 24).drop 24).drop 24).drop 24).drop 24).take 24).all (fun c => isCode c || c.before args0 about1) = true := by decide +kernel
set_option maxRecDepth 65536 in
theorem w_t7 : (((((((words1.drop 24).drop 24).drop 24).drop 24).drop 24).drop 24).take 24).all (fun c => isCode c || c.before args0 about1) = true := by decide +kernel
set_option maxRecDepth 65536 in
theorem w_t8 : ((((((((words1.drop 24).drop 24).drop 24).drop 24).drop 24).drop 24).drop 24).take 24).all (fun c => isCode c || c.before args0 about1) = true := by decide +kernel
set_option maxRecDepth 65536 in
theorem w_t9 : ((((((((words1.drop 24).drop 24).drop 24).drop 24).drop 24).drop 24).drop 24).drop 24).all (fun c => isCode c || c.before args0 about1) = true := by decide +kernel
theorem w_tables : (allAtoms (Jvm.Cond.code x code maxLocals ret :: tables_1)).before args0 about1 = true := by
  rw [allAtoms_all]
  show words1.all (fun c => c.before args0 about1) = true
  refine all_split ?_ w_codes
  rw [← List.take_append_drop 24 words1, List.all_append, w_t1, ← List.take_append_drop 24 (words1.drop 24), List.all_append, w_t2, ← List.take_append_drop 24 ((words1.drop 24).drop 24), List.all_append, w_t3, ← List.take_append_drop 24 (((words1.drop 24).drop 24).drop 24), List.all_append, w_t4, ← List.take_append_drop 24 ((((words1.drop 24).drop 24).drop 24).drop 24), List.all_append, w_t5, ← List.take_append_drop 24 (((((words1.drop 24).drop 24).drop 24).drop 24).drop 24), List.all_append, w_t6, ← List.take_append_drop 24 ((((((words1.drop 24).drop 24).drop 24).drop 24).drop 24).drop 24), List.all_append, w_t7, ← List.take_append_drop 24 (((((((words1.drop 24).drop 24).drop 24).drop 24).drop 24).drop 24).drop 24), List.all_append, w_t8, w_t9]
  rfl
set_option maxRecDepth 65536 in
theorem w_rest : rest_1_c.before args0 about1 = true := by decide +kernel
set_option maxRecDepth 65536 in
theorem w_case : (Jvm.Cond.and given_1 narrow_1).before args0 about1 = true := by decide +kernel
set_option maxRecDepth 65536 in
theorem w_consts : constsHeld consts_1 about1 := Jvm.Lit.constsHeldB_iff.mp (by decide +kernel)
theorem w_applies : (headSpec (Jvm.Cond.code x code maxLocals ret :: tables_1) room_1).applies x e0.platform about1 = true :=
  (Spec.applies_iff w_frames).mpr ⟨w_running, w_runnable, w_alone, w_named, w_hears, w_ripe, w_room, w_tables⟩
theorem atStart : AtStart classFile x code maxLocals ret World_1 tables_1 room_1 Calls_1 rest_1 Pre_1 launch0 p0 e0 about1 theMethod args0 below0 :=
  ⟨lists_1, trivial, launch0.admits_env _ _ _, launch0.least_env, fairChoices_fair.cas, fairChoices_fair.clock, w_frames, w_args, w_heap, w_applies, ⟨w_consts, trivial⟩, w_rest, w_case⟩
end start1
theorem witness_1 : WitnessClaimed_1 := ⟨start1.p0, start1.e0, start1.about1, start1.theMethod, start1.args0, start1.below0, start1.atStart⟩
end Jvm.Pilot.@@N@@
