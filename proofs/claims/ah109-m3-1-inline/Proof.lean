import JvmDerived
import JvmDerived.Pilot.@@N@@Statement
import JvmDerived.Pilot.@@N@@Code
set_option linter.unusedVariables false
set_option linter.unusedSimpArgs false
namespace Jvm.RoadKit
open Sem ClassFile Op Lib Jvm.Stand Jvm.Free Jvm.LawKit
section New
variable {p : Program} {l : Launch} {e : Env} {R : Room} {s : State} {m : MethodId} {args : Array Value} {below : List Frame} {meth : Method} {c : Code} {T : State} {locs : List Loc} {cells slots : Nat}
theorem retI (X : Stand p l e R s m args below meth c T locs cells slots) (hx : p.tables.exec = Jvm.exec) {pc : Nat} {Ls : Array Slot} {z : Int32} {rest : List Value} (hret : meth.sig.returnType = some .int) (hd : decode c.code pc = .ok (.ireturn, 1)) {fs : List Frame}
    (hl : ∀ (f : JFrame) (acts : List Action), f.method = m → f.locked = none → f.entered = [] → (doReturn e (T.setTop f) acts (some (.int z))).1 = T.setFrames fs) : Steps p.tables e below (T.setTop (mkF m pc Ls (.int z :: rest))) (T.setFrames fs) := by
  have hm' : T.vm.method? m = some meth := X.method'
  have hn : narrow .int (.int z) = .int z := rfl
  show Steps p.tables e below (T.setTop { method := m, pc := pc, locals := Ls, stack := _ :: rest, locked := none }) _
  jvm_step X.here [X.here.top, hx, hd, hm', hret, hn]
  first | (intro acts; rw [hl _ acts rfl rfl rfl]) | rw [hl _ _ rfl rfl rfl]
  exact Steps.refl _
end New
end Jvm.RoadKit
/- laws to paste: Road.backV, Road.eqW, Road.codOf, chr8_lo8 (cut by pick.py; bodies as the Statement names them) -/
namespace Jvm.Pilot.@@N@@
namespace StrChars
open Jvm Sem ClassFile Op Lib Jvm.Stand Jvm.Free.XT Jvm.Free.ALB Jvm.Free.JM Jvm.Free
open Jvm.Lib.Cold (StaticIs)
/-- a char array whose places are chars -/
def Ch (a : Addr) (A : Cell) (U : State) : Prop := Arr .char a A U ∧ Typed .char A
theorem Ch.mv {a : Addr} {A : Cell} {U U' : State} (h : Ch a A U) (hal : U.vm.Alike U'.vm) (hh : U'.heap = U.heap) : Ch a A U' := ⟨h.1.mv hal hh, h.2⟩
theorem Ch.keep {a : Addr} {A : Cell} {U U' : State} (h : Ch a A U) (hal : U.vm.Alike U'.vm) (hk : U'.heap[a]? = some A) : Ch a A U' := ⟨h.1.keep hal hk, h.2⟩
/-- what place i of a char[]'s cell holds -/
def cv (A : Cell) (i : Nat) : Int32 := match A.slots[i]? with | some (.int x) => x | _ => 0
theorem Ch.get {a : Addr} {A : Cell} {U : State} (h : Ch a A U) {i : Nat} (hi : i < A.slots.size) : A.slots[i]? = some (.int (cv A i)) := by
  have e := Array.getElem?_eq_getElem hi
  have f := h.2 i _ e
  unfold cv; rw [e]
  generalize A.slots[i] = v at f
  cases v <;> simp [fits] at f ⊢
/-- the byte that i2b leaves of a char -/
def lo8 (x : Int32) : Int32 := x.toInt8.toInt32
theorem fits_lo8 (y : Int32) : fits .byte (.int (lo8 y)) = true := by
  have h1 := y.toInt8.le_toInt
  have h2 := y.toInt8.toInt_lt
  simp only [lo8, fits, Bool.and_eq_true, decide_eq_true_eq, Int32.le_iff_toInt_le, Int8.toInt_toInt32, show (-128 : Int32).toInt = -128 from by decide, show (127 : Int32).toInt = 127 from by decide]
  omega
/-- A' is A but that each place j of lo .. hi - 1 holds f j -/
def Laid (A A' : Cell) (lo hi : Nat) (f : Nat → Value) : Prop := A'.cls = A.cls ∧ A'.vm = A.vm ∧ A'.slots.size = A.slots.size ∧ ∀ i, A'.slots[i]? = if lo ≤ i ∧ i < hi then some (f i) else A.slots[i]?
theorem Laid.zero (A : Cell) (lo : Nat) (f : Nat → Value) : Laid A A lo (lo + 0) f := ⟨rfl, rfl, rfl, fun i => by rw [if_neg (by omega)]⟩
theorem Laid.step {A Ak : Cell} {lo k : Nat} {f : Nat → Value} {v : Value} (h : Laid A Ak lo k f) (hlo : lo ≤ k) (hk : k < Ak.slots.size) (hv : v = f k) : Laid A (Ak.setSlot k v) lo (k + 1) f := by
  refine ⟨h.1, h.2.1, by simpa [Cell.setSlot] using h.2.2.1, fun i => ?_⟩
  by_cases e : k = i
  · subst e; rw [Cell.slots_setSlot_self v hk, if_pos (by omega), hv]
  · rw [Cell.slots_setSlot_ne v e, h.2.2.2 i]
    by_cases q : lo ≤ i ∧ i < k
    · rw [if_pos q, if_pos (by omega)]
    · rw [if_neg q, if_neg (by omega)]
def U16 : String := "java/lang/StringUTF16"
namespace Cmp5
def yN : MethodName := ⟨"java/lang/StringUTF16", "compress", "([CI[BII)I"⟩
abbrev yB : ByteArray := jdk_52_method_21_code
theorem d0 : decode yB 0 = .ok (.iconst 0, 1) := by decide +kernel
theorem d1 : decode yB 1 = .ok (.istore 5, 2) := by decide +kernel
theorem d3 : decode yB 3 = .ok (.iload 5, 2) := by decide +kernel
theorem d5 : decode yB 5 = .ok (.iload 4, 2) := by decide +kernel
theorem d7 : decode yB 7 = .ok (.if_icmp (.ge) 37, 3) := by decide +kernel
theorem d10 : decode yB 10 = .ok (.aload_n 0, 1) := by decide +kernel
theorem d11 : decode yB 11 = .ok (.iload_n 1, 1) := by decide +kernel
theorem d12 : decode yB 12 = .ok (.caload, 1) := by decide +kernel
theorem d13 : decode yB 13 = .ok (.istore 6, 2) := by decide +kernel
theorem d15 : decode yB 15 = .ok (.iload 6, 2) := by decide +kernel
theorem d17 : decode yB 17 = .ok (.sipush 255, 3) := by decide +kernel
theorem d20 : decode yB 20 = .ok (.if_icmp (.le) 6, 3) := by decide +kernel
theorem d26 : decode yB 26 = .ok (.aload_n 2, 1) := by decide +kernel
theorem d27 : decode yB 27 = .ok (.iload_n 3, 1) := by decide +kernel
theorem d28 : decode yB 28 = .ok (.iload 6, 2) := by decide +kernel
theorem d30 : decode yB 30 = .ok (.i2b, 1) := by decide +kernel
theorem d31 : decode yB 31 = .ok (.bastore, 1) := by decide +kernel
theorem d32 : decode yB 32 = .ok (.iinc 1 1, 3) := by decide +kernel
theorem d35 : decode yB 35 = .ok (.iinc 3 1, 3) := by decide +kernel
theorem d38 : decode yB 38 = .ok (.iinc 5 1, 3) := by decide +kernel
theorem d41 : decode yB 41 = .ok (.goto (-38), 3) := by decide +kernel
theorem d44 : decode yB 44 = .ok (.iload 4, 2) := by decide +kernel
theorem d46 : decode yB 46 = .ok (.ireturn, 1) := by decide +kernel
def site : List Cond := []
def tab : Cond := tabOf yN yB 7 (some .int) site
def P (b : Addr) (A : Cell) (d : Addr) (B : Cell) (o q len : Nat) (args : Array Value) (s : State) : Prop := args = #[.ref b, .int (Int32.ofNat o), .ref d, .int (Int32.ofNat q), .int (Int32.ofNat len)] ∧ Ch b A s ∧ Arr .byte d B s ∧ b ≠ d ∧ o + len ≤ A.slots.size ∧ q + len ≤ B.slots.size ∧ ∀ i, i < len → ¬ 255 < cv A (o + i)
def E (b : Addr) (A : Cell) (d : Addr) (B : Cell) (o q len : Nat) (r : Option Value) (s u : State) : Prop := r = some (.int (Int32.ofNat len)) ∧ ∃ B', Put d B' s u ∧ Laid B B' q (q + len) (fun j => Value.int (lo8 (cv A (o + (j - q)))))
/-- no char of the range above 255: len; the places written hold each char's low byte -/
theorem law (l : Launch) (b : Addr) (A : Cell) (d : Addr) (B : Cell) (o q len : Nat) : Law l yN 5 5 0 0 yB 7 (some .int) site (P b A d B o q len) (E b A d B o q len) (copyLocs d q len) 0 0 := by
  refine Law.of_walk (plainFor_of_name (by decide +kernel)) (by decide +kernel) (by decide +kernel) (by decide) (fun _ _ h => by rw [h.1]; rfl) (fun _ U U' hal hh h => ⟨h.1, h.2.1.mv hal hh, h.2.2.1.mv hal hh, h.2.2.2⟩) (fun r U U' V V' h1 hal h2 h => ⟨h.1, h.2.elim fun B' q => ⟨B', q.1.mv h1 h2, q.2⟩⟩) ?_
  intro p e s m args below meth c s₁ X0 hexec hbytes hml hret hlk hnm hown hh0 W hP
  obtain ⟨rfl, hA, hB, hne, l1, l2, hp⟩ := hP
  have c1 : Steps p.tables e below (s₁.setTop (entryFrame m #[.ref b, .int (Int32.ofNat o), .ref d, .int (Int32.ofNat q), .int (Int32.ofNat len)] 7)) (s₁.setTop (mkF m 0 #[.val (.ref b), .val (.int (Int32.ofNat o)), .val (.ref d), .val (.int (Int32.ofNat q)), .val (.int (Int32.ofNat len)), .unset, .unset] [])) := entry rfl
  have hA0 := hA.1.mv X0.warmed.alike hh0
  have hB0 := hB.mv X0.warmed.alike hh0
  have a31 := hA.1.2.2.2
  have c2 : Steps p.tables e below (s₁.setTop (entryFrame m #[.ref b, .int (Int32.ofNat o), .ref d, .int (Int32.ofNat q), .int (Int32.ofNat len)] 7)) (s₁.setTop (mkF m 3 #[.val (.ref b), .val (.int (Int32.ofNat o)), .val (.ref d), .val (.int (Int32.ofNat q)), .val (.int (Int32.ofNat len)), .val (.int 0), .unset] [])) := c1.trans (by
    refine iconstV X0.here hexec rfl 0 (hb hbytes d0) (by decide) ?_
    refine XS.istore X0.here hexec rfl (hb hbytes d1) rfl rfl ?_
    exact Steps.refl _)
  have loop : ∀ (r i : Nat), i + r = len → ∀ (z : Slot), (z = .unset ∨ ∃ w, z = .val w ∧ w.category = 1) → ∀ (Tl : State) (Bk : Cell), Stand p l e { frames := 0, locals := 0, cells := 0, slots := 0 } s m #[.ref b, .int (Int32.ofNat o), .ref d, .int (Int32.ofNat q), .int (Int32.ofNat len)] below meth c Tl ([] ++ copyLocs d q i) 0 0 → Put d Bk s₁ Tl → Laid B Bk q (q + i) (fun j => Value.int (lo8 (cv A (o + (j - q))))) →
      Steps p.tables e below (s₁.setTop (entryFrame m #[.ref b, .int (Int32.ofNat o), .ref d, .int (Int32.ofNat q), .int (Int32.ofNat len)] 7)) (Tl.setTop (mkF m 3 #[.val (.ref b), .val (.int (Int32.ofNat (o + i))), .val (.ref d), .val (.int (Int32.ofNat (q + i))), .val (.int (Int32.ofNat len)), .val (.int (Int32.ofNat i)), z] [])) → ∃ (T' : State) (B' : Cell) (z' : Slot), Stand p l e { frames := 0, locals := 0, cells := 0, slots := 0 } s m #[.ref b, .int (Int32.ofNat o), .ref d, .int (Int32.ofNat q), .int (Int32.ofNat len)] below meth c T' ([] ++ copyLocs d q len) 0 0 ∧ Put d B' s₁ T' ∧ Laid B B' q (q + len) (fun j => Value.int (lo8 (cv A (o + (j - q))))) ∧
      Steps p.tables e below (s₁.setTop (entryFrame m #[.ref b, .int (Int32.ofNat o), .ref d, .int (Int32.ofNat q), .int (Int32.ofNat len)] 7)) (T'.setTop (mkF m 3 #[.val (.ref b), .val (.int (Int32.ofNat (o + len))), .val (.ref d), .val (.int (Int32.ofNat (q + len))), .val (.int (Int32.ofNat len)), .val (.int (Int32.ofNat len)), z'] [])) := by
    intro r
    induction r with
    | zero =>
      intro i hi z hz Tl Bk Xl pl fl cl
      have hil : i = len := by omega
      rw [hil] at Xl fl cl
      exact ⟨Tl, Bk, z, Xl, pl, fl, cl⟩
    | succ r ih =>
      intro i hi z hz Tl Bk Xl pl fl cl
      have all := X0.warmed.alike.symm.trans Xl.warmed.alike
      have hAl := hA0.keep all (pl.other hne hA0.1)
      have hBk := hB0.like all pl.1 fl.1 fl.2.1 fl.2.2.1
      have hlt : q + i < Bk.slots.size := by rw [fl.2.2.1]; omega
      have c3 : Steps p.tables e below (s₁.setTop (entryFrame m #[.ref b, .int (Int32.ofNat o), .ref d, .int (Int32.ofNat q), .int (Int32.ofNat len)] 7)) (Tl.setTop (mkF m 12 #[.val (.ref b), .val (.int (Int32.ofNat (o + i))), .val (.ref d), .val (.int (Int32.ofNat (q + i))), .val (.int (Int32.ofNat len)), .val (.int (Int32.ofNat i)), z] [.int (Int32.ofNat (o + i)), .ref b])) := cl.trans (by
        refine XS.iload Xl.here hexec rfl (hb hbytes d3) rfl ?_
        refine XS.iload Xl.here hexec rfl (hb hbytes d5) rfl ?_
        refine XS.icmpNo Xl.here hexec rfl (hb hbytes d7) rfl (ii_ge_f (lt32 (by omega) (by omega))) ?_
        refine XS.aloadN Xl.here hexec rfl (hb hbytes d10) rfl rfl ?_
        refine XS.iloadN Xl.here hexec rfl (hb hbytes d11) rfl ?_
        exact Steps.refl _)
      have c4 : Steps p.tables e below (s₁.setTop (entryFrame m #[.ref b, .int (Int32.ofNat o), .ref d, .int (Int32.ofNat q), .int (Int32.ofNat len)] 7)) (Tl.setTop (mkF m 13 #[.val (.ref b), .val (.int (Int32.ofNat (o + i))), .val (.ref d), .val (.int (Int32.ofNat (q + i))), .val (.int (Int32.ofNat len)), .val (.int (Int32.ofNat i)), z] [.int (cv A (o + i))])) := c3.trans (by
        refine Xl.aget hexec hAl rfl (hA.get (i := o + i) (by omega)) rfl rfl (hb hbytes d12) ?_
        exact Steps.refl _)
      have c5 : Steps p.tables e below (s₁.setTop (entryFrame m #[.ref b, .int (Int32.ofNat o), .ref d, .int (Int32.ofNat q), .int (Int32.ofNat len)] 7)) (Tl.setTop (mkF m 15 #[.val (.ref b), .val (.int (Int32.ofNat (o + i))), .val (.ref d), .val (.int (Int32.ofNat (q + i))), .val (.int (Int32.ofNat len)), .val (.int (Int32.ofNat i)), .val (.int (cv A (o + i)))] [])) := c4.trans (by
        refine XS.istoreS Xl.here hexec rfl (hb hbytes d13) rfl rfl hz ?_
        exact Steps.refl _)
      have c6 : Steps p.tables e below (s₁.setTop (entryFrame m #[.ref b, .int (Int32.ofNat o), .ref d, .int (Int32.ofNat q), .int (Int32.ofNat len)] 7)) (Tl.setTop (mkF m 31 #[.val (.ref b), .val (.int (Int32.ofNat (o + i))), .val (.ref d), .val (.int (Int32.ofNat (q + i))), .val (.int (Int32.ofNat len)), .val (.int (Int32.ofNat i)), .val (.int (cv A (o + i)))] [.int (lo8 (cv A (o + i))), .int (Int32.ofNat (q + i)), .ref d])) := c5.trans (by
        refine XS.iload Xl.here hexec rfl (hb hbytes d15) rfl ?_
        refine sipushV Xl.here hexec rfl 255 (hb hbytes d17) (by decide) ?_
        refine XS.icmpYes Xl.here hexec rfl (pc0 := 20) rfl (hb hbytes d20) rfl (ii_le_t (hp i (by omega))) (by decide) rfl ?_
        refine XS.aloadN Xl.here hexec rfl (hb hbytes d26) rfl rfl ?_
        refine XS.iloadN Xl.here hexec rfl (hb hbytes d27) rfl ?_
        refine XS.iload Xl.here hexec rfl (hb hbytes d28) rfl ?_
        refine i2b Xl.here hexec rfl (hb hbytes d30) rfl ?_
        exact Steps.refl _)
      obtain ⟨T7, X7, p7, st7⟩ := Xl.aput hexec hBk rfl hlt rfl (fits_lo8 (cv A (o + i))) (g := (mkF m 31 #[.val (.ref b), .val (.int (Int32.ofNat (o + i))), .val (.ref d), .val (.int (Int32.ofNat (q + i))), .val (.int (Int32.ofNat len)), .val (.int (Int32.ofNat i)), .val (.int (cv A (o + i)))] [.int (lo8 (cv A (o + i))), .int (Int32.ofNat (q + i)), .ref d])) rfl (rest := []) rfl (hb hbytes d31)
      have c8 : Steps p.tables e below (s₁.setTop (entryFrame m #[.ref b, .int (Int32.ofNat o), .ref d, .int (Int32.ofNat q), .int (Int32.ofNat len)] 7)) (T7.setTop (mkF m 32 #[.val (.ref b), .val (.int (Int32.ofNat (o + i))), .val (.ref d), .val (.int (Int32.ofNat (q + i))), .val (.int (Int32.ofNat len)), .val (.int (Int32.ofNat i)), .val (.int (cv A (o + i)))] [])) := c6.trans (st7 _ (Steps.refl _))
      have c9 : Steps p.tables e below (s₁.setTop (entryFrame m #[.ref b, .int (Int32.ofNat o), .ref d, .int (Int32.ofNat q), .int (Int32.ofNat len)] 7)) (T7.setTop (mkF m 3 #[.val (.ref b), .val (.int (Int32.ofNat (o + i) + 1)), .val (.ref d), .val (.int (Int32.ofNat (q + i) + 1)), .val (.int (Int32.ofNat len)), .val (.int (Int32.ofNat i + 1)), .val (.int (cv A (o + i)))] [])) := c8.trans (by
        refine iincV X7.here hexec rfl 1 (hb hbytes d32) (by decide) rfl rfl ?_
        refine iincV X7.here hexec rfl 1 (hb hbytes d35) (by decide) rfl rfl ?_
        refine iincV X7.here hexec rfl 1 (hb hbytes d38) (by decide) rfl rfl ?_
        refine XS.goto X7.here hexec rfl (pc0 := 41) rfl (hb hbytes d41) (by decide) rfl ?_
        exact Steps.refl _)
      have c10 : Steps p.tables e below (s₁.setTop (entryFrame m #[.ref b, .int (Int32.ofNat o), .ref d, .int (Int32.ofNat q), .int (Int32.ofNat len)] 7)) (T7.setTop (mkF m 3 #[.val (.ref b), .val (.int (Int32.ofNat (o + (i + 1)))), .val (.ref d), .val (.int (Int32.ofNat (q + (i + 1)))), .val (.int (Int32.ofNat len)), .val (.int (Int32.ofNat (i + 1))), .val (.int (cv A (o + i)))] [])) := by
        have := c9
        rw [succ32, succ32, succ32] at this
        exact this
      exact ih (i + 1) (by omega) _ (Or.inr ⟨_, rfl, rfl⟩) T7 _ (by rw [copyLocs_step, ← List.append_assoc]; exact X7) (pl.trans p7) (fl.step (by omega) hlt (by simp)) c10
  obtain ⟨T9, B9, z9, X9, p9, f9, g9⟩ := loop len 0 (by omega) .unset (Or.inl rfl) s₁ B (by simpa [copyLocs] using X0) ⟨hB0.1, fun _ _ => rfl, rfl⟩ (Laid.zero _ _ _) c2
  have c11 : Steps p.tables e below (s₁.setTop (entryFrame m #[.ref b, .int (Int32.ofNat o), .ref d, .int (Int32.ofNat q), .int (Int32.ofNat len)] 7)) (T9.setTop (mkF m 46 #[.val (.ref b), .val (.int (Int32.ofNat (o + len))), .val (.ref d), .val (.int (Int32.ofNat (q + len))), .val (.int (Int32.ofNat len)), .val (.int (Int32.ofNat len)), z9] [.int (Int32.ofNat len)])) := g9.trans (by
    refine XS.iload X9.here hexec rfl (hb hbytes d3) rfl ?_
    refine XS.iload X9.here hexec rfl (hb hbytes d5) rfl ?_
    refine XS.icmpYes X9.here hexec rfl (pc0 := 7) rfl (hb hbytes d7) rfl (ii_ge_t (nlt32 (by omega) (Nat.le_refl _))) (by decide) rfl ?_
    refine XS.iload X9.here hexec rfl (hb hbytes d44) rfl ?_
    exact Steps.refl _)
  exact ⟨T9, some (.int (Int32.ofNat len)), _, _, _, X9, by simp, rfl, rfl, (fun h => by cases h), ⟨rfl, B9, p9.from hh0, f9⟩, fun fs hl => c11.trans (X9.ireturnOut hexec hret rfl (Or.inl rfl) (hb hbytes d46) hl)⟩
end Cmp5
namespace Cmp3
def yN : MethodName := ⟨"java/lang/StringUTF16", "compress", "([CII)[B"⟩
abbrev yB : ByteArray := jdk_52_method_16_code
theorem d0 : decode yB 0 = .ok (.iload_n 2, 1) := by decide +kernel
theorem d1 : decode yB 1 = .ok (.newarray .byte, 2) := by decide +kernel
theorem d3 : decode yB 3 = .ok (.astore_n 3, 1) := by decide +kernel
theorem d4 : decode yB 4 = .ok (.aload_n 0, 1) := by decide +kernel
theorem d5 : decode yB 5 = .ok (.iload_n 1, 1) := by decide +kernel
theorem d6 : decode yB 6 = .ok (.aload_n 3, 1) := by decide +kernel
theorem d7 : decode yB 7 = .ok (.iconst 0, 1) := by decide +kernel
theorem d8 : decode yB 8 = .ok (.iload_n 2, 1) := by decide +kernel
theorem d9 : decode yB 9 = .ok (.invokestatic 115, 3) := by decide +kernel
theorem d12 : decode yB 12 = .ok (.istore 4, 2) := by decide +kernel
theorem d14 : decode yB 14 = .ok (.iload 4, 2) := by decide +kernel
theorem d16 : decode yB 16 = .ok (.iload_n 2, 1) := by decide +kernel
theorem d17 : decode yB 17 = .ok (.if_icmp (.eq) 40, 3) := by decide +kernel
theorem d57 : decode yB 57 = .ok (.aload_n 3, 1) := by decide +kernel
theorem d58 : decode yB 58 = .ok (.areturn, 1) := by decide +kernel
def site : List Cond := [.arrayClass .byte, Cmp5.tab] ++ staticW U16 115 Cmp5.yN
def tab : Cond := tabOf yN yB 6 (some (.array .byte)) site
def P (b : Addr) (A : Cell) (o len : Nat) (args : Array Value) (s : State) : Prop := args = #[.ref b, .int (Int32.ofNat o), .int (Int32.ofNat len)] ∧ Ch b A s ∧ o + len ≤ A.slots.size ∧ len ≤ 536870912 ∧ ∀ i, i < len → ¬ 255 < cv A (o + i)
def E (b : Addr) (A : Cell) (o len : Nat) (r : Option Value) (s u : State) : Prop := NewArr .byte "[B" len (fun j => .int (lo8 (cv A (o + j)))) r s u ∧ u.heap.size = s.heap.size + 1
/-- no char of the range above 255: a new byte[] of their low bytes -/
theorem law (l : Launch) (b : Addr) (A : Cell) (o len : Nat) : Law l yN 3 3 1 18 yB 6 (some (.array .byte)) site (P b A o len) (E b A o len) [] 1 len := by
  refine Law.of_walk (plainFor_of_name (by decide +kernel)) (by decide +kernel) (by decide +kernel) (by decide) (fun _ _ h => by rw [h.1]; rfl) (fun _ U U' hal hh h => ⟨h.1, h.2.1.mv hal hh, h.2.2⟩) (fun r U U' V V' h1 hal h2 h => ⟨NewArr.mv r U U' V V' h1 hal h2 h.1, by rw [h1, h2]; exact h.2⟩) ?_
  intro p e s m args below meth c s₁ X0 hexec hbytes hml hret hlk hnm hown hh0 W hP
  obtain ⟨rfl, hA, l1, l2, hp⟩ := hP
  have a31 := hA.1.2.2.2
  have c1 : Steps p.tables e below (s₁.setTop (entryFrame m #[.ref b, .int (Int32.ofNat o), .int (Int32.ofNat len)] 6)) (s₁.setTop (mkF m 0 #[.val (.ref b), .val (.int (Int32.ofNat o)), .val (.int (Int32.ofNat len)), .unset, .unset, .unset] [])) := entry rfl
  have c2 : Steps p.tables e below (s₁.setTop (entryFrame m #[.ref b, .int (Int32.ofNat o), .int (Int32.ofNat len)] 6)) (s₁.setTop (mkF m 1 #[.val (.ref b), .val (.int (Int32.ofNat o)), .val (.int (Int32.ofNat len)), .unset, .unset, .unset] [.int (Int32.ofNat len)])) := c1.trans (by
    refine XS.iloadN X0.here hexec rfl (hb hbytes d0) rfl ?_
    exact Steps.refl _)
  obtain ⟨T3, B3, X3, ba3, bs3, bv3, bh3, bf3, st3⟩ := X0.anew hexec (atype := .byte) (wk W (.arrayClass .byte)) rfl (by show len * 1 ≤ _; omega) (by omega) (g := (mkF m 1 #[.val (.ref b), .val (.int (Int32.ofNat o)), .val (.int (Int32.ofNat len)), .unset, .unset, .unset] [.int (Int32.ofNat len)])) rfl (hb hbytes d1) (rest := []) rfl (Nat.le_refl _) (by show 0 + len ≤ len; omega)
  rw [hh0] at ba3 st3
  have kp3 : XT.Kept s T3 := (XT.Kept.of_eq hh0).push bh3
  have hA3 := hA.keep X3.warmed.alike (kp3 _ _ hA.1.1)
  have hne : b ≠ s.heap.size := hA.1.ne
  have c4 : Steps p.tables e below (s₁.setTop (entryFrame m #[.ref b, .int (Int32.ofNat o), .int (Int32.ofNat len)] 6)) (T3.setTop (mkF m 3 #[.val (.ref b), .val (.int (Int32.ofNat o)), .val (.int (Int32.ofNat len)), .unset, .unset, .unset] [.ref s.heap.size])) := c2.trans (st3 _ (Steps.refl _))
  have c5 : Steps p.tables e below (s₁.setTop (entryFrame m #[.ref b, .int (Int32.ofNat o), .int (Int32.ofNat len)] 6)) (T3.setTop (mkF m 9 #[.val (.ref b), .val (.int (Int32.ofNat o)), .val (.int (Int32.ofNat len)), .val (.ref s.heap.size), .unset, .unset] [.int (Int32.ofNat len), .int 0, .ref s.heap.size, .int (Int32.ofNat o), .ref b])) := c4.trans (by
    refine XS.astoreN X3.here hexec rfl (hb hbytes d3) rfl rfl rfl ?_
    refine XS.aloadN X3.here hexec rfl (hb hbytes d4) rfl rfl ?_
    refine XS.iloadN X3.here hexec rfl (hb hbytes d5) rfl ?_
    refine XS.aloadN X3.here hexec rfl (hb hbytes d6) rfl rfl ?_
    refine iconstV X3.here hexec rfl 0 (hb hbytes d7) (by decide) ?_
    refine XS.iloadN X3.here hexec rfl (hb hbytes d8) rfl ?_
    exact Steps.refl _)
  obtain ⟨v6, T6, X6, E6, g6⟩ := X3.callS hexec (Cmp5.law l b A s.heap.size B3 o 0 len) hown (wks W (staticW U16 115 Cmp5.yN)) (wk W Cmp5.tab) (W := 0) (Nat.le_of_ble_eq_true rfl) (Nat.le_of_ble_eq_true rfl) (Nat.le_refl _) (by show 0 + len + 0 ≤ len; omega) (g := (mkF m 9 #[.val (.ref b), .val (.int (Int32.ofNat o)), .val (.int (Int32.ofNat len)), .val (.ref s.heap.size), .unset, .unset] [.int (Int32.ofNat len), .int (Int32.ofNat 0), .ref s.heap.size, .int (Int32.ofNat o), .ref b])) rfl (by rw [hml]; rfl) c5 (argsL := [.ref b, .int (Int32.ofNat o), .ref s.heap.size, .int (Int32.ofNat 0), .int (Int32.ofNat len)]) (rest := []) rfl rfl (by show 2 * 0 + 0 ≤ _; decide) (hb hbytes d9) (⟨rfl, hA3, ba3, hne, l1, by rw [bs3]; simp, hp⟩)
  obtain ⟨rfl, B6, p6, f6⟩ := E6
  have c7 : Steps p.tables e below (s₁.setTop (entryFrame m #[.ref b, .int (Int32.ofNat o), .int (Int32.ofNat len)] 6)) (T6.setTop (mkF m 12 #[.val (.ref b), .val (.int (Int32.ofNat o)), .val (.int (Int32.ofNat len)), .val (.ref s.heap.size), .unset, .unset] [.int (Int32.ofNat len)])) := g6
  have c8 : Steps p.tables e below (s₁.setTop (entryFrame m #[.ref b, .int (Int32.ofNat o), .int (Int32.ofNat len)] 6)) (T6.setTop (mkF m 58 #[.val (.ref b), .val (.int (Int32.ofNat o)), .val (.int (Int32.ofNat len)), .val (.ref s.heap.size), .val (.int (Int32.ofNat len)), .unset] [.ref s.heap.size])) := c7.trans (by
    refine XS.istore X6.here hexec rfl (hb hbytes d12) rfl rfl ?_
    refine XS.iload X6.here hexec rfl (hb hbytes d14) rfl ?_
    refine XS.iloadN X6.here hexec rfl (hb hbytes d16) rfl ?_
    refine XS.icmpYes X6.here hexec rfl (pc0 := 17) rfl (hb hbytes d17) rfl (ii_eq_t rfl) (by decide) rfl ?_
    refine XS.aloadN X6.here hexec rfl (hb hbytes d57) rfl rfl ?_
    exact Steps.refl _)
  have X8 := X6.wide (L' := []) (cells' := 1) (slots' := len) (fun x hx hlt => by
    simp only [List.nil_append, copyLocs, List.mem_map, List.mem_range] at hx
    obtain ⟨i, -, rfl⟩ := hx
    exact absurd hlt (Nat.lt_irrefl _)) (Nat.le_refl _) (by omega)
  exact ⟨T6, some (.ref s.heap.size), _, _, _, X8, rfl, rfl, rfl, (fun h => by cases h), ⟨⟨rfl, B6, ba3.like (X3.warmed.alike.symm.trans X6.warmed.alike) p6.1 f6.1 f6.2.1 f6.2.2.1, f6.2.1.trans bv3, by rw [X6.warmed.alike.findClass, f6.1]; exact bf3, by rw [f6.2.2.1, bs3]; simp, fun j hj => by rw [f6.2.2.2 j, if_pos (by omega)]; rfl, kp3.put p6 (Nat.le_refl _)⟩, by rw [p6.2.2, bh3, hh0]; simp⟩, fun fs hl => c8.trans (X8.areturnOut hexec rfl hret rfl (hb hbytes d58) hl)⟩
end Cmp3
namespace CodL
def yN : MethodName := ⟨"java/lang/StringUTF16", "coderFromArrayLen", "([BI)B"⟩
abbrev yB : ByteArray := jdk_52_method_15_code
theorem d0 : decode yB 0 = .ok (.iload_n 1, 1) := by decide +kernel
theorem d1 : decode yB 1 = .ok (.aload_n 0, 1) := by decide +kernel
theorem d2 : decode yB 2 = .ok (.arraylength, 1) := by decide +kernel
theorem d3 : decode yB 3 = .ok (.isub, 1) := by decide +kernel
theorem d4 : decode yB 4 = .ok (.bipush 31, 2) := by decide +kernel
theorem d6 : decode yB 6 = .ok (.iushr, 1) := by decide +kernel
theorem d7 : decode yB 7 = .ok (.i2b, 1) := by decide +kernel
theorem d8 : decode yB 8 = .ok (.ireturn, 1) := by decide +kernel
def site : List Cond := []
def tab : Cond := tabOf yN yB 2 (some .byte) site
def P (d : Addr) (B : Cell) (args : Array Value) (s : State) : Prop := args = #[.ref d, .int (Int32.ofNat B.slots.size)] ∧ Arr .byte d B s
def E (r : Option Value) (s u : State) : Prop := XT.PureE (some (.int 0)) r s u
/-- an array as long as the number of chars: LATIN1 -/
theorem law (l : Launch) (d : Addr) (B : Cell) : Law l yN 2 2 0 0 yB 2 (some .byte) site (P d B) E [] 0 0 := by
  refine Law.of_walk (plainFor_of_name (by decide +kernel)) (by decide +kernel) (by decide +kernel) (by decide) (fun _ _ h => by rw [h.1]; rfl) (fun _ U U' hal hh h => ⟨h.1, h.2.mv hal hh⟩) (fun r U U' V V' h1 hal h2 h => XT.PureE.mv r U U' V V' h1 hal h2 h) ?_
  intro p e s m args below meth c s₁ X0 hexec hbytes hml hret hlk hnm hown hh0 W hP
  obtain ⟨rfl, hB⟩ := hP
  have hB0 := hB.mv X0.warmed.alike hh0
  have c1 : Steps p.tables e below (s₁.setTop (entryFrame m #[.ref d, .int (Int32.ofNat B.slots.size)] 2)) (s₁.setTop (mkF m 0 #[.val (.ref d), .val (.int (Int32.ofNat B.slots.size))] [])) := entry rfl
  have c2 : Steps p.tables e below (s₁.setTop (entryFrame m #[.ref d, .int (Int32.ofNat B.slots.size)] 2)) (s₁.setTop (mkF m 2 #[.val (.ref d), .val (.int (Int32.ofNat B.slots.size))] [.ref d, .int (Int32.ofNat B.slots.size)])) := c1.trans (by
    refine XS.iloadN X0.here hexec rfl (hb hbytes d0) rfl ?_
    refine XS.aloadN X0.here hexec rfl (hb hbytes d1) rfl rfl ?_
    exact Steps.refl _)
  have c3 : Steps p.tables e below (s₁.setTop (entryFrame m #[.ref d, .int (Int32.ofNat B.slots.size)] 2)) (s₁.setTop (mkF m 8 #[.val (.ref d), .val (.int (Int32.ofNat B.slots.size))] [.int (lo8 (ushr (Int32.ofNat B.slots.size - Int32.ofNat B.slots.size) 31))])) := c2.trans (by
    refine X0.alen hexec hB0 rfl rfl (hb hbytes d2) ?_
    refine XS.isub X0.here hexec rfl (hb hbytes d3) rfl ?_
    refine bipushV X0.here hexec rfl 31 (hb hbytes d4) (by decide) ?_
    refine iushr X0.here hexec rfl (hb hbytes d6) rfl ?_
    refine i2b X0.here hexec rfl (hb hbytes d7) rfl ?_
    exact Steps.refl _)
  have e0 : lo8 (ushr (Int32.ofNat B.slots.size - Int32.ofNat B.slots.size) 31) = 0 := by rw [Int32.sub_self]; decide
  rw [e0] at c3
  exact ⟨s₁, some (.int 0), _, _, _, X0, rfl, rfl, rfl, (fun h => by cases h), ⟨rfl, hh0⟩, fun fs hl => c3.trans (X0.ireturnOut hexec hret rfl (Or.inr (Or.inr (Or.inl rfl))) (hb hbytes d8) hl)⟩
end CodL
/-- the String at a is Latin-1 over a new byte[] (the heap's one new cell): the low bytes of the len chars of A from o on; every cell but a is kept -/
def Got (a : Addr) (D : Cell) (fV fC : Field) (A : Cell) (o len : Nat) (r : Option Value) (s u : State) : Prop := r = none ∧ ∃ D' V : Cell, Blank "java/lang/String" a D' u ∧ Same D D' [fV.slot, fC.slot] ∧ D'.slots[fV.slot]? = some (.ref s.heap.size) ∧ D'.slots[fC.slot]? = some (.int 0) ∧ Arr .byte s.heap.size V u ∧ V.vm = .none ∧ u.vm.findClass "[B" = some V.cls ∧ V.slots.size = len ∧ (∀ j, j < len → V.slots[j]? = some (.int (lo8 (cv A (o + j))))) ∧ (∀ (y : Addr) (c : Cell), y ≠ a → s.heap[y]? = some c → u.heap[y]? = some c) ∧ u.heap.size = s.heap.size + 1
theorem Got.mv {a : Addr} {D A : Cell} {fV fC : Field} {o len : Nat} : ∀ r (U U' V V' : State), U'.heap = U.heap → V.vm.Alike V'.vm → V'.heap = V.heap → Got a D fV fC A o len r U V → Got a D fV fC A o len r U' V' :=
  fun r U U' V V' h1 hal h2 ⟨e0, D', X, a1, a2, a3, a4, a5, a6, a7, a8, a9, a10, a11⟩ => ⟨e0, D', X, a1.mv hal h2, a2, by rw [h1]; exact a3, a4, by rw [h1]; exact a5.mv hal h2, a6, by rw [hal.findClass]; exact a7, a8, a9, by rw [h1, h2]; exact a10, by rw [h1, h2]; exact a11⟩
namespace New4
def yN : MethodName := ⟨"java/lang/String", "<init>", "([CIILjava/lang/Void;)V"⟩
abbrev yB : ByteArray := jdk_42_method_149_code
theorem d0 : decode yB 0 = .ok (.aload_n 0, 1) := by decide +kernel
theorem d1 : decode yB 1 = .ok (.invokespecial 1, 3) := by decide +kernel
theorem d4 : decode yB 4 = .ok (.iload_n 3, 1) := by decide +kernel
theorem d5 : decode yB 5 = .ok (.ifCond (.ne) 22, 3) := by decide +kernel
theorem d27 : decode yB 27 = .ok (.getstatic 38, 3) := by decide +kernel
theorem d30 : decode yB 30 = .ok (.ifCond (.eq) 28, 3) := by decide +kernel
theorem d33 : decode yB 33 = .ok (.aload_n 1, 1) := by decide +kernel
theorem d34 : decode yB 34 = .ok (.iload_n 2, 1) := by decide +kernel
theorem d35 : decode yB 35 = .ok (.iload_n 3, 1) := by decide +kernel
theorem d36 : decode yB 36 = .ok (.invokestatic 177, 3) := by decide +kernel
theorem d39 : decode yB 39 = .ok (.astore 5, 2) := by decide +kernel
theorem d41 : decode yB 41 = .ok (.aload_n 0, 1) := by decide +kernel
theorem d42 : decode yB 42 = .ok (.aload 5, 2) := by decide +kernel
theorem d44 : decode yB 44 = .ok (.iload_n 3, 1) := by decide +kernel
theorem d45 : decode yB 45 = .ok (.invokestatic 47, 3) := by decide +kernel
theorem d48 : decode yB 48 = .ok (.putfield 15, 3) := by decide +kernel
theorem d51 : decode yB 51 = .ok (.aload_n 0, 1) := by decide +kernel
theorem d52 : decode yB 52 = .ok (.aload 5, 2) := by decide +kernel
theorem d54 : decode yB 54 = .ok (.putfield 9, 3) := by decide +kernel
theorem d57 : decode yB 57 = .ok (.return_, 1) := by decide +kernel
def site : List Cond := [.fieldLink "java/lang/String" 38 "java/lang/String" "COMPACT_STRINGS" "Z", Cmp3.tab, CodL.tab, .laysFinal "java/lang/String" "java/lang/String" "value" "[B", .fieldLink "java/lang/String" 9 "java/lang/String" "value" "[B", .laysFinal "java/lang/String" "java/lang/String" "coder" "B", .fieldLink "java/lang/String" 15 "java/lang/String" "coder" "B"] ++ objW "java/lang/String" 1 ++ staticW "java/lang/String" 177 Cmp3.yN ++ staticW "java/lang/String" 47 CodL.yN
def tab : Cond := tabOf yN yB 6 none site
def P (a : Addr) (D : Cell) (fV fC : Field) (b : Addr) (A : Cell) (z : Int32) (o len : Nat) (args : Array Value) (s : State) : Prop := args = #[.ref a, .ref b, .int (Int32.ofNat o), .int (Int32.ofNat len), .null] ∧ Blank "java/lang/String" a D s ∧ Found "java/lang/String" "value" "[B" fV s ∧ Found "java/lang/String" "coder" "B" fC s ∧ Ch b A s ∧ StaticIs s "java/lang/String" "COMPACT_STRINGS" "Z" (.int z) ∧ ¬ z = 0 ∧ 0 < len ∧ o + len ≤ A.slots.size ∧ len ≤ 536870912 ∧ ∀ i, i < len → ¬ 255 < cv A (o + i)
def E (a : Addr) (D : Cell) (fV fC : Field) (A : Cell) (o len : Nat) (r : Option Value) (s u : State) : Prop := Got a D fV fC A o len r s u
/-- len > 0, no char of the range above 255: a Latin-1 String of their low bytes -/
theorem law (l : Launch) (a : Addr) (D : Cell) (fV fC : Field) (b : Addr) (A : Cell) (z : Int32) (o len : Nat) : Law l yN 5 4 2 35 yB 6 none site (P a D fV fC b A z o len) (E a D fV fC A o len) [⟨a, fC.slot⟩, ⟨a, fV.slot⟩] 1 len := by
  refine Law.of_walk (plainFor_of_name (by decide +kernel)) (by decide +kernel) (by decide +kernel) (by decide) (fun _ _ h => by rw [h.1]; rfl) (fun _ U U' hal hh h => ⟨h.1, h.2.1.mv hal hh, h.2.2.1.al hal, h.2.2.2.1.al hal, h.2.2.2.2.1.mv hal hh, h.2.2.2.2.2.1.there hal hh, h.2.2.2.2.2.2⟩) (fun r U U' V V' h1 hal h2 h => Got.mv r U U' V V' h1 hal h2 h) ?_
  intro p e s m args below meth c s₁ X0 hexec hbytes hml hret hlk hnm hown hh0 W hP
  obtain ⟨rfl, hB, f1, f2, hA, s1, hz, l0, l1, l2, hp⟩ := hP
  have a31 := hA.1.2.2.2
  have c1 : Steps p.tables e below (s₁.setTop (entryFrame m #[.ref a, .ref b, .int (Int32.ofNat o), .int (Int32.ofNat len), .null] 6)) (s₁.setTop (mkF m 0 #[.val (.ref a), .val (.ref b), .val (.int (Int32.ofNat o)), .val (.int (Int32.ofNat len)), .val .null, .unset] [])) := entry rfl
  have c2 : Steps p.tables e below (s₁.setTop (entryFrame m #[.ref a, .ref b, .int (Int32.ofNat o), .int (Int32.ofNat len), .null] 6)) (s₁.setTop (mkF m 1 #[.val (.ref a), .val (.ref b), .val (.int (Int32.ofNat o)), .val (.int (Int32.ofNat len)), .val .null, .unset] [.ref a])) := c1.trans (by
    refine XS.aloadN X0.here hexec rfl (hb hbytes d0) rfl rfl ?_
    exact Steps.refl _)
  obtain ⟨T3, X3, q3, st3⟩ := X0.oinit hexec hown (wks W (objW "java/lang/String" 1)) (g := (mkF m 1 #[.val (.ref a), .val (.ref b), .val (.int (Int32.ofNat o)), .val (.int (Int32.ofNat len)), .val .null, .unset] [.ref a])) rfl (by rw [hml]; rfl) (rest := []) rfl (hb hbytes d1) (W := 0) (by show 2 * 0 + 0 ≤ _; decide) (Nat.le_of_ble_eq_true rfl) (Nat.le_of_ble_eq_true rfl)
  have hh3 := q3.trans hh0
  have c4 : Steps p.tables e below (s₁.setTop (entryFrame m #[.ref a, .ref b, .int (Int32.ofNat o), .int (Int32.ofNat len), .null] 6)) (T3.setTop (mkF m 27 #[.val (.ref a), .val (.ref b), .val (.int (Int32.ofNat o)), .val (.int (Int32.ofNat len)), .val .null, .unset] [])) := (c2.trans (st3 _ (Steps.refl _))).trans (by
    refine XS.iloadN X3.here hexec rfl (hb hbytes d4) rfl ?_
    refine XS.ifYes X3.here hexec rfl (pc0 := 5) rfl (hb hbytes d5) rfl (i0_ne_t (nz32 (by omega) l0)) (by decide) rfl ?_
    exact Steps.refl _)
  obtain ⟨T5, X5, q5, st5⟩ := X3.sget hexec hown (wk W (.fieldLink "java/lang/String" 38 "java/lang/String" "COMPACT_STRINGS" "Z")) s1 (fun _ _ h => by rw [hh3]; exact h) (g := (mkF m 27 #[.val (.ref a), .val (.ref b), .val (.int (Int32.ofNat o)), .val (.int (Int32.ofNat len)), .val .null, .unset] [])) rfl (hb hbytes d27)
  have hh5 := q5.trans hh3
  have c6 : Steps p.tables e below (s₁.setTop (entryFrame m #[.ref a, .ref b, .int (Int32.ofNat o), .int (Int32.ofNat len), .null] 6)) (T5.setTop (mkF m 30 #[.val (.ref a), .val (.ref b), .val (.int (Int32.ofNat o)), .val (.int (Int32.ofNat len)), .val .null, .unset] [.int z])) := c4.trans (st5 _ (Steps.refl _))
  have c7 : Steps p.tables e below (s₁.setTop (entryFrame m #[.ref a, .ref b, .int (Int32.ofNat o), .int (Int32.ofNat len), .null] 6)) (T5.setTop (mkF m 36 #[.val (.ref a), .val (.ref b), .val (.int (Int32.ofNat o)), .val (.int (Int32.ofNat len)), .val .null, .unset] [.int (Int32.ofNat len), .int (Int32.ofNat o), .ref b])) := c6.trans (by
    refine XS.ifNo X5.here hexec rfl (hb hbytes d30) rfl (i0_eq_f hz) ?_
    refine XS.aloadN X5.here hexec rfl (hb hbytes d33) rfl rfl ?_
    refine XS.iloadN X5.here hexec rfl (hb hbytes d34) rfl ?_
    refine XS.iloadN X5.here hexec rfl (hb hbytes d35) rfl ?_
    exact Steps.refl _)
  obtain ⟨v8, T8, X8, E8, g8⟩ := X5.callS hexec (Cmp3.law l b A o len) hown (wks W (staticW "java/lang/String" 177 Cmp3.yN)) (wk W Cmp3.tab) (W := 0) (Nat.le_of_ble_eq_true rfl) (Nat.le_of_ble_eq_true rfl) (Nat.le_refl _) (by show 0 + len ≤ len; omega) (g := (mkF m 36 #[.val (.ref a), .val (.ref b), .val (.int (Int32.ofNat o)), .val (.int (Int32.ofNat len)), .val .null, .unset] [.int (Int32.ofNat len), .int (Int32.ofNat o), .ref b])) rfl (by rw [hml]; rfl) c7 (argsL := [.ref b, .int (Int32.ofNat o), .int (Int32.ofNat len)]) (rest := []) rfl rfl (by show 2 * 0 + 0 ≤ _; decide) (hb hbytes d36) (⟨rfl, hA.mv X5.warmed.alike hh5, l1, l2, hp⟩)
  obtain ⟨e8, z8⟩ := E8
  obtain ⟨rfl, N, n1, n2, n3, n4, n5, n6⟩ := NewArr.mv _ T5 s _ _ hh5.symm (Vm.Alike.refl _) rfl e8
  rw [hh5] at z8
  have hB1 := hB.keep X8.warmed.alike (n6 _ _ hB.1)
  have hne : s.heap.size ≠ a := (Nat.ne_of_lt (Array.getElem?_eq_some_iff.mp hB.1).1).symm
  have c9 : Steps p.tables e below (s₁.setTop (entryFrame m #[.ref a, .ref b, .int (Int32.ofNat o), .int (Int32.ofNat len), .null] 6)) (T8.setTop (mkF m 39 #[.val (.ref a), .val (.ref b), .val (.int (Int32.ofNat o)), .val (.int (Int32.ofNat len)), .val .null, .unset] [.ref s.heap.size])) := g8
  have c10 : Steps p.tables e below (s₁.setTop (entryFrame m #[.ref a, .ref b, .int (Int32.ofNat o), .int (Int32.ofNat len), .null] 6)) (T8.setTop (mkF m 45 #[.val (.ref a), .val (.ref b), .val (.int (Int32.ofNat o)), .val (.int (Int32.ofNat len)), .val .null, .val (.ref s.heap.size)] [.int (Int32.ofNat N.slots.size), .ref s.heap.size, .ref a])) := by
    have hc : Steps p.tables e below (s₁.setTop (entryFrame m #[.ref a, .ref b, .int (Int32.ofNat o), .int (Int32.ofNat len), .null] 6)) (T8.setTop (mkF m 45 #[.val (.ref a), .val (.ref b), .val (.int (Int32.ofNat o)), .val (.int (Int32.ofNat len)), .val .null, .val (.ref s.heap.size)] [.int (Int32.ofNat len), .ref s.heap.size, .ref a])) := c9.trans (by
      refine XS.astore X8.here hexec rfl (hb hbytes d39) rfl rfl rfl ?_
      refine XS.aloadN X8.here hexec rfl (hb hbytes d41) rfl rfl ?_
      refine XS.aload X8.here hexec rfl (hb hbytes d42) rfl rfl ?_
      refine XS.iloadN X8.here hexec rfl (hb hbytes d44) rfl ?_
      exact Steps.refl _)
    rw [n4]; exact hc
  obtain ⟨v11, T11, X11, E11, g11⟩ := X8.callS hexec (CodL.law l s.heap.size N) hown (wks W (staticW "java/lang/String" 47 CodL.yN)) (wk W CodL.tab) (W := 1) (Nat.le_of_ble_eq_true rfl) (Nat.le_of_ble_eq_true rfl) (Nat.le_refl _) (by show 0 + len + 0 ≤ len; omega) (g := (mkF m 45 #[.val (.ref a), .val (.ref b), .val (.int (Int32.ofNat o)), .val (.int (Int32.ofNat len)), .val .null, .val (.ref s.heap.size)] [.int (Int32.ofNat N.slots.size), .ref s.heap.size, .ref a])) rfl (by rw [hml]; rfl) c10 (argsL := [.ref s.heap.size, .int (Int32.ofNat N.slots.size)]) (rest := [.ref a]) rfl rfl (by show 2 * 0 + (1 + 0) ≤ _; decide) (hb hbytes d45) (⟨rfl, n1⟩)
  obtain ⟨rfl, q11⟩ := E11
  have hB11 := hB1.mv (X8.warmed.alike.symm.trans X11.warmed.alike) q11
  have c12 : Steps p.tables e below (s₁.setTop (entryFrame m #[.ref a, .ref b, .int (Int32.ofNat o), .int (Int32.ofNat len), .null] 6)) (T11.setTop (mkF m 48 #[.val (.ref a), .val (.ref b), .val (.int (Int32.ofNat o)), .val (.int (Int32.ofNat len)), .val .null, .val (.ref s.heap.size)] [.int 0, .ref a])) := g11
  obtain ⟨T13, X13, p13, bl13, sl13, st13⟩ := X11.finit hexec hown (wk W (.fieldLink "java/lang/String" 15 "java/lang/String" "coder" "B")) (Or.inr ⟨_, (wk W (.laysFinal "java/lang/String" "java/lang/String" "coder" "B"))⟩) (Or.inl ⟨rfl, hnm⟩) f2 (Or.inl rfl) hB11 (t := .byte) (by decide +kernel) rfl (g := (mkF m 48 #[.val (.ref a), .val (.ref b), .val (.int (Int32.ofNat o)), .val (.int (Int32.ofNat len)), .val .null, .val (.ref s.heap.size)] [.int 0, .ref a])) rfl (rest := []) rfl (hb hbytes d48)
  have c14 : Steps p.tables e below (s₁.setTop (entryFrame m #[.ref a, .ref b, .int (Int32.ofNat o), .int (Int32.ofNat len), .null] 6)) (T13.setTop (mkF m 54 #[.val (.ref a), .val (.ref b), .val (.int (Int32.ofNat o)), .val (.int (Int32.ofNat len)), .val .null, .val (.ref s.heap.size)] [.ref s.heap.size, .ref a])) := (c12.trans (st13 _ (Steps.refl _))).trans (by
    refine XS.aloadN X13.here hexec rfl (hb hbytes d51) rfl rfl ?_
    refine XS.aload X13.here hexec rfl (hb hbytes d52) rfl rfl ?_
    exact Steps.refl _)
  obtain ⟨T15, X15, p15, bl15, sl15, st15⟩ := X13.finit hexec hown (wk W (.fieldLink "java/lang/String" 9 "java/lang/String" "value" "[B")) (Or.inr ⟨_, (wk W (.laysFinal "java/lang/String" "java/lang/String" "value" "[B"))⟩) (Or.inl ⟨rfl, hnm⟩) f1 (Or.inl rfl) bl13 (t := (.array .byte)) (by decide +kernel) rfl (g := (mkF m 54 #[.val (.ref a), .val (.ref b), .val (.int (Int32.ofNat o)), .val (.int (Int32.ofNat len)), .val .null, .val (.ref s.heap.size)] [.ref s.heap.size, .ref a])) rfl (rest := []) rfl (hb hbytes d54)
  have c16 : Steps p.tables e below (s₁.setTop (entryFrame m #[.ref a, .ref b, .int (Int32.ofNat o), .int (Int32.ofNat len), .null] 6)) (T15.setTop (mkF m 57 #[.val (.ref a), .val (.ref b), .val (.int (Int32.ofNat o)), .val (.int (Int32.ofNat len)), .val .null, .val (.ref s.heap.size)] [])) := c14.trans (st15 _ (Steps.refl _))
  have ap := apart (Or.inr ⟨_, (wk W (.laysFinal "java/lang/String" "java/lang/String" "value" "[B"))⟩) (Or.inr ⟨_, (wk W (.laysFinal "java/lang/String" "java/lang/String" "coder" "B"))⟩) f1 f2 (t₁ := .array .byte) (t₂ := .byte) (by decide +kernel) (by decide +kernel) (by decide)
  have al := X8.warmed.alike.symm.trans X15.warmed.alike
  have n7 : T11.heap[s.heap.size]? = some N := by rw [q11]; exact n1.1
  exact ⟨T15, none, _, _, _, X15, by simp, rfl, by omega, (fun _ => rfl), ⟨rfl, _, N, bl15, ((Same.refl D _).set _ (by simp)).set _ (by simp), sl15, (Cell.slots_setSlot_ne _ ap).trans sl13, n1.keep al (p15.other hne (p13.other hne n7)), n2, by rw [al.findClass]; exact n3, n4, n5, fun y c h1 h2 => p15.other h1 (p13.other h1 (by rw [q11]; exact n6 y c h2)), by rw [p15.2.2, p13.2.2, q11]; exact z8⟩, fun fs hl => c16.trans (X15.returnOut hexec hret (hb hbytes d57) hl)⟩
end New4
namespace New1
def yN : MethodName := ⟨"java/lang/String", "<init>", "([C)V"⟩
abbrev yB : ByteArray := jdk_42_method_3_code
theorem d0 : decode yB 0 = .ok (.aload_n 0, 1) := by decide +kernel
theorem d1 : decode yB 1 = .ok (.aload_n 1, 1) := by decide +kernel
theorem d2 : decode yB 2 = .ok (.iconst 0, 1) := by decide +kernel
theorem d3 : decode yB 3 = .ok (.aload_n 1, 1) := by decide +kernel
theorem d4 : decode yB 4 = .ok (.arraylength, 1) := by decide +kernel
theorem d5 : decode yB 5 = .ok (.aconst_null, 1) := by decide +kernel
theorem d6 : decode yB 6 = .ok (.invokespecial 27, 3) := by decide +kernel
theorem d9 : decode yB 9 = .ok (.return_, 1) := by decide +kernel
def site : List Cond := [New4.tab] ++ initW "java/lang/String" 27 New4.yN
def tab : Cond := tabOf yN yB 2 none site
def P (a : Addr) (D : Cell) (fV fC : Field) (b : Addr) (A : Cell) (z : Int32) (args : Array Value) (s : State) : Prop := args = #[.ref a, .ref b] ∧ Blank "java/lang/String" a D s ∧ Found "java/lang/String" "value" "[B" fV s ∧ Found "java/lang/String" "coder" "B" fC s ∧ Ch b A s ∧ StaticIs s "java/lang/String" "COMPACT_STRINGS" "Z" (.int z) ∧ ¬ z = 0 ∧ 0 < A.slots.size ∧ A.slots.size ≤ 536870912 ∧ ∀ i, i < A.slots.size → ¬ 255 < cv A i
def E (a : Addr) (D : Cell) (fV fC : Field) (A : Cell) (r : Option Value) (s u : State) : Prop := Got a D fV fC A 0 A.slots.size r s u
/-- new String(chars), not empty, no char above 255: a Latin-1 String of their low bytes -/
theorem law (l : Launch) (a : Addr) (D : Cell) (fV fC : Field) (b : Addr) (A : Cell) (z : Int32) : Law l yN 2 1 3 52 yB 2 none site (P a D fV fC b A z) (E a D fV fC A) [⟨a, fC.slot⟩, ⟨a, fV.slot⟩] 1 A.slots.size := by
  refine Law.of_walk (plainFor_of_name (by decide +kernel)) (by decide +kernel) (by decide +kernel) (by decide) (fun _ _ h => by rw [h.1]; rfl) (fun _ U U' hal hh h => ⟨h.1, h.2.1.mv hal hh, h.2.2.1.al hal, h.2.2.2.1.al hal, h.2.2.2.2.1.mv hal hh, h.2.2.2.2.2.1.there hal hh, h.2.2.2.2.2.2⟩) (fun r U U' V V' h1 hal h2 h => Got.mv r U U' V V' h1 hal h2 h) ?_
  intro p e s m args below meth c s₁ X0 hexec hbytes hml hret hlk hnm hown hh0 W hP
  obtain ⟨rfl, hB, f1, f2, hA, s1, hz, l0, l2, hp⟩ := hP
  have c1 : Steps p.tables e below (s₁.setTop (entryFrame m #[.ref a, .ref b] 2)) (s₁.setTop (mkF m 0 #[.val (.ref a), .val (.ref b)] [])) := entry rfl
  have c2 : Steps p.tables e below (s₁.setTop (entryFrame m #[.ref a, .ref b] 2)) (s₁.setTop (mkF m 6 #[.val (.ref a), .val (.ref b)] [.null, .int (Int32.ofNat A.slots.size), .int 0, .ref b, .ref a])) := c1.trans (by
    refine XS.aloadN X0.here hexec rfl (hb hbytes d0) rfl rfl ?_
    refine XS.aloadN X0.here hexec rfl (hb hbytes d1) rfl rfl ?_
    refine iconstV X0.here hexec rfl 0 (hb hbytes d2) (by decide) ?_
    refine XS.aloadN X0.here hexec rfl (hb hbytes d3) rfl rfl ?_
    refine X0.alen hexec (hA.1.mv X0.warmed.alike hh0) rfl rfl (hb hbytes d4) ?_
    refine XS.aconstNull X0.here hexec rfl (hb hbytes d5) ?_
    exact Steps.refl _)
  obtain ⟨v3, T3, X3, E3, g3⟩ := X0.callN hexec (New4.law l a D fV fC b A z 0 A.slots.size) rfl hown (wks W (initW "java/lang/String" 27 New4.yN)) (W New4.tab (by simp only [site, List.mem_cons, List.mem_append, true_or, or_true])) (W := 0) (Nat.le_of_ble_eq_true rfl) (Nat.le_of_ble_eq_true rfl) (Nat.le_refl _) (by show 0 + A.slots.size ≤ A.slots.size; omega) (g := (mkF m 6 #[.val (.ref a), .val (.ref b)] [.null, .int (Int32.ofNat A.slots.size), .int (Int32.ofNat 0), .ref b, .ref a])) rfl (by rw [hml]; rfl) c2 (argsL := [.ref b, .int (Int32.ofNat 0), .int (Int32.ofNat A.slots.size), .null]) (rest := []) rfl rfl (by show 2 * 0 + 0 ≤ _; decide) (hb hbytes d6) (⟨rfl, hB.mv X0.warmed.alike hh0, f1.al X0.warmed.alike, f2.al X0.warmed.alike, hA.mv X0.warmed.alike hh0, s1.there X0.warmed.alike hh0, hz, l0, by omega, l2, fun i hi => by rw [Nat.zero_add]; exact hp i hi⟩)
  have e0 := Got.mv _ s₁ s _ _ hh0.symm (Vm.Alike.refl _) rfl E3
  obtain rfl := e0.1
  have c4 : Steps p.tables e below (s₁.setTop (entryFrame m #[.ref a, .ref b] 2)) (T3.setTop (mkF m 9 #[.val (.ref a), .val (.ref b)] [])) := g3
  exact ⟨T3, none, _, _, _, X3, by simp, rfl, by omega, (fun _ => rfl), e0, fun fs hl => c4.trans (X3.returnOut hexec hret (hb hbytes d9) hl)⟩
theorem pays {l : Launch} {R : Room} {p : Program} {e : Env} {below : List Frame} {s : State} {sargs : Array Value} {len W : Nat} (a : Addr) (D : Cell) (fV fC : Field) (b : Addr) (A : Cell) (z : Int32) (htab : tab.before sargs s = true) (hfr : 4 ≤ R.frames) (hlo : W + 65 ≤ R.locals) :
    Back l R p e below s sargs yN len W (fun A₁ a₁ => A₁.cells + 1 ≤ R.cells ∧ A₁.slots + A.slots.size ≤ R.slots ∧ P a D fV fC b A z a₁ A₁.U) (fun A₁ _ v₁ B₁ => E a D fV fC A v₁ A₁.U B₁.U ∧ B₁.locs = A₁.locs ++ [⟨a, fC.slot⟩, ⟨a, fV.slot⟩] ∧ B₁.cells = A₁.cells + 1 ∧ B₁.slots = A₁.slots + A.slots.size) :=
  (law l a D fV fC b A z).pays htab hfr (by omega)
end New1
/-- the byte, read back as charAt reads it, is the char -/
theorem lo8_mask {x : Int32} (h0 : ¬ x < 0) (h1 : ¬ 255 < x) : lo8 x &&& 255 = x := by
  have t : ∀ k : Fin 256, lo8 (Int32.ofNat k.val) &&& 255 = Int32.ofNat k.val := by decide +kernel
  rw [Int32.lt_iff_toInt_lt] at h0 h1
  have e0 : (0 : Int32).toInt = 0 := rfl
  have e1 : (255 : Int32).toInt = 255 := rfl
  obtain ⟨k, hk⟩ : ∃ k : Nat, x.toInt = k := ⟨x.toInt.toNat, by omega⟩
  have hx : x = Int32.ofNat k := Int32.toInt_inj.mp (by rw [hk, Int32.toInt_ofNat_small (by omega)])
  rw [hx]
  exact t ⟨k, by omega⟩
end StrChars
namespace StrChars.Road
open Jvm Sem ClassFile Op Lib Jvm.Stand Jvm.Free Jvm.Free.XT
open Jvm.Lib.Cold (StaticIs)
abbrev ST : String := "java/lang/String"
/-- every table word that New1's law asks, flat -/
abbrev words : List Jvm.Cond := [.code New1.yN New1.yB 2 none, .initialized ST, .methodLink ST 27 New4.yN, .instanceMethod New4.yN,
  .code New4.yN New4.yB 6 none, .fieldLink ST 38 ST "COMPACT_STRINGS" "Z", .laysFinal ST ST "value" "[B", .fieldLink ST 9 ST "value" "[B", .laysFinal ST ST "coder" "B", .fieldLink ST 15 ST "coder" "B",
  .methodLink ST 1 Lib.objectInit, .instanceMethod Lib.objectInit, .code Lib.objectInit ⟨#[0xb1]⟩ 1 none, .methodLink ST 177 Cmp3.yN, .static Cmp3.yN, .methodLink ST 47 CodL.yN, .static CodL.yN,
  .code Cmp3.yN Cmp3.yB 6 (some (.array .byte)), .initialized U16, .arrayClass .byte, .methodLink U16 115 Cmp5.yN, .static Cmp5.yN, .code Cmp5.yN Cmp5.yB 7 (some .int), .code CodL.yN CodL.yB 2 (some .byte)]
theorem tab_of {a : Array Value} {s : State} (h : ∀ w ∈ words, w.before a s = true) : New1.tab.before a s = true := by
  have h5 : Cmp5.tab.before a s = true := unparts (wk h (.code Cmp5.yN Cmp5.yB 7 (some .int))) (wks h (.initialized Cmp5.yN.cls :: Cmp5.site))
  have hc : CodL.tab.before a s = true := unparts (wk h (.code CodL.yN CodL.yB 2 (some .byte))) (wks h (.initialized CodL.yN.cls :: CodL.site))
  have q5 : ∀ w ∈ Cmp5.tab :: words, w.before a s = true := fun w hw => (List.mem_cons.mp hw).elim (fun e => e ▸ h5) (h w)
  have h3 : Cmp3.tab.before a s = true := unparts (wk q5 (.code Cmp3.yN Cmp3.yB 6 (some (.array .byte)))) (wks q5 (.initialized Cmp3.yN.cls :: Cmp3.site))
  have q3 : ∀ w ∈ Cmp3.tab :: CodL.tab :: words, w.before a s = true := fun w hw => (List.mem_cons.mp hw).elim (fun e => e ▸ h3) fun hw => (List.mem_cons.mp hw).elim (fun e => e ▸ hc) (h w)
  have h4 : New4.tab.before a s = true := unparts (wk q3 (.code New4.yN New4.yB 6 none)) (wks q3 (.initialized New4.yN.cls :: New4.site))
  have q4 : ∀ w ∈ New4.tab :: words, w.before a s = true := fun w hw => (List.mem_cons.mp hw).elim (fun e => e ▸ h4) (h w)
  exact unparts (wk q4 (.code New1.yN New1.yB 2 none)) (wks q4 (.initialized New1.yN.cls :: New1.site))
/-- the words ride from the start Z to the walk's own state -/
theorem moved {Z s : State} {a0 args : Array Value} (hZ : Z.Warmed39 s.vm) (hw : ∀ d ∈ words, d.before a0 Z = true) : ∀ d ∈ words, d.before args s = true := fun d hd => by
  have q := hw d hd
  have t : ∀ d ∈ words, d = .arrayClass .byte ∨ (d.onTables && d.keepsFace) = true := by decide +kernel
  rcases t d hd with rfl | t
  · exact RoadKit.mvA hZ q
  · exact RoadKit.mv hZ q t
/-- WHAT COMES BACK, over the tables of the start Z: h the heap at the call, h' behind it -/
def Q (Z : State) (x : Addr) (A : Cell) (h : Heap) (v : Option Value) (h' : Heap) (L : List Loc) : Prop := v = none ∧ (∀ y ∈ L, y.base = x) ∧ RoadKit.Keep h h' [x] ∧ h'.size = h.size + 1 ∧ RoadKit.Exa Z h' x ST ∧ RoadKit.Fld Z h' x ST "value" "[B" (.ref h.size) ∧ RoadKit.Fld Z h' x ST "coder" "B" (.int 0) ∧
  (∃ V : Cell, RoadKit.Arr Z h' h.size V .byte ∧ V.vm = .none ∧ Z.vm.findClass "[B" = some V.cls ∧ V.slots.size = A.slots.size ∧ ∀ j, j < A.slots.size → V.slots[j]? = some (.int (lo8 (cv A j)))) ∧
  ∀ (O n d : String) (w : Value), RoadKit.Fld Z h x O n d w → RoadKit.slotOf Z O n d ≠ RoadKit.slotOf Z ST "value" "[B" → RoadKit.slotOf Z O n d ≠ RoadKit.slotOf Z ST "coder" "B" → RoadKit.Fld Z h' x O n d w
/-- **new String(chars) AT A CALL, IN THE ROAD'S FORM**: for specialBack behind newO: x the fresh String, b the char[] with the cell A -/
theorem back {p : Program} {l : Launch} {e : Env} {R : Room} {s : State} {args : Array Value} {below : List Frame} {len W : Nat} {Z : State} {a0 : Array Value} {h : Heap} (hZ : Z.Warmed39 s.vm) (hw : ∀ d ∈ words, d.before a0 Z = true) {kI : Nat} (wi : (Jvm.Cond.instantiable ST kI).before a0 Z = true)
    {x b : Addr} {A : Cell} {z : Int32} {v0 c0 : Value} (E : RoadKit.Exa Z h x ST) (V : RoadKit.Fld Z h x ST "value" "[B" v0) (C : RoadKit.Fld Z h x ST "coder" "B" c0) (K : RoadKit.Arr Z h b A .char) (hty : Typed .char A) (S : RoadKit.Sta Z h ST "COMPACT_STRINGS" "Z" (.int z)) (hz : ¬ z = 0)
    (l0 : 0 < A.slots.size) (l2 : A.slots.size ≤ 536870912) (hp : ∀ i, i < A.slots.size → ¬ 255 < cv A i) (hfr : 4 ≤ R.frames) (hlo : W + 65 ≤ R.locals) :
    Back l R p e below s args New1.yN len W (fun P a => a = #[.ref x, .ref b] ∧ P.U.heap = h ∧ P.cells + 1 ≤ R.cells ∧ P.slots + A.slots.size ≤ R.slots)
      (fun P _ v B => ∃ L, Q Z x A h v B.U.heap L ∧ B.locs = P.locs ++ L ∧ B.cells = P.cells + 1 ∧ B.slots = P.slots + A.slots.size) := by
  intro m meth c P g ig mk a X hg hsize hdg hW hn hp'
  obtain ⟨rfl, rfl, r1, r2⟩ := hp'
  have al : Z.vm.Alike P.U.vm := hZ.alike.trans X.warmed.alike
  obtain ⟨D, cfV, kV, iV, fV, hD, gV, stV, knV, obV, asV, slV⟩ := id V
  obtain ⟨D', cfC, kC, iC, fC, hD', gC, stC, -, -, asC, slC⟩ := id C
  cases hD.symm.trans hD'
  obtain ⟨D2, kD, e1, e2, e3, e4, e5⟩ := id E
  cases hD.symm.trans e1
  obtain ⟨c2, k2, i1, i2, i3, -⟩ := Cond.instantiable_spec wi
  cases e2.symm.trans i1
  cases e3.symm.trans i2
  obtain ⟨kU, u1, u2⟩ := al.2.2 _ _ e3
  have hB : Blank ST x D P.U := ⟨hD, ⟨knV, fun q hq => by rw [hq] at obV; cases obV⟩, by rw [al.findClass]; exact e2, kU, u1, by rw [u2]; exact i3, by rw [u2]; exact e5 i3⟩
  have F1 : Found ST "value" "[B" fV P.U := ⟨SBG.found_only al ⟨cfV, kV, iV, gV⟩, stV⟩
  have F2 : Found ST "coder" "B" fC P.U := ⟨SBG.found_only al ⟨cfC, kC, iC, gC⟩, stC⟩
  have hA : Ch b A P.U := ⟨⟨K.1, State.isArrayOf_alike al K.2.1, K.2.2, by omega⟩, hty⟩
  have hS : StaticIs P.U ST "COMPACT_STRINGS" "Z" (.int z) := by
    obtain ⟨cfS, iS, kS, fS, st, cS, t1, t2, t3, t4, t5, t6, t7⟩ := S
    exact StaticIs.there (s := { Z with heap := P.U.heap }) ⟨cfS, iS, kS, fS, st, cS, t1, t2, t3, t4, t5, (fun q => by rw [q] at t6; cases t6), t7⟩ al rfl
  obtain ⟨v, B, X', ⟨⟨hv, E', V', q1, q2, q3, q4, q5, q6, q7, q8, q9, q10, q11⟩, hl, hc, hs⟩, st⟩ := New1.pays x D fV fC b A z (tab_of (moved hZ hw)) hfr hlo m meth c P g ig mk _ X hg hsize hdg hW hn ⟨r1, r2, rfl, hB, F1, F2, hA, hS, hz, l0, l2, hp⟩
  have al' : Z.vm.Alike B.U.vm := hZ.alike.trans X'.warmed.alike
  have hsz : E'.slots.size = D.slots.size := by
    obtain ⟨-, -, -, kB, w1, w2, w3⟩ := q1
    obtain ⟨kB', y1, y2⟩ := al'.2.2 _ _ e3
    rw [q2.2.1] at w1
    cases w1.symm.trans y1
    rw [w3, e5 i3, y2]
  refine ⟨v, B, X', ⟨_, ⟨hv, ?_, ⟨by omega, fun y cy hy hn' => q10 y cy (by simpa using hn') hy, fun y cy hy => ?_⟩, q11, ⟨E', _, q1.1, by rw [q2.2.1]; exact e2, by rw [q2.2.1]; exact e3, by rw [q2.1]; exact obV, fun _ => by rw [hsz]; exact e5 i3⟩,
    ⟨E', cfV, kV, iV, fV, q1.1, gV, stV, by rw [q2.1]; exact knV, by rw [q2.1]; exact obV, by rw [q2.2.1]; exact asV, q3⟩, ⟨E', cfC, kC, iC, fC, q1.1, gC, stC, by rw [q2.1]; exact knV, by rw [q2.1]; exact obV, by rw [q2.2.1]; exact asC, q4⟩,
    ⟨V', ⟨q5.1, State.isArrayOf_alike al'.symm q5.2.1, q5.2.2.1⟩, q6, by rw [← al'.findClass]; exact q7, q8, fun j hj => by have := q9 j hj; rwa [Nat.zero_add] at this⟩, fun O n d w F n1 n2 => ?_⟩, hl, hc, hs⟩, st⟩
  · intro y hy
    simp only [List.mem_cons, List.not_mem_nil, or_false] at hy
    rcases hy with rfl | rfl <;> rfl
  · by_cases q : y = x
    · subst q
      cases hD.symm.trans hy
      exact ⟨E', q1.1, q2.2.1, q2.1, hsz⟩
    · exact ⟨cy, q10 y cy q hy, rfl, rfl, rfl⟩
  · obtain ⟨D3, cf, k, i, f, g1, g2, g3, g4, g5, g6, g7⟩ := F
    cases hD.symm.trans g1
    simp only [RoadKit.slotOf, g2, gV, gC, Option.map_some, Option.getD_some] at n1 n2
    exact ⟨E', cf, k, i, f, q1.1, g2, g3, by rw [q2.1]; exact g4, by rw [q2.1]; exact g5, by rw [q2.2.1]; exact g6, by rw [q2.2.2 f.slot (by simp [n1, n2])]; exact g7⟩
end StrChars.Road
namespace StrChars.Road
open Jvm Sem ClassFile Op Lib Jvm.Stand Jvm.Free Jvm.Free.XT
/-- WHAT COMES BACK, the byte[] as a list of values -/
def QA (Z : State) (x : Addr) (zn : Int32) (cs : List Int32) (h : Heap) (v : Option Value) (h' : Heap) (L : List Loc) : Prop := v = none ∧ (∀ y ∈ L, y.base = x) ∧ RoadKit.Keep h h' [x] ∧ h'.size = h.size + 1 ∧ RoadKit.Exa Z h' x ST ∧ RoadKit.Fld Z h' x ST "value" "[B" (.ref h.size) ∧ RoadKit.Fld Z h' x ST "coder" "B" (.int 0) ∧
  (∃ kb, Z.vm.findClass "[B" = some kb ∧ RoadKit.Arv Z h' h.size kb .byte zn (cs.map fun c => .int (lo8 c)) (.int 0)) ∧
  ∀ (O n d : String) (w : Value), RoadKit.Fld Z h x O n d w → RoadKit.slotOf Z O n d ≠ RoadKit.slotOf Z ST "value" "[B" → RoadKit.slotOf Z O n d ≠ RoadKit.slotOf Z ST "coder" "B" → RoadKit.Fld Z h' x O n d w
/-- **new String(chars) AT A CALL, THE ARRAYS AS LISTS**: the char[] at b holds cs, not empty, no char above 255 -/
theorem backArv {p : Program} {l : Launch} {e : Env} {R : Room} {s : State} {args : Array Value} {below : List Frame} {len W : Nat} {Z : State} {a0 : Array Value} {h : Heap} (hZ : Z.Warmed39 s.vm) (hw : ∀ d ∈ words, d.before a0 Z = true) {kI : Nat} (wi : (Jvm.Cond.instantiable ST kI).before a0 Z = true)
    {x b : Addr} {k : ClassId} {zn z : Int32} {cs : List Int32} {dv v0 c0 : Value} (E : RoadKit.Exa Z h x ST) (V : RoadKit.Fld Z h x ST "value" "[B" v0) (C : RoadKit.Fld Z h x ST "coder" "B" c0) (K : RoadKit.Arv Z h b k .char zn (cs.map Value.int) dv) (S : RoadKit.Sta Z h ST "COMPACT_STRINGS" "Z" (.int z)) (hz : ¬ z = 0)
    (hlen : zn.toNatClampNeg = cs.length) (h0 : 0 < cs.length) (hbig : cs.length ≤ 536870912) (hall : ∀ c ∈ cs, ¬ 255 < c) (hfr : 4 ≤ R.frames) (hlo : W + 65 ≤ R.locals) :
    Back l R p e below s args New1.yN len W (fun P a => a = #[.ref x, .ref b] ∧ P.U.heap = h ∧ P.cells + 1 ≤ R.cells ∧ P.slots + cs.length ≤ R.slots)
      (fun P _ v B => ∃ L, QA Z x zn cs h v B.U.heap L ∧ B.locs = P.locs ++ L ∧ B.cells = P.cells + 1 ∧ B.slots = P.slots + cs.length) := by
  obtain ⟨A, K1, K2, K3, K4, K5, K6⟩ := K
  have e : A.slots.size = cs.length := K3.trans hlen
  have hat : ∀ (i : Nat) (hi : i < cs.length), A.slots[i]? = some (.int cs[i]) := fun i hi => by rw [K5 i (by omega)]; simp [List.getD_eq_getElem?_getD, hi]
  have hcv : ∀ (i : Nat) (hi : i < cs.length), cv A i = cs[i] := fun i hi => by unfold cv; rw [hat i hi]
  have hty : Typed .char A := fun i v hv => by
    have hi : i < A.slots.size := (Array.getElem?_eq_some_iff.mp hv).1
    have q := K5 i hi
    rw [hv] at q
    rw [Option.some.inj q]
    exact K6 i hi
  refine Back.mono (back hZ hw wi E V C K1 hty S hz (by omega) (by omega) (fun i hi => by rw [hcv i (by omega)]; exact hall _ (List.getElem_mem _)) hfr hlo) (fun P a hp => ⟨hp.1, hp.2.1, hp.2.2.1, by rw [e]; exact hp.2.2.2⟩) (fun P a v B hp hq => ?_)
  obtain ⟨L, ⟨q1, q2, q3, q4, q5, q6, q7, ⟨V', v1, v2, v3, v4, v5⟩, q9⟩, hl, hc, hs⟩ := hq
  refine ⟨L, ⟨q1, q2, q3, q4, q5, q6, q7, ⟨V'.cls, v3, V', v1, rfl, by rw [v4, e, hlen], K4, fun i hi => ?_, fun i hi => ?_⟩, q9⟩, hl, hc, by rw [hs, e]⟩
  · have hi' : i < cs.length := by omega
    rw [v5 i (by omega), hcv i hi']; simp [List.getD_eq_getElem?_getD, hi']
  · have hi' : i < cs.length := by omega
    simp only [List.getD_eq_getElem?_getD, List.getElem?_map, List.getElem?_eq_getElem hi', Option.map_some, Option.getD_some]
    exact fits_lo8 _
end StrChars.Road
namespace StrChars.Road
open Jvm Sem ClassFile Op Lib Jvm.Stand Jvm.Free Jvm.Free.XT
/-- WHAT COMES BACK, in the writer's own shape -/
def QV (Z : State) (x : Addr) (N : Int32) (bs : List Int32) (h : Heap) (n0 : Nat) (v : Option Value) (h' : Heap) (L : List Loc) : Prop := v = none ∧ RoadKit.Fr n0 L ∧ RoadKit.Keep h h' [x] ∧ RoadKit.Exa Z h' x ST ∧ RoadKit.Fld Z h' x ST "coder" "B" (.int 0) ∧
  ∃ (t : Addr) (kb : ClassId), n0 ≤ t ∧ h.size ≤ t ∧ ¬ t = x ∧ RoadKit.Fld Z h' x ST "value" "[B" (.ref t) ∧ RoadKit.Arv Z h' t kb .byte N (bs.map Value.int) (.int 0)
/-- **new String(chars) AT A CALL, FOR THE WRITER**: a char[] of n known ints, each 0 to 255 -/
theorem backV {p : Program} {l : Launch} {e : Env} {R : Room} {s : State} {args : Array Value} {below : List Frame} {len W : Nat} {Z : State} {a0 : Array Value} {h : Heap} (hZ : Z.Warmed39 s.vm) (hw : ∀ d ∈ words, d.before a0 Z = true) {kI : Nat} (wi : (Jvm.Cond.instantiable ST kI).before a0 Z = true)
    {x b : Addr} {kC : ClassId} {cs bs : List Int32} {d v0 c0 : Value} {z N : Int32} {n n0 : Nat} (hx0 : n0 ≤ x) (hh0 : n0 ≤ h.size) (E : RoadKit.Exa Z h x ST) (V : RoadKit.Fld Z h x ST "value" "[B" v0) (C : RoadKit.Fld Z h x ST "coder" "B" c0) (K : RoadKit.Arv Z h b kC .char N (cs.map Value.int) d) (S : RoadKit.Sta Z h ST "COMPACT_STRINGS" "Z" (.int z)) (hz : ¬ z = 0)
    (hn : cs.length = n) (hN : N = Int32.ofNat n) (l0 : 0 < n) (l2 : n ≤ 4000) (hp : ∀ c ∈ cs, ¬ c < 0 ∧ ¬ (255 : Int32) < c) (hb : bs = cs.map (fun c => c.toInt8.toInt32)) (hfr : 4 ≤ R.frames) (hlo : W + 65 ≤ R.locals) :
    Back l R p e below s args (⟨"java/lang/String", "<init>", "([C)V"⟩ : MethodName) len W (fun P a => a = #[.ref x, .ref b] ∧ P.U.heap = h ∧ P.cells + 1 ≤ R.cells ∧ P.slots + n ≤ R.slots)
      (fun P _ v B => ∃ L, QV Z x N bs h n0 v B.U.heap L ∧ B.locs = P.locs ++ L ∧ B.cells = P.cells + 1 ∧ B.slots = P.slots + n) := by
  subst hn hN hb
  refine Back.mono (backArv hZ hw wi E V C K S hz (n32 (by omega)) l0 (by omega) (fun c hc => (hp c hc).2) hfr hlo) (fun P a hp => hp) (fun P a v B hp hq => ?_)
  obtain ⟨L, ⟨q1, q2, q3, q4, q5, q6, q7, ⟨kb, v1, v2⟩, q9⟩, hl, hc, hs⟩ := hq
  exact ⟨L, ⟨q1, fun y hy => by rw [q2 y hy]; exact hx0, q3, q5, q7, h.size, kb, hh0, Nat.le_refl _, Nat.ne_of_gt E.lt, q6, by rw [List.map_map]; exact v2⟩, hl, hc, hs⟩
end StrChars.Road
namespace StrChars
open Jvm Sem ClassFile Op Lib Jvm.Stand Jvm.Free.XT Jvm.Free.ALB Jvm.Free.JM Jvm.Free
open Jvm.Lib.Cold (StaticIs)
def hi8 (x : Int32) : Int32 := lo8 (x >>> ((8 : Int32) &&& 31))
/-- what StringUTF16.getChar makes of two bytes -/
def pairCh (u v : Int32) : Int32 := (((u &&& 255) <<< ((0 : Int32) &&& 31)) ||| ((v &&& 255) <<< ((8 : Int32) &&& 31))).toUInt32.toUInt16.toUInt32.toInt32
theorem lo8_and (x : Int32) : (lo8 x &&& 255).toBitVec.toNat = x.toBitVec.toNat % 256 := by
  have h : (lo8 x).toBitVec = (x.toBitVec.signExtend 8).signExtend 32 := by rw [lo8, Int8.toBitVec_toInt32, Int32.toBitVec_toInt8]
  rw [Int32.toBitVec_and, BitVec.toNat_and, h]
  have e : ((x.toBitVec.signExtend 8).signExtend 32).toNat % 256 = x.toBitVec.toNat % 256 := by
    rw [BitVec.toNat_signExtend]
    have hlt := x.toBitVec.isLt
    simp only [BitVec.toNat_setWidth, BitVec.toNat_signExtend]
    split <;> split <;> omega
  rw [← e]
  exact Nat.and_two_pow_sub_one_eq_mod _ 8
theorem pair_says {c : Int32} (h0 : ¬ c < 0) (h1 : ¬ 65535 < c) : pairCh (lo8 c) (hi8 c) = c := by
  rw [Int32.lt_iff_toInt_lt] at h0 h1
  have e0 : (0 : Int32).toInt = 0 := rfl
  have e1 : (65535 : Int32).toInt = 65535 := rfl
  have hc : c.toInt = c.toBitVec.toNat := by
    have := c.toBitVec.isLt
    have e : c.toInt = c.toBitVec.toInt := rfl
    rw [e] at h0 h1
    rw [e]
    rw [BitVec.toInt_eq_toNat_cond] at h0 h1 ⊢
    split at h0 <;> split <;> omega
  have hn : c.toBitVec.toNat < 65536 := by omega
  have a1 := lo8_and c
  have a2 : (hi8 c &&& 255).toBitVec.toNat = c.toBitVec.toNat / 256 := by
    rw [hi8, lo8_and]
    have e : ((8 : Int32) &&& 31) = 8 := by decide
    rw [e, Int32.toBitVec_shiftRight]
    have e2 : ((8 : Int32).toBitVec.smod 32) = 8#32 := by decide
    rw [e2, BitVec.sshiftRight_eq', BitVec.toNat_sshiftRight_of_msb_false (by rw [BitVec.msb_eq_false_iff_two_mul_lt]; omega)]
    show c.toBitVec.toNat >>> 8 % 256 = _
    rw [Nat.shiftRight_eq_div_pow]
    omega
  unfold pairCh
  apply Int32.toBitVec_inj.mp
  apply BitVec.eq_of_toNat_eq
  have f0 : ((0 : Int32) &&& 31) = 0 := by decide
  have f8 : ((8 : Int32) &&& 31) = 8 := by decide
  rw [f0, f8]
  have g : (((lo8 c &&& 255) <<< (0 : Int32)) ||| ((hi8 c &&& 255) <<< (8 : Int32))).toBitVec.toNat = c.toBitVec.toNat := by
    rw [Int32.toBitVec_or, Int32.toBitVec_shiftLeft, Int32.toBitVec_shiftLeft]
    have s0 : ((0 : Int32).toBitVec.smod 32) = 0#32 := by decide
    have s8 : ((8 : Int32).toBitVec.smod 32) = 8#32 := by decide
    rw [s0, s8, BitVec.toNat_or]
    simp only [BitVec.shiftLeft_eq', BitVec.toNat_shiftLeft, a1, a2]
    show (c.toBitVec.toNat % 256) <<< 0 % 2 ^ 32 ||| (c.toBitVec.toNat / 256) <<< 8 % 2 ^ 32 = _
    rw [Nat.shiftLeft_zero, Nat.mod_eq_of_lt (show c.toBitVec.toNat % 256 < 2 ^ 32 by omega), Nat.mod_eq_of_lt (show (c.toBitVec.toNat / 256) <<< 8 < 2 ^ 32 by rw [Nat.shiftLeft_eq]; omega), Nat.or_comm, ← Nat.shiftLeft_add_eq_or_of_lt (by omega), Nat.shiftLeft_eq]
    omega
  show BitVec.toNat (((((lo8 c &&& 255) <<< (0 : Int32)) ||| ((hi8 c &&& 255) <<< (8 : Int32))).toBitVec.setWidth 16).setWidth 32) = _
  rw [BitVec.toNat_setWidth, BitVec.toNat_setWidth, g]
  omega
end StrChars
namespace StrChars
open Jvm Sem ClassFile Op Lib Jvm.Stand Jvm.Free.XT Jvm.Free.ALB Jvm.Free.JM Jvm.Free
open Jvm.Lib.Cold (StaticIs)
/-- charAt's cast of a byte read back -/
def chr8 (u : Int32) : Int32 := (u &&& 255).toUInt32.toUInt16.toUInt32.toInt32
theorem chr8_lo8 {c : Int32} (h0 : ¬ c < 0) (h1 : ¬ 255 < c) : chr8 (lo8 c) = c := by
  have t : ∀ k : Fin 256, (Int32.ofNat k.val).toUInt32.toUInt16.toUInt32.toInt32 = Int32.ofNat k.val := by decide +kernel
  unfold chr8
  rw [lo8_mask h0 h1]
  rw [Int32.lt_iff_toInt_lt] at h0 h1
  have e0 : (0 : Int32).toInt = 0 := rfl
  have e1 : (255 : Int32).toInt = 255 := rfl
  obtain ⟨k, hk⟩ : ∃ k : Nat, c.toInt = k := ⟨c.toInt.toNat, by omega⟩
  have hx : c = Int32.ofNat k := Int32.toInt_inj.mp (by rw [hk, Int32.toInt_ofNat_small (by omega)])
  rw [hx]
  exact t ⟨k, by omega⟩
/-- the array's cell V codes the n chars f 0 .. f (n - 1) by the coder cd, as the JDK does: coder 1 just where some char is above 255 -/
def Cod (cd : Int32) (n : Nat) (f : Nat → Int32) (V : Cell) : Prop := (cd = 0 ∧ V.slots.size = n ∧ ∀ j, j < n → V.slots[j]? = some (.int (lo8 (f j))) ∧ ¬ 255 < f j) ∨ (cd = 1 ∧ V.slots.size = 2 * n ∧ (∀ j, j < n → V.slots[2 * j]? = some (.int (lo8 (f j))) ∧ V.slots[2 * j + 1]? = some (.int (hi8 (f j)))) ∧ ∃ j, j < n ∧ 255 < f j)
/-- **x is a String of the n chars f 0 .. f (n - 1)**, Latin-1 or UTF-16; its array at t has the cell V -/
def Txt (x t : Addr) (V : Cell) (cd : Int32) (n : Nat) (f : Nat → Int32) (U : State) : Prop := Exact "java/lang/String" x U ∧ Has x "java/lang/String" "value" "[B" (.ref t) U ∧ Has x "java/lang/String" "coder" "B" (.int cd) U ∧ XT.Arr .byte t V U ∧ Cod cd n f V ∧ ∀ j, j < n → ¬ f j < 0 ∧ ¬ 65535 < f j
theorem Txt.mv {x t : Addr} {V : Cell} {cd : Int32} {n : Nat} {f : Nat → Int32} {U U' : State} (h : Txt x t V cd n f U) (hal : U.vm.Alike U'.vm) (hh : U'.heap = U.heap) : Txt x t V cd n f U' := ⟨h.1.mv hal hh, h.2.1.mv hal hh, h.2.2.1.mv hal hh, h.2.2.2.1.mv hal hh, h.2.2.2.2⟩
end StrChars
namespace StrChars.Road
open Jvm Sem ClassFile Op Lib Jvm.Stand Jvm.Free Jvm.Free.XT
open Jvm.Lib.Cold (StaticIs)
theorem consq {a : Array Value} {s : State} {c : Jvm.Cond} {L : List Jvm.Cond} (h0 : c.before a s = true) (h : ∀ w ∈ L, w.before a s = true) : ∀ w ∈ c :: L, w.before a s = true := fun w hw => (List.mem_cons.mp hw).elim (fun e => e ▸ h0) (h w)
/-- the bytes of the chars cs, low before high -/
def wideBytes : List Int32 → List Value
  | [] => []
  | c :: cs => .int (lo8 c) :: .int (hi8 c) :: wideBytes cs
theorem wide_lo (d : Value) : ∀ (cs : List Int32) (j : Nat), j < cs.length → (wideBytes cs).getD (2 * j) d = .int (lo8 (cs.getD j 0))
  | [], j, h => absurd h (Nat.not_lt_zero j)
  | c :: cs, 0, _ => rfl
  | c :: cs, j + 1, h => by
    have q := wide_lo d cs j (by simpa using h)
    rw [show 2 * (j + 1) = 2 * j + 1 + 1 from by omega]
    simpa [wideBytes] using q
theorem wide_hi (d : Value) : ∀ (cs : List Int32) (j : Nat), j < cs.length → (wideBytes cs).getD (2 * j + 1) d = .int (hi8 (cs.getD j 0))
  | [], j, h => absurd h (Nat.not_lt_zero j)
  | c :: cs, 0, _ => rfl
  | c :: cs, j + 1, h => by
    have q := wide_hi d cs j (by simpa using h)
    rw [show 2 * (j + 1) + 1 = 2 * j + 1 + 1 + 1 from by omega]
    simpa [wideBytes] using q
theorem low_at (d : Value) (cs : List Int32) (j : Nat) (h : j < cs.length) : (cs.map fun c => Value.int (lo8 c)).getD j d = .int (lo8 (cs.getD j 0)) := by
  simp [List.getD_eq_getElem?_getD, h]
/-- an array of N2 bytes vs codes the chars cs by the coder cd -/
def CodA (cs : List Int32) (cd N2 : Int32) (vs : List Value) : Prop := (cd = 0 ∧ N2 = Int32.ofNat cs.length ∧ vs = (cs.map fun c => Value.int (lo8 c)) ∧ ∀ c ∈ cs, ¬ 255 < c) ∨ (cd = 1 ∧ N2 = Int32.ofNat (2 * cs.length) ∧ vs = wideBytes cs ∧ ∃ c ∈ cs, 255 < c)
theorem CodA.cod {cs : List Int32} {cd N2 : Int32} {vs : List Value} {V : Cell} (h : CodA cs cd N2 vs) (hn : 2 * cs.length < 2 ^ 31) (hs : V.slots.size = N2.toNatClampNeg) (hv : RoadKit.Has V vs (.int 0)) : Cod cd cs.length (fun j => cs.getD j 0) V := by
  rcases h with ⟨rfl, rfl, rfl, h⟩ | ⟨rfl, rfl, rfl, c, hc, hw⟩
  · rw [n32 (by omega)] at hs
    exact Or.inl ⟨rfl, hs, fun j hj => ⟨by rw [hv j (by omega), low_at _ _ _ hj], by
      have e : cs.getD j 0 = cs[j] := by simp [List.getD_eq_getElem?_getD, hj]
      show ¬ 255 < cs.getD j 0
      rw [e]; exact h _ (List.getElem_mem _)⟩⟩
  · rw [n32 (by omega)] at hs
    obtain ⟨j, hj, rfl⟩ := List.getElem_of_mem hc
    exact Or.inr ⟨rfl, hs, fun j hj => ⟨by rw [hv _ (by omega), wide_lo _ _ _ hj], by rw [hv _ (by omega), wide_hi _ _ _ hj]⟩, j, hj, by
      have e : cs.getD j 0 = cs[j] := by simp [List.getD_eq_getElem?_getD, hj]
      show 255 < cs.getD j 0
      rw [e]; exact hw⟩
/-- an object of exactly java/lang/String, its two fields found: as the laws ask it -/
theorem strObj {Z U : State} {a0 : Array Value} {kI : Nat} (wi : (Jvm.Cond.instantiable ST kI).before a0 Z = true) (al : Z.vm.Alike U.vm) {x : Addr} {v0 c0 : Value} (E : RoadKit.Exa Z U.heap x ST) (V : RoadKit.Fld Z U.heap x ST "value" "[B" v0) (C : RoadKit.Fld Z U.heap x ST "coder" "B" c0) :
    ∃ (D : Cell) (fV fC : Field), Blank ST x D U ∧ Found ST "value" "[B" fV U ∧ Found ST "coder" "B" fC U ∧ D.slots[fV.slot]? = some v0 ∧ D.slots[fC.slot]? = some c0 ∧ RoadKit.slotOf Z ST "value" "[B" = fV.slot ∧ RoadKit.slotOf Z ST "coder" "B" = fC.slot := by
  obtain ⟨D, cfV, kV, iV, fV, hD, gV, stV, knV, obV, asV, slV⟩ := V
  obtain ⟨D', cfC, kC, iC, fC, hD', gC, stC, -, -, asC, slC⟩ := C
  cases hD.symm.trans hD'
  obtain ⟨D2, kD, e1, e2, e3, e4, e5⟩ := E
  cases hD.symm.trans e1
  obtain ⟨c2, k2, i1, i2, i3, -⟩ := Cond.instantiable_spec wi
  cases e2.symm.trans i1
  cases e3.symm.trans i2
  obtain ⟨kU, u1, u2⟩ := al.2.2 _ _ e3
  exact ⟨D, fV, fC, ⟨hD, ⟨knV, fun q hq => by rw [hq] at obV; cases obV⟩, by rw [al.findClass]; exact e2, kU, u1, by rw [u2]; exact i3, by rw [u2]; exact e5 i3⟩, ⟨SBG.found_only al ⟨cfV, kV, iV, gV⟩, stV⟩, ⟨SBG.found_only al ⟨cfC, kC, iC, gC⟩, stC⟩, slV, slC, by simp [RoadKit.slotOf, gV], by simp [RoadKit.slotOf, gC]⟩
theorem sta_is {Z U : State} (al : Z.vm.Alike U.vm) {C n d : String} {v : Value} (S : RoadKit.Sta Z U.heap C n d v) : StaticIs U C n d v := by
  obtain ⟨cfS, iS, kS, fS, st, cS, t1, t2, t3, t4, t5, t6, t7⟩ := S
  exact StaticIs.there (s := { Z with heap := U.heap }) ⟨cfS, iS, kS, fS, st, cS, t1, t2, t3, t4, t5, (fun q => by rw [q] at t6; cases t6), t7⟩ al rfl
end StrChars.Road
namespace StrChars
open Jvm Sem ClassFile Op Lib Jvm.Stand Jvm.Free.XT Jvm.Free.ALB Jvm.Free.JM Jvm.Free
open Jvm.Lib.Cold (StaticIs)
/-- what place i of a byte[]'s cell holds -/
def yv (A : Cell) (i : Nat) : Int32 := match A.slots[i]? with | some (.int x) => x | _ => 0
theorem yv_get {a : Addr} {A : Cell} {U : State} (h : XT.Arr .byte a A U) (ht : Typed .byte A) {i : Nat} (hi : i < A.slots.size) : A.slots[i]? = some (.int (yv A i)) := by
  have e := Array.getElem?_eq_getElem hi
  have f := ht i _ e
  unfold yv; rw [e]
  generalize A.slots[i] = v at f
  cases v <;> simp [fits] at f ⊢
/-- the two arrays are equal, place for place -/
def EqC (A B : Cell) : Prop := A.slots.size = B.slots.size ∧ ∀ i, i < A.slots.size → yv A i = yv B i
/-- a boolean that says whether p -/
def Says01 (q : Prop) (r : Option Value) (s u : State) : Prop := ∃ v : Int32, r = some (.int v) ∧ u.heap = s.heap ∧ ((v = 1 ∧ q) ∨ (v = 0 ∧ ¬ q))
theorem Says01.mv {q : Prop} : ∀ r (U U' V V' : State), U'.heap = U.heap → V.vm.Alike V'.vm → V'.heap = V.heap → Says01 q r U V → Says01 q r U' V' :=
  fun r U U' V V' h1 _ h2 ⟨v, a, b, c⟩ => ⟨v, a, by rw [h1, h2]; exact b, c⟩
namespace LEq
def yN : MethodName := ⟨"java/lang/StringLatin1", "equals", "([B[B)Z"⟩
abbrev yB : ByteArray := jdk_43_method_13_code
theorem d0 : decode yB 0 = .ok (.aload_n 0, 1) := by decide +kernel
theorem d1 : decode yB 1 = .ok (.arraylength, 1) := by decide +kernel
theorem d2 : decode yB 2 = .ok (.aload_n 1, 1) := by decide +kernel
theorem d3 : decode yB 3 = .ok (.arraylength, 1) := by decide +kernel
theorem d4 : decode yB 4 = .ok (.if_icmp (.ne) 30, 3) := by decide +kernel
theorem d7 : decode yB 7 = .ok (.iconst 0, 1) := by decide +kernel
theorem d8 : decode yB 8 = .ok (.istore_n 2, 1) := by decide +kernel
theorem d9 : decode yB 9 = .ok (.iload_n 2, 1) := by decide +kernel
theorem d10 : decode yB 10 = .ok (.aload_n 0, 1) := by decide +kernel
theorem d11 : decode yB 11 = .ok (.arraylength, 1) := by decide +kernel
theorem d12 : decode yB 12 = .ok (.if_icmp (.ge) 20, 3) := by decide +kernel
theorem d15 : decode yB 15 = .ok (.aload_n 0, 1) := by decide +kernel
theorem d16 : decode yB 16 = .ok (.iload_n 2, 1) := by decide +kernel
theorem d17 : decode yB 17 = .ok (.baload, 1) := by decide +kernel
theorem d18 : decode yB 18 = .ok (.aload_n 1, 1) := by decide +kernel
theorem d19 : decode yB 19 = .ok (.iload_n 2, 1) := by decide +kernel
theorem d20 : decode yB 20 = .ok (.baload, 1) := by decide +kernel
theorem d21 : decode yB 21 = .ok (.if_icmp (.eq) 5, 3) := by decide +kernel
theorem d24 : decode yB 24 = .ok (.iconst 0, 1) := by decide +kernel
theorem d25 : decode yB 25 = .ok (.ireturn, 1) := by decide +kernel
theorem d26 : decode yB 26 = .ok (.iinc 2 1, 3) := by decide +kernel
theorem d29 : decode yB 29 = .ok (.goto (-20), 3) := by decide +kernel
theorem d32 : decode yB 32 = .ok (.iconst 1, 1) := by decide +kernel
theorem d33 : decode yB 33 = .ok (.ireturn, 1) := by decide +kernel
theorem d34 : decode yB 34 = .ok (.iconst 0, 1) := by decide +kernel
theorem d35 : decode yB 35 = .ok (.ireturn, 1) := by decide +kernel
def site : List Cond := []
def tab : Cond := tabOf yN yB 3 (some .boolean) site
def P (a : Addr) (A : Cell) (b : Addr) (B : Cell) (args : Array Value) (s : State) : Prop := args = #[.ref a, .ref b] ∧ XT.Arr .byte a A s ∧ Typed .byte A ∧ XT.Arr .byte b B s ∧ Typed .byte B
/-- whether two byte[] are equal, place for place -/
theorem law (l : Launch) (a : Addr) (A : Cell) (b : Addr) (B : Cell) : Law l yN 2 2 0 0 yB 3 (some .boolean) site (P a A b B) (Says01 (EqC A B)) [] 0 0 := by
  refine Law.of_walk (plainFor_of_name (by decide +kernel)) (by decide +kernel) (by decide +kernel) (by decide) (fun _ _ h => by rw [h.1]; rfl) (fun _ U U' hal hh h => ⟨h.1, h.2.1.mv hal hh, h.2.2.1, h.2.2.2.1.mv hal hh, h.2.2.2.2⟩) (fun r U U' V V' h1 hal h2 h => Says01.mv r U U' V V' h1 hal h2 h) ?_
  intro p e s m args below meth c s₁ X0 hexec hbytes hml hret hlk hnm hown hh0 W hP
  obtain ⟨rfl, hA, tA, hB, tB⟩ := hP
  have a31 := hA.2.2.2
  have b31 := hB.2.2.2
  have hA0 := hA.mv X0.warmed.alike hh0
  have hB0 := hB.mv X0.warmed.alike hh0
  have c1 : Steps p.tables e below (s₁.setTop (entryFrame m #[.ref a, .ref b] 3)) (s₁.setTop (mkF m 0 #[.val (.ref a), .val (.ref b), .unset] [])) := entry rfl
  have c2 : Steps p.tables e below (s₁.setTop (entryFrame m #[.ref a, .ref b] 3)) (s₁.setTop (mkF m 4 #[.val (.ref a), .val (.ref b), .unset] [.int (Int32.ofNat B.slots.size), .int (Int32.ofNat A.slots.size)])) := c1.trans (by
    refine XS.aloadN X0.here hexec rfl (hb hbytes d0) rfl rfl ?_
    refine X0.alen hexec hA0 rfl rfl (hb hbytes d1) ?_
    refine XS.aloadN X0.here hexec rfl (hb hbytes d2) rfl rfl ?_
    refine X0.alen hexec hB0 rfl rfl (hb hbytes d3) ?_
    exact Steps.refl _)
  by_cases hs : A.slots.size = B.slots.size
  · have c3 : Steps p.tables e below (s₁.setTop (entryFrame m #[.ref a, .ref b] 3)) (s₁.setTop (mkF m 9 #[.val (.ref a), .val (.ref b), .val (.int 0)] [])) := c2.trans (by
      refine XS.icmpNo X0.here hexec rfl (hb hbytes d4) rfl (ii_ne_f (by rw [hs])) ?_
      refine iconstV X0.here hexec rfl 0 (hb hbytes d7) (by decide) ?_
      refine XS.istoreN X0.here hexec rfl (hb hbytes d8) rfl rfl ?_
      exact Steps.refl _)
    have loop : ∀ (r i : Nat), i + r = A.slots.size → (∀ j, j < i → yv A j = yv B j) → Steps p.tables e below (s₁.setTop (entryFrame m #[.ref a, .ref b] 3)) (s₁.setTop (mkF m 9 #[.val (.ref a), .val (.ref b), .val (.int (Int32.ofNat i))] [])) → ∃ (pc : Nat) (Ls : Array Slot) (v : Int32), (pc = 25 ∨ pc = 33) ∧ ((v = 1 ∧ EqC A B) ∨ (v = 0 ∧ ¬ EqC A B)) ∧ Steps p.tables e below (s₁.setTop (entryFrame m #[.ref a, .ref b] 3)) (s₁.setTop (mkF m pc Ls [.int v])) := by
      intro r
      induction r with
      | zero =>
        intro i hi he cl
        exact ⟨33, _, 1, Or.inr rfl, Or.inl ⟨rfl, hs, fun j hj => he j (by omega)⟩, cl.trans (by
          refine XS.iloadN X0.here hexec rfl (hb hbytes d9) rfl ?_
          refine XS.aloadN X0.here hexec rfl (hb hbytes d10) rfl rfl ?_
          refine X0.alen hexec hA0 rfl rfl (hb hbytes d11) ?_
          refine XS.icmpYes X0.here hexec rfl (pc0 := 12) rfl (hb hbytes d12) rfl (ii_ge_t (nlt32 (by omega) (by omega))) (by decide) rfl ?_
          refine iconstV X0.here hexec rfl 1 (hb hbytes d32) (by decide) ?_
          exact Steps.refl _)⟩
      | succ r ih =>
        intro i hi he cl
        have c4 : Steps p.tables e below (s₁.setTop (entryFrame m #[.ref a, .ref b] 3)) (s₁.setTop (mkF m 21 #[.val (.ref a), .val (.ref b), .val (.int (Int32.ofNat i))] [.int (yv B i), .int (yv A i)])) := cl.trans (by
          refine XS.iloadN X0.here hexec rfl (hb hbytes d9) rfl ?_
          refine XS.aloadN X0.here hexec rfl (hb hbytes d10) rfl rfl ?_
          refine X0.alen hexec hA0 rfl rfl (hb hbytes d11) ?_
          refine XS.icmpNo X0.here hexec rfl (hb hbytes d12) rfl (ii_ge_f (lt32 (by omega) (by omega))) ?_
          refine XS.aloadN X0.here hexec rfl (hb hbytes d15) rfl rfl ?_
          refine XS.iloadN X0.here hexec rfl (hb hbytes d16) rfl ?_
          refine X0.aget hexec hA0 rfl (yv_get hA tA (i := i) (by omega)) rfl rfl (hb hbytes d17) ?_
          refine XS.aloadN X0.here hexec rfl (hb hbytes d18) rfl rfl ?_
          refine XS.iloadN X0.here hexec rfl (hb hbytes d19) rfl ?_
          refine X0.aget hexec hB0 rfl (yv_get hB tB (i := i) (by omega)) rfl rfl (hb hbytes d20) ?_
          exact Steps.refl _)
        by_cases hv : yv A i = yv B i
        · have c5 : Steps p.tables e below (s₁.setTop (entryFrame m #[.ref a, .ref b] 3)) (s₁.setTop (mkF m 9 #[.val (.ref a), .val (.ref b), .val (.int (Int32.ofNat i + 1))] [])) := c4.trans (by
            refine XS.icmpYes X0.here hexec rfl (pc0 := 21) rfl (hb hbytes d21) rfl (ii_eq_t hv) (by decide) rfl ?_
            refine iincV X0.here hexec rfl 1 (hb hbytes d26) (by decide) rfl rfl ?_
            refine XS.goto X0.here hexec rfl (pc0 := 29) rfl (hb hbytes d29) (by decide) rfl ?_
            exact Steps.refl _)
          rw [succ32] at c5
          exact ih (i + 1) (by omega) (fun j hj => by
            by_cases e : j = i
            · rw [e]; exact hv
            · exact he j (by omega)) c5
        · exact ⟨25, _, 0, Or.inl rfl, Or.inr ⟨rfl, fun q => hv (q.2 i (by omega))⟩, c4.trans (by
            refine XS.icmpNo X0.here hexec rfl (hb hbytes d21) rfl (ii_eq_f hv) ?_
            refine iconstV X0.here hexec rfl 0 (hb hbytes d24) (by decide) ?_
            exact Steps.refl _)⟩
    obtain ⟨pc, Ls, v, hpc, hv, cz⟩ := loop A.slots.size 0 (by omega) (fun j hj => absurd hj (Nat.not_lt_zero j)) c3
    have nv : narrow .boolean (.int v) = .int v := by rcases hv with ⟨rfl, -⟩ | ⟨rfl, -⟩ <;> rfl
    rcases hpc with rfl | rfl
    · exact ⟨s₁, some (.int v), _, _, _, X0, rfl, rfl, rfl, (fun h => by cases h), ⟨v, rfl, hh0, hv⟩, fun fs hl => cz.trans (X0.ireturnOut hexec hret nv (Or.inr (Or.inl rfl)) (hb hbytes d25) hl)⟩
    · exact ⟨s₁, some (.int v), _, _, _, X0, rfl, rfl, rfl, (fun h => by cases h), ⟨v, rfl, hh0, hv⟩, fun fs hl => cz.trans (X0.ireturnOut hexec hret nv (Or.inr (Or.inl rfl)) (hb hbytes d33) hl)⟩
  · have c3 : Steps p.tables e below (s₁.setTop (entryFrame m #[.ref a, .ref b] 3)) (s₁.setTop (mkF m 35 #[.val (.ref a), .val (.ref b), .unset] [.int 0])) := c2.trans (by
      refine XS.icmpYes X0.here hexec rfl (pc0 := 4) rfl (hb hbytes d4) rfl (ii_ne_t (ne32 a31 b31 hs)) (by decide) rfl ?_
      refine iconstV X0.here hexec rfl 0 (hb hbytes d34) (by decide) ?_
      exact Steps.refl _)
    exact ⟨s₁, some (.int 0), _, _, _, X0, rfl, rfl, rfl, (fun h => by cases h), ⟨0, rfl, hh0, Or.inr ⟨rfl, fun q => hs q.1⟩⟩, fun fs hl => c3.trans (X0.ireturnOut hexec hret rfl (Or.inr (Or.inl rfl)) (hb hbytes d35) hl)⟩
end LEq
theorem Cod.ty {cd : Int32} {n : Nat} {f : Nat → Int32} {V : Cell} (h : Cod cd n f V) : Typed .byte V := fun i v hv => by
  have hi : i < V.slots.size := (Array.getElem?_eq_some_iff.mp hv).1
  rcases h with ⟨-, k1, k2⟩ | ⟨-, k1, k2, -⟩
  · rw [(k2 i (by omega)).1] at hv; cases hv; exact fits_lo8 _
  · rcases Nat.mod_two_eq_zero_or_one i with e | e
    · obtain ⟨j, rfl⟩ : ∃ j, i = 2 * j := ⟨i / 2, by omega⟩
      rw [(k2 j (by omega)).1] at hv; cases hv; exact fits_lo8 _
    · obtain ⟨j, rfl⟩ : ∃ j, i = 2 * j + 1 := ⟨i / 2, by omega⟩
      rw [(k2 j (by omega)).2] at hv; cases hv; exact fits_lo8 _
/-- the same text -/
def SameT (n : Nat) (f : Nat → Int32) (k : Nat) (g : Nat → Int32) : Prop := n = k ∧ ∀ j, j < n → f j = g j
theorem lo8_inj {x y : Int32} (h0 : ¬ x < 0) (h1 : ¬ 255 < x) (k0 : ¬ y < 0) (k1 : ¬ 255 < y) (h : lo8 x = lo8 y) : x = y := by
  rw [← lo8_mask h0 h1, ← lo8_mask k0 k1, h]
/-- arrays coded by one coder are equal just where the texts are -/
theorem Cod.eqv {cd : Int32} {n k : Nat} {f g : Nat → Int32} {V V' : Cell} (h : Cod cd n f V) (h' : Cod cd k g V') (hf : ∀ j, j < n → ¬ f j < 0 ∧ ¬ 65535 < f j) (hg : ∀ j, j < k → ¬ g j < 0 ∧ ¬ 65535 < g j) : EqC V V' ↔ SameT n f k g := by
  have yvv : ∀ {W : Cell} {i : Nat} {x : Int32}, W.slots[i]? = some (.int x) → yv W i = x := fun q => by unfold yv; rw [q]
  rcases h with ⟨rfl, k1, k2⟩ | ⟨rfl, k1, k2, -⟩
  · rcases h' with ⟨-, m1, m2⟩ | ⟨e, -⟩
    · constructor
      · rintro ⟨e1, e2⟩
        refine ⟨by omega, fun j hj => ?_⟩
        have q := e2 j (by omega)
        rw [yvv (k2 j hj).1, yvv (m2 j (by omega)).1] at q
        exact lo8_inj (hf j hj).1 (k2 j hj).2 (hg j (by omega)).1 (m2 j (by omega)).2 q
      · rintro ⟨rfl, e2⟩
        refine ⟨by omega, fun j hj => ?_⟩
        rw [yvv (k2 j (by omega)).1, yvv (m2 j (by omega)).1, e2 j (by omega)]
    · exact absurd e (by decide)
  · rcases h' with ⟨e, -⟩ | ⟨-, m1, m2, -⟩
    · exact absurd e (by decide)
    · constructor
      · rintro ⟨e1, e2⟩
        refine ⟨by omega, fun j hj => ?_⟩
        have q1 := e2 (2 * j) (by omega)
        have q2 := e2 (2 * j + 1) (by omega)
        rw [yvv (k2 j hj).1, yvv (m2 j (by omega)).1] at q1
        rw [yvv (k2 j hj).2, yvv (m2 j (by omega)).2] at q2
        rw [← pair_says (hf j hj).1 (hf j hj).2, ← pair_says (hg j (by omega)).1 (hg j (by omega)).2, q1, q2]
      · rintro ⟨rfl, e2⟩
        refine ⟨by omega, fun i hi => ?_⟩
        rcases Nat.mod_two_eq_zero_or_one i with e | e
        · obtain ⟨j, rfl⟩ : ∃ j, i = 2 * j := ⟨i / 2, by omega⟩
          rw [yvv (k2 j (by omega)).1, yvv (m2 j (by omega)).1, e2 j (by omega)]
        · obtain ⟨j, rfl⟩ : ∃ j, i = 2 * j + 1 := ⟨i / 2, by omega⟩
          rw [yvv (k2 j (by omega)).2, yvv (m2 j (by omega)).2, e2 j (by omega)]
/-- two codings differ: so do the texts -/
theorem Cod.dif {cd cd' : Int32} {n k : Nat} {f g : Nat → Int32} {V V' : Cell} (h : Cod cd n f V) (h' : Cod cd' k g V') (hne : ¬ cd = cd') : ¬ SameT n f k g := by
  rintro ⟨rfl, e⟩
  rcases h with ⟨rfl, -, k2⟩ | ⟨rfl, -, -, j, hj, hw⟩
  · rcases h' with ⟨rfl, -⟩ | ⟨-, -, -, j, hj, hw⟩
    · exact hne rfl
    · exact (k2 j hj).2 (by rw [e j hj]; exact hw)
  · rcases h' with ⟨-, -, m2⟩ | ⟨rfl, -⟩
    · exact (m2 j hj).2 (by rw [← e j hj]; exact hw)
    · exact hne rfl
/-- an object of exactly C is an instance of C -/
theorem cinst {p : Program} {l : Launch} {e : Env} {R : Room} {s : State} {m : MethodId} {args : Array Value} {below : List Frame} {meth : Method} {c : Code} {T : State} {locs : List Loc} {cells slots : Nat} (X : Stand p l e R s m args below meth c T locs cells slots) (hexec : p.tables.exec = Jvm.exec) {own C : String} {index : Nat} (hown : s.vm.findClass own = some m.cls) (hlink : (Cond.classLink own index C).before args s = true) {a : Addr} (hE : Exact C a T)
    {g : JFrame} (hg : g.method = m) {rest : List Value} (hstack : g.stack = .ref a :: rest) (hdg : decode c.code g.pc = .ok (.instanceof index, 3)) :
    ∃ T', Stand p l e R s m args below meth c T' locs cells slots ∧ T'.heap = T.heap ∧ ∀ target, Steps p.tables e below (T'.setTop { g with pc := g.pc + 3, stack := .int 1 :: rest }) target → Steps p.tables e below (T.setTop g) target := by
  obtain ⟨cB, h1, D, h2, h3, h4⟩ := hE
  have h1' : s.vm.findClass C = some cB := by rw [← X.warmed.alike.findClass]; exact h1
  obtain ⟨vm', X', st⟩ := X.instanceofYes hexec hown hlink h2 h4 h1' (by rw [h3]; exact Jvm.Free.SB.assignable_self _ _) hg hstack hdg
  exact ⟨_, X', rfl, st⟩
theorem cself {p : Program} {l : Launch} {e : Env} {R : Room} {s : State} {m : MethodId} {args : Array Value} {below : List Frame} {meth : Method} {c : Code} {T : State} {locs : List Loc} {cells slots : Nat} (X : Stand p l e R s m args below meth c T locs cells slots) (hexec : p.tables.exec = Jvm.exec) {own C : String} {index : Nat} (hown : s.vm.findClass own = some m.cls) (hlink : (Cond.classLink own index C).before args s = true) {a : Addr} (hE : Exact C a T)
    {g : JFrame} (hg : g.method = m) {rest : List Value} (hstack : g.stack = .ref a :: rest) (hdg : decode c.code g.pc = .ok (.checkcast index, 3)) :
    ∃ T', Stand p l e R s m args below meth c T' locs cells slots ∧ T'.heap = T.heap ∧ ∀ target, Steps p.tables e below (T'.setTop { g with pc := g.pc + 3, stack := .ref a :: rest }) target → Steps p.tables e below (T.setTop g) target := by
  obtain ⟨cB, h1, D, h2, h3, h4⟩ := hE
  have h1' : s.vm.findClass C = some cB := by rw [← X.warmed.alike.findClass]; exact h1
  obtain ⟨vm', X', st⟩ := X.checkcastYes hexec hown hlink h2 h4 h1' (by rw [h3]; exact Jvm.Free.SB.assignable_self _ _) hg hstack hdg
  exact ⟨_, X', rfl, fun t h => st t (by rw [← hstack] at h; exact h)⟩
namespace SEq
def yN : MethodName := ⟨"java/lang/String", "equals", "(Ljava/lang/Object;)Z"⟩
abbrev yB : ByteArray := jdk_42_method_66_code
theorem d0 : decode yB 0 = .ok (.aload_n 0, 1) := by decide +kernel
theorem d1 : decode yB 1 = .ok (.aload_n 1, 1) := by decide +kernel
theorem d2 : decode yB 2 = .ok (.if_acmp (.ne) 5, 3) := by decide +kernel
theorem d5 : decode yB 5 = .ok (.iconst 1, 1) := by decide +kernel
theorem d6 : decode yB 6 = .ok (.ireturn, 1) := by decide +kernel
theorem d7 : decode yB 7 = .ok (.aload_n 1, 1) := by decide +kernel
theorem d8 : decode yB 8 = .ok (.instanceof 10, 3) := by decide +kernel
theorem d11 : decode yB 11 = .ok (.ifCond (.eq) 43, 3) := by decide +kernel
theorem d14 : decode yB 14 = .ok (.aload_n 1, 1) := by decide +kernel
theorem d15 : decode yB 15 = .ok (.checkcast 10, 3) := by decide +kernel
theorem d18 : decode yB 18 = .ok (.astore_n 2, 1) := by decide +kernel
theorem d19 : decode yB 19 = .ok (.getstatic 38, 3) := by decide +kernel
theorem d22 : decode yB 22 = .ok (.ifCond (.eq) 14, 3) := by decide +kernel
theorem d25 : decode yB 25 = .ok (.aload_n 0, 1) := by decide +kernel
theorem d26 : decode yB 26 = .ok (.getfield 15, 3) := by decide +kernel
theorem d29 : decode yB 29 = .ok (.aload_n 2, 1) := by decide +kernel
theorem d30 : decode yB 30 = .ok (.getfield 15, 3) := by decide +kernel
theorem d33 : decode yB 33 = .ok (.if_icmp (.ne) 21, 3) := by decide +kernel
theorem d36 : decode yB 36 = .ok (.aload_n 0, 1) := by decide +kernel
theorem d37 : decode yB 37 = .ok (.getfield 9, 3) := by decide +kernel
theorem d40 : decode yB 40 = .ok (.aload_n 2, 1) := by decide +kernel
theorem d41 : decode yB 41 = .ok (.getfield 9, 3) := by decide +kernel
theorem d44 : decode yB 44 = .ok (.invokestatic 541, 3) := by decide +kernel
theorem d47 : decode yB 47 = .ok (.ifCond (.eq) 7, 3) := by decide +kernel
theorem d50 : decode yB 50 = .ok (.iconst 1, 1) := by decide +kernel
theorem d51 : decode yB 51 = .ok (.goto 4, 3) := by decide +kernel
theorem d54 : decode yB 54 = .ok (.iconst 0, 1) := by decide +kernel
theorem d55 : decode yB 55 = .ok (.ireturn, 1) := by decide +kernel
def site : List Cond := [.classLink "java/lang/String" 10 "java/lang/String", .fieldLink "java/lang/String" 38 "java/lang/String" "COMPACT_STRINGS" "Z", .fieldLink "java/lang/String" 15 "java/lang/String" "coder" "B", .fieldLink "java/lang/String" 9 "java/lang/String" "value" "[B", LEq.tab] ++ staticW "java/lang/String" 541 LEq.yN
def tab : Cond := tabOf yN yB 3 (some .boolean) site
def P (x t : Addr) (V : Cell) (cd : Int32) (n : Nat) (f : Nat → Int32) (y t' : Addr) (V' : Cell) (cd' : Int32) (k : Nat) (g : Nat → Int32) (z : Int32) (args : Array Value) (s : State) : Prop := args = #[.ref x, .ref y] ∧ Txt x t V cd n f s ∧ Txt y t' V' cd' k g s ∧ StaticIs s "java/lang/String" "COMPACT_STRINGS" "Z" (.int z) ∧ ¬ z = 0
/-- equals(Object) of two Strings: whether the texts are the same -/
theorem law (l : Launch) (x t : Addr) (V : Cell) (cd : Int32) (n : Nat) (f : Nat → Int32) (y t' : Addr) (V' : Cell) (cd' : Int32) (k : Nat) (g : Nat → Int32) (z : Int32) : Law l yN 2 1 1 14 yB 3 (some .boolean) site (P x t V cd n f y t' V' cd' k g z) (Says01 (SameT n f k g)) [] 0 0 := by
  refine Law.of_walk (plainFor_of_name (by decide +kernel)) (by decide +kernel) (by decide +kernel) (by decide) (fun _ _ h => by rw [h.1]; rfl) (fun _ U U' hal hh h => ⟨h.1, h.2.1.mv hal hh, h.2.2.1.mv hal hh, h.2.2.2.1.there hal hh, h.2.2.2.2⟩) (fun r U U' V V' h1 hal h2 h => Says01.mv r U U' V V' h1 hal h2 h) ?_
  intro p e s m args below meth c s₁ X0 hexec hbytes hml hret hlk hnm hown hh0 W hP
  obtain ⟨rfl, hx, hy, s1, hz⟩ := hP
  have c1 : Steps p.tables e below (s₁.setTop (entryFrame m #[.ref x, .ref y] 3)) (s₁.setTop (mkF m 2 #[.val (.ref x), .val (.ref y), .unset] [.ref y, .ref x])) := Steps.trans (entry rfl) (by
    show Steps p.tables e below (s₁.setTop (mkF m 0 #[.val (.ref x), .val (.ref y), .unset] [])) _
    refine XS.aloadN X0.here hexec rfl (hb hbytes d0) rfl rfl ?_
    refine XS.aloadN X0.here hexec rfl (hb hbytes d1) rfl rfl ?_
    exact Steps.refl _)
  by_cases hxy : x = y
  · have c2 : Steps p.tables e below (s₁.setTop (entryFrame m #[.ref x, .ref y] 3)) (s₁.setTop (mkF m 6 #[.val (.ref x), .val (.ref y), .unset] [.int 1])) := c1.trans (by
      refine acmpNo X0.here hexec rfl (hb hbytes d2) rfl rfl rfl (by simp [acmp, hxy]) ?_
      refine iconstV X0.here hexec rfl 1 (hb hbytes d5) (by decide) ?_
      exact Steps.refl _)
    subst hxy
    have ec : cd = cd' := by
      obtain ⟨D, fd, a1, a2, a3⟩ := hx.2.2.1
      obtain ⟨D', fd', b1, b2, b3⟩ := hy.2.2.1
      cases a1.symm.trans b1
      obtain ⟨q1, q2, q3, q4⟩ := a2.1
      obtain ⟨r1, r2, r3, r4⟩ := b2.1
      cases q4.symm.trans r4
      cases a3.symm.trans b3; rfl
    have et : t = t' := by
      obtain ⟨D, fd, a1, a2, a3⟩ := hx.2.1
      obtain ⟨D', fd', b1, b2, b3⟩ := hy.2.1
      cases a1.symm.trans b1
      obtain ⟨q1, q2, q3, q4⟩ := a2.1
      obtain ⟨r1, r2, r3, r4⟩ := b2.1
      cases q4.symm.trans r4
      cases a3.symm.trans b3; rfl
    subst ec et
    have ev : V = V' := by cases hx.2.2.2.1.1.symm.trans hy.2.2.2.1.1; rfl
    subst ev
    have hs : SameT n f k g := (Cod.eqv hx.2.2.2.2.1 hy.2.2.2.2.1 hx.2.2.2.2.2 hy.2.2.2.2.2).mp ⟨rfl, fun _ _ => rfl⟩
    exact ⟨s₁, some (.int 1), _, _, _, X0, rfl, rfl, rfl, (fun h => by cases h), ⟨1, rfl, hh0, Or.inl ⟨rfl, hs⟩⟩, fun fs hl => c2.trans (X0.ireturnOut hexec hret rfl (Or.inr (Or.inl rfl)) (hb hbytes d6) hl)⟩
  · have c2 : Steps p.tables e below (s₁.setTop (entryFrame m #[.ref x, .ref y] 3)) (s₁.setTop (mkF m 8 #[.val (.ref x), .val (.ref y), .unset] [.ref y])) := c1.trans (by
      refine acmpYes X0.here hexec rfl (pc0 := 2) rfl (hb hbytes d2) rfl rfl rfl (by simp [acmp, hxy]) (by decide) rfl ?_
      refine XS.aloadN X0.here hexec rfl (hb hbytes d7) rfl rfl ?_
      exact Steps.refl _)
    obtain ⟨T3, X3, q3, st3⟩ := cinst X0 hexec hown (wk W (.classLink "java/lang/String" 10 "java/lang/String")) (hy.mv X0.warmed.alike hh0).1 (g := (mkF m 8 #[.val (.ref x), .val (.ref y), .unset] [.ref y])) rfl (rest := []) rfl (hb hbytes d8)
    have hh3 := q3.trans hh0
    have c4 : Steps p.tables e below (s₁.setTop (entryFrame m #[.ref x, .ref y] 3)) (T3.setTop (mkF m 15 #[.val (.ref x), .val (.ref y), .unset] [.ref y])) := (c2.trans (st3 _ (Steps.refl _))).trans (by
      refine XS.ifNo X3.here hexec rfl (hb hbytes d11) rfl (i0_eq_f (by decide)) ?_
      refine XS.aloadN X3.here hexec rfl (hb hbytes d14) rfl rfl ?_
      exact Steps.refl _)
    obtain ⟨T5, X5, q5, st5⟩ := cself X3 hexec hown (wk W (.classLink "java/lang/String" 10 "java/lang/String")) (hy.mv X3.warmed.alike hh3).1 (g := (mkF m 15 #[.val (.ref x), .val (.ref y), .unset] [.ref y])) rfl (rest := []) rfl (hb hbytes d15)
    have hh5 := q5.trans hh3
    have c6 : Steps p.tables e below (s₁.setTop (entryFrame m #[.ref x, .ref y] 3)) (T5.setTop (mkF m 19 #[.val (.ref x), .val (.ref y), .val (.ref y)] [])) := (c4.trans (st5 _ (Steps.refl _))).trans (by
      refine XS.astoreN X5.here hexec rfl (hb hbytes d18) rfl rfl rfl ?_
      exact Steps.refl _)
    obtain ⟨T7, X7, q7, st7⟩ := X5.sget hexec hown (wk W (.fieldLink "java/lang/String" 38 "java/lang/String" "COMPACT_STRINGS" "Z")) s1 (fun _ _ h => by rw [hh5]; exact h) (g := (mkF m 19 #[.val (.ref x), .val (.ref y), .val (.ref y)] [])) rfl (hb hbytes d19)
    have hh7 := q7.trans hh5
    have c8 : Steps p.tables e below (s₁.setTop (entryFrame m #[.ref x, .ref y] 3)) (T7.setTop (mkF m 26 #[.val (.ref x), .val (.ref y), .val (.ref y)] [.ref x])) := (c6.trans (st7 _ (Steps.refl _))).trans (by
      refine XS.ifNo X7.here hexec rfl (hb hbytes d22) rfl (i0_eq_f hz) ?_
      refine XS.aloadN X7.here hexec rfl (hb hbytes d25) rfl rfl ?_
      exact Steps.refl _)
    obtain ⟨T9, X9, q9, st9⟩ := X7.hget hexec hown (wk W (.fieldLink "java/lang/String" 15 "java/lang/String" "coder" "B")) (hx.mv X7.warmed.alike hh7).2.2.1 (g := (mkF m 26 #[.val (.ref x), .val (.ref y), .val (.ref y)] [.ref x])) rfl (rest := []) rfl (hb hbytes d26)
    have hh9 := q9.trans hh7
    have c10 : Steps p.tables e below (s₁.setTop (entryFrame m #[.ref x, .ref y] 3)) (T9.setTop (mkF m 30 #[.val (.ref x), .val (.ref y), .val (.ref y)] [.ref y, .int cd])) := (c8.trans (st9 _ (Steps.refl _))).trans (by
      refine XS.aloadN X9.here hexec rfl (hb hbytes d29) rfl rfl ?_
      exact Steps.refl _)
    obtain ⟨T11, X11, q11, st11⟩ := X9.hget hexec hown (wk W (.fieldLink "java/lang/String" 15 "java/lang/String" "coder" "B")) (hy.mv X9.warmed.alike hh9).2.2.1 (g := (mkF m 30 #[.val (.ref x), .val (.ref y), .val (.ref y)] [.ref y, .int cd])) rfl (rest := [.int cd]) rfl (hb hbytes d30)
    have hh11 := q11.trans hh9
    have c12 : Steps p.tables e below (s₁.setTop (entryFrame m #[.ref x, .ref y] 3)) (T11.setTop (mkF m 33 #[.val (.ref x), .val (.ref y), .val (.ref y)] [.int cd', .int cd])) := c10.trans (st11 _ (Steps.refl _))
    by_cases hcd : cd = cd'
    · subst hcd
      have c13 : Steps p.tables e below (s₁.setTop (entryFrame m #[.ref x, .ref y] 3)) (T11.setTop (mkF m 37 #[.val (.ref x), .val (.ref y), .val (.ref y)] [.ref x])) := c12.trans (by
        refine XS.icmpNo X11.here hexec rfl (hb hbytes d33) rfl (ii_ne_f rfl) ?_
        refine XS.aloadN X11.here hexec rfl (hb hbytes d36) rfl rfl ?_
        exact Steps.refl _)
      obtain ⟨T14, X14, q14, st14⟩ := X11.hget hexec hown (wk W (.fieldLink "java/lang/String" 9 "java/lang/String" "value" "[B")) (hx.mv X11.warmed.alike hh11).2.1 (g := (mkF m 37 #[.val (.ref x), .val (.ref y), .val (.ref y)] [.ref x])) rfl (rest := []) rfl (hb hbytes d37)
      have hh14 := q14.trans hh11
      have c15 : Steps p.tables e below (s₁.setTop (entryFrame m #[.ref x, .ref y] 3)) (T14.setTop (mkF m 41 #[.val (.ref x), .val (.ref y), .val (.ref y)] [.ref y, .ref t])) := (c13.trans (st14 _ (Steps.refl _))).trans (by
        refine XS.aloadN X14.here hexec rfl (hb hbytes d40) rfl rfl ?_
        exact Steps.refl _)
      obtain ⟨T16, X16, q16, st16⟩ := X14.hget hexec hown (wk W (.fieldLink "java/lang/String" 9 "java/lang/String" "value" "[B")) (hy.mv X14.warmed.alike hh14).2.1 (g := (mkF m 41 #[.val (.ref x), .val (.ref y), .val (.ref y)] [.ref y, .ref t])) rfl (rest := [.ref t]) rfl (hb hbytes d41)
      have hh16 := q16.trans hh14
      have c17 : Steps p.tables e below (s₁.setTop (entryFrame m #[.ref x, .ref y] 3)) (T16.setTop (mkF m 44 #[.val (.ref x), .val (.ref y), .val (.ref y)] [.ref t', .ref t])) := c15.trans (st16 _ (Steps.refl _))
      obtain ⟨v18, T18, X18, E18, g18⟩ := X16.callS hexec (LEq.law l t V t' V') hown (wks W (staticW "java/lang/String" 541 LEq.yN)) (wk W LEq.tab) (W := 0) (Nat.le_of_ble_eq_true rfl) (Nat.le_of_ble_eq_true rfl) (Nat.le_refl _) (Nat.le_refl _) (g := (mkF m 44 #[.val (.ref x), .val (.ref y), .val (.ref y)] [.ref t', .ref t])) rfl (by rw [hml]; rfl) c17 (argsL := [.ref t, .ref t']) (rest := []) rfl rfl (by show 2 * 0 + 0 ≤ _; decide) (hb hbytes d44) (⟨rfl, hx.2.2.2.1.mv X16.warmed.alike hh16, hx.2.2.2.2.1.ty, hy.2.2.2.1.mv X16.warmed.alike hh16, hy.2.2.2.2.1.ty⟩)
      obtain ⟨v, rfl, q18, hv⟩ := E18
      have iff := Cod.eqv hx.2.2.2.2.1 hy.2.2.2.2.1 hx.2.2.2.2.2 hy.2.2.2.2.2
      rcases hv with ⟨rfl, he⟩ | ⟨rfl, he⟩
      · have c19 : Steps p.tables e below (s₁.setTop (entryFrame m #[.ref x, .ref y] 3)) (T18.setTop (mkF m 55 #[.val (.ref x), .val (.ref y), .val (.ref y)] [.int 1])) := Steps.trans g18 (by
          refine XS.ifNo X18.here hexec rfl (hb hbytes d47) rfl (i0_eq_f (by decide)) ?_
          refine iconstV X18.here hexec rfl 1 (hb hbytes d50) (by decide) ?_
          refine XS.goto X18.here hexec rfl (pc0 := 51) rfl (hb hbytes d51) (by decide) rfl ?_
          exact Steps.refl _)
        exact ⟨T18, some (.int 1), _, _, _, X18, rfl, rfl, rfl, (fun h => by cases h), ⟨1, rfl, q18.trans hh16, Or.inl ⟨rfl, iff.mp he⟩⟩, fun fs hl => c19.trans (X18.ireturnOut hexec hret rfl (Or.inr (Or.inl rfl)) (hb hbytes d55) hl)⟩
      · have c19 : Steps p.tables e below (s₁.setTop (entryFrame m #[.ref x, .ref y] 3)) (T18.setTop (mkF m 55 #[.val (.ref x), .val (.ref y), .val (.ref y)] [.int 0])) := Steps.trans g18 (by
          refine XS.ifYes X18.here hexec rfl (pc0 := 47) rfl (hb hbytes d47) rfl (i0_eq_t rfl) (by decide) rfl ?_
          refine iconstV X18.here hexec rfl 0 (hb hbytes d54) (by decide) ?_
          exact Steps.refl _)
        exact ⟨T18, some (.int 0), _, _, _, X18, rfl, rfl, rfl, (fun h => by cases h), ⟨0, rfl, q18.trans hh16, Or.inr ⟨rfl, fun q => he (iff.mpr q)⟩⟩, fun fs hl => c19.trans (X18.ireturnOut hexec hret rfl (Or.inr (Or.inl rfl)) (hb hbytes d55) hl)⟩
    · have c13 : Steps p.tables e below (s₁.setTop (entryFrame m #[.ref x, .ref y] 3)) (T11.setTop (mkF m 55 #[.val (.ref x), .val (.ref y), .val (.ref y)] [.int 0])) := c12.trans (by
        refine XS.icmpYes X11.here hexec rfl (pc0 := 33) rfl (hb hbytes d33) rfl (ii_ne_t hcd) (by decide) rfl ?_
        refine iconstV X11.here hexec rfl 0 (hb hbytes d54) (by decide) ?_
        exact Steps.refl _)
      exact ⟨T11, some (.int 0), _, _, _, X11, rfl, rfl, rfl, (fun h => by cases h), ⟨0, rfl, hh11, Or.inr ⟨rfl, Cod.dif hx.2.2.2.2.1 hy.2.2.2.2.1 hcd⟩⟩, fun fs hl => c13.trans (X11.ireturnOut hexec hret rfl (Or.inr (Or.inl rfl)) (hb hbytes d55) hl)⟩
theorem pays {l : Launch} {R : Room} {p : Program} {e : Env} {below : List Frame} {s : State} {sargs : Array Value} {len W : Nat} (x t : Addr) (V : Cell) (cd : Int32) (n : Nat) (f : Nat → Int32) (y t' : Addr) (V' : Cell) (cd' : Int32) (k : Nat) (g : Nat → Int32) (z : Int32) (htab : tab.before sargs s = true) (hfr : 2 ≤ R.frames) (hlo : W + 28 ≤ R.locals) :
    Back l R p e below s sargs yN len W (fun A₁ a₁ => A₁.cells + 0 ≤ R.cells ∧ A₁.slots + 0 ≤ R.slots ∧ P x t V cd n f y t' V' cd' k g z a₁ A₁.U) (fun A₁ _ v₁ B₁ => Says01 (SameT n f k g) v₁ A₁.U B₁.U ∧ B₁.locs = A₁.locs ++ [] ∧ B₁.cells = A₁.cells + 0 ∧ B₁.slots = A₁.slots + 0) :=
  (law l x t V cd n f y t' V' cd' k g z).pays htab hfr (by omega)
end SEq
end StrChars
namespace StrChars.Road
open Jvm Sem ClassFile Op Lib Jvm.Stand Jvm.Free Jvm.Free.XT
open Jvm.Lib.Cold (StaticIs)
/-- the words of String.equals(Object) -/
abbrev wordsEq : List Jvm.Cond := [.code SEq.yN SEq.yB 3 (some .boolean), .initialized ST, .classLink ST 10 ST, .fieldLink ST 38 ST "COMPACT_STRINGS" "Z", .fieldLink ST 15 ST "coder" "B", .fieldLink ST 9 ST "value" "[B", .methodLink ST 541 LEq.yN, .static LEq.yN, .code LEq.yN LEq.yB 3 (some .boolean), .initialized "java/lang/StringLatin1"]
theorem tabEq_of {a : Array Value} {s : State} (h : ∀ w ∈ wordsEq, w.before a s = true) : SEq.tab.before a s = true := by
  have hl : LEq.tab.before a s = true := unparts (wk h (.code LEq.yN LEq.yB 3 (some .boolean))) (wks h (.initialized LEq.yN.cls :: LEq.site))
  have q := consq hl h
  exact unparts (wk q (.code SEq.yN SEq.yB 3 (some .boolean))) (wks q (.initialized SEq.yN.cls :: SEq.site))
theorem movedEq {Z s : State} {a0 args : Array Value} (hZ : Z.Warmed39 s.vm) (hw : ∀ d ∈ wordsEq, d.before a0 Z = true) : ∀ d ∈ wordsEq, d.before args s = true := fun d hd => by
  have t : ∀ d ∈ wordsEq, (d.onTables && d.keepsFace) = true := by decide +kernel
  exact RoadKit.mv hZ (hw d hd) (t d hd)
/-- the road's facts of a String, as the laws ask it -/
theorem txt_of {Z U : State} {a0 : Array Value} {kI : Nat} (wi : (Jvm.Cond.instantiable ST kI).before a0 Z = true) (al : Z.vm.Alike U.vm) {x t : Addr} {kb : ClassId} {cs : List Int32} {cd N2 : Int32} {vs : List Value} (E : RoadKit.Exa Z U.heap x ST) (V : RoadKit.Fld Z U.heap x ST "value" "[B" (.ref t)) (C : RoadKit.Fld Z U.heap x ST "coder" "B" (.int cd)) (K : RoadKit.Arv Z U.heap t kb .byte N2 vs (.int 0)) (hc : CodA cs cd N2 vs) (hb : ∀ c ∈ cs, ¬ c < 0 ∧ ¬ (65535 : Int32) < c) (l2 : cs.length ≤ 4000) :
    ∃ A, Txt x t A cd cs.length (fun j => cs.getD j 0) U := by
  obtain ⟨A, K1, K2, K3, K4, K5, K6⟩ := K
  have hcod := hc.cod (by omega) K3 K5
  obtain ⟨D, fV, fC, hB, F1, F2, g1, g2, -, -⟩ := strObj wi al E V C
  exact ⟨A, ⟨_, hB.2.2.1, D, hB.1, rfl, by cases q : D.vm <;> first | rfl | exact absurd q (hB.2.1.2 _)⟩, Has.of hB F1 g1, Has.of hB F2 g2, ⟨K1.1, State.isArrayOf_alike al K1.2.1, K1.2.2, by rcases hcod with ⟨-, q, -⟩ | ⟨-, q, -⟩ <;> omega⟩, hcod, fun j hj => by
    have e : cs.getD j 0 = cs[j] := by simp [List.getD_eq_getElem?_getD, hj]
    show ¬ cs.getD j 0 < 0 ∧ ¬ 65535 < cs.getD j 0
    rw [e]; exact hb _ (List.getElem_mem _)⟩
theorem same_list (cs ds : List Int32) : SameT cs.length (fun j => cs.getD j 0) ds.length (fun j => ds.getD j 0) ↔ cs = ds := by
  constructor
  · rintro ⟨e, q⟩
    refine List.ext_getElem e fun j h1 h2 => ?_
    have := q j h1
    simpa [List.getD_eq_getElem?_getD, h1, h2] using this
  · rintro rfl
    exact ⟨rfl, fun _ _ => rfl⟩
/-- **equals(Object) OF TWO SUCH STRINGS**: 1 just where the chars are the same -/
theorem eqW {p : Program} {l : Launch} {e : Env} {R : Room} {s : State} {args : Array Value} {below : List Frame} {len W : Nat} {Z : State} {a0 : Array Value} {h : Heap} (hZ : Z.Warmed39 s.vm) (hw : ∀ d ∈ wordsEq, d.before a0 Z = true) {kI : Nat} (wi : (Jvm.Cond.instantiable ST kI).before a0 Z = true)
    {x t : Addr} {kb : ClassId} {cs : List Int32} {cd N2 : Int32} {vs : List Value} (E : RoadKit.Exa Z h x ST) (V : RoadKit.Fld Z h x ST "value" "[B" (.ref t)) (C : RoadKit.Fld Z h x ST "coder" "B" (.int cd)) (K : RoadKit.Arv Z h t kb .byte N2 vs (.int 0)) (hc : CodA cs cd N2 vs) (hb : ∀ c ∈ cs, ¬ c < 0 ∧ ¬ (65535 : Int32) < c) (l2 : cs.length ≤ 4000)
    {y t' : Addr} {kb' : ClassId} {ds : List Int32} {cd' N2' : Int32} {vs' : List Value} (E' : RoadKit.Exa Z h y ST) (V' : RoadKit.Fld Z h y ST "value" "[B" (.ref t')) (C' : RoadKit.Fld Z h y ST "coder" "B" (.int cd')) (K' : RoadKit.Arv Z h t' kb' .byte N2' vs' (.int 0)) (hc' : CodA ds cd' N2' vs') (hb' : ∀ c ∈ ds, ¬ c < 0 ∧ ¬ (65535 : Int32) < c) (l2' : ds.length ≤ 4000)
    {z : Int32} (S : RoadKit.Sta Z h ST "COMPACT_STRINGS" "Z" (.int z)) (hz : ¬ z = 0) (hfr : 2 ≤ R.frames) (hlo : W + 28 ≤ R.locals) :
    Back l R p e below s args (⟨"java/lang/String", "equals", "(Ljava/lang/Object;)Z"⟩ : MethodName) len W (fun P a => a = #[.ref x, .ref y] ∧ P.U.heap = h ∧ P.cells + 0 ≤ R.cells ∧ P.slots + 0 ≤ R.slots)
      (fun P _ v B => ∃ L, (((v = some (.int 1) ∧ cs = ds) ∨ (v = some (.int 0) ∧ ¬ cs = ds)) ∧ L = [] ∧ B.U.heap = h) ∧ B.locs = P.locs ++ L ∧ B.cells = P.cells + 0 ∧ B.slots = P.slots + 0) := by
  intro m meth c P g ig mk a X hg hsize hdg hW hn hp'
  obtain ⟨rfl, rfl, r1, r2⟩ := hp'
  have al : Z.vm.Alike P.U.vm := hZ.alike.trans X.warmed.alike
  obtain ⟨A, hx⟩ := txt_of wi al E V C K hc hb l2
  obtain ⟨A', hy⟩ := txt_of wi al E' V' C' K' hc' hb' l2'
  obtain ⟨v, B, X', ⟨⟨w, hv, hh, hq⟩, hl, hk, hs⟩, st⟩ := SEq.pays x t A cd cs.length (fun j => cs.getD j 0) y t' A' cd' ds.length (fun j => ds.getD j 0) z (tabEq_of (movedEq hZ hw)) hfr hlo m meth c P g ig mk _ X hg hsize hdg hW hn ⟨r1, r2, rfl, hx, hy, sta_is al S, hz⟩
  refine ⟨v, B, X', ⟨[], ⟨?_, rfl, hh⟩, hl, hk, hs⟩, st⟩
  rcases hq with ⟨rfl, q⟩ | ⟨rfl, q⟩
  · exact Or.inl ⟨hv, (same_list cs ds).mp q⟩
  · exact Or.inr ⟨hv, fun e => q ((same_list cs ds).mpr e)⟩
end StrChars.Road
namespace StrChars.Road
open Jvm Sem ClassFile Op Lib Jvm.Stand Jvm.Free Jvm.Free.XT
open Jvm.Lib.Cold (StaticIs)
/-- what backV says of its String, as the contracts of this text ask it: cs's low bytes, coder 0 -/
theorem codOf {cs : List Int32} {n : Nat} (hn : cs.length = n) (hb : ∀ c ∈ cs, ¬ 255 < c) : CodA cs 0 (Int32.ofNat n) ((cs.map lo8).map Value.int) := Or.inl ⟨rfl, by rw [hn], by simp [List.map_map, Function.comp_def], hb⟩
end StrChars.Road
end Jvm.Pilot.@@N@@
namespace Jvm.Pilot.@@N@@
open Jvm Jvm.ClassFile Sem Op Lib Jvm.Free Jvm.Stand Jvm.LawKit Jvm.RoadKit Bundle Jvm.Pilot.@@N@@.Jvm.D
def ownText (i : Nat) : String := match tables_1[i]? with
  | some (.stringLink _ _ t) => t
  | _ => ""
abbrev HW (a0 : Array Value) (Z : State) : Prop := ∀ d ∈ tables_1, d.before a0 Z = true
theorem oMem {d : Jvm.Cond} (i : Nat) (h : tables_1[i]? = some d) : d ∈ tables_1 := List.mem_of_getElem? h
section Words
variable {a0 : Array Value} {Z : State}
theorem Wd0 (hw : HW a0 Z) : (Jvm.Cond.methodLink "com/example/savepoint/savepoint/AnnotationLookupNeverAppliesPinLaw" (7 : Nat) ({ cls := "com/example/savepoint/savepoint/AnnotationLookupNeverAppliesPinLaw", name := "draw", desc := "(II)Ljava/lang/String;" } : Jvm.MethodName)).before a0 Z = true := hw _ (oMem 0 rfl)
theorem Wd1 (hw : HW a0 Z) : (Jvm.Cond.static ({ cls := "com/example/savepoint/savepoint/AnnotationLookupNeverAppliesPinLaw", name := "draw", desc := "(II)Ljava/lang/String;" } : Jvm.MethodName)).before a0 Z = true := hw _ (oMem 1 rfl)
theorem Wd2 (hw : HW a0 Z) : (Jvm.Cond.initialized "com/example/savepoint/savepoint/AnnotationLookupNeverAppliesPinLaw").before a0 Z = true := hw _ (oMem 2 rfl)
theorem Wd3 (hw : HW a0 Z) : (Jvm.Cond.code ({ cls := "com/example/savepoint/savepoint/AnnotationLookupNeverAppliesPinLaw", name := "draw", desc := "(II)Ljava/lang/String;" } : Jvm.MethodName) method_4_code (2 : Nat) (Option.some (Jvm.ClassFile.FieldType.object "java/lang/String"))).before a0 Z = true := hw _ (oMem 3 rfl)
theorem Wd4 (hw : HW a0 Z) : (Jvm.Cond.classLink "com/example/savepoint/savepoint/AnnotationLookupNeverAppliesPinLaw" (24 : Nat) "java/lang/String").before a0 Z = true := hw _ (oMem 4 rfl)
theorem Wd5 (hw : HW a0 Z) : (Jvm.Cond.instantiable "java/lang/String" (4 : Nat)).before a0 Z = true := hw _ (oMem 5 rfl)
theorem Wd6 (hw : HW a0 Z) : (Jvm.Cond.initialized "java/lang/String").before a0 Z = true := hw _ (oMem 6 rfl)
theorem Wd7 (hw : HW a0 Z) : (Jvm.Cond.arrayClass Jvm.ClassFile.FieldType.char).before a0 Z = true := hw _ (oMem 7 rfl)
theorem Wd8 (hw : HW a0 Z) : (Jvm.Cond.methodLink "com/example/savepoint/savepoint/AnnotationLookupNeverAppliesPinLaw" (41 : Nat) ({ cls := "com/example/savepoint/savepoint/AnnotationLookupNeverAppliesPinLaw", name := "ch", desc := "(II)C" } : Jvm.MethodName)).before a0 Z = true := hw _ (oMem 8 rfl)
theorem Wd9 (hw : HW a0 Z) : (Jvm.Cond.static ({ cls := "com/example/savepoint/savepoint/AnnotationLookupNeverAppliesPinLaw", name := "ch", desc := "(II)C" } : Jvm.MethodName)).before a0 Z = true := hw _ (oMem 9 rfl)
theorem Wd10 (hw : HW a0 Z) : (Jvm.Cond.code ({ cls := "com/example/savepoint/savepoint/AnnotationLookupNeverAppliesPinLaw", name := "ch", desc := "(II)C" } : Jvm.MethodName) method_3_code (2 : Nat) (Option.some Jvm.ClassFile.FieldType.char)).before a0 Z = true := hw _ (oMem 10 rfl)
theorem Wd11 (hw : HW a0 Z) : (Jvm.Cond.methodLink "com/example/savepoint/savepoint/AnnotationLookupNeverAppliesPinLaw" (45 : Nat) ({ cls := "java/lang/String", name := "<init>", desc := "([C)V" } : Jvm.MethodName)).before a0 Z = true := hw _ (oMem 11 rfl)
theorem Wd12 (hw : HW a0 Z) : (Jvm.Cond.instanceMethod ({ cls := "java/lang/String", name := "<init>", desc := "([C)V" } : Jvm.MethodName)).before a0 Z = true := hw _ (oMem 12 rfl)
theorem Wd13 (hw : HW a0 Z) : (Jvm.Cond.code ({ cls := "java/lang/String", name := "<init>", desc := "([C)V" } : Jvm.MethodName) jdk_42_method_3_code (2 : Nat) (Option.none : Option Jvm.ClassFile.FieldType)).before a0 Z = true := hw _ (oMem 13 rfl)
theorem Wd18 (hw : HW a0 Z) : (Jvm.Cond.methodLink "java/lang/String" (1 : Nat) ({ cls := "java/lang/Object", name := "<init>", desc := "()V" } : Jvm.MethodName)).before a0 Z = true := hw _ (oMem 18 rfl)
theorem Wd19 (hw : HW a0 Z) : (Jvm.Cond.instanceMethod ({ cls := "java/lang/Object", name := "<init>", desc := "()V" } : Jvm.MethodName)).before a0 Z = true := hw _ (oMem 19 rfl)
theorem Wd20 (hw : HW a0 Z) : (Jvm.Cond.code ({ cls := "java/lang/Object", name := "<init>", desc := "()V" } : Jvm.MethodName) object_method_1_code (1 : Nat) (Option.none : Option Jvm.ClassFile.FieldType)).before a0 Z = true := hw _ (oMem 20 rfl)
theorem Wd21 (hw : HW a0 Z) : (Jvm.Cond.fieldLink "java/lang/String" (38 : Nat) "java/lang/String" "COMPACT_STRINGS" "Z").before a0 Z = true := hw _ (oMem 21 rfl)
theorem Wd26 (hw : HW a0 Z) : (Jvm.Cond.arrayClass Jvm.ClassFile.FieldType.byte).before a0 Z = true := hw _ (oMem 26 rfl)
theorem Wd33 (hw : HW a0 Z) : (Jvm.Cond.fieldLink "java/lang/String" (15 : Nat) "java/lang/String" "coder" "B").before a0 Z = true := hw _ (oMem 33 rfl)
theorem Wd34 (hw : HW a0 Z) : (Jvm.Cond.laysFinal "java/lang/String" "java/lang/String" "coder" "B").before a0 Z = true := hw _ (oMem 34 rfl)
theorem Wd35 (hw : HW a0 Z) : (Jvm.Cond.fieldLink "java/lang/String" (9 : Nat) "java/lang/String" "value" "[B").before a0 Z = true := hw _ (oMem 35 rfl)
theorem Wd36 (hw : HW a0 Z) : (Jvm.Cond.laysFinal "java/lang/String" "java/lang/String" "value" "[B").before a0 Z = true := hw _ (oMem 36 rfl)
theorem Wd37 (hw : HW a0 Z) : (Jvm.Cond.stringLink "com/example/savepoint/savepoint/AnnotationLookupNeverAppliesPinLaw" (13 : Nat) "").before a0 Z = true := hw _ (oMem 37 rfl)
theorem Wd40 (hw : HW a0 Z) : (Jvm.Cond.methodLink "com/example/savepoint/savepoint/AnnotationLookupNeverAppliesPinLaw" (15 : Nat) ({ cls := "com/example/savepoint/savepoint/AnnotationLookup", name := "neverApplies", desc := "(Ljava/lang/String;Ljava/lang/String;Ljava/lang/String;)Ljava/lang/String;" } : Jvm.MethodName)).before a0 Z = true := hw _ (oMem 40 rfl)
theorem Wd41 (hw : HW a0 Z) : (Jvm.Cond.static ({ cls := "com/example/savepoint/savepoint/AnnotationLookup", name := "neverApplies", desc := "(Ljava/lang/String;Ljava/lang/String;Ljava/lang/String;)Ljava/lang/String;" } : Jvm.MethodName)).before a0 Z = true := hw _ (oMem 41 rfl)
theorem Wd42 (hw : HW a0 Z) : (Jvm.Cond.initialized "com/example/savepoint/savepoint/AnnotationLookup").before a0 Z = true := hw _ (oMem 42 rfl)
theorem Wd43 (hw : HW a0 Z) : (Jvm.Cond.code ({ cls := "com/example/savepoint/savepoint/AnnotationLookup", name := "neverApplies", desc := "(Ljava/lang/String;Ljava/lang/String;Ljava/lang/String;)Ljava/lang/String;" } : Jvm.MethodName) prog_1_method_5_code (3 : Nat) (Option.some (Jvm.ClassFile.FieldType.object "java/lang/String"))).before a0 Z = true := hw _ (oMem 43 rfl)
theorem Wd44 (hw : HW a0 Z) : (Jvm.Cond.classLink "com/example/savepoint/savepoint/AnnotationLookup" (108 : Nat) "java/lang/StringBuilder").before a0 Z = true := hw _ (oMem 44 rfl)
theorem Wd45 (hw : HW a0 Z) : (Jvm.Cond.instantiable "java/lang/StringBuilder" (4 : Nat)).before a0 Z = true := hw _ (oMem 45 rfl)
theorem Wd46 (hw : HW a0 Z) : (Jvm.Cond.initialized "java/lang/StringBuilder").before a0 Z = true := hw _ (oMem 46 rfl)
theorem Wd47 (hw : HW a0 Z) : (Jvm.Cond.methodLink "com/example/savepoint/savepoint/AnnotationLookup" (110 : Nat) ({ cls := "java/lang/StringBuilder", name := "<init>", desc := "()V" } : Jvm.MethodName)).before a0 Z = true := hw _ (oMem 47 rfl)
theorem Wd48 (hw : HW a0 Z) : (Jvm.Cond.instanceMethod ({ cls := "java/lang/StringBuilder", name := "<init>", desc := "()V" } : Jvm.MethodName)).before a0 Z = true := hw _ (oMem 48 rfl)
theorem Wd49 (hw : HW a0 Z) : (Jvm.Cond.code ({ cls := "java/lang/StringBuilder", name := "<init>", desc := "()V" } : Jvm.MethodName) jdk_67_method_1_code (1 : Nat) (Option.none : Option Jvm.ClassFile.FieldType)).before a0 Z = true := hw _ (oMem 49 rfl)
theorem Wd50 (hw : HW a0 Z) : (Jvm.Cond.methodLink "java/lang/StringBuilder" (1 : Nat) ({ cls := "java/lang/AbstractStringBuilder", name := "<init>", desc := "(I)V" } : Jvm.MethodName)).before a0 Z = true := hw _ (oMem 50 rfl)
theorem Wd51 (hw : HW a0 Z) : (Jvm.Cond.instanceMethod ({ cls := "java/lang/AbstractStringBuilder", name := "<init>", desc := "(I)V" } : Jvm.MethodName)).before a0 Z = true := hw _ (oMem 51 rfl)
theorem Wd54 (hw : HW a0 Z) : (Jvm.Cond.initialized "java/lang/AbstractStringBuilder").before a0 Z = true := hw _ (oMem 54 rfl)
theorem Wd55 (hw : HW a0 Z) : (Jvm.Cond.code ({ cls := "java/lang/AbstractStringBuilder", name := "<init>", desc := "(I)V" } : Jvm.MethodName) jdk_68_method_2_code (2 : Nat) (Option.none : Option Jvm.ClassFile.FieldType)).before a0 Z = true := hw _ (oMem 55 rfl)
theorem Wd56 (hw : HW a0 Z) : (Jvm.Cond.methodLink "java/lang/AbstractStringBuilder" (3 : Nat) ({ cls := "java/lang/Object", name := "<init>", desc := "()V" } : Jvm.MethodName)).before a0 Z = true := hw _ (oMem 56 rfl)
theorem Wd57 (hw : HW a0 Z) : (Jvm.Cond.fieldLink "java/lang/AbstractStringBuilder" (18 : Nat) "java/lang/String" "COMPACT_STRINGS" "Z").before a0 Z = true := hw _ (oMem 57 rfl)
theorem Wd58 (hw : HW a0 Z) : (Jvm.Cond.fieldLink "java/lang/AbstractStringBuilder" (15 : Nat) "java/lang/AbstractStringBuilder" "value" "[B").before a0 Z = true := hw _ (oMem 58 rfl)
theorem Wd59 (hw : HW a0 Z) : (Jvm.Cond.lays "java/lang/StringBuilder" "java/lang/AbstractStringBuilder" "value" "[B").before a0 Z = true := hw _ (oMem 59 rfl)
theorem Wd60 (hw : HW a0 Z) : (Jvm.Cond.fieldLink "java/lang/AbstractStringBuilder" (22 : Nat) "java/lang/AbstractStringBuilder" "coder" "B").before a0 Z = true := hw _ (oMem 60 rfl)
theorem Wd61 (hw : HW a0 Z) : (Jvm.Cond.lays "java/lang/StringBuilder" "java/lang/AbstractStringBuilder" "coder" "B").before a0 Z = true := hw _ (oMem 61 rfl)
theorem Wd62 (hw : HW a0 Z) : (Jvm.Cond.methodLink "com/example/savepoint/savepoint/AnnotationLookup" (113 : Nat) ({ cls := "java/lang/StringBuilder", name := "append", desc := "(Ljava/lang/String;)Ljava/lang/StringBuilder;" } : Jvm.MethodName)).before a0 Z = true := hw _ (oMem 62 rfl)
theorem Wd63 (hw : HW a0 Z) : (Jvm.Cond.declares ({ cls := "java/lang/StringBuilder", name := "append", desc := "(Ljava/lang/String;)Ljava/lang/StringBuilder;" } : Jvm.MethodName)).before a0 Z = true := hw _ (oMem 63 rfl)
theorem Wd64 (hw : HW a0 Z) : (Jvm.Cond.instanceMethod ({ cls := "java/lang/StringBuilder", name := "append", desc := "(Ljava/lang/String;)Ljava/lang/StringBuilder;" } : Jvm.MethodName)).before a0 Z = true := hw _ (oMem 64 rfl)
theorem Wd65 (hw : HW a0 Z) : (Jvm.Cond.selects "java/lang/StringBuilder" ({ cls := "java/lang/StringBuilder", name := "append", desc := "(Ljava/lang/String;)Ljava/lang/StringBuilder;" } : Jvm.MethodName) ({ cls := "java/lang/StringBuilder", name := "append", desc := "(Ljava/lang/String;)Ljava/lang/StringBuilder;" } : Jvm.MethodName)).before a0 Z = true := hw _ (oMem 65 rfl)
theorem Wd66 (hw : HW a0 Z) : (Jvm.Cond.code ({ cls := "java/lang/StringBuilder", name := "append", desc := "(Ljava/lang/String;)Ljava/lang/StringBuilder;" } : Jvm.MethodName) jdk_67_method_7_code (2 : Nat) (Option.some (Jvm.ClassFile.FieldType.object "java/lang/StringBuilder"))).before a0 Z = true := hw _ (oMem 66 rfl)
theorem Wd67 (hw : HW a0 Z) : (Jvm.Cond.methodLink "java/lang/StringBuilder" (29 : Nat) ({ cls := "java/lang/AbstractStringBuilder", name := "append", desc := "(Ljava/lang/String;)Ljava/lang/AbstractStringBuilder;" } : Jvm.MethodName)).before a0 Z = true := hw _ (oMem 67 rfl)
theorem Wd68 (hw : HW a0 Z) : (Jvm.Cond.instanceMethod ({ cls := "java/lang/AbstractStringBuilder", name := "append", desc := "(Ljava/lang/String;)Ljava/lang/AbstractStringBuilder;" } : Jvm.MethodName)).before a0 Z = true := hw _ (oMem 68 rfl)
theorem Wd69 (hw : HW a0 Z) : (Jvm.Cond.superclass "java/lang/StringBuilder" "java/lang/AbstractStringBuilder").before a0 Z = true := hw _ (oMem 69 rfl)
theorem Wd71 (hw : HW a0 Z) : (Jvm.Cond.code ({ cls := "java/lang/AbstractStringBuilder", name := "append", desc := "(Ljava/lang/String;)Ljava/lang/AbstractStringBuilder;" } : Jvm.MethodName) jdk_68_method_22_code (3 : Nat) (Option.some (Jvm.ClassFile.FieldType.object "java/lang/AbstractStringBuilder"))).before a0 Z = true := hw _ (oMem 71 rfl)
theorem Wd72 (hw : HW a0 Z) : (Jvm.Cond.methodLink "java/lang/AbstractStringBuilder" (32 : Nat) ({ cls := "java/lang/String", name := "length", desc := "()I" } : Jvm.MethodName)).before a0 Z = true := hw _ (oMem 72 rfl)
theorem Wd73 (hw : HW a0 Z) : (Jvm.Cond.declares ({ cls := "java/lang/String", name := "length", desc := "()I" } : Jvm.MethodName)).before a0 Z = true := hw _ (oMem 73 rfl)
theorem Wd74 (hw : HW a0 Z) : (Jvm.Cond.instanceMethod ({ cls := "java/lang/String", name := "length", desc := "()I" } : Jvm.MethodName)).before a0 Z = true := hw _ (oMem 74 rfl)
theorem Wd75 (hw : HW a0 Z) : (Jvm.Cond.selects "java/lang/String" ({ cls := "java/lang/String", name := "length", desc := "()I" } : Jvm.MethodName) ({ cls := "java/lang/String", name := "length", desc := "()I" } : Jvm.MethodName)).before a0 Z = true := hw _ (oMem 75 rfl)
theorem Wd76 (hw : HW a0 Z) : (Jvm.Cond.code ({ cls := "java/lang/String", name := "length", desc := "()I" } : Jvm.MethodName) jdk_42_method_54_code (1 : Nat) (Option.some Jvm.ClassFile.FieldType.int)).before a0 Z = true := hw _ (oMem 76 rfl)
theorem Wd77 (hw : HW a0 Z) : (Jvm.Cond.methodLink "java/lang/String" (335 : Nat) ({ cls := "java/lang/String", name := "coder", desc := "()B" } : Jvm.MethodName)).before a0 Z = true := hw _ (oMem 77 rfl)
theorem Wd78 (hw : HW a0 Z) : (Jvm.Cond.declares ({ cls := "java/lang/String", name := "coder", desc := "()B" } : Jvm.MethodName)).before a0 Z = true := hw _ (oMem 78 rfl)
theorem Wd79 (hw : HW a0 Z) : (Jvm.Cond.instanceMethod ({ cls := "java/lang/String", name := "coder", desc := "()B" } : Jvm.MethodName)).before a0 Z = true := hw _ (oMem 79 rfl)
theorem Wd80 (hw : HW a0 Z) : (Jvm.Cond.selects "java/lang/String" ({ cls := "java/lang/String", name := "coder", desc := "()B" } : Jvm.MethodName) ({ cls := "java/lang/String", name := "coder", desc := "()B" } : Jvm.MethodName)).before a0 Z = true := hw _ (oMem 80 rfl)
theorem Wd81 (hw : HW a0 Z) : (Jvm.Cond.code ({ cls := "java/lang/String", name := "coder", desc := "()B" } : Jvm.MethodName) jdk_42_method_152_code (1 : Nat) (Option.some Jvm.ClassFile.FieldType.byte)).before a0 Z = true := hw _ (oMem 81 rfl)
theorem Wd82 (hw : HW a0 Z) : (Jvm.Cond.fieldLink "java/lang/AbstractStringBuilder" (79 : Nat) "java/lang/AbstractStringBuilder" "count" "I").before a0 Z = true := hw _ (oMem 82 rfl)
theorem Wd83 (hw : HW a0 Z) : (Jvm.Cond.lays "java/lang/StringBuilder" "java/lang/AbstractStringBuilder" "count" "I").before a0 Z = true := hw _ (oMem 83 rfl)
theorem Wd84 (hw : HW a0 Z) : (Jvm.Cond.methodLink "java/lang/AbstractStringBuilder" (100 : Nat) ({ cls := "java/lang/AbstractStringBuilder", name := "ensureCapacityInternal", desc := "(I)V" } : Jvm.MethodName)).before a0 Z = true := hw _ (oMem 84 rfl)
theorem Wd85 (hw : HW a0 Z) : (Jvm.Cond.instanceMethod ({ cls := "java/lang/AbstractStringBuilder", name := "ensureCapacityInternal", desc := "(I)V" } : Jvm.MethodName)).before a0 Z = true := hw _ (oMem 85 rfl)
theorem Wd86 (hw : HW a0 Z) : (Jvm.Cond.privateMethod ({ cls := "java/lang/AbstractStringBuilder", name := "ensureCapacityInternal", desc := "(I)V" } : Jvm.MethodName)).before a0 Z = true := hw _ (oMem 86 rfl)
theorem Wd87 (hw : HW a0 Z) : (Jvm.Cond.selects "java/lang/StringBuilder" ({ cls := "java/lang/AbstractStringBuilder", name := "ensureCapacityInternal", desc := "(I)V" } : Jvm.MethodName) ({ cls := "java/lang/AbstractStringBuilder", name := "ensureCapacityInternal", desc := "(I)V" } : Jvm.MethodName)).before a0 Z = true := hw _ (oMem 87 rfl)
theorem Wd88 (hw : HW a0 Z) : (Jvm.Cond.code ({ cls := "java/lang/AbstractStringBuilder", name := "ensureCapacityInternal", desc := "(I)V" } : Jvm.MethodName) jdk_68_method_9_code (3 : Nat) (Option.none : Option Jvm.ClassFile.FieldType)).before a0 Z = true := hw _ (oMem 88 rfl)
theorem Wd89 (hw : HW a0 Z) : (Jvm.Cond.methodLink "java/lang/AbstractStringBuilder" (208 : Nat) ({ cls := "java/lang/AbstractStringBuilder", name := "putStringAt", desc := "(ILjava/lang/String;)V" } : Jvm.MethodName)).before a0 Z = true := hw _ (oMem 89 rfl)
theorem Wd90 (hw : HW a0 Z) : (Jvm.Cond.instanceMethod ({ cls := "java/lang/AbstractStringBuilder", name := "putStringAt", desc := "(ILjava/lang/String;)V" } : Jvm.MethodName)).before a0 Z = true := hw _ (oMem 90 rfl)
theorem Wd91 (hw : HW a0 Z) : (Jvm.Cond.privateMethod ({ cls := "java/lang/AbstractStringBuilder", name := "putStringAt", desc := "(ILjava/lang/String;)V" } : Jvm.MethodName)).before a0 Z = true := hw _ (oMem 91 rfl)
theorem Wd92 (hw : HW a0 Z) : (Jvm.Cond.selects "java/lang/StringBuilder" ({ cls := "java/lang/AbstractStringBuilder", name := "putStringAt", desc := "(ILjava/lang/String;)V" } : Jvm.MethodName) ({ cls := "java/lang/AbstractStringBuilder", name := "putStringAt", desc := "(ILjava/lang/String;)V" } : Jvm.MethodName)).before a0 Z = true := hw _ (oMem 92 rfl)
theorem Wd93 (hw : HW a0 Z) : (Jvm.Cond.code ({ cls := "java/lang/AbstractStringBuilder", name := "putStringAt", desc := "(ILjava/lang/String;)V" } : Jvm.MethodName) jdk_68_method_73_code (3 : Nat) (Option.none : Option Jvm.ClassFile.FieldType)).before a0 Z = true := hw _ (oMem 93 rfl)
theorem Wd94 (hw : HW a0 Z) : (Jvm.Cond.methodLink "java/lang/AbstractStringBuilder" (397 : Nat) ({ cls := "java/lang/AbstractStringBuilder", name := "inflateIfNeededFor", desc := "(Ljava/lang/String;)V" } : Jvm.MethodName)).before a0 Z = true := hw _ (oMem 94 rfl)
theorem Wd95 (hw : HW a0 Z) : (Jvm.Cond.instanceMethod ({ cls := "java/lang/AbstractStringBuilder", name := "inflateIfNeededFor", desc := "(Ljava/lang/String;)V" } : Jvm.MethodName)).before a0 Z = true := hw _ (oMem 95 rfl)
theorem Wd96 (hw : HW a0 Z) : (Jvm.Cond.privateMethod ({ cls := "java/lang/AbstractStringBuilder", name := "inflateIfNeededFor", desc := "(Ljava/lang/String;)V" } : Jvm.MethodName)).before a0 Z = true := hw _ (oMem 96 rfl)
theorem Wd97 (hw : HW a0 Z) : (Jvm.Cond.selects "java/lang/StringBuilder" ({ cls := "java/lang/AbstractStringBuilder", name := "inflateIfNeededFor", desc := "(Ljava/lang/String;)V" } : Jvm.MethodName) ({ cls := "java/lang/AbstractStringBuilder", name := "inflateIfNeededFor", desc := "(Ljava/lang/String;)V" } : Jvm.MethodName)).before a0 Z = true := hw _ (oMem 97 rfl)
theorem Wd98 (hw : HW a0 Z) : (Jvm.Cond.code ({ cls := "java/lang/AbstractStringBuilder", name := "inflateIfNeededFor", desc := "(Ljava/lang/String;)V" } : Jvm.MethodName) jdk_68_method_71_code (2 : Nat) (Option.none : Option Jvm.ClassFile.FieldType)).before a0 Z = true := hw _ (oMem 98 rfl)
theorem Wd99 (hw : HW a0 Z) : (Jvm.Cond.methodLink "java/lang/AbstractStringBuilder" (40 : Nat) ({ cls := "java/lang/String", name := "coder", desc := "()B" } : Jvm.MethodName)).before a0 Z = true := hw _ (oMem 99 rfl)
theorem Wd100 (hw : HW a0 Z) : (Jvm.Cond.methodLink "java/lang/AbstractStringBuilder" (399 : Nat) ({ cls := "java/lang/String", name := "getBytes", desc := "([BIB)V" } : Jvm.MethodName)).before a0 Z = true := hw _ (oMem 100 rfl)
theorem Wd101 (hw : HW a0 Z) : (Jvm.Cond.declares ({ cls := "java/lang/String", name := "getBytes", desc := "([BIB)V" } : Jvm.MethodName)).before a0 Z = true := hw _ (oMem 101 rfl)
theorem Wd102 (hw : HW a0 Z) : (Jvm.Cond.instanceMethod ({ cls := "java/lang/String", name := "getBytes", desc := "([BIB)V" } : Jvm.MethodName)).before a0 Z = true := hw _ (oMem 102 rfl)
theorem Wd103 (hw : HW a0 Z) : (Jvm.Cond.selects "java/lang/String" ({ cls := "java/lang/String", name := "getBytes", desc := "([BIB)V" } : Jvm.MethodName) ({ cls := "java/lang/String", name := "getBytes", desc := "([BIB)V" } : Jvm.MethodName)).before a0 Z = true := hw _ (oMem 103 rfl)
theorem Wd104 (hw : HW a0 Z) : (Jvm.Cond.code ({ cls := "java/lang/String", name := "getBytes", desc := "([BIB)V" } : Jvm.MethodName) jdk_42_method_147_code (4 : Nat) (Option.none : Option Jvm.ClassFile.FieldType)).before a0 Z = true := hw _ (oMem 104 rfl)
theorem Wd105 (hw : HW a0 Z) : (Jvm.Cond.methodLink "java/lang/String" (212 : Nat) ({ cls := "java/lang/System", name := "arraycopy", desc := "(Ljava/lang/Object;ILjava/lang/Object;II)V" } : Jvm.MethodName)).before a0 Z = true := hw _ (oMem 105 rfl)
theorem Wd106 (hw : HW a0 Z) : (Jvm.Cond.static ({ cls := "java/lang/System", name := "arraycopy", desc := "(Ljava/lang/Object;ILjava/lang/Object;II)V" } : Jvm.MethodName)).before a0 Z = true := hw _ (oMem 106 rfl)
theorem Wd107 (hw : HW a0 Z) : (Jvm.Cond.initialized "java/lang/System").before a0 Z = true := hw _ (oMem 107 rfl)
theorem Wd108 (hw : HW a0 Z) : (Jvm.Cond.native ({ cls := "java/lang/System", name := "arraycopy", desc := "(Ljava/lang/Object;ILjava/lang/Object;II)V" } : Jvm.MethodName)).before a0 Z = true := hw _ (oMem 108 rfl)
theorem Wd109 (hw : HW a0 Z) : (Jvm.Cond.stringLink "com/example/savepoint/savepoint/AnnotationLookup" (154 : Nat) " carries @Transactional, and ").before a0 Z = true := hw _ (oMem 109 rfl)
theorem Wd110 (hw : HW a0 Z) : (Jvm.Cond.methodLink "java/lang/AbstractStringBuilder" (104 : Nat) ({ cls := "java/lang/AbstractStringBuilder", name := "newCapacity", desc := "(I)I" } : Jvm.MethodName)).before a0 Z = true := hw _ (oMem 110 rfl)
theorem Wd111 (hw : HW a0 Z) : (Jvm.Cond.instanceMethod ({ cls := "java/lang/AbstractStringBuilder", name := "newCapacity", desc := "(I)I" } : Jvm.MethodName)).before a0 Z = true := hw _ (oMem 111 rfl)
theorem Wd112 (hw : HW a0 Z) : (Jvm.Cond.privateMethod ({ cls := "java/lang/AbstractStringBuilder", name := "newCapacity", desc := "(I)I" } : Jvm.MethodName)).before a0 Z = true := hw _ (oMem 112 rfl)
theorem Wd113 (hw : HW a0 Z) : (Jvm.Cond.selects "java/lang/StringBuilder" ({ cls := "java/lang/AbstractStringBuilder", name := "newCapacity", desc := "(I)I" } : Jvm.MethodName) ({ cls := "java/lang/AbstractStringBuilder", name := "newCapacity", desc := "(I)I" } : Jvm.MethodName)).before a0 Z = true := hw _ (oMem 113 rfl)
theorem Wd114 (hw : HW a0 Z) : (Jvm.Cond.code ({ cls := "java/lang/AbstractStringBuilder", name := "newCapacity", desc := "(I)I" } : Jvm.MethodName) jdk_68_method_10_code (6 : Nat) (Option.some Jvm.ClassFile.FieldType.int)).before a0 Z = true := hw _ (oMem 114 rfl)
theorem Wd115 (hw : HW a0 Z) : (Jvm.Cond.methodLink "java/lang/AbstractStringBuilder" (114 : Nat) ({ cls := "jdk/internal/util/ArraysSupport", name := "newLength", desc := "(III)I" } : Jvm.MethodName)).before a0 Z = true := hw _ (oMem 115 rfl)
theorem Wd116 (hw : HW a0 Z) : (Jvm.Cond.static ({ cls := "jdk/internal/util/ArraysSupport", name := "newLength", desc := "(III)I" } : Jvm.MethodName)).before a0 Z = true := hw _ (oMem 116 rfl)
theorem Wd117 (hw : HW a0 Z) : (Jvm.Cond.initialized "jdk/internal/util/ArraysSupport").before a0 Z = true := hw _ (oMem 117 rfl)
theorem Wd118 (hw : HW a0 Z) : (Jvm.Cond.code ({ cls := "jdk/internal/util/ArraysSupport", name := "newLength", desc := "(III)I" } : Jvm.MethodName) jdk_48_method_27_code (4 : Nat) (Option.some Jvm.ClassFile.FieldType.int)).before a0 Z = true := hw _ (oMem 118 rfl)
theorem Wd119 (hw : HW a0 Z) : (Jvm.Cond.methodLink "jdk/internal/util/ArraysSupport" (194 : Nat) ({ cls := "java/lang/Math", name := "max", desc := "(II)I" } : Jvm.MethodName)).before a0 Z = true := hw _ (oMem 119 rfl)
theorem Wd120 (hw : HW a0 Z) : (Jvm.Cond.static ({ cls := "java/lang/Math", name := "max", desc := "(II)I" } : Jvm.MethodName)).before a0 Z = true := hw _ (oMem 120 rfl)
theorem Wd121 (hw : HW a0 Z) : (Jvm.Cond.initialized "java/lang/Math").before a0 Z = true := hw _ (oMem 121 rfl)
theorem Wd122 (hw : HW a0 Z) : (Jvm.Cond.code ({ cls := "java/lang/Math", name := "max", desc := "(II)I" } : Jvm.MethodName) jdk_29_method_65_code (2 : Nat) (Option.some Jvm.ClassFile.FieldType.int)).before a0 Z = true := hw _ (oMem 122 rfl)
theorem Wd123 (hw : HW a0 Z) : (Jvm.Cond.constant "jdk/internal/util/ArraysSupport" (200 : Nat) (2147483639 : Int32)).before a0 Z = true := hw _ (oMem 123 rfl)
theorem Wd124 (hw : HW a0 Z) : (Jvm.Cond.constant "java/lang/AbstractStringBuilder" (39 : Nat) (2147483647 : Int32)).before a0 Z = true := hw _ (oMem 124 rfl)
theorem Wd125 (hw : HW a0 Z) : (Jvm.Cond.methodLink "java/lang/AbstractStringBuilder" (108 : Nat) ({ cls := "java/util/Arrays", name := "copyOf", desc := "([BI)[B" } : Jvm.MethodName)).before a0 Z = true := hw _ (oMem 125 rfl)
theorem Wd126 (hw : HW a0 Z) : (Jvm.Cond.static ({ cls := "java/util/Arrays", name := "copyOf", desc := "([BI)[B" } : Jvm.MethodName)).before a0 Z = true := hw _ (oMem 126 rfl)
theorem Wd127 (hw : HW a0 Z) : (Jvm.Cond.initialized "java/util/Arrays").before a0 Z = true := hw _ (oMem 127 rfl)
theorem Wd128 (hw : HW a0 Z) : (Jvm.Cond.code ({ cls := "java/util/Arrays", name := "copyOf", desc := "([BI)[B" } : Jvm.MethodName) jdk_65_method_121_code (3 : Nat) (Option.some (Jvm.ClassFile.FieldType.array Jvm.ClassFile.FieldType.byte))).before a0 Z = true := hw _ (oMem 128 rfl)
theorem Wd129 (hw : HW a0 Z) : (Jvm.Cond.methodLink "java/util/Arrays" (304 : Nat) ({ cls := "java/lang/Math", name := "min", desc := "(II)I" } : Jvm.MethodName)).before a0 Z = true := hw _ (oMem 129 rfl)
theorem Wd130 (hw : HW a0 Z) : (Jvm.Cond.static ({ cls := "java/lang/Math", name := "min", desc := "(II)I" } : Jvm.MethodName)).before a0 Z = true := hw _ (oMem 130 rfl)
theorem Wd131 (hw : HW a0 Z) : (Jvm.Cond.code ({ cls := "java/lang/Math", name := "min", desc := "(II)I" } : Jvm.MethodName) jdk_29_method_69_code (2 : Nat) (Option.some Jvm.ClassFile.FieldType.int)).before a0 Z = true := hw _ (oMem 131 rfl)
theorem Wd132 (hw : HW a0 Z) : (Jvm.Cond.methodLink "java/util/Arrays" (150 : Nat) ({ cls := "java/lang/System", name := "arraycopy", desc := "(Ljava/lang/Object;ILjava/lang/Object;II)V" } : Jvm.MethodName)).before a0 Z = true := hw _ (oMem 132 rfl)
theorem Wd133 (hw : HW a0 Z) : (Jvm.Cond.methodLink "com/example/savepoint/savepoint/AnnotationLookup" (156 : Nat) ({ cls := "com/example/savepoint/savepoint/AnnotationLookup", name := "couldNeverApply", desc := "(Ljava/lang/String;)Ljava/lang/String;" } : Jvm.MethodName)).before a0 Z = true := hw _ (oMem 133 rfl)
theorem Wd134 (hw : HW a0 Z) : (Jvm.Cond.static ({ cls := "com/example/savepoint/savepoint/AnnotationLookup", name := "couldNeverApply", desc := "(Ljava/lang/String;)Ljava/lang/String;" } : Jvm.MethodName)).before a0 Z = true := hw _ (oMem 134 rfl)
theorem Wd135 (hw : HW a0 Z) : (Jvm.Cond.code ({ cls := "com/example/savepoint/savepoint/AnnotationLookup", name := "couldNeverApply", desc := "(Ljava/lang/String;)Ljava/lang/String;" } : Jvm.MethodName) prog_1_method_6_code (1 : Nat) (Option.some (Jvm.ClassFile.FieldType.object "java/lang/String"))).before a0 Z = true := hw _ (oMem 135 rfl)
theorem Wd136 (hw : HW a0 Z) : (Jvm.Cond.stringLink "com/example/savepoint/savepoint/AnnotationLookup" (160 : Nat) (ownText 136)).before a0 Z = true := hw _ (oMem 136 rfl)
theorem Wd137 (hw : HW a0 Z) : (Jvm.Cond.stringLink "com/example/savepoint/savepoint/AnnotationLookup" (162 : Nat) (ownText 137)).before a0 Z = true := hw _ (oMem 137 rfl)
theorem Wd138 (hw : HW a0 Z) : (Jvm.Cond.methodLink "com/example/savepoint/savepoint/AnnotationLookup" (137 : Nat) ({ cls := "java/lang/StringBuilder", name := "toString", desc := "()Ljava/lang/String;" } : Jvm.MethodName)).before a0 Z = true := hw _ (oMem 138 rfl)
theorem Wd139 (hw : HW a0 Z) : (Jvm.Cond.declares ({ cls := "java/lang/StringBuilder", name := "toString", desc := "()Ljava/lang/String;" } : Jvm.MethodName)).before a0 Z = true := hw _ (oMem 139 rfl)
theorem Wd140 (hw : HW a0 Z) : (Jvm.Cond.instanceMethod ({ cls := "java/lang/StringBuilder", name := "toString", desc := "()Ljava/lang/String;" } : Jvm.MethodName)).before a0 Z = true := hw _ (oMem 140 rfl)
theorem Wd141 (hw : HW a0 Z) : (Jvm.Cond.selects "java/lang/StringBuilder" ({ cls := "java/lang/StringBuilder", name := "toString", desc := "()Ljava/lang/String;" } : Jvm.MethodName) ({ cls := "java/lang/StringBuilder", name := "toString", desc := "()Ljava/lang/String;" } : Jvm.MethodName)).before a0 Z = true := hw _ (oMem 141 rfl)
theorem Wd142 (hw : HW a0 Z) : (Jvm.Cond.code ({ cls := "java/lang/StringBuilder", name := "toString", desc := "()Ljava/lang/String;" } : Jvm.MethodName) jdk_67_method_42_code (1 : Nat) (Option.some (Jvm.ClassFile.FieldType.object "java/lang/String"))).before a0 Z = true := hw _ (oMem 142 rfl)
theorem Wd143 (hw : HW a0 Z) : (Jvm.Cond.classLink "java/lang/StringBuilder" (18 : Nat) "java/lang/String").before a0 Z = true := hw _ (oMem 143 rfl)
theorem Wd144 (hw : HW a0 Z) : (Jvm.Cond.methodLink "java/lang/StringBuilder" (137 : Nat) ({ cls := "java/lang/String", name := "<init>", desc := "(Ljava/lang/StringBuilder;)V" } : Jvm.MethodName)).before a0 Z = true := hw _ (oMem 144 rfl)
theorem Wd145 (hw : HW a0 Z) : (Jvm.Cond.instanceMethod ({ cls := "java/lang/String", name := "<init>", desc := "(Ljava/lang/StringBuilder;)V" } : Jvm.MethodName)).before a0 Z = true := hw _ (oMem 145 rfl)
theorem Wd146 (hw : HW a0 Z) : (Jvm.Cond.code ({ cls := "java/lang/String", name := "<init>", desc := "(Ljava/lang/StringBuilder;)V" } : Jvm.MethodName) jdk_42_method_53_code (2 : Nat) (Option.none : Option Jvm.ClassFile.FieldType)).before a0 Z = true := hw _ (oMem 146 rfl)
theorem Wd147 (hw : HW a0 Z) : (Jvm.Cond.methodLink "java/lang/String" (489 : Nat) ({ cls := "java/lang/String", name := "<init>", desc := "(Ljava/lang/AbstractStringBuilder;Ljava/lang/Void;)V" } : Jvm.MethodName)).before a0 Z = true := hw _ (oMem 147 rfl)
theorem Wd148 (hw : HW a0 Z) : (Jvm.Cond.instanceMethod ({ cls := "java/lang/String", name := "<init>", desc := "(Ljava/lang/AbstractStringBuilder;Ljava/lang/Void;)V" } : Jvm.MethodName)).before a0 Z = true := hw _ (oMem 148 rfl)
theorem Wd149 (hw : HW a0 Z) : (Jvm.Cond.code ({ cls := "java/lang/String", name := "<init>", desc := "(Ljava/lang/AbstractStringBuilder;Ljava/lang/Void;)V" } : Jvm.MethodName) jdk_42_method_150_code (5 : Nat) (Option.none : Option Jvm.ClassFile.FieldType)).before a0 Z = true := hw _ (oMem 149 rfl)
theorem Wd150 (hw : HW a0 Z) : (Jvm.Cond.methodLink "java/lang/String" (552 : Nat) ({ cls := "java/lang/AbstractStringBuilder", name := "getValue", desc := "()[B" } : Jvm.MethodName)).before a0 Z = true := hw _ (oMem 150 rfl)
theorem Wd151 (hw : HW a0 Z) : (Jvm.Cond.declares ({ cls := "java/lang/AbstractStringBuilder", name := "getValue", desc := "()[B" } : Jvm.MethodName)).before a0 Z = true := hw _ (oMem 151 rfl)
theorem Wd152 (hw : HW a0 Z) : (Jvm.Cond.instanceMethod ({ cls := "java/lang/AbstractStringBuilder", name := "getValue", desc := "()[B" } : Jvm.MethodName)).before a0 Z = true := hw _ (oMem 152 rfl)
theorem Wd153 (hw : HW a0 Z) : (Jvm.Cond.selects "java/lang/StringBuilder" ({ cls := "java/lang/AbstractStringBuilder", name := "getValue", desc := "()[B" } : Jvm.MethodName) ({ cls := "java/lang/AbstractStringBuilder", name := "getValue", desc := "()[B" } : Jvm.MethodName)).before a0 Z = true := hw _ (oMem 153 rfl)
theorem Wd154 (hw : HW a0 Z) : (Jvm.Cond.code ({ cls := "java/lang/AbstractStringBuilder", name := "getValue", desc := "()[B" } : Jvm.MethodName) jdk_68_method_64_code (1 : Nat) (Option.some (Jvm.ClassFile.FieldType.array Jvm.ClassFile.FieldType.byte))).before a0 Z = true := hw _ (oMem 154 rfl)
theorem Wd155 (hw : HW a0 Z) : (Jvm.Cond.methodLink "java/lang/String" (549 : Nat) ({ cls := "java/lang/AbstractStringBuilder", name := "length", desc := "()I" } : Jvm.MethodName)).before a0 Z = true := hw _ (oMem 155 rfl)
theorem Wd156 (hw : HW a0 Z) : (Jvm.Cond.declares ({ cls := "java/lang/AbstractStringBuilder", name := "length", desc := "()I" } : Jvm.MethodName)).before a0 Z = true := hw _ (oMem 156 rfl)
theorem Wd157 (hw : HW a0 Z) : (Jvm.Cond.instanceMethod ({ cls := "java/lang/AbstractStringBuilder", name := "length", desc := "()I" } : Jvm.MethodName)).before a0 Z = true := hw _ (oMem 157 rfl)
theorem Wd158 (hw : HW a0 Z) : (Jvm.Cond.selects "java/lang/StringBuilder" ({ cls := "java/lang/AbstractStringBuilder", name := "length", desc := "()I" } : Jvm.MethodName) ({ cls := "java/lang/StringBuilder", name := "length", desc := "()I" } : Jvm.MethodName)).before a0 Z = true := hw _ (oMem 158 rfl)
theorem Wd159 (hw : HW a0 Z) : (Jvm.Cond.instanceMethod ({ cls := "java/lang/StringBuilder", name := "length", desc := "()I" } : Jvm.MethodName)).before a0 Z = true := hw _ (oMem 159 rfl)
theorem Wd160 (hw : HW a0 Z) : (Jvm.Cond.code ({ cls := "java/lang/StringBuilder", name := "length", desc := "()I" } : Jvm.MethodName) jdk_67_method_93_code (1 : Nat) (Option.some Jvm.ClassFile.FieldType.int)).before a0 Z = true := hw _ (oMem 160 rfl)
theorem Wd161 (hw : HW a0 Z) : (Jvm.Cond.methodLink "java/lang/StringBuilder" (343 : Nat) ({ cls := "java/lang/AbstractStringBuilder", name := "length", desc := "()I" } : Jvm.MethodName)).before a0 Z = true := hw _ (oMem 161 rfl)
theorem Wd162 (hw : HW a0 Z) : (Jvm.Cond.code ({ cls := "java/lang/AbstractStringBuilder", name := "length", desc := "()I" } : Jvm.MethodName) jdk_68_method_6_code (1 : Nat) (Option.some Jvm.ClassFile.FieldType.int)).before a0 Z = true := hw _ (oMem 162 rfl)
theorem Wd163 (hw : HW a0 Z) : (Jvm.Cond.methodLink "java/lang/String" (1047 : Nat) ({ cls := "java/lang/AbstractStringBuilder", name := "isLatin1", desc := "()Z" } : Jvm.MethodName)).before a0 Z = true := hw _ (oMem 163 rfl)
theorem Wd164 (hw : HW a0 Z) : (Jvm.Cond.declares ({ cls := "java/lang/AbstractStringBuilder", name := "isLatin1", desc := "()Z" } : Jvm.MethodName)).before a0 Z = true := hw _ (oMem 164 rfl)
theorem Wd165 (hw : HW a0 Z) : (Jvm.Cond.instanceMethod ({ cls := "java/lang/AbstractStringBuilder", name := "isLatin1", desc := "()Z" } : Jvm.MethodName)).before a0 Z = true := hw _ (oMem 165 rfl)
theorem Wd166 (hw : HW a0 Z) : (Jvm.Cond.selects "java/lang/StringBuilder" ({ cls := "java/lang/AbstractStringBuilder", name := "isLatin1", desc := "()Z" } : Jvm.MethodName) ({ cls := "java/lang/AbstractStringBuilder", name := "isLatin1", desc := "()Z" } : Jvm.MethodName)).before a0 Z = true := hw _ (oMem 166 rfl)
theorem Wd167 (hw : HW a0 Z) : (Jvm.Cond.code ({ cls := "java/lang/AbstractStringBuilder", name := "isLatin1", desc := "()Z" } : Jvm.MethodName) jdk_68_method_68_code (1 : Nat) (Option.some Jvm.ClassFile.FieldType.boolean)).before a0 Z = true := hw _ (oMem 167 rfl)
theorem Wd168 (hw : HW a0 Z) : (Jvm.Cond.methodLink "java/lang/String" (54 : Nat) ({ cls := "java/util/Arrays", name := "copyOfRange", desc := "([BII)[B" } : Jvm.MethodName)).before a0 Z = true := hw _ (oMem 168 rfl)
theorem Wd169 (hw : HW a0 Z) : (Jvm.Cond.static ({ cls := "java/util/Arrays", name := "copyOfRange", desc := "([BII)[B" } : Jvm.MethodName)).before a0 Z = true := hw _ (oMem 169 rfl)
theorem Wd170 (hw : HW a0 Z) : (Jvm.Cond.code ({ cls := "java/util/Arrays", name := "copyOfRange", desc := "([BII)[B" } : Jvm.MethodName) jdk_65_method_132_code (3 : Nat) (Option.some (Jvm.ClassFile.FieldType.array Jvm.ClassFile.FieldType.byte))).before a0 Z = true := hw _ (oMem 170 rfl)
theorem Wd171 (hw : HW a0 Z) : (Jvm.Cond.methodLink "java/util/Arrays" (339 : Nat) ({ cls := "java/util/Arrays", name := "copyOfRangeByte", desc := "([BII)[B" } : Jvm.MethodName)).before a0 Z = true := hw _ (oMem 171 rfl)
theorem Wd172 (hw : HW a0 Z) : (Jvm.Cond.static ({ cls := "java/util/Arrays", name := "copyOfRangeByte", desc := "([BII)[B" } : Jvm.MethodName)).before a0 Z = true := hw _ (oMem 172 rfl)
theorem Wd173 (hw : HW a0 Z) : (Jvm.Cond.code ({ cls := "java/util/Arrays", name := "copyOfRangeByte", desc := "([BII)[B" } : Jvm.MethodName) jdk_65_method_133_code (5 : Nat) (Option.some (Jvm.ClassFile.FieldType.array Jvm.ClassFile.FieldType.byte))).before a0 Z = true := hw _ (oMem 173 rfl)
theorem Wd174 (hw : HW a0 Z) : (Jvm.Cond.methodLink "java/util/Arrays" (343 : Nat) ({ cls := "java/util/Arrays", name := "checkLength", desc := "(II)V" } : Jvm.MethodName)).before a0 Z = true := hw _ (oMem 174 rfl)
theorem Wd175 (hw : HW a0 Z) : (Jvm.Cond.static ({ cls := "java/util/Arrays", name := "checkLength", desc := "(II)V" } : Jvm.MethodName)).before a0 Z = true := hw _ (oMem 175 rfl)
theorem Wd176 (hw : HW a0 Z) : (Jvm.Cond.code ({ cls := "java/util/Arrays", name := "checkLength", desc := "(II)V" } : Jvm.MethodName) jdk_65_method_131_code (2 : Nat) (Option.none : Option Jvm.ClassFile.FieldType)).before a0 Z = true := hw _ (oMem 176 rfl)
theorem Wd177 (hw : HW a0 Z) : (Jvm.Cond.methodLink "java/util/Arrays" (310 : Nat) ({ cls := "[B", name := "clone", desc := "()Ljava/lang/Object;" } : Jvm.MethodName)).before a0 Z = true := hw _ (oMem 177 rfl)
theorem Wd178 (hw : HW a0 Z) : (Jvm.Cond.sameMethod "[B" "java/lang/Object" "clone" "()Ljava/lang/Object;").before a0 Z = true := hw _ (oMem 178 rfl)
theorem Wd180 (hw : HW a0 Z) : (Jvm.Cond.instanceMethod ({ cls := "java/lang/Object", name := "clone", desc := "()Ljava/lang/Object;" } : Jvm.MethodName)).before a0 Z = true := hw _ (oMem 180 rfl)
theorem Wd181 (hw : HW a0 Z) : (Jvm.Cond.selects "[B" ({ cls := "[B", name := "clone", desc := "()Ljava/lang/Object;" } : Jvm.MethodName) ({ cls := "java/lang/Object", name := "clone", desc := "()Ljava/lang/Object;" } : Jvm.MethodName)).before a0 Z = true := hw _ (oMem 181 rfl)
theorem Wd182 (hw : HW a0 Z) : (Jvm.Cond.native ({ cls := "java/lang/Object", name := "clone", desc := "()Ljava/lang/Object;" } : Jvm.MethodName)).before a0 Z = true := hw _ (oMem 182 rfl)
theorem Wd183 (hw : HW a0 Z) : (Jvm.Cond.castable "[B" "java/lang/Cloneable").before a0 Z = true := hw _ (oMem 183 rfl)
theorem Wd184 (hw : HW a0 Z) : (Jvm.Cond.classLink "java/util/Arrays" (311 : Nat) "[B").before a0 Z = true := hw _ (oMem 184 rfl)
theorem Wd186 (hw : HW a0 Z) : (Jvm.Cond.stringLink "com/example/savepoint/savepoint/AnnotationLookupNeverAppliesPinLaw" (21 : Nat) (ownText 186)).before a0 Z = true := hw _ (oMem 186 rfl)
theorem Wd187 (hw : HW a0 Z) : (Jvm.Cond.methodLink "com/example/savepoint/savepoint/AnnotationLookupNeverAppliesPinLaw" (23 : Nat) ({ cls := "java/lang/String", name := "equals", desc := "(Ljava/lang/Object;)Z" } : Jvm.MethodName)).before a0 Z = true := hw _ (oMem 187 rfl)
theorem Wd188 (hw : HW a0 Z) : (Jvm.Cond.declares ({ cls := "java/lang/String", name := "equals", desc := "(Ljava/lang/Object;)Z" } : Jvm.MethodName)).before a0 Z = true := hw _ (oMem 188 rfl)
theorem Wd189 (hw : HW a0 Z) : (Jvm.Cond.instanceMethod ({ cls := "java/lang/String", name := "equals", desc := "(Ljava/lang/Object;)Z" } : Jvm.MethodName)).before a0 Z = true := hw _ (oMem 189 rfl)
theorem Wd190 (hw : HW a0 Z) : (Jvm.Cond.selects "java/lang/String" ({ cls := "java/lang/String", name := "equals", desc := "(Ljava/lang/Object;)Z" } : Jvm.MethodName) ({ cls := "java/lang/String", name := "equals", desc := "(Ljava/lang/Object;)Z" } : Jvm.MethodName)).before a0 Z = true := hw _ (oMem 190 rfl)
theorem Wd195 (hw : HW a0 Z) : (Jvm.Cond.initialized "java/lang/StringLatin1").before a0 Z = true := hw _ (oMem 195 rfl)
theorem Wd197 (hw : HW a0 Z) : (Jvm.Cond.methodLink "com/example/savepoint/savepoint/AnnotationLookupNeverAppliesPinLaw" (29 : Nat) ({ cls := "java/lang/String", name := "length", desc := "()I" } : Jvm.MethodName)).before a0 Z = true := hw _ (oMem 197 rfl)
theorem Wd198 (hw : HW a0 Z) : (Jvm.Cond.methodLink "com/example/savepoint/savepoint/AnnotationLookupNeverAppliesPinLaw" (33 : Nat) ({ cls := "com/example/savepoint/savepoint/AnnotationLookupNeverAppliesPinLaw", name := "drawnAt", desc := "(Ljava/lang/String;III)Z" } : Jvm.MethodName)).before a0 Z = true := hw _ (oMem 198 rfl)
theorem Wd199 (hw : HW a0 Z) : (Jvm.Cond.static ({ cls := "com/example/savepoint/savepoint/AnnotationLookupNeverAppliesPinLaw", name := "drawnAt", desc := "(Ljava/lang/String;III)Z" } : Jvm.MethodName)).before a0 Z = true := hw _ (oMem 199 rfl)
theorem Wd200 (hw : HW a0 Z) : (Jvm.Cond.code ({ cls := "com/example/savepoint/savepoint/AnnotationLookupNeverAppliesPinLaw", name := "drawnAt", desc := "(Ljava/lang/String;III)Z" } : Jvm.MethodName) method_5_code (4 : Nat) (Option.some Jvm.ClassFile.FieldType.boolean)).before a0 Z = true := hw _ (oMem 200 rfl)
theorem Wd201 (hw : HW a0 Z) : (Jvm.Cond.methodLink "com/example/savepoint/savepoint/AnnotationLookupNeverAppliesPinLaw" (37 : Nat) ({ cls := "java/lang/String", name := "charAt", desc := "(I)C" } : Jvm.MethodName)).before a0 Z = true := hw _ (oMem 201 rfl)
theorem Wd202 (hw : HW a0 Z) : (Jvm.Cond.declares ({ cls := "java/lang/String", name := "charAt", desc := "(I)C" } : Jvm.MethodName)).before a0 Z = true := hw _ (oMem 202 rfl)
theorem Wd203 (hw : HW a0 Z) : (Jvm.Cond.instanceMethod ({ cls := "java/lang/String", name := "charAt", desc := "(I)C" } : Jvm.MethodName)).before a0 Z = true := hw _ (oMem 203 rfl)
theorem Wd204 (hw : HW a0 Z) : (Jvm.Cond.selects "java/lang/String" ({ cls := "java/lang/String", name := "charAt", desc := "(I)C" } : Jvm.MethodName) ({ cls := "java/lang/String", name := "charAt", desc := "(I)C" } : Jvm.MethodName)).before a0 Z = true := hw _ (oMem 204 rfl)
theorem Wd205 (hw : HW a0 Z) : (Jvm.Cond.code ({ cls := "java/lang/String", name := "charAt", desc := "(I)C" } : Jvm.MethodName) jdk_42_method_56_code (2 : Nat) (Option.some Jvm.ClassFile.FieldType.char)).before a0 Z = true := hw _ (oMem 205 rfl)
theorem Wd206 (hw : HW a0 Z) : (Jvm.Cond.methodLink "java/lang/String" (492 : Nat) ({ cls := "java/lang/String", name := "isLatin1", desc := "()Z" } : Jvm.MethodName)).before a0 Z = true := hw _ (oMem 206 rfl)
theorem Wd207 (hw : HW a0 Z) : (Jvm.Cond.declares ({ cls := "java/lang/String", name := "isLatin1", desc := "()Z" } : Jvm.MethodName)).before a0 Z = true := hw _ (oMem 207 rfl)
theorem Wd208 (hw : HW a0 Z) : (Jvm.Cond.instanceMethod ({ cls := "java/lang/String", name := "isLatin1", desc := "()Z" } : Jvm.MethodName)).before a0 Z = true := hw _ (oMem 208 rfl)
theorem Wd209 (hw : HW a0 Z) : (Jvm.Cond.selects "java/lang/String" ({ cls := "java/lang/String", name := "isLatin1", desc := "()Z" } : Jvm.MethodName) ({ cls := "java/lang/String", name := "isLatin1", desc := "()Z" } : Jvm.MethodName)).before a0 Z = true := hw _ (oMem 209 rfl)
theorem Wd210 (hw : HW a0 Z) : (Jvm.Cond.code ({ cls := "java/lang/String", name := "isLatin1", desc := "()Z" } : Jvm.MethodName) jdk_42_method_154_code (1 : Nat) (Option.some Jvm.ClassFile.FieldType.boolean)).before a0 Z = true := hw _ (oMem 210 rfl)
theorem Wd211 (hw : HW a0 Z) : (Jvm.Cond.methodLink "java/lang/String" (495 : Nat) ({ cls := "java/lang/StringLatin1", name := "charAt", desc := "([BI)C" } : Jvm.MethodName)).before a0 Z = true := hw _ (oMem 211 rfl)
theorem Wd212 (hw : HW a0 Z) : (Jvm.Cond.static ({ cls := "java/lang/StringLatin1", name := "charAt", desc := "([BI)C" } : Jvm.MethodName)).before a0 Z = true := hw _ (oMem 212 rfl)
theorem Wd213 (hw : HW a0 Z) : (Jvm.Cond.code ({ cls := "java/lang/StringLatin1", name := "charAt", desc := "([BI)C" } : Jvm.MethodName) jdk_43_method_2_code (2 : Nat) (Option.some Jvm.ClassFile.FieldType.char)).before a0 Z = true := hw _ (oMem 213 rfl)
theorem Wd214 (hw : HW a0 Z) : (Jvm.Cond.methodLink "java/lang/StringLatin1" (9 : Nat) ({ cls := "java/lang/String", name := "checkIndex", desc := "(II)V" } : Jvm.MethodName)).before a0 Z = true := hw _ (oMem 214 rfl)
theorem Wd215 (hw : HW a0 Z) : (Jvm.Cond.static ({ cls := "java/lang/String", name := "checkIndex", desc := "(II)V" } : Jvm.MethodName)).before a0 Z = true := hw _ (oMem 215 rfl)
theorem Wd216 (hw : HW a0 Z) : (Jvm.Cond.code ({ cls := "java/lang/String", name := "checkIndex", desc := "(II)V" } : Jvm.MethodName) jdk_42_method_155_code (2 : Nat) (Option.none : Option Jvm.ClassFile.FieldType)).before a0 Z = true := hw _ (oMem 216 rfl)
theorem Wd217 (hw : HW a0 Z) : (Jvm.Cond.fieldLink "java/lang/String" (1053 : Nat) "jdk/internal/util/Preconditions" "SIOOBE_FORMATTER" "Ljava/util/function/BiFunction;").before a0 Z = true := hw _ (oMem 217 rfl)
theorem Wd218 (hw : HW a0 Z) : (Jvm.Cond.initialized "jdk/internal/util/Preconditions").before a0 Z = true := hw _ (oMem 218 rfl)
theorem Wd219 (hw : HW a0 Z) : (Jvm.Cond.methodLink "java/lang/String" (1059 : Nat) ({ cls := "jdk/internal/util/Preconditions", name := "checkIndex", desc := "(IILjava/util/function/BiFunction;)I" } : Jvm.MethodName)).before a0 Z = true := hw _ (oMem 219 rfl)
theorem Wd220 (hw : HW a0 Z) : (Jvm.Cond.static ({ cls := "jdk/internal/util/Preconditions", name := "checkIndex", desc := "(IILjava/util/function/BiFunction;)I" } : Jvm.MethodName)).before a0 Z = true := hw _ (oMem 220 rfl)
theorem Wd221 (hw : HW a0 Z) : (Jvm.Cond.code ({ cls := "jdk/internal/util/Preconditions", name := "checkIndex", desc := "(IILjava/util/function/BiFunction;)I" } : Jvm.MethodName) jdk_41_method_11_code (3 : Nat) (Option.some Jvm.ClassFile.FieldType.int)).before a0 Z = true := hw _ (oMem 221 rfl)
end Words
abbrev yM0 : MethodName := ⟨"java/lang/String", "coder", "()B"⟩
abbrev yM1 : MethodName := ⟨"java/lang/String", "isLatin1", "()Z"⟩
abbrev yM2 : MethodName := ⟨"java/lang/String", "length", "()I"⟩
abbrev yM3 : MethodName := ⟨"jdk/internal/util/Preconditions", "checkIndex", "(IILjava/util/function/BiFunction;)I"⟩
abbrev yM4 : MethodName := ⟨"java/lang/String", "checkIndex", "(II)V"⟩
abbrev yM5 : MethodName := ⟨"java/lang/StringLatin1", "charAt", "([BI)C"⟩
abbrev yM6 : MethodName := ⟨"java/lang/String", "charAt", "(I)C"⟩
abbrev yM7 : MethodName := ⟨"java/lang/AbstractStringBuilder", "<init>", "(I)V"⟩
abbrev yM8 : MethodName := ⟨"java/lang/StringBuilder", "<init>", "()V"⟩
abbrev yM9 : MethodName := ⟨"java/lang/String", "getBytes", "([BIB)V"⟩
abbrev yM10 : MethodName := ⟨"java/lang/AbstractStringBuilder", "inflateIfNeededFor", "(Ljava/lang/String;)V"⟩
abbrev yM11 : MethodName := ⟨"java/lang/AbstractStringBuilder", "ensureCapacityInternal", "(I)V"⟩
abbrev yM12 : MethodName := ⟨"java/lang/AbstractStringBuilder", "putStringAt", "(ILjava/lang/String;)V"⟩
abbrev yM13 : MethodName := ⟨"java/lang/AbstractStringBuilder", "append", "(Ljava/lang/String;)Ljava/lang/AbstractStringBuilder;"⟩
abbrev yM14 : MethodName := ⟨"java/lang/StringBuilder", "append", "(Ljava/lang/String;)Ljava/lang/StringBuilder;"⟩
abbrev yM15 : MethodName := ⟨"java/lang/AbstractStringBuilder", "isLatin1", "()Z"⟩
abbrev yM16 : MethodName := ⟨"java/lang/Math", "max", "(II)I"⟩
abbrev yM17 : MethodName := ⟨"jdk/internal/util/ArraysSupport", "newLength", "(III)I"⟩
abbrev yM18 : MethodName := ⟨"java/lang/AbstractStringBuilder", "newCapacity", "(I)I"⟩
abbrev yM19 : MethodName := ⟨"java/lang/Math", "min", "(II)I"⟩
abbrev yM20 : MethodName := ⟨"java/util/Arrays", "copyOf", "([BI)[B"⟩
abbrev yM21 : MethodName := ⟨"java/lang/AbstractStringBuilder", "getValue", "()[B"⟩
abbrev yM22 : MethodName := ⟨"java/lang/AbstractStringBuilder", "length", "()I"⟩
abbrev yM23 : MethodName := ⟨"java/lang/StringBuilder", "length", "()I"⟩
abbrev yM24 : MethodName := ⟨"java/util/Arrays", "checkLength", "(II)V"⟩
abbrev yM25 : MethodName := ⟨"java/util/Arrays", "copyOfRangeByte", "([BII)[B"⟩
abbrev yM26 : MethodName := ⟨"java/util/Arrays", "copyOfRange", "([BII)[B"⟩
abbrev yM27 : MethodName := ⟨"java/lang/String", "<init>", "(Ljava/lang/AbstractStringBuilder;Ljava/lang/Void;)V"⟩
abbrev yM28 : MethodName := ⟨"java/lang/String", "<init>", "(Ljava/lang/StringBuilder;)V"⟩
abbrev yM29 : MethodName := ⟨"java/lang/StringBuilder", "toString", "()Ljava/lang/String;"⟩
abbrev yM30 : MethodName := ⟨"com/example/savepoint/savepoint/AnnotationLookupNeverAppliesPinLaw", "ch", "(II)C"⟩
abbrev yM31 : MethodName := ⟨"com/example/savepoint/savepoint/AnnotationLookupNeverAppliesPinLaw", "draw", "(II)Ljava/lang/String;"⟩
abbrev yM32 : MethodName := ⟨"java/lang/String", "<init>", "([C)V"⟩
abbrev yM33 : MethodName := ⟨"com/example/savepoint/savepoint/AnnotationLookupNeverAppliesPinLaw", "drawnAt", "(Ljava/lang/String;III)Z"⟩
abbrev yM34 : MethodName := ⟨"com/example/savepoint/savepoint/AnnotationLookup", "couldNeverApply", "(Ljava/lang/String;)Ljava/lang/String;"⟩
abbrev yM35 : MethodName := ⟨"com/example/savepoint/savepoint/AnnotationLookup", "neverApplies", "(Ljava/lang/String;Ljava/lang/String;Ljava/lang/String;)Ljava/lang/String;"⟩
abbrev yM36 : MethodName := ⟨"java/lang/String", "equals", "(Ljava/lang/Object;)Z"⟩
/-- the run comes from A to a state with P -/
def ownG (tb : Tables) (e : Env) (below : List Frame) (P : State → Prop) (A : State) : Prop := ∃ t, Steps tb e below A t ∧ P t
theorem ownBy {tb : Tables} {e : Env} {below : List Frame} {P : State → Prop} {A B : State} (st : ∀ t, Steps tb e below A t → Steps tb e below B t) (k : ownG tb e below P A) : ownG tb e below P B := by
  obtain ⟨t, h, q⟩ := k
  exact ⟨t, st t h, q⟩
theorem ownSt {tb : Tables} {e : Env} {below : List Frame} {P : State → Prop} {A B : State} (st : Steps tb e below B A) (k : ownG tb e below P A) : ownG tb e below P B := by
  obtain ⟨t, h, q⟩ := k
  exact ⟨t, st.trans h, q⟩
def ownE (s : State) (below : List Frame) (Q : Option Value → Heap → List Loc → Prop) (k n : Nat) (t : State) : Prop := t.status = .running ∧ ∃ v L, Ended t below (.returned v) ∧ Q v t.heap L ∧ FrameEnd s (.returned v) t L k n
def ownEH (s : State) (below : List Frame) (Q : Option Value → Heap → List Loc → Prop) (Z : State) (EL : List (String × Nat)) (h0 : Heap) (k n : Nat) (t : State) : Prop := t.status = .running ∧ ∃ v L, Ended t below (.returned v) ∧ Q v t.heap L ∧ CHr Z EL s.vm h0 t.vm t.heap ∧ ReturnedEndW s (.returned v) t L k n
theorem ownOut {tb : Tables} {e : Env} {below : List Frame} {P : Option Value → Heap → List Loc → Prop} {s A : State} {k n : Nat} (g : ownG tb e below (ownE s below P k n) A) :
    ∃ s₂ o, Steps tb e below A s₂ ∧ s₂.status = .running ∧ Ended s₂ below o ∧ ∃ v L, o = .returned v ∧ P v s₂.heap L ∧ FrameEnd s o s₂ L k n := by
  obtain ⟨t, h, r, v, L, e1, q, f⟩ := g
  exact ⟨t, _, h, r, e1, v, L, rfl, q, f⟩
theorem ownOutH {tb : Tables} {e : Env} {below : List Frame} {P : Option Value → Heap → List Loc → Prop} {s A Z : State} {EL : List (String × Nat)} {h0 : Heap} {k n : Nat} (hh : s.heap = h0) (g : ownG tb e below (ownEH s below P Z EL h0 k n) A) :
    ∃ s₂ o, Steps tb e below A s₂ ∧ s₂.status = .running ∧ Ended s₂ below o ∧ ∃ v L, o = .returned v ∧ P v s₂.heap L ∧ CHr Z EL s.vm s.heap s₂.vm s₂.heap ∧ ReturnedEndW s o s₂ L k n := by
  subst hh
  obtain ⟨t, h, r, v, L, e1, q, c, f⟩ := g
  exact ⟨t, _, h, r, e1, v, L, rfl, q, c, f⟩
theorem ownRet {p : Program} {l : Launch} {e : Env} {R : Room} {s : State} {m : MethodId} {args : Array Value} {below : List Frame} {meth : Method} {c : Code} {T A : State} {locs : List Loc} {cells slots k n : Nat} {P : Option Value → Heap → List Loc → Prop}
    (X : Stand p l e R s m args below meth c T locs cells slots) (hlk : meth.locks = false) {v : Option Value} (hv : meth.sig.returnType = none → v = none) (hQ : P v T.heap locs) (hk : cells ≤ k) (hn : slots ≤ n)
    (st : ∀ fs, (∀ (f : JFrame) (acts : List Action), f.method = m → f.locked = none → f.entered = [] → (doReturn e (T.setTop f) acts v).1 = T.setFrames fs) → Steps p.tables e below A (T.setFrames fs)) :
    ownG p.tables e below (ownE s below P k n) A := by
  obtain ⟨fs, hr, hrun, hended, hW, hsame⟩ := X.leave hv hlk
  exact ⟨_, st fs hr, hrun, v, locs, hended, hQ, ⟨_, rfl⟩, hW, hsame.mono hk hn⟩
theorem ownRetH {p : Program} {l : Launch} {e : Env} {R : Room} {s : State} {m : MethodId} {args : Array Value} {below : List Frame} {meth : Method} {c : Code} {T A Z : State} {EL : List (String × Nat)} {h0 : Heap} {locs : List Loc} {cells slots k n k1 : Nat} {vm1 : Vm} {P : Option Value → Heap → List Loc → Prop}
    (X : Stand p l e R (s.setVm vm1) m args below meth c T locs cells slots) (hS : s.Since vm1 k1) (hk1 : k1 ≤ T.heap.size) (hlk : meth.locks = false) {v : Option Value} (hv : meth.sig.returnType = none → v = none) (hQ : P v T.heap locs) (hC : CHr Z EL s.vm h0 T.vm T.heap) (hk : cells ≤ k) (hn : slots ≤ n)
    (st : ∀ fs, (∀ (f : JFrame) (acts : List Action), f.method = m → f.locked = none → f.entered = [] → (doReturn e (T.setTop f) acts v).1 = T.setFrames fs) → Steps p.tables e below A (T.setFrames fs)) :
    ownG p.tables e below (ownEH s below P Z EL h0 k n) A := by
  obtain ⟨fs, hr, hrun, hended, hR⟩ := X.leaveW hS hk1 hv hlk
  exact ⟨_, st fs hr, hrun, v, locs, hended, hQ, hC, hR.1, hR.2.1, hR.2.2.1, hR.2.2.2.mono hk hn⟩
theorem own_since {s : State} {n : Nat} : s.Since s.vm n := (State.WarmedH.refl s).since n
theorem own_cat {v : Value} (h : v.isRef = true) : v.category = 1 := by cases v <;> simp_all [Value.isRef, Value.category]
theorem own_narrow {t : FieldType} {v : Value} (ht : t.isReference = true) (h : v.isRef = true) : narrow t v = v := by
  rcases ref_cases h with rfl | ⟨a, rfl⟩ <;> cases t <;> simp_all [narrow, FieldType.isReference]
theorem own_fits {t : FieldType} {v : Value} (ht : t.isReference = true) (h : v.isRef = true) : fits t v = true := by
  rcases ref_cases h with rfl | ⟨a, rfl⟩ <;> cases t <;> simp_all [fits, FieldType.isReference]
theorem own_and255 (x : Int32) : ¬ nar .char ((x &&& (255 : Int32)).toUInt32.toUInt16.toUInt32.toInt32) < 0 ∧ ¬ (255 : Int32) < nar .char ((x &&& (255 : Int32)).toUInt32.toUInt16.toUInt32.toInt32) := by
  have t : ∀ k : Fin 256, ¬ nar .char ((Int32.ofNat k.val).toUInt32.toUInt16.toUInt32.toInt32) < 0 ∧ ¬ (255 : Int32) < nar .char ((Int32.ofNat k.val).toUInt32.toUInt16.toUInt32.toInt32) := by decide +kernel
  have h : (x &&& 255).toBitVec.toNat < 256 := by
    simp only [Int32.toBitVec_and, BitVec.toNat_and]
    exact Nat.lt_succ_of_le Nat.and_le_right
  have e : (x &&& 255) = Int32.ofNat (x &&& 255).toBitVec.toNat := by
    apply Int32.toBitVec_inj.mp
    show _ = BitVec.ofNat 32 _
    rw [BitVec.ofNat_toNat]; simp
  rw [e]
  exact t ⟨_, h⟩
theorem own_up (cs : List Int32) (h : ∀ c ∈ cs, ¬ c < 0 ∧ ¬ (255 : Int32) < c) : ∀ c ∈ cs, ¬ c < 0 ∧ ¬ (65535 : Int32) < c := fun c hc => ⟨(h c hc).1, fun q => (h c hc).2 (by rw [Int32.lt_iff_toInt_lt] at q ⊢; have e1 : (65535 : Int32).toInt = 65535 := rfl; have e2 : (255 : Int32).toInt = 255 := rfl; omega)⟩
theorem own_nz {args : Array Value} {s : State} {t : Jvm.Term} {g : Int32} (e : t.eval args s none [] s = some (.int g)) (h : (Jvm.Cond.not (Jvm.Cond.eq t (Jvm.Term.int (0 : Int32)))).value args s none s [] = some true) : ¬ (g = (0 : Int32)) := by
  intro q
  subst q
  simp [Jvm.Cond.value, Jvm.Term.eval, e] at h
theorem own_lcmp_self (x : Int64) : lcmpW x x = 0 := by rw [lcW]; exact (lc_eq x x).mpr rfl
theorem own_nar_byte (x : Int32) : nar .byte (x.toInt8.toInt32) = x.toInt8.toInt32 := by simp [nar]
theorem own_nar_char (x : Int32) : nar .char (x.toUInt32.toUInt16.toUInt32.toInt32) = x.toUInt32.toUInt16.toUInt32.toInt32 := by
  have q := c_i2c x
  have q2 := c_i2c (x.toUInt32.toUInt16.toUInt32.toInt32)
  exact Int32.toInt_inj.mp (by show ((x.toUInt32.toUInt16.toUInt32.toInt32).toUInt32.toUInt16.toUInt32.toInt32).toInt = _; omega)
theorem own_and255c (x : Int32) : ¬ ((255 : Int32) < (x &&& (255 : Int32)).toUInt32.toUInt16.toUInt32.toInt32) := by
  have h := (own_and255 x).2
  rwa [own_nar_char] at h
def own_b (p : Prop) [Decidable p] : Int32 := if p then 1 else 0
theorem own_bt0 {p : Prop} [Decidable p] (h : p) : ¬ (own_b p = (0 : Int32)) := by simp [own_b, h]
theorem own_bf0 {p : Prop} [Decidable p] (h : ¬ p) : own_b p = (0 : Int32) := by simp [own_b, h]
theorem own_bt1 {p : Prop} [Decidable p] (h : p) : own_b p = (1 : Int32) := by simp [own_b, h]
theorem own_bf1 {p : Prop} [Decidable p] (h : ¬ p) : ¬ (own_b p = (1 : Int32)) := by simp [own_b, h]
theorem own_eqv {s : State} {args : Array Value} {t u : Jvm.Term} {w : Addr} (eu : u.eval args s none [] s = some (.ref w)) (h : (Jvm.Cond.eq t u).value args s none s [] = some true) : t.eval args s none [] s = some (.ref w) := by
  obtain ⟨x, y, ex, ey, kx, -⟩ := cmp_v (Or.inl h)
  cases eu.symm.trans ey
  have hr : x.isRef = true := by cases x <;> simp_all [Kin, Value.isRef]
  have q := gotT (eq_R ex ey hr rfl) h
  rw [ex, q]
theorem own_len {s : State} {args : Array Value} {t : Jvm.Term} {a : Addr} {c : Cell} {ty : FieldType} {n : Int32} (ev : t.eval args s none [] s = some (.ref a)) (A : Arr s s.heap a c ty) (h : (Jvm.Cond.eq (Jvm.Term.length t) (Jvm.Term.int n)).value args s none s [] = some true) : c.slots.size < 2 ^ 31 ∧ c.slots.size.toInt32 = n := by
  have q := eqv_i (y := n) rfl h
  have ha := A.fin (Vm.Alike.refl _)
  simp only [Jvm.Term.eval, ev, ha, Option.bind_eq_bind, Option.bind_some] at q
  split at q
  · rename_i hl
    exact ⟨hl, by simpa using q⟩
  · simp at q
theorem own_elem {s : State} {args : Array Value} {t : Jvm.Term} {a : Addr} {c : Cell} {ty : FieldType} {j : Int32} {v : Value} (ev : t.eval args s none [] s = some (.ref a)) (A : Arr s s.heap a c ty) (h : (Jvm.Term.elem t (Jvm.Term.int j)).eval args s none [] s = some v) : c.slots[j.toNatClampNeg]? = some v :=
  (elem_in h ev rfl A.1).2
theorem own_nar_rng {c : Int32} (h0 : ¬ c < 0) (h1 : ¬ (255 : Int32) < c) : nar .char c = c := by
  have e0 : (0 : Int32).toInt = 0 := rfl
  have e1 : (255 : Int32).toInt = 255 := rfl
  simp only [Int32.lt_iff_toInt_lt] at h0 h1
  have q := c_i2c c
  exact Int32.toInt_inj.mp (by show (c.toUInt32.toUInt16.toUInt32.toInt32).toInt = _; omega)
theorem own_idx {p : Int32} {n : Nat} (h0 : ¬ p < 0) (h : p < Int32.ofNat n) (hn : n ≤ 4000) : p.toNatClampNeg < n := by
  have e0 : (0 : Int32).toInt = 0 := rfl
  simp only [Int32.lt_iff_toInt_lt] at h0 h
  rw [Int32.toInt_ofNat_of_lt (by omega)] at h
  show p.toInt.toNat < n
  omega
theorem own_set_rng {cs : List Int32} {i : Nat} {x : Int32} (h : ∀ c ∈ cs, ¬ c < 0 ∧ ¬ (255 : Int32) < c) (hx : ¬ x < 0 ∧ ¬ (255 : Int32) < x) : ∀ c ∈ cs.set i x, ¬ c < 0 ∧ ¬ (255 : Int32) < c := fun c hc =>
  (List.mem_or_eq_of_mem_set hc).elim (h c) (fun e => e ▸ hx)
theorem own_rem_nn (x y : Int32) (hy : 0 < y.toInt) : ¬ ((x &&& (2147483647 : Int32)) % y < 0) := by
  have h0 : 0 ≤ (x &&& (2147483647 : Int32)).toInt := (c_and x 2147483647 (by decide)).1
  have q := (c_iremV (x &&& 2147483647) y).1 h0 hy
  have e0 : (0 : Int32).toInt = 0 := rfl
  simp only [Int32.lt_iff_toInt_lt]
  omega
theorem own_and255p (x : Int32) : ¬ (x &&& (255 : Int32)).toUInt32.toUInt16.toUInt32.toInt32 < 0 ∧ ¬ ((255 : Int32) < (x &&& (255 : Int32)).toUInt32.toUInt16.toUInt32.toInt32) := by
  have h := own_and255 x
  rwa [own_nar_char] at h
theorem own_ty_ne {Z : State} {h : Heap} {a b : Addr} {k1 k2 : ClassId} {t1 t2 : FieldType} {z1 z2 : Int32} {v1 v2 : List Value} {d1 d2 : Value} (A : Arv Z h a k1 t1 z1 v1 d1) (B : Arv Z h b k2 t2 z2 v2 d2) (q : t1 ≠ t2) : a ≠ b := fun e => by
  subst e
  obtain ⟨c1, A1, -⟩ := A
  obtain ⟨c2, B1, -⟩ := B
  cases A1.1.symm.trans B1.1
  obtain ⟨-, k, hk, comp, hkind⟩ := A1.2.1
  obtain ⟨-, k', hk', comp', hkind'⟩ := B1.2.1
  cases hk.symm.trans hk'
  rw [hkind] at hkind'
  injection hkind' with _ e2
  exact q e2
theorem own_hide {p : Program} {l : Launch} {e : Env} {R : Room} {s : State} {m : MethodId} {args : Array Value} {below : List Frame} {meth : Method} {c : Code} {T : State} {locs : List Loc} {cells slots cells' slots' n0 : Nat} (X : Stand p l e R s m args below meth c T locs cells slots) (N : Fr n0 locs) (hc : cells ≤ cells') (hs : slots ≤ slots') : ∃ L, Stand p l e R s m args below meth c T L cells' slots' ∧ Fr n0 L := ⟨_, X.more hc hs, N⟩
theorem own_getF {p : Program} {l : Launch} {e : Env} {R : Room} {s : State} {m : MethodId} {args : Array Value} {below : List Frame} {meth : Method} {c : Code} {T Z : State} {locs : List Loc} {cells slots : Nat} {a0 : Array Value} {h : Heap} {P : State → Prop} (X : Stand p l e R s m args below meth c T locs cells slots) (hx : p.tables.exec = Jvm.exec) (hZ : Z.Warmed39 s.vm) {own R0 O n d host : String} {index : Nat} (hown : s.vm.findClass own = some m.cls) (w : (Jvm.Cond.fieldLink own index R0 n d).before a0 Z = true ∨ (Jvm.Cond.fieldLinkNest own index R0 n d host).before a0 Z = true) (via : Via Z R0 O n d)
    (eT : T.heap = h) {a : Addr} {v : Value} (F : Fld Z h a O n d v) {pc : Nat} {Ls : Array Slot} {rest : List Value} (hd : decode c.code pc = .ok (.getfield index, 3)) (k : ∀ T', Stand p l e R s m args below meth c T' locs cells slots → T'.heap = h → ownG p.tables e below P (T'.setTop (mkF m (pc + 3) Ls (v :: rest)))) : ownG p.tables e below P (T.setTop (mkF m pc Ls (.ref a :: rest))) := by
  obtain ⟨T', X', e', st⟩ := getF X hx hZ hown w via eT F (g := mkF m pc Ls (.ref a :: rest)) rfl rfl hd
  exact ownBy st (k T' X' e')
theorem own_getS {p : Program} {l : Launch} {e : Env} {R : Room} {s : State} {m : MethodId} {args : Array Value} {below : List Frame} {meth : Method} {c : Code} {T Z : State} {locs : List Loc} {cells slots : Nat} {a0 : Array Value} {h : Heap} {P : State → Prop} (X : Stand p l e R s m args below meth c T locs cells slots) (hx : p.tables.exec = Jvm.exec) (hZ : Z.Warmed39 s.vm) {own R0 O n d host : String} {index : Nat} (hown : s.vm.findClass own = some m.cls) (w : (Jvm.Cond.fieldLink own index R0 n d).before a0 Z = true ∨ (Jvm.Cond.fieldLinkNest own index R0 n d host).before a0 Z = true) (via : Via Z R0 O n d)
    (eT : T.heap = h) {v : Value} (F : Sta Z h O n d v) {pc : Nat} {Ls : Array Slot} {rest : List Value} (hd : decode c.code pc = .ok (.getstatic index, 3)) (k : ∀ T', Stand p l e R s m args below meth c T' locs cells slots → T'.heap = h → ownG p.tables e below P (T'.setTop (mkF m (pc + 3) Ls (v :: rest)))) : ownG p.tables e below P (T.setTop (mkF m pc Ls rest)) := by
  obtain ⟨T', X', e', st⟩ := getS2 X hx hZ hown w via eT F (g := mkF m pc Ls rest) rfl hd
  exact ownBy st (k T' X' e')
theorem own_safe_blank {Z : State} {EL : List (String × Nat)} {vm : Vm} {h : Heap} {x : Addr} (hal : Z.vm.Alike vm) (E : Exa Z h x "java/lang/String") (F : Fld Z h x "java/lang/String" "value" "[B" .null) : Safe Z EL vm h x := fun B => by
  obtain ⟨p, -, u, a, -, q, -, G, rfl | rfl⟩ := B
  · obtain ⟨cS, ⟨⟨s1, s2, s3, ⟨cv, kv, iv, s4, s4'⟩, -, s6, -, s8, -⟩, -⟩, -⟩ := G
    obtain ⟨cell, cf, kk, i, f, h1, h2, h3, -, -, -, h7⟩ := F
    cases (show h[q.sa]? = some q.sC from s1).symm.trans h1
    obtain ⟨kv', z4⟩ := ff_back (U := Wst Z vm h) hal s4
    cases h2.symm.trans z4
    rw [s8] at h7
    cases h7
  · obtain ⟨cell, k, e1, e2, e3, -, -⟩ := E
    cases (show h[q.sd]? = some q.SA from G.hd).symm.trans e1
    obtain ⟨cS, -, -, f, -⟩ := G
    have f' : vm.findClass "[B" = some q.SA.cls := f
    rw [hal.findClass] at f'
    obtain ⟨k1, q1, q2⟩ := Vm.findClass_spec f'
    obtain ⟨k2, q3, q4⟩ := Vm.findClass_spec e2
    cases q1.symm.trans q3
    exact absurd (q2.symm.trans q4) (by decide)
theorem own_wS {Z : State} {a0 : Array Value} (hw : ∀ d ∈ tables_1, d.before a0 Z = true) : ∀ a ∈ Bundle.stringAtoms, a.before a0 Z = true := fun d hd => hw d ((by decide +kernel : ∀ d ∈ Bundle.stringAtoms, d ∈ tables_1) d hd)
theorem oTo {tb : Tables} {e : Env} {below : List Frame} {P : State → Prop} {B : State} (T : State) (F : JFrame) (h : ∀ t, Steps tb e below (T.setTop F) t → Steps tb e below B t) (g : ownG tb e below P (T.setTop F)) : ownG tb e below P B := ownBy h g
abbrev oA (p : Program) (e : Env) (below : List Frame) (P : State → Prop) (T : State) (F : JFrame) : Prop := ownG p.tables e below P (T.setTop F)
abbrev vI (x : Int32) : Slot := .val (.int x)
abbrev vR (x : Addr) : Slot := .val (.ref x)
abbrev iV (x : Int32) : Value := .int x
theorem oLe {a b : Nat} (h : Nat.ble a b = true) : a ≤ b := Nat.le_of_ble_eq_true h
theorem oHd {p : Program} {l : Launch} {e : Env} {R : Room} {s : State} {m : MethodId} {args : Array Value} {below : List Frame} {meth : Method} {c : Code} {T : State} {locs : List Loc} {cells slots n0 : Nat} (cells' slots' : Nat) (X : Stand p l e R s m args below meth c T locs cells slots) (N : Fr n0 locs) (hc : Nat.ble cells cells' = true) (hs : Nat.ble slots slots' = true) : ∃ L, Stand p l e R s m args below meth c T L cells' slots' ∧ Fr n0 L := own_hide X N (oLe hc) (oLe hs)
theorem oWt {a b : Nat} (h : a = b) : a ≤ b := Nat.le_of_eq h
theorem oNf {Z s : State} {a0 : Array Value} {C : String} {y : MethodName} (hZ : Z.Warmed39 s.vm) (h : (Cond.selects C y y).before a0 Z = true) : NotFace s y := notFace_of_selects (args := #[]) (mvT hZ h)
def ownEL : List (String × Nat) := [("com/example/savepoint/savepoint/AnnotationLookup", 154), ("com/example/savepoint/savepoint/AnnotationLookup", 160), ("com/example/savepoint/savepoint/AnnotationLookup", 162), ("com/example/savepoint/savepoint/AnnotationLookupNeverAppliesPinLaw", 13), ("com/example/savepoint/savepoint/AnnotationLookupNeverAppliesPinLaw", 21)]
theorem own_EW {Z : State} {a0 : Array Value} (hw : ∀ d ∈ tables_1, d.before a0 Z = true) : EW Z a0 ownEL := (EW.cons (Wd109 hw) (by decide +kernel) (EW.cons (Wd136 hw) (by decide +kernel) (EW.cons (Wd137 hw) (by decide +kernel) (EW.cons (Wd37 hw) (by decide +kernel) (EW.cons (Wd186 hw) (by decide +kernel) EW.nil)))))
theorem own_irr (x : Int32) : ¬ x < x := by simp [Int32.lt_iff_toInt_lt]
abbrev oL (c : Int32) : Int32 := c.toInt8.toInt32
theorem own_lo_inj {c : Int32} (h : ¬ c < 0) (h2 : ¬ (255 : Int32) < c) : (c.toInt8.toInt32 &&& (255 : Int32)).toUInt32.toUInt16.toUInt32.toInt32 = c := StrChars.chr8_lo8 h h2
theorem own_l1c {c : Int32} (h : ¬ c < 0 ∧ ¬ (255 : Int32) < c) : nar .char (((oL c) &&& (255 : Int32)).toUInt32.toUInt16.toUInt32.toInt32) = c := by
  rw [own_nar_char]
  exact own_lo_inj h.1 h.2
theorem own_c8 {c : Int32} (h : ¬ c < 0 ∧ ¬ (255 : Int32) < c) : nar .char c = c := by
  have q := c_i2c c
  have e0 : (0 : Int32).toInt = 0 := rfl
  have e1 : (255 : Int32).toInt = 255 := rfl
  simp only [Int32.lt_iff_toInt_lt] at h
  exact Int32.toInt_inj.mp (by show (c.toUInt32.toUInt16.toUInt32.toInt32).toInt = _; omega)
theorem own_shl0 (x : Int32) : (x <<< ((0 : Int32) &&& 31)) = x := by
  rw [show (0 : Int32) &&& 31 = 0 from by decide]
  simp
theorem own_sub0 (x : Int32) : (x - (0 : Int32)) = x := by simp
theorem own_selpriv {Z : State} {a0 : Array Value} {C : String} {y : MethodName} (hs : (Cond.selects C y y).before a0 Z = true) (hp : (Cond.privateMethod y).before a0 Z = true) (hi : (Cond.instanceMethod y).before a0 Z = true) (hy : y.cls ≠ "java/lang/invoke/MethodHandle" ∧ y.cls ≠ "java/lang/invoke/VarHandle") : (Cond.selects y.cls y y).before a0 Z = true := by
  obtain ⟨c2, r2, m2, -, -, q3, -, kP, hkP, hkPi⟩ := Cond.selects_spec hs
  exact Jvm.Stand.selects_self_of_private (findClass_of_methodNamed q3) hkP hkPi (Cond.privateMethod_at hp) hi hy
theorem own_nf {args : Array Value} {s : State} {C : String} {y y' : MethodName} (hs : (Cond.selects C y' y').before args s = true) (hc : y'.cls = y.cls) : NotFace s y := fun r0 h0 => by
  obtain ⟨c2, r2, m2, -, -, q3, -, kP, hkP, hkPi⟩ := Cond.selects_spec hs
  have e1 := findClass_of_methodNamed q3
  have e2 := findClass_of_methodNamed h0
  rw [hc] at e1
  have e3 := Option.some.inj (e1.symm.trans e2)
  exact ⟨kP, by rw [← e3]; exact hkP, hkPi⟩
theorem own_same {Z : State} {a0 : Array Value} {C : String} {y y' : MethodName} (hi : (Cond.instanceMethod y).before a0 Z = true) (hs : (Cond.selects C y' y').before a0 Z = true) (hc : y'.cls = y.cls) (hy : y.cls ≠ "java/lang/invoke/MethodHandle" ∧ y.cls ≠ "java/lang/invoke/VarHandle") : (Cond.sameMethod y.cls y.cls y.name y.desc).before a0 Z = true := by
  obtain ⟨mk, methM, hnamed, -, -, -⟩ := Cond.instanceMethod_spec hi
  have hfound : Z.methodFound? y.cls y.name y.desc = some mk := State.methodFound?_of_named hnamed hy
  obtain ⟨kP, hkP, hkPi⟩ := own_nf hs hc mk hnamed
  have hn : Z.methodNamed? ⟨y.cls, y.name, y.desc⟩ = some mk := hnamed
  simp only [Cond.before, Cond.holds, Cond.value, findClass_of_methodNamed hnamed, hfound, hn, hkP]
  simp [hkPi]
theorem own_exa_ne {Z : State} {h : Heap} {a b : Addr} {C D : String} (E : Exa Z h a C) (F : Exa Z h b D) (q : C ≠ D) : a ≠ b := fun e => by
  subst e
  obtain ⟨c1, k1, e1, e2, e3, -⟩ := E
  obtain ⟨c2, k2, f1, f2, f3, -⟩ := F
  cases e1.symm.trans f1
  obtain ⟨x1, q1, q2⟩ := Vm.findClass_spec e2
  obtain ⟨x2, q3, q4⟩ := Vm.findClass_spec f2
  cases q1.symm.trans q3
  exact q (q2.symm.trans q4)
def Cpy (vs us ws : List Value) (cn z zb cm : Int32) : Prop := (¬ cn < 0) ∧ (¬ z < 0) ∧ cn.toNatClampNeg + z.toNatClampNeg ≤ zb.toNatClampNeg ∧ (us = (List.range z.toNatClampNeg).map fun i => us.getD ((0 : Int32).toNatClampNeg + i) (.int (0 : Int32))) ∧ cn.toNatClampNeg + z.toNatClampNeg ≤ vs.length ∧ vs.take cn.toNatClampNeg ++ us ++ vs.drop (cn.toNatClampNeg + z.toNatClampNeg) = ws ∧ (z >>> ((0 : Int32) &&& 31)) = z ∧ (cn + z) = cm ∧ ¬ ((0 : Int32) < (cm - (zb >>> ((0 : Int32) &&& 31))))
def Cps (vs ws : List Value) (cn zb cm cc : Int32) : Prop := (¬ cn < 0 ∧ cn < zb) ∧ cn.toNatClampNeg < vs.length ∧ vs.set cn.toNatClampNeg (.int cc) = ws ∧ (cn + (1 : Int32)) = cm ∧ ¬ ((0 : Int32) < (cm - (zb >>> ((0 : Int32) &&& 31))))
def Cor (vs rs : List Value) (cn zb : Int32) (cap : Nat) : Prop := (¬ cn < 0) ∧ ¬ (cn = zb) ∧ cn < zb ∧ (0 : Int32).toNatClampNeg + cn.toNatClampNeg ≤ zb.toNatClampNeg ∧ cn.toNatClampNeg ≤ cap ∧ (rs = (List.range cn.toNatClampNeg).map fun i => vs.getD ((0 : Int32).toNatClampNeg + i) (.int (0 : Int32)))
abbrev oI (l : List Int32) : List Value := l.map Value.int
theorem oCp {vs us ws : List Value} {cn z zb cm : Int32} (h : (¬ cn < 0) ∧ (¬ z < 0) ∧ cn.toNatClampNeg + z.toNatClampNeg ≤ zb.toNatClampNeg ∧ (z >>> ((0 : Int32) &&& 31)) = z ∧ (cn + z) = cm ∧ ¬ ((0 : Int32) < (cm - (zb >>> ((0 : Int32) &&& 31))))) (hu : us = (List.range z.toNatClampNeg).map fun i => us.getD ((0 : Int32).toNatClampNeg + i) (.int (0 : Int32))) (hl : Nat.ble (cn.toNatClampNeg + z.toNatClampNeg) vs.length = true) (hs : vs.take cn.toNatClampNeg ++ us ++ vs.drop (cn.toNatClampNeg + z.toNatClampNeg) = ws) : Cpy vs us ws cn z zb cm := ⟨h.1, h.2.1, h.2.2.1, hu, Nat.le_of_ble_eq_true hl, hs, h.2.2.2⟩
theorem oCq {vs ws : List Value} {cn zb cm cc : Int32} (h : (¬ cn < 0 ∧ cn < zb) ∧ (cn + (1 : Int32)) = cm ∧ ¬ ((0 : Int32) < (cm - (zb >>> ((0 : Int32) &&& 31))))) (hl : Nat.ble (cn.toNatClampNeg + 1) vs.length = true) (hs : vs.set cn.toNatClampNeg (.int cc) = ws) : Cps vs ws cn zb cm cc := ⟨h.1, Nat.le_of_ble_eq_true hl, hs, h.2⟩
theorem oCr {vs rs : List Value} {cn zb : Int32} {cap : Nat} (h : (¬ cn < 0) ∧ ¬ (cn = zb) ∧ cn < zb ∧ (0 : Int32).toNatClampNeg + cn.toNatClampNeg ≤ zb.toNatClampNeg ∧ cn.toNatClampNeg ≤ cap) (hr : rs = (List.range cn.toNatClampNeg).map fun i => vs.getD ((0 : Int32).toNatClampNeg + i) (.int (0 : Int32))) : Cor vs rs cn zb cap := ⟨h.1, h.2.1, h.2.2.1, h.2.2.2.1, h.2.2.2.2, hr⟩
theorem own_rep (n : Nat) (rs : List Value) : (([] : List Value) ++ List.replicate n (Value.int (0 : Int32))).take (0 : Int32).toNatClampNeg ++ rs ++ (([] : List Value) ++ List.replicate n (Value.int (0 : Int32))).drop ((0 : Int32).toNatClampNeg + n) = rs := by
  have e : (0 : Int32).toNatClampNeg = 0 := rfl
  rw [e]
  simp
def Chl (z : Int32) (vs : List Value) (i cc : Int32) : Prop := (¬ i < (0 : Int32) ∧ i < z) ∧ vs.getD i.toNatClampNeg (.int (0 : Int32)) = .int (oL cc) ∧ (¬ cc < 0 ∧ ¬ (255 : Int32) < cc)
theorem oCl {z i cc : Int32} {vs : List Value} (h : ¬ i < (0 : Int32) ∧ i < z) (hg : vs.getD i.toNatClampNeg (.int (0 : Int32)) = .int (oL cc)) (hr : ¬ cc < 0 ∧ ¬ (255 : Int32) < cc) : Chl z vs i cc := ⟨h, hg, hr⟩
abbrev oN (n : Nat) : Int32 := Int32.ofNat n
theorem oN_int {n : Nat} (h : n < 1000000) : (oN n).toInt = n := by
  exact Int32.toInt_ofNat_of_lt (by omega)
theorem oN_nat {n : Nat} (h : n < 1000000) : (oN n).toNatClampNeg = n := by
  show ((oN n).toInt).toNat = n
  rw [oN_int h]; rfl
theorem oN_add (a b : Nat) : oN a + oN b = oN (a + b) := by
  simp [oN]
theorem oN_sub {a b : Nat} (h : b ≤ a) (ha : a < 1000000) : oN a - oN b = oN (a - b) := by
  apply Int32.toInt_inj.mp
  rw [Int32.toInt_sub, oN_int ha, oN_int (by omega), oN_int (by omega)]
  simp only [Int.bmod_def]; omega
theorem oN_lt {a b : Nat} (ha : a < 1000000) (hb : b < 1000000) : (oN a < oN b) ↔ a < b := by
  rw [Int32.lt_iff_toInt_lt, oN_int ha, oN_int hb]; omega
theorem oN_pos {a : Nat} (ha : a < 1000000) : ¬ oN a < 0 := by
  rw [Int32.lt_iff_toInt_lt, oN_int ha]; show ¬ ((a : Int) < 0); omega
theorem oN_eq {a b : Nat} (ha : a < 1000000) (hb : b < 1000000) : (oN a = oN b) ↔ a = b := by
  rw [← Int32.toInt_inj, oN_int ha, oN_int hb]; omega
theorem oN_shr (x : Int32) : (x >>> ((0 : Int32) &&& 31)) = x := by
  rw [show (0 : Int32) &&& 31 = 0 from by decide]; simp
theorem oN_le {a b : Nat} (h : a ≤ b) (hb : b < 1000000) : ¬ ((0 : Int32) < (oN a - (oN b >>> ((0 : Int32) &&& 31)))) := by
  rw [oN_shr, Int32.lt_iff_toInt_lt, Int32.toInt_sub, oN_int (by omega), oN_int hb]
  show ¬ ((0 : Int) < _)
  simp only [Int.bmod_def]; omega
theorem oN_gt {a b : Nat} (h : b < a) (hb : a < 1000000) : ((0 : Int32) < (oN a - (oN b >>> ((0 : Int32) &&& 31)))) := by
  rw [oN_shr, Int32.lt_iff_toInt_lt, Int32.toInt_sub, oN_int (by omega), oN_int (by omega)]
  show ((0 : Int) < _)
  simp only [Int.bmod_def]; omega
def Pad (L : List Value) (c : Nat) : List Value := L ++ List.replicate (c - L.length) (.int (0 : Int32))
theorem Pad_len {L : List Value} {c : Nat} (h : L.length ≤ c) : (Pad L c).length = c := by simp [Pad]; omega
theorem own_self (us : List Value) (d : Value) : us = (List.range us.length).map fun i => us.getD ((0 : Int32).toNatClampNeg + i) d := by
  apply List.ext_getElem?
  intro i
  rw [List.getElem?_map]
  by_cases h : i < us.length
  · simp [h, show (0 : Int32).toNatClampNeg = 0 from rfl, List.getD_eq_getElem?_getD]
  · simp [h]
theorem Pad_put {L us : List Value} {c : Nat} (h : L.length + us.length ≤ c) : (Pad L c).take L.length ++ us ++ (Pad L c).drop (L.length + us.length) = Pad (L ++ us) c := by
  simp only [Pad, List.take_left, List.append_assoc]
  rw [List.drop_append]
  simp [Nat.sub_sub]
theorem oCpN {L us : List Value} {a b c : Nat} (ha : L.length = a) (hb : us.length = b) (hc : a + b ≤ c) (hs : c < 1000000) : Cpy (Pad L c) us (Pad (L ++ us) c) (oN a) (oN b) (oN c) (oN (a + b)) := by
  subst ha hb
  refine ⟨oN_pos (by omega), oN_pos (by omega), ?_, ?_, ?_, ?_, oN_shr _, oN_add _ _, oN_le hc hs⟩
  · rw [oN_nat (by omega), oN_nat (by omega), oN_nat hs]; exact hc
  · rw [oN_nat (by omega)]; exact own_self us _
  · rw [oN_nat (by omega), oN_nat (by omega), Pad_len (by omega)]; exact hc
  · rw [oN_nat (by omega), oN_nat (by omega)]; exact Pad_put hc
def oMx (a b : Int32) : Int32 := if a < b then b else a
theorem oMx_N {a b : Nat} (ha : a < 1000000) (hb : b < 1000000) : oMx (oN a) (oN b) = oN (max a b) := by
  unfold oMx
  by_cases h : a < b
  · rw [if_pos ((oN_lt ha hb).mpr h), Nat.max_eq_right (by omega)]
  · rw [if_neg (fun q => h ((oN_lt ha hb).mp q)), Nat.max_eq_left (by omega)]
def Grw (vs ys : List Value) (zb cm nz : Int32) (cap : Nat) : Prop := ((0 : Int32) < (cm - (zb >>> ((0 : Int32) &&& 31)))) ∧ (zb + oMx (cm - zb) (zb + (2 : Int32))) = nz ∧ (0 : Int32) < nz ∧ (¬ (2147483639 : Int32) < nz) ∧ (¬ (nz = (2147483647 : Int32))) ∧ (nz >>> ((0 : Int32) &&& 31)) = nz ∧ (¬ nz < 0) ∧ nz.toNatClampNeg ≤ cap ∧ (¬ (nz = zb)) ∧ (¬ nz < zb) ∧ (¬ zb < 0) ∧ (0 : Int32).toNatClampNeg + zb.toNatClampNeg ≤ zb.toNatClampNeg ∧ (0 : Int32).toNatClampNeg + zb.toNatClampNeg ≤ nz.toNatClampNeg ∧ (vs = (List.range zb.toNatClampNeg).map fun i => vs.getD ((0 : Int32).toNatClampNeg + i) (.int (0 : Int32))) ∧ (0 : Int32).toNatClampNeg + zb.toNatClampNeg ≤ (([] : List Value) ++ List.replicate nz.toNatClampNeg (Value.int (0 : Int32))).length ∧ (([] : List Value) ++ List.replicate nz.toNatClampNeg (Value.int (0 : Int32))).take (0 : Int32).toNatClampNeg ++ vs ++ (([] : List Value) ++ List.replicate nz.toNatClampNeg (Value.int (0 : Int32))).drop ((0 : Int32).toNatClampNeg + zb.toNatClampNeg) = ys
theorem oGrN {L : List Value} {b m n cap : Nat} (hL : L.length ≤ b) (hm : b < m) (hn : n = b + max (m - b) (b + 2)) (hs : n < 1000000) (hc : n ≤ cap) : Grw (Pad L b) (Pad L n) (oN b) (oN m) (oN n) cap := by
  have e0 : (0 : Int32).toNatClampNeg = 0 := rfl
  have eb : (oN b).toNatClampNeg = b := oN_nat (by omega)
  have en : (oN n).toNatClampNeg = n := oN_nat hs
  refine ⟨oN_gt hm (by omega), ?_, ?_, ?_, ?_, oN_shr _, oN_pos hs, by rw [en]; exact hc, ?_, ?_, oN_pos (by omega), ?_, ?_, ?_, ?_, ?_⟩
  · rw [oN_sub (by omega) (by omega), show (2 : Int32) = oN 2 from rfl, oN_add, oMx_N (by omega) (by omega), oN_add, hn]
  · rw [Int32.lt_iff_toInt_lt, oN_int hs]; show (0 : Int) < _; omega
  · rw [Int32.lt_iff_toInt_lt, oN_int hs]; show ¬ ((2147483639 : Int) < _); omega
  · rw [← Int32.toInt_inj, oN_int hs]; show ¬ (_ = (2147483647 : Int)); omega
  · rw [oN_eq hs (by omega)]; omega
  · rw [oN_lt hs (by omega)]; omega
  · rw [e0, Nat.zero_add]; exact Nat.le_refl (oN b).toNatClampNeg
  · rw [e0, eb, en]; omega
  · rw [eb]
    have q := own_self (Pad L b) (.int (0 : Int32))
    rwa [Pad_len hL] at q
  · rw [e0, eb, en]; simp; omega
  · rw [e0, eb, en]; simp only [Pad, List.nil_append, List.take_zero, List.append_assoc, Nat.zero_add, List.drop_replicate, List.replicate_append_replicate]; rw [show b - L.length + (n - b) = n - L.length from by omega]
theorem oCrN {L : List Value} {a c cap : Nat} (ha : L.length = a) (hc : a < c) (hs : c < 1000000) (hcap : a ≤ cap) : Cor (Pad L c) L (oN a) (oN c) cap := by
  subst ha
  have ea : (oN L.length).toNatClampNeg = L.length := oN_nat (by omega)
  refine ⟨oN_pos (by omega), ?_, (oN_lt (by omega) hs).mpr hc, ?_, by rw [ea]; exact hcap, ?_⟩
  · rw [oN_eq (by omega) hs]; omega
  · rw [ea, oN_nat hs]; show 0 + _ ≤ _; omega
  · rw [ea]
    apply List.ext_getElem?
    intro i
    rw [List.getElem?_map]
    by_cases h : i < L.length
    · simp [h, show (0 : Int32).toNatClampNeg = 0 from rfl, List.getD_eq_getElem?_getD, Pad, List.getElem?_append]
    · simp [h]
theorem oMx_t {a b : Int32} (h : a < b) : oMx a b = b := if_pos h
theorem oMx_f {a b : Int32} (h : ¬ a < b) : oMx a b = a := if_neg h
theorem Pad_exact {L : List Value} {c : Nat} (h : L.length = c) : Pad L c = L := by subst h; simp [Pad]
theorem oClN {k n : Nat} {vs : List Value} {cc : Int32} (hk : k < n) (hn : n < 1000000) (hg : vs.getD k (.int (0 : Int32)) = .int (oL cc)) (hr : ¬ cc < 0 ∧ ¬ (255 : Int32) < cc) : Chl (oN n) vs (oN k) cc := ⟨⟨oN_pos (by omega), (oN_lt (by omega) hn).mpr hk⟩, by rw [oN_nat (by omega)]; exact hg, hr⟩
theorem gd_r {A B : List Value} {n k i : Nat} {d : Value} (h : A.length = n) (hk : k = n + i) : (A ++ B).getD k d = B.getD i d := by
  subst h hk; rw [List.getD_eq_getElem?_getD, List.getD_eq_getElem?_getD, List.getElem?_append_right (by omega), Nat.add_sub_cancel_left]
theorem gd_l {A B : List Value} {k : Nat} {d : Value} (hk : k < A.length) : (A ++ B).getD k d = A.getD k d := by
  simp [List.getD_eq_getElem?_getD, List.getElem?_append, hk]
def Ch (p i : Int32) : Int32 := nar .char ((((p.toUInt32 >>> (((8 : Int32) * i) &&& 31).toUInt32).toInt32) &&& (255 : Int32)).toUInt32.toUInt16.toUInt32.toInt32)
theorem Ch_r (p i : Int32) : ¬ Ch p i < 0 ∧ ¬ (255 : Int32) < Ch p i := own_and255 _
def Drw (p : Int32) (k : Nat) (us : List Value) : Prop := us.length = k ∧ (1 ≤ k → us.getD 0 (.int (0 : Int32)) = .int (oL (Ch p 0))) ∧ (2 ≤ k → us.getD 1 (.int (0 : Int32)) = .int (oL (Ch p 1))) ∧ (3 ≤ k → us.getD 2 (.int (0 : Int32)) = .int (oL (Ch p 2)))
theorem oN_four {x : Int32} (h : x = 0 ∨ x = 1 ∨ x = 2 ∨ x = 3) : ∃ k : Nat, k ≤ 3 ∧ x = oN k := by
  rcases h with rfl | rfl | rfl | rfl
  · exact ⟨0, by omega, rfl⟩
  · exact ⟨1, by omega, rfl⟩
  · exact ⟨2, by omega, rfl⟩
  · exact ⟨3, by omega, rfl⟩
def C1L : List Value := oI [32, 99, 97, 114, 114, 105, 101, 115, 32, 64, 84, 114, 97, 110, 115, 97, 99, 116, 105, 111, 110, 97, 108, 44, 32, 97, 110, 100, 32]
def C2L : List Value := oI [44, 32, 115, 111, 32, 116, 104, 101, 32, 97, 110, 110, 111, 116, 97, 116, 105, 111, 110, 32, 99, 111, 117, 108, 100, 32, 110, 101, 118, 101, 114, 32, 97, 112, 112, 108, 121, 59, 32]
def C3L : List Value := oI [116, 97, 107, 101, 32, 116, 104, 101, 32, 97, 110, 110, 111, 116, 97, 116, 105, 111, 110, 32, 111, 102, 102]
abbrev RL (u1 u2 u3 : List Value) : List Value := ((([] ++ u1) ++ C1L) ++ u2) ++ ((C2L ++ u3) ++ C3L)
section Rls
variable {u1 u2 u3 : List Value} {n1 n2 n3 : Nat} (h1 : u1.length = n1) (h2 : u2.length = n2) (h3 : u3.length = n3)
theorem ln1 : C1L.length = 29 := rfl
theorem ln2 : C2L.length = 39 := rfl
theorem ln3 : C3L.length = 23 := rfl
theorem rla (h1 : u1.length = n1) : ([] ++ u1 : List Value).length = 0 + n1 := by simp [h1]
theorem rlb (h1 : u1.length = n1) : (([] ++ u1) ++ C1L : List Value).length = 0 + n1 + 29 := by rw [List.length_append, rla h1, ln1]
theorem rlc (h1 : u1.length = n1) (h2 : u2.length = n2) : ((([] ++ u1) ++ C1L) ++ u2 : List Value).length = 0 + n1 + 29 + n2 := by rw [List.length_append, rlb h1, h2]
theorem rld (h3 : u3.length = n3) : (C2L ++ u3 : List Value).length = 39 + n3 := by rw [List.length_append, ln2, h3]
theorem rle (h3 : u3.length = n3) : ((C2L ++ u3) ++ C3L : List Value).length = 39 + n3 + 23 := by rw [List.length_append, rld h3, ln3]
theorem rlf (h1 : u1.length = n1) (h2 : u2.length = n2) (h3 : u3.length = n3) : (RL u1 u2 u3).length = 0 + n1 + 29 + n2 + (39 + n3 + 23) := by rw [RL, List.length_append, rlc h1 h2, rle h3]
theorem rl0 (h1 : u1.length = n1) (h2 : u2.length = n2) (d : Value) {j : Nat} (hj : j < n1) : (RL u1 u2 u3).getD j d = u1.getD j d := by
  rw [RL, gd_l (by rw [rlc h1 h2]; omega), gd_l (by rw [rlb h1]; omega), gd_l (by rw [rla h1]; omega), List.nil_append]
theorem rl1 (h1 : u1.length = n1) (h2 : u2.length = n2) (d : Value) {i : Nat} (hi : i < 29) : (RL u1 u2 u3).getD (n1 + i) d = C1L.getD i d := by
  rw [RL, gd_l (by rw [rlc h1 h2]; omega), gd_l (by rw [rlb h1]; omega), gd_r (i := i) (rla h1) (by omega)]
theorem rl2 (h1 : u1.length = n1) (h2 : u2.length = n2) (d : Value) {j : Nat} (hj : j < n2) : (RL u1 u2 u3).getD (n1 + 29 + j) d = u2.getD j d := by
  rw [RL, gd_l (by rw [rlc h1 h2]; omega), gd_r (i := j) (rlb h1) (by omega)]
theorem rl3 (h1 : u1.length = n1) (h2 : u2.length = n2) (h3 : u3.length = n3) (d : Value) {i : Nat} (hi : i < 39) : (RL u1 u2 u3).getD (n1 + 29 + n2 + i) d = C2L.getD i d := by
  rw [RL, gd_r (i := i) (rlc h1 h2) (by omega), gd_l (by rw [rld h3]; omega), gd_l (by rw [ln2]; omega)]
theorem rl4 (h1 : u1.length = n1) (h2 : u2.length = n2) (h3 : u3.length = n3) (d : Value) {j : Nat} (hj : j < n3) : (RL u1 u2 u3).getD (n1 + 29 + n2 + 39 + j) d = u3.getD j d := by
  rw [RL, gd_r (i := 39 + j) (rlc h1 h2) (by omega), gd_l (by rw [rld h3]; omega), gd_r (i := j) ln2 rfl]
theorem rl5 (h1 : u1.length = n1) (h2 : u2.length = n2) (h3 : u3.length = n3) (d : Value) {i : Nat} (hi : i < 23) : (RL u1 u2 u3).getD (n1 + 29 + n2 + 39 + n3 + i) d = C3L.getD i d := by
  rw [RL, gd_r (i := 39 + n3 + i) (rlc h1 h2) (by omega), gd_r (i := i) (rld h3) (by omega)]
end Rls
theorem oClA {z cc : Int32} {vs : List Value} {a b : Nat} (h : Chl z vs (oN (a + b)) cc) : Chl z vs (oN a + oN b) cc := by rw [oN_add]; exact h
theorem oClS {z cc : Int32} {vs : List Value} {a b : Nat} (hb : b ≤ a) (ha : a < 1000000) (h : Chl z vs (oN (a - b)) cc) : Chl z vs (oN a - oN b) cc := by rw [oN_sub hb ha]; exact h
def Dra (z : Int32) (vs : List Value) (ps p : Int32) (k : Nat) : Prop := (1 ≤ k → Chl z vs ps (Ch p 0)) ∧ (2 ≤ k → Chl z vs (ps + (1 : Int32)) (Ch p 1)) ∧ (3 ≤ k → Chl z vs (ps + (2 : Int32)) (Ch p 2))
theorem oDra {n q k : Nat} {vs us : List Value} {p : Int32} (hr : ∀ i, ¬ Ch p i < 0 ∧ ¬ (255 : Int32) < Ch p i) (hd : Drw p k us) (hq : q + k ≤ n) (hn : n < 1000000) (hg : ∀ j, j < k → vs.getD (q + j) (.int (0 : Int32)) = us.getD j (.int (0 : Int32))) : Dra (oN n) vs (oN q) p k := by
  refine ⟨fun h => ?_, fun h => ?_, fun h => ?_⟩
  · exact oClN (by omega) hn ((hg 0 (by omega)).trans (hd.2.1 h)) (hr _)
  · exact oClA (b := 1) (oClN (by omega) hn ((hg 1 (by omega)).trans (hd.2.2.1 h)) (hr _))
  · exact oClA (b := 2) (oClN (by omega) hn ((hg 2 (by omega)).trans (hd.2.2.2 h)) (hr _))

theorem oN_ge {k j : Nat} (hk : k < 1000000) (hj : j < 1000000) (h : ¬ oN k < oN j) : j ≤ k := Nat.le_of_not_lt (fun q => h ((oN_lt hk hj).mpr q))
theorem pn_1 : plainName "java/lang/String" = true := by first | (simp [plainName, overriddenIn]; done) | decide +kernel
theorem d15_0 : decode jdk_42_method_152_code 0 = .ok (.getstatic 38, 3) := by decide +kernel
theorem d15_3 : decode jdk_42_method_152_code 3 = .ok (.ifCond .eq 10, 3) := by decide +kernel
theorem d15_6 : decode jdk_42_method_152_code 6 = .ok (.aload_n 0, 1) := by decide +kernel
theorem d15_7 : decode jdk_42_method_152_code 7 = .ok (.getfield 15, 3) := by decide +kernel
theorem d15_10 : decode jdk_42_method_152_code 10 = .ok (.goto 4, 3) := by decide +kernel
theorem d15_14 : decode jdk_42_method_152_code 14 = .ok (.ireturn, 1) := by decide +kernel
theorem d40_0 : decode jdk_42_method_154_code 0 = .ok (.getstatic 38, 3) := by decide +kernel
theorem d40_3 : decode jdk_42_method_154_code 3 = .ok (.ifCond .eq 14, 3) := by decide +kernel
theorem d40_6 : decode jdk_42_method_154_code 6 = .ok (.aload_n 0, 1) := by decide +kernel
theorem d40_7 : decode jdk_42_method_154_code 7 = .ok (.getfield 15, 3) := by decide +kernel
theorem d40_10 : decode jdk_42_method_154_code 10 = .ok (.ifCond .ne 7, 3) := by decide +kernel
theorem d40_13 : decode jdk_42_method_154_code 13 = .ok (.iconst 1, 1) := by decide +kernel
theorem d40_14 : decode jdk_42_method_154_code 14 = .ok (.goto 4, 3) := by decide +kernel
theorem d40_18 : decode jdk_42_method_154_code 18 = .ok (.ireturn, 1) := by decide +kernel
theorem d14_0 : decode jdk_42_method_54_code 0 = .ok (.aload_n 0, 1) := by decide +kernel
theorem d14_1 : decode jdk_42_method_54_code 1 = .ok (.getfield 9, 3) := by decide +kernel
theorem d14_4 : decode jdk_42_method_54_code 4 = .ok (.arraylength, 1) := by decide +kernel
theorem d14_5 : decode jdk_42_method_54_code 5 = .ok (.aload_n 0, 1) := by decide +kernel
theorem d14_6 : decode jdk_42_method_54_code 6 = .ok (.invokevirtual 335, 3) := by decide +kernel
theorem pd_2 : parseMethodDescriptor "()B" = some ⟨[], some .byte⟩ := by decide +kernel
theorem d14_9 : decode jdk_42_method_54_code 9 = .ok (.ishr, 1) := by decide +kernel
theorem d14_10 : decode jdk_42_method_54_code 10 = .ok (.ireturn, 1) := by decide +kernel
theorem pn_3 : plainName "jdk/internal/util/Preconditions" = true := by first | (simp [plainName, overriddenIn]; done) | decide +kernel
theorem d43_0 : decode jdk_41_method_11_code 0 = .ok (.iload_n 0, 1) := by decide +kernel
theorem d43_1 : decode jdk_41_method_11_code 1 = .ok (.ifCond .lt 8, 3) := by decide +kernel
theorem d43_4 : decode jdk_41_method_11_code 4 = .ok (.iload_n 0, 1) := by decide +kernel
theorem d43_5 : decode jdk_41_method_11_code 5 = .ok (.iload_n 1, 1) := by decide +kernel
theorem d43_6 : decode jdk_41_method_11_code 6 = .ok (.if_icmp .lt 10, 3) := by decide +kernel
theorem d43_16 : decode jdk_41_method_11_code 16 = .ok (.iload_n 0, 1) := by decide +kernel
theorem d43_17 : decode jdk_41_method_11_code 17 = .ok (.ireturn, 1) := by decide +kernel
theorem d42_0 : decode jdk_42_method_155_code 0 = .ok (.iload_n 0, 1) := by decide +kernel
theorem d42_1 : decode jdk_42_method_155_code 1 = .ok (.iload_n 1, 1) := by decide +kernel
theorem d42_2 : decode jdk_42_method_155_code 2 = .ok (.getstatic 1053, 3) := by decide +kernel
theorem d42_5 : decode jdk_42_method_155_code 5 = .ok (.invokestatic 1059, 3) := by decide +kernel
theorem pd_4 : parseMethodDescriptor "(IILjava/util/function/BiFunction;)I" = some ⟨[.int, .int, (.object "java/util/function/BiFunction")], some .int⟩ := by decide +kernel
theorem d42_8 : decode jdk_42_method_155_code 8 = .ok (.pop, 1) := by decide +kernel
theorem d42_9 : decode jdk_42_method_155_code 9 = .ok (.return_, 1) := by decide +kernel
theorem pn_5 : plainName "java/lang/StringLatin1" = true := by first | (simp [plainName, overriddenIn]; done) | decide +kernel
theorem d41_0 : decode jdk_43_method_2_code 0 = .ok (.iload_n 1, 1) := by decide +kernel
theorem d41_1 : decode jdk_43_method_2_code 1 = .ok (.aload_n 0, 1) := by decide +kernel
theorem d41_2 : decode jdk_43_method_2_code 2 = .ok (.arraylength, 1) := by decide +kernel
theorem d41_3 : decode jdk_43_method_2_code 3 = .ok (.invokestatic 9, 3) := by decide +kernel
theorem pd_6 : parseMethodDescriptor "(II)V" = some ⟨[.int, .int], none⟩ := by decide +kernel
theorem d41_6 : decode jdk_43_method_2_code 6 = .ok (.aload_n 0, 1) := by decide +kernel
theorem d41_7 : decode jdk_43_method_2_code 7 = .ok (.iload_n 1, 1) := by decide +kernel
theorem d41_8 : decode jdk_43_method_2_code 8 = .ok (.baload, 1) := by decide +kernel
theorem d41_9 : decode jdk_43_method_2_code 9 = .ok (.sipush 255, 3) := by decide +kernel
theorem d41_12 : decode jdk_43_method_2_code 12 = .ok (.iand, 1) := by decide +kernel
theorem d41_13 : decode jdk_43_method_2_code 13 = .ok (.i2c, 1) := by decide +kernel
theorem d41_14 : decode jdk_43_method_2_code 14 = .ok (.ireturn, 1) := by decide +kernel
theorem d39_0 : decode jdk_42_method_56_code 0 = .ok (.aload_n 0, 1) := by decide +kernel
theorem d39_1 : decode jdk_42_method_56_code 1 = .ok (.invokevirtual 492, 3) := by decide +kernel
theorem pd_7 : parseMethodDescriptor "()Z" = some ⟨[], some .boolean⟩ := by decide +kernel
theorem d39_4 : decode jdk_42_method_56_code 4 = .ok (.ifCond .eq 12, 3) := by decide +kernel
theorem d39_7 : decode jdk_42_method_56_code 7 = .ok (.aload_n 0, 1) := by decide +kernel
theorem d39_8 : decode jdk_42_method_56_code 8 = .ok (.getfield 9, 3) := by decide +kernel
theorem d39_11 : decode jdk_42_method_56_code 11 = .ok (.iload_n 1, 1) := by decide +kernel
theorem d39_12 : decode jdk_42_method_56_code 12 = .ok (.invokestatic 495, 3) := by decide +kernel
theorem pd_8 : parseMethodDescriptor "([BI)C" = some ⟨[(.array .byte), .int], some .char⟩ := by decide +kernel
theorem d39_15 : decode jdk_42_method_56_code 15 = .ok (.ireturn, 1) := by decide +kernel
theorem pn_9 : plainName "java/lang/AbstractStringBuilder" = true := by first | (simp [plainName, overriddenIn]; done) | decide +kernel
theorem d11_0 : decode jdk_68_method_2_code 0 = .ok (.aload_n 0, 1) := by decide +kernel
theorem d11_1 : decode jdk_68_method_2_code 1 = .ok (.invokespecial 3, 3) := by decide +kernel
theorem d11_4 : decode jdk_68_method_2_code 4 = .ok (.getstatic 18, 3) := by decide +kernel
theorem d11_7 : decode jdk_68_method_2_code 7 = .ok (.ifCond .eq 18, 3) := by decide +kernel
theorem d11_10 : decode jdk_68_method_2_code 10 = .ok (.aload_n 0, 1) := by decide +kernel
theorem d11_11 : decode jdk_68_method_2_code 11 = .ok (.iload_n 1, 1) := by decide +kernel
theorem d11_12 : decode jdk_68_method_2_code 12 = .ok (.newarray .byte, 2) := by decide +kernel
theorem d11_14 : decode jdk_68_method_2_code 14 = .ok (.putfield 15, 3) := by decide +kernel
theorem d11_17 : decode jdk_68_method_2_code 17 = .ok (.aload_n 0, 1) := by decide +kernel
theorem d11_18 : decode jdk_68_method_2_code 18 = .ok (.iconst 0, 1) := by decide +kernel
theorem d11_19 : decode jdk_68_method_2_code 19 = .ok (.putfield 22, 3) := by decide +kernel
theorem d11_22 : decode jdk_68_method_2_code 22 = .ok (.goto 16, 3) := by decide +kernel
theorem d11_38 : decode jdk_68_method_2_code 38 = .ok (.return_, 1) := by decide +kernel
theorem pn_10 : plainName "java/lang/StringBuilder" = true := by first | (simp [plainName, overriddenIn]; done) | decide +kernel
theorem d10_0 : decode jdk_67_method_1_code 0 = .ok (.aload_n 0, 1) := by decide +kernel
theorem d10_1 : decode jdk_67_method_1_code 1 = .ok (.bipush 16, 2) := by decide +kernel
theorem d10_3 : decode jdk_67_method_1_code 3 = .ok (.invokespecial 1, 3) := by decide +kernel
theorem pd_11 : parseMethodDescriptor "(I)V" = some ⟨[.int], none⟩ := by decide +kernel
theorem d10_6 : decode jdk_67_method_1_code 6 = .ok (.return_, 1) := by decide +kernel
theorem d19_0 : decode jdk_42_method_147_code 0 = .ok (.aload_n 0, 1) := by decide +kernel
theorem d19_1 : decode jdk_42_method_147_code 1 = .ok (.invokevirtual 335, 3) := by decide +kernel
theorem d19_4 : decode jdk_42_method_147_code 4 = .ok (.iload_n 3, 1) := by decide +kernel
theorem d19_5 : decode jdk_42_method_147_code 5 = .ok (.if_icmp .ne 23, 3) := by decide +kernel
theorem d19_8 : decode jdk_42_method_147_code 8 = .ok (.aload_n 0, 1) := by decide +kernel
theorem d19_9 : decode jdk_42_method_147_code 9 = .ok (.getfield 9, 3) := by decide +kernel
theorem d19_12 : decode jdk_42_method_147_code 12 = .ok (.iconst 0, 1) := by decide +kernel
theorem d19_13 : decode jdk_42_method_147_code 13 = .ok (.aload_n 1, 1) := by decide +kernel
theorem d19_14 : decode jdk_42_method_147_code 14 = .ok (.iload_n 2, 1) := by decide +kernel
theorem d19_15 : decode jdk_42_method_147_code 15 = .ok (.iload_n 3, 1) := by decide +kernel
theorem d19_16 : decode jdk_42_method_147_code 16 = .ok (.ishl, 1) := by decide +kernel
theorem d19_17 : decode jdk_42_method_147_code 17 = .ok (.aload_n 0, 1) := by decide +kernel
theorem d19_18 : decode jdk_42_method_147_code 18 = .ok (.getfield 9, 3) := by decide +kernel
theorem d19_21 : decode jdk_42_method_147_code 21 = .ok (.arraylength, 1) := by decide +kernel
theorem d19_22 : decode jdk_42_method_147_code 22 = .ok (.invokestatic 212, 3) := by decide +kernel
theorem d19_25 : decode jdk_42_method_147_code 25 = .ok (.goto 18, 3) := by decide +kernel
theorem d19_43 : decode jdk_42_method_147_code 43 = .ok (.return_, 1) := by decide +kernel
theorem d18_0 : decode jdk_68_method_71_code 0 = .ok (.getstatic 18, 3) := by decide +kernel
theorem d18_3 : decode jdk_68_method_71_code 3 = .ok (.ifCond .eq 18, 3) := by decide +kernel
theorem d18_6 : decode jdk_68_method_71_code 6 = .ok (.aload_n 0, 1) := by decide +kernel
theorem d18_7 : decode jdk_68_method_71_code 7 = .ok (.getfield 22, 3) := by decide +kernel
theorem d18_10 : decode jdk_68_method_71_code 10 = .ok (.aload_n 1, 1) := by decide +kernel
theorem d18_11 : decode jdk_68_method_71_code 11 = .ok (.invokevirtual 40, 3) := by decide +kernel
theorem d18_14 : decode jdk_68_method_71_code 14 = .ok (.if_icmp .eq 7, 3) := by decide +kernel
theorem d18_21 : decode jdk_68_method_71_code 21 = .ok (.return_, 1) := by decide +kernel
theorem d16_0 : decode jdk_68_method_9_code 0 = .ok (.aload_n 0, 1) := by decide +kernel
theorem d16_1 : decode jdk_68_method_9_code 1 = .ok (.getfield 15, 3) := by decide +kernel
theorem d16_4 : decode jdk_68_method_9_code 4 = .ok (.arraylength, 1) := by decide +kernel
theorem d16_5 : decode jdk_68_method_9_code 5 = .ok (.aload_n 0, 1) := by decide +kernel
theorem d16_6 : decode jdk_68_method_9_code 6 = .ok (.getfield 22, 3) := by decide +kernel
theorem d16_9 : decode jdk_68_method_9_code 9 = .ok (.ishr, 1) := by decide +kernel
theorem d16_10 : decode jdk_68_method_9_code 10 = .ok (.istore_n 2, 1) := by decide +kernel
theorem d16_11 : decode jdk_68_method_9_code 11 = .ok (.iload_n 1, 1) := by decide +kernel
theorem d16_12 : decode jdk_68_method_9_code 12 = .ok (.iload_n 2, 1) := by decide +kernel
theorem d16_13 : decode jdk_68_method_9_code 13 = .ok (.isub, 1) := by decide +kernel
theorem d16_14 : decode jdk_68_method_9_code 14 = .ok (.ifCond .le 24, 3) := by decide +kernel
theorem d16_38 : decode jdk_68_method_9_code 38 = .ok (.return_, 1) := by decide +kernel
theorem d17_0 : decode jdk_68_method_73_code 0 = .ok (.aload_n 0, 1) := by decide +kernel
theorem d17_1 : decode jdk_68_method_73_code 1 = .ok (.aload_n 2, 1) := by decide +kernel
theorem d17_2 : decode jdk_68_method_73_code 2 = .ok (.invokevirtual 397, 3) := by decide +kernel
theorem pd_12 : parseMethodDescriptor "(Ljava/lang/String;)V" = some ⟨[(.object "java/lang/String")], none⟩ := by decide +kernel
theorem d17_5 : decode jdk_68_method_73_code 5 = .ok (.aload_n 2, 1) := by decide +kernel
theorem d17_6 : decode jdk_68_method_73_code 6 = .ok (.aload_n 0, 1) := by decide +kernel
theorem d17_7 : decode jdk_68_method_73_code 7 = .ok (.getfield 15, 3) := by decide +kernel
theorem d17_10 : decode jdk_68_method_73_code 10 = .ok (.iload_n 1, 1) := by decide +kernel
theorem d17_11 : decode jdk_68_method_73_code 11 = .ok (.aload_n 0, 1) := by decide +kernel
theorem d17_12 : decode jdk_68_method_73_code 12 = .ok (.getfield 22, 3) := by decide +kernel
theorem d17_15 : decode jdk_68_method_73_code 15 = .ok (.invokevirtual 399, 3) := by decide +kernel
theorem pd_13 : parseMethodDescriptor "([BIB)V" = some ⟨[(.array .byte), .int, .byte], none⟩ := by decide +kernel
theorem d17_18 : decode jdk_68_method_73_code 18 = .ok (.return_, 1) := by decide +kernel
theorem d13_0 : decode jdk_68_method_22_code 0 = .ok (.aload_n 1, 1) := by decide +kernel
theorem d13_1 : decode jdk_68_method_22_code 1 = .ok (.ifnonnull 8, 3) := by decide +kernel
theorem d13_9 : decode jdk_68_method_22_code 9 = .ok (.aload_n 1, 1) := by decide +kernel
theorem d13_10 : decode jdk_68_method_22_code 10 = .ok (.invokevirtual 32, 3) := by decide +kernel
theorem pd_14 : parseMethodDescriptor "()I" = some ⟨[], some .int⟩ := by decide +kernel
theorem d13_13 : decode jdk_68_method_22_code 13 = .ok (.istore_n 2, 1) := by decide +kernel
theorem d13_14 : decode jdk_68_method_22_code 14 = .ok (.aload_n 0, 1) := by decide +kernel
theorem d13_15 : decode jdk_68_method_22_code 15 = .ok (.aload_n 0, 1) := by decide +kernel
theorem d13_16 : decode jdk_68_method_22_code 16 = .ok (.getfield 79, 3) := by decide +kernel
theorem d13_19 : decode jdk_68_method_22_code 19 = .ok (.iload_n 2, 1) := by decide +kernel
theorem d13_20 : decode jdk_68_method_22_code 20 = .ok (.iadd, 1) := by decide +kernel
theorem d13_21 : decode jdk_68_method_22_code 21 = .ok (.invokevirtual 100, 3) := by decide +kernel
theorem d13_24 : decode jdk_68_method_22_code 24 = .ok (.aload_n 0, 1) := by decide +kernel
theorem d13_25 : decode jdk_68_method_22_code 25 = .ok (.aload_n 0, 1) := by decide +kernel
theorem d13_26 : decode jdk_68_method_22_code 26 = .ok (.getfield 79, 3) := by decide +kernel
theorem d13_29 : decode jdk_68_method_22_code 29 = .ok (.aload_n 1, 1) := by decide +kernel
theorem d13_30 : decode jdk_68_method_22_code 30 = .ok (.invokevirtual 208, 3) := by decide +kernel
theorem pd_15 : parseMethodDescriptor "(ILjava/lang/String;)V" = some ⟨[.int, (.object "java/lang/String")], none⟩ := by decide +kernel
theorem d13_33 : decode jdk_68_method_22_code 33 = .ok (.aload_n 0, 1) := by decide +kernel
theorem d13_34 : decode jdk_68_method_22_code 34 = .ok (.dup, 1) := by decide +kernel
theorem d13_35 : decode jdk_68_method_22_code 35 = .ok (.getfield 79, 3) := by decide +kernel
theorem d13_38 : decode jdk_68_method_22_code 38 = .ok (.iload_n 2, 1) := by decide +kernel
theorem d13_39 : decode jdk_68_method_22_code 39 = .ok (.iadd, 1) := by decide +kernel
theorem d13_40 : decode jdk_68_method_22_code 40 = .ok (.putfield 79, 3) := by decide +kernel
theorem d13_43 : decode jdk_68_method_22_code 43 = .ok (.aload_n 0, 1) := by decide +kernel
theorem d13_44 : decode jdk_68_method_22_code 44 = .ok (.areturn, 1) := by decide +kernel
theorem d12_0 : decode jdk_67_method_7_code 0 = .ok (.aload_n 0, 1) := by decide +kernel
theorem d12_1 : decode jdk_67_method_7_code 1 = .ok (.aload_n 1, 1) := by decide +kernel
theorem d12_2 : decode jdk_67_method_7_code 2 = .ok (.invokespecial 29, 3) := by decide +kernel
theorem pd_16 : parseMethodDescriptor "(Ljava/lang/String;)Ljava/lang/AbstractStringBuilder;" = some ⟨[(.object "java/lang/String")], some (.object "java/lang/AbstractStringBuilder")⟩ := by decide +kernel
theorem d12_5 : decode jdk_67_method_7_code 5 = .ok (.pop, 1) := by decide +kernel
theorem d12_6 : decode jdk_67_method_7_code 6 = .ok (.aload_n 0, 1) := by decide +kernel
theorem d12_7 : decode jdk_67_method_7_code 7 = .ok (.areturn, 1) := by decide +kernel
theorem d32_0 : decode jdk_68_method_68_code 0 = .ok (.getstatic 18, 3) := by decide +kernel
theorem d32_3 : decode jdk_68_method_68_code 3 = .ok (.ifCond .eq 14, 3) := by decide +kernel
theorem d32_6 : decode jdk_68_method_68_code 6 = .ok (.aload_n 0, 1) := by decide +kernel
theorem d32_7 : decode jdk_68_method_68_code 7 = .ok (.getfield 22, 3) := by decide +kernel
theorem d32_10 : decode jdk_68_method_68_code 10 = .ok (.ifCond .ne 7, 3) := by decide +kernel
theorem d32_13 : decode jdk_68_method_68_code 13 = .ok (.iconst 1, 1) := by decide +kernel
theorem d32_14 : decode jdk_68_method_68_code 14 = .ok (.goto 4, 3) := by decide +kernel
theorem d32_18 : decode jdk_68_method_68_code 18 = .ok (.ireturn, 1) := by decide +kernel
theorem d22_0 : decode jdk_29_method_65_code 0 = .ok (.iload_n 0, 1) := by decide +kernel
theorem d22_1 : decode jdk_29_method_65_code 1 = .ok (.iload_n 1, 1) := by decide +kernel
theorem d22_2 : decode jdk_29_method_65_code 2 = .ok (.if_icmp .lt 7, 3) := by decide +kernel
theorem d22_9 : decode jdk_29_method_65_code 9 = .ok (.iload_n 1, 1) := by decide +kernel
theorem d22_10 : decode jdk_29_method_65_code 10 = .ok (.ireturn, 1) := by decide +kernel
theorem d22_5 : decode jdk_29_method_65_code 5 = .ok (.iload_n 0, 1) := by decide +kernel
theorem d22_6 : decode jdk_29_method_65_code 6 = .ok (.goto 4, 3) := by decide +kernel
theorem pn_17 : plainName "jdk/internal/util/ArraysSupport" = true := by first | (simp [plainName, overriddenIn]; done) | decide +kernel
theorem d21_0 : decode jdk_48_method_27_code 0 = .ok (.iload_n 0, 1) := by decide +kernel
theorem d21_1 : decode jdk_48_method_27_code 1 = .ok (.iload_n 1, 1) := by decide +kernel
theorem d21_2 : decode jdk_48_method_27_code 2 = .ok (.iload_n 2, 1) := by decide +kernel
theorem d21_3 : decode jdk_48_method_27_code 3 = .ok (.invokestatic 194, 3) := by decide +kernel
theorem pd_18 : parseMethodDescriptor "(II)I" = some ⟨[.int, .int], some .int⟩ := by decide +kernel
theorem d21_6 : decode jdk_48_method_27_code 6 = .ok (.iadd, 1) := by decide +kernel
theorem d21_7 : decode jdk_48_method_27_code 7 = .ok (.istore_n 3, 1) := by decide +kernel
theorem d21_8 : decode jdk_48_method_27_code 8 = .ok (.iconst 0, 1) := by decide +kernel
theorem d21_9 : decode jdk_48_method_27_code 9 = .ok (.iload_n 3, 1) := by decide +kernel
theorem d21_10 : decode jdk_48_method_27_code 10 = .ok (.if_icmp .ge 11, 3) := by decide +kernel
theorem d21_13 : decode jdk_48_method_27_code 13 = .ok (.iload_n 3, 1) := by decide +kernel
theorem d21_14 : decode jdk_48_method_27_code 14 = .ok (.ldc 200, 2) := by decide +kernel
theorem d21_16 : decode jdk_48_method_27_code 16 = .ok (.if_icmp .gt 5, 3) := by decide +kernel
theorem d21_19 : decode jdk_48_method_27_code 19 = .ok (.iload_n 3, 1) := by decide +kernel
theorem d21_20 : decode jdk_48_method_27_code 20 = .ok (.ireturn, 1) := by decide +kernel
theorem d20_0 : decode jdk_68_method_10_code 0 = .ok (.aload_n 0, 1) := by decide +kernel
theorem d20_1 : decode jdk_68_method_10_code 1 = .ok (.getfield 15, 3) := by decide +kernel
theorem d20_4 : decode jdk_68_method_10_code 4 = .ok (.arraylength, 1) := by decide +kernel
theorem d20_5 : decode jdk_68_method_10_code 5 = .ok (.istore_n 2, 1) := by decide +kernel
theorem d20_6 : decode jdk_68_method_10_code 6 = .ok (.iload_n 1, 1) := by decide +kernel
theorem d20_7 : decode jdk_68_method_10_code 7 = .ok (.aload_n 0, 1) := by decide +kernel
theorem d20_8 : decode jdk_68_method_10_code 8 = .ok (.getfield 22, 3) := by decide +kernel
theorem d20_11 : decode jdk_68_method_10_code 11 = .ok (.ishl, 1) := by decide +kernel
theorem d20_12 : decode jdk_68_method_10_code 12 = .ok (.istore_n 3, 1) := by decide +kernel
theorem d20_13 : decode jdk_68_method_10_code 13 = .ok (.iload_n 3, 1) := by decide +kernel
theorem d20_14 : decode jdk_68_method_10_code 14 = .ok (.iload_n 2, 1) := by decide +kernel
theorem d20_15 : decode jdk_68_method_10_code 15 = .ok (.isub, 1) := by decide +kernel
theorem d20_16 : decode jdk_68_method_10_code 16 = .ok (.istore 4, 2) := by decide +kernel
theorem d20_18 : decode jdk_68_method_10_code 18 = .ok (.iload_n 2, 1) := by decide +kernel
theorem d20_19 : decode jdk_68_method_10_code 19 = .ok (.iload 4, 2) := by decide +kernel
theorem d20_21 : decode jdk_68_method_10_code 21 = .ok (.iload_n 2, 1) := by decide +kernel
theorem d20_22 : decode jdk_68_method_10_code 22 = .ok (.iconst 2, 1) := by decide +kernel
theorem d20_23 : decode jdk_68_method_10_code 23 = .ok (.aload_n 0, 1) := by decide +kernel
theorem d20_24 : decode jdk_68_method_10_code 24 = .ok (.getfield 22, 3) := by decide +kernel
theorem d20_27 : decode jdk_68_method_10_code 27 = .ok (.ishl, 1) := by decide +kernel
theorem d20_28 : decode jdk_68_method_10_code 28 = .ok (.iadd, 1) := by decide +kernel
theorem d20_29 : decode jdk_68_method_10_code 29 = .ok (.invokestatic 114, 3) := by decide +kernel
theorem pd_19 : parseMethodDescriptor "(III)I" = some ⟨[.int, .int, .int], some .int⟩ := by decide +kernel
theorem d20_32 : decode jdk_68_method_10_code 32 = .ok (.istore 5, 2) := by decide +kernel
theorem d20_34 : decode jdk_68_method_10_code 34 = .ok (.iload 5, 2) := by decide +kernel
theorem d20_36 : decode jdk_68_method_10_code 36 = .ok (.ldc 39, 2) := by decide +kernel
theorem d20_38 : decode jdk_68_method_10_code 38 = .ok (.if_icmp .ne 13, 3) := by decide +kernel
theorem d20_51 : decode jdk_68_method_10_code 51 = .ok (.iload 5, 2) := by decide +kernel
theorem d20_53 : decode jdk_68_method_10_code 53 = .ok (.aload_n 0, 1) := by decide +kernel
theorem d20_54 : decode jdk_68_method_10_code 54 = .ok (.getfield 22, 3) := by decide +kernel
theorem d20_57 : decode jdk_68_method_10_code 57 = .ok (.ishr, 1) := by decide +kernel
theorem d20_58 : decode jdk_68_method_10_code 58 = .ok (.ireturn, 1) := by decide +kernel
theorem d24_0 : decode jdk_29_method_69_code 0 = .ok (.iload_n 0, 1) := by decide +kernel
theorem d24_1 : decode jdk_29_method_69_code 1 = .ok (.iload_n 1, 1) := by decide +kernel
theorem d24_2 : decode jdk_29_method_69_code 2 = .ok (.if_icmp .gt 7, 3) := by decide +kernel
theorem d24_5 : decode jdk_29_method_69_code 5 = .ok (.iload_n 0, 1) := by decide +kernel
theorem d24_6 : decode jdk_29_method_69_code 6 = .ok (.goto 4, 3) := by decide +kernel
theorem d24_10 : decode jdk_29_method_69_code 10 = .ok (.ireturn, 1) := by decide +kernel
theorem pn_20 : plainName "java/util/Arrays" = true := by first | (simp [plainName, overriddenIn]; done) | decide +kernel
theorem d23_0 : decode jdk_65_method_121_code 0 = .ok (.iload_n 1, 1) := by decide +kernel
theorem d23_1 : decode jdk_65_method_121_code 1 = .ok (.aload_n 0, 1) := by decide +kernel
theorem d23_2 : decode jdk_65_method_121_code 2 = .ok (.arraylength, 1) := by decide +kernel
theorem d23_3 : decode jdk_65_method_121_code 3 = .ok (.if_icmp .ne 11, 3) := by decide +kernel
theorem d23_14 : decode jdk_65_method_121_code 14 = .ok (.iload_n 1, 1) := by decide +kernel
theorem d23_15 : decode jdk_65_method_121_code 15 = .ok (.newarray .byte, 2) := by decide +kernel
theorem d23_17 : decode jdk_65_method_121_code 17 = .ok (.astore_n 2, 1) := by decide +kernel
theorem d23_18 : decode jdk_65_method_121_code 18 = .ok (.aload_n 0, 1) := by decide +kernel
theorem d23_19 : decode jdk_65_method_121_code 19 = .ok (.iconst 0, 1) := by decide +kernel
theorem d23_20 : decode jdk_65_method_121_code 20 = .ok (.aload_n 2, 1) := by decide +kernel
theorem d23_21 : decode jdk_65_method_121_code 21 = .ok (.iconst 0, 1) := by decide +kernel
theorem d23_22 : decode jdk_65_method_121_code 22 = .ok (.aload_n 0, 1) := by decide +kernel
theorem d23_23 : decode jdk_65_method_121_code 23 = .ok (.arraylength, 1) := by decide +kernel
theorem d23_24 : decode jdk_65_method_121_code 24 = .ok (.iload_n 1, 1) := by decide +kernel
theorem d23_25 : decode jdk_65_method_121_code 25 = .ok (.invokestatic 304, 3) := by decide +kernel
theorem d23_28 : decode jdk_65_method_121_code 28 = .ok (.invokestatic 150, 3) := by decide +kernel
theorem d23_31 : decode jdk_65_method_121_code 31 = .ok (.aload_n 2, 1) := by decide +kernel
theorem d23_32 : decode jdk_65_method_121_code 32 = .ok (.areturn, 1) := by decide +kernel
theorem d16_17 : decode jdk_68_method_9_code 17 = .ok (.aload_n 0, 1) := by decide +kernel
theorem d16_18 : decode jdk_68_method_9_code 18 = .ok (.aload_n 0, 1) := by decide +kernel
theorem d16_19 : decode jdk_68_method_9_code 19 = .ok (.getfield 15, 3) := by decide +kernel
theorem d16_22 : decode jdk_68_method_9_code 22 = .ok (.aload_n 0, 1) := by decide +kernel
theorem d16_23 : decode jdk_68_method_9_code 23 = .ok (.iload_n 1, 1) := by decide +kernel
theorem d16_24 : decode jdk_68_method_9_code 24 = .ok (.invokevirtual 104, 3) := by decide +kernel
theorem pd_21 : parseMethodDescriptor "(I)I" = some ⟨[.int], some .int⟩ := by decide +kernel
theorem d16_27 : decode jdk_68_method_9_code 27 = .ok (.aload_n 0, 1) := by decide +kernel
theorem d16_28 : decode jdk_68_method_9_code 28 = .ok (.getfield 22, 3) := by decide +kernel
theorem d16_31 : decode jdk_68_method_9_code 31 = .ok (.ishl, 1) := by decide +kernel
theorem d16_32 : decode jdk_68_method_9_code 32 = .ok (.invokestatic 108, 3) := by decide +kernel
theorem pd_22 : parseMethodDescriptor "([BI)[B" = some ⟨[(.array .byte), .int], some (.array .byte)⟩ := by decide +kernel
theorem d16_35 : decode jdk_68_method_9_code 35 = .ok (.putfield 15, 3) := by decide +kernel
theorem d29_0 : decode jdk_68_method_64_code 0 = .ok (.aload_n 0, 1) := by decide +kernel
theorem d29_1 : decode jdk_68_method_64_code 1 = .ok (.getfield 15, 3) := by decide +kernel
theorem d29_4 : decode jdk_68_method_64_code 4 = .ok (.areturn, 1) := by decide +kernel
theorem d31_0 : decode jdk_68_method_6_code 0 = .ok (.aload_n 0, 1) := by decide +kernel
theorem d31_1 : decode jdk_68_method_6_code 1 = .ok (.getfield 79, 3) := by decide +kernel
theorem d31_4 : decode jdk_68_method_6_code 4 = .ok (.ireturn, 1) := by decide +kernel
theorem d30_0 : decode jdk_67_method_93_code 0 = .ok (.aload_n 0, 1) := by decide +kernel
theorem d30_1 : decode jdk_67_method_93_code 1 = .ok (.invokespecial 343, 3) := by decide +kernel
theorem d30_4 : decode jdk_67_method_93_code 4 = .ok (.ireturn, 1) := by decide +kernel
theorem d35_0 : decode jdk_65_method_131_code 0 = .ok (.iload_n 1, 1) := by decide +kernel
theorem d35_1 : decode jdk_65_method_131_code 1 = .ok (.iload_n 0, 1) := by decide +kernel
theorem d35_2 : decode jdk_65_method_131_code 2 = .ok (.if_icmp .ge 35, 3) := by decide +kernel
theorem d35_37 : decode jdk_65_method_131_code 37 = .ok (.return_, 1) := by decide +kernel
theorem d24_9 : decode jdk_29_method_69_code 9 = .ok (.iload_n 1, 1) := by decide +kernel
theorem d34_0 : decode jdk_65_method_133_code 0 = .ok (.iload_n 1, 1) := by decide +kernel
theorem d34_1 : decode jdk_65_method_133_code 1 = .ok (.iload_n 2, 1) := by decide +kernel
theorem d34_2 : decode jdk_65_method_133_code 2 = .ok (.invokestatic 343, 3) := by decide +kernel
theorem d34_5 : decode jdk_65_method_133_code 5 = .ok (.iload_n 2, 1) := by decide +kernel
theorem d34_6 : decode jdk_65_method_133_code 6 = .ok (.iload_n 1, 1) := by decide +kernel
theorem d34_7 : decode jdk_65_method_133_code 7 = .ok (.isub, 1) := by decide +kernel
theorem d34_8 : decode jdk_65_method_133_code 8 = .ok (.istore_n 3, 1) := by decide +kernel
theorem d34_9 : decode jdk_65_method_133_code 9 = .ok (.iload_n 3, 1) := by decide +kernel
theorem d34_10 : decode jdk_65_method_133_code 10 = .ok (.newarray .byte, 2) := by decide +kernel
theorem d34_12 : decode jdk_65_method_133_code 12 = .ok (.astore 4, 2) := by decide +kernel
theorem d34_14 : decode jdk_65_method_133_code 14 = .ok (.aload_n 0, 1) := by decide +kernel
theorem d34_15 : decode jdk_65_method_133_code 15 = .ok (.iload_n 1, 1) := by decide +kernel
theorem d34_16 : decode jdk_65_method_133_code 16 = .ok (.aload 4, 2) := by decide +kernel
theorem d34_18 : decode jdk_65_method_133_code 18 = .ok (.iconst 0, 1) := by decide +kernel
theorem d34_19 : decode jdk_65_method_133_code 19 = .ok (.aload_n 0, 1) := by decide +kernel
theorem d34_20 : decode jdk_65_method_133_code 20 = .ok (.arraylength, 1) := by decide +kernel
theorem d34_21 : decode jdk_65_method_133_code 21 = .ok (.iload_n 1, 1) := by decide +kernel
theorem d34_22 : decode jdk_65_method_133_code 22 = .ok (.isub, 1) := by decide +kernel
theorem d34_23 : decode jdk_65_method_133_code 23 = .ok (.iload_n 3, 1) := by decide +kernel
theorem d34_24 : decode jdk_65_method_133_code 24 = .ok (.invokestatic 304, 3) := by decide +kernel
theorem d34_27 : decode jdk_65_method_133_code 27 = .ok (.invokestatic 150, 3) := by decide +kernel
theorem d34_30 : decode jdk_65_method_133_code 30 = .ok (.aload 4, 2) := by decide +kernel
theorem d34_32 : decode jdk_65_method_133_code 32 = .ok (.areturn, 1) := by decide +kernel
theorem d33_0 : decode jdk_65_method_132_code 0 = .ok (.iload_n 1, 1) := by decide +kernel
theorem d33_1 : decode jdk_65_method_132_code 1 = .ok (.ifCond .ne 9, 3) := by decide +kernel
theorem d33_4 : decode jdk_65_method_132_code 4 = .ok (.iload_n 2, 1) := by decide +kernel
theorem d33_5 : decode jdk_65_method_132_code 5 = .ok (.aload_n 0, 1) := by decide +kernel
theorem d33_6 : decode jdk_65_method_132_code 6 = .ok (.arraylength, 1) := by decide +kernel
theorem d33_7 : decode jdk_65_method_132_code 7 = .ok (.if_icmp .eq 10, 3) := by decide +kernel
theorem d33_10 : decode jdk_65_method_132_code 10 = .ok (.aload_n 0, 1) := by decide +kernel
theorem d33_11 : decode jdk_65_method_132_code 11 = .ok (.iload_n 1, 1) := by decide +kernel
theorem d33_12 : decode jdk_65_method_132_code 12 = .ok (.iload_n 2, 1) := by decide +kernel
theorem d33_13 : decode jdk_65_method_132_code 13 = .ok (.invokestatic 339, 3) := by decide +kernel
theorem pd_23 : parseMethodDescriptor "([BII)[B" = some ⟨[(.array .byte), .int, .int], some (.array .byte)⟩ := by decide +kernel
theorem d33_16 : decode jdk_65_method_132_code 16 = .ok (.areturn, 1) := by decide +kernel
theorem d28_0 : decode jdk_42_method_150_code 0 = .ok (.aload_n 0, 1) := by decide +kernel
theorem d28_1 : decode jdk_42_method_150_code 1 = .ok (.invokespecial 1, 3) := by decide +kernel
theorem d28_4 : decode jdk_42_method_150_code 4 = .ok (.aload_n 1, 1) := by decide +kernel
theorem d28_5 : decode jdk_42_method_150_code 5 = .ok (.invokevirtual 552, 3) := by decide +kernel
theorem pd_24 : parseMethodDescriptor "()[B" = some ⟨[], some (.array .byte)⟩ := by decide +kernel
theorem d28_8 : decode jdk_42_method_150_code 8 = .ok (.astore_n 3, 1) := by decide +kernel
theorem d28_9 : decode jdk_42_method_150_code 9 = .ok (.aload_n 1, 1) := by decide +kernel
theorem d28_10 : decode jdk_42_method_150_code 10 = .ok (.invokevirtual 549, 3) := by decide +kernel
theorem d28_13 : decode jdk_42_method_150_code 13 = .ok (.istore 4, 2) := by decide +kernel
theorem d28_15 : decode jdk_42_method_150_code 15 = .ok (.aload_n 1, 1) := by decide +kernel
theorem d28_16 : decode jdk_42_method_150_code 16 = .ok (.invokevirtual 1047, 3) := by decide +kernel
theorem d28_19 : decode jdk_42_method_150_code 19 = .ok (.ifCond .eq 22, 3) := by decide +kernel
theorem d28_22 : decode jdk_42_method_150_code 22 = .ok (.aload_n 0, 1) := by decide +kernel
theorem d28_23 : decode jdk_42_method_150_code 23 = .ok (.iconst 0, 1) := by decide +kernel
theorem d28_24 : decode jdk_42_method_150_code 24 = .ok (.putfield 15, 3) := by decide +kernel
theorem d28_27 : decode jdk_42_method_150_code 27 = .ok (.aload_n 0, 1) := by decide +kernel
theorem d28_28 : decode jdk_42_method_150_code 28 = .ok (.aload_n 3, 1) := by decide +kernel
theorem d28_29 : decode jdk_42_method_150_code 29 = .ok (.iconst 0, 1) := by decide +kernel
theorem d28_30 : decode jdk_42_method_150_code 30 = .ok (.iload 4, 2) := by decide +kernel
theorem d28_32 : decode jdk_42_method_150_code 32 = .ok (.invokestatic 54, 3) := by decide +kernel
theorem d28_35 : decode jdk_42_method_150_code 35 = .ok (.putfield 9, 3) := by decide +kernel
theorem d28_38 : decode jdk_42_method_150_code 38 = .ok (.goto 59, 3) := by decide +kernel
theorem d28_97 : decode jdk_42_method_150_code 97 = .ok (.return_, 1) := by decide +kernel
theorem d27_0 : decode jdk_42_method_53_code 0 = .ok (.aload_n 0, 1) := by decide +kernel
theorem d27_1 : decode jdk_42_method_53_code 1 = .ok (.aload_n 1, 1) := by decide +kernel
theorem d27_2 : decode jdk_42_method_53_code 2 = .ok (.aconst_null, 1) := by decide +kernel
theorem d27_3 : decode jdk_42_method_53_code 3 = .ok (.invokespecial 489, 3) := by decide +kernel
theorem pd_25 : parseMethodDescriptor "(Ljava/lang/AbstractStringBuilder;Ljava/lang/Void;)V" = some ⟨[(.object "java/lang/AbstractStringBuilder"), (.object "java/lang/Void")], none⟩ := by decide +kernel
theorem d27_6 : decode jdk_42_method_53_code 6 = .ok (.return_, 1) := by decide +kernel
theorem d26_0 : decode jdk_67_method_42_code 0 = .ok (.new 18, 3) := by decide +kernel
theorem d26_3 : decode jdk_67_method_42_code 3 = .ok (.dup, 1) := by decide +kernel
theorem d26_4 : decode jdk_67_method_42_code 4 = .ok (.aload_n 0, 1) := by decide +kernel
theorem d26_5 : decode jdk_67_method_42_code 5 = .ok (.invokespecial 137, 3) := by decide +kernel
theorem pd_26 : parseMethodDescriptor "(Ljava/lang/StringBuilder;)V" = some ⟨[(.object "java/lang/StringBuilder")], none⟩ := by decide +kernel
theorem d26_8 : decode jdk_67_method_42_code 8 = .ok (.areturn, 1) := by decide +kernel
theorem d33_17 : decode jdk_65_method_132_code 17 = .ok (.aload_n 0, 1) := by decide +kernel
theorem d33_18 : decode jdk_65_method_132_code 18 = .ok (.invokevirtual 310, 3) := by decide +kernel
theorem d33_21 : decode jdk_65_method_132_code 21 = .ok (.checkcast 311, 3) := by decide +kernel
theorem d33_24 : decode jdk_65_method_132_code 24 = .ok (.areturn, 1) := by decide +kernel
theorem pn_27 : plainName "com/example/savepoint/savepoint/AnnotationLookupNeverAppliesPinLaw" = true := by first | (simp [plainName, overriddenIn]; done) | decide +kernel
theorem d2_0 : decode method_3_code 0 = .ok (.iload_n 0, 1) := by decide +kernel
theorem d2_1 : decode method_3_code 1 = .ok (.bipush 8, 2) := by decide +kernel
theorem d2_3 : decode method_3_code 3 = .ok (.iload_n 1, 1) := by decide +kernel
theorem d2_4 : decode method_3_code 4 = .ok (.imul, 1) := by decide +kernel
theorem d2_5 : decode method_3_code 5 = .ok (.iushr, 1) := by decide +kernel
theorem d2_6 : decode method_3_code 6 = .ok (.sipush 255, 3) := by decide +kernel
theorem d2_9 : decode method_3_code 9 = .ok (.iand, 1) := by decide +kernel
theorem d2_10 : decode method_3_code 10 = .ok (.i2c, 1) := by decide +kernel
theorem d2_11 : decode method_3_code 11 = .ok (.ireturn, 1) := by decide +kernel
theorem d1_0 : decode method_4_code 0 = .ok (.iload_n 1, 1) := by decide +kernel
theorem d1_1 : decode method_4_code 1 = .ok (.ifCond .ne 6, 3) := by decide +kernel
theorem d1_4 : decode method_4_code 4 = .ok (.ldc 13, 2) := by decide +kernel
theorem d1_6 : decode method_4_code 6 = .ok (.areturn, 1) := by decide +kernel
theorem d1_7 : decode method_4_code 7 = .ok (.iload_n 1, 1) := by decide +kernel
theorem d1_8 : decode method_4_code 8 = .ok (.iconst 1, 1) := by decide +kernel
theorem d1_9 : decode method_4_code 9 = .ok (.if_icmp .ne 22, 3) := by decide +kernel
theorem d1_12 : decode method_4_code 12 = .ok (.new 24, 3) := by decide +kernel
theorem d1_15 : decode method_4_code 15 = .ok (.dup, 1) := by decide +kernel
theorem d1_16 : decode method_4_code 16 = .ok (.iconst 1, 1) := by decide +kernel
theorem d1_17 : decode method_4_code 17 = .ok (.newarray .char, 2) := by decide +kernel
theorem d1_19 : decode method_4_code 19 = .ok (.dup, 1) := by decide +kernel
theorem d1_20 : decode method_4_code 20 = .ok (.iconst 0, 1) := by decide +kernel
theorem d1_21 : decode method_4_code 21 = .ok (.iload_n 0, 1) := by decide +kernel
theorem d1_22 : decode method_4_code 22 = .ok (.iconst 0, 1) := by decide +kernel
theorem d1_23 : decode method_4_code 23 = .ok (.invokestatic 41, 3) := by decide +kernel
theorem pd_28 : parseMethodDescriptor "(II)C" = some ⟨[.int, .int], some .char⟩ := by decide +kernel
theorem d1_26 : decode method_4_code 26 = .ok (.castore, 1) := by decide +kernel
theorem d1_27 : decode method_4_code 27 = .ok (.invokespecial 45, 3) := by decide +kernel
theorem pd_29 : parseMethodDescriptor "([C)V" = some ⟨[(.array .char)], none⟩ := by decide +kernel
theorem d1_30 : decode method_4_code 30 = .ok (.areturn, 1) := by decide +kernel
theorem d1_31 : decode method_4_code 31 = .ok (.iload_n 1, 1) := by decide +kernel
theorem d1_32 : decode method_4_code 32 = .ok (.iconst 2, 1) := by decide +kernel
theorem d1_33 : decode method_4_code 33 = .ok (.if_icmp .ne 30, 3) := by decide +kernel
theorem d1_36 : decode method_4_code 36 = .ok (.new 24, 3) := by decide +kernel
theorem d1_39 : decode method_4_code 39 = .ok (.dup, 1) := by decide +kernel
theorem d1_40 : decode method_4_code 40 = .ok (.iconst 2, 1) := by decide +kernel
theorem d1_41 : decode method_4_code 41 = .ok (.newarray .char, 2) := by decide +kernel
theorem d1_43 : decode method_4_code 43 = .ok (.dup, 1) := by decide +kernel
theorem d1_44 : decode method_4_code 44 = .ok (.iconst 0, 1) := by decide +kernel
theorem d1_45 : decode method_4_code 45 = .ok (.iload_n 0, 1) := by decide +kernel
theorem d1_46 : decode method_4_code 46 = .ok (.iconst 0, 1) := by decide +kernel
theorem d1_47 : decode method_4_code 47 = .ok (.invokestatic 41, 3) := by decide +kernel
theorem d1_50 : decode method_4_code 50 = .ok (.castore, 1) := by decide +kernel
theorem d1_51 : decode method_4_code 51 = .ok (.dup, 1) := by decide +kernel
theorem d1_52 : decode method_4_code 52 = .ok (.iconst 1, 1) := by decide +kernel
theorem d1_53 : decode method_4_code 53 = .ok (.iload_n 0, 1) := by decide +kernel
theorem d1_54 : decode method_4_code 54 = .ok (.iconst 1, 1) := by decide +kernel
theorem d1_55 : decode method_4_code 55 = .ok (.invokestatic 41, 3) := by decide +kernel
theorem d1_58 : decode method_4_code 58 = .ok (.castore, 1) := by decide +kernel
theorem d1_59 : decode method_4_code 59 = .ok (.invokespecial 45, 3) := by decide +kernel
theorem d1_62 : decode method_4_code 62 = .ok (.areturn, 1) := by decide +kernel
theorem d1_63 : decode method_4_code 63 = .ok (.new 24, 3) := by decide +kernel
theorem d1_66 : decode method_4_code 66 = .ok (.dup, 1) := by decide +kernel
theorem d1_67 : decode method_4_code 67 = .ok (.iconst 3, 1) := by decide +kernel
theorem d1_68 : decode method_4_code 68 = .ok (.newarray .char, 2) := by decide +kernel
theorem d1_70 : decode method_4_code 70 = .ok (.dup, 1) := by decide +kernel
theorem d1_71 : decode method_4_code 71 = .ok (.iconst 0, 1) := by decide +kernel
theorem d1_72 : decode method_4_code 72 = .ok (.iload_n 0, 1) := by decide +kernel
theorem d1_73 : decode method_4_code 73 = .ok (.iconst 0, 1) := by decide +kernel
theorem d1_74 : decode method_4_code 74 = .ok (.invokestatic 41, 3) := by decide +kernel
theorem d1_77 : decode method_4_code 77 = .ok (.castore, 1) := by decide +kernel
theorem d1_78 : decode method_4_code 78 = .ok (.dup, 1) := by decide +kernel
theorem d1_79 : decode method_4_code 79 = .ok (.iconst 1, 1) := by decide +kernel
theorem d1_80 : decode method_4_code 80 = .ok (.iload_n 0, 1) := by decide +kernel
theorem d1_81 : decode method_4_code 81 = .ok (.iconst 1, 1) := by decide +kernel
theorem d1_82 : decode method_4_code 82 = .ok (.invokestatic 41, 3) := by decide +kernel
theorem d1_85 : decode method_4_code 85 = .ok (.castore, 1) := by decide +kernel
theorem d1_86 : decode method_4_code 86 = .ok (.dup, 1) := by decide +kernel
theorem d1_87 : decode method_4_code 87 = .ok (.iconst 2, 1) := by decide +kernel
theorem d1_88 : decode method_4_code 88 = .ok (.iload_n 0, 1) := by decide +kernel
theorem d1_89 : decode method_4_code 89 = .ok (.iconst 2, 1) := by decide +kernel
theorem d1_90 : decode method_4_code 90 = .ok (.invokestatic 41, 3) := by decide +kernel
theorem d1_93 : decode method_4_code 93 = .ok (.castore, 1) := by decide +kernel
theorem d1_94 : decode method_4_code 94 = .ok (.invokespecial 45, 3) := by decide +kernel
theorem d1_97 : decode method_4_code 97 = .ok (.areturn, 1) := by decide +kernel
theorem d38_0 : decode method_5_code 0 = .ok (.iload_n 3, 1) := by decide +kernel
theorem d38_1 : decode method_5_code 1 = .ok (.iconst 1, 1) := by decide +kernel
theorem d38_2 : decode method_5_code 2 = .ok (.if_icmp .lt 16, 3) := by decide +kernel
theorem d38_18 : decode method_5_code 18 = .ok (.iload_n 3, 1) := by decide +kernel
theorem d38_19 : decode method_5_code 19 = .ok (.iconst 2, 1) := by decide +kernel
theorem d38_20 : decode method_5_code 20 = .ok (.if_icmp .lt 18, 3) := by decide +kernel
theorem d38_38 : decode method_5_code 38 = .ok (.iload_n 3, 1) := by decide +kernel
theorem d38_39 : decode method_5_code 39 = .ok (.iconst 3, 1) := by decide +kernel
theorem d38_40 : decode method_5_code 40 = .ok (.if_icmp .lt 18, 3) := by decide +kernel
theorem d38_58 : decode method_5_code 58 = .ok (.iconst 1, 1) := by decide +kernel
theorem d38_59 : decode method_5_code 59 = .ok (.goto 4, 3) := by decide +kernel
theorem d38_63 : decode method_5_code 63 = .ok (.ireturn, 1) := by decide +kernel
theorem d38_43 : decode method_5_code 43 = .ok (.aload_n 0, 1) := by decide +kernel
theorem d38_44 : decode method_5_code 44 = .ok (.iload_n 1, 1) := by decide +kernel
theorem d38_45 : decode method_5_code 45 = .ok (.iconst 2, 1) := by decide +kernel
theorem d38_46 : decode method_5_code 46 = .ok (.iadd, 1) := by decide +kernel
theorem d38_47 : decode method_5_code 47 = .ok (.invokevirtual 37, 3) := by decide +kernel
theorem pd_30 : parseMethodDescriptor "(I)C" = some ⟨[.int], some .char⟩ := by decide +kernel
theorem d38_50 : decode method_5_code 50 = .ok (.iload_n 2, 1) := by decide +kernel
theorem d38_51 : decode method_5_code 51 = .ok (.iconst 2, 1) := by decide +kernel
theorem d38_52 : decode method_5_code 52 = .ok (.invokestatic 41, 3) := by decide +kernel
theorem d38_55 : decode method_5_code 55 = .ok (.if_icmp .ne 7, 3) := by decide +kernel
theorem d38_23 : decode method_5_code 23 = .ok (.aload_n 0, 1) := by decide +kernel
theorem d38_24 : decode method_5_code 24 = .ok (.iload_n 1, 1) := by decide +kernel
theorem d38_25 : decode method_5_code 25 = .ok (.iconst 1, 1) := by decide +kernel
theorem d38_26 : decode method_5_code 26 = .ok (.iadd, 1) := by decide +kernel
theorem d38_27 : decode method_5_code 27 = .ok (.invokevirtual 37, 3) := by decide +kernel
theorem d38_30 : decode method_5_code 30 = .ok (.iload_n 2, 1) := by decide +kernel
theorem d38_31 : decode method_5_code 31 = .ok (.iconst 1, 1) := by decide +kernel
theorem d38_32 : decode method_5_code 32 = .ok (.invokestatic 41, 3) := by decide +kernel
theorem d38_35 : decode method_5_code 35 = .ok (.if_icmp .ne 27, 3) := by decide +kernel
theorem d38_5 : decode method_5_code 5 = .ok (.aload_n 0, 1) := by decide +kernel
theorem d38_6 : decode method_5_code 6 = .ok (.iload_n 1, 1) := by decide +kernel
theorem d38_7 : decode method_5_code 7 = .ok (.invokevirtual 37, 3) := by decide +kernel
theorem d38_10 : decode method_5_code 10 = .ok (.iload_n 2, 1) := by decide +kernel
theorem d38_11 : decode method_5_code 11 = .ok (.iconst 0, 1) := by decide +kernel
theorem d38_12 : decode method_5_code 12 = .ok (.invokestatic 41, 3) := by decide +kernel
theorem d38_15 : decode method_5_code 15 = .ok (.if_icmp .ne 47, 3) := by decide +kernel
theorem pn_31 : plainName "com/example/savepoint/savepoint/AnnotationLookup" = true := by first | (simp [plainName, overriddenIn]; done) | decide +kernel
theorem d25_0 : decode prog_1_method_6_code 0 = .ok (.new 108, 3) := by decide +kernel
theorem d25_3 : decode prog_1_method_6_code 3 = .ok (.dup, 1) := by decide +kernel
theorem d25_4 : decode prog_1_method_6_code 4 = .ok (.invokespecial 110, 3) := by decide +kernel
theorem pd_32 : parseMethodDescriptor "()V" = some ⟨[], none⟩ := by decide +kernel
theorem d25_7 : decode prog_1_method_6_code 7 = .ok (.ldc 160, 2) := by decide +kernel
theorem d25_9 : decode prog_1_method_6_code 9 = .ok (.invokevirtual 113, 3) := by decide +kernel
theorem pd_33 : parseMethodDescriptor "(Ljava/lang/String;)Ljava/lang/StringBuilder;" = some ⟨[(.object "java/lang/String")], some (.object "java/lang/StringBuilder")⟩ := by decide +kernel
theorem d25_12 : decode prog_1_method_6_code 12 = .ok (.aload_n 0, 1) := by decide +kernel
theorem d25_13 : decode prog_1_method_6_code 13 = .ok (.invokevirtual 113, 3) := by decide +kernel
theorem d25_16 : decode prog_1_method_6_code 16 = .ok (.ldc 162, 2) := by decide +kernel
theorem d25_18 : decode prog_1_method_6_code 18 = .ok (.invokevirtual 113, 3) := by decide +kernel
theorem d25_21 : decode prog_1_method_6_code 21 = .ok (.invokevirtual 137, 3) := by decide +kernel
theorem pd_34 : parseMethodDescriptor "()Ljava/lang/String;" = some ⟨[], some (.object "java/lang/String")⟩ := by decide +kernel
theorem d25_24 : decode prog_1_method_6_code 24 = .ok (.areturn, 1) := by decide +kernel
theorem d9_0 : decode prog_1_method_5_code 0 = .ok (.new 108, 3) := by decide +kernel
theorem d9_3 : decode prog_1_method_5_code 3 = .ok (.dup, 1) := by decide +kernel
theorem d9_4 : decode prog_1_method_5_code 4 = .ok (.invokespecial 110, 3) := by decide +kernel
theorem d9_7 : decode prog_1_method_5_code 7 = .ok (.aload_n 0, 1) := by decide +kernel
theorem d9_8 : decode prog_1_method_5_code 8 = .ok (.invokevirtual 113, 3) := by decide +kernel
theorem d9_11 : decode prog_1_method_5_code 11 = .ok (.ldc 154, 2) := by decide +kernel
theorem d9_13 : decode prog_1_method_5_code 13 = .ok (.invokevirtual 113, 3) := by decide +kernel
theorem d9_16 : decode prog_1_method_5_code 16 = .ok (.aload_n 1, 1) := by decide +kernel
theorem d9_17 : decode prog_1_method_5_code 17 = .ok (.invokevirtual 113, 3) := by decide +kernel
theorem d9_20 : decode prog_1_method_5_code 20 = .ok (.aload_n 2, 1) := by decide +kernel
theorem d9_21 : decode prog_1_method_5_code 21 = .ok (.invokestatic 156, 3) := by decide +kernel
theorem pd_35 : parseMethodDescriptor "(Ljava/lang/String;)Ljava/lang/String;" = some ⟨[(.object "java/lang/String")], some (.object "java/lang/String")⟩ := by decide +kernel
theorem d9_24 : decode prog_1_method_5_code 24 = .ok (.invokevirtual 113, 3) := by decide +kernel
theorem d9_27 : decode prog_1_method_5_code 27 = .ok (.invokevirtual 137, 3) := by decide +kernel
theorem d9_30 : decode prog_1_method_5_code 30 = .ok (.areturn, 1) := by decide +kernel
theorem own_three (f : Int32) : (f &&& (3 : Int32)) = (0 : Int32) ∨ (f &&& (3 : Int32)) = (1 : Int32) ∨ (f &&& (3 : Int32)) = (2 : Int32) ∨ (f &&& (3 : Int32)) = (3 : Int32) := by
  have h0 := c_and f 3 (by decide)
  have e3 : (3 : Int32).toInt = 3 := rfl
  have e0 : (0 : Int32).toInt = 0 := rfl
  have e1 : (1 : Int32).toInt = 1 := rfl
  have e2 : (2 : Int32).toInt = 2 := rfl
  simp only [← Int32.toInt_inj, e0, e1, e2, e3]
  omega
theorem pd_36 : parseMethodDescriptor "(II)Ljava/lang/String;" = some ⟨[.int, .int], some (.object "java/lang/String")⟩ := by decide +kernel
theorem pd_37 : parseMethodDescriptor "(Ljava/lang/String;Ljava/lang/String;Ljava/lang/String;)Ljava/lang/String;" = some ⟨[(.object "java/lang/String"), (.object "java/lang/String"), (.object "java/lang/String")], some (.object "java/lang/String")⟩ := by decide +kernel
theorem pd_38 : parseMethodDescriptor "(Ljava/lang/Object;)Z" = some ⟨[(.object "java/lang/Object")], some .boolean⟩ := by decide +kernel
theorem pd_39 : parseMethodDescriptor "(Ljava/lang/String;III)Z" = some ⟨[(.object "java/lang/String"), .int, .int, .int], some .boolean⟩ := by decide +kernel
def Q_cod (Z : State) (x : Addr) (G1 : Int32) (h0 : Heap) (n0 : Nat) (v : Option Value) (h : Heap) (L : List Loc) : Prop := v = some (iV 0) ∧ Fr n0 L ∧ h = h0
theorem ef_cod (m : MethodId) (x0 : Addr)  : entryFrame m #[(.ref x0)] 1 = mkF m 0 #[vR x0] [] := by first | (simp [entryFrame, mkF, argsToLocals, Value.category]; done) | rfl
set_option maxRecDepth 65536 in
set_option maxHeartbeats 40000000 in
theorem c_cod (l : Launch) (Z : State) (a0 : Array Value) (hw : HW a0 Z) (ws : List Jvm.Cond) (x : Addr) (G1 : Int32) (h0 : Heap) (n0 : Nat) (Z0 : n0 ≤ h0.size) (Es : Exa Z h0 x "java/lang/String") (Cs : Fld Z h0 x "java/lang/String" "coder" "B" (iV 0)) (O2 : Sta Z Z.heap "java/lang/String" "COMPACT_STRINGS" "Z" (.int G1)) (P5 : ¬ (G1 = (0 : Int32))) (X00 : Old Z n0 h0) :
  MetFree l yM0 (head1 (Jvm.Cond.code yM0 jdk_42_method_152_code 1 (some .byte) :: ws) ({ frames := 0, cells := 0, slots := 0, locals := 0 } : Room)) (fun a U => a = #[(.ref x)] ∧ Z.Warmed39 U.vm ∧ U.heap = h0) (fun _ _ _ _ _ => True) (fun _ U o U' => ∃ v L, o = .returned v ∧ (Q_cod Z x G1 h0 n0) v U'.heap L ∧ FrameEnd U o U' L ({ frames := 0, cells := 0, slots := 0, locals := 0 } : Room).cells ({ frames := 0, cells := 0, slots := 0, locals := 0 } : Room).slots) := by
 refine MetFree.of_bodySF (plainFor_of_name pn_1) hisR ?_
 intro p e s m args below meth c s₁ Bd hml0 hP hK
 obtain ⟨rfl, hZ, hHp⟩ := hP
 have hx := Bd.exec
 have D := fun {pc : Nat} {r} (h : decode _ pc = r) => hb Bd.bytes h
 have hml : c.maxLocals = 1 := hml0
 have hown : s.vm.findClass "java/lang/String" = some m.cls := findClass_of_methodNamed Bd.named
 have hnm := (name_of_methodNamed Bd.named Bd.method).1
 have X0 : Stand p l e ({ frames := 0, cells := 0, slots := 0, locals := 0 } : Room) s m #[(.ref x)] below meth c s₁ [] 0 0 := Stand.of_body Bd
 have e0 : s₁.heap = h0 := by rw [← hHp, Bd.state]; rfl
 have N0 := Fr.nil n0
 refine ownOut (P := (Q_cod Z x G1 h0 n0)) ?_
 refine ownBy (A := s₁.setTop (mkF m 0 #[vR x] [])) (fun t k => castTop (ef_cod m x) k) ?_
 refine own_getS X0 hx hZ hown (host := "") (Or.inl (Wd21 hw)) Via.refl e0 (O2.ext X00.2) (D d15_0) (fun T21 X21 e21 => ?_)
 refine oTo T21 (mkF m 7 #[vR x] [(.ref x)]) (fun t kt => ?_) ?_
 ·refine XS.ifNo X21.here hx rfl (D d15_3) rfl ((if0 _ _).trans (feq P5).1) ?_
  refine XS.aloadN X21.here hx rfl (D d15_6) rfl rfl ?_
  exact kt
 refine own_getF X21 hx hZ hown (host := "") (Or.inl (Wd33 hw)) Via.refl e21 Cs (D d15_7) (fun T22 X22 e22 => ?_)
 refine oTo T22 (mkF m 14 #[vR x] [(iV 0)]) (fun t kt => ?_) ?_
 ·refine XS.goto X22.here hx rfl (pc0 := 10) (pc' := 14) rfl (D d15_10) (by decide) (by decide) ?_
  exact kt
 refine ownRet X22 Bd.notSynchronized (v := some (.int (nar .byte (0 : Int32)))) (fun h => by rw [Bd.returns] at h; cases h) ?_ (oLe rfl) (oLe rfl) (fun fs hr => retN X22 hx (t := .byte) Bd.returns (by simp) (D d15_14) hr)
 show (Q_cod Z x G1 h0 n0) (some (.int (nar .byte (0 : Int32)))) T22.heap _
 rw [e22]
 exact ⟨rfl, N0, rfl⟩
def Q_isl (Z : State) (x : Addr) (G1 : Int32) (h0 : Heap) (n0 : Nat) (v : Option Value) (h : Heap) (L : List Loc) : Prop := v = some (iV 1) ∧ Fr n0 L ∧ h = h0
theorem ef_isl (m : MethodId) (x0 : Addr)  : entryFrame m #[(.ref x0)] 1 = mkF m 0 #[vR x0] [] := by first | (simp [entryFrame, mkF, argsToLocals, Value.category]; done) | rfl
set_option maxRecDepth 65536 in
set_option maxHeartbeats 40000000 in
theorem c_isl (l : Launch) (Z : State) (a0 : Array Value) (hw : HW a0 Z) (ws : List Jvm.Cond) (x : Addr) (G1 : Int32) (h0 : Heap) (n0 : Nat) (Z0 : n0 ≤ h0.size) (Es : Exa Z h0 x "java/lang/String") (Cs : Fld Z h0 x "java/lang/String" "coder" "B" (iV 0)) (O2 : Sta Z Z.heap "java/lang/String" "COMPACT_STRINGS" "Z" (.int G1)) (P5 : ¬ (G1 = (0 : Int32))) (X00 : Old Z n0 h0) :
  MetFree l yM1 (head1 (Jvm.Cond.code yM1 jdk_42_method_154_code 1 (some .boolean) :: ws) ({ frames := 0, cells := 0, slots := 0, locals := 0 } : Room)) (fun a U => a = #[(.ref x)] ∧ Z.Warmed39 U.vm ∧ U.heap = h0) (fun _ _ _ _ _ => True) (fun _ U o U' => ∃ v L, o = .returned v ∧ (Q_isl Z x G1 h0 n0) v U'.heap L ∧ FrameEnd U o U' L ({ frames := 0, cells := 0, slots := 0, locals := 0 } : Room).cells ({ frames := 0, cells := 0, slots := 0, locals := 0 } : Room).slots) := by
 refine MetFree.of_bodySF (plainFor_of_name pn_1) hisR ?_
 intro p e s m args below meth c s₁ Bd hml0 hP hK
 obtain ⟨rfl, hZ, hHp⟩ := hP
 have hx := Bd.exec
 have D := fun {pc : Nat} {r} (h : decode _ pc = r) => hb Bd.bytes h
 have hml : c.maxLocals = 1 := hml0
 have hown : s.vm.findClass "java/lang/String" = some m.cls := findClass_of_methodNamed Bd.named
 have hnm := (name_of_methodNamed Bd.named Bd.method).1
 have X0 : Stand p l e ({ frames := 0, cells := 0, slots := 0, locals := 0 } : Room) s m #[(.ref x)] below meth c s₁ [] 0 0 := Stand.of_body Bd
 have e0 : s₁.heap = h0 := by rw [← hHp, Bd.state]; rfl
 have N0 := Fr.nil n0
 refine ownOut (P := (Q_isl Z x G1 h0 n0)) ?_
 refine ownBy (A := s₁.setTop (mkF m 0 #[vR x] [])) (fun t k => castTop (ef_isl m x) k) ?_
 refine own_getS X0 hx hZ hown (host := "") (Or.inl (Wd21 hw)) Via.refl e0 (O2.ext X00.2) (D d40_0) (fun T21 X21 e21 => ?_)
 refine oTo T21 (mkF m 7 #[vR x] [(.ref x)]) (fun t kt => ?_) ?_
 ·refine XS.ifNo X21.here hx rfl (D d40_3) rfl ((if0 _ _).trans (feq P5).1) ?_
  refine XS.aloadN X21.here hx rfl (D d40_6) rfl rfl ?_
  exact kt
 refine own_getF X21 hx hZ hown (host := "") (Or.inl (Wd33 hw)) Via.refl e21 Cs (D d40_7) (fun T22 X22 e22 => ?_)
 refine oTo T22 (mkF m 18 #[vR x] [(iV 1)]) (fun t kt => ?_) ?_
 ·refine XS.ifNo X22.here hx rfl (D d40_10) rfl ((if0 _ _).trans (teq ((by decide) : (0 : Int32) = (0 : Int32))).2) ?_
  refine XS.iconst X22.here hx rfl (D d40_13) ?_
  refine XS.goto X22.here hx rfl (pc0 := 14) (pc' := 18) rfl (D d40_14) (by decide) (by decide) ?_
  exact kt
 refine ownRet X22 Bd.notSynchronized (v := some (.int (nar .boolean (1 : Int32)))) (fun h => by rw [Bd.returns] at h; cases h) ?_ (oLe rfl) (oLe rfl) (fun fs hr => retN X22 hx (t := .boolean) Bd.returns (by simp) (D d40_18) hr)
 show (Q_isl Z x G1 h0 n0) (some (.int (nar .boolean (1 : Int32)))) T22.heap _
 rw [e22]
 exact ⟨rfl, N0, rfl⟩
abbrev fr_leng (m : MethodId) (x : Addr) (pc : Nat)  (st : List Value) : JFrame := mkF m pc #[vR x] st
def Q_leng (Z : State) (x : Addr) (ta : Addr) (kb : ClassId) (z : Int32) (us : List Value) (G1 : Int32) (h0 : Heap) (n0 : Nat) (v : Option Value) (h : Heap) (L : List Loc) : Prop := v = some (.int z) ∧ Fr n0 L ∧ h = h0
theorem ef_leng (m : MethodId) (x0 : Addr)  : entryFrame m #[(.ref x0)] 1 = mkF m 0 #[vR x0] [] := by first | (simp [entryFrame, mkF, argsToLocals, Value.category]; done) | rfl
set_option maxRecDepth 65536 in
set_option maxHeartbeats 40000000 in
theorem c_leng (l : Launch) (Z : State) (a0 : Array Value) (hw : HW a0 Z) (ws : List Jvm.Cond) (x : Addr) (ta : Addr) (kb : ClassId) (z : Int32) (us : List Value) (G1 : Int32) (h0 : Heap) (n0 : Nat) (Z0 : n0 ≤ h0.size) (Es : Exa Z h0 x "java/lang/String") (Vs : Fld Z h0 x "java/lang/String" "value" "[B" (.ref ta)) (Cs : Fld Z h0 x "java/lang/String" "coder" "B" (iV 0)) (Ks : Arv Z h0 ta kb .byte z us (iV 0)) (hz : (z >>> ((0 : Int32) &&& 31)) = z) (O2 : Sta Z Z.heap "java/lang/String" "COMPACT_STRINGS" "Z" (.int G1)) (P5 : ¬ (G1 = (0 : Int32))) (X00 : Old Z n0 h0) :
  MetFree l yM2 (head1 (Jvm.Cond.code yM2 jdk_42_method_54_code 1 (some .int) :: ws) ({ frames := 1, cells := 0, slots := 0, locals := 13 } : Room)) (fun a U => a = #[(.ref x)] ∧ Z.Warmed39 U.vm ∧ U.heap = h0) (fun _ _ _ _ _ => True) (fun _ U o U' => ∃ v L, o = .returned v ∧ (Q_leng Z x ta kb z us G1 h0 n0) v U'.heap L ∧ FrameEnd U o U' L ({ frames := 1, cells := 0, slots := 0, locals := 13 } : Room).cells ({ frames := 1, cells := 0, slots := 0, locals := 13 } : Room).slots) := by
 refine MetFree.of_bodySF (plainFor_of_name pn_1) hisR ?_
 intro p e s m args below meth c s₁ Bd hml0 hP hK
 obtain ⟨rfl, hZ, hHp⟩ := hP
 have hx := Bd.exec
 have D := fun {pc : Nat} {r} (h : decode _ pc = r) => hb Bd.bytes h
 have hml : c.maxLocals = 1 := hml0
 have hown : s.vm.findClass "java/lang/String" = some m.cls := findClass_of_methodNamed Bd.named
 have hnm := (name_of_methodNamed Bd.named Bd.method).1
 have X0 : Stand p l e ({ frames := 1, cells := 0, slots := 0, locals := 13 } : Room) s m #[(.ref x)] below meth c s₁ [] 0 0 := Stand.of_body Bd
 have e0 : s₁.heap = h0 := by rw [← hHp, Bd.state]; rfl
 have N0 := Fr.nil n0
 refine ownOut (P := (Q_leng Z x ta kb z us G1 h0 n0)) ?_
 refine ownBy (A := s₁.setTop (mkF m 0 #[vR x] [])) (fun t k => castTop (ef_leng m x) k) ?_
 refine oTo s₁ (fr_leng m x 1  [(.ref x)]) (fun t kt => ?_) ?_
 ·refine XS.aloadN X0.here hx rfl (D d14_0) rfl rfl ?_
  exact kt
 refine own_getF X0 hx hZ hown (host := "") (Or.inl (Wd35 hw)) Via.refl e0 Vs (D d14_1) (fun T21 X21 e21 => ?_)
 obtain ⟨cl22, Ar22, -, S22, N22, -, -⟩ := id Ks
 have st22 := X21.arraylength hx (by rw [e21]; exact Ar22.1) (State.isArrayOf_alike hZ.alike Ar22.2.1) (g := (fr_leng m x 4  [(.ref ta)])) rfl rfl (D d14_4)
 rw [len_of S22 N22] at st22
 refine ownBy st22 ?_
 show oA p e below _ T21 (fr_leng m x 5  [(.int z)])
 refine oTo T21 (fr_leng m x 6  [(.ref x), (.int z)]) (fun t kt => ?_) ?_
 ·refine XS.aloadN X21.here hx rfl (D d14_5) rfl rfl ?_
  exact kt
 obtain ⟨cq23, kq23, q23a, q23b, q23c⟩ := isOf hZ e21 Es
 obtain ⟨vv23, _, ⟨T23, L23, k23, n23⟩, -, X23, ⟨Lc23, hQ23, l23, y23, z23⟩, st23⟩ := X21.virtualBack hx (y := yM0) (z := yM0) hown (mvT hZ (Wd77 hw)) (mvT hZ (Wd78 hw)) (oNf hZ (Wd80 hw)) (mvT hZ (Wd80 hw)) (mvT hZ (Wd79 hw)) (by decide) (backOf (W := 1) (c_cod l Z a0 hw [] x G1 h0 n0 Z0 Es Cs O2 P5 X00) hZ (Wd81 hw) (Wd6 hw) (by decide) (by decide)) q23a q23c (g := (fr_leng m x 6  [(.ref x), (.int z)])) rfl (by rw [hml]; rfl) (Steps.refl _) (argsL := []) (rest := [(.int z)]) (lenOf pd_2 rfl) rfl (oWt rfl) (D d14_6) (fun _ _ => ⟨rfl, e21, oLe rfl, oLe rfl⟩)
 dsimp only [Pt.U, Pt.locs, Pt.cells, Pt.slots] at X23 l23 y23 z23 st23 hQ23
 subst l23 y23 z23
 obtain ⟨rfl, Nq23, Eq23⟩ := hQ23
 have N24 := Fr.app N0 Nq23
 obtain ⟨Lh25, Xh25, Nh25⟩ := oHd 0 0 X23 N24 rfl rfl
 refine ownSt st23 ?_
 clear st23
 show oA p e below _ T23 (fr_leng m x 9  [(iV 0), (.int z)])
 refine oTo T23 (fr_leng m x 10  [(.int (z >>> ((0 : Int32) &&& 31)))]) (fun t kt => ?_) ?_
 ·refine XS.ishr Xh25.here hx rfl (D d14_9) rfl ?_
  exact kt
 refine ownRet Xh25 Bd.notSynchronized (v := some (.int (z >>> ((0 : Int32) &&& 31)))) (fun h => by rw [Bd.returns] at h; cases h) ?_ (oLe rfl) (oLe rfl) (fun fs hr => retI Xh25 hx Bd.returns (D d14_10) hr)
 show (Q_leng Z x ta kb z us G1 h0 n0) (some (.int (z >>> ((0 : Int32) &&& 31)))) T23.heap _
 rw [Eq23]
 refine ⟨?_, Nh25, rfl⟩
 rw [hz]
def Q_chi (Z : State) (i : Int32) (m1 : Int32) (G3 : Value) (h0 : Heap) (n0 : Nat) (v : Option Value) (h : Heap) (L : List Loc) : Prop := v = some (.int i) ∧ Fr n0 L ∧ h = h0
theorem ef_chi (m : MethodId) (x0 : Int32) (x1 : Int32) (x2 : Value) (r2 : x2.isRef = true) : entryFrame m #[(.int x0), (.int x1), x2] 3 = mkF m 0 #[vI x0, vI x1, .val x2] [] := by
 rcases ref_cases r2 with rfl | ⟨y2, rfl⟩ <;> first | (simp [entryFrame, mkF, argsToLocals, Value.category]; done) | rfl
set_option maxRecDepth 65536 in
set_option maxHeartbeats 40000000 in
theorem c_chi (l : Launch) (Z : State) (a0 : Array Value) (hw : HW a0 Z) (ws : List Jvm.Cond) (i : Int32) (m1 : Int32) (G3 : Value) (h0 : Heap) (n0 : Nat) (Z0 : n0 ≤ h0.size) (rG3 : G3.isRef = true) (qi : ¬ i < (0 : Int32) ∧ i < m1) :
  MetFree l yM3 (head1 (Jvm.Cond.code yM3 jdk_41_method_11_code 3 (some .int) :: ws) ({ frames := 0, cells := 0, slots := 0, locals := 0 } : Room)) (fun a U => a = #[(.int i), (.int m1), G3] ∧ Z.Warmed39 U.vm ∧ U.heap = h0) (fun _ _ _ _ _ => True) (fun _ U o U' => ∃ v L, o = .returned v ∧ (Q_chi Z i m1 G3 h0 n0) v U'.heap L ∧ FrameEnd U o U' L ({ frames := 0, cells := 0, slots := 0, locals := 0 } : Room).cells ({ frames := 0, cells := 0, slots := 0, locals := 0 } : Room).slots) := by
 refine MetFree.of_bodySF (plainFor_of_name pn_3) hisR ?_
 intro p e s m args below meth c s₁ Bd hml0 hP hK
 obtain ⟨rfl, hZ, hHp⟩ := hP
 have hx := Bd.exec
 have D := fun {pc : Nat} {r} (h : decode _ pc = r) => hb Bd.bytes h
 have hml : c.maxLocals = 3 := hml0
 have hown : s.vm.findClass "jdk/internal/util/Preconditions" = some m.cls := findClass_of_methodNamed Bd.named
 have hnm := (name_of_methodNamed Bd.named Bd.method).1
 have X0 : Stand p l e ({ frames := 0, cells := 0, slots := 0, locals := 0 } : Room) s m #[(.int i), (.int m1), G3] below meth c s₁ [] 0 0 := Stand.of_body Bd
 have e0 : s₁.heap = h0 := by rw [← hHp, Bd.state]; rfl
 have N0 := Fr.nil n0
 refine ownOut (P := (Q_chi Z i m1 G3 h0 n0)) ?_
 refine ownBy (A := s₁.setTop (mkF m 0 #[vI i, vI m1, .val G3] [])) (fun t k => castTop (ef_chi m i m1 G3 rG3) k) ?_
 refine oTo s₁ (mkF m 17 #[vI i, vI m1, .val G3] [(.int i)]) (fun t kt => ?_) ?_
 ·refine XS.iloadN X0.here hx rfl (D d43_0) rfl ?_
  refine XS.ifNo X0.here hx rfl (D d43_1) rfl ((if0 _ _).trans (flt qi.1).1) ?_
  refine XS.iloadN X0.here hx rfl (D d43_4) rfl ?_
  refine XS.iloadN X0.here hx rfl (D d43_5) rfl ?_
  show Steps p.tables e below (s₁.setTop (mkF m 6 #[vI i, vI m1, .val G3] [(.int m1), (.int i)])) t
  refine XS.icmpYes X0.here hx rfl (pc0 := 6) (pc' := 16) rfl (D d43_6) rfl (tlt qi.2).1 (by decide) (by decide) ?_
  refine XS.iloadN X0.here hx rfl (D d43_16) rfl ?_
  exact kt
 refine ownRet X0 Bd.notSynchronized (v := some (.int i)) (fun h => by rw [Bd.returns] at h; cases h) ?_ (oLe rfl) (oLe rfl) (fun fs hr => retI X0 hx Bd.returns (D d43_17) hr)
 show (Q_chi Z i m1 G3 h0 n0) (some (.int i)) s₁.heap _
 rw [e0]
 exact ⟨rfl, N0, rfl⟩
abbrev fr_sci (m : MethodId) (i : Int32) (m1 : Int32) (pc : Nat)  (st : List Value) : JFrame := mkF m pc #[vI i, vI m1] st
def Q_sci (Z : State) (i : Int32) (m1 : Int32) (G3 : Value) (h0 : Heap) (n0 : Nat) (v : Option Value) (h : Heap) (L : List Loc) : Prop := v = none ∧ Fr n0 L ∧ h = h0
theorem ef_sci (m : MethodId) (x0 : Int32) (x1 : Int32)  : entryFrame m #[(.int x0), (.int x1)] 2 = mkF m 0 #[vI x0, vI x1] [] := by first | (simp [entryFrame, mkF, argsToLocals, Value.category]; done) | rfl
set_option maxRecDepth 65536 in
set_option maxHeartbeats 40000000 in
theorem c_sci (l : Launch) (Z : State) (a0 : Array Value) (hw : HW a0 Z) (ws : List Jvm.Cond) (i : Int32) (m1 : Int32) (G3 : Value) (h0 : Heap) (n0 : Nat) (Z0 : n0 ≤ h0.size) (O4 : Sta Z Z.heap "jdk/internal/util/Preconditions" "SIOOBE_FORMATTER" "Ljava/util/function/BiFunction;" G3) (rG3 : G3.isRef = true) (qi : ¬ i < (0 : Int32) ∧ i < m1) (X00 : Old Z n0 h0) :
  MetFree l yM4 (head1 (Jvm.Cond.code yM4 jdk_42_method_155_code 2 none :: ws) ({ frames := 1, cells := 0, slots := 0, locals := 14 } : Room)) (fun a U => a = #[(.int i), (.int m1)] ∧ Z.Warmed39 U.vm ∧ U.heap = h0) (fun _ _ _ _ _ => True) (fun _ U o U' => ∃ v L, o = .returned v ∧ (Q_sci Z i m1 G3 h0 n0) v U'.heap L ∧ FrameEnd U o U' L ({ frames := 1, cells := 0, slots := 0, locals := 14 } : Room).cells ({ frames := 1, cells := 0, slots := 0, locals := 14 } : Room).slots) := by
 refine MetFree.of_bodySF (plainFor_of_name pn_1) hisR ?_
 intro p e s m args below meth c s₁ Bd hml0 hP hK
 obtain ⟨rfl, hZ, hHp⟩ := hP
 have hx := Bd.exec
 have D := fun {pc : Nat} {r} (h : decode _ pc = r) => hb Bd.bytes h
 have hml : c.maxLocals = 2 := hml0
 have hown : s.vm.findClass "java/lang/String" = some m.cls := findClass_of_methodNamed Bd.named
 have hnm := (name_of_methodNamed Bd.named Bd.method).1
 have X0 : Stand p l e ({ frames := 1, cells := 0, slots := 0, locals := 14 } : Room) s m #[(.int i), (.int m1)] below meth c s₁ [] 0 0 := Stand.of_body Bd
 have e0 : s₁.heap = h0 := by rw [← hHp, Bd.state]; rfl
 have N0 := Fr.nil n0
 refine ownOut (P := (Q_sci Z i m1 G3 h0 n0)) ?_
 refine ownBy (A := s₁.setTop (mkF m 0 #[vI i, vI m1] [])) (fun t k => castTop (ef_sci m i m1) k) ?_
 refine oTo s₁ (fr_sci m i m1 2  [(.int m1), (.int i)]) (fun t kt => ?_) ?_
 ·refine XS.iloadN X0.here hx rfl (D d42_0) rfl ?_
  refine XS.iloadN X0.here hx rfl (D d42_1) rfl ?_
  exact kt
 refine own_getS X0 hx hZ hown (host := "") (Or.inl (Wd217 hw)) Via.refl e0 (O4.ext X00.2) (D d42_2) (fun T21 X21 e21 => ?_)
 obtain ⟨vv22, _, ⟨T22, L22, k22, n22⟩, -, X22, ⟨Lc22, hQ22, l22, y22, z22⟩, st22⟩ := Jvm.LawKit.callS X21 hx (y := yM3) hown (mvT hZ (Wd219 hw)) (mvT hZ (Wd220 hw)) (mvT hZ (Wd218 hw)) (mvT hZ (Wd221 hw)) (by decide) (backOf (W := 0) (c_chi l Z a0 hw [] i m1 G3 h0 n0 Z0 rG3 qi) hZ (Wd221 hw) (Wd218 hw) (by decide) (by decide)) (g := (fr_sci m i m1 5  [G3, (.int m1), (.int i)])) rfl (by rw [hml]; rfl) (argsL := [(.int i), (.int m1), G3]) (rest := []) (lenOf pd_4 rfl) rfl (oWt rfl) (D d42_5) (fun _ _ => ⟨rfl, e21, oLe rfl, oLe rfl⟩)
 dsimp only [Pt.U, Pt.locs, Pt.cells, Pt.slots] at X22 l22 y22 z22 st22 hQ22
 subst l22 y22 z22
 obtain ⟨rfl, Nq22, Eq22⟩ := hQ22
 have N23 := Fr.app N0 Nq22
 obtain ⟨Lh24, Xh24, Nh24⟩ := oHd 0 0 X22 N23 rfl rfl
 refine ownBy st22 ?_
 clear st22
 show oA p e below _ T22 (fr_sci m i m1 8  [(.int i)])
 refine oTo T22 (fr_sci m i m1 9  []) (fun t kt => ?_) ?_
 ·refine XS.pop Xh24.here hx rfl (D d42_8) rfl rfl ?_
  exact kt
 refine ownRet Xh24 Bd.notSynchronized (v := none) (fun _ => rfl) ?_ (oLe rfl) (oLe rfl) (fun fs hr => Xh24.returnOut hx Bd.returns (D d42_9) hr)
 show (Q_sci Z i m1 G3 h0 n0) (none) T22.heap _
 rw [Eq22]
 exact ⟨rfl, Nh24, rfl⟩
abbrev fr_l1c (m : MethodId) (ta : Addr) (i : Int32) (pc : Nat)  (st : List Value) : JFrame := mkF m pc #[vR ta, vI i] st
def Q_l1c (Z : State) (ta : Addr) (kb : ClassId) (z : Int32) (us : List Value) (i : Int32) (cc : Int32) (G3 : Value) (h0 : Heap) (n0 : Nat) (v : Option Value) (h : Heap) (L : List Loc) : Prop := v = some (.int cc) ∧ Fr n0 L ∧ h = h0
theorem ef_l1c (m : MethodId) (x0 : Addr) (x1 : Int32)  : entryFrame m #[(.ref x0), (.int x1)] 2 = mkF m 0 #[vR x0, vI x1] [] := by first | (simp [entryFrame, mkF, argsToLocals, Value.category]; done) | rfl
set_option maxRecDepth 65536 in
set_option maxHeartbeats 40000000 in
theorem c_l1c (l : Launch) (Z : State) (a0 : Array Value) (hw : HW a0 Z) (ws : List Jvm.Cond) (ta : Addr) (kb : ClassId) (z : Int32) (us : List Value) (i : Int32) (cc : Int32) (G3 : Value) (h0 : Heap) (n0 : Nat) (Z0 : n0 ≤ h0.size) (Ks : Arv Z h0 ta kb .byte z us (iV 0)) (hc : Chl z us i cc) (O4 : Sta Z Z.heap "jdk/internal/util/Preconditions" "SIOOBE_FORMATTER" "Ljava/util/function/BiFunction;" G3) (rG3 : G3.isRef = true) (X00 : Old Z n0 h0) :
  MetFree l yM5 (head1 (Jvm.Cond.code yM5 jdk_43_method_2_code 2 (some .char) :: ws) ({ frames := 2, cells := 0, slots := 0, locals := 27 } : Room)) (fun a U => a = #[(.ref ta), (.int i)] ∧ Z.Warmed39 U.vm ∧ U.heap = h0) (fun _ _ _ _ _ => True) (fun _ U o U' => ∃ v L, o = .returned v ∧ (Q_l1c Z ta kb z us i cc G3 h0 n0) v U'.heap L ∧ FrameEnd U o U' L ({ frames := 2, cells := 0, slots := 0, locals := 27 } : Room).cells ({ frames := 2, cells := 0, slots := 0, locals := 27 } : Room).slots) := by
 refine MetFree.of_bodySF (plainFor_of_name pn_5) hisR ?_
 intro p e s m args below meth c s₁ Bd hml0 hP hK
 obtain ⟨rfl, hZ, hHp⟩ := hP
 have hx := Bd.exec
 have D := fun {pc : Nat} {r} (h : decode _ pc = r) => hb Bd.bytes h
 have hml : c.maxLocals = 2 := hml0
 have hown : s.vm.findClass "java/lang/StringLatin1" = some m.cls := findClass_of_methodNamed Bd.named
 have hnm := (name_of_methodNamed Bd.named Bd.method).1
 have X0 : Stand p l e ({ frames := 2, cells := 0, slots := 0, locals := 27 } : Room) s m #[(.ref ta), (.int i)] below meth c s₁ [] 0 0 := Stand.of_body Bd
 have e0 : s₁.heap = h0 := by rw [← hHp, Bd.state]; rfl
 have N0 := Fr.nil n0
 refine ownOut (P := (Q_l1c Z ta kb z us i cc G3 h0 n0)) ?_
 refine ownBy (A := s₁.setTop (mkF m 0 #[vR ta, vI i] [])) (fun t k => castTop (ef_l1c m ta i) k) ?_
 refine oTo s₁ (fr_l1c m ta i 2  [(.ref ta), (.int i)]) (fun t kt => ?_) ?_
 ·refine XS.iloadN X0.here hx rfl (D d41_0) rfl ?_
  refine XS.aloadN X0.here hx rfl (D d41_1) rfl rfl ?_
  exact kt
 obtain ⟨cl21, Ar21, -, S21, N21, -, -⟩ := id Ks
 have st21 := X0.arraylength hx (by rw [e0]; exact Ar21.1) (State.isArrayOf_alike hZ.alike Ar21.2.1) (g := (fr_l1c m ta i 2  [(.ref ta), (.int i)])) rfl rfl (D d41_2)
 rw [len_of S21 N21] at st21
 refine ownBy st21 ?_
 show oA p e below _ s₁ (fr_l1c m ta i 3  [(.int z), (.int i)])
 obtain ⟨vv22, _, ⟨T22, L22, k22, n22⟩, -, X22, ⟨Lc22, hQ22, l22, y22, z22⟩, st22⟩ := Jvm.LawKit.callS X0 hx (y := yM4) hown (mvT hZ (Wd214 hw)) (mvT hZ (Wd215 hw)) (mvT hZ (Wd6 hw)) (mvT hZ (Wd216 hw)) (by decide) (backOf (W := 0) (c_sci l Z a0 hw [] i z G3 h0 n0 Z0 O4 rG3 hc.1 X00) hZ (Wd216 hw) (Wd6 hw) (by decide) (by decide)) (g := (fr_l1c m ta i 3  [(.int z), (.int i)])) rfl (by rw [hml]; rfl) (argsL := [(.int i), (.int z)]) (rest := []) (lenOf pd_6 rfl) rfl (oWt rfl) (D d41_3) (fun _ _ => ⟨rfl, e0, oLe rfl, oLe rfl⟩)
 dsimp only [Pt.U, Pt.locs, Pt.cells, Pt.slots] at X22 l22 y22 z22 st22 hQ22
 subst l22 y22 z22
 obtain ⟨rfl, Nq22, Eq22⟩ := hQ22
 have N23 := Fr.app N0 Nq22
 obtain ⟨Lh24, Xh24, Nh24⟩ := oHd 0 0 X22 N23 rfl rfl
 refine ownBy st22 ?_
 clear st22
 show oA p e below _ T22 (fr_l1c m ta i 6  [])
 refine oTo T22 (fr_l1c m ta i 8  [(.int i), (.ref ta)]) (fun t kt => ?_) ?_
 ·refine XS.aloadN Xh24.here hx rfl (D d41_6) rfl rfl ?_
  refine XS.iloadN Xh24.here hx rfl (D d41_7) rfl ?_
  exact kt
 obtain ⟨cl25, Ar25, q25, S25, N25, H25, G25⟩ := id Ks
 have hin25 : ¬ (i < 0 ∨ cl25.slots.size ≤ (i).toNatClampNeg) := inb_of S25 hc.1
 have hat25 : cl25.slots[(i).toNatClampNeg]? = some (.int (oL cc)) := H25.at hin25 hc.2.1
 have st25 := Xh24.baloadBytes hx (j := i) (v := (.int (oL cc))) (by rw [Eq22]; exact Ar25.1) (State.isArrayOf_alike hZ.alike Ar25.2.1) Ar25.2.2 hin25 hat25 (g := (fr_l1c m ta i 8  [(.int i), (.ref ta)])) rfl rfl (D d41_8)
 refine ownBy st25 ?_
 show oA p e below _ T22 (fr_l1c m ta i 9  [(.int (oL cc))])
 refine oTo T22 (fr_l1c m ta i 14  [(.int (((oL cc) &&& (255 : Int32)).toUInt32.toUInt16.toUInt32.toInt32))]) (fun t kt => ?_) ?_
 ·refine XS.sipush Xh24.here hx rfl (D d41_9) ?_
  refine XS.iand Xh24.here hx rfl (D d41_12) rfl ?_
  refine XS.i2c Xh24.here hx rfl (D d41_13) rfl ?_
  exact kt
 refine ownRet Xh24 Bd.notSynchronized (v := some (.int (nar .char (((oL cc) &&& (255 : Int32)).toUInt32.toUInt16.toUInt32.toInt32)))) (fun h => by rw [Bd.returns] at h; cases h) ?_ (oLe rfl) (oLe rfl) (fun fs hr => retN Xh24 hx (t := .char) Bd.returns (by simp) (D d41_14) hr)
 show (Q_l1c Z ta kb z us i cc G3 h0 n0) (some (.int (nar .char (((oL cc) &&& (255 : Int32)).toUInt32.toUInt16.toUInt32.toInt32)))) T22.heap _
 rw [Eq22]
 refine ⟨?_, Nh24, rfl⟩
 rw [own_l1c hc.2.2]
abbrev fr_chat (m : MethodId) (x : Addr) (i : Int32) (pc : Nat)  (st : List Value) : JFrame := mkF m pc #[vR x, vI i] st
def Q_chat (Z : State) (x : Addr) (ta : Addr) (kb : ClassId) (z : Int32) (us : List Value) (i : Int32) (cc : Int32) (G1 : Int32) (G3 : Value) (h0 : Heap) (n0 : Nat) (v : Option Value) (h : Heap) (L : List Loc) : Prop := v = some (.int cc) ∧ Fr n0 L ∧ h = h0
theorem ef_chat (m : MethodId) (x0 : Addr) (x1 : Int32)  : entryFrame m #[(.ref x0), (.int x1)] 2 = mkF m 0 #[vR x0, vI x1] [] := by first | (simp [entryFrame, mkF, argsToLocals, Value.category]; done) | rfl
set_option maxRecDepth 65536 in
set_option maxHeartbeats 40000000 in
theorem c_chat (l : Launch) (Z : State) (a0 : Array Value) (hw : HW a0 Z) (ws : List Jvm.Cond) (x : Addr) (ta : Addr) (kb : ClassId) (z : Int32) (us : List Value) (i : Int32) (cc : Int32) (G1 : Int32) (G3 : Value) (h0 : Heap) (n0 : Nat) (Z0 : n0 ≤ h0.size) (Es : Exa Z h0 x "java/lang/String") (Vs : Fld Z h0 x "java/lang/String" "value" "[B" (.ref ta)) (Cs : Fld Z h0 x "java/lang/String" "coder" "B" (iV 0)) (Ks : Arv Z h0 ta kb .byte z us (iV 0)) (hc : Chl z us i cc) (O2 : Sta Z Z.heap "java/lang/String" "COMPACT_STRINGS" "Z" (.int G1)) (P5 : ¬ (G1 = (0 : Int32))) (O4 : Sta Z Z.heap "jdk/internal/util/Preconditions" "SIOOBE_FORMATTER" "Ljava/util/function/BiFunction;" G3) (rG3 : G3.isRef = true) (X00 : Old Z n0 h0) :
  MetFree l yM6 (head1 (Jvm.Cond.code yM6 jdk_42_method_56_code 2 (some .char) :: ws) ({ frames := 3, cells := 0, slots := 0, locals := 40 } : Room)) (fun a U => a = #[(.ref x), (.int i)] ∧ Z.Warmed39 U.vm ∧ U.heap = h0) (fun _ _ _ _ _ => True) (fun _ U o U' => ∃ v L, o = .returned v ∧ (Q_chat Z x ta kb z us i cc G1 G3 h0 n0) v U'.heap L ∧ FrameEnd U o U' L ({ frames := 3, cells := 0, slots := 0, locals := 40 } : Room).cells ({ frames := 3, cells := 0, slots := 0, locals := 40 } : Room).slots) := by
 refine MetFree.of_bodySF (plainFor_of_name pn_1) hisR ?_
 intro p e s m args below meth c s₁ Bd hml0 hP hK
 obtain ⟨rfl, hZ, hHp⟩ := hP
 have hx := Bd.exec
 have D := fun {pc : Nat} {r} (h : decode _ pc = r) => hb Bd.bytes h
 have hml : c.maxLocals = 2 := hml0
 have hown : s.vm.findClass "java/lang/String" = some m.cls := findClass_of_methodNamed Bd.named
 have hnm := (name_of_methodNamed Bd.named Bd.method).1
 have X0 : Stand p l e ({ frames := 3, cells := 0, slots := 0, locals := 40 } : Room) s m #[(.ref x), (.int i)] below meth c s₁ [] 0 0 := Stand.of_body Bd
 have e0 : s₁.heap = h0 := by rw [← hHp, Bd.state]; rfl
 have N0 := Fr.nil n0
 refine ownOut (P := (Q_chat Z x ta kb z us i cc G1 G3 h0 n0)) ?_
 refine ownBy (A := s₁.setTop (mkF m 0 #[vR x, vI i] [])) (fun t k => castTop (ef_chat m x i) k) ?_
 refine oTo s₁ (fr_chat m x i 1  [(.ref x)]) (fun t kt => ?_) ?_
 ·refine XS.aloadN X0.here hx rfl (D d39_0) rfl rfl ?_
  exact kt
 obtain ⟨cq21, kq21, q21a, q21b, q21c⟩ := isOf hZ e0 Es
 obtain ⟨vv21, _, ⟨T21, L21, k21, n21⟩, -, X21, ⟨Lc21, hQ21, l21, y21, z21⟩, st21⟩ := X0.virtualBack hx (y := yM1) (z := yM1) hown (mvT hZ (Wd206 hw)) (mvT hZ (Wd207 hw)) (oNf hZ (Wd209 hw)) (mvT hZ (Wd209 hw)) (mvT hZ (Wd208 hw)) (by decide) (backOf (W := 0) (c_isl l Z a0 hw [] x G1 h0 n0 Z0 Es Cs O2 P5 X00) hZ (Wd210 hw) (Wd6 hw) (by decide) (by decide)) q21a q21c (g := (fr_chat m x i 1  [(.ref x)])) rfl (by rw [hml]; rfl) (Steps.refl _) (argsL := []) (rest := []) (lenOf pd_7 rfl) rfl (oWt rfl) (D d39_1) (fun _ _ => ⟨rfl, e0, oLe rfl, oLe rfl⟩)
 dsimp only [Pt.U, Pt.locs, Pt.cells, Pt.slots] at X21 l21 y21 z21 st21 hQ21
 subst l21 y21 z21
 obtain ⟨rfl, Nq21, Eq21⟩ := hQ21
 have N22 := Fr.app N0 Nq21
 obtain ⟨Lh23, Xh23, Nh23⟩ := oHd 0 0 X21 N22 rfl rfl
 refine ownSt st21 ?_
 clear st21
 show oA p e below _ T21 (fr_chat m x i 4  [(iV 1)])
 refine oTo T21 (fr_chat m x i 8  [(.ref x)]) (fun t kt => ?_) ?_
 ·refine XS.ifNo Xh23.here hx rfl (D d39_4) rfl ((if0 _ _).trans (feq ((by decide) : ¬ ((1 : Int32) = (0 : Int32)))).1) ?_
  refine XS.aloadN Xh23.here hx rfl (D d39_7) rfl rfl ?_
  exact kt
 refine own_getF Xh23 hx hZ hown (host := "") (Or.inl (Wd35 hw)) Via.refl Eq21 Vs (D d39_8) (fun T24 X24 e24 => ?_)
 refine oTo T24 (fr_chat m x i 12  [(.int i), (.ref ta)]) (fun t kt => ?_) ?_
 ·refine XS.iloadN X24.here hx rfl (D d39_11) rfl ?_
  exact kt
 obtain ⟨vv25, _, ⟨T25, L25, k25, n25⟩, -, X25, ⟨Lc25, hQ25, l25, y25, z25⟩, st25⟩ := Jvm.LawKit.callS X24 hx (y := yM5) hown (mvT hZ (Wd211 hw)) (mvT hZ (Wd212 hw)) (mvT hZ (Wd195 hw)) (mvT hZ (Wd213 hw)) (by decide) (backOf (W := 0) (c_l1c l Z a0 hw [] ta kb z us i cc G3 h0 n0 Z0 Ks hc O4 rG3 X00) hZ (Wd213 hw) (Wd195 hw) (by decide) (by decide)) (g := (fr_chat m x i 12  [(.int i), (.ref ta)])) rfl (by rw [hml]; rfl) (argsL := [(.ref ta), (.int i)]) (rest := []) (lenOf pd_8 rfl) rfl (oWt rfl) (D d39_12) (fun _ _ => ⟨rfl, e24, oLe rfl, oLe rfl⟩)
 dsimp only [Pt.U, Pt.locs, Pt.cells, Pt.slots] at X25 l25 y25 z25 st25 hQ25
 subst l25 y25 z25
 obtain ⟨rfl, Nq25, Eq25⟩ := hQ25
 have N26 := Fr.app Nh23 Nq25
 obtain ⟨Lh27, Xh27, Nh27⟩ := oHd 0 0 X25 N26 rfl rfl
 refine ownBy st25 ?_
 clear st25
 show oA p e below _ T25 (fr_chat m x i 15  [(.int cc)])
 refine ownRet Xh27 Bd.notSynchronized (v := some (.int (nar .char cc))) (fun h => by rw [Bd.returns] at h; cases h) ?_ (oLe rfl) (oLe rfl) (fun fs hr => retN Xh27 hx (t := .char) Bd.returns (by simp) (D d39_15) hr)
 show (Q_chat Z x ta kb z us i cc G1 G3 h0 n0) (some (.int (nar .char cc))) T25.heap _
 rw [Eq25]
 refine ⟨?_, Nh27, rfl⟩
 rw [own_c8 hc.2.2]
abbrev fr_asi (m : MethodId) (sb : Addr) (pc : Nat)  (st : List Value) : JFrame := mkF m pc #[vR sb, vI 16] st
def Q_asi (Z : State) (sb : Addr) (c9 : Value) (G1 : Int32) (h0 : Heap) (n0 : Nat) (v : Option Value) (h : Heap) (L : List Loc) : Prop := v = none ∧ Fr n0 L ∧ Keep h0 h [sb] ∧ ∃ (va : Addr) (kv : ClassId), h0.size ≤ va ∧ Exa Z h sb "java/lang/StringBuilder" ∧ Fld Z h sb "java/lang/AbstractStringBuilder" "value" "[B" (.ref va) ∧ Fld Z h sb "java/lang/AbstractStringBuilder" "coder" "B" (iV 0) ∧ Fld Z h sb "java/lang/AbstractStringBuilder" "count" "I" (iV 0) ∧ Arv Z h va kv .byte (16 : Int32) [(iV 0), (iV 0), (iV 0), (iV 0), (iV 0), (iV 0), (iV 0), (iV 0), (iV 0), (iV 0), (iV 0), (iV 0), (iV 0), (iV 0), (iV 0), (iV 0)] (iV 0)
theorem ef_asi (m : MethodId) (x0 : Addr) (x1 : Int32)  : entryFrame m #[(.ref x0), (.int x1)] 2 = mkF m 0 #[vR x0, vI x1] [] := by first | (simp [entryFrame, mkF, argsToLocals, Value.category]; done) | rfl
set_option maxRecDepth 65536 in
set_option maxHeartbeats 40000000 in
theorem c_asi (l : Launch) (Z : State) (a0 : Array Value) (hw : HW a0 Z) (ws : List Jvm.Cond) (sb : Addr) (c9 : Value) (G1 : Int32) (h0 : Heap) (n0 : Nat) (Z0 : n0 ≤ h0.size) (Eb : Exa Z h0 sb "java/lang/StringBuilder") (Bv : Fld Z h0 sb "java/lang/AbstractStringBuilder" "value" "[B" .null) (Bc : Fld Z h0 sb "java/lang/AbstractStringBuilder" "coder" "B" c9) (Bn : Fld Z h0 sb "java/lang/AbstractStringBuilder" "count" "I" (iV 0)) (gb : n0 ≤ sb) (O2 : Sta Z Z.heap "java/lang/String" "COMPACT_STRINGS" "Z" (.int G1)) (P5 : ¬ (G1 = (0 : Int32))) (X00 : Old Z n0 h0) :
  MetFree l yM7 (head1 (Jvm.Cond.code yM7 jdk_68_method_2_code 2 none :: ws) ({ frames := 1, cells := 1, slots := 16, locals := 12 } : Room)) (fun a U => a = #[(.ref sb), (iV 16)] ∧ Z.Warmed39 U.vm ∧ U.heap = h0) (fun _ _ _ _ _ => True) (fun _ U o U' => ∃ v L, o = .returned v ∧ (Q_asi Z sb c9 G1 h0 n0) v U'.heap L ∧ FrameEnd U o U' L ({ frames := 1, cells := 1, slots := 16, locals := 12 } : Room).cells ({ frames := 1, cells := 1, slots := 16, locals := 12 } : Room).slots) := by
 refine MetFree.of_bodySF (plainFor_of_name pn_9) hisR ?_
 intro p e s m args below meth c s₁ Bd hml0 hP hK
 obtain ⟨rfl, hZ, hHp⟩ := hP
 have hx := Bd.exec
 have D := fun {pc : Nat} {r} (h : decode _ pc = r) => hb Bd.bytes h
 have hml : c.maxLocals = 2 := hml0
 have hown : s.vm.findClass "java/lang/AbstractStringBuilder" = some m.cls := findClass_of_methodNamed Bd.named
 have hnm := (name_of_methodNamed Bd.named Bd.method).1
 have X0 : Stand p l e ({ frames := 1, cells := 1, slots := 16, locals := 12 } : Room) s m #[(.ref sb), (iV 16)] below meth c s₁ [] 0 0 := Stand.of_body Bd
 have e0 : s₁.heap = h0 := by rw [← hHp, Bd.state]; rfl
 have N0 := Fr.nil n0
 refine ownOut (P := (Q_asi Z sb c9 G1 h0 n0)) ?_
 refine ownBy (A := s₁.setTop (mkF m 0 #[vR sb, vI 16] [])) (fun t k => castTop (ef_asi m sb (16 : Int32)) k) ?_
 refine oTo s₁ (fr_asi m sb 1  [(.ref sb)]) (fun t kt => ?_) ?_
 ·refine XS.aloadN X0.here hx rfl (D d11_0) rfl rfl ?_
  exact kt
 obtain ⟨T21, X21, e21, st21⟩ := initO X0 hx hZ hown (Wd56 hw) (Wd19 hw) (Wd20 hw) e0 (g := (fr_asi m sb 1  [(.ref sb)])) rfl (by rw [hml]; rfl) rfl (D d11_1) (by decide) (W := 0) (oWt rfl) (by decide)
 refine ownBy st21 ?_
 clear st21
 show oA p e below _ T21 (fr_asi m sb 4  [])
 refine own_getS X21 hx hZ hown (host := "") (Or.inl (Wd57 hw)) Via.refl e21 (O2.ext X00.2) (D d11_4) (fun T22 X22 e22 => ?_)
 refine oTo T22 (fr_asi m sb 12  [(iV 16), (.ref sb)]) (fun t kt => ?_) ?_
 ·refine XS.ifNo X22.here hx rfl (D d11_7) rfl ((if0 _ _).trans (feq P5).1) ?_
  refine XS.aloadN X22.here hx rfl (D d11_10) rfl rfl ?_
  refine XS.iloadN X22.here hx rfl (D d11_11) rfl ?_
  exact kt
 obtain ⟨T23, h23, k23, X23, e23, E23, A23, st23⟩ := newP X22 hx hZ (aty := .byte) (Wd26 hw) e22 (g := (fr_asi m sb 12  [(iV 16), (.ref sb)])) rfl (D d11_12) rfl (by decide : ¬ ((16 : Int32) < (0 : Int32))) (cap := 16) (by decide) (by decide) (by decide) (by decide)
 obtain ⟨b23, g23⟩ : ∃ z, z = h0.size := ⟨_, rfl⟩
 rw [← g23] at A23 st23
 have ne24 : sb ≠ b23 := Nat.ne_of_lt (Nat.lt_of_lt_of_le Eb.lt (Nat.le_of_eq g23.symm))
 have g25 : n0 ≤ b23 := Nat.le_trans Z0 (Nat.le_of_eq g23.symm)
 have z26 : h0.size ≤ b23 := Nat.le_trans (Nat.le_refl h0.size) (Nat.le_of_eq g23.symm)
 have V27 : Arv Z h23 b23 k23 .byte (16 : Int32) [(iV 0), (iV 0), (iV 0), (iV 0), (iV 0), (iV 0), (iV 0), (iV 0), (iV 0), (iV 0), (iV 0), (iV 0), (iV 0), (iV 0), (iV 0), (iV 0)] (iV 0) := (Arv.new A23 (by decide)).pad (pad_rep [] (iV 0) 16)
 refine ownBy st23 ?_
 clear st23
 show oA p e below _ T23 (fr_asi m sb 14  [(.ref b23), (.ref sb)])
 have f29 := (Bv.ext E23)
 have f30 := (Eb.ext E23)
 obtain ⟨T28, h28, X28, e28, W28, st28⟩ := putF X23 hx hZ hown (host := "") (Or.inl (Wd58 hw)) Via.refl e23 f29 f30 (Or.inl (Wd59 hw)) (Wd45 hw) (ty := (.array .byte)) (by decide) rfl rfl (g := (fr_asi m sb 14  [(.ref b23), (.ref sb)])) rfl rfl (D d11_14)
 have F31 := f29.same W28
 have N32 := Fr.snoc X28 N0 gb
 obtain ⟨Lh33, Xh33, Nh33⟩ := oHd 1 16 X28 N32 rfl rfl
 refine ownBy st28 ?_
 clear st28
 show oA p e below _ T28 (fr_asi m sb 17  [])
 refine oTo T28 (fr_asi m sb 19  [(iV 0), (.ref sb)]) (fun t kt => ?_) ?_
 ·refine XS.aloadN Xh33.here hx rfl (D d11_17) rfl rfl ?_
  refine XS.iconst Xh33.here hx rfl (D d11_18) ?_
  exact kt
 have f35 := ((Bc.ext E23).other W28 (Or.inr (slot_ne (Or.inl (Wd61 hw)) (Or.inl (Wd59 hw)) (by decide) (t := .byte) (t' := (.array .byte)) (by decide) (by decide))))
 have f36 := (f30.wr W28)
 obtain ⟨T34, h34, X34, e34, W34, st34⟩ := putFN Xh33 hx hZ hown (Wd60 hw) Via.refl e28 f35 f36 (Or.inl (Wd61 hw)) (Wd45 hw) (ty := .byte) (v' := (iV 0)) (by decide) rfl (fits_nar_byte (0 : Int32)) (g := (fr_asi m sb 19  [(iV 0), (.ref sb)])) rfl rfl (D d11_19)
 have F37 := f35.same W34
 have N38 := Fr.snoc X34 Nh33 gb
 obtain ⟨Lh39, Xh39, Nh39⟩ := oHd 1 16 X34 N38 rfl rfl
 refine ownBy st34 ?_
 clear st34
 show oA p e below _ T34 (fr_asi m sb 22  [])
 refine oTo T34 (fr_asi m sb 38  []) (fun t kt => ?_) ?_
 ·refine XS.goto Xh39.here hx rfl (pc0 := 22) (pc' := 38) rfl (D d11_22) (by decide) (by decide) ?_
  exact kt
 have f40 := ((((Keep.refl h0 [sb]).ext E23).wr W28 (Or.inl (List.mem_of_getElem? (i := 0) rfl))).wr W34 (Or.inl (List.mem_of_getElem? (i := 0) rfl)))
 have f41 := (((Bn.ext E23).other W28 (Or.inr (slot_ne (Or.inl (Wd83 hw)) (Or.inl (Wd59 hw)) (by decide) (t := .int) (t' := (.array .byte)) (by decide) (by decide)))).other W34 (Or.inr (slot_ne (Or.inl (Wd83 hw)) (Or.inl (Wd61 hw)) (by decide) (t := .int) (t' := .byte) (by decide) (by decide))))
 have f42 := ((V27.other W28 (Ne.symm ne24)).other W34 (Ne.symm ne24))
 have f43 := (f36.wr W34)
 have f44 := (F31.other W34 (Or.inr (slot_ne (Or.inl (Wd59 hw)) (Or.inl (Wd61 hw)) (by decide) (t := (.array .byte)) (t' := .byte) (by decide) (by decide))))
 refine ownRet Xh39 Bd.notSynchronized (v := none) (fun _ => rfl) ?_ (oLe rfl) (oLe rfl) (fun fs hr => Xh39.returnOut hx Bd.returns (D d11_38) hr)
 show (Q_asi Z sb c9 G1 h0 n0) (none) T34.heap _
 rw [e34]
 exact ⟨rfl, Nh39, f40, b23, k23, z26, f43, f44, F37, f41, f42⟩
def Q_sbi (Z : State) (sb : Addr) (c9 : Value) (G1 : Int32) (h0 : Heap) (n0 : Nat) (v : Option Value) (h : Heap) (L : List Loc) : Prop := v = none ∧ Fr n0 L ∧ Keep h0 h [sb] ∧ ∃ (va : Addr) (kv : ClassId), h0.size ≤ va ∧ Exa Z h sb "java/lang/StringBuilder" ∧ Fld Z h sb "java/lang/AbstractStringBuilder" "value" "[B" (.ref va) ∧ Fld Z h sb "java/lang/AbstractStringBuilder" "coder" "B" (iV 0) ∧ Fld Z h sb "java/lang/AbstractStringBuilder" "count" "I" (iV 0) ∧ Arv Z h va kv .byte (16 : Int32) [(iV 0), (iV 0), (iV 0), (iV 0), (iV 0), (iV 0), (iV 0), (iV 0), (iV 0), (iV 0), (iV 0), (iV 0), (iV 0), (iV 0), (iV 0), (iV 0)] (iV 0)
theorem ef_sbi (m : MethodId) (x0 : Addr)  : entryFrame m #[(.ref x0)] 1 = mkF m 0 #[vR x0] [] := by first | (simp [entryFrame, mkF, argsToLocals, Value.category]; done) | rfl
set_option maxRecDepth 65536 in
set_option maxHeartbeats 40000000 in
theorem c_sbi (l : Launch) (Z : State) (a0 : Array Value) (hw : HW a0 Z) (ws : List Jvm.Cond) (sb : Addr) (c9 : Value) (G1 : Int32) (h0 : Heap) (n0 : Nat) (Z0 : n0 ≤ h0.size) (Eb : Exa Z h0 sb "java/lang/StringBuilder") (Bv : Fld Z h0 sb "java/lang/AbstractStringBuilder" "value" "[B" .null) (Bc : Fld Z h0 sb "java/lang/AbstractStringBuilder" "coder" "B" c9) (Bn : Fld Z h0 sb "java/lang/AbstractStringBuilder" "count" "I" (iV 0)) (gb : n0 ≤ sb) (O2 : Sta Z Z.heap "java/lang/String" "COMPACT_STRINGS" "Z" (.int G1)) (P5 : ¬ (G1 = (0 : Int32))) (X00 : Old Z n0 h0) :
  MetFree l yM8 (head1 (Jvm.Cond.code yM8 jdk_67_method_1_code 1 none :: ws) ({ frames := 2, cells := 1, slots := 16, locals := 26 } : Room)) (fun a U => a = #[(.ref sb)] ∧ Z.Warmed39 U.vm ∧ U.heap = h0) (fun _ _ _ _ _ => True) (fun _ U o U' => ∃ v L, o = .returned v ∧ (Q_sbi Z sb c9 G1 h0 n0) v U'.heap L ∧ FrameEnd U o U' L ({ frames := 2, cells := 1, slots := 16, locals := 26 } : Room).cells ({ frames := 2, cells := 1, slots := 16, locals := 26 } : Room).slots) := by
 refine MetFree.of_bodySF (plainFor_of_name pn_10) hisR ?_
 intro p e s m args below meth c s₁ Bd hml0 hP hK
 obtain ⟨rfl, hZ, hHp⟩ := hP
 have hx := Bd.exec
 have D := fun {pc : Nat} {r} (h : decode _ pc = r) => hb Bd.bytes h
 have hml : c.maxLocals = 1 := hml0
 have hown : s.vm.findClass "java/lang/StringBuilder" = some m.cls := findClass_of_methodNamed Bd.named
 have hnm := (name_of_methodNamed Bd.named Bd.method).1
 have X0 : Stand p l e ({ frames := 2, cells := 1, slots := 16, locals := 26 } : Room) s m #[(.ref sb)] below meth c s₁ [] 0 0 := Stand.of_body Bd
 have e0 : s₁.heap = h0 := by rw [← hHp, Bd.state]; rfl
 have N0 := Fr.nil n0
 refine ownOut (P := (Q_sbi Z sb c9 G1 h0 n0)) ?_
 refine ownBy (A := s₁.setTop (mkF m 0 #[vR sb] [])) (fun t k => castTop (ef_sbi m sb) k) ?_
 refine oTo s₁ (mkF m 3 #[vR sb] [(iV 16), (.ref sb)]) (fun t kt => ?_) ?_
 ·refine XS.aloadN X0.here hx rfl (D d10_0) rfl rfl ?_
  refine XS.bipush X0.here hx rfl (D d10_1) ?_
  exact kt
 obtain ⟨vv21, _, ⟨T21, L21, k21, n21⟩, -, X21, ⟨Lc21, hQ21, l21, y21, z21⟩, st21⟩ := X0.specialBack hx (y := yM7) rfl hown (mvT hZ (Wd50 hw)) (mvT hZ (Wd51 hw)) (mvT hZ (Wd55 hw)) (by decide) (backOf (W := 0) (c_asi l Z a0 hw [] sb _ G1 h0 n0 Z0 Eb Bv Bc Bn gb O2 P5 X00) hZ (Wd55 hw) (Wd54 hw) (by decide) (by decide)) (g := (mkF m 3 #[vR sb] [(iV 16), (.ref sb)])) rfl (by rw [hml]; rfl) (Steps.refl _) (a := sb) (argsL := [(iV 16)]) (rest := []) (lenOf pd_11 rfl) rfl (oWt rfl) (D d10_3) (fun _ _ => ⟨rfl, e0, oLe rfl, oLe rfl⟩)
 dsimp only [Pt.U, Pt.locs, Pt.cells, Pt.slots] at X21 l21 y21 z21 st21 hQ21
 subst l21 y21 z21
 obtain ⟨rfl, Nq21, Kq21, t21, kv21, zq21, Eq21, Vq21, Cq21, Mq21, Aq21⟩ := hQ21
 have ne22 : sb ≠ t21 := Nat.ne_of_lt (Nat.lt_of_lt_of_le Eb.lt zq21)
 have g23 : n0 ≤ t21 := Nat.le_trans Z0 zq21
 have z24 : h0.size ≤ t21 := Nat.le_trans (Nat.le_refl h0.size) zq21
 have N25 := Fr.app N0 Nq21
 obtain ⟨Lh26, Xh26, Nh26⟩ := oHd 1 16 X21 N25 rfl rfl
 refine ownSt st21 ?_
 clear st21
 show oA p e below _ T21 (mkF m 6 #[vR sb] [])
 have f27 := ((Keep.refl h0 [sb]).trans Kq21 (allS (Or.inl (List.mem_of_getElem? (i := 0) rfl)) all0))
 refine ownRet Xh26 Bd.notSynchronized (v := none) (fun _ => rfl) ?_ (oLe rfl) (oLe rfl) (fun fs hr => Xh26.returnOut hx Bd.returns (D d10_6) hr)
 show (Q_sbi Z sb c9 G1 h0 n0) (none) T21.heap _
 exact ⟨rfl, Nh26, f27, t21, kv21, z24, Eq21, Vq21, Cq21, Mq21, Aq21⟩
abbrev fr_gby (m : MethodId) (x : Addr) (va : Addr) (cn : Int32) (pc : Nat)  (st : List Value) : JFrame := mkF m pc #[vR x, vR va, vI cn, vI 0] st
def Q_gby (Z : State) (x : Addr) (ta : Addr) (kb : ClassId) (z : Int32) (us : List Value) (va : Addr) (kv : ClassId) (zb : Int32) (vs : List Value) (cn : Int32) (wl : List Value) (cm : Int32) (G1 : Int32) (h0 : Heap) (n0 : Nat) (v : Option Value) (h : Heap) (L : List Loc) : Prop := v = none ∧ Fr n0 L ∧ Keep h0 h [va] ∧ Arv Z h va kv .byte zb wl (iV 0)
theorem ef_gby (m : MethodId) (x0 : Addr) (x1 : Addr) (x2 : Int32) (x3 : Int32)  : entryFrame m #[(.ref x0), (.ref x1), (.int x2), (.int x3)] 4 = mkF m 0 #[vR x0, vR x1, vI x2, vI x3] [] := by first | (simp [entryFrame, mkF, argsToLocals, Value.category]; done) | rfl
set_option maxRecDepth 65536 in
set_option maxHeartbeats 40000000 in
theorem c_gby (l : Launch) (Z : State) (a0 : Array Value) (hw : HW a0 Z) (ws : List Jvm.Cond) (x : Addr) (ta : Addr) (kb : ClassId) (z : Int32) (us : List Value) (va : Addr) (kv : ClassId) (zb : Int32) (vs : List Value) (cn : Int32) (wl : List Value) (cm : Int32) (G1 : Int32) (h0 : Heap) (n0 : Nat) (Z0 : n0 ≤ h0.size) (Es : Exa Z h0 x "java/lang/String") (Vs : Fld Z h0 x "java/lang/String" "value" "[B" (.ref ta)) (Cs : Fld Z h0 x "java/lang/String" "coder" "B" (iV 0)) (Ks : Arv Z h0 ta kb .byte z us (iV 0)) (Ba : Arv Z h0 va kv .byte zb vs (iV 0)) (gv : n0 ≤ va) (ntv : ta ≠ va) (hC : Cpy vs us wl cn z zb cm) (O2 : Sta Z Z.heap "java/lang/String" "COMPACT_STRINGS" "Z" (.int G1)) (P5 : ¬ (G1 = (0 : Int32))) (X00 : Old Z n0 h0) :
  MetFree l yM9 (head1 (Jvm.Cond.code yM9 jdk_42_method_147_code 4 none :: ws) ({ frames := 1, cells := 0, slots := 0, locals := 40 } : Room)) (fun a U => a = #[(.ref x), (.ref va), (.int cn), (iV 0)] ∧ Z.Warmed39 U.vm ∧ U.heap = h0) (fun _ _ _ _ _ => True) (fun _ U o U' => ∃ v L, o = .returned v ∧ (Q_gby Z x ta kb z us va kv zb vs cn wl cm G1 h0 n0) v U'.heap L ∧ FrameEnd U o U' L ({ frames := 1, cells := 0, slots := 0, locals := 40 } : Room).cells ({ frames := 1, cells := 0, slots := 0, locals := 40 } : Room).slots) := by
 refine MetFree.of_bodySF (plainFor_of_name pn_1) hisR ?_
 intro p e s m args below meth c s₁ Bd hml0 hP hK
 obtain ⟨rfl, hZ, hHp⟩ := hP
 have hx := Bd.exec
 have D := fun {pc : Nat} {r} (h : decode _ pc = r) => hb Bd.bytes h
 have hml : c.maxLocals = 4 := hml0
 have hown : s.vm.findClass "java/lang/String" = some m.cls := findClass_of_methodNamed Bd.named
 have hnm := (name_of_methodNamed Bd.named Bd.method).1
 have X0 : Stand p l e ({ frames := 1, cells := 0, slots := 0, locals := 40 } : Room) s m #[(.ref x), (.ref va), (.int cn), (iV 0)] below meth c s₁ [] 0 0 := Stand.of_body Bd
 have e0 : s₁.heap = h0 := by rw [← hHp, Bd.state]; rfl
 have N0 := Fr.nil n0
 refine ownOut (P := (Q_gby Z x ta kb z us va kv zb vs cn wl cm G1 h0 n0)) ?_
 refine ownBy (A := s₁.setTop (mkF m 0 #[vR x, vR va, vI cn, vI 0] [])) (fun t k => castTop (ef_gby m x va cn (0 : Int32)) k) ?_
 have nxv : x ≠ va := Exa.neArv Es Ba (Wd5 hw)
 refine oTo s₁ (fr_gby m x va cn 1  [(.ref x)]) (fun t kt => ?_) ?_
 ·refine XS.aloadN X0.here hx rfl (D d19_0) rfl rfl ?_
  exact kt
 obtain ⟨cq21, kq21, q21a, q21b, q21c⟩ := isOf hZ e0 Es
 obtain ⟨vv21, _, ⟨T21, L21, k21, n21⟩, -, X21, ⟨Lc21, hQ21, l21, y21, z21⟩, st21⟩ := X0.virtualBack hx (y := yM0) (z := yM0) hown (mvT hZ (Wd77 hw)) (mvT hZ (Wd78 hw)) (oNf hZ (Wd80 hw)) (mvT hZ (Wd80 hw)) (mvT hZ (Wd79 hw)) (by decide) (backOf (W := 0) (c_cod l Z a0 hw [] x G1 h0 n0 Z0 Es Cs O2 P5 X00) hZ (Wd81 hw) (Wd6 hw) (by decide) (by decide)) q21a q21c (g := (fr_gby m x va cn 1  [(.ref x)])) rfl (by rw [hml]; rfl) (Steps.refl _) (argsL := []) (rest := []) (lenOf pd_2 rfl) rfl (oWt rfl) (D d19_1) (fun _ _ => ⟨rfl, e0, oLe rfl, oLe rfl⟩)
 dsimp only [Pt.U, Pt.locs, Pt.cells, Pt.slots] at X21 l21 y21 z21 st21 hQ21
 subst l21 y21 z21
 obtain ⟨rfl, Nq21, Eq21⟩ := hQ21
 have N22 := Fr.app N0 Nq21
 obtain ⟨Lh23, Xh23, Nh23⟩ := oHd 0 0 X21 N22 rfl rfl
 refine ownSt st21 ?_
 clear st21
 show oA p e below _ T21 (fr_gby m x va cn 4  [(iV 0)])
 refine oTo T21 (fr_gby m x va cn 9  [(.ref x)]) (fun t kt => ?_) ?_
 ·refine XS.iloadN Xh23.here hx rfl (D d19_4) rfl ?_
  refine XS.icmpNo Xh23.here hx rfl (D d19_5) rfl (teq ((by decide) : (0 : Int32) = (0 : Int32))).2 ?_
  refine XS.aloadN Xh23.here hx rfl (D d19_8) rfl rfl ?_
  exact kt
 refine own_getF Xh23 hx hZ hown (host := "") (Or.inl (Wd35 hw)) Via.refl Eq21 Vs (D d19_9) (fun T24 X24 e24 => ?_)
 refine oTo T24 (fr_gby m x va cn 17  [(.int (cn <<< ((0 : Int32) &&& 31))), (.ref va), (iV 0), (.ref ta)]) (fun t kt => ?_) ?_
 ·refine XS.iconst X24.here hx rfl (D d19_12) ?_
  refine XS.aloadN X24.here hx rfl (D d19_13) rfl rfl ?_
  refine XS.iloadN X24.here hx rfl (D d19_14) rfl ?_
  refine XS.iloadN X24.here hx rfl (D d19_15) rfl ?_
  show Steps p.tables e below (T24.setTop (fr_gby m x va cn 16  [(iV 0), (.int cn), (.ref va), (iV 0), (.ref ta)])) t
  refine XS.ishl X24.here hx rfl (D d19_16) rfl ?_
  exact kt
 show oA p e below _ T24 (fr_gby m x va cn 17  [(.int (cn <<< ((0 : Int32) &&& 31))), (.ref va), (iV 0), (.ref ta)])
 rw [own_shl0 cn]
 refine oTo T24 (fr_gby m x va cn 18  [(.ref x), (.int cn), (.ref va), (iV 0), (.ref ta)]) (fun t kt => ?_) ?_
 ·refine XS.aloadN X24.here hx rfl (D d19_17) rfl rfl ?_
  exact kt
 refine own_getF X24 hx hZ hown (host := "") (Or.inl (Wd35 hw)) Via.refl e24 Vs (D d19_18) (fun T25 X25 e25 => ?_)
 obtain ⟨cl26, Ar26, -, S26, N26, -, -⟩ := id Ks
 have st26 := X25.arraylength hx (by rw [e25]; exact Ar26.1) (State.isArrayOf_alike hZ.alike Ar26.2.1) (g := (fr_gby m x va cn 21  [(.ref ta), (.int cn), (.ref va), (iV 0), (.ref ta)])) rfl rfl (D d19_21)
 rw [len_of S26 N26] at st26
 refine ownBy st26 ?_
 show oA p e below _ T25 (fr_gby m x va cn 22  [(.int z), (.int cn), (.ref va), (iV 0), (.ref ta)])
 obtain ⟨T27, h27, L27, X27, e27, Nq27, K27, A27, st27⟩ := cpA X25 hx hZ hown (Wd105 hw) (Wd108 hw) (Wd106 hw) (Wd107 hw) e25 Ks Ba (us := us) (Or.inl ⟨rfl, rfl⟩) (sp := (0 : Int32)) (dp := cn) (nn := z) (by decide) hC.1 hC.2.1 (Nat.le_of_eq (Nat.zero_add _)) hC.2.2.1 hC.2.2.2.1 hC.2.2.2.2.1 Nh23 gv (g := (fr_gby m x va cn 22  [(.int z), (.int cn), (.ref va), (iV 0), (.ref ta)])) rfl (by rw [hml]; rfl) rfl (D d19_22) (by decide) (W := 0) (oWt rfl) (by decide)
 have V28 : Arv Z h27 va kv .byte zb wl (iV 0) := by rw [← hC.2.2.2.2.2.1]; exact A27
 refine ownBy st27 ?_
 clear st27
 show oA p e below _ T27 (fr_gby m x va cn 25  [])
 refine oTo T27 (fr_gby m x va cn 43  []) (fun t kt => ?_) ?_
 ·refine XS.goto X27.here hx rfl (pc0 := 25) (pc' := 43) rfl (D d19_25) (by decide) (by decide) ?_
  exact kt
 have f29 := ((Keep.refl h0 [va]).trans K27 (allS (Or.inl (List.mem_of_getElem? (i := 0) rfl)) all0))
 refine ownRet X27 Bd.notSynchronized (v := none) (fun _ => rfl) ?_ (oLe rfl) (oLe rfl) (fun fs hr => X27.returnOut hx Bd.returns (D d19_43) hr)
 show (Q_gby Z x ta kb z us va kv zb vs cn wl cm G1 h0 n0) (none) T27.heap _
 rw [e27]
 exact ⟨rfl, Nq27, f29, V28⟩
abbrev fr_ifn (m : MethodId) (sb : Addr) (x : Addr) (pc : Nat)  (st : List Value) : JFrame := mkF m pc #[vR sb, vR x] st
def Q_ifn (Z : State) (x : Addr) (ta : Addr) (kb : ClassId) (z : Int32) (us : List Value) (sb : Addr) (va : Addr) (kv : ClassId) (zb : Int32) (vs : List Value) (cn : Int32) (G1 : Int32) (h0 : Heap) (n0 : Nat) (v : Option Value) (h : Heap) (L : List Loc) : Prop := v = none ∧ Fr n0 L ∧ h = h0
theorem ef_ifn (m : MethodId) (x0 : Addr) (x1 : Addr)  : entryFrame m #[(.ref x0), (.ref x1)] 2 = mkF m 0 #[vR x0, vR x1] [] := by first | (simp [entryFrame, mkF, argsToLocals, Value.category]; done) | rfl
set_option maxRecDepth 65536 in
set_option maxHeartbeats 40000000 in
theorem c_ifn (l : Launch) (Z : State) (a0 : Array Value) (hw : HW a0 Z) (ws : List Jvm.Cond) (x : Addr) (ta : Addr) (kb : ClassId) (z : Int32) (us : List Value) (sb : Addr) (va : Addr) (kv : ClassId) (zb : Int32) (vs : List Value) (cn : Int32) (G1 : Int32) (h0 : Heap) (n0 : Nat) (Z0 : n0 ≤ h0.size) (Es : Exa Z h0 x "java/lang/String") (Vs : Fld Z h0 x "java/lang/String" "value" "[B" (.ref ta)) (Cs : Fld Z h0 x "java/lang/String" "coder" "B" (iV 0)) (Ks : Arv Z h0 ta kb .byte z us (iV 0)) (Eb : Exa Z h0 sb "java/lang/StringBuilder") (Bv : Fld Z h0 sb "java/lang/AbstractStringBuilder" "value" "[B" (.ref va)) (Bc : Fld Z h0 sb "java/lang/AbstractStringBuilder" "coder" "B" (iV 0)) (Bn : Fld Z h0 sb "java/lang/AbstractStringBuilder" "count" "I" (.int cn)) (Ba : Arv Z h0 va kv .byte zb vs (iV 0)) (O2 : Sta Z Z.heap "java/lang/String" "COMPACT_STRINGS" "Z" (.int G1)) (P5 : ¬ (G1 = (0 : Int32))) (X00 : Old Z n0 h0) :
  MetFree l yM10 (head1 (Jvm.Cond.code yM10 jdk_68_method_71_code 2 none :: ws) ({ frames := 1, cells := 0, slots := 0, locals := 13 } : Room)) (fun a U => a = #[(.ref sb), (.ref x)] ∧ Z.Warmed39 U.vm ∧ U.heap = h0) (fun _ _ _ _ _ => True) (fun _ U o U' => ∃ v L, o = .returned v ∧ (Q_ifn Z x ta kb z us sb va kv zb vs cn G1 h0 n0) v U'.heap L ∧ FrameEnd U o U' L ({ frames := 1, cells := 0, slots := 0, locals := 13 } : Room).cells ({ frames := 1, cells := 0, slots := 0, locals := 13 } : Room).slots) := by
 refine MetFree.of_bodySF (plainFor_of_name pn_9) hisR ?_
 intro p e s m args below meth c s₁ Bd hml0 hP hK
 obtain ⟨rfl, hZ, hHp⟩ := hP
 have hx := Bd.exec
 have D := fun {pc : Nat} {r} (h : decode _ pc = r) => hb Bd.bytes h
 have hml : c.maxLocals = 2 := hml0
 have hown : s.vm.findClass "java/lang/AbstractStringBuilder" = some m.cls := findClass_of_methodNamed Bd.named
 have hnm := (name_of_methodNamed Bd.named Bd.method).1
 have X0 : Stand p l e ({ frames := 1, cells := 0, slots := 0, locals := 13 } : Room) s m #[(.ref sb), (.ref x)] below meth c s₁ [] 0 0 := Stand.of_body Bd
 have e0 : s₁.heap = h0 := by rw [← hHp, Bd.state]; rfl
 have N0 := Fr.nil n0
 refine ownOut (P := (Q_ifn Z x ta kb z us sb va kv zb vs cn G1 h0 n0)) ?_
 refine ownBy (A := s₁.setTop (mkF m 0 #[vR sb, vR x] [])) (fun t k => castTop (ef_ifn m sb x) k) ?_
 have nsv : sb ≠ va := Exa.neArv Eb Ba (Wd45 hw)
 refine own_getS X0 hx hZ hown (host := "") (Or.inl (Wd57 hw)) Via.refl e0 (O2.ext X00.2) (D d18_0) (fun T21 X21 e21 => ?_)
 refine oTo T21 (fr_ifn m sb x 7  [(.ref sb)]) (fun t kt => ?_) ?_
 ·refine XS.ifNo X21.here hx rfl (D d18_3) rfl ((if0 _ _).trans (feq P5).1) ?_
  refine XS.aloadN X21.here hx rfl (D d18_6) rfl rfl ?_
  exact kt
 refine own_getF X21 hx hZ hown (host := "") (Or.inl (Wd60 hw)) Via.refl e21 Bc (D d18_7) (fun T22 X22 e22 => ?_)
 refine oTo T22 (fr_ifn m sb x 11  [(.ref x), (iV 0)]) (fun t kt => ?_) ?_
 ·refine XS.aloadN X22.here hx rfl (D d18_10) rfl rfl ?_
  exact kt
 obtain ⟨cq23, kq23, q23a, q23b, q23c⟩ := isOf hZ e22 Es
 obtain ⟨vv23, _, ⟨T23, L23, k23, n23⟩, -, X23, ⟨Lc23, hQ23, l23, y23, z23⟩, st23⟩ := X22.virtualBack hx (y := yM0) (z := yM0) hown (mvT hZ (Wd99 hw)) (mvT hZ (Wd78 hw)) (oNf hZ (Wd80 hw)) (mvT hZ (Wd80 hw)) (mvT hZ (Wd79 hw)) (by decide) (backOf (W := 1) (c_cod l Z a0 hw [] x G1 h0 n0 Z0 Es Cs O2 P5 X00) hZ (Wd81 hw) (Wd6 hw) (by decide) (by decide)) q23a q23c (g := (fr_ifn m sb x 11  [(.ref x), (iV 0)])) rfl (by rw [hml]; rfl) (Steps.refl _) (argsL := []) (rest := [(iV 0)]) (lenOf pd_2 rfl) rfl (oWt rfl) (D d18_11) (fun _ _ => ⟨rfl, e22, oLe rfl, oLe rfl⟩)
 dsimp only [Pt.U, Pt.locs, Pt.cells, Pt.slots] at X23 l23 y23 z23 st23 hQ23
 subst l23 y23 z23
 obtain ⟨rfl, Nq23, Eq23⟩ := hQ23
 have N24 := Fr.app N0 Nq23
 obtain ⟨Lh25, Xh25, Nh25⟩ := oHd 0 0 X23 N24 rfl rfl
 refine ownSt st23 ?_
 clear st23
 show oA p e below _ T23 (fr_ifn m sb x 14  [(iV 0), (iV 0)])
 refine oTo T23 (fr_ifn m sb x 21  []) (fun t kt => ?_) ?_
 ·refine XS.icmpYes Xh25.here hx rfl (pc0 := 14) (pc' := 21) rfl (D d18_14) rfl (teq ((by decide) : (0 : Int32) = (0 : Int32))).1 (by decide) (by decide) ?_
  exact kt
 refine ownRet Xh25 Bd.notSynchronized (v := none) (fun _ => rfl) ?_ (oLe rfl) (oLe rfl) (fun fs hr => Xh25.returnOut hx Bd.returns (D d18_21) hr)
 show (Q_ifn Z x ta kb z us sb va kv zb vs cn G1 h0 n0) (none) T23.heap _
 rw [Eq23]
 exact ⟨rfl, Nh25, rfl⟩
abbrev fr_ens (m : MethodId) (sb : Addr) (cm : Int32) (pc : Nat) (x2_ : Slot) (st : List Value) : JFrame := mkF m pc #[vR sb, vI cm, x2_] st
def Q_ens (Z : State) (sb : Addr) (va : Addr) (kv : ClassId) (zb : Int32) (vs : List Value) (cn : Int32) (cm : Int32) (h0 : Heap) (n0 : Nat) (v : Option Value) (h : Heap) (L : List Loc) : Prop := v = none ∧ Fr n0 L ∧ h = h0
theorem ef_ens (m : MethodId) (x0 : Addr) (x1 : Int32)  : entryFrame m #[(.ref x0), (.int x1)] 3 = mkF m 0 #[vR x0, vI x1, .unset] [] := by first | (simp [entryFrame, mkF, argsToLocals, Value.category]; done) | rfl
set_option maxRecDepth 65536 in
set_option maxHeartbeats 40000000 in
theorem c_ens (l : Launch) (Z : State) (a0 : Array Value) (hw : HW a0 Z) (ws : List Jvm.Cond) (sb : Addr) (va : Addr) (kv : ClassId) (zb : Int32) (vs : List Value) (cn : Int32) (cm : Int32) (h0 : Heap) (n0 : Nat) (Z0 : n0 ≤ h0.size) (Eb : Exa Z h0 sb "java/lang/StringBuilder") (Bv : Fld Z h0 sb "java/lang/AbstractStringBuilder" "value" "[B" (.ref va)) (Bc : Fld Z h0 sb "java/lang/AbstractStringBuilder" "coder" "B" (iV 0)) (Bn : Fld Z h0 sb "java/lang/AbstractStringBuilder" "count" "I" (.int cn)) (Ba : Arv Z h0 va kv .byte zb vs (iV 0)) (hcap : ¬ ((0 : Int32) < (cm - (zb >>> ((0 : Int32) &&& 31))))) :
  MetFree l yM11 (head1 (Jvm.Cond.code yM11 jdk_68_method_9_code 3 none :: ws) ({ frames := 0, cells := 0, slots := 0, locals := 0 } : Room)) (fun a U => a = #[(.ref sb), (.int cm)] ∧ Z.Warmed39 U.vm ∧ U.heap = h0) (fun _ _ _ _ _ => True) (fun _ U o U' => ∃ v L, o = .returned v ∧ (Q_ens Z sb va kv zb vs cn cm h0 n0) v U'.heap L ∧ FrameEnd U o U' L ({ frames := 0, cells := 0, slots := 0, locals := 0 } : Room).cells ({ frames := 0, cells := 0, slots := 0, locals := 0 } : Room).slots) := by
 refine MetFree.of_bodySF (plainFor_of_name pn_9) hisR ?_
 intro p e s m args below meth c s₁ Bd hml0 hP hK
 obtain ⟨rfl, hZ, hHp⟩ := hP
 have hx := Bd.exec
 have D := fun {pc : Nat} {r} (h : decode _ pc = r) => hb Bd.bytes h
 have hml : c.maxLocals = 3 := hml0
 have hown : s.vm.findClass "java/lang/AbstractStringBuilder" = some m.cls := findClass_of_methodNamed Bd.named
 have hnm := (name_of_methodNamed Bd.named Bd.method).1
 have X0 : Stand p l e ({ frames := 0, cells := 0, slots := 0, locals := 0 } : Room) s m #[(.ref sb), (.int cm)] below meth c s₁ [] 0 0 := Stand.of_body Bd
 have e0 : s₁.heap = h0 := by rw [← hHp, Bd.state]; rfl
 have N0 := Fr.nil n0
 refine ownOut (P := (Q_ens Z sb va kv zb vs cn cm h0 n0)) ?_
 refine ownBy (A := s₁.setTop (mkF m 0 #[vR sb, vI cm, .unset] [])) (fun t k => castTop (ef_ens m sb cm) k) ?_
 have nsv : sb ≠ va := Exa.neArv Eb Ba (Wd45 hw)
 refine oTo s₁ (fr_ens m sb cm 1 .unset [(.ref sb)]) (fun t kt => ?_) ?_
 ·refine XS.aloadN X0.here hx rfl (D d16_0) rfl rfl ?_
  exact kt
 refine own_getF X0 hx hZ hown (host := "") (Or.inl (Wd58 hw)) Via.refl e0 Bv (D d16_1) (fun T21 X21 e21 => ?_)
 obtain ⟨cl22, Ar22, -, S22, N22, -, -⟩ := id Ba
 have st22 := X21.arraylength hx (by rw [e21]; exact Ar22.1) (State.isArrayOf_alike hZ.alike Ar22.2.1) (g := (fr_ens m sb cm 4 .unset [(.ref va)])) rfl rfl (D d16_4)
 rw [len_of S22 N22] at st22
 refine ownBy st22 ?_
 show oA p e below _ T21 (fr_ens m sb cm 5 .unset [(.int zb)])
 refine oTo T21 (fr_ens m sb cm 6 .unset [(.ref sb), (.int zb)]) (fun t kt => ?_) ?_
 ·refine XS.aloadN X21.here hx rfl (D d16_5) rfl rfl ?_
  exact kt
 refine own_getF X21 hx hZ hown (host := "") (Or.inl (Wd60 hw)) Via.refl e21 Bc (D d16_6) (fun T23 X23 e23 => ?_)
 refine oTo T23 (fr_ens m sb cm 38 (.val (.int (zb >>> ((0 : Int32) &&& 31)))) []) (fun t kt => ?_) ?_
 ·refine XS.ishr X23.here hx rfl (D d16_9) rfl ?_
  refine XS.istoreN X23.here hx rfl (D d16_10) rfl (l' := #[vR sb, vI cm, .val (.int (zb >>> ((0 : Int32) &&& 31)))]) rfl ?_
  refine XS.iloadN X23.here hx rfl (D d16_11) rfl ?_
  refine XS.iloadN X23.here hx rfl (D d16_12) rfl ?_
  show Steps p.tables e below (T23.setTop (fr_ens m sb cm 13 (.val (.int (zb >>> ((0 : Int32) &&& 31)))) [(.int (zb >>> ((0 : Int32) &&& 31))), (.int cm)])) t
  refine XS.isub X23.here hx rfl (D d16_13) rfl ?_
  refine XS.ifYes X23.here hx rfl (pc0 := 14) (pc' := 38) rfl (D d16_14) rfl ((if0 _ _).trans (flt hcap).2.2.2) (by decide) (by decide) ?_
  exact kt
 refine ownRet X23 Bd.notSynchronized (v := none) (fun _ => rfl) ?_ (oLe rfl) (oLe rfl) (fun fs hr => X23.returnOut hx Bd.returns (D d16_38) hr)
 show (Q_ens Z sb va kv zb vs cn cm h0 n0) (none) T23.heap _
 rw [e23]
 exact ⟨rfl, N0, rfl⟩
abbrev fr_pst (m : MethodId) (sb : Addr) (cn : Int32) (x : Addr) (pc : Nat)  (st : List Value) : JFrame := mkF m pc #[vR sb, vI cn, vR x] st
def Q_pst (Z : State) (x : Addr) (ta : Addr) (kb : ClassId) (z : Int32) (us : List Value) (sb : Addr) (va : Addr) (kv : ClassId) (zb : Int32) (vs : List Value) (cn : Int32) (wl : List Value) (cm : Int32) (G1 : Int32) (h0 : Heap) (n0 : Nat) (v : Option Value) (h : Heap) (L : List Loc) : Prop := v = none ∧ Fr n0 L ∧ Keep h0 h [va] ∧ Arv Z h va kv .byte zb wl (iV 0)
theorem ef_pst (m : MethodId) (x0 : Addr) (x1 : Int32) (x2 : Addr)  : entryFrame m #[(.ref x0), (.int x1), (.ref x2)] 3 = mkF m 0 #[vR x0, vI x1, vR x2] [] := by first | (simp [entryFrame, mkF, argsToLocals, Value.category]; done) | rfl
set_option maxRecDepth 65536 in
set_option maxHeartbeats 40000000 in
theorem c_pst (l : Launch) (Z : State) (a0 : Array Value) (hw : HW a0 Z) (ws : List Jvm.Cond) (x : Addr) (ta : Addr) (kb : ClassId) (z : Int32) (us : List Value) (sb : Addr) (va : Addr) (kv : ClassId) (zb : Int32) (vs : List Value) (cn : Int32) (wl : List Value) (cm : Int32) (G1 : Int32) (h0 : Heap) (n0 : Nat) (Z0 : n0 ≤ h0.size) (Es : Exa Z h0 x "java/lang/String") (Vs : Fld Z h0 x "java/lang/String" "value" "[B" (.ref ta)) (Cs : Fld Z h0 x "java/lang/String" "coder" "B" (iV 0)) (Ks : Arv Z h0 ta kb .byte z us (iV 0)) (Eb : Exa Z h0 sb "java/lang/StringBuilder") (Bv : Fld Z h0 sb "java/lang/AbstractStringBuilder" "value" "[B" (.ref va)) (Bc : Fld Z h0 sb "java/lang/AbstractStringBuilder" "coder" "B" (iV 0)) (Bn : Fld Z h0 sb "java/lang/AbstractStringBuilder" "count" "I" (.int cn)) (Ba : Arv Z h0 va kv .byte zb vs (iV 0)) (gb : n0 ≤ sb) (gv : n0 ≤ va) (ntv : ta ≠ va) (hC : Cpy vs us wl cn z zb cm) (O2 : Sta Z Z.heap "java/lang/String" "COMPACT_STRINGS" "Z" (.int G1)) (P5 : ¬ (G1 = (0 : Int32))) (X00 : Old Z n0 h0) :
  MetFree l yM12 (head1 (Jvm.Cond.code yM12 jdk_68_method_73_code 3 none :: ws) ({ frames := 2, cells := 0, slots := 0, locals := 60 } : Room)) (fun a U => a = #[(.ref sb), (.int cn), (.ref x)] ∧ Z.Warmed39 U.vm ∧ U.heap = h0) (fun _ _ _ _ _ => True) (fun _ U o U' => ∃ v L, o = .returned v ∧ (Q_pst Z x ta kb z us sb va kv zb vs cn wl cm G1 h0 n0) v U'.heap L ∧ FrameEnd U o U' L ({ frames := 2, cells := 0, slots := 0, locals := 60 } : Room).cells ({ frames := 2, cells := 0, slots := 0, locals := 60 } : Room).slots) := by
 refine MetFree.of_bodySF (plainFor_of_name pn_9) hisR ?_
 intro p e s m args below meth c s₁ Bd hml0 hP hK
 obtain ⟨rfl, hZ, hHp⟩ := hP
 have hx := Bd.exec
 have D := fun {pc : Nat} {r} (h : decode _ pc = r) => hb Bd.bytes h
 have hml : c.maxLocals = 3 := hml0
 have hown : s.vm.findClass "java/lang/AbstractStringBuilder" = some m.cls := findClass_of_methodNamed Bd.named
 have hnm := (name_of_methodNamed Bd.named Bd.method).1
 have X0 : Stand p l e ({ frames := 2, cells := 0, slots := 0, locals := 60 } : Room) s m #[(.ref sb), (.int cn), (.ref x)] below meth c s₁ [] 0 0 := Stand.of_body Bd
 have e0 : s₁.heap = h0 := by rw [← hHp, Bd.state]; rfl
 have N0 := Fr.nil n0
 refine ownOut (P := (Q_pst Z x ta kb z us sb va kv zb vs cn wl cm G1 h0 n0)) ?_
 refine ownBy (A := s₁.setTop (mkF m 0 #[vR sb, vI cn, vR x] [])) (fun t k => castTop (ef_pst m sb cn x) k) ?_
 have nsv : sb ≠ va := Exa.neArv Eb Ba (Wd45 hw)
 have nxs : x ≠ sb := own_exa_ne Es Eb (by decide)
 have nxv : x ≠ va := Exa.neArv Es Ba (Wd5 hw)
 have nst : sb ≠ ta := Exa.neArv Eb Ks (Wd45 hw)
 have nxt : x ≠ ta := Exa.neArv Es Ks (Wd5 hw)
 refine oTo s₁ (fr_pst m sb cn x 2  [(.ref x), (.ref sb)]) (fun t kt => ?_) ?_
 ·refine XS.aloadN X0.here hx rfl (D d17_0) rfl rfl ?_
  refine XS.aloadN X0.here hx rfl (D d17_1) rfl rfl ?_
  exact kt
 obtain ⟨cq21, q21, q21'⟩ := Eb.cell
 obtain ⟨vv21, _, ⟨T21, L21, k21, n21⟩, -, X21, ⟨Lc21, hQ21, l21, y21, z21⟩, st21⟩ := X0.privateBack hx (y := yM10) hown (mvT hZ (Wd94 hw)) (mvT hZ (Wd95 hw)) (mvT hZ (own_selpriv (Wd97 hw) (Wd96 hw) (Wd95 hw) (by decide))) (Cond.privateMethod_at (mvP hZ (Wd96 hw) (args := #[]))) (mvT hZ (Wd98 hw)) (by decide) (backOf (W := 0) (c_ifn l Z a0 hw [] x ta kb z us sb va kv zb vs cn G1 h0 n0 Z0 Es Vs Cs Ks Eb Bv Bc Bn Ba O2 P5 X00) hZ (Wd98 hw) (Wd54 hw) (by decide) (by decide)) (g := (fr_pst m sb cn x 2  [(.ref x), (.ref sb)])) rfl (by rw [hml]; rfl) (Steps.refl _) (a := sb) (by rw [e0]; exact q21) q21' (argsL := [(.ref x)]) (rest := []) (lenOf pd_12 rfl) rfl (oWt rfl) (D d17_2) (fun _ _ => ⟨rfl, e0, oLe rfl, oLe rfl⟩)
 dsimp only [Pt.U, Pt.locs, Pt.cells, Pt.slots] at X21 l21 y21 z21 st21 hQ21
 subst l21 y21 z21
 obtain ⟨rfl, Nq21, Eq21⟩ := hQ21
 have N22 := Fr.app N0 Nq21
 obtain ⟨Lh23, Xh23, Nh23⟩ := oHd 0 0 X21 N22 rfl rfl
 refine ownSt st21 ?_
 clear st21
 show oA p e below _ T21 (fr_pst m sb cn x 5  [])
 refine oTo T21 (fr_pst m sb cn x 7  [(.ref sb), (.ref x)]) (fun t kt => ?_) ?_
 ·refine XS.aloadN Xh23.here hx rfl (D d17_5) rfl rfl ?_
  refine XS.aloadN Xh23.here hx rfl (D d17_6) rfl rfl ?_
  exact kt
 refine own_getF Xh23 hx hZ hown (host := "") (Or.inl (Wd58 hw)) Via.refl Eq21 Bv (D d17_7) (fun T24 X24 e24 => ?_)
 refine oTo T24 (fr_pst m sb cn x 12  [(.ref sb), (.int cn), (.ref va), (.ref x)]) (fun t kt => ?_) ?_
 ·refine XS.iloadN X24.here hx rfl (D d17_10) rfl ?_
  refine XS.aloadN X24.here hx rfl (D d17_11) rfl rfl ?_
  exact kt
 refine own_getF X24 hx hZ hown (host := "") (Or.inl (Wd60 hw)) Via.refl e24 Bc (D d17_12) (fun T25 X25 e25 => ?_)
 obtain ⟨cq26, kq26, q26a, q26b, q26c⟩ := isOf hZ e25 Es
 obtain ⟨vv26, _, ⟨T26, L26, k26, n26⟩, -, X26, ⟨Lc26, hQ26, l26, y26, z26⟩, st26⟩ := X25.virtualBack hx (y := yM9) (z := yM9) hown (mvT hZ (Wd100 hw)) (mvT hZ (Wd101 hw)) (oNf hZ (Wd103 hw)) (mvT hZ (Wd103 hw)) (mvT hZ (Wd102 hw)) (by decide) (backOf (W := 0) (c_gby l Z a0 hw [] x ta kb z us va kv zb vs cn wl cm G1 h0 n0 Z0 Es Vs Cs Ks Ba gv ntv hC O2 P5 X00) hZ (Wd104 hw) (Wd6 hw) (by decide) (by decide)) q26a q26c (g := (fr_pst m sb cn x 15  [(iV 0), (.int cn), (.ref va), (.ref x)])) rfl (by rw [hml]; rfl) (Steps.refl _) (argsL := [(.ref va), (.int cn), (iV 0)]) (rest := []) (lenOf pd_13 rfl) rfl (oWt rfl) (D d17_15) (fun _ _ => ⟨rfl, e25, oLe rfl, oLe rfl⟩)
 dsimp only [Pt.U, Pt.locs, Pt.cells, Pt.slots] at X26 l26 y26 z26 st26 hQ26
 subst l26 y26 z26
 obtain ⟨rfl, Nq26, Kq26, Aq26⟩ := hQ26
 have N27 := Fr.app Nh23 Nq26
 obtain ⟨Lh28, Xh28, Nh28⟩ := oHd 0 0 X26 N27 rfl rfl
 refine ownSt st26 ?_
 clear st26
 show oA p e below _ T26 (fr_pst m sb cn x 18  [])
 have f29 := ((Keep.refl h0 [va]).trans Kq26 (allS (Or.inl (List.mem_of_getElem? (i := 0) rfl)) all0))
 refine ownRet Xh28 Bd.notSynchronized (v := none) (fun _ => rfl) ?_ (oLe rfl) (oLe rfl) (fun fs hr => Xh28.returnOut hx Bd.returns (D d17_18) hr)
 show (Q_pst Z x ta kb z us sb va kv zb vs cn wl cm G1 h0 n0) (none) T26.heap _
 exact ⟨rfl, Nh28, f29, Aq26⟩
abbrev fr_aapp (m : MethodId) (sb : Addr) (x : Addr) (pc : Nat) (x2_ : Slot) (st : List Value) : JFrame := mkF m pc #[vR sb, vR x, x2_] st
def Q_aapp (Z : State) (x : Addr) (ta : Addr) (kb : ClassId) (z : Int32) (us : List Value) (sb : Addr) (va : Addr) (kv : ClassId) (zb : Int32) (vs : List Value) (cn : Int32) (wl : List Value) (cm : Int32) (G1 : Int32) (h0 : Heap) (n0 : Nat) (v : Option Value) (h : Heap) (L : List Loc) : Prop := v = some (.ref sb) ∧ Fr n0 L ∧ Keep h0 h [sb, va] ∧ Exa Z h sb "java/lang/StringBuilder" ∧ Fld Z h sb "java/lang/AbstractStringBuilder" "value" "[B" (.ref va) ∧ Fld Z h sb "java/lang/AbstractStringBuilder" "coder" "B" (iV 0) ∧ Fld Z h sb "java/lang/AbstractStringBuilder" "count" "I" (.int cm) ∧ Arv Z h va kv .byte zb wl (iV 0)
theorem ef_aapp (m : MethodId) (x0 : Addr) (x1 : Addr)  : entryFrame m #[(.ref x0), (.ref x1)] 3 = mkF m 0 #[vR x0, vR x1, .unset] [] := by first | (simp [entryFrame, mkF, argsToLocals, Value.category]; done) | rfl
set_option maxRecDepth 65536 in
set_option maxHeartbeats 40000000 in
theorem c_aapp (l : Launch) (Z : State) (a0 : Array Value) (hw : HW a0 Z) (ws : List Jvm.Cond) (x : Addr) (ta : Addr) (kb : ClassId) (z : Int32) (us : List Value) (sb : Addr) (va : Addr) (kv : ClassId) (zb : Int32) (vs : List Value) (cn : Int32) (wl : List Value) (cm : Int32) (G1 : Int32) (h0 : Heap) (n0 : Nat) (Z0 : n0 ≤ h0.size) (Es : Exa Z h0 x "java/lang/String") (Vs : Fld Z h0 x "java/lang/String" "value" "[B" (.ref ta)) (Cs : Fld Z h0 x "java/lang/String" "coder" "B" (iV 0)) (Ks : Arv Z h0 ta kb .byte z us (iV 0)) (Eb : Exa Z h0 sb "java/lang/StringBuilder") (Bv : Fld Z h0 sb "java/lang/AbstractStringBuilder" "value" "[B" (.ref va)) (Bc : Fld Z h0 sb "java/lang/AbstractStringBuilder" "coder" "B" (iV 0)) (Bn : Fld Z h0 sb "java/lang/AbstractStringBuilder" "count" "I" (.int cn)) (Ba : Arv Z h0 va kv .byte zb vs (iV 0)) (gb : n0 ≤ sb) (gv : n0 ≤ va) (ntv : ta ≠ va) (hC : Cpy vs us wl cn z zb cm) (O2 : Sta Z Z.heap "java/lang/String" "COMPACT_STRINGS" "Z" (.int G1)) (P5 : ¬ (G1 = (0 : Int32))) (X00 : Old Z n0 h0) :
  MetFree l yM13 (head1 (Jvm.Cond.code yM13 jdk_68_method_22_code 3 (some (.object "java/lang/AbstractStringBuilder")) :: ws) ({ frames := 3, cells := 0, slots := 0, locals := 80 } : Room)) (fun a U => a = #[(.ref sb), (.ref x)] ∧ Z.Warmed39 U.vm ∧ U.heap = h0) (fun _ _ _ _ _ => True) (fun _ U o U' => ∃ v L, o = .returned v ∧ (Q_aapp Z x ta kb z us sb va kv zb vs cn wl cm G1 h0 n0) v U'.heap L ∧ FrameEnd U o U' L ({ frames := 3, cells := 0, slots := 0, locals := 80 } : Room).cells ({ frames := 3, cells := 0, slots := 0, locals := 80 } : Room).slots) := by
 refine MetFree.of_bodySF (plainFor_of_name pn_9) hisR ?_
 intro p e s m args below meth c s₁ Bd hml0 hP hK
 obtain ⟨rfl, hZ, hHp⟩ := hP
 have hx := Bd.exec
 have D := fun {pc : Nat} {r} (h : decode _ pc = r) => hb Bd.bytes h
 have hml : c.maxLocals = 3 := hml0
 have hown : s.vm.findClass "java/lang/AbstractStringBuilder" = some m.cls := findClass_of_methodNamed Bd.named
 have hnm := (name_of_methodNamed Bd.named Bd.method).1
 have X0 : Stand p l e ({ frames := 3, cells := 0, slots := 0, locals := 80 } : Room) s m #[(.ref sb), (.ref x)] below meth c s₁ [] 0 0 := Stand.of_body Bd
 have e0 : s₁.heap = h0 := by rw [← hHp, Bd.state]; rfl
 have N0 := Fr.nil n0
 refine ownOut (P := (Q_aapp Z x ta kb z us sb va kv zb vs cn wl cm G1 h0 n0)) ?_
 refine ownBy (A := s₁.setTop (mkF m 0 #[vR sb, vR x, .unset] [])) (fun t k => castTop (ef_aapp m sb x) k) ?_
 have nsv : sb ≠ va := Exa.neArv Eb Ba (Wd45 hw)
 have nxs : x ≠ sb := own_exa_ne Es Eb (by decide)
 have nxv : x ≠ va := Exa.neArv Es Ba (Wd5 hw)
 have nst : sb ≠ ta := Exa.neArv Eb Ks (Wd45 hw)
 have nxt : x ≠ ta := Exa.neArv Es Ks (Wd5 hw)
 refine oTo s₁ (fr_aapp m sb x 10 .unset [(.ref x)]) (fun t kt => ?_) ?_
 ·refine XS.aloadN X0.here hx rfl (D d13_0) rfl rfl ?_
  refine XS.ifnonnullYes X0.here hx rfl (pc0 := 1) (pc' := 9) rfl (D d13_1) rfl (by decide) (by decide) ?_
  refine XS.aloadN X0.here hx rfl (D d13_9) rfl rfl ?_
  exact kt
 obtain ⟨cq21, kq21, q21a, q21b, q21c⟩ := isOf hZ e0 Es
 obtain ⟨vv21, _, ⟨T21, L21, k21, n21⟩, -, X21, ⟨Lc21, hQ21, l21, y21, z21⟩, st21⟩ := X0.virtualBack hx (y := yM2) (z := yM2) hown (mvT hZ (Wd72 hw)) (mvT hZ (Wd73 hw)) (oNf hZ (Wd75 hw)) (mvT hZ (Wd75 hw)) (mvT hZ (Wd74 hw)) (by decide) (backOf (W := 0) (c_leng l Z a0 hw [] x ta kb z us G1 h0 n0 Z0 Es Vs Cs Ks hC.2.2.2.2.2.2.1 O2 P5 X00) hZ (Wd76 hw) (Wd6 hw) (by decide) (by decide)) q21a q21c (g := (fr_aapp m sb x 10 .unset [(.ref x)])) rfl (by rw [hml]; rfl) (Steps.refl _) (argsL := []) (rest := []) (lenOf pd_14 rfl) rfl (oWt rfl) (D d13_10) (fun _ _ => ⟨rfl, e0, oLe rfl, oLe rfl⟩)
 dsimp only [Pt.U, Pt.locs, Pt.cells, Pt.slots] at X21 l21 y21 z21 st21 hQ21
 subst l21 y21 z21
 obtain ⟨rfl, Nq21, Eq21⟩ := hQ21
 have N22 := Fr.app N0 Nq21
 obtain ⟨Lh23, Xh23, Nh23⟩ := oHd 0 0 X21 N22 rfl rfl
 refine ownSt st21 ?_
 clear st21
 show oA p e below _ T21 (fr_aapp m sb x 13 .unset [(.int z)])
 refine oTo T21 (fr_aapp m sb x 16 (vI z) [(.ref sb), (.ref sb)]) (fun t kt => ?_) ?_
 ·refine XS.istoreN Xh23.here hx rfl (D d13_13) rfl (l' := #[vR sb, vR x, vI z]) rfl ?_
  refine XS.aloadN Xh23.here hx rfl (D d13_14) rfl rfl ?_
  refine XS.aloadN Xh23.here hx rfl (D d13_15) rfl rfl ?_
  exact kt
 refine own_getF Xh23 hx hZ hown (host := "") (Or.inl (Wd82 hw)) Via.refl Eq21 Bn (D d13_16) (fun T24 X24 e24 => ?_)
 refine oTo T24 (fr_aapp m sb x 21 (vI z) [(.int (cn + z)), (.ref sb)]) (fun t kt => ?_) ?_
 ·refine XS.iloadN X24.here hx rfl (D d13_19) rfl ?_
  refine XS.iadd X24.here hx rfl (D d13_20) rfl ?_
  exact kt
 show oA p e below _ T24 (fr_aapp m sb x 21 (vI z) [(.int (cn + z)), (.ref sb)])
 rw [hC.2.2.2.2.2.2.2.1]
 obtain ⟨cq25, q25, q25'⟩ := Eb.cell
 obtain ⟨vv25, _, ⟨T25, L25, k25, n25⟩, -, X25, ⟨Lc25, hQ25, l25, y25, z25⟩, st25⟩ := X24.privateBack hx (y := yM11) hown (mvT hZ (Wd84 hw)) (mvT hZ (Wd85 hw)) (mvT hZ (own_selpriv (Wd87 hw) (Wd86 hw) (Wd85 hw) (by decide))) (Cond.privateMethod_at (mvP hZ (Wd86 hw) (args := #[]))) (mvT hZ (Wd88 hw)) (by decide) (backOf (W := 0) (c_ens l Z a0 hw [] sb va kv zb vs cn cm h0 n0 Z0 Eb Bv Bc Bn Ba hC.2.2.2.2.2.2.2.2) hZ (Wd88 hw) (Wd54 hw) (by decide) (by decide)) (g := (fr_aapp m sb x 21 (vI z) [(.int cm), (.ref sb)])) rfl (by rw [hml]; rfl) (Steps.refl _) (a := sb) (by rw [e24]; exact q25) q25' (argsL := [(.int cm)]) (rest := []) (lenOf pd_11 rfl) rfl (oWt rfl) (D d13_21) (fun _ _ => ⟨rfl, e24, oLe rfl, oLe rfl⟩)
 dsimp only [Pt.U, Pt.locs, Pt.cells, Pt.slots] at X25 l25 y25 z25 st25 hQ25
 subst l25 y25 z25
 obtain ⟨rfl, Nq25, Eq25⟩ := hQ25
 have N26 := Fr.app Nh23 Nq25
 obtain ⟨Lh27, Xh27, Nh27⟩ := oHd 0 0 X25 N26 rfl rfl
 refine ownSt st25 ?_
 clear st25
 show oA p e below _ T25 (fr_aapp m sb x 24 (vI z) [])
 refine oTo T25 (fr_aapp m sb x 26 (vI z) [(.ref sb), (.ref sb)]) (fun t kt => ?_) ?_
 ·refine XS.aloadN Xh27.here hx rfl (D d13_24) rfl rfl ?_
  refine XS.aloadN Xh27.here hx rfl (D d13_25) rfl rfl ?_
  exact kt
 refine own_getF Xh27 hx hZ hown (host := "") (Or.inl (Wd82 hw)) Via.refl Eq25 Bn (D d13_26) (fun T28 X28 e28 => ?_)
 refine oTo T28 (fr_aapp m sb x 30 (vI z) [(.ref x), (.int cn), (.ref sb)]) (fun t kt => ?_) ?_
 ·refine XS.aloadN X28.here hx rfl (D d13_29) rfl rfl ?_
  exact kt
 obtain ⟨cq29, q29, q29'⟩ := Eb.cell
 obtain ⟨vv29, _, ⟨T29, L29, k29, n29⟩, -, X29, ⟨Lc29, hQ29, l29, y29, z29⟩, st29⟩ := X28.privateBack hx (y := yM12) hown (mvT hZ (Wd89 hw)) (mvT hZ (Wd90 hw)) (mvT hZ (own_selpriv (Wd92 hw) (Wd91 hw) (Wd90 hw) (by decide))) (Cond.privateMethod_at (mvP hZ (Wd91 hw) (args := #[]))) (mvT hZ (Wd93 hw)) (by decide) (backOf (W := 0) (c_pst l Z a0 hw [] x ta kb z us sb va kv zb vs cn wl cm G1 h0 n0 Z0 Es Vs Cs Ks Eb Bv Bc Bn Ba gb gv ntv hC O2 P5 X00) hZ (Wd93 hw) (Wd54 hw) (by decide) (by decide)) (g := (fr_aapp m sb x 30 (vI z) [(.ref x), (.int cn), (.ref sb)])) rfl (by rw [hml]; rfl) (Steps.refl _) (a := sb) (by rw [e28]; exact q29) q29' (argsL := [(.int cn), (.ref x)]) (rest := []) (lenOf pd_15 rfl) rfl (oWt rfl) (D d13_30) (fun _ _ => ⟨rfl, e28, oLe rfl, oLe rfl⟩)
 dsimp only [Pt.U, Pt.locs, Pt.cells, Pt.slots] at X29 l29 y29 z29 st29 hQ29
 subst l29 y29 z29
 obtain ⟨rfl, Nq29, Kq29, Aq29⟩ := hQ29
 have N30 := Fr.app Nh27 Nq29
 obtain ⟨Lh31, Xh31, Nh31⟩ := oHd 0 0 X29 N30 rfl rfl
 refine ownSt st29 ?_
 clear st29
 show oA p e below _ T29 (fr_aapp m sb x 33 (vI z) [])
 refine oTo T29 (fr_aapp m sb x 35 (vI z) [(.ref sb), (.ref sb)]) (fun t kt => ?_) ?_
 ·refine XS.aloadN Xh31.here hx rfl (D d13_33) rfl rfl ?_
  refine XS.dup Xh31.here hx rfl (D d13_34) rfl rfl ?_
  exact kt
 have f33 := (Bn.keep Kq29 (ninS nsv nin0))
 refine own_getF Xh31 hx hZ hown (host := "") (Or.inl (Wd82 hw)) Via.refl rfl f33 (D d13_35) (fun T32 X32 e32 => ?_)
 refine oTo T32 (fr_aapp m sb x 40 (vI z) [(.int (cn + z)), (.ref sb)]) (fun t kt => ?_) ?_
 ·refine XS.iloadN X32.here hx rfl (D d13_38) rfl ?_
  refine XS.iadd X32.here hx rfl (D d13_39) rfl ?_
  exact kt
 show oA p e below _ T32 (fr_aapp m sb x 40 (vI z) [(.int (cn + z)), (.ref sb)])
 rw [hC.2.2.2.2.2.2.2.1]
 have f35 := (Eb.keep Kq29)
 obtain ⟨T34, h34, X34, e34, W34, st34⟩ := putF X32 hx hZ hown (host := "") (Or.inl (Wd82 hw)) Via.refl e32 f33 f35 (Or.inl (Wd83 hw)) (Wd45 hw) (ty := .int) (by decide) rfl rfl (g := (fr_aapp m sb x 40 (vI z) [(.int cm), (.ref sb)])) rfl rfl (D d13_40)
 have F36 := f33.same W34
 have N37 := Fr.snoc X34 Nh31 gb
 obtain ⟨Lh38, Xh38, Nh38⟩ := oHd 0 0 X34 N37 rfl rfl
 refine ownBy st34 ?_
 clear st34
 show oA p e below _ T34 (fr_aapp m sb x 43 (vI z) [])
 refine oTo T34 (fr_aapp m sb x 44 (vI z) [(.ref sb)]) (fun t kt => ?_) ?_
 ·refine XS.aloadN Xh38.here hx rfl (D d13_43) rfl rfl ?_
  exact kt
 have f39 := (((Keep.refl h0 [sb, va]).trans Kq29 (allS (Or.inl (List.mem_of_getElem? (i := 1) rfl)) all0)).wr W34 (Or.inl (List.mem_of_getElem? (i := 0) rfl)))
 have f40 := (Aq29.other W34 (Ne.symm nsv))
 have f41 := (f35.wr W34)
 have f42 := ((Bv.keep Kq29 (ninS nsv nin0)).other W34 (Or.inr (slot_ne (Or.inl (Wd59 hw)) (Or.inl (Wd83 hw)) (by decide) (t := (.array .byte)) (t' := .int) (by decide) (by decide))))
 have f43 := ((Bc.keep Kq29 (ninS nsv nin0)).other W34 (Or.inr (slot_ne (Or.inl (Wd61 hw)) (Or.inl (Wd83 hw)) (by decide) (t := .byte) (t' := .int) (by decide) (by decide))))
 refine ownRet Xh38 Bd.notSynchronized (v := some (.ref sb)) (fun h => by rw [Bd.returns] at h; cases h) ?_ (oLe rfl) (oLe rfl) (fun fs hr => retOut Xh38 hx Bd.returns rfl (Or.inr (Or.inr (Or.inr (Or.inr ⟨rfl, rfl, rfl⟩)))) (D d13_44) hr)
 show (Q_aapp Z x ta kb z us sb va kv zb vs cn wl cm G1 h0 n0) (some (.ref sb)) T34.heap _
 rw [e34]
 exact ⟨rfl, Nh38, f39, f41, f42, f43, F36, f40⟩
abbrev fr_sapp (m : MethodId) (sb : Addr) (x : Addr) (pc : Nat)  (st : List Value) : JFrame := mkF m pc #[vR sb, vR x] st
def Q_sapp (Z : State) (x : Addr) (ta : Addr) (kb : ClassId) (z : Int32) (us : List Value) (sb : Addr) (va : Addr) (kv : ClassId) (zb : Int32) (vs : List Value) (cn : Int32) (wl : List Value) (cm : Int32) (G1 : Int32) (h0 : Heap) (n0 : Nat) (v : Option Value) (h : Heap) (L : List Loc) : Prop := v = some (.ref sb) ∧ Fr n0 L ∧ Keep h0 h [sb, va] ∧ Exa Z h sb "java/lang/StringBuilder" ∧ Fld Z h sb "java/lang/AbstractStringBuilder" "value" "[B" (.ref va) ∧ Fld Z h sb "java/lang/AbstractStringBuilder" "coder" "B" (iV 0) ∧ Fld Z h sb "java/lang/AbstractStringBuilder" "count" "I" (.int cm) ∧ Arv Z h va kv .byte zb wl (iV 0)
theorem ef_sapp (m : MethodId) (x0 : Addr) (x1 : Addr)  : entryFrame m #[(.ref x0), (.ref x1)] 2 = mkF m 0 #[vR x0, vR x1] [] := by first | (simp [entryFrame, mkF, argsToLocals, Value.category]; done) | rfl
set_option maxRecDepth 65536 in
set_option maxHeartbeats 40000000 in
theorem c_sapp (l : Launch) (Z : State) (a0 : Array Value) (hw : HW a0 Z) (ws : List Jvm.Cond) (x : Addr) (ta : Addr) (kb : ClassId) (z : Int32) (us : List Value) (sb : Addr) (va : Addr) (kv : ClassId) (zb : Int32) (vs : List Value) (cn : Int32) (wl : List Value) (cm : Int32) (G1 : Int32) (h0 : Heap) (n0 : Nat) (Z0 : n0 ≤ h0.size) (Es : Exa Z h0 x "java/lang/String") (Vs : Fld Z h0 x "java/lang/String" "value" "[B" (.ref ta)) (Cs : Fld Z h0 x "java/lang/String" "coder" "B" (iV 0)) (Ks : Arv Z h0 ta kb .byte z us (iV 0)) (Eb : Exa Z h0 sb "java/lang/StringBuilder") (Bv : Fld Z h0 sb "java/lang/AbstractStringBuilder" "value" "[B" (.ref va)) (Bc : Fld Z h0 sb "java/lang/AbstractStringBuilder" "coder" "B" (iV 0)) (Bn : Fld Z h0 sb "java/lang/AbstractStringBuilder" "count" "I" (.int cn)) (Ba : Arv Z h0 va kv .byte zb vs (iV 0)) (gb : n0 ≤ sb) (gv : n0 ≤ va) (ntv : ta ≠ va) (hC : Cpy vs us wl cn z zb cm) (O2 : Sta Z Z.heap "java/lang/String" "COMPACT_STRINGS" "Z" (.int G1)) (P5 : ¬ (G1 = (0 : Int32))) (X00 : Old Z n0 h0) :
  MetFree l yM14 (head1 (Jvm.Cond.code yM14 jdk_67_method_7_code 2 (some (.object "java/lang/StringBuilder")) :: ws) ({ frames := 4, cells := 0, slots := 0, locals := 100 } : Room)) (fun a U => a = #[(.ref sb), (.ref x)] ∧ Z.Warmed39 U.vm ∧ U.heap = h0) (fun _ _ _ _ _ => True) (fun _ U o U' => ∃ v L, o = .returned v ∧ (Q_sapp Z x ta kb z us sb va kv zb vs cn wl cm G1 h0 n0) v U'.heap L ∧ FrameEnd U o U' L ({ frames := 4, cells := 0, slots := 0, locals := 100 } : Room).cells ({ frames := 4, cells := 0, slots := 0, locals := 100 } : Room).slots) := by
 refine MetFree.of_bodySF (plainFor_of_name pn_10) hisR ?_
 intro p e s m args below meth c s₁ Bd hml0 hP hK
 obtain ⟨rfl, hZ, hHp⟩ := hP
 have hx := Bd.exec
 have D := fun {pc : Nat} {r} (h : decode _ pc = r) => hb Bd.bytes h
 have hml : c.maxLocals = 2 := hml0
 have hown : s.vm.findClass "java/lang/StringBuilder" = some m.cls := findClass_of_methodNamed Bd.named
 have hnm := (name_of_methodNamed Bd.named Bd.method).1
 have X0 : Stand p l e ({ frames := 4, cells := 0, slots := 0, locals := 100 } : Room) s m #[(.ref sb), (.ref x)] below meth c s₁ [] 0 0 := Stand.of_body Bd
 have e0 : s₁.heap = h0 := by rw [← hHp, Bd.state]; rfl
 have N0 := Fr.nil n0
 refine ownOut (P := (Q_sapp Z x ta kb z us sb va kv zb vs cn wl cm G1 h0 n0)) ?_
 refine ownBy (A := s₁.setTop (mkF m 0 #[vR sb, vR x] [])) (fun t k => castTop (ef_sapp m sb x) k) ?_
 have nsv : sb ≠ va := Exa.neArv Eb Ba (Wd45 hw)
 have nxs : x ≠ sb := own_exa_ne Es Eb (by decide)
 have nxv : x ≠ va := Exa.neArv Es Ba (Wd5 hw)
 have nst : sb ≠ ta := Exa.neArv Eb Ks (Wd45 hw)
 have nxt : x ≠ ta := Exa.neArv Es Ks (Wd5 hw)
 refine oTo s₁ (fr_sapp m sb x 2  [(.ref x), (.ref sb)]) (fun t kt => ?_) ?_
 ·refine XS.aloadN X0.here hx rfl (D d12_0) rfl rfl ?_
  refine XS.aloadN X0.here hx rfl (D d12_1) rfl rfl ?_
  exact kt
 obtain ⟨vv21, _, ⟨T21, L21, k21, n21⟩, -, X21, ⟨Lc21, hQ21, l21, y21, z21⟩, st21⟩ := superBack X0 hx hZ (y := yM13) hown (Wd67 hw) (own_same (Wd68 hw) (Wd87 hw) rfl (by decide)) (Wd68 hw) (Wd69 hw) (by decide) (backOf (W := 0) (c_aapp l Z a0 hw [] x ta kb z us sb va kv zb vs cn wl cm G1 h0 n0 Z0 Es Vs Cs Ks Eb Bv Bc Bn Ba gb gv ntv hC O2 P5 X00) hZ (Wd71 hw) (Wd54 hw) (by decide) (by decide)) e0 (Ins.self Eb) (g := (fr_sapp m sb x 2  [(.ref x), (.ref sb)])) rfl (by rw [hml]; rfl) (Wd71 hw) (argsL := [(.ref x)]) (rest := []) (lenOf pd_16 rfl) rfl (oWt rfl) (D d12_2) (fun _ _ => ⟨rfl, e0, oLe rfl, oLe rfl⟩)
 dsimp only [Pt.U, Pt.locs, Pt.cells, Pt.slots] at X21 l21 y21 z21 st21 hQ21
 subst l21 y21 z21
 obtain ⟨rfl, Nq21, Kq21, Eq21, Vq21, Cq21, Mq21, Aq21⟩ := hQ21
 have N22 := Fr.app N0 Nq21
 obtain ⟨Lh23, Xh23, Nh23⟩ := oHd 0 0 X21 N22 rfl rfl
 refine ownSt st21 ?_
 clear st21
 show oA p e below _ T21 (fr_sapp m sb x 5  [(.ref sb)])
 refine oTo T21 (fr_sapp m sb x 7  [(.ref sb)]) (fun t kt => ?_) ?_
 ·refine XS.pop Xh23.here hx rfl (D d12_5) rfl rfl ?_
  refine XS.aloadN Xh23.here hx rfl (D d12_6) rfl rfl ?_
  exact kt
 have f24 := ((Keep.refl h0 [sb, va]).trans Kq21 (allS (Or.inl (List.mem_of_getElem? (i := 0) rfl)) (allS (Or.inl (List.mem_of_getElem? (i := 1) rfl)) all0)))
 refine ownRet Xh23 Bd.notSynchronized (v := some (.ref sb)) (fun h => by rw [Bd.returns] at h; cases h) ?_ (oLe rfl) (oLe rfl) (fun fs hr => retOut Xh23 hx Bd.returns rfl (Or.inr (Or.inr (Or.inr (Or.inr ⟨rfl, rfl, rfl⟩)))) (D d12_7) hr)
 show (Q_sapp Z x ta kb z us sb va kv zb vs cn wl cm G1 h0 n0) (some (.ref sb)) T21.heap _
 exact ⟨rfl, Nh23, f24, Eq21, Vq21, Cq21, Mq21, Aq21⟩
def Q_bil (Z : State) (sb : Addr) (va : Addr) (kv : ClassId) (zb : Int32) (vs : List Value) (cn : Int32) (G1 : Int32) (h0 : Heap) (n0 : Nat) (v : Option Value) (h : Heap) (L : List Loc) : Prop := v = some (iV 1) ∧ Fr n0 L ∧ h = h0
theorem ef_bil (m : MethodId) (x0 : Addr)  : entryFrame m #[(.ref x0)] 1 = mkF m 0 #[vR x0] [] := by first | (simp [entryFrame, mkF, argsToLocals, Value.category]; done) | rfl
set_option maxRecDepth 65536 in
set_option maxHeartbeats 40000000 in
theorem c_bil (l : Launch) (Z : State) (a0 : Array Value) (hw : HW a0 Z) (ws : List Jvm.Cond) (sb : Addr) (va : Addr) (kv : ClassId) (zb : Int32) (vs : List Value) (cn : Int32) (G1 : Int32) (h0 : Heap) (n0 : Nat) (Z0 : n0 ≤ h0.size) (Eb : Exa Z h0 sb "java/lang/StringBuilder") (Bv : Fld Z h0 sb "java/lang/AbstractStringBuilder" "value" "[B" (.ref va)) (Bc : Fld Z h0 sb "java/lang/AbstractStringBuilder" "coder" "B" (iV 0)) (Bn : Fld Z h0 sb "java/lang/AbstractStringBuilder" "count" "I" (.int cn)) (Ba : Arv Z h0 va kv .byte zb vs (iV 0)) (O2 : Sta Z Z.heap "java/lang/String" "COMPACT_STRINGS" "Z" (.int G1)) (P5 : ¬ (G1 = (0 : Int32))) (X00 : Old Z n0 h0) :
  MetFree l yM15 (head1 (Jvm.Cond.code yM15 jdk_68_method_68_code 1 (some .boolean) :: ws) ({ frames := 0, cells := 0, slots := 0, locals := 0 } : Room)) (fun a U => a = #[(.ref sb)] ∧ Z.Warmed39 U.vm ∧ U.heap = h0) (fun _ _ _ _ _ => True) (fun _ U o U' => ∃ v L, o = .returned v ∧ (Q_bil Z sb va kv zb vs cn G1 h0 n0) v U'.heap L ∧ FrameEnd U o U' L ({ frames := 0, cells := 0, slots := 0, locals := 0 } : Room).cells ({ frames := 0, cells := 0, slots := 0, locals := 0 } : Room).slots) := by
 refine MetFree.of_bodySF (plainFor_of_name pn_9) hisR ?_
 intro p e s m args below meth c s₁ Bd hml0 hP hK
 obtain ⟨rfl, hZ, hHp⟩ := hP
 have hx := Bd.exec
 have D := fun {pc : Nat} {r} (h : decode _ pc = r) => hb Bd.bytes h
 have hml : c.maxLocals = 1 := hml0
 have hown : s.vm.findClass "java/lang/AbstractStringBuilder" = some m.cls := findClass_of_methodNamed Bd.named
 have hnm := (name_of_methodNamed Bd.named Bd.method).1
 have X0 : Stand p l e ({ frames := 0, cells := 0, slots := 0, locals := 0 } : Room) s m #[(.ref sb)] below meth c s₁ [] 0 0 := Stand.of_body Bd
 have e0 : s₁.heap = h0 := by rw [← hHp, Bd.state]; rfl
 have N0 := Fr.nil n0
 refine ownOut (P := (Q_bil Z sb va kv zb vs cn G1 h0 n0)) ?_
 refine ownBy (A := s₁.setTop (mkF m 0 #[vR sb] [])) (fun t k => castTop (ef_bil m sb) k) ?_
 have nsv : sb ≠ va := Exa.neArv Eb Ba (Wd45 hw)
 refine own_getS X0 hx hZ hown (host := "") (Or.inl (Wd57 hw)) Via.refl e0 (O2.ext X00.2) (D d32_0) (fun T21 X21 e21 => ?_)
 refine oTo T21 (mkF m 7 #[vR sb] [(.ref sb)]) (fun t kt => ?_) ?_
 ·refine XS.ifNo X21.here hx rfl (D d32_3) rfl ((if0 _ _).trans (feq P5).1) ?_
  refine XS.aloadN X21.here hx rfl (D d32_6) rfl rfl ?_
  exact kt
 refine own_getF X21 hx hZ hown (host := "") (Or.inl (Wd60 hw)) Via.refl e21 Bc (D d32_7) (fun T22 X22 e22 => ?_)
 refine oTo T22 (mkF m 18 #[vR sb] [(iV 1)]) (fun t kt => ?_) ?_
 ·refine XS.ifNo X22.here hx rfl (D d32_10) rfl ((if0 _ _).trans (teq ((by decide) : (0 : Int32) = (0 : Int32))).2) ?_
  refine XS.iconst X22.here hx rfl (D d32_13) ?_
  refine XS.goto X22.here hx rfl (pc0 := 14) (pc' := 18) rfl (D d32_14) (by decide) (by decide) ?_
  exact kt
 refine ownRet X22 Bd.notSynchronized (v := some (.int (nar .boolean (1 : Int32)))) (fun h => by rw [Bd.returns] at h; cases h) ?_ (oLe rfl) (oLe rfl) (fun fs hr => retN X22 hx (t := .boolean) Bd.returns (by simp) (D d32_18) hr)
 show (Q_bil Z sb va kv zb vs cn G1 h0 n0) (some (.int (nar .boolean (1 : Int32)))) T22.heap _
 rw [e22]
 exact ⟨rfl, N0, rfl⟩
def Q_mmx (Z : State) (m1 : Int32) (m2 : Int32) (h0 : Heap) (n0 : Nat) (v : Option Value) (h : Heap) (L : List Loc) : Prop := v = some (.int (oMx m1 m2)) ∧ Fr n0 L ∧ h = h0
theorem ef_mmx (m : MethodId) (x0 : Int32) (x1 : Int32)  : entryFrame m #[(.int x0), (.int x1)] 2 = mkF m 0 #[vI x0, vI x1] [] := by first | (simp [entryFrame, mkF, argsToLocals, Value.category]; done) | rfl
set_option maxRecDepth 65536 in
set_option maxHeartbeats 40000000 in
theorem c_mmx (l : Launch) (Z : State) (a0 : Array Value) (hw : HW a0 Z) (ws : List Jvm.Cond) (m1 : Int32) (m2 : Int32) (h0 : Heap) (n0 : Nat) (Z0 : n0 ≤ h0.size) :
  MetFree l yM16 (head1 (Jvm.Cond.code yM16 jdk_29_method_65_code 2 (some .int) :: ws) ({ frames := 0, cells := 0, slots := 0, locals := 0 } : Room)) (fun a U => a = #[(.int m1), (.int m2)] ∧ Z.Warmed39 U.vm ∧ U.heap = h0) (fun _ _ _ _ _ => True) (fun _ U o U' => ∃ v L, o = .returned v ∧ (Q_mmx Z m1 m2 h0 n0) v U'.heap L ∧ FrameEnd U o U' L ({ frames := 0, cells := 0, slots := 0, locals := 0 } : Room).cells ({ frames := 0, cells := 0, slots := 0, locals := 0 } : Room).slots) := by
 refine MetFree.of_bodySF (Jvm.Free.JP.mathPlain rfl (by decide +kernel)) hisR ?_
 intro p e s m args below meth c s₁ Bd hml0 hP hK
 obtain ⟨rfl, hZ, hHp⟩ := hP
 have hx := Bd.exec
 have D := fun {pc : Nat} {r} (h : decode _ pc = r) => hb Bd.bytes h
 have hml : c.maxLocals = 2 := hml0
 have hown : s.vm.findClass "java/lang/Math" = some m.cls := findClass_of_methodNamed Bd.named
 have hnm := (name_of_methodNamed Bd.named Bd.method).1
 have X0 : Stand p l e ({ frames := 0, cells := 0, slots := 0, locals := 0 } : Room) s m #[(.int m1), (.int m2)] below meth c s₁ [] 0 0 := Stand.of_body Bd
 have e0 : s₁.heap = h0 := by rw [← hHp, Bd.state]; rfl
 have N0 := Fr.nil n0
 refine ownOut (P := (Q_mmx Z m1 m2 h0 n0)) ?_
 refine ownBy (A := s₁.setTop (mkF m 0 #[vI m1, vI m2] [])) (fun t k => castTop (ef_mmx m m1 m2) k) ?_
 refine oTo s₁ (mkF m 2 #[vI m1, vI m2] [(.int m2), (.int m1)]) (fun t kt => ?_) ?_
 ·refine XS.iloadN X0.here hx rfl (D d22_0) rfl ?_
  refine XS.iloadN X0.here hx rfl (D d22_1) rfl ?_
  exact kt
 by_cases hc21 : m1 < m2
 ·skip
  refine oTo s₁ (mkF m 10 #[vI m1, vI m2] [(.int m2)]) (fun t kt => ?_) ?_
  ·refine XS.icmpYes X0.here hx rfl (pc0 := 2) (pc' := 9) rfl (D d22_2) rfl (tlt hc21).1 (by decide) (by decide) ?_
   refine XS.iloadN X0.here hx rfl (D d22_9) rfl ?_
   exact kt
  refine ownRet X0 Bd.notSynchronized (v := some (.int m2)) (fun h => by rw [Bd.returns] at h; cases h) ?_ (oLe rfl) (oLe rfl) (fun fs hr => retI X0 hx Bd.returns (D d22_10) hr)
  show (Q_mmx Z m1 m2 h0 n0) (some (.int m2)) s₁.heap _
  rw [e0]
  refine ⟨?_, N0, rfl⟩
  rw [oMx_t hc21]
 ·skip
  refine oTo s₁ (mkF m 10 #[vI m1, vI m2] [(.int m1)]) (fun t kt => ?_) ?_
  ·refine XS.icmpNo X0.here hx rfl (D d22_2) rfl (flt hc21).1 ?_
   refine XS.iloadN X0.here hx rfl (D d22_5) rfl ?_
   refine XS.goto X0.here hx rfl (pc0 := 6) (pc' := 10) rfl (D d22_6) (by decide) (by decide) ?_
   exact kt
  refine ownRet X0 Bd.notSynchronized (v := some (.int m1)) (fun h => by rw [Bd.returns] at h; cases h) ?_ (oLe rfl) (oLe rfl) (fun fs hr => retI X0 hx Bd.returns (D d22_10) hr)
  show (Q_mmx Z m1 m2 h0 n0) (some (.int m1)) s₁.heap _
  rw [e0]
  refine ⟨?_, N0, rfl⟩
  rw [oMx_f hc21]
abbrev fr_nle (m : MethodId) (m1 : Int32) (m2 : Int32) (m3 : Int32) (pc : Nat) (x3_ : Slot) (st : List Value) : JFrame := mkF m pc #[vI m1, vI m2, vI m3, x3_] st
def Q_nle (Z : State) (m1 : Int32) (m2 : Int32) (m3 : Int32) (nz : Int32) (h0 : Heap) (n0 : Nat) (v : Option Value) (h : Heap) (L : List Loc) : Prop := v = some (.int nz) ∧ Fr n0 L ∧ h = h0
theorem ef_nle (m : MethodId) (x0 : Int32) (x1 : Int32) (x2 : Int32)  : entryFrame m #[(.int x0), (.int x1), (.int x2)] 4 = mkF m 0 #[vI x0, vI x1, vI x2, .unset] [] := by first | (simp [entryFrame, mkF, argsToLocals, Value.category]; done) | rfl
set_option maxRecDepth 65536 in
set_option maxHeartbeats 40000000 in
theorem c_nle (l : Launch) (Z : State) (a0 : Array Value) (hw : HW a0 Z) (ws : List Jvm.Cond) (m1 : Int32) (m2 : Int32) (m3 : Int32) (nz : Int32) (h0 : Heap) (n0 : Nat) (Z0 : n0 ≤ h0.size) (hnz : (m1 + (oMx m2 m3)) = nz) (hp0 : (0 : Int32) < nz) (hsm : ¬ (2147483639 : Int32) < nz) :
  MetFree l yM17 (head1 (Jvm.Cond.code yM17 jdk_48_method_27_code 4 (some .int) :: ws) ({ frames := 1, cells := 0, slots := 0, locals := 15 } : Room)) (fun a U => a = #[(.int m1), (.int m2), (.int m3)] ∧ Z.Warmed39 U.vm ∧ U.heap = h0) (fun _ _ _ _ _ => True) (fun _ U o U' => ∃ v L, o = .returned v ∧ (Q_nle Z m1 m2 m3 nz h0 n0) v U'.heap L ∧ FrameEnd U o U' L ({ frames := 1, cells := 0, slots := 0, locals := 15 } : Room).cells ({ frames := 1, cells := 0, slots := 0, locals := 15 } : Room).slots) := by
 refine MetFree.of_bodySF (plainFor_of_name pn_17) hisR ?_
 intro p e s m args below meth c s₁ Bd hml0 hP hK
 obtain ⟨rfl, hZ, hHp⟩ := hP
 have hx := Bd.exec
 have D := fun {pc : Nat} {r} (h : decode _ pc = r) => hb Bd.bytes h
 have hml : c.maxLocals = 4 := hml0
 have hown : s.vm.findClass "jdk/internal/util/ArraysSupport" = some m.cls := findClass_of_methodNamed Bd.named
 have hnm := (name_of_methodNamed Bd.named Bd.method).1
 have X0 : Stand p l e ({ frames := 1, cells := 0, slots := 0, locals := 15 } : Room) s m #[(.int m1), (.int m2), (.int m3)] below meth c s₁ [] 0 0 := Stand.of_body Bd
 have e0 : s₁.heap = h0 := by rw [← hHp, Bd.state]; rfl
 have N0 := Fr.nil n0
 refine ownOut (P := (Q_nle Z m1 m2 m3 nz h0 n0)) ?_
 refine ownBy (A := s₁.setTop (mkF m 0 #[vI m1, vI m2, vI m3, .unset] [])) (fun t k => castTop (ef_nle m m1 m2 m3) k) ?_
 refine oTo s₁ (fr_nle m m1 m2 m3 3 .unset [(.int m3), (.int m2), (.int m1)]) (fun t kt => ?_) ?_
 ·refine XS.iloadN X0.here hx rfl (D d21_0) rfl ?_
  refine XS.iloadN X0.here hx rfl (D d21_1) rfl ?_
  refine XS.iloadN X0.here hx rfl (D d21_2) rfl ?_
  exact kt
 obtain ⟨vv21, _, ⟨T21, L21, k21, n21⟩, -, X21, ⟨Lc21, hQ21, l21, y21, z21⟩, st21⟩ := Jvm.LawKit.callS X0 hx (y := yM16) hown (mvT hZ (Wd119 hw)) (mvT hZ (Wd120 hw)) (mvT hZ (Wd121 hw)) (mvT hZ (Wd122 hw)) (by decide) (backOf (W := 1) (c_mmx l Z a0 hw [] m2 m3 h0 n0 Z0 ) hZ (Wd122 hw) (Wd121 hw) (by decide) (by decide)) (g := (fr_nle m m1 m2 m3 3 .unset [(.int m3), (.int m2), (.int m1)])) rfl (by rw [hml]; rfl) (argsL := [(.int m2), (.int m3)]) (rest := [(.int m1)]) (lenOf pd_18 rfl) rfl (oWt rfl) (D d21_3) (fun _ _ => ⟨rfl, e0, oLe rfl, oLe rfl⟩)
 dsimp only [Pt.U, Pt.locs, Pt.cells, Pt.slots] at X21 l21 y21 z21 st21 hQ21
 subst l21 y21 z21
 obtain ⟨rfl, Nq21, Eq21⟩ := hQ21
 have N22 := Fr.app N0 Nq21
 obtain ⟨Lh23, Xh23, Nh23⟩ := oHd 0 0 X21 N22 rfl rfl
 refine ownBy st21 ?_
 clear st21
 show oA p e below _ T21 (fr_nle m m1 m2 m3 6 .unset [(.int (oMx m2 m3)), (.int m1)])
 refine oTo T21 (fr_nle m m1 m2 m3 7 .unset [(.int (m1 + (oMx m2 m3)))]) (fun t kt => ?_) ?_
 ·refine XS.iadd Xh23.here hx rfl (D d21_6) rfl ?_
  exact kt
 show oA p e below _ T21 (fr_nle m m1 m2 m3 7 .unset [(.int (m1 + (oMx m2 m3)))])
 rw [hnz]
 refine oTo T21 (fr_nle m m1 m2 m3 14 (vI nz) [(.int nz)]) (fun t kt => ?_) ?_
 ·refine XS.istoreN Xh23.here hx rfl (D d21_7) rfl (l' := #[vI m1, vI m2, vI m3, vI nz]) rfl ?_
  refine XS.iconst Xh23.here hx rfl (D d21_8) ?_
  refine XS.iloadN Xh23.here hx rfl (D d21_9) rfl ?_
  refine XS.icmpNo Xh23.here hx rfl (D d21_10) rfl (tlt hp0).2.1 ?_
  show Steps p.tables e below (T21.setTop (fr_nle m m1 m2 m3 13 (vI nz) [])) t
  refine XS.iloadN Xh23.here hx rfl (D d21_13) rfl ?_
  exact kt
 refine ownBy (Xh23.ldcInt hx hown (mvT hZ (Wd123 hw)) (g := (fr_nle m m1 m2 m3 14 (vI nz) [(.int nz)])) rfl (D d21_14)) ?_
 show oA p e below _ T21 (fr_nle m m1 m2 m3 16 (vI nz) [(iV 2147483639), (.int nz)])
 refine oTo T21 (fr_nle m m1 m2 m3 20 (vI nz) [(.int nz)]) (fun t kt => ?_) ?_
 ·refine XS.icmpNo Xh23.here hx rfl (D d21_16) rfl (flt hsm).2.2.1 ?_
  refine XS.iloadN Xh23.here hx rfl (D d21_19) rfl ?_
  exact kt
 refine ownRet Xh23 Bd.notSynchronized (v := some (.int nz)) (fun h => by rw [Bd.returns] at h; cases h) ?_ (oLe rfl) (oLe rfl) (fun fs hr => retI Xh23 hx Bd.returns (D d21_20) hr)
 show (Q_nle Z m1 m2 m3 nz h0 n0) (some (.int nz)) T21.heap _
 rw [Eq21]
 exact ⟨rfl, Nh23, rfl⟩
abbrev fr_ncp (m : MethodId) (sb : Addr) (cm : Int32) (pc : Nat) (x2_ x3_ x4_ x5_ : Slot) (st : List Value) : JFrame := mkF m pc #[vR sb, vI cm, x2_, x3_, x4_, x5_] st
def Q_ncp (Z : State) (sb : Addr) (va : Addr) (kv : ClassId) (zb : Int32) (vs : List Value) (cn : Int32) (cm : Int32) (nz : Int32) (ys : List Value) (h0 : Heap) (n0 : Nat) (v : Option Value) (h : Heap) (L : List Loc) : Prop := v = some (.int nz) ∧ Fr n0 L ∧ h = h0
theorem ef_ncp (m : MethodId) (x0 : Addr) (x1 : Int32)  : entryFrame m #[(.ref x0), (.int x1)] 6 = mkF m 0 #[vR x0, vI x1, .unset, .unset, .unset, .unset] [] := by first | (simp [entryFrame, mkF, argsToLocals, Value.category]; done) | rfl
set_option maxRecDepth 65536 in
set_option maxHeartbeats 40000000 in
theorem c_ncp (l : Launch) (Z : State) (a0 : Array Value) (hw : HW a0 Z) (ws : List Jvm.Cond) (sb : Addr) (va : Addr) (kv : ClassId) (zb : Int32) (vs : List Value) (cn : Int32) (cm : Int32) (nz : Int32) (ys : List Value) (h0 : Heap) (n0 : Nat) (Z0 : n0 ≤ h0.size) (Eb : Exa Z h0 sb "java/lang/StringBuilder") (Bv : Fld Z h0 sb "java/lang/AbstractStringBuilder" "value" "[B" (.ref va)) (Bc : Fld Z h0 sb "java/lang/AbstractStringBuilder" "coder" "B" (iV 0)) (Bn : Fld Z h0 sb "java/lang/AbstractStringBuilder" "count" "I" (.int cn)) (Ba : Arv Z h0 va kv .byte zb vs (iV 0)) (hG : Grw vs ys zb cm nz 160) :
  MetFree l yM18 (head1 (Jvm.Cond.code yM18 jdk_68_method_10_code 6 (some .int) :: ws) ({ frames := 2, cells := 0, slots := 0, locals := 32 } : Room)) (fun a U => a = #[(.ref sb), (.int cm)] ∧ Z.Warmed39 U.vm ∧ U.heap = h0) (fun _ _ _ _ _ => True) (fun _ U o U' => ∃ v L, o = .returned v ∧ (Q_ncp Z sb va kv zb vs cn cm nz ys h0 n0) v U'.heap L ∧ FrameEnd U o U' L ({ frames := 2, cells := 0, slots := 0, locals := 32 } : Room).cells ({ frames := 2, cells := 0, slots := 0, locals := 32 } : Room).slots) := by
 refine MetFree.of_bodySF (plainFor_of_name pn_9) hisR ?_
 intro p e s m args below meth c s₁ Bd hml0 hP hK
 obtain ⟨rfl, hZ, hHp⟩ := hP
 have hx := Bd.exec
 have D := fun {pc : Nat} {r} (h : decode _ pc = r) => hb Bd.bytes h
 have hml : c.maxLocals = 6 := hml0
 have hown : s.vm.findClass "java/lang/AbstractStringBuilder" = some m.cls := findClass_of_methodNamed Bd.named
 have hnm := (name_of_methodNamed Bd.named Bd.method).1
 have X0 : Stand p l e ({ frames := 2, cells := 0, slots := 0, locals := 32 } : Room) s m #[(.ref sb), (.int cm)] below meth c s₁ [] 0 0 := Stand.of_body Bd
 have e0 : s₁.heap = h0 := by rw [← hHp, Bd.state]; rfl
 have N0 := Fr.nil n0
 refine ownOut (P := (Q_ncp Z sb va kv zb vs cn cm nz ys h0 n0)) ?_
 refine ownBy (A := s₁.setTop (mkF m 0 #[vR sb, vI cm, .unset, .unset, .unset, .unset] [])) (fun t k => castTop (ef_ncp m sb cm) k) ?_
 have nsv : sb ≠ va := Exa.neArv Eb Ba (Wd45 hw)
 refine oTo s₁ (fr_ncp m sb cm 1 .unset .unset .unset .unset [(.ref sb)]) (fun t kt => ?_) ?_
 ·refine XS.aloadN X0.here hx rfl (D d20_0) rfl rfl ?_
  exact kt
 refine own_getF X0 hx hZ hown (host := "") (Or.inl (Wd58 hw)) Via.refl e0 Bv (D d20_1) (fun T21 X21 e21 => ?_)
 obtain ⟨cl22, Ar22, -, S22, N22, -, -⟩ := id Ba
 have st22 := X21.arraylength hx (by rw [e21]; exact Ar22.1) (State.isArrayOf_alike hZ.alike Ar22.2.1) (g := (fr_ncp m sb cm 4 .unset .unset .unset .unset [(.ref va)])) rfl rfl (D d20_4)
 rw [len_of S22 N22] at st22
 refine ownBy st22 ?_
 show oA p e below _ T21 (fr_ncp m sb cm 5 .unset .unset .unset .unset [(.int zb)])
 refine oTo T21 (fr_ncp m sb cm 8 (vI zb) .unset .unset .unset [(.ref sb), (.int cm)]) (fun t kt => ?_) ?_
 ·refine XS.istoreN X21.here hx rfl (D d20_5) rfl (l' := #[vR sb, vI cm, vI zb, .unset, .unset, .unset]) rfl ?_
  refine XS.iloadN X21.here hx rfl (D d20_6) rfl ?_
  refine XS.aloadN X21.here hx rfl (D d20_7) rfl rfl ?_
  exact kt
 refine own_getF X21 hx hZ hown (host := "") (Or.inl (Wd60 hw)) Via.refl e21 Bc (D d20_8) (fun T23 X23 e23 => ?_)
 refine oTo T23 (fr_ncp m sb cm 12 (vI zb) .unset .unset .unset [(.int (cm <<< ((0 : Int32) &&& 31)))]) (fun t kt => ?_) ?_
 ·refine XS.ishl X23.here hx rfl (D d20_11) rfl ?_
  exact kt
 show oA p e below _ T23 (fr_ncp m sb cm 12 (vI zb) .unset .unset .unset [(.int (cm <<< ((0 : Int32) &&& 31)))])
 rw [own_shl0 cm]
 refine oTo T23 (fr_ncp m sb cm 24 (vI zb) (vI cm) (.val (.int (cm - zb))) .unset [(.ref sb), (iV 2), (.int zb), (.int (cm - zb)), (.int zb)]) (fun t kt => ?_) ?_
 ·refine XS.istoreN X23.here hx rfl (D d20_12) rfl (l' := #[vR sb, vI cm, vI zb, vI cm, .unset, .unset]) rfl ?_
  refine XS.iloadN X23.here hx rfl (D d20_13) rfl ?_
  refine XS.iloadN X23.here hx rfl (D d20_14) rfl ?_
  refine XS.isub X23.here hx rfl (D d20_15) rfl ?_
  show Steps p.tables e below (T23.setTop (fr_ncp m sb cm 16 (vI zb) (vI cm) .unset .unset [(.int (cm - zb))])) t
  refine XS.istore X23.here hx rfl (D d20_16) rfl (l' := #[vR sb, vI cm, vI zb, vI cm, .val (.int (cm - zb)), .unset]) rfl ?_
  refine XS.iloadN X23.here hx rfl (D d20_18) rfl ?_
  refine XS.iload X23.here hx rfl (D d20_19) rfl ?_
  refine XS.iloadN X23.here hx rfl (D d20_21) rfl ?_
  show Steps p.tables e below (T23.setTop (fr_ncp m sb cm 22 (vI zb) (vI cm) (.val (.int (cm - zb))) .unset [(.int zb), (.int (cm - zb)), (.int zb)])) t
  refine XS.iconst X23.here hx rfl (D d20_22) ?_
  refine XS.aloadN X23.here hx rfl (D d20_23) rfl rfl ?_
  exact kt
 refine own_getF X23 hx hZ hown (host := "") (Or.inl (Wd60 hw)) Via.refl e23 Bc (D d20_24) (fun T24 X24 e24 => ?_)
 refine oTo T24 (fr_ncp m sb cm 29 (vI zb) (vI cm) (.val (.int (cm - zb))) .unset [(.int (zb + (2 : Int32))), (.int (cm - zb)), (.int zb)]) (fun t kt => ?_) ?_
 ·refine XS.ishl X24.here hx rfl (D d20_27) rfl ?_
  refine XS.iadd X24.here hx rfl (D d20_28) rfl ?_
  exact kt
 obtain ⟨vv25, _, ⟨T25, L25, k25, n25⟩, -, X25, ⟨Lc25, hQ25, l25, y25, z25⟩, st25⟩ := Jvm.LawKit.callS X24 hx (y := yM17) hown (mvT hZ (Wd115 hw)) (mvT hZ (Wd116 hw)) (mvT hZ (Wd117 hw)) (mvT hZ (Wd118 hw)) (by decide) (backOf (W := 0) (c_nle l Z a0 hw [] zb (cm - zb) (zb + (2 : Int32)) nz h0 n0 Z0 hG.2.1 hG.2.2.1 hG.2.2.2.1) hZ (Wd118 hw) (Wd117 hw) (by decide) (by decide)) (g := (fr_ncp m sb cm 29 (vI zb) (vI cm) (.val (.int (cm - zb))) .unset [(.int (zb + (2 : Int32))), (.int (cm - zb)), (.int zb)])) rfl (by rw [hml]; rfl) (argsL := [(.int zb), (.int (cm - zb)), (.int (zb + (2 : Int32)))]) (rest := []) (lenOf pd_19 rfl) rfl (oWt rfl) (D d20_29) (fun _ _ => ⟨rfl, e24, oLe rfl, oLe rfl⟩)
 dsimp only [Pt.U, Pt.locs, Pt.cells, Pt.slots] at X25 l25 y25 z25 st25 hQ25
 subst l25 y25 z25
 obtain ⟨rfl, Nq25, Eq25⟩ := hQ25
 have N26 := Fr.app N0 Nq25
 obtain ⟨Lh27, Xh27, Nh27⟩ := oHd 0 0 X25 N26 rfl rfl
 refine ownBy st25 ?_
 clear st25
 show oA p e below _ T25 (fr_ncp m sb cm 32 (vI zb) (vI cm) (.val (.int (cm - zb))) .unset [(.int nz)])
 refine oTo T25 (fr_ncp m sb cm 36 (vI zb) (vI cm) (.val (.int (cm - zb))) (vI nz) [(.int nz)]) (fun t kt => ?_) ?_
 ·refine XS.istore Xh27.here hx rfl (D d20_32) rfl (l' := #[vR sb, vI cm, vI zb, vI cm, .val (.int (cm - zb)), vI nz]) rfl ?_
  refine XS.iload Xh27.here hx rfl (D d20_34) rfl ?_
  exact kt
 refine ownBy (Xh27.ldcInt hx hown (mvT hZ (Wd124 hw)) (g := (fr_ncp m sb cm 36 (vI zb) (vI cm) (.val (.int (cm - zb))) (vI nz) [(.int nz)])) rfl (D d20_36)) ?_
 show oA p e below _ T25 (fr_ncp m sb cm 38 (vI zb) (vI cm) (.val (.int (cm - zb))) (vI nz) [(iV 2147483647), (.int nz)])
 refine oTo T25 (fr_ncp m sb cm 54 (vI zb) (vI cm) (.val (.int (cm - zb))) (vI nz) [(.ref sb), (.int nz)]) (fun t kt => ?_) ?_
 ·refine XS.icmpYes Xh27.here hx rfl (pc0 := 38) (pc' := 51) rfl (D d20_38) rfl (feq hG.2.2.2.2.1).2 (by decide) (by decide) ?_
  refine XS.iload Xh27.here hx rfl (D d20_51) rfl ?_
  refine XS.aloadN Xh27.here hx rfl (D d20_53) rfl rfl ?_
  exact kt
 refine own_getF Xh27 hx hZ hown (host := "") (Or.inl (Wd60 hw)) Via.refl Eq25 Bc (D d20_54) (fun T29 X29 e29 => ?_)
 refine oTo T29 (fr_ncp m sb cm 58 (vI zb) (vI cm) (.val (.int (cm - zb))) (vI nz) [(.int (nz >>> ((0 : Int32) &&& 31)))]) (fun t kt => ?_) ?_
 ·refine XS.ishr X29.here hx rfl (D d20_57) rfl ?_
  exact kt
 refine ownRet X29 Bd.notSynchronized (v := some (.int (nz >>> ((0 : Int32) &&& 31)))) (fun h => by rw [Bd.returns] at h; cases h) ?_ (oLe rfl) (oLe rfl) (fun fs hr => retI X29 hx Bd.returns (D d20_58) hr)
 show (Q_ncp Z sb va kv zb vs cn cm nz ys h0 n0) (some (.int (nz >>> ((0 : Int32) &&& 31)))) T29.heap _
 rw [e29]
 refine ⟨?_, Nh27, rfl⟩
 rw [hG.2.2.2.2.2.1]
def Q_mmo (Z : State) (m1 : Int32) (m2 : Int32) (h0 : Heap) (n0 : Nat) (v : Option Value) (h : Heap) (L : List Loc) : Prop := v = some (.int m1) ∧ Fr n0 L ∧ h = h0
theorem ef_mmo (m : MethodId) (x0 : Int32) (x1 : Int32)  : entryFrame m #[(.int x0), (.int x1)] 2 = mkF m 0 #[vI x0, vI x1] [] := by first | (simp [entryFrame, mkF, argsToLocals, Value.category]; done) | rfl
set_option maxRecDepth 65536 in
set_option maxHeartbeats 40000000 in
theorem c_mmo (l : Launch) (Z : State) (a0 : Array Value) (hw : HW a0 Z) (ws : List Jvm.Cond) (m1 : Int32) (m2 : Int32) (h0 : Heap) (n0 : Nat) (Z0 : n0 ≤ h0.size) (hm : ¬ m2 < m1) :
  MetFree l yM19 (head1 (Jvm.Cond.code yM19 jdk_29_method_69_code 2 (some .int) :: ws) ({ frames := 0, cells := 0, slots := 0, locals := 0 } : Room)) (fun a U => a = #[(.int m1), (.int m2)] ∧ Z.Warmed39 U.vm ∧ U.heap = h0) (fun _ _ _ _ _ => True) (fun _ U o U' => ∃ v L, o = .returned v ∧ (Q_mmo Z m1 m2 h0 n0) v U'.heap L ∧ FrameEnd U o U' L ({ frames := 0, cells := 0, slots := 0, locals := 0 } : Room).cells ({ frames := 0, cells := 0, slots := 0, locals := 0 } : Room).slots) := by
 refine MetFree.of_bodySF (Jvm.Free.JP.mathPlain rfl (by decide +kernel)) hisR ?_
 intro p e s m args below meth c s₁ Bd hml0 hP hK
 obtain ⟨rfl, hZ, hHp⟩ := hP
 have hx := Bd.exec
 have D := fun {pc : Nat} {r} (h : decode _ pc = r) => hb Bd.bytes h
 have hml : c.maxLocals = 2 := hml0
 have hown : s.vm.findClass "java/lang/Math" = some m.cls := findClass_of_methodNamed Bd.named
 have hnm := (name_of_methodNamed Bd.named Bd.method).1
 have X0 : Stand p l e ({ frames := 0, cells := 0, slots := 0, locals := 0 } : Room) s m #[(.int m1), (.int m2)] below meth c s₁ [] 0 0 := Stand.of_body Bd
 have e0 : s₁.heap = h0 := by rw [← hHp, Bd.state]; rfl
 have N0 := Fr.nil n0
 refine ownOut (P := (Q_mmo Z m1 m2 h0 n0)) ?_
 refine ownBy (A := s₁.setTop (mkF m 0 #[vI m1, vI m2] [])) (fun t k => castTop (ef_mmo m m1 m2) k) ?_
 refine oTo s₁ (mkF m 10 #[vI m1, vI m2] [(.int m1)]) (fun t kt => ?_) ?_
 ·refine XS.iloadN X0.here hx rfl (D d24_0) rfl ?_
  refine XS.iloadN X0.here hx rfl (D d24_1) rfl ?_
  refine XS.icmpNo X0.here hx rfl (D d24_2) rfl (flt hm).2.2.1 ?_
  refine XS.iloadN X0.here hx rfl (D d24_5) rfl ?_
  show Steps p.tables e below (s₁.setTop (mkF m 6 #[vI m1, vI m2] [(.int m1)])) t
  refine XS.goto X0.here hx rfl (pc0 := 6) (pc' := 10) rfl (D d24_6) (by decide) (by decide) ?_
  exact kt
 refine ownRet X0 Bd.notSynchronized (v := some (.int m1)) (fun h => by rw [Bd.returns] at h; cases h) ?_ (oLe rfl) (oLe rfl) (fun fs hr => retI X0 hx Bd.returns (D d24_10) hr)
 show (Q_mmo Z m1 m2 h0 n0) (some (.int m1)) s₁.heap _
 rw [e0]
 exact ⟨rfl, N0, rfl⟩
abbrev fr_cpf (m : MethodId) (va : Addr) (nz : Int32) (pc : Nat) (x2_ : Slot) (st : List Value) : JFrame := mkF m pc #[vR va, vI nz, x2_] st
def Q_cpf (Z : State) (va : Addr) (kv : ClassId) (zb : Int32) (vs : List Value) (cm : Int32) (nz : Int32) (ys : List Value) (h0 : Heap) (n0 : Nat) (v : Option Value) (h : Heap) (L : List Loc) : Prop := ∃ (vb : Addr) (kw : ClassId), v = some (.ref vb) ∧ Fr n0 L ∧ Keep h0 h [] ∧ h0.size ≤ vb ∧ Exa Z h vb "[B" ∧ Arv Z h vb kw .byte nz ys (iV 0)
theorem ef_cpf (m : MethodId) (x0 : Addr) (x1 : Int32)  : entryFrame m #[(.ref x0), (.int x1)] 3 = mkF m 0 #[vR x0, vI x1, .unset] [] := by first | (simp [entryFrame, mkF, argsToLocals, Value.category]; done) | rfl
set_option maxRecDepth 65536 in
set_option maxHeartbeats 40000000 in
theorem c_cpf (l : Launch) (Z : State) (a0 : Array Value) (hw : HW a0 Z) (ws : List Jvm.Cond) (va : Addr) (kv : ClassId) (zb : Int32) (vs : List Value) (cm : Int32) (nz : Int32) (ys : List Value) (h0 : Heap) (n0 : Nat) (Z0 : n0 ≤ h0.size) (Ba : Arv Z h0 va kv .byte zb vs (iV 0)) (hG : Grw vs ys zb cm nz 160) :
  MetFree l yM20 (head1 (Jvm.Cond.code yM20 jdk_65_method_121_code 3 (some (.array .byte)) :: ws) ({ frames := 1, cells := 1, slots := 160, locals := 40 } : Room)) (fun a U => a = #[(.ref va), (.int nz)] ∧ Z.Warmed39 U.vm ∧ U.heap = h0) (fun _ _ _ _ _ => True) (fun _ U o U' => ∃ v L, o = .returned v ∧ (Q_cpf Z va kv zb vs cm nz ys h0 n0) v U'.heap L ∧ FrameEnd U o U' L ({ frames := 1, cells := 1, slots := 160, locals := 40 } : Room).cells ({ frames := 1, cells := 1, slots := 160, locals := 40 } : Room).slots) := by
 refine MetFree.of_bodySF (plainFor_of_name pn_20) hisR ?_
 intro p e s m args below meth c s₁ Bd hml0 hP hK
 obtain ⟨rfl, hZ, hHp⟩ := hP
 have hx := Bd.exec
 have D := fun {pc : Nat} {r} (h : decode _ pc = r) => hb Bd.bytes h
 have hml : c.maxLocals = 3 := hml0
 have hown : s.vm.findClass "java/util/Arrays" = some m.cls := findClass_of_methodNamed Bd.named
 have hnm := (name_of_methodNamed Bd.named Bd.method).1
 have X0 : Stand p l e ({ frames := 1, cells := 1, slots := 160, locals := 40 } : Room) s m #[(.ref va), (.int nz)] below meth c s₁ [] 0 0 := Stand.of_body Bd
 have e0 : s₁.heap = h0 := by rw [← hHp, Bd.state]; rfl
 have N0 := Fr.nil n0
 refine ownOut (P := (Q_cpf Z va kv zb vs cm nz ys h0 n0)) ?_
 refine ownBy (A := s₁.setTop (mkF m 0 #[vR va, vI nz, .unset] [])) (fun t k => castTop (ef_cpf m va nz) k) ?_
 refine oTo s₁ (fr_cpf m va nz 2 .unset [(.ref va), (.int nz)]) (fun t kt => ?_) ?_
 ·refine XS.iloadN X0.here hx rfl (D d23_0) rfl ?_
  refine XS.aloadN X0.here hx rfl (D d23_1) rfl rfl ?_
  exact kt
 obtain ⟨cl21, Ar21, -, S21, N21, -, -⟩ := id Ba
 have st21 := X0.arraylength hx (by rw [e0]; exact Ar21.1) (State.isArrayOf_alike hZ.alike Ar21.2.1) (g := (fr_cpf m va nz 2 .unset [(.ref va), (.int nz)])) rfl rfl (D d23_2)
 rw [len_of S21 N21] at st21
 refine ownBy st21 ?_
 show oA p e below _ s₁ (fr_cpf m va nz 3 .unset [(.int zb), (.int nz)])
 refine oTo s₁ (fr_cpf m va nz 15 .unset [(.int nz)]) (fun t kt => ?_) ?_
 ·refine XS.icmpYes X0.here hx rfl (pc0 := 3) (pc' := 14) rfl (D d23_3) rfl (feq hG.2.2.2.2.2.2.2.2.1).2 (by decide) (by decide) ?_
  refine XS.iloadN X0.here hx rfl (D d23_14) rfl ?_
  exact kt
 obtain ⟨T22, h22, k22, X22, e22, E22, A22, Ex22, st22⟩ := newPE X0 hx hZ (aty := .byte) (Wd26 hw) e0 (g := (fr_cpf m va nz 15 .unset [(.int nz)])) rfl (D d23_15) rfl hG.2.2.2.2.2.2.1 (cap := 160) hG.2.2.2.2.2.2.2.1 (by decide) (by decide) (by decide) (ad := "[B") (by decide)
 obtain ⟨b22, g22⟩ : ∃ z, z = h0.size := ⟨_, rfl⟩
 rw [← g22] at A22 Ex22 st22
 have ne23 : va ≠ b22 := Nat.ne_of_lt (Nat.lt_of_lt_of_le Ba.lt (Nat.le_of_eq g22.symm))
 have g24 : n0 ≤ b22 := Nat.le_trans Z0 (Nat.le_of_eq g22.symm)
 have z25 : h0.size ≤ b22 := Nat.le_trans (Nat.le_refl h0.size) (Nat.le_of_eq g22.symm)
 have V26 : Arv Z h22 b22 k22 .byte nz ([] ++ List.replicate nz.toNatClampNeg (iV 0)) (iV 0) := (Arv.new A22 hG.2.2.2.2.2.2.1).pad (pad_rep [] (iV 0) _)
 refine ownBy st22 ?_
 clear st22
 show oA p e below _ T22 (fr_cpf m va nz 17 .unset [(.ref b22)])
 refine oTo T22 (fr_cpf m va nz 23 (vR b22) [(.ref va), (iV 0), (.ref b22), (iV 0), (.ref va)]) (fun t kt => ?_) ?_
 ·refine XS.astoreN X22.here hx rfl (D d23_17) rfl rfl (l' := #[vR va, vI nz, vR b22]) rfl ?_
  refine XS.aloadN X22.here hx rfl (D d23_18) rfl rfl ?_
  refine XS.iconst X22.here hx rfl (D d23_19) ?_
  refine XS.aloadN X22.here hx rfl (D d23_20) rfl rfl ?_
  show Steps p.tables e below (T22.setTop (fr_cpf m va nz 21 (vR b22) [(.ref b22), (iV 0), (.ref va)])) t
  refine XS.iconst X22.here hx rfl (D d23_21) ?_
  refine XS.aloadN X22.here hx rfl (D d23_22) rfl rfl ?_
  exact kt
 have f27 := (Ba.ext E22)
 obtain ⟨cl28, Ar28, -, S28, N28, -, -⟩ := id f27
 have st28 := X22.arraylength hx (by rw [e22]; exact Ar28.1) (State.isArrayOf_alike hZ.alike Ar28.2.1) (g := (fr_cpf m va nz 23 (vR b22) [(.ref va), (iV 0), (.ref b22), (iV 0), (.ref va)])) rfl rfl (D d23_23)
 rw [len_of S28 N28] at st28
 refine ownBy st28 ?_
 show oA p e below _ T22 (fr_cpf m va nz 24 (vR b22) [(.int zb), (iV 0), (.ref b22), (iV 0), (.ref va)])
 refine oTo T22 (fr_cpf m va nz 25 (vR b22) [(.int nz), (.int zb), (iV 0), (.ref b22), (iV 0), (.ref va)]) (fun t kt => ?_) ?_
 ·refine XS.iloadN X22.here hx rfl (D d23_24) rfl ?_
  exact kt
 have f29 := (Nat.le_trans Z0 E22.1)
 obtain ⟨vv30, _, ⟨T30, L30, k30, n30⟩, -, X30, ⟨Lc30, hQ30, l30, y30, z30⟩, st30⟩ := Jvm.LawKit.callS X22 hx (y := yM19) hown (mvT hZ (Wd129 hw)) (mvT hZ (Wd130 hw)) (mvT hZ (Wd121 hw)) (mvT hZ (Wd131 hw)) (by decide) (backOf (W := 4) (c_mmo l Z a0 hw [] zb nz h22 n0 f29 hG.2.2.2.2.2.2.2.2.2.1) hZ (Wd131 hw) (Wd121 hw) (by decide) (by decide)) (g := (fr_cpf m va nz 25 (vR b22) [(.int nz), (.int zb), (iV 0), (.ref b22), (iV 0), (.ref va)])) rfl (by rw [hml]; rfl) (argsL := [(.int zb), (.int nz)]) (rest := [(iV 0), (.ref b22), (iV 0), (.ref va)]) (lenOf pd_18 rfl) rfl (oWt rfl) (D d23_25) (fun _ _ => ⟨rfl, e22, oLe rfl, oLe rfl⟩)
 dsimp only [Pt.U, Pt.locs, Pt.cells, Pt.slots] at X30 l30 y30 z30 st30 hQ30
 subst l30 y30 z30
 obtain ⟨rfl, Nq30, Eq30⟩ := hQ30
 have N31 := Fr.app N0 Nq30
 obtain ⟨Lh32, Xh32, Nh32⟩ := oHd 1 160 X30 N31 rfl rfl
 refine ownBy st30 ?_
 clear st30
 show oA p e below _ T30 (fr_cpf m va nz 28 (vR b22) [(.int zb), (iV 0), (.ref b22), (iV 0), (.ref va)])
 obtain ⟨T33, h33, L33, X33, e33, Nq33, K33, A33, st33⟩ := cpA Xh32 hx hZ hown (Wd132 hw) (Wd108 hw) (Wd106 hw) (Wd107 hw) Eq30 f27 V26 (us := vs) (Or.inl ⟨rfl, rfl⟩) (sp := (0 : Int32)) (dp := (0 : Int32)) (nn := zb) (by decide) (by decide) hG.2.2.2.2.2.2.2.2.2.2.1 hG.2.2.2.2.2.2.2.2.2.2.2.1 hG.2.2.2.2.2.2.2.2.2.2.2.2.1 hG.2.2.2.2.2.2.2.2.2.2.2.2.2.1 hG.2.2.2.2.2.2.2.2.2.2.2.2.2.2.1 Nh32 g24 (g := (fr_cpf m va nz 28 (vR b22) [(.int zb), (iV 0), (.ref b22), (iV 0), (.ref va)])) rfl (by rw [hml]; rfl) rfl (D d23_28) (by decide) (W := 0) (oWt rfl) (by decide)
 have V34 : Arv Z h33 b22 k22 .byte nz ys (iV 0) := by rw [← hG.2.2.2.2.2.2.2.2.2.2.2.2.2.2.2]; exact A33
 refine ownBy st33 ?_
 clear st33
 show oA p e below _ T33 (fr_cpf m va nz 31 (vR b22) [])
 refine oTo T33 (fr_cpf m va nz 32 (vR b22) [(.ref b22)]) (fun t kt => ?_) ?_
 ·refine XS.aloadN X33.here hx rfl (D d23_31) rfl rfl ?_
  exact kt
 have f35 := (((Keep.refl h0 []).ext E22).trans K33 (allS (Or.inr z25) all0))
 have f36 := (Ex22.keep K33)
 refine ownRet X33 Bd.notSynchronized (v := some (.ref b22)) (fun h => by rw [Bd.returns] at h; cases h) ?_ (oLe rfl) (oLe rfl) (fun fs hr => retOut X33 hx Bd.returns rfl (Or.inr (Or.inr (Or.inr (Or.inr ⟨rfl, rfl, rfl⟩)))) (D d23_32) hr)
 show (Q_cpf Z va kv zb vs cm nz ys h0 n0) (some (.ref b22)) T33.heap _
 rw [e33]
 exact ⟨b22, k22, rfl, Nq33, f35, z25, f36, V34⟩
abbrev fr_eng (m : MethodId) (sb : Addr) (cm : Int32) (pc : Nat) (x2_ : Slot) (st : List Value) : JFrame := mkF m pc #[vR sb, vI cm, x2_] st
def Q_eng (Z : State) (sb : Addr) (va : Addr) (kv : ClassId) (zb : Int32) (vs : List Value) (cn : Int32) (cm : Int32) (nz : Int32) (ys : List Value) (h0 : Heap) (n0 : Nat) (v : Option Value) (h : Heap) (L : List Loc) : Prop := v = none ∧ Fr n0 L ∧ Keep h0 h [sb] ∧ ∃ (vb : Addr) (kw : ClassId), h0.size ≤ vb ∧ Exa Z h vb "[B" ∧ Exa Z h sb "java/lang/StringBuilder" ∧ Fld Z h sb "java/lang/AbstractStringBuilder" "value" "[B" (.ref vb) ∧ Fld Z h sb "java/lang/AbstractStringBuilder" "coder" "B" (iV 0) ∧ Fld Z h sb "java/lang/AbstractStringBuilder" "count" "I" (.int cn) ∧ Arv Z h vb kw .byte nz ys (iV 0)
theorem ef_eng (m : MethodId) (x0 : Addr) (x1 : Int32)  : entryFrame m #[(.ref x0), (.int x1)] 3 = mkF m 0 #[vR x0, vI x1, .unset] [] := by first | (simp [entryFrame, mkF, argsToLocals, Value.category]; done) | rfl
set_option maxRecDepth 65536 in
set_option maxHeartbeats 40000000 in
theorem c_eng (l : Launch) (Z : State) (a0 : Array Value) (hw : HW a0 Z) (ws : List Jvm.Cond) (sb : Addr) (va : Addr) (kv : ClassId) (zb : Int32) (vs : List Value) (cn : Int32) (cm : Int32) (nz : Int32) (ys : List Value) (h0 : Heap) (n0 : Nat) (Z0 : n0 ≤ h0.size) (Eb : Exa Z h0 sb "java/lang/StringBuilder") (Bv : Fld Z h0 sb "java/lang/AbstractStringBuilder" "value" "[B" (.ref va)) (Bc : Fld Z h0 sb "java/lang/AbstractStringBuilder" "coder" "B" (iV 0)) (Bn : Fld Z h0 sb "java/lang/AbstractStringBuilder" "count" "I" (.int cn)) (Ba : Arv Z h0 va kv .byte zb vs (iV 0)) (gb : n0 ≤ sb) (hG : Grw vs ys zb cm nz 160) :
  MetFree l yM11 (head1 (Jvm.Cond.code yM11 jdk_68_method_9_code 3 none :: ws) ({ frames := 3, cells := 1, slots := 160, locals := 60 } : Room)) (fun a U => a = #[(.ref sb), (.int cm)] ∧ Z.Warmed39 U.vm ∧ U.heap = h0) (fun _ _ _ _ _ => True) (fun _ U o U' => ∃ v L, o = .returned v ∧ (Q_eng Z sb va kv zb vs cn cm nz ys h0 n0) v U'.heap L ∧ FrameEnd U o U' L ({ frames := 3, cells := 1, slots := 160, locals := 60 } : Room).cells ({ frames := 3, cells := 1, slots := 160, locals := 60 } : Room).slots) := by
 refine MetFree.of_bodySF (plainFor_of_name pn_9) hisR ?_
 intro p e s m args below meth c s₁ Bd hml0 hP hK
 obtain ⟨rfl, hZ, hHp⟩ := hP
 have hx := Bd.exec
 have D := fun {pc : Nat} {r} (h : decode _ pc = r) => hb Bd.bytes h
 have hml : c.maxLocals = 3 := hml0
 have hown : s.vm.findClass "java/lang/AbstractStringBuilder" = some m.cls := findClass_of_methodNamed Bd.named
 have hnm := (name_of_methodNamed Bd.named Bd.method).1
 have X0 : Stand p l e ({ frames := 3, cells := 1, slots := 160, locals := 60 } : Room) s m #[(.ref sb), (.int cm)] below meth c s₁ [] 0 0 := Stand.of_body Bd
 have e0 : s₁.heap = h0 := by rw [← hHp, Bd.state]; rfl
 have N0 := Fr.nil n0
 refine ownOut (P := (Q_eng Z sb va kv zb vs cn cm nz ys h0 n0)) ?_
 refine ownBy (A := s₁.setTop (mkF m 0 #[vR sb, vI cm, .unset] [])) (fun t k => castTop (ef_eng m sb cm) k) ?_
 have nsv : sb ≠ va := Exa.neArv Eb Ba (Wd45 hw)
 refine oTo s₁ (fr_eng m sb cm 1 .unset [(.ref sb)]) (fun t kt => ?_) ?_
 ·refine XS.aloadN X0.here hx rfl (D d16_0) rfl rfl ?_
  exact kt
 refine own_getF X0 hx hZ hown (host := "") (Or.inl (Wd58 hw)) Via.refl e0 Bv (D d16_1) (fun T21 X21 e21 => ?_)
 obtain ⟨cl22, Ar22, -, S22, N22, -, -⟩ := id Ba
 have st22 := X21.arraylength hx (by rw [e21]; exact Ar22.1) (State.isArrayOf_alike hZ.alike Ar22.2.1) (g := (fr_eng m sb cm 4 .unset [(.ref va)])) rfl rfl (D d16_4)
 rw [len_of S22 N22] at st22
 refine ownBy st22 ?_
 show oA p e below _ T21 (fr_eng m sb cm 5 .unset [(.int zb)])
 refine oTo T21 (fr_eng m sb cm 6 .unset [(.ref sb), (.int zb)]) (fun t kt => ?_) ?_
 ·refine XS.aloadN X21.here hx rfl (D d16_5) rfl rfl ?_
  exact kt
 refine own_getF X21 hx hZ hown (host := "") (Or.inl (Wd60 hw)) Via.refl e21 Bc (D d16_6) (fun T23 X23 e23 => ?_)
 refine oTo T23 (fr_eng m sb cm 19 (.val (.int (zb >>> ((0 : Int32) &&& 31)))) [(.ref sb), (.ref sb)]) (fun t kt => ?_) ?_
 ·refine XS.ishr X23.here hx rfl (D d16_9) rfl ?_
  refine XS.istoreN X23.here hx rfl (D d16_10) rfl (l' := #[vR sb, vI cm, .val (.int (zb >>> ((0 : Int32) &&& 31)))]) rfl ?_
  refine XS.iloadN X23.here hx rfl (D d16_11) rfl ?_
  refine XS.iloadN X23.here hx rfl (D d16_12) rfl ?_
  show Steps p.tables e below (T23.setTop (fr_eng m sb cm 13 (.val (.int (zb >>> ((0 : Int32) &&& 31)))) [(.int (zb >>> ((0 : Int32) &&& 31))), (.int cm)])) t
  refine XS.isub X23.here hx rfl (D d16_13) rfl ?_
  refine XS.ifNo X23.here hx rfl (D d16_14) rfl ((if0 _ _).trans (tlt hG.1).2.2.2) ?_
  refine XS.aloadN X23.here hx rfl (D d16_17) rfl rfl ?_
  refine XS.aloadN X23.here hx rfl (D d16_18) rfl rfl ?_
  exact kt
 refine own_getF X23 hx hZ hown (host := "") (Or.inl (Wd58 hw)) Via.refl e23 Bv (D d16_19) (fun T24 X24 e24 => ?_)
 refine oTo T24 (fr_eng m sb cm 24 (.val (.int (zb >>> ((0 : Int32) &&& 31)))) [(.int cm), (.ref sb), (.ref va), (.ref sb)]) (fun t kt => ?_) ?_
 ·refine XS.aloadN X24.here hx rfl (D d16_22) rfl rfl ?_
  refine XS.iloadN X24.here hx rfl (D d16_23) rfl ?_
  exact kt
 obtain ⟨cq25, q25, q25'⟩ := Eb.cell
 obtain ⟨vv25, _, ⟨T25, L25, k25, n25⟩, -, X25, ⟨Lc25, hQ25, l25, y25, z25⟩, st25⟩ := X24.privateBack hx (y := yM18) hown (mvT hZ (Wd110 hw)) (mvT hZ (Wd111 hw)) (mvT hZ (own_selpriv (Wd113 hw) (Wd112 hw) (Wd111 hw) (by decide))) (Cond.privateMethod_at (mvP hZ (Wd112 hw) (args := #[]))) (mvT hZ (Wd114 hw)) (by decide) (backOf (W := 2) (c_ncp l Z a0 hw [] sb va kv zb vs cn cm nz ys h0 n0 Z0 Eb Bv Bc Bn Ba hG) hZ (Wd114 hw) (Wd54 hw) (by decide) (by decide)) (g := (fr_eng m sb cm 24 (.val (.int (zb >>> ((0 : Int32) &&& 31)))) [(.int cm), (.ref sb), (.ref va), (.ref sb)])) rfl (by rw [hml]; rfl) (Steps.refl _) (a := sb) (by rw [e24]; exact q25) q25' (argsL := [(.int cm)]) (rest := [(.ref va), (.ref sb)]) (lenOf pd_21 rfl) rfl (oWt rfl) (D d16_24) (fun _ _ => ⟨rfl, e24, oLe rfl, oLe rfl⟩)
 dsimp only [Pt.U, Pt.locs, Pt.cells, Pt.slots] at X25 l25 y25 z25 st25 hQ25
 subst l25 y25 z25
 obtain ⟨rfl, Nq25, Eq25⟩ := hQ25
 have N26 := Fr.app N0 Nq25
 obtain ⟨Lh27, Xh27, Nh27⟩ := oHd 0 0 X25 N26 rfl rfl
 refine ownSt st25 ?_
 clear st25
 show oA p e below _ T25 (fr_eng m sb cm 27 (.val (.int (zb >>> ((0 : Int32) &&& 31)))) [(.int nz), (.ref va), (.ref sb)])
 refine oTo T25 (fr_eng m sb cm 28 (.val (.int (zb >>> ((0 : Int32) &&& 31)))) [(.ref sb), (.int nz), (.ref va), (.ref sb)]) (fun t kt => ?_) ?_
 ·refine XS.aloadN Xh27.here hx rfl (D d16_27) rfl rfl ?_
  exact kt
 refine own_getF Xh27 hx hZ hown (host := "") (Or.inl (Wd60 hw)) Via.refl Eq25 Bc (D d16_28) (fun T28 X28 e28 => ?_)
 refine oTo T28 (fr_eng m sb cm 32 (.val (.int (zb >>> ((0 : Int32) &&& 31)))) [(.int (nz <<< ((0 : Int32) &&& 31))), (.ref va), (.ref sb)]) (fun t kt => ?_) ?_
 ·refine XS.ishl X28.here hx rfl (D d16_31) rfl ?_
  exact kt
 show oA p e below _ T28 (fr_eng m sb cm 32 (.val (.int (zb >>> ((0 : Int32) &&& 31)))) [(.int (nz <<< ((0 : Int32) &&& 31))), (.ref va), (.ref sb)])
 rw [own_shl0 nz]
 obtain ⟨vv29, _, ⟨T29, L29, k29, n29⟩, -, X29, ⟨Lc29, hQ29, l29, y29, z29⟩, st29⟩ := Jvm.LawKit.callS X28 hx (y := yM20) hown (mvT hZ (Wd125 hw)) (mvT hZ (Wd126 hw)) (mvT hZ (Wd127 hw)) (mvT hZ (Wd128 hw)) (by decide) (backOf (W := 1) (c_cpf l Z a0 hw [] va kv zb vs cm nz ys h0 n0 Z0 Ba hG) hZ (Wd128 hw) (Wd127 hw) (by decide) (by decide)) (g := (fr_eng m sb cm 32 (.val (.int (zb >>> ((0 : Int32) &&& 31)))) [(.int nz), (.ref va), (.ref sb)])) rfl (by rw [hml]; rfl) (argsL := [(.ref va), (.int nz)]) (rest := [(.ref sb)]) (lenOf pd_22 rfl) rfl (oWt rfl) (D d16_32) (fun _ _ => ⟨rfl, e28, oLe rfl, oLe rfl⟩)
 dsimp only [Pt.U, Pt.locs, Pt.cells, Pt.slots] at X29 l29 y29 z29 st29 hQ29
 subst l29 y29 z29
 obtain ⟨t29, kw29, rfl, Nq29, Kq29, zq29, Ea29, Aq29⟩ := hQ29
 have ne30 : sb ≠ t29 := Nat.ne_of_lt (Nat.lt_of_lt_of_le Eb.lt zq29)
 have ne31 : va ≠ t29 := Nat.ne_of_lt (Nat.lt_of_lt_of_le Ba.lt zq29)
 have g32 : n0 ≤ t29 := Nat.le_trans Z0 zq29
 have z33 : h0.size ≤ t29 := Nat.le_trans (Nat.le_refl h0.size) zq29
 have N34 := Fr.app Nh27 Nq29
 obtain ⟨Lh35, Xh35, Nh35⟩ := oHd 1 160 X29 N34 rfl rfl
 refine ownBy st29 ?_
 clear st29
 show oA p e below _ T29 (fr_eng m sb cm 35 (.val (.int (zb >>> ((0 : Int32) &&& 31)))) [(.ref t29), (.ref sb)])
 have f37 := (Bv.keep Kq29 nin0)
 have f38 := (Eb.keep Kq29)
 obtain ⟨T36, h36, X36, e36, W36, st36⟩ := putF Xh35 hx hZ hown (host := "") (Or.inl (Wd58 hw)) Via.refl rfl f37 f38 (Or.inl (Wd59 hw)) (Wd45 hw) (ty := (.array .byte)) (by decide) rfl rfl (g := (fr_eng m sb cm 35 (.val (.int (zb >>> ((0 : Int32) &&& 31)))) [(.ref t29), (.ref sb)])) rfl rfl (D d16_35)
 have F39 := f37.same W36
 have N40 := Fr.snoc X36 Nh35 gb
 obtain ⟨Lh41, Xh41, Nh41⟩ := oHd 1 160 X36 N40 rfl rfl
 refine ownBy st36 ?_
 clear st36
 show oA p e below _ T36 (fr_eng m sb cm 38 (.val (.int (zb >>> ((0 : Int32) &&& 31)))) [])
 have f42 := (((Keep.refl h0 [sb]).trans Kq29 all0).wr W36 (Or.inl (List.mem_of_getElem? (i := 0) rfl)))
 have f43 := (Ea29.wr W36)
 have f44 := (f38.wr W36)
 have f45 := ((Bc.keep Kq29 nin0).other W36 (Or.inr (slot_ne (Or.inl (Wd61 hw)) (Or.inl (Wd59 hw)) (by decide) (t := .byte) (t' := (.array .byte)) (by decide) (by decide))))
 have f46 := ((Bn.keep Kq29 nin0).other W36 (Or.inr (slot_ne (Or.inl (Wd83 hw)) (Or.inl (Wd59 hw)) (by decide) (t := .int) (t' := (.array .byte)) (by decide) (by decide))))
 have f47 := (Aq29.other W36 (Ne.symm ne30))
 refine ownRet Xh41 Bd.notSynchronized (v := none) (fun _ => rfl) ?_ (oLe rfl) (oLe rfl) (fun fs hr => Xh41.returnOut hx Bd.returns (D d16_38) hr)
 show (Q_eng Z sb va kv zb vs cn cm nz ys h0 n0) (none) T36.heap _
 rw [e36]
 exact ⟨rfl, Nh41, f42, t29, kw29, z33, f43, f44, F39, f45, f46, f47⟩
abbrev fr_aapg (m : MethodId) (sb : Addr) (x : Addr) (pc : Nat) (x2_ : Slot) (st : List Value) : JFrame := mkF m pc #[vR sb, vR x, x2_] st
def Q_aapg (Z : State) (x : Addr) (ta : Addr) (kb : ClassId) (z : Int32) (us : List Value) (sb : Addr) (va : Addr) (kv : ClassId) (zb : Int32) (vs : List Value) (cn : Int32) (wl : List Value) (cm : Int32) (nz : Int32) (ys : List Value) (G1 : Int32) (h0 : Heap) (n0 : Nat) (v : Option Value) (h : Heap) (L : List Loc) : Prop := v = some (.ref sb) ∧ Fr n0 L ∧ Keep h0 h [sb] ∧ ∃ (vb : Addr) (kw : ClassId), h0.size ≤ vb ∧ Exa Z h vb "[B" ∧ Exa Z h sb "java/lang/StringBuilder" ∧ Fld Z h sb "java/lang/AbstractStringBuilder" "value" "[B" (.ref vb) ∧ Fld Z h sb "java/lang/AbstractStringBuilder" "coder" "B" (iV 0) ∧ Fld Z h sb "java/lang/AbstractStringBuilder" "count" "I" (.int cm) ∧ Arv Z h vb kw .byte nz wl (iV 0)
theorem ef_aapg (m : MethodId) (x0 : Addr) (x1 : Addr)  : entryFrame m #[(.ref x0), (.ref x1)] 3 = mkF m 0 #[vR x0, vR x1, .unset] [] := by first | (simp [entryFrame, mkF, argsToLocals, Value.category]; done) | rfl
set_option maxRecDepth 65536 in
set_option maxHeartbeats 40000000 in
theorem c_aapg (l : Launch) (Z : State) (a0 : Array Value) (hw : HW a0 Z) (ws : List Jvm.Cond) (x : Addr) (ta : Addr) (kb : ClassId) (z : Int32) (us : List Value) (sb : Addr) (va : Addr) (kv : ClassId) (zb : Int32) (vs : List Value) (cn : Int32) (wl : List Value) (cm : Int32) (nz : Int32) (ys : List Value) (G1 : Int32) (h0 : Heap) (n0 : Nat) (Z0 : n0 ≤ h0.size) (Es : Exa Z h0 x "java/lang/String") (Vs : Fld Z h0 x "java/lang/String" "value" "[B" (.ref ta)) (Cs : Fld Z h0 x "java/lang/String" "coder" "B" (iV 0)) (Ks : Arv Z h0 ta kb .byte z us (iV 0)) (Eb : Exa Z h0 sb "java/lang/StringBuilder") (Bv : Fld Z h0 sb "java/lang/AbstractStringBuilder" "value" "[B" (.ref va)) (Bc : Fld Z h0 sb "java/lang/AbstractStringBuilder" "coder" "B" (iV 0)) (Bn : Fld Z h0 sb "java/lang/AbstractStringBuilder" "count" "I" (.int cn)) (Ba : Arv Z h0 va kv .byte zb vs (iV 0)) (gb : n0 ≤ sb) (gv : n0 ≤ va) (ntv : ta ≠ va) (hG : Grw vs ys zb cm nz 160) (hC : Cpy ys us wl cn z nz cm) (O2 : Sta Z Z.heap "java/lang/String" "COMPACT_STRINGS" "Z" (.int G1)) (P5 : ¬ (G1 = (0 : Int32))) (X00 : Old Z n0 h0) :
  MetFree l yM13 (head1 (Jvm.Cond.code yM13 jdk_68_method_22_code 3 (some (.object "java/lang/AbstractStringBuilder")) :: ws) ({ frames := 4, cells := 1, slots := 160, locals := 80 } : Room)) (fun a U => a = #[(.ref sb), (.ref x)] ∧ Z.Warmed39 U.vm ∧ U.heap = h0) (fun _ _ _ _ _ => True) (fun _ U o U' => ∃ v L, o = .returned v ∧ (Q_aapg Z x ta kb z us sb va kv zb vs cn wl cm nz ys G1 h0 n0) v U'.heap L ∧ FrameEnd U o U' L ({ frames := 4, cells := 1, slots := 160, locals := 80 } : Room).cells ({ frames := 4, cells := 1, slots := 160, locals := 80 } : Room).slots) := by
 refine MetFree.of_bodySF (plainFor_of_name pn_9) hisR ?_
 intro p e s m args below meth c s₁ Bd hml0 hP hK
 obtain ⟨rfl, hZ, hHp⟩ := hP
 have hx := Bd.exec
 have D := fun {pc : Nat} {r} (h : decode _ pc = r) => hb Bd.bytes h
 have hml : c.maxLocals = 3 := hml0
 have hown : s.vm.findClass "java/lang/AbstractStringBuilder" = some m.cls := findClass_of_methodNamed Bd.named
 have hnm := (name_of_methodNamed Bd.named Bd.method).1
 have X0 : Stand p l e ({ frames := 4, cells := 1, slots := 160, locals := 80 } : Room) s m #[(.ref sb), (.ref x)] below meth c s₁ [] 0 0 := Stand.of_body Bd
 have e0 : s₁.heap = h0 := by rw [← hHp, Bd.state]; rfl
 have N0 := Fr.nil n0
 refine ownOut (P := (Q_aapg Z x ta kb z us sb va kv zb vs cn wl cm nz ys G1 h0 n0)) ?_
 refine ownBy (A := s₁.setTop (mkF m 0 #[vR sb, vR x, .unset] [])) (fun t k => castTop (ef_aapg m sb x) k) ?_
 have nsv : sb ≠ va := Exa.neArv Eb Ba (Wd45 hw)
 have nxs : x ≠ sb := own_exa_ne Es Eb (by decide)
 have nxv : x ≠ va := Exa.neArv Es Ba (Wd5 hw)
 have nst : sb ≠ ta := Exa.neArv Eb Ks (Wd45 hw)
 have nxt : x ≠ ta := Exa.neArv Es Ks (Wd5 hw)
 refine oTo s₁ (fr_aapg m sb x 10 .unset [(.ref x)]) (fun t kt => ?_) ?_
 ·refine XS.aloadN X0.here hx rfl (D d13_0) rfl rfl ?_
  refine XS.ifnonnullYes X0.here hx rfl (pc0 := 1) (pc' := 9) rfl (D d13_1) rfl (by decide) (by decide) ?_
  refine XS.aloadN X0.here hx rfl (D d13_9) rfl rfl ?_
  exact kt
 obtain ⟨cq21, kq21, q21a, q21b, q21c⟩ := isOf hZ e0 Es
 obtain ⟨vv21, _, ⟨T21, L21, k21, n21⟩, -, X21, ⟨Lc21, hQ21, l21, y21, z21⟩, st21⟩ := X0.virtualBack hx (y := yM2) (z := yM2) hown (mvT hZ (Wd72 hw)) (mvT hZ (Wd73 hw)) (oNf hZ (Wd75 hw)) (mvT hZ (Wd75 hw)) (mvT hZ (Wd74 hw)) (by decide) (backOf (W := 0) (c_leng l Z a0 hw [] x ta kb z us G1 h0 n0 Z0 Es Vs Cs Ks hC.2.2.2.2.2.2.1 O2 P5 X00) hZ (Wd76 hw) (Wd6 hw) (by decide) (by decide)) q21a q21c (g := (fr_aapg m sb x 10 .unset [(.ref x)])) rfl (by rw [hml]; rfl) (Steps.refl _) (argsL := []) (rest := []) (lenOf pd_14 rfl) rfl (oWt rfl) (D d13_10) (fun _ _ => ⟨rfl, e0, oLe rfl, oLe rfl⟩)
 dsimp only [Pt.U, Pt.locs, Pt.cells, Pt.slots] at X21 l21 y21 z21 st21 hQ21
 subst l21 y21 z21
 obtain ⟨rfl, Nq21, Eq21⟩ := hQ21
 have N22 := Fr.app N0 Nq21
 obtain ⟨Lh23, Xh23, Nh23⟩ := oHd 0 0 X21 N22 rfl rfl
 refine ownSt st21 ?_
 clear st21
 show oA p e below _ T21 (fr_aapg m sb x 13 .unset [(.int z)])
 refine oTo T21 (fr_aapg m sb x 16 (vI z) [(.ref sb), (.ref sb)]) (fun t kt => ?_) ?_
 ·refine XS.istoreN Xh23.here hx rfl (D d13_13) rfl (l' := #[vR sb, vR x, vI z]) rfl ?_
  refine XS.aloadN Xh23.here hx rfl (D d13_14) rfl rfl ?_
  refine XS.aloadN Xh23.here hx rfl (D d13_15) rfl rfl ?_
  exact kt
 refine own_getF Xh23 hx hZ hown (host := "") (Or.inl (Wd82 hw)) Via.refl Eq21 Bn (D d13_16) (fun T24 X24 e24 => ?_)
 refine oTo T24 (fr_aapg m sb x 21 (vI z) [(.int (cn + z)), (.ref sb)]) (fun t kt => ?_) ?_
 ·refine XS.iloadN X24.here hx rfl (D d13_19) rfl ?_
  refine XS.iadd X24.here hx rfl (D d13_20) rfl ?_
  exact kt
 show oA p e below _ T24 (fr_aapg m sb x 21 (vI z) [(.int (cn + z)), (.ref sb)])
 rw [hC.2.2.2.2.2.2.2.1]
 obtain ⟨cq25, q25, q25'⟩ := Eb.cell
 obtain ⟨vv25, _, ⟨T25, L25, k25, n25⟩, -, X25, ⟨Lc25, hQ25, l25, y25, z25⟩, st25⟩ := X24.privateBack hx (y := yM11) hown (mvT hZ (Wd84 hw)) (mvT hZ (Wd85 hw)) (mvT hZ (own_selpriv (Wd87 hw) (Wd86 hw) (Wd85 hw) (by decide))) (Cond.privateMethod_at (mvP hZ (Wd86 hw) (args := #[]))) (mvT hZ (Wd88 hw)) (by decide) (backOf (W := 0) (c_eng l Z a0 hw [] sb va kv zb vs cn cm nz ys h0 n0 Z0 Eb Bv Bc Bn Ba gb hG) hZ (Wd88 hw) (Wd54 hw) (by decide) (by decide)) (g := (fr_aapg m sb x 21 (vI z) [(.int cm), (.ref sb)])) rfl (by rw [hml]; rfl) (Steps.refl _) (a := sb) (by rw [e24]; exact q25) q25' (argsL := [(.int cm)]) (rest := []) (lenOf pd_11 rfl) rfl (oWt rfl) (D d13_21) (fun _ _ => ⟨rfl, e24, oLe rfl, oLe rfl⟩)
 dsimp only [Pt.U, Pt.locs, Pt.cells, Pt.slots] at X25 l25 y25 z25 st25 hQ25
 subst l25 y25 z25
 obtain ⟨rfl, Nq25, Kq25, t25, kw25, zq25, Ea25, Eq25, Vq25, Cq25, Mq25, Aq25⟩ := hQ25
 have ne26 : sb ≠ t25 := Nat.ne_of_lt (Nat.lt_of_lt_of_le Eb.lt zq25)
 have ne27 : va ≠ t25 := Nat.ne_of_lt (Nat.lt_of_lt_of_le Ba.lt zq25)
 have ne28 : x ≠ t25 := Nat.ne_of_lt (Nat.lt_of_lt_of_le Es.lt zq25)
 have ne29 : ta ≠ t25 := Nat.ne_of_lt (Nat.lt_of_lt_of_le Ks.lt zq25)
 have g30 : n0 ≤ t25 := Nat.le_trans Z0 zq25
 have z31 : h0.size ≤ t25 := Nat.le_trans (Nat.le_refl h0.size) zq25
 have N32 := Fr.app Nh23 Nq25
 obtain ⟨Lh33, Xh33, Nh33⟩ := oHd 1 160 X25 N32 rfl rfl
 refine ownSt st25 ?_
 clear st25
 show oA p e below _ T25 (fr_aapg m sb x 24 (vI z) [])
 have ne34 : sb ≠ t25 := Exa.neArv Eq25 Aq25 (Wd45 hw)
 refine oTo T25 (fr_aapg m sb x 26 (vI z) [(.ref sb), (.ref sb)]) (fun t kt => ?_) ?_
 ·refine XS.aloadN Xh33.here hx rfl (D d13_24) rfl rfl ?_
  refine XS.aloadN Xh33.here hx rfl (D d13_25) rfl rfl ?_
  exact kt
 refine own_getF Xh33 hx hZ hown (host := "") (Or.inl (Wd82 hw)) Via.refl rfl Mq25 (D d13_26) (fun T35 X35 e35 => ?_)
 refine oTo T35 (fr_aapg m sb x 30 (vI z) [(.ref x), (.int cn), (.ref sb)]) (fun t kt => ?_) ?_
 ·refine XS.aloadN X35.here hx rfl (D d13_29) rfl rfl ?_
  exact kt
 have f36 := (Es.keep Kq25)
 have f37 := (Vs.keep Kq25 (ninS nxs nin0))
 have f38 := (Cs.keep Kq25 (ninS nxs nin0))
 have f39 := (Ks.keep Kq25 (ninS (Ne.symm nst) nin0))
 have f40 := (X00.keep Kq25 (allS gb all0))
 have f41 := (Nat.le_trans Z0 Kq25.1)
 obtain ⟨cq42, q42, q42'⟩ := Eq25.cell
 obtain ⟨vv42, _, ⟨T42, L42, k42, n42⟩, -, X42, ⟨Lc42, hQ42, l42, y42, z42⟩, st42⟩ := X35.privateBack hx (y := yM12) hown (mvT hZ (Wd89 hw)) (mvT hZ (Wd90 hw)) (mvT hZ (own_selpriv (Wd92 hw) (Wd91 hw) (Wd90 hw) (by decide))) (Cond.privateMethod_at (mvP hZ (Wd91 hw) (args := #[]))) (mvT hZ (Wd93 hw)) (by decide) (backOf (W := 0) (c_pst l Z a0 hw [] x ta kb z us sb t25 kw25 nz ys cn wl cm G1 T25.heap n0 f41 f36 f37 f38 f39 Eq25 Vq25 Cq25 Mq25 Aq25 gb g30 ne29 hC O2 P5 f40) hZ (Wd93 hw) (Wd54 hw) (by decide) (by decide)) (g := (fr_aapg m sb x 30 (vI z) [(.ref x), (.int cn), (.ref sb)])) rfl (by rw [hml]; rfl) (Steps.refl _) (a := sb) (by rw [e35]; exact q42) q42' (argsL := [(.int cn), (.ref x)]) (rest := []) (lenOf pd_15 rfl) rfl (oWt rfl) (D d13_30) (fun _ _ => ⟨rfl, e35, oLe rfl, oLe rfl⟩)
 dsimp only [Pt.U, Pt.locs, Pt.cells, Pt.slots] at X42 l42 y42 z42 st42 hQ42
 subst l42 y42 z42
 obtain ⟨rfl, Nq42, Kq42, Aq42⟩ := hQ42
 have N43 := Fr.app Nh33 Nq42
 obtain ⟨Lh44, Xh44, Nh44⟩ := oHd 1 160 X42 N43 rfl rfl
 refine ownSt st42 ?_
 clear st42
 show oA p e below _ T42 (fr_aapg m sb x 33 (vI z) [])
 refine oTo T42 (fr_aapg m sb x 35 (vI z) [(.ref sb), (.ref sb)]) (fun t kt => ?_) ?_
 ·refine XS.aloadN Xh44.here hx rfl (D d13_33) rfl rfl ?_
  refine XS.dup Xh44.here hx rfl (D d13_34) rfl rfl ?_
  exact kt
 have f46 := (Mq25.keep Kq42 (ninS ne34 nin0))
 refine own_getF Xh44 hx hZ hown (host := "") (Or.inl (Wd82 hw)) Via.refl rfl f46 (D d13_35) (fun T45 X45 e45 => ?_)
 refine oTo T45 (fr_aapg m sb x 40 (vI z) [(.int (cn + z)), (.ref sb)]) (fun t kt => ?_) ?_
 ·refine XS.iloadN X45.here hx rfl (D d13_38) rfl ?_
  refine XS.iadd X45.here hx rfl (D d13_39) rfl ?_
  exact kt
 show oA p e below _ T45 (fr_aapg m sb x 40 (vI z) [(.int (cn + z)), (.ref sb)])
 rw [hC.2.2.2.2.2.2.2.1]
 have f48 := (Eq25.keep Kq42)
 obtain ⟨T47, h47, X47, e47, W47, st47⟩ := putF X45 hx hZ hown (host := "") (Or.inl (Wd82 hw)) Via.refl e45 f46 f48 (Or.inl (Wd83 hw)) (Wd45 hw) (ty := .int) (by decide) rfl rfl (g := (fr_aapg m sb x 40 (vI z) [(.int cm), (.ref sb)])) rfl rfl (D d13_40)
 have F49 := f46.same W47
 have N50 := Fr.snoc X47 Nh44 gb
 obtain ⟨Lh51, Xh51, Nh51⟩ := oHd 1 160 X47 N50 rfl rfl
 refine ownBy st47 ?_
 clear st47
 show oA p e below _ T47 (fr_aapg m sb x 43 (vI z) [])
 refine oTo T47 (fr_aapg m sb x 44 (vI z) [(.ref sb)]) (fun t kt => ?_) ?_
 ·refine XS.aloadN Xh51.here hx rfl (D d13_43) rfl rfl ?_
  exact kt
 have f52 := ((((Keep.refl h0 [sb]).trans Kq25 (allS (Or.inl (List.mem_of_getElem? (i := 0) rfl)) all0)).trans Kq42 (allS (Or.inr z31) all0)).wr W47 (Or.inl (List.mem_of_getElem? (i := 0) rfl)))
 have f53 := ((Ea25.keep Kq42).wr W47)
 have f54 := (f48.wr W47)
 have f55 := ((Vq25.keep Kq42 (ninS ne34 nin0)).other W47 (Or.inr (slot_ne (Or.inl (Wd59 hw)) (Or.inl (Wd83 hw)) (by decide) (t := (.array .byte)) (t' := .int) (by decide) (by decide))))
 have f56 := ((Cq25.keep Kq42 (ninS ne34 nin0)).other W47 (Or.inr (slot_ne (Or.inl (Wd61 hw)) (Or.inl (Wd83 hw)) (by decide) (t := .byte) (t' := .int) (by decide) (by decide))))
 have f57 := (Aq42.other W47 (Ne.symm ne34))
 refine ownRet Xh51 Bd.notSynchronized (v := some (.ref sb)) (fun h => by rw [Bd.returns] at h; cases h) ?_ (oLe rfl) (oLe rfl) (fun fs hr => retOut Xh51 hx Bd.returns rfl (Or.inr (Or.inr (Or.inr (Or.inr ⟨rfl, rfl, rfl⟩)))) (D d13_44) hr)
 show (Q_aapg Z x ta kb z us sb va kv zb vs cn wl cm nz ys G1 h0 n0) (some (.ref sb)) T47.heap _
 rw [e47]
 exact ⟨rfl, Nh51, f52, t25, kw25, z31, f53, f54, f55, f56, F49, f57⟩
abbrev fr_sapg (m : MethodId) (sb : Addr) (x : Addr) (pc : Nat)  (st : List Value) : JFrame := mkF m pc #[vR sb, vR x] st
def Q_sapg (Z : State) (x : Addr) (ta : Addr) (kb : ClassId) (z : Int32) (us : List Value) (sb : Addr) (va : Addr) (kv : ClassId) (zb : Int32) (vs : List Value) (cn : Int32) (wl : List Value) (cm : Int32) (nz : Int32) (ys : List Value) (G1 : Int32) (h0 : Heap) (n0 : Nat) (v : Option Value) (h : Heap) (L : List Loc) : Prop := v = some (.ref sb) ∧ Fr n0 L ∧ Keep h0 h [sb] ∧ ∃ (vb : Addr) (kw : ClassId), h0.size ≤ vb ∧ Exa Z h vb "[B" ∧ Exa Z h sb "java/lang/StringBuilder" ∧ Fld Z h sb "java/lang/AbstractStringBuilder" "value" "[B" (.ref vb) ∧ Fld Z h sb "java/lang/AbstractStringBuilder" "coder" "B" (iV 0) ∧ Fld Z h sb "java/lang/AbstractStringBuilder" "count" "I" (.int cm) ∧ Arv Z h vb kw .byte nz wl (iV 0)
theorem ef_sapg (m : MethodId) (x0 : Addr) (x1 : Addr)  : entryFrame m #[(.ref x0), (.ref x1)] 2 = mkF m 0 #[vR x0, vR x1] [] := by first | (simp [entryFrame, mkF, argsToLocals, Value.category]; done) | rfl
set_option maxRecDepth 65536 in
set_option maxHeartbeats 40000000 in
theorem c_sapg (l : Launch) (Z : State) (a0 : Array Value) (hw : HW a0 Z) (ws : List Jvm.Cond) (x : Addr) (ta : Addr) (kb : ClassId) (z : Int32) (us : List Value) (sb : Addr) (va : Addr) (kv : ClassId) (zb : Int32) (vs : List Value) (cn : Int32) (wl : List Value) (cm : Int32) (nz : Int32) (ys : List Value) (G1 : Int32) (h0 : Heap) (n0 : Nat) (Z0 : n0 ≤ h0.size) (Es : Exa Z h0 x "java/lang/String") (Vs : Fld Z h0 x "java/lang/String" "value" "[B" (.ref ta)) (Cs : Fld Z h0 x "java/lang/String" "coder" "B" (iV 0)) (Ks : Arv Z h0 ta kb .byte z us (iV 0)) (Eb : Exa Z h0 sb "java/lang/StringBuilder") (Bv : Fld Z h0 sb "java/lang/AbstractStringBuilder" "value" "[B" (.ref va)) (Bc : Fld Z h0 sb "java/lang/AbstractStringBuilder" "coder" "B" (iV 0)) (Bn : Fld Z h0 sb "java/lang/AbstractStringBuilder" "count" "I" (.int cn)) (Ba : Arv Z h0 va kv .byte zb vs (iV 0)) (gb : n0 ≤ sb) (gv : n0 ≤ va) (ntv : ta ≠ va) (hG : Grw vs ys zb cm nz 160) (hC : Cpy ys us wl cn z nz cm) (O2 : Sta Z Z.heap "java/lang/String" "COMPACT_STRINGS" "Z" (.int G1)) (P5 : ¬ (G1 = (0 : Int32))) (X00 : Old Z n0 h0) :
  MetFree l yM14 (head1 (Jvm.Cond.code yM14 jdk_67_method_7_code 2 (some (.object "java/lang/StringBuilder")) :: ws) ({ frames := 5, cells := 1, slots := 160, locals := 100 } : Room)) (fun a U => a = #[(.ref sb), (.ref x)] ∧ Z.Warmed39 U.vm ∧ U.heap = h0) (fun _ _ _ _ _ => True) (fun _ U o U' => ∃ v L, o = .returned v ∧ (Q_sapg Z x ta kb z us sb va kv zb vs cn wl cm nz ys G1 h0 n0) v U'.heap L ∧ FrameEnd U o U' L ({ frames := 5, cells := 1, slots := 160, locals := 100 } : Room).cells ({ frames := 5, cells := 1, slots := 160, locals := 100 } : Room).slots) := by
 refine MetFree.of_bodySF (plainFor_of_name pn_10) hisR ?_
 intro p e s m args below meth c s₁ Bd hml0 hP hK
 obtain ⟨rfl, hZ, hHp⟩ := hP
 have hx := Bd.exec
 have D := fun {pc : Nat} {r} (h : decode _ pc = r) => hb Bd.bytes h
 have hml : c.maxLocals = 2 := hml0
 have hown : s.vm.findClass "java/lang/StringBuilder" = some m.cls := findClass_of_methodNamed Bd.named
 have hnm := (name_of_methodNamed Bd.named Bd.method).1
 have X0 : Stand p l e ({ frames := 5, cells := 1, slots := 160, locals := 100 } : Room) s m #[(.ref sb), (.ref x)] below meth c s₁ [] 0 0 := Stand.of_body Bd
 have e0 : s₁.heap = h0 := by rw [← hHp, Bd.state]; rfl
 have N0 := Fr.nil n0
 refine ownOut (P := (Q_sapg Z x ta kb z us sb va kv zb vs cn wl cm nz ys G1 h0 n0)) ?_
 refine ownBy (A := s₁.setTop (mkF m 0 #[vR sb, vR x] [])) (fun t k => castTop (ef_sapg m sb x) k) ?_
 have nsv : sb ≠ va := Exa.neArv Eb Ba (Wd45 hw)
 have nxs : x ≠ sb := own_exa_ne Es Eb (by decide)
 have nxv : x ≠ va := Exa.neArv Es Ba (Wd5 hw)
 have nst : sb ≠ ta := Exa.neArv Eb Ks (Wd45 hw)
 have nxt : x ≠ ta := Exa.neArv Es Ks (Wd5 hw)
 refine oTo s₁ (fr_sapg m sb x 2  [(.ref x), (.ref sb)]) (fun t kt => ?_) ?_
 ·refine XS.aloadN X0.here hx rfl (D d12_0) rfl rfl ?_
  refine XS.aloadN X0.here hx rfl (D d12_1) rfl rfl ?_
  exact kt
 obtain ⟨vv21, _, ⟨T21, L21, k21, n21⟩, -, X21, ⟨Lc21, hQ21, l21, y21, z21⟩, st21⟩ := superBack X0 hx hZ (y := yM13) hown (Wd67 hw) (own_same (Wd68 hw) (Wd87 hw) rfl (by decide)) (Wd68 hw) (Wd69 hw) (by decide) (backOf (W := 0) (c_aapg l Z a0 hw [] x ta kb z us sb va kv zb vs cn wl cm nz ys G1 h0 n0 Z0 Es Vs Cs Ks Eb Bv Bc Bn Ba gb gv ntv hG hC O2 P5 X00) hZ (Wd71 hw) (Wd54 hw) (by decide) (by decide)) e0 (Ins.self Eb) (g := (fr_sapg m sb x 2  [(.ref x), (.ref sb)])) rfl (by rw [hml]; rfl) (Wd71 hw) (argsL := [(.ref x)]) (rest := []) (lenOf pd_16 rfl) rfl (oWt rfl) (D d12_2) (fun _ _ => ⟨rfl, e0, oLe rfl, oLe rfl⟩)
 dsimp only [Pt.U, Pt.locs, Pt.cells, Pt.slots] at X21 l21 y21 z21 st21 hQ21
 subst l21 y21 z21
 obtain ⟨rfl, Nq21, Kq21, t21, kw21, zq21, Ea21, Eq21, Vq21, Cq21, Mq21, Aq21⟩ := hQ21
 have ne22 : sb ≠ t21 := Nat.ne_of_lt (Nat.lt_of_lt_of_le Eb.lt zq21)
 have ne23 : va ≠ t21 := Nat.ne_of_lt (Nat.lt_of_lt_of_le Ba.lt zq21)
 have ne24 : x ≠ t21 := Nat.ne_of_lt (Nat.lt_of_lt_of_le Es.lt zq21)
 have ne25 : ta ≠ t21 := Nat.ne_of_lt (Nat.lt_of_lt_of_le Ks.lt zq21)
 have g26 : n0 ≤ t21 := Nat.le_trans Z0 zq21
 have z27 : h0.size ≤ t21 := Nat.le_trans (Nat.le_refl h0.size) zq21
 have N28 := Fr.app N0 Nq21
 obtain ⟨Lh29, Xh29, Nh29⟩ := oHd 1 160 X21 N28 rfl rfl
 refine ownSt st21 ?_
 clear st21
 show oA p e below _ T21 (fr_sapg m sb x 5  [(.ref sb)])
 have ne30 : sb ≠ t21 := Exa.neArv Eq21 Aq21 (Wd45 hw)
 refine oTo T21 (fr_sapg m sb x 7  [(.ref sb)]) (fun t kt => ?_) ?_
 ·refine XS.pop Xh29.here hx rfl (D d12_5) rfl rfl ?_
  refine XS.aloadN Xh29.here hx rfl (D d12_6) rfl rfl ?_
  exact kt
 have f31 := ((Keep.refl h0 [sb]).trans Kq21 (allS (Or.inl (List.mem_of_getElem? (i := 0) rfl)) all0))
 refine ownRet Xh29 Bd.notSynchronized (v := some (.ref sb)) (fun h => by rw [Bd.returns] at h; cases h) ?_ (oLe rfl) (oLe rfl) (fun fs hr => retOut Xh29 hx Bd.returns rfl (Or.inr (Or.inr (Or.inr (Or.inr ⟨rfl, rfl, rfl⟩)))) (D d12_7) hr)
 show (Q_sapg Z x ta kb z us sb va kv zb vs cn wl cm nz ys G1 h0 n0) (some (.ref sb)) T21.heap _
 exact ⟨rfl, Nh29, f31, t21, kw21, z27, Ea21, Eq21, Vq21, Cq21, Mq21, Aq21⟩
def Q_gtv (Z : State) (sb : Addr) (va : Addr) (kv : ClassId) (zb : Int32) (vs : List Value) (cn : Int32) (h0 : Heap) (n0 : Nat) (v : Option Value) (h : Heap) (L : List Loc) : Prop := v = some (.ref va) ∧ Fr n0 L ∧ h = h0
theorem ef_gtv (m : MethodId) (x0 : Addr)  : entryFrame m #[(.ref x0)] 1 = mkF m 0 #[vR x0] [] := by first | (simp [entryFrame, mkF, argsToLocals, Value.category]; done) | rfl
set_option maxRecDepth 65536 in
set_option maxHeartbeats 40000000 in
theorem c_gtv (l : Launch) (Z : State) (a0 : Array Value) (hw : HW a0 Z) (ws : List Jvm.Cond) (sb : Addr) (va : Addr) (kv : ClassId) (zb : Int32) (vs : List Value) (cn : Int32) (h0 : Heap) (n0 : Nat) (Z0 : n0 ≤ h0.size) (Eb : Exa Z h0 sb "java/lang/StringBuilder") (Bv : Fld Z h0 sb "java/lang/AbstractStringBuilder" "value" "[B" (.ref va)) (Bc : Fld Z h0 sb "java/lang/AbstractStringBuilder" "coder" "B" (iV 0)) (Bn : Fld Z h0 sb "java/lang/AbstractStringBuilder" "count" "I" (.int cn)) (Ba : Arv Z h0 va kv .byte zb vs (iV 0)) :
  MetFree l yM21 (head1 (Jvm.Cond.code yM21 jdk_68_method_64_code 1 (some (.array .byte)) :: ws) ({ frames := 0, cells := 0, slots := 0, locals := 0 } : Room)) (fun a U => a = #[(.ref sb)] ∧ Z.Warmed39 U.vm ∧ U.heap = h0) (fun _ _ _ _ _ => True) (fun _ U o U' => ∃ v L, o = .returned v ∧ (Q_gtv Z sb va kv zb vs cn h0 n0) v U'.heap L ∧ FrameEnd U o U' L ({ frames := 0, cells := 0, slots := 0, locals := 0 } : Room).cells ({ frames := 0, cells := 0, slots := 0, locals := 0 } : Room).slots) := by
 refine MetFree.of_bodySF (plainFor_of_name pn_9) hisR ?_
 intro p e s m args below meth c s₁ Bd hml0 hP hK
 obtain ⟨rfl, hZ, hHp⟩ := hP
 have hx := Bd.exec
 have D := fun {pc : Nat} {r} (h : decode _ pc = r) => hb Bd.bytes h
 have hml : c.maxLocals = 1 := hml0
 have hown : s.vm.findClass "java/lang/AbstractStringBuilder" = some m.cls := findClass_of_methodNamed Bd.named
 have hnm := (name_of_methodNamed Bd.named Bd.method).1
 have X0 : Stand p l e ({ frames := 0, cells := 0, slots := 0, locals := 0 } : Room) s m #[(.ref sb)] below meth c s₁ [] 0 0 := Stand.of_body Bd
 have e0 : s₁.heap = h0 := by rw [← hHp, Bd.state]; rfl
 have N0 := Fr.nil n0
 refine ownOut (P := (Q_gtv Z sb va kv zb vs cn h0 n0)) ?_
 refine ownBy (A := s₁.setTop (mkF m 0 #[vR sb] [])) (fun t k => castTop (ef_gtv m sb) k) ?_
 have nsv : sb ≠ va := Exa.neArv Eb Ba (Wd45 hw)
 refine oTo s₁ (mkF m 1 #[vR sb] [(.ref sb)]) (fun t kt => ?_) ?_
 ·refine XS.aloadN X0.here hx rfl (D d29_0) rfl rfl ?_
  exact kt
 refine own_getF X0 hx hZ hown (host := "") (Or.inl (Wd58 hw)) Via.refl e0 Bv (D d29_1) (fun T21 X21 e21 => ?_)
 refine ownRet X21 Bd.notSynchronized (v := some (.ref va)) (fun h => by rw [Bd.returns] at h; cases h) ?_ (oLe rfl) (oLe rfl) (fun fs hr => retOut X21 hx Bd.returns rfl (Or.inr (Or.inr (Or.inr (Or.inr ⟨rfl, rfl, rfl⟩)))) (D d29_4) hr)
 show (Q_gtv Z sb va kv zb vs cn h0 n0) (some (.ref va)) T21.heap _
 rw [e21]
 exact ⟨rfl, N0, rfl⟩
def Q_ble (Z : State) (sb : Addr) (va : Addr) (kv : ClassId) (zb : Int32) (vs : List Value) (cn : Int32) (h0 : Heap) (n0 : Nat) (v : Option Value) (h : Heap) (L : List Loc) : Prop := v = some (.int cn) ∧ Fr n0 L ∧ h = h0
theorem ef_ble (m : MethodId) (x0 : Addr)  : entryFrame m #[(.ref x0)] 1 = mkF m 0 #[vR x0] [] := by first | (simp [entryFrame, mkF, argsToLocals, Value.category]; done) | rfl
set_option maxRecDepth 65536 in
set_option maxHeartbeats 40000000 in
theorem c_ble (l : Launch) (Z : State) (a0 : Array Value) (hw : HW a0 Z) (ws : List Jvm.Cond) (sb : Addr) (va : Addr) (kv : ClassId) (zb : Int32) (vs : List Value) (cn : Int32) (h0 : Heap) (n0 : Nat) (Z0 : n0 ≤ h0.size) (Eb : Exa Z h0 sb "java/lang/StringBuilder") (Bv : Fld Z h0 sb "java/lang/AbstractStringBuilder" "value" "[B" (.ref va)) (Bc : Fld Z h0 sb "java/lang/AbstractStringBuilder" "coder" "B" (iV 0)) (Bn : Fld Z h0 sb "java/lang/AbstractStringBuilder" "count" "I" (.int cn)) (Ba : Arv Z h0 va kv .byte zb vs (iV 0)) :
  MetFree l yM22 (head1 (Jvm.Cond.code yM22 jdk_68_method_6_code 1 (some .int) :: ws) ({ frames := 0, cells := 0, slots := 0, locals := 0 } : Room)) (fun a U => a = #[(.ref sb)] ∧ Z.Warmed39 U.vm ∧ U.heap = h0) (fun _ _ _ _ _ => True) (fun _ U o U' => ∃ v L, o = .returned v ∧ (Q_ble Z sb va kv zb vs cn h0 n0) v U'.heap L ∧ FrameEnd U o U' L ({ frames := 0, cells := 0, slots := 0, locals := 0 } : Room).cells ({ frames := 0, cells := 0, slots := 0, locals := 0 } : Room).slots) := by
 refine MetFree.of_bodySF (plainFor_of_name pn_9) hisR ?_
 intro p e s m args below meth c s₁ Bd hml0 hP hK
 obtain ⟨rfl, hZ, hHp⟩ := hP
 have hx := Bd.exec
 have D := fun {pc : Nat} {r} (h : decode _ pc = r) => hb Bd.bytes h
 have hml : c.maxLocals = 1 := hml0
 have hown : s.vm.findClass "java/lang/AbstractStringBuilder" = some m.cls := findClass_of_methodNamed Bd.named
 have hnm := (name_of_methodNamed Bd.named Bd.method).1
 have X0 : Stand p l e ({ frames := 0, cells := 0, slots := 0, locals := 0 } : Room) s m #[(.ref sb)] below meth c s₁ [] 0 0 := Stand.of_body Bd
 have e0 : s₁.heap = h0 := by rw [← hHp, Bd.state]; rfl
 have N0 := Fr.nil n0
 refine ownOut (P := (Q_ble Z sb va kv zb vs cn h0 n0)) ?_
 refine ownBy (A := s₁.setTop (mkF m 0 #[vR sb] [])) (fun t k => castTop (ef_ble m sb) k) ?_
 have nsv : sb ≠ va := Exa.neArv Eb Ba (Wd45 hw)
 refine oTo s₁ (mkF m 1 #[vR sb] [(.ref sb)]) (fun t kt => ?_) ?_
 ·refine XS.aloadN X0.here hx rfl (D d31_0) rfl rfl ?_
  exact kt
 refine own_getF X0 hx hZ hown (host := "") (Or.inl (Wd82 hw)) Via.refl e0 Bn (D d31_1) (fun T21 X21 e21 => ?_)
 refine ownRet X21 Bd.notSynchronized (v := some (.int cn)) (fun h => by rw [Bd.returns] at h; cases h) ?_ (oLe rfl) (oLe rfl) (fun fs hr => retI X21 hx Bd.returns (D d31_4) hr)
 show (Q_ble Z sb va kv zb vs cn h0 n0) (some (.int cn)) T21.heap _
 rw [e21]
 exact ⟨rfl, N0, rfl⟩
def Q_sle (Z : State) (sb : Addr) (va : Addr) (kv : ClassId) (zb : Int32) (vs : List Value) (cn : Int32) (h0 : Heap) (n0 : Nat) (v : Option Value) (h : Heap) (L : List Loc) : Prop := v = some (.int cn) ∧ Fr n0 L ∧ h = h0
theorem ef_sle (m : MethodId) (x0 : Addr)  : entryFrame m #[(.ref x0)] 1 = mkF m 0 #[vR x0] [] := by first | (simp [entryFrame, mkF, argsToLocals, Value.category]; done) | rfl
set_option maxRecDepth 65536 in
set_option maxHeartbeats 40000000 in
theorem c_sle (l : Launch) (Z : State) (a0 : Array Value) (hw : HW a0 Z) (ws : List Jvm.Cond) (sb : Addr) (va : Addr) (kv : ClassId) (zb : Int32) (vs : List Value) (cn : Int32) (h0 : Heap) (n0 : Nat) (Z0 : n0 ≤ h0.size) (Eb : Exa Z h0 sb "java/lang/StringBuilder") (Bv : Fld Z h0 sb "java/lang/AbstractStringBuilder" "value" "[B" (.ref va)) (Bc : Fld Z h0 sb "java/lang/AbstractStringBuilder" "coder" "B" (iV 0)) (Bn : Fld Z h0 sb "java/lang/AbstractStringBuilder" "count" "I" (.int cn)) (Ba : Arv Z h0 va kv .byte zb vs (iV 0)) :
  MetFree l yM23 (head1 (Jvm.Cond.code yM23 jdk_67_method_93_code 1 (some .int) :: ws) ({ frames := 1, cells := 0, slots := 0, locals := 12 } : Room)) (fun a U => a = #[(.ref sb)] ∧ Z.Warmed39 U.vm ∧ U.heap = h0) (fun _ _ _ _ _ => True) (fun _ U o U' => ∃ v L, o = .returned v ∧ (Q_sle Z sb va kv zb vs cn h0 n0) v U'.heap L ∧ FrameEnd U o U' L ({ frames := 1, cells := 0, slots := 0, locals := 12 } : Room).cells ({ frames := 1, cells := 0, slots := 0, locals := 12 } : Room).slots) := by
 refine MetFree.of_bodySF (plainFor_of_name pn_10) hisR ?_
 intro p e s m args below meth c s₁ Bd hml0 hP hK
 obtain ⟨rfl, hZ, hHp⟩ := hP
 have hx := Bd.exec
 have D := fun {pc : Nat} {r} (h : decode _ pc = r) => hb Bd.bytes h
 have hml : c.maxLocals = 1 := hml0
 have hown : s.vm.findClass "java/lang/StringBuilder" = some m.cls := findClass_of_methodNamed Bd.named
 have hnm := (name_of_methodNamed Bd.named Bd.method).1
 have X0 : Stand p l e ({ frames := 1, cells := 0, slots := 0, locals := 12 } : Room) s m #[(.ref sb)] below meth c s₁ [] 0 0 := Stand.of_body Bd
 have e0 : s₁.heap = h0 := by rw [← hHp, Bd.state]; rfl
 have N0 := Fr.nil n0
 refine ownOut (P := (Q_sle Z sb va kv zb vs cn h0 n0)) ?_
 refine ownBy (A := s₁.setTop (mkF m 0 #[vR sb] [])) (fun t k => castTop (ef_sle m sb) k) ?_
 have nsv : sb ≠ va := Exa.neArv Eb Ba (Wd45 hw)
 refine oTo s₁ (mkF m 1 #[vR sb] [(.ref sb)]) (fun t kt => ?_) ?_
 ·refine XS.aloadN X0.here hx rfl (D d30_0) rfl rfl ?_
  exact kt
 obtain ⟨vv21, _, ⟨T21, L21, k21, n21⟩, -, X21, ⟨Lc21, hQ21, l21, y21, z21⟩, st21⟩ := superBack X0 hx hZ (y := yM22) hown (Wd161 hw) (own_same (Wd157 hw) (Wd87 hw) rfl (by decide)) (Wd157 hw) (Wd69 hw) (by decide) (backOf (W := 0) (c_ble l Z a0 hw [] sb va kv zb vs cn h0 n0 Z0 Eb Bv Bc Bn Ba) hZ (Wd162 hw) (Wd54 hw) (by decide) (by decide)) e0 (Ins.self Eb) (g := (mkF m 1 #[vR sb] [(.ref sb)])) rfl (by rw [hml]; rfl) (Wd162 hw) (argsL := []) (rest := []) (lenOf pd_14 rfl) rfl (oWt rfl) (D d30_1) (fun _ _ => ⟨rfl, e0, oLe rfl, oLe rfl⟩)
 dsimp only [Pt.U, Pt.locs, Pt.cells, Pt.slots] at X21 l21 y21 z21 st21 hQ21
 subst l21 y21 z21
 obtain ⟨rfl, Nq21, Eq21⟩ := hQ21
 have N22 := Fr.app N0 Nq21
 obtain ⟨Lh23, Xh23, Nh23⟩ := oHd 0 0 X21 N22 rfl rfl
 refine ownSt st21 ?_
 clear st21
 show oA p e below _ T21 (mkF m 4 #[vR sb] [(.int cn)])
 refine ownRet Xh23 Bd.notSynchronized (v := some (.int cn)) (fun h => by rw [Bd.returns] at h; cases h) ?_ (oLe rfl) (oLe rfl) (fun fs hr => retI Xh23 hx Bd.returns (D d30_4) hr)
 show (Q_sle Z sb va kv zb vs cn h0 n0) (some (.int cn)) T21.heap _
 rw [Eq21]
 exact ⟨rfl, Nh23, rfl⟩
def Q_ckl (Z : State) (cn : Int32) (h0 : Heap) (n0 : Nat) (v : Option Value) (h : Heap) (L : List Loc) : Prop := v = none ∧ Fr n0 L ∧ h = h0
theorem ef_ckl (m : MethodId) (x0 : Int32) (x1 : Int32)  : entryFrame m #[(.int x0), (.int x1)] 2 = mkF m 0 #[vI x0, vI x1] [] := by first | (simp [entryFrame, mkF, argsToLocals, Value.category]; done) | rfl
set_option maxRecDepth 65536 in
set_option maxHeartbeats 40000000 in
theorem c_ckl (l : Launch) (Z : State) (a0 : Array Value) (hw : HW a0 Z) (ws : List Jvm.Cond) (cn : Int32) (h0 : Heap) (n0 : Nat) (Z0 : n0 ≤ h0.size) (h2 : ¬ cn < (0 : Int32)) :
  MetFree l yM24 (head1 (Jvm.Cond.code yM24 jdk_65_method_131_code 2 none :: ws) ({ frames := 0, cells := 0, slots := 0, locals := 0 } : Room)) (fun a U => a = #[(iV 0), (.int cn)] ∧ Z.Warmed39 U.vm ∧ U.heap = h0) (fun _ _ _ _ _ => True) (fun _ U o U' => ∃ v L, o = .returned v ∧ (Q_ckl Z cn h0 n0) v U'.heap L ∧ FrameEnd U o U' L ({ frames := 0, cells := 0, slots := 0, locals := 0 } : Room).cells ({ frames := 0, cells := 0, slots := 0, locals := 0 } : Room).slots) := by
 refine MetFree.of_bodySF (plainFor_of_name pn_20) hisR ?_
 intro p e s m args below meth c s₁ Bd hml0 hP hK
 obtain ⟨rfl, hZ, hHp⟩ := hP
 have hx := Bd.exec
 have D := fun {pc : Nat} {r} (h : decode _ pc = r) => hb Bd.bytes h
 have hml : c.maxLocals = 2 := hml0
 have hown : s.vm.findClass "java/util/Arrays" = some m.cls := findClass_of_methodNamed Bd.named
 have hnm := (name_of_methodNamed Bd.named Bd.method).1
 have X0 : Stand p l e ({ frames := 0, cells := 0, slots := 0, locals := 0 } : Room) s m #[(iV 0), (.int cn)] below meth c s₁ [] 0 0 := Stand.of_body Bd
 have e0 : s₁.heap = h0 := by rw [← hHp, Bd.state]; rfl
 have N0 := Fr.nil n0
 refine ownOut (P := (Q_ckl Z cn h0 n0)) ?_
 refine ownBy (A := s₁.setTop (mkF m 0 #[vI 0, vI cn] [])) (fun t k => castTop (ef_ckl m (0 : Int32) cn) k) ?_
 refine oTo s₁ (mkF m 37 #[vI 0, vI cn] []) (fun t kt => ?_) ?_
 ·refine XS.iloadN X0.here hx rfl (D d35_0) rfl ?_
  refine XS.iloadN X0.here hx rfl (D d35_1) rfl ?_
  refine XS.icmpYes X0.here hx rfl (pc0 := 2) (pc' := 37) rfl (D d35_2) rfl (flt h2).2.1 (by decide) (by decide) ?_
  exact kt
 refine ownRet X0 Bd.notSynchronized (v := none) (fun _ => rfl) ?_ (oLe rfl) (oLe rfl) (fun fs hr => X0.returnOut hx Bd.returns (D d35_37) hr)
 show (Q_ckl Z cn h0 n0) (none) s₁.heap _
 rw [e0]
 exact ⟨rfl, N0, rfl⟩
def Q_mmn (Z : State) (m1 : Int32) (m2 : Int32) (h0 : Heap) (n0 : Nat) (v : Option Value) (h : Heap) (L : List Loc) : Prop := v = some (.int m2) ∧ Fr n0 L ∧ h = h0
theorem ef_mmn (m : MethodId) (x0 : Int32) (x1 : Int32)  : entryFrame m #[(.int x0), (.int x1)] 2 = mkF m 0 #[vI x0, vI x1] [] := by first | (simp [entryFrame, mkF, argsToLocals, Value.category]; done) | rfl
set_option maxRecDepth 65536 in
set_option maxHeartbeats 40000000 in
theorem c_mmn (l : Launch) (Z : State) (a0 : Array Value) (hw : HW a0 Z) (ws : List Jvm.Cond) (m1 : Int32) (m2 : Int32) (h0 : Heap) (n0 : Nat) (Z0 : n0 ≤ h0.size) (hm : m2 < m1) :
  MetFree l yM19 (head1 (Jvm.Cond.code yM19 jdk_29_method_69_code 2 (some .int) :: ws) ({ frames := 0, cells := 0, slots := 0, locals := 0 } : Room)) (fun a U => a = #[(.int m1), (.int m2)] ∧ Z.Warmed39 U.vm ∧ U.heap = h0) (fun _ _ _ _ _ => True) (fun _ U o U' => ∃ v L, o = .returned v ∧ (Q_mmn Z m1 m2 h0 n0) v U'.heap L ∧ FrameEnd U o U' L ({ frames := 0, cells := 0, slots := 0, locals := 0 } : Room).cells ({ frames := 0, cells := 0, slots := 0, locals := 0 } : Room).slots) := by
 refine MetFree.of_bodySF (Jvm.Free.JP.mathPlain rfl (by decide +kernel)) hisR ?_
 intro p e s m args below meth c s₁ Bd hml0 hP hK
 obtain ⟨rfl, hZ, hHp⟩ := hP
 have hx := Bd.exec
 have D := fun {pc : Nat} {r} (h : decode _ pc = r) => hb Bd.bytes h
 have hml : c.maxLocals = 2 := hml0
 have hown : s.vm.findClass "java/lang/Math" = some m.cls := findClass_of_methodNamed Bd.named
 have hnm := (name_of_methodNamed Bd.named Bd.method).1
 have X0 : Stand p l e ({ frames := 0, cells := 0, slots := 0, locals := 0 } : Room) s m #[(.int m1), (.int m2)] below meth c s₁ [] 0 0 := Stand.of_body Bd
 have e0 : s₁.heap = h0 := by rw [← hHp, Bd.state]; rfl
 have N0 := Fr.nil n0
 refine ownOut (P := (Q_mmn Z m1 m2 h0 n0)) ?_
 refine ownBy (A := s₁.setTop (mkF m 0 #[vI m1, vI m2] [])) (fun t k => castTop (ef_mmn m m1 m2) k) ?_
 refine oTo s₁ (mkF m 10 #[vI m1, vI m2] [(.int m2)]) (fun t kt => ?_) ?_
 ·refine XS.iloadN X0.here hx rfl (D d24_0) rfl ?_
  refine XS.iloadN X0.here hx rfl (D d24_1) rfl ?_
  refine XS.icmpYes X0.here hx rfl (pc0 := 2) (pc' := 9) rfl (D d24_2) rfl (tlt hm).2.2.1 (by decide) (by decide) ?_
  refine XS.iloadN X0.here hx rfl (D d24_9) rfl ?_
  exact kt
 refine ownRet X0 Bd.notSynchronized (v := some (.int m2)) (fun h => by rw [Bd.returns] at h; cases h) ?_ (oLe rfl) (oLe rfl) (fun fs hr => retI X0 hx Bd.returns (D d24_10) hr)
 show (Q_mmn Z m1 m2 h0 n0) (some (.int m2)) s₁.heap _
 rw [e0]
 exact ⟨rfl, N0, rfl⟩
abbrev fr_cob (m : MethodId) (va : Addr) (cn : Int32) (pc : Nat) (x3_ x4_ : Slot) (st : List Value) : JFrame := mkF m pc #[vR va, vI 0, vI cn, x3_, x4_] st
def Q_cob (Z : State) (va : Addr) (kv : ClassId) (zb : Int32) (vs : List Value) (cn : Int32) (rs : List Value) (h0 : Heap) (n0 : Nat) (v : Option Value) (h : Heap) (L : List Loc) : Prop := ∃ (tn : Addr) (kn : ClassId), v = some (.ref tn) ∧ Fr n0 L ∧ Keep h0 h [] ∧ h0.size ≤ tn ∧ Arv Z h tn kn .byte cn rs (iV 0)
theorem ef_cob (m : MethodId) (x0 : Addr) (x1 : Int32) (x2 : Int32)  : entryFrame m #[(.ref x0), (.int x1), (.int x2)] 5 = mkF m 0 #[vR x0, vI x1, vI x2, .unset, .unset] [] := by first | (simp [entryFrame, mkF, argsToLocals, Value.category]; done) | rfl
set_option maxRecDepth 65536 in
set_option maxHeartbeats 40000000 in
theorem c_cob (l : Launch) (Z : State) (a0 : Array Value) (hw : HW a0 Z) (ws : List Jvm.Cond) (va : Addr) (kv : ClassId) (zb : Int32) (vs : List Value) (cn : Int32) (rs : List Value) (h0 : Heap) (n0 : Nat) (Z0 : n0 ≤ h0.size) (Ba : Arv Z h0 va kv .byte zb vs (iV 0)) (hC : Cor vs rs cn zb 160) :
  MetFree l yM25 (head1 (Jvm.Cond.code yM25 jdk_65_method_133_code 5 (some (.array .byte)) :: ws) ({ frames := 1, cells := 1, slots := 160, locals := 40 } : Room)) (fun a U => a = #[(.ref va), (iV 0), (.int cn)] ∧ Z.Warmed39 U.vm ∧ U.heap = h0) (fun _ _ _ _ _ => True) (fun _ U o U' => ∃ v L, o = .returned v ∧ (Q_cob Z va kv zb vs cn rs h0 n0) v U'.heap L ∧ FrameEnd U o U' L ({ frames := 1, cells := 1, slots := 160, locals := 40 } : Room).cells ({ frames := 1, cells := 1, slots := 160, locals := 40 } : Room).slots) := by
 refine MetFree.of_bodySF (plainFor_of_name pn_20) hisR ?_
 intro p e s m args below meth c s₁ Bd hml0 hP hK
 obtain ⟨rfl, hZ, hHp⟩ := hP
 have hx := Bd.exec
 have D := fun {pc : Nat} {r} (h : decode _ pc = r) => hb Bd.bytes h
 have hml : c.maxLocals = 5 := hml0
 have hown : s.vm.findClass "java/util/Arrays" = some m.cls := findClass_of_methodNamed Bd.named
 have hnm := (name_of_methodNamed Bd.named Bd.method).1
 have X0 : Stand p l e ({ frames := 1, cells := 1, slots := 160, locals := 40 } : Room) s m #[(.ref va), (iV 0), (.int cn)] below meth c s₁ [] 0 0 := Stand.of_body Bd
 have e0 : s₁.heap = h0 := by rw [← hHp, Bd.state]; rfl
 have N0 := Fr.nil n0
 refine ownOut (P := (Q_cob Z va kv zb vs cn rs h0 n0)) ?_
 refine ownBy (A := s₁.setTop (mkF m 0 #[vR va, vI 0, vI cn, .unset, .unset] [])) (fun t k => castTop (ef_cob m va (0 : Int32) cn) k) ?_
 refine oTo s₁ (fr_cob m va cn 2 .unset .unset [(.int cn), (iV 0)]) (fun t kt => ?_) ?_
 ·refine XS.iloadN X0.here hx rfl (D d34_0) rfl ?_
  refine XS.iloadN X0.here hx rfl (D d34_1) rfl ?_
  exact kt
 obtain ⟨vv21, _, ⟨T21, L21, k21, n21⟩, -, X21, ⟨Lc21, hQ21, l21, y21, z21⟩, st21⟩ := Jvm.LawKit.callS X0 hx (y := yM24) hown (mvT hZ (Wd174 hw)) (mvT hZ (Wd175 hw)) (mvT hZ (Wd127 hw)) (mvT hZ (Wd176 hw)) (by decide) (backOf (W := 0) (c_ckl l Z a0 hw [] cn h0 n0 Z0 hC.1) hZ (Wd176 hw) (Wd127 hw) (by decide) (by decide)) (g := (fr_cob m va cn 2 .unset .unset [(.int cn), (iV 0)])) rfl (by rw [hml]; rfl) (argsL := [(iV 0), (.int cn)]) (rest := []) (lenOf pd_6 rfl) rfl (oWt rfl) (D d34_2) (fun _ _ => ⟨rfl, e0, oLe rfl, oLe rfl⟩)
 dsimp only [Pt.U, Pt.locs, Pt.cells, Pt.slots] at X21 l21 y21 z21 st21 hQ21
 subst l21 y21 z21
 obtain ⟨rfl, Nq21, Eq21⟩ := hQ21
 have N22 := Fr.app N0 Nq21
 obtain ⟨Lh23, Xh23, Nh23⟩ := oHd 0 0 X21 N22 rfl rfl
 refine ownBy st21 ?_
 clear st21
 show oA p e below _ T21 (fr_cob m va cn 5 .unset .unset [])
 refine oTo T21 (fr_cob m va cn 9 (.val (.int (cn - (0 : Int32)))) .unset []) (fun t kt => ?_) ?_
 ·refine XS.iloadN Xh23.here hx rfl (D d34_5) rfl ?_
  refine XS.iloadN Xh23.here hx rfl (D d34_6) rfl ?_
  refine XS.isub Xh23.here hx rfl (D d34_7) rfl ?_
  refine XS.istoreN Xh23.here hx rfl (D d34_8) rfl (l' := #[vR va, vI 0, vI cn, .val (.int (cn - (0 : Int32))), .unset]) rfl ?_
  exact kt
 show oA p e below _ T21 (fr_cob m va cn 9 (.val (.int (cn - (0 : Int32)))) .unset [])
 rw [own_sub0 cn]
 refine oTo T21 (fr_cob m va cn 10 (vI cn) .unset [(.int cn)]) (fun t kt => ?_) ?_
 ·refine XS.iloadN Xh23.here hx rfl (D d34_9) rfl ?_
  exact kt
 obtain ⟨T24, h24, k24, X24, e24, E24, A24, st24⟩ := newP Xh23 hx hZ (aty := .byte) (Wd26 hw) Eq21 (g := (fr_cob m va cn 10 (vI cn) .unset [(.int cn)])) rfl (D d34_10) rfl hC.1 (cap := 160) hC.2.2.2.2.1 (by decide) (by decide) (by decide)
 obtain ⟨b24, g24⟩ : ∃ z, z = h0.size := ⟨_, rfl⟩
 rw [← g24] at A24 st24
 have ne25 : va ≠ b24 := Nat.ne_of_lt (Nat.lt_of_lt_of_le Ba.lt (Nat.le_of_eq g24.symm))
 have g26 : n0 ≤ b24 := Nat.le_trans Z0 (Nat.le_of_eq g24.symm)
 have z27 : h0.size ≤ b24 := Nat.le_trans (Nat.le_refl h0.size) (Nat.le_of_eq g24.symm)
 have V28 : Arv Z h24 b24 k24 .byte cn ([] ++ List.replicate cn.toNatClampNeg (iV 0)) (iV 0) := (Arv.new A24 hC.1).pad (pad_rep [] (iV 0) _)
 refine ownBy st24 ?_
 clear st24
 show oA p e below _ T24 (fr_cob m va cn 12 (vI cn) .unset [(.ref b24)])
 refine oTo T24 (fr_cob m va cn 20 (vI cn) (vR b24) [(.ref va), (iV 0), (.ref b24), (iV 0), (.ref va)]) (fun t kt => ?_) ?_
 ·refine XS.astore X24.here hx rfl (D d34_12) rfl rfl (l' := #[vR va, vI 0, vI cn, vI cn, vR b24]) rfl ?_
  refine XS.aloadN X24.here hx rfl (D d34_14) rfl rfl ?_
  refine XS.iloadN X24.here hx rfl (D d34_15) rfl ?_
  refine XS.aload X24.here hx rfl (D d34_16) rfl rfl ?_
  show Steps p.tables e below (T24.setTop (fr_cob m va cn 18 (vI cn) (vR b24) [(.ref b24), (iV 0), (.ref va)])) t
  refine XS.iconst X24.here hx rfl (D d34_18) ?_
  refine XS.aloadN X24.here hx rfl (D d34_19) rfl rfl ?_
  exact kt
 have f29 := (Ba.ext E24)
 obtain ⟨cl30, Ar30, -, S30, N30, -, -⟩ := id f29
 have st30 := X24.arraylength hx (by rw [e24]; exact Ar30.1) (State.isArrayOf_alike hZ.alike Ar30.2.1) (g := (fr_cob m va cn 20 (vI cn) (vR b24) [(.ref va), (iV 0), (.ref b24), (iV 0), (.ref va)])) rfl rfl (D d34_20)
 rw [len_of S30 N30] at st30
 refine ownBy st30 ?_
 show oA p e below _ T24 (fr_cob m va cn 21 (vI cn) (vR b24) [(.int zb), (iV 0), (.ref b24), (iV 0), (.ref va)])
 refine oTo T24 (fr_cob m va cn 23 (vI cn) (vR b24) [(.int (zb - (0 : Int32))), (iV 0), (.ref b24), (iV 0), (.ref va)]) (fun t kt => ?_) ?_
 ·refine XS.iloadN X24.here hx rfl (D d34_21) rfl ?_
  refine XS.isub X24.here hx rfl (D d34_22) rfl ?_
  exact kt
 show oA p e below _ T24 (fr_cob m va cn 23 (vI cn) (vR b24) [(.int (zb - (0 : Int32))), (iV 0), (.ref b24), (iV 0), (.ref va)])
 rw [own_sub0 zb]
 refine oTo T24 (fr_cob m va cn 24 (vI cn) (vR b24) [(.int cn), (.int zb), (iV 0), (.ref b24), (iV 0), (.ref va)]) (fun t kt => ?_) ?_
 ·refine XS.iloadN X24.here hx rfl (D d34_23) rfl ?_
  exact kt
 have f31 := (Nat.le_trans Z0 E24.1)
 obtain ⟨vv32, _, ⟨T32, L32, k32, n32⟩, -, X32, ⟨Lc32, hQ32, l32, y32, z32⟩, st32⟩ := Jvm.LawKit.callS X24 hx (y := yM19) hown (mvT hZ (Wd129 hw)) (mvT hZ (Wd130 hw)) (mvT hZ (Wd121 hw)) (mvT hZ (Wd131 hw)) (by decide) (backOf (W := 4) (c_mmn l Z a0 hw [] zb cn h24 n0 f31 hC.2.2.1) hZ (Wd131 hw) (Wd121 hw) (by decide) (by decide)) (g := (fr_cob m va cn 24 (vI cn) (vR b24) [(.int cn), (.int zb), (iV 0), (.ref b24), (iV 0), (.ref va)])) rfl (by rw [hml]; rfl) (argsL := [(.int zb), (.int cn)]) (rest := [(iV 0), (.ref b24), (iV 0), (.ref va)]) (lenOf pd_18 rfl) rfl (oWt rfl) (D d34_24) (fun _ _ => ⟨rfl, e24, oLe rfl, oLe rfl⟩)
 dsimp only [Pt.U, Pt.locs, Pt.cells, Pt.slots] at X32 l32 y32 z32 st32 hQ32
 subst l32 y32 z32
 obtain ⟨rfl, Nq32, Eq32⟩ := hQ32
 have N33 := Fr.app Nh23 Nq32
 obtain ⟨Lh34, Xh34, Nh34⟩ := oHd 1 160 X32 N33 rfl rfl
 refine ownBy st32 ?_
 clear st32
 show oA p e below _ T32 (fr_cob m va cn 27 (vI cn) (vR b24) [(.int cn), (iV 0), (.ref b24), (iV 0), (.ref va)])
 obtain ⟨T35, h35, L35, X35, e35, Nq35, K35, A35, st35⟩ := cpA Xh34 hx hZ hown (Wd132 hw) (Wd108 hw) (Wd106 hw) (Wd107 hw) Eq32 f29 V28 (us := rs) (Or.inl ⟨rfl, rfl⟩) (sp := (0 : Int32)) (dp := (0 : Int32)) (nn := cn) (by decide) (by decide) hC.1 hC.2.2.2.1 (Nat.le_of_eq (Nat.zero_add _)) hC.2.2.2.2.2 (by show 0 + _ ≤ _; simp) Nh34 g26 (g := (fr_cob m va cn 27 (vI cn) (vR b24) [(.int cn), (iV 0), (.ref b24), (iV 0), (.ref va)])) rfl (by rw [hml]; rfl) rfl (D d34_27) (by decide) (W := 0) (oWt rfl) (by decide)
 have V36 : Arv Z h35 b24 k24 .byte cn rs (iV 0) := own_rep _ rs ▸ A35
 refine ownBy st35 ?_
 clear st35
 show oA p e below _ T35 (fr_cob m va cn 30 (vI cn) (vR b24) [])
 refine oTo T35 (fr_cob m va cn 32 (vI cn) (vR b24) [(.ref b24)]) (fun t kt => ?_) ?_
 ·refine XS.aload X35.here hx rfl (D d34_30) rfl rfl ?_
  exact kt
 have f37 := (((Keep.refl h0 []).ext E24).trans K35 (allS (Or.inr z27) all0))
 refine ownRet X35 Bd.notSynchronized (v := some (.ref b24)) (fun h => by rw [Bd.returns] at h; cases h) ?_ (oLe rfl) (oLe rfl) (fun fs hr => retOut X35 hx Bd.returns rfl (Or.inr (Or.inr (Or.inr (Or.inr ⟨rfl, rfl, rfl⟩)))) (D d34_32) hr)
 show (Q_cob Z va kv zb vs cn rs h0 n0) (some (.ref b24)) T35.heap _
 rw [e35]
 exact ⟨b24, k24, rfl, Nq35, f37, z27, V36⟩
abbrev fr_cor (m : MethodId) (va : Addr) (cn : Int32) (pc : Nat)  (st : List Value) : JFrame := mkF m pc #[vR va, vI 0, vI cn] st
def Q_cor (Z : State) (va : Addr) (kv : ClassId) (zb : Int32) (vs : List Value) (cn : Int32) (rs : List Value) (h0 : Heap) (n0 : Nat) (v : Option Value) (h : Heap) (L : List Loc) : Prop := ∃ (tn : Addr) (kn : ClassId), v = some (.ref tn) ∧ Fr n0 L ∧ Keep h0 h [] ∧ h0.size ≤ tn ∧ Arv Z h tn kn .byte cn rs (iV 0)
theorem ef_cor (m : MethodId) (x0 : Addr) (x1 : Int32) (x2 : Int32)  : entryFrame m #[(.ref x0), (.int x1), (.int x2)] 3 = mkF m 0 #[vR x0, vI x1, vI x2] [] := by first | (simp [entryFrame, mkF, argsToLocals, Value.category]; done) | rfl
set_option maxRecDepth 65536 in
set_option maxHeartbeats 40000000 in
theorem c_cor (l : Launch) (Z : State) (a0 : Array Value) (hw : HW a0 Z) (ws : List Jvm.Cond) (va : Addr) (kv : ClassId) (zb : Int32) (vs : List Value) (cn : Int32) (rs : List Value) (h0 : Heap) (n0 : Nat) (Z0 : n0 ≤ h0.size) (Ba : Arv Z h0 va kv .byte zb vs (iV 0)) (hC : Cor vs rs cn zb 160) :
  MetFree l yM26 (head1 (Jvm.Cond.code yM26 jdk_65_method_132_code 3 (some (.array .byte)) :: ws) ({ frames := 2, cells := 1, slots := 160, locals := 60 } : Room)) (fun a U => a = #[(.ref va), (iV 0), (.int cn)] ∧ Z.Warmed39 U.vm ∧ U.heap = h0) (fun _ _ _ _ _ => True) (fun _ U o U' => ∃ v L, o = .returned v ∧ (Q_cor Z va kv zb vs cn rs h0 n0) v U'.heap L ∧ FrameEnd U o U' L ({ frames := 2, cells := 1, slots := 160, locals := 60 } : Room).cells ({ frames := 2, cells := 1, slots := 160, locals := 60 } : Room).slots) := by
 refine MetFree.of_bodySF (plainFor_of_name pn_20) hisR ?_
 intro p e s m args below meth c s₁ Bd hml0 hP hK
 obtain ⟨rfl, hZ, hHp⟩ := hP
 have hx := Bd.exec
 have D := fun {pc : Nat} {r} (h : decode _ pc = r) => hb Bd.bytes h
 have hml : c.maxLocals = 3 := hml0
 have hown : s.vm.findClass "java/util/Arrays" = some m.cls := findClass_of_methodNamed Bd.named
 have hnm := (name_of_methodNamed Bd.named Bd.method).1
 have X0 : Stand p l e ({ frames := 2, cells := 1, slots := 160, locals := 60 } : Room) s m #[(.ref va), (iV 0), (.int cn)] below meth c s₁ [] 0 0 := Stand.of_body Bd
 have e0 : s₁.heap = h0 := by rw [← hHp, Bd.state]; rfl
 have N0 := Fr.nil n0
 refine ownOut (P := (Q_cor Z va kv zb vs cn rs h0 n0)) ?_
 refine ownBy (A := s₁.setTop (mkF m 0 #[vR va, vI 0, vI cn] [])) (fun t k => castTop (ef_cor m va (0 : Int32) cn) k) ?_
 refine oTo s₁ (fr_cor m va cn 6  [(.ref va), (.int cn)]) (fun t kt => ?_) ?_
 ·refine XS.iloadN X0.here hx rfl (D d33_0) rfl ?_
  refine XS.ifNo X0.here hx rfl (D d33_1) rfl ((if0 _ _).trans (teq ((by decide) : (0 : Int32) = (0 : Int32))).2) ?_
  refine XS.iloadN X0.here hx rfl (D d33_4) rfl ?_
  refine XS.aloadN X0.here hx rfl (D d33_5) rfl rfl ?_
  exact kt
 obtain ⟨cl21, Ar21, -, S21, N21, -, -⟩ := id Ba
 have st21 := X0.arraylength hx (by rw [e0]; exact Ar21.1) (State.isArrayOf_alike hZ.alike Ar21.2.1) (g := (fr_cor m va cn 6  [(.ref va), (.int cn)])) rfl rfl (D d33_6)
 rw [len_of S21 N21] at st21
 refine ownBy st21 ?_
 show oA p e below _ s₁ (fr_cor m va cn 7  [(.int zb), (.int cn)])
 refine oTo s₁ (fr_cor m va cn 13  [(.int cn), (iV 0), (.ref va)]) (fun t kt => ?_) ?_
 ·refine XS.icmpNo X0.here hx rfl (D d33_7) rfl (feq hC.2.1).1 ?_
  refine XS.aloadN X0.here hx rfl (D d33_10) rfl rfl ?_
  refine XS.iloadN X0.here hx rfl (D d33_11) rfl ?_
  refine XS.iloadN X0.here hx rfl (D d33_12) rfl ?_
  exact kt
 obtain ⟨vv22, _, ⟨T22, L22, k22, n22⟩, -, X22, ⟨Lc22, hQ22, l22, y22, z22⟩, st22⟩ := Jvm.LawKit.callS X0 hx (y := yM25) hown (mvT hZ (Wd171 hw)) (mvT hZ (Wd172 hw)) (mvT hZ (Wd127 hw)) (mvT hZ (Wd173 hw)) (by decide) (backOf (W := 0) (c_cob l Z a0 hw [] va kv zb vs cn rs h0 n0 Z0 Ba hC) hZ (Wd173 hw) (Wd127 hw) (by decide) (by decide)) (g := (fr_cor m va cn 13  [(.int cn), (iV 0), (.ref va)])) rfl (by rw [hml]; rfl) (argsL := [(.ref va), (iV 0), (.int cn)]) (rest := []) (lenOf pd_23 rfl) rfl (oWt rfl) (D d33_13) (fun _ _ => ⟨rfl, e0, oLe rfl, oLe rfl⟩)
 dsimp only [Pt.U, Pt.locs, Pt.cells, Pt.slots] at X22 l22 y22 z22 st22 hQ22
 subst l22 y22 z22
 obtain ⟨t22, kn22, rfl, Nq22, Kq22, zq22, Aq22⟩ := hQ22
 have ne23 : va ≠ t22 := Nat.ne_of_lt (Nat.lt_of_lt_of_le Ba.lt zq22)
 have g24 : n0 ≤ t22 := Nat.le_trans Z0 zq22
 have z25 : h0.size ≤ t22 := Nat.le_trans (Nat.le_refl h0.size) zq22
 have N26 := Fr.app N0 Nq22
 obtain ⟨Lh27, Xh27, Nh27⟩ := oHd 1 160 X22 N26 rfl rfl
 refine ownBy st22 ?_
 clear st22
 show oA p e below _ T22 (fr_cor m va cn 16  [(.ref t22)])
 have f28 := ((Keep.refl h0 []).trans Kq22 all0)
 refine ownRet Xh27 Bd.notSynchronized (v := some (.ref t22)) (fun h => by rw [Bd.returns] at h; cases h) ?_ (oLe rfl) (oLe rfl) (fun fs hr => retOut Xh27 hx Bd.returns rfl (Or.inr (Or.inr (Or.inr (Or.inr ⟨rfl, rfl, rfl⟩)))) (D d33_16) hr)
 show (Q_cor Z va kv zb vs cn rs h0 n0) (some (.ref t22)) T22.heap _
 exact ⟨t22, kn22, rfl, Nh27, f28, z25, Aq22⟩
abbrev fr_ins2 (m : MethodId) (a1 : Addr) (sb : Addr) (pc : Nat) (x3_ x4_ : Slot) (st : List Value) : JFrame := mkF m pc #[vR a1, vR sb, .val .null, x3_, x4_] st
def Q_ins2 (Z : State) (a1 : Addr) (sb : Addr) (va : Addr) (kv : ClassId) (zb : Int32) (vs : List Value) (cn : Int32) (rs : List Value) (c9 : Value) (G1 : Int32) (h0 : Heap) (n0 : Nat) (v : Option Value) (h : Heap) (L : List Loc) : Prop := v = none ∧ Fr n0 L ∧ Keep h0 h [a1] ∧ ∃ (tn : Addr) (kn : ClassId), h0.size ≤ tn ∧ Exa Z h a1 "java/lang/String" ∧ Fld Z h a1 "java/lang/String" "value" "[B" (.ref tn) ∧ Fld Z h a1 "java/lang/String" "coder" "B" (iV 0) ∧ Arv Z h tn kn .byte cn rs (iV 0)
theorem ef_ins2 (m : MethodId) (x0 : Addr) (x1 : Addr)  : entryFrame m #[(.ref x0), (.ref x1), .null] 5 = mkF m 0 #[vR x0, vR x1, .val .null, .unset, .unset] [] := by first | (simp [entryFrame, mkF, argsToLocals, Value.category]; done) | rfl
set_option maxRecDepth 65536 in
set_option maxHeartbeats 40000000 in
theorem c_ins2 (l : Launch) (Z : State) (a0 : Array Value) (hw : HW a0 Z) (ws : List Jvm.Cond) (a1 : Addr) (sb : Addr) (va : Addr) (kv : ClassId) (zb : Int32) (vs : List Value) (cn : Int32) (rs : List Value) (c9 : Value) (G1 : Int32) (h0 : Heap) (n0 : Nat) (Z0 : n0 ≤ h0.size) (E1 : Exa Z h0 a1 "java/lang/String") (F1 : Fld Z h0 a1 "java/lang/String" "value" "[B" .null) (F2 : Fld Z h0 a1 "java/lang/String" "coder" "B" c9) (g1 : n0 ≤ a1) (Eb : Exa Z h0 sb "java/lang/StringBuilder") (Bv : Fld Z h0 sb "java/lang/AbstractStringBuilder" "value" "[B" (.ref va)) (Bc : Fld Z h0 sb "java/lang/AbstractStringBuilder" "coder" "B" (iV 0)) (Bn : Fld Z h0 sb "java/lang/AbstractStringBuilder" "count" "I" (.int cn)) (Ba : Arv Z h0 va kv .byte zb vs (iV 0)) (hC : Cor vs rs cn zb 160) (O2 : Sta Z Z.heap "java/lang/String" "COMPACT_STRINGS" "Z" (.int G1)) (P5 : ¬ (G1 = (0 : Int32))) (X00 : Old Z n0 h0) :
  MetFree l yM27 (head1 (Jvm.Cond.code yM27 jdk_42_method_150_code 5 none :: ws) ({ frames := 3, cells := 1, slots := 160, locals := 80 } : Room)) (fun a U => a = #[(.ref a1), (.ref sb), .null] ∧ Z.Warmed39 U.vm ∧ U.heap = h0) (fun _ _ _ _ _ => True) (fun _ U o U' => ∃ v L, o = .returned v ∧ (Q_ins2 Z a1 sb va kv zb vs cn rs c9 G1 h0 n0) v U'.heap L ∧ FrameEnd U o U' L ({ frames := 3, cells := 1, slots := 160, locals := 80 } : Room).cells ({ frames := 3, cells := 1, slots := 160, locals := 80 } : Room).slots) := by
 refine MetFree.of_bodySF (plainFor_of_name pn_1) hisR ?_
 intro p e s m args below meth c s₁ Bd hml0 hP hK
 obtain ⟨rfl, hZ, hHp⟩ := hP
 have hx := Bd.exec
 have D := fun {pc : Nat} {r} (h : decode _ pc = r) => hb Bd.bytes h
 have hml : c.maxLocals = 5 := hml0
 have hown : s.vm.findClass "java/lang/String" = some m.cls := findClass_of_methodNamed Bd.named
 have hnm := (name_of_methodNamed Bd.named Bd.method).1
 have X0 : Stand p l e ({ frames := 3, cells := 1, slots := 160, locals := 80 } : Room) s m #[(.ref a1), (.ref sb), .null] below meth c s₁ [] 0 0 := Stand.of_body Bd
 have e0 : s₁.heap = h0 := by rw [← hHp, Bd.state]; rfl
 have N0 := Fr.nil n0
 refine ownOut (P := (Q_ins2 Z a1 sb va kv zb vs cn rs c9 G1 h0 n0)) ?_
 refine ownBy (A := s₁.setTop (mkF m 0 #[vR a1, vR sb, .val .null, .unset, .unset] [])) (fun t k => castTop (ef_ins2 m a1 sb) k) ?_
 have nsv : sb ≠ va := Exa.neArv Eb Ba (Wd45 hw)
 have n1s : a1 ≠ sb := own_exa_ne E1 Eb (by decide)
 have n1v : a1 ≠ va := Exa.neArv E1 Ba (Wd5 hw)
 refine oTo s₁ (fr_ins2 m a1 sb 1 .unset .unset [(.ref a1)]) (fun t kt => ?_) ?_
 ·refine XS.aloadN X0.here hx rfl (D d28_0) rfl rfl ?_
  exact kt
 obtain ⟨T21, X21, e21, st21⟩ := initO X0 hx hZ hown (Wd18 hw) (Wd19 hw) (Wd20 hw) e0 (g := (fr_ins2 m a1 sb 1 .unset .unset [(.ref a1)])) rfl (by rw [hml]; rfl) rfl (D d28_1) (by decide) (W := 0) (oWt rfl) (by decide)
 refine ownBy st21 ?_
 clear st21
 show oA p e below _ T21 (fr_ins2 m a1 sb 4 .unset .unset [])
 refine oTo T21 (fr_ins2 m a1 sb 5 .unset .unset [(.ref sb)]) (fun t kt => ?_) ?_
 ·refine XS.aloadN X21.here hx rfl (D d28_4) rfl rfl ?_
  exact kt
 obtain ⟨cq22, kq22, q22a, q22b, q22c⟩ := isOf hZ e21 Eb
 obtain ⟨vv22, _, ⟨T22, L22, k22, n22⟩, -, X22, ⟨Lc22, hQ22, l22, y22, z22⟩, st22⟩ := X21.virtualBack hx (y := yM21) (z := yM21) hown (mvT hZ (Wd150 hw)) (mvT hZ (Wd151 hw)) (oNf hZ (Wd153 hw)) (mvT hZ (Wd153 hw)) (mvT hZ (Wd152 hw)) (by decide) (backOf (W := 0) (c_gtv l Z a0 hw [] sb va kv zb vs cn h0 n0 Z0 Eb Bv Bc Bn Ba) hZ (Wd154 hw) (Wd54 hw) (by decide) (by decide)) q22a q22c (g := (fr_ins2 m a1 sb 5 .unset .unset [(.ref sb)])) rfl (by rw [hml]; rfl) (Steps.refl _) (argsL := []) (rest := []) (lenOf pd_24 rfl) rfl (oWt rfl) (D d28_5) (fun _ _ => ⟨rfl, e21, oLe rfl, oLe rfl⟩)
 dsimp only [Pt.U, Pt.locs, Pt.cells, Pt.slots] at X22 l22 y22 z22 st22 hQ22
 subst l22 y22 z22
 obtain ⟨rfl, Nq22, Eq22⟩ := hQ22
 have N23 := Fr.app N0 Nq22
 obtain ⟨Lh24, Xh24, Nh24⟩ := oHd 0 0 X22 N23 rfl rfl
 refine ownSt st22 ?_
 clear st22
 show oA p e below _ T22 (fr_ins2 m a1 sb 8 .unset .unset [(.ref va)])
 refine oTo T22 (fr_ins2 m a1 sb 10 (vR va) .unset [(.ref sb)]) (fun t kt => ?_) ?_
 ·refine XS.astoreN Xh24.here hx rfl (D d28_8) rfl rfl (l' := #[vR a1, vR sb, .val .null, vR va, .unset]) rfl ?_
  refine XS.aloadN Xh24.here hx rfl (D d28_9) rfl rfl ?_
  exact kt
 obtain ⟨cq25, kq25, q25a, q25b, q25c⟩ := isOf hZ Eq22 Eb
 obtain ⟨vv25, _, ⟨T25, L25, k25, n25⟩, -, X25, ⟨Lc25, hQ25, l25, y25, z25⟩, st25⟩ := Xh24.virtualBack hx (y := yM22) (z := yM23) hown (mvT hZ (Wd155 hw)) (mvT hZ (Wd156 hw)) (own_nf (args := #[]) (mvT hZ (Wd87 hw)) rfl) (mvT hZ (Wd158 hw)) (mvT hZ (Wd159 hw)) (by decide) (backOf (W := 0) (c_sle l Z a0 hw [] sb va kv zb vs cn h0 n0 Z0 Eb Bv Bc Bn Ba) hZ (Wd160 hw) (Wd46 hw) (by decide) (by decide)) q25a q25c (g := (fr_ins2 m a1 sb 10 (vR va) .unset [(.ref sb)])) rfl (by rw [hml]; rfl) (Steps.refl _) (argsL := []) (rest := []) (lenOf pd_14 rfl) rfl (oWt rfl) (D d28_10) (fun _ _ => ⟨rfl, Eq22, oLe rfl, oLe rfl⟩)
 dsimp only [Pt.U, Pt.locs, Pt.cells, Pt.slots] at X25 l25 y25 z25 st25 hQ25
 subst l25 y25 z25
 obtain ⟨rfl, Nq25, Eq25⟩ := hQ25
 have N26 := Fr.app Nh24 Nq25
 obtain ⟨Lh27, Xh27, Nh27⟩ := oHd 0 0 X25 N26 rfl rfl
 refine ownSt st25 ?_
 clear st25
 show oA p e below _ T25 (fr_ins2 m a1 sb 13 (vR va) .unset [(.int cn)])
 refine oTo T25 (fr_ins2 m a1 sb 16 (vR va) (vI cn) [(.ref sb)]) (fun t kt => ?_) ?_
 ·refine XS.istore Xh27.here hx rfl (D d28_13) rfl (l' := #[vR a1, vR sb, .val .null, vR va, vI cn]) rfl ?_
  refine XS.aloadN Xh27.here hx rfl (D d28_15) rfl rfl ?_
  exact kt
 obtain ⟨cq28, kq28, q28a, q28b, q28c⟩ := isOf hZ Eq25 Eb
 obtain ⟨vv28, _, ⟨T28, L28, k28, n28⟩, -, X28, ⟨Lc28, hQ28, l28, y28, z28⟩, st28⟩ := Xh27.virtualBack hx (y := yM15) (z := yM15) hown (mvT hZ (Wd163 hw)) (mvT hZ (Wd164 hw)) (oNf hZ (Wd166 hw)) (mvT hZ (Wd166 hw)) (mvT hZ (Wd165 hw)) (by decide) (backOf (W := 0) (c_bil l Z a0 hw [] sb va kv zb vs cn G1 h0 n0 Z0 Eb Bv Bc Bn Ba O2 P5 X00) hZ (Wd167 hw) (Wd54 hw) (by decide) (by decide)) q28a q28c (g := (fr_ins2 m a1 sb 16 (vR va) (vI cn) [(.ref sb)])) rfl (by rw [hml]; rfl) (Steps.refl _) (argsL := []) (rest := []) (lenOf pd_7 rfl) rfl (oWt rfl) (D d28_16) (fun _ _ => ⟨rfl, Eq25, oLe rfl, oLe rfl⟩)
 dsimp only [Pt.U, Pt.locs, Pt.cells, Pt.slots] at X28 l28 y28 z28 st28 hQ28
 subst l28 y28 z28
 obtain ⟨rfl, Nq28, Eq28⟩ := hQ28
 have N29 := Fr.app Nh27 Nq28
 obtain ⟨Lh30, Xh30, Nh30⟩ := oHd 0 0 X28 N29 rfl rfl
 refine ownSt st28 ?_
 clear st28
 show oA p e below _ T28 (fr_ins2 m a1 sb 19 (vR va) (vI cn) [(iV 1)])
 refine oTo T28 (fr_ins2 m a1 sb 24 (vR va) (vI cn) [(iV 0), (.ref a1)]) (fun t kt => ?_) ?_
 ·refine XS.ifNo Xh30.here hx rfl (D d28_19) rfl ((if0 _ _).trans (feq ((by decide) : ¬ ((1 : Int32) = (0 : Int32)))).1) ?_
  refine XS.aloadN Xh30.here hx rfl (D d28_22) rfl rfl ?_
  refine XS.iconst Xh30.here hx rfl (D d28_23) ?_
  exact kt
 obtain ⟨T31, h31, X31, e31, W31, st31⟩ := putFN Xh30 hx hZ hown (Wd33 hw) Via.refl Eq28 F2 E1 (Or.inr ⟨(Wd34 hw), rfl, hnm⟩) (Wd5 hw) (ty := .byte) (v' := (iV 0)) (by decide) rfl (fits_nar_byte (0 : Int32)) (g := (fr_ins2 m a1 sb 24 (vR va) (vI cn) [(iV 0), (.ref a1)])) rfl rfl (D d28_24)
 have F32 := F2.same W31
 have N33 := Fr.snoc X31 Nh30 g1
 obtain ⟨Lh34, Xh34, Nh34⟩ := oHd 0 0 X31 N33 rfl rfl
 refine ownBy st31 ?_
 clear st31
 show oA p e below _ T31 (fr_ins2 m a1 sb 27 (vR va) (vI cn) [])
 refine oTo T31 (fr_ins2 m a1 sb 32 (vR va) (vI cn) [(.int cn), (iV 0), (.ref va), (.ref a1)]) (fun t kt => ?_) ?_
 ·refine XS.aloadN Xh34.here hx rfl (D d28_27) rfl rfl ?_
  refine XS.aloadN Xh34.here hx rfl (D d28_28) rfl rfl ?_
  refine XS.iconst Xh34.here hx rfl (D d28_29) ?_
  refine XS.iload Xh34.here hx rfl (D d28_30) rfl ?_
  exact kt
 have f35 := (Ba.other W31 (Ne.symm n1v))
 have f36 := (Nat.le_trans Z0 (Keep.of_wr W31).1)
 obtain ⟨vv37, _, ⟨T37, L37, k37, n37⟩, -, X37, ⟨Lc37, hQ37, l37, y37, z37⟩, st37⟩ := Jvm.LawKit.callS Xh34 hx (y := yM26) hown (mvT hZ (Wd168 hw)) (mvT hZ (Wd169 hw)) (mvT hZ (Wd127 hw)) (mvT hZ (Wd170 hw)) (by decide) (backOf (W := 1) (c_cor l Z a0 hw [] va kv zb vs cn rs h31 n0 f36 f35 hC) hZ (Wd170 hw) (Wd127 hw) (by decide) (by decide)) (g := (fr_ins2 m a1 sb 32 (vR va) (vI cn) [(.int cn), (iV 0), (.ref va), (.ref a1)])) rfl (by rw [hml]; rfl) (argsL := [(.ref va), (iV 0), (.int cn)]) (rest := [(.ref a1)]) (lenOf pd_23 rfl) rfl (oWt rfl) (D d28_32) (fun _ _ => ⟨rfl, e31, oLe rfl, oLe rfl⟩)
 dsimp only [Pt.U, Pt.locs, Pt.cells, Pt.slots] at X37 l37 y37 z37 st37 hQ37
 subst l37 y37 z37
 obtain ⟨t37, kn37, rfl, Nq37, Kq37, zq37, Aq37⟩ := hQ37
 have f39 := (Eb.wr W31)
 have ne38 : sb ≠ t37 := Nat.ne_of_lt (Nat.lt_of_lt_of_le f39.lt zq37)
 have ne40 : va ≠ t37 := Nat.ne_of_lt (Nat.lt_of_lt_of_le f35.lt zq37)
 have f42 := (E1.wr W31)
 have ne41 : a1 ≠ t37 := Nat.ne_of_lt (Nat.lt_of_lt_of_le f42.lt zq37)
 have g43 : n0 ≤ t37 := Nat.le_trans f36 zq37
 have f45 := (Nat.le_trans (Nat.le_refl h0.size) (Keep.of_wr W31).1)
 have z44 : h0.size ≤ t37 := Nat.le_trans f45 zq37
 have N46 := Fr.app Nh34 Nq37
 obtain ⟨Lh47, Xh47, Nh47⟩ := oHd 1 160 X37 N46 rfl rfl
 refine ownBy st37 ?_
 clear st37
 show oA p e below _ T37 (fr_ins2 m a1 sb 35 (vR va) (vI cn) [(.ref t37), (.ref a1)])
 have f49 := ((F1.other W31 (Or.inr (slot_ne (Or.inr (Wd36 hw)) (Or.inr (Wd34 hw)) (by decide) (t := (.array .byte)) (t' := .byte) (by decide) (by decide)))).keep Kq37 nin0)
 have f50 := (f42.keep Kq37)
 obtain ⟨T48, h48, X48, e48, W48, st48⟩ := putF Xh47 hx hZ hown (host := "") (Or.inl (Wd35 hw)) Via.refl rfl f49 f50 (Or.inr ⟨(Wd36 hw), rfl, hnm⟩) (Wd5 hw) (ty := (.array .byte)) (by decide) rfl rfl (g := (fr_ins2 m a1 sb 35 (vR va) (vI cn) [(.ref t37), (.ref a1)])) rfl rfl (D d28_35)
 have F51 := f49.same W48
 have N52 := Fr.snoc X48 Nh47 g1
 obtain ⟨Lh53, Xh53, Nh53⟩ := oHd 1 160 X48 N52 rfl rfl
 refine ownBy st48 ?_
 clear st48
 show oA p e below _ T48 (fr_ins2 m a1 sb 38 (vR va) (vI cn) [])
 refine oTo T48 (fr_ins2 m a1 sb 97 (vR va) (vI cn) []) (fun t kt => ?_) ?_
 ·refine XS.goto Xh53.here hx rfl (pc0 := 38) (pc' := 97) rfl (D d28_38) (by decide) (by decide) ?_
  exact kt
 have f54 := ((((Keep.refl h0 [a1]).wr W31 (Or.inl (List.mem_of_getElem? (i := 0) rfl))).trans Kq37 all0).wr W48 (Or.inl (List.mem_of_getElem? (i := 0) rfl)))
 have f55 := (f50.wr W48)
 have f56 := ((F32.keep Kq37 nin0).other W48 (Or.inr (slot_ne (Or.inr (Wd34 hw)) (Or.inr (Wd36 hw)) (by decide) (t := .byte) (t' := (.array .byte)) (by decide) (by decide))))
 have f57 := (Aq37.other W48 (Ne.symm ne41))
 refine ownRet Xh53 Bd.notSynchronized (v := none) (fun _ => rfl) ?_ (oLe rfl) (oLe rfl) (fun fs hr => Xh53.returnOut hx Bd.returns (D d28_97) hr)
 show (Q_ins2 Z a1 sb va kv zb vs cn rs c9 G1 h0 n0) (none) T48.heap _
 rw [e48]
 exact ⟨rfl, Nh53, f54, t37, kn37, z44, f55, F51, f56, f57⟩
def Q_ins1 (Z : State) (a1 : Addr) (sb : Addr) (va : Addr) (kv : ClassId) (zb : Int32) (vs : List Value) (cn : Int32) (rs : List Value) (c9 : Value) (G1 : Int32) (h0 : Heap) (n0 : Nat) (v : Option Value) (h : Heap) (L : List Loc) : Prop := v = none ∧ Fr n0 L ∧ Keep h0 h [a1] ∧ ∃ (tn : Addr) (kn : ClassId), h0.size ≤ tn ∧ Exa Z h a1 "java/lang/String" ∧ Fld Z h a1 "java/lang/String" "value" "[B" (.ref tn) ∧ Fld Z h a1 "java/lang/String" "coder" "B" (iV 0) ∧ Arv Z h tn kn .byte cn rs (iV 0)
theorem ef_ins1 (m : MethodId) (x0 : Addr) (x1 : Addr)  : entryFrame m #[(.ref x0), (.ref x1)] 2 = mkF m 0 #[vR x0, vR x1] [] := by first | (simp [entryFrame, mkF, argsToLocals, Value.category]; done) | rfl
set_option maxRecDepth 65536 in
set_option maxHeartbeats 40000000 in
theorem c_ins1 (l : Launch) (Z : State) (a0 : Array Value) (hw : HW a0 Z) (ws : List Jvm.Cond) (a1 : Addr) (sb : Addr) (va : Addr) (kv : ClassId) (zb : Int32) (vs : List Value) (cn : Int32) (rs : List Value) (c9 : Value) (G1 : Int32) (h0 : Heap) (n0 : Nat) (Z0 : n0 ≤ h0.size) (E1 : Exa Z h0 a1 "java/lang/String") (F1 : Fld Z h0 a1 "java/lang/String" "value" "[B" .null) (F2 : Fld Z h0 a1 "java/lang/String" "coder" "B" c9) (g1 : n0 ≤ a1) (Eb : Exa Z h0 sb "java/lang/StringBuilder") (Bv : Fld Z h0 sb "java/lang/AbstractStringBuilder" "value" "[B" (.ref va)) (Bc : Fld Z h0 sb "java/lang/AbstractStringBuilder" "coder" "B" (iV 0)) (Bn : Fld Z h0 sb "java/lang/AbstractStringBuilder" "count" "I" (.int cn)) (Ba : Arv Z h0 va kv .byte zb vs (iV 0)) (hC : Cor vs rs cn zb 160) (O2 : Sta Z Z.heap "java/lang/String" "COMPACT_STRINGS" "Z" (.int G1)) (P5 : ¬ (G1 = (0 : Int32))) (X00 : Old Z n0 h0) :
  MetFree l yM28 (head1 (Jvm.Cond.code yM28 jdk_42_method_53_code 2 none :: ws) ({ frames := 4, cells := 1, slots := 160, locals := 100 } : Room)) (fun a U => a = #[(.ref a1), (.ref sb)] ∧ Z.Warmed39 U.vm ∧ U.heap = h0) (fun _ _ _ _ _ => True) (fun _ U o U' => ∃ v L, o = .returned v ∧ (Q_ins1 Z a1 sb va kv zb vs cn rs c9 G1 h0 n0) v U'.heap L ∧ FrameEnd U o U' L ({ frames := 4, cells := 1, slots := 160, locals := 100 } : Room).cells ({ frames := 4, cells := 1, slots := 160, locals := 100 } : Room).slots) := by
 refine MetFree.of_bodySF (plainFor_of_name pn_1) hisR ?_
 intro p e s m args below meth c s₁ Bd hml0 hP hK
 obtain ⟨rfl, hZ, hHp⟩ := hP
 have hx := Bd.exec
 have D := fun {pc : Nat} {r} (h : decode _ pc = r) => hb Bd.bytes h
 have hml : c.maxLocals = 2 := hml0
 have hown : s.vm.findClass "java/lang/String" = some m.cls := findClass_of_methodNamed Bd.named
 have hnm := (name_of_methodNamed Bd.named Bd.method).1
 have X0 : Stand p l e ({ frames := 4, cells := 1, slots := 160, locals := 100 } : Room) s m #[(.ref a1), (.ref sb)] below meth c s₁ [] 0 0 := Stand.of_body Bd
 have e0 : s₁.heap = h0 := by rw [← hHp, Bd.state]; rfl
 have N0 := Fr.nil n0
 refine ownOut (P := (Q_ins1 Z a1 sb va kv zb vs cn rs c9 G1 h0 n0)) ?_
 refine ownBy (A := s₁.setTop (mkF m 0 #[vR a1, vR sb] [])) (fun t k => castTop (ef_ins1 m a1 sb) k) ?_
 have nsv : sb ≠ va := Exa.neArv Eb Ba (Wd45 hw)
 have n1s : a1 ≠ sb := own_exa_ne E1 Eb (by decide)
 have n1v : a1 ≠ va := Exa.neArv E1 Ba (Wd5 hw)
 refine oTo s₁ (mkF m 3 #[vR a1, vR sb] [.null, (.ref sb), (.ref a1)]) (fun t kt => ?_) ?_
 ·refine XS.aloadN X0.here hx rfl (D d27_0) rfl rfl ?_
  refine XS.aloadN X0.here hx rfl (D d27_1) rfl rfl ?_
  refine XS.aconstNull X0.here hx rfl (D d27_2) ?_
  exact kt
 obtain ⟨vv21, _, ⟨T21, L21, k21, n21⟩, -, X21, ⟨Lc21, hQ21, l21, y21, z21⟩, st21⟩ := X0.specialBack hx (y := yM27) rfl hown (mvT hZ (Wd147 hw)) (mvT hZ (Wd148 hw)) (mvT hZ (Wd149 hw)) (by decide) (backOf (W := 0) (c_ins2 l Z a0 hw [] a1 sb va kv zb vs cn rs _ G1 h0 n0 Z0 E1 F1 F2 g1 Eb Bv Bc Bn Ba hC O2 P5 X00) hZ (Wd149 hw) (Wd6 hw) (by decide) (by decide)) (g := (mkF m 3 #[vR a1, vR sb] [.null, (.ref sb), (.ref a1)])) rfl (by rw [hml]; rfl) (Steps.refl _) (a := a1) (argsL := [(.ref sb), .null]) (rest := []) (lenOf pd_25 rfl) rfl (oWt rfl) (D d27_3) (fun _ _ => ⟨rfl, e0, oLe rfl, oLe rfl⟩)
 dsimp only [Pt.U, Pt.locs, Pt.cells, Pt.slots] at X21 l21 y21 z21 st21 hQ21
 subst l21 y21 z21
 obtain ⟨rfl, Nq21, Kq21, t21, kn21, zq21, Eq21, Vq21, Cq21, Aq21⟩ := hQ21
 have ne22 : sb ≠ t21 := Nat.ne_of_lt (Nat.lt_of_lt_of_le Eb.lt zq21)
 have ne23 : va ≠ t21 := Nat.ne_of_lt (Nat.lt_of_lt_of_le Ba.lt zq21)
 have ne24 : a1 ≠ t21 := Nat.ne_of_lt (Nat.lt_of_lt_of_le E1.lt zq21)
 have g25 : n0 ≤ t21 := Nat.le_trans Z0 zq21
 have z26 : h0.size ≤ t21 := Nat.le_trans (Nat.le_refl h0.size) zq21
 have N27 := Fr.app N0 Nq21
 obtain ⟨Lh28, Xh28, Nh28⟩ := oHd 1 160 X21 N27 rfl rfl
 refine ownSt st21 ?_
 clear st21
 show oA p e below _ T21 (mkF m 6 #[vR a1, vR sb] [])
 have f29 := ((Keep.refl h0 [a1]).trans Kq21 (allS (Or.inl (List.mem_of_getElem? (i := 0) rfl)) all0))
 refine ownRet Xh28 Bd.notSynchronized (v := none) (fun _ => rfl) ?_ (oLe rfl) (oLe rfl) (fun fs hr => Xh28.returnOut hx Bd.returns (D d27_6) hr)
 show (Q_ins1 Z a1 sb va kv zb vs cn rs c9 G1 h0 n0) (none) T21.heap _
 exact ⟨rfl, Nh28, f29, t21, kn21, z26, Eq21, Vq21, Cq21, Aq21⟩
abbrev fr_sts (m : MethodId) (sb : Addr) (pc : Nat)  (st : List Value) : JFrame := mkF m pc #[vR sb] st
def Q_sts (Z : State) (sb : Addr) (va : Addr) (kv : ClassId) (zb : Int32) (vs : List Value) (cn : Int32) (rs : List Value) (G1 : Int32) (h0 : Heap) (n0 : Nat) (v : Option Value) (h : Heap) (L : List Loc) : Prop := ∃ (xn tn : Addr) (kn : ClassId), v = some (.ref xn) ∧ Fr n0 L ∧ Keep h0 h [] ∧ h0.size ≤ xn ∧ h0.size ≤ tn ∧ Exa Z h xn "java/lang/String" ∧ Fld Z h xn "java/lang/String" "value" "[B" (.ref tn) ∧ Fld Z h xn "java/lang/String" "coder" "B" (iV 0) ∧ Arv Z h tn kn .byte cn rs (iV 0)
theorem ef_sts (m : MethodId) (x0 : Addr)  : entryFrame m #[(.ref x0)] 1 = mkF m 0 #[vR x0] [] := by first | (simp [entryFrame, mkF, argsToLocals, Value.category]; done) | rfl
set_option maxRecDepth 65536 in
set_option maxHeartbeats 40000000 in
theorem c_sts (l : Launch) (Z : State) (a0 : Array Value) (hw : HW a0 Z) (ws : List Jvm.Cond) (sb : Addr) (va : Addr) (kv : ClassId) (zb : Int32) (vs : List Value) (cn : Int32) (rs : List Value) (G1 : Int32) (h0 : Heap) (n0 : Nat) (Z0 : n0 ≤ h0.size) (Eb : Exa Z h0 sb "java/lang/StringBuilder") (Bv : Fld Z h0 sb "java/lang/AbstractStringBuilder" "value" "[B" (.ref va)) (Bc : Fld Z h0 sb "java/lang/AbstractStringBuilder" "coder" "B" (iV 0)) (Bn : Fld Z h0 sb "java/lang/AbstractStringBuilder" "count" "I" (.int cn)) (Ba : Arv Z h0 va kv .byte zb vs (iV 0)) (hC : Cor vs rs cn zb 160) (O2 : Sta Z Z.heap "java/lang/String" "COMPACT_STRINGS" "Z" (.int G1)) (P5 : ¬ (G1 = (0 : Int32))) (X00 : Old Z n0 h0) :
  MetFree l yM29 (head1 (Jvm.Cond.code yM29 jdk_67_method_42_code 1 (some (.object "java/lang/String")) :: ws) ({ frames := 5, cells := 2, slots := 164, locals := 120 } : Room)) (fun a U => a = #[(.ref sb)] ∧ Z.Warmed39 U.vm ∧ U.heap = h0) (fun _ _ _ _ _ => True) (fun _ U o U' => ∃ v L, o = .returned v ∧ (Q_sts Z sb va kv zb vs cn rs G1 h0 n0) v U'.heap L ∧ FrameEnd U o U' L ({ frames := 5, cells := 2, slots := 164, locals := 120 } : Room).cells ({ frames := 5, cells := 2, slots := 164, locals := 120 } : Room).slots) := by
 refine MetFree.of_bodySF (plainFor_of_name pn_10) hisR ?_
 intro p e s m args below meth c s₁ Bd hml0 hP hK
 obtain ⟨rfl, hZ, hHp⟩ := hP
 have hx := Bd.exec
 have D := fun {pc : Nat} {r} (h : decode _ pc = r) => hb Bd.bytes h
 have hml : c.maxLocals = 1 := hml0
 have hown : s.vm.findClass "java/lang/StringBuilder" = some m.cls := findClass_of_methodNamed Bd.named
 have hnm := (name_of_methodNamed Bd.named Bd.method).1
 have X0 : Stand p l e ({ frames := 5, cells := 2, slots := 164, locals := 120 } : Room) s m #[(.ref sb)] below meth c s₁ [] 0 0 := Stand.of_body Bd
 have e0 : s₁.heap = h0 := by rw [← hHp, Bd.state]; rfl
 have N0 := Fr.nil n0
 refine ownOut (P := (Q_sts Z sb va kv zb vs cn rs G1 h0 n0)) ?_
 refine ownBy (A := s₁.setTop (mkF m 0 #[vR sb] [])) (fun t k => castTop (ef_sts m sb) k) ?_
 have nsv : sb ≠ va := Exa.neArv Eb Ba (Wd45 hw)
 obtain ⟨T21, h21, X21, e21, E21, A21, D21, -, st21⟩ := newO X0 hx hZ hown (Wd143 hw) (Wd5 hw) (Wd6 hw) e0 (g := (fr_sts m sb 0  [])) rfl (D d26_0) (by decide) (by decide)
 obtain ⟨b21, g21⟩ : ∃ z, z = h0.size := ⟨_, rfl⟩
 rw [← g21] at A21 D21 st21
 have ne22 : sb ≠ b21 := Nat.ne_of_lt (Nat.lt_of_lt_of_le Eb.lt (Nat.le_of_eq g21.symm))
 have ne23 : va ≠ b21 := Nat.ne_of_lt (Nat.lt_of_lt_of_le Ba.lt (Nat.le_of_eq g21.symm))
 have g24 : n0 ≤ b21 := Nat.le_trans Z0 (Nat.le_of_eq g21.symm)
 have z25 : h0.size ≤ b21 := Nat.le_trans (Nat.le_refl h0.size) (Nat.le_of_eq g21.symm)
 have F26 : Fld Z h21 b21 "java/lang/String" "coder" "B" (iV 0) := D21 (Or.inr (Wd34 hw)) (ty := .byte) (by decide)
 have F27 : Fld Z h21 b21 "java/lang/String" "value" "[B" .null := D21 (Or.inr (Wd36 hw)) (ty := (.array .byte)) (by decide)
 refine ownBy st21 ?_
 clear st21
 show oA p e below _ T21 (fr_sts m sb 3  [(.ref b21)])
 refine oTo T21 (fr_sts m sb 5  [(.ref sb), (.ref b21), (.ref b21)]) (fun t kt => ?_) ?_
 ·refine XS.dup X21.here hx rfl (D d26_3) rfl rfl ?_
  refine XS.aloadN X21.here hx rfl (D d26_4) rfl rfl ?_
  exact kt
 have f28 := (Eb.ext E21)
 have f29 := (Bv.ext E21)
 have f30 := (Bc.ext E21)
 have f31 := (Bn.ext E21)
 have f32 := (Ba.ext E21)
 have f33 := (X00.ext E21)
 have f34 := (Nat.le_trans Z0 E21.1)
 obtain ⟨vv35, _, ⟨T35, L35, k35, n35⟩, -, X35, ⟨Lc35, hQ35, l35, y35, z35⟩, st35⟩ := X21.specialBack hx (y := yM28) rfl hown (mvT hZ (Wd144 hw)) (mvT hZ (Wd145 hw)) (mvT hZ (Wd146 hw)) (by decide) (backOf (W := 1) (c_ins1 l Z a0 hw [] b21 sb va kv zb vs cn rs _ G1 h21 n0 f34 A21 F27 F26 g24 f28 f29 f30 f31 f32 hC O2 P5 f33) hZ (Wd146 hw) (Wd6 hw) (by decide) (by decide)) (g := (fr_sts m sb 5  [(.ref sb), (.ref b21), (.ref b21)])) rfl (by rw [hml]; rfl) (Steps.refl _) (a := b21) (argsL := [(.ref sb)]) (rest := [(.ref b21)]) (lenOf pd_26 rfl) rfl (oWt rfl) (D d26_5) (fun _ _ => ⟨rfl, e21, oLe rfl, oLe rfl⟩)
 dsimp only [Pt.U, Pt.locs, Pt.cells, Pt.slots] at X35 l35 y35 z35 st35 hQ35
 subst l35 y35 z35
 obtain ⟨rfl, Nq35, Kq35, t35, kn35, zq35, Eq35, Vq35, Cq35, Aq35⟩ := hQ35
 have ne36 : sb ≠ t35 := Nat.ne_of_lt (Nat.lt_of_lt_of_le f28.lt zq35)
 have ne37 : va ≠ t35 := Nat.ne_of_lt (Nat.lt_of_lt_of_le f32.lt zq35)
 have ne38 : b21 ≠ t35 := Nat.ne_of_lt (Nat.lt_of_lt_of_le A21.lt zq35)
 have g39 : n0 ≤ t35 := Nat.le_trans f34 zq35
 have f41 := (Nat.le_trans (Nat.le_refl h0.size) E21.1)
 have z40 : h0.size ≤ t35 := Nat.le_trans f41 zq35
 have N42 := Fr.app N0 Nq35
 obtain ⟨Lh43, Xh43, Nh43⟩ := oHd 2 164 X35 N42 rfl rfl
 refine ownSt st35 ?_
 clear st35
 show oA p e below _ T35 (fr_sts m sb 8  [(.ref b21)])
 have f44 := (((Keep.refl h0 []).ext E21).trans Kq35 (allS (Or.inr z25) all0))
 refine ownRet Xh43 Bd.notSynchronized (v := some (.ref b21)) (fun h => by rw [Bd.returns] at h; cases h) ?_ (oLe rfl) (oLe rfl) (fun fs hr => retOut Xh43 hx Bd.returns rfl (Or.inr (Or.inr (Or.inr (Or.inr ⟨rfl, rfl, rfl⟩)))) (D d26_8) hr)
 show (Q_sts Z sb va kv zb vs cn rs G1 h0 n0) (some (.ref b21)) T35.heap _
 exact ⟨b21, t35, kn35, rfl, Nh43, f44, z25, z40, Eq35, Vq35, Cq35, Aq35⟩
def Q_bleE (Z : State) (sb : Addr) (va : Addr) (kv : ClassId) (zb : Int32) (vs : List Value) (G1 : Int32) (h0 : Heap) (n0 : Nat) (v : Option Value) (h : Heap) (L : List Loc) : Prop := v = some (.int zb) ∧ Fr n0 L ∧ h = h0
theorem ef_bleE (m : MethodId) (x0 : Addr)  : entryFrame m #[(.ref x0)] 1 = mkF m 0 #[vR x0] [] := by first | (simp [entryFrame, mkF, argsToLocals, Value.category]; done) | rfl
set_option maxRecDepth 65536 in
set_option maxHeartbeats 40000000 in
theorem c_bleE (l : Launch) (Z : State) (a0 : Array Value) (hw : HW a0 Z) (ws : List Jvm.Cond) (sb : Addr) (va : Addr) (kv : ClassId) (zb : Int32) (vs : List Value) (G1 : Int32) (h0 : Heap) (n0 : Nat) (Z0 : n0 ≤ h0.size) (Eb : Exa Z h0 sb "java/lang/StringBuilder") (Bv : Fld Z h0 sb "java/lang/AbstractStringBuilder" "value" "[B" (.ref va)) (Bc : Fld Z h0 sb "java/lang/AbstractStringBuilder" "coder" "B" (iV 0)) (Bn : Fld Z h0 sb "java/lang/AbstractStringBuilder" "count" "I" (.int zb)) (Ba : Arv Z h0 va kv .byte zb vs (iV 0)) (Ea : Exa Z h0 va "[B") (O2 : Sta Z Z.heap "java/lang/String" "COMPACT_STRINGS" "Z" (.int G1)) (P5 : ¬ (G1 = (0 : Int32))) (X00 : Old Z n0 h0) :
  MetFree l yM22 (head1 (Jvm.Cond.code yM22 jdk_68_method_6_code 1 (some .int) :: ws) ({ frames := 0, cells := 0, slots := 0, locals := 0 } : Room)) (fun a U => a = #[(.ref sb)] ∧ Z.Warmed39 U.vm ∧ U.heap = h0) (fun _ _ _ _ _ => True) (fun _ U o U' => ∃ v L, o = .returned v ∧ (Q_bleE Z sb va kv zb vs G1 h0 n0) v U'.heap L ∧ FrameEnd U o U' L ({ frames := 0, cells := 0, slots := 0, locals := 0 } : Room).cells ({ frames := 0, cells := 0, slots := 0, locals := 0 } : Room).slots) := by
 refine MetFree.of_bodySF (plainFor_of_name pn_9) hisR ?_
 intro p e s m args below meth c s₁ Bd hml0 hP hK
 obtain ⟨rfl, hZ, hHp⟩ := hP
 have hx := Bd.exec
 have D := fun {pc : Nat} {r} (h : decode _ pc = r) => hb Bd.bytes h
 have hml : c.maxLocals = 1 := hml0
 have hown : s.vm.findClass "java/lang/AbstractStringBuilder" = some m.cls := findClass_of_methodNamed Bd.named
 have hnm := (name_of_methodNamed Bd.named Bd.method).1
 have X0 : Stand p l e ({ frames := 0, cells := 0, slots := 0, locals := 0 } : Room) s m #[(.ref sb)] below meth c s₁ [] 0 0 := Stand.of_body Bd
 have e0 : s₁.heap = h0 := by rw [← hHp, Bd.state]; rfl
 have N0 := Fr.nil n0
 refine ownOut (P := (Q_bleE Z sb va kv zb vs G1 h0 n0)) ?_
 refine ownBy (A := s₁.setTop (mkF m 0 #[vR sb] [])) (fun t k => castTop (ef_bleE m sb) k) ?_
 have nsv : sb ≠ va := Exa.neArv Eb Ba (Wd45 hw)
 refine oTo s₁ (mkF m 1 #[vR sb] [(.ref sb)]) (fun t kt => ?_) ?_
 ·refine XS.aloadN X0.here hx rfl (D d31_0) rfl rfl ?_
  exact kt
 refine own_getF X0 hx hZ hown (host := "") (Or.inl (Wd82 hw)) Via.refl e0 Bn (D d31_1) (fun T21 X21 e21 => ?_)
 refine ownRet X21 Bd.notSynchronized (v := some (.int zb)) (fun h => by rw [Bd.returns] at h; cases h) ?_ (oLe rfl) (oLe rfl) (fun fs hr => retI X21 hx Bd.returns (D d31_4) hr)
 show (Q_bleE Z sb va kv zb vs G1 h0 n0) (some (.int zb)) T21.heap _
 rw [e21]
 exact ⟨rfl, N0, rfl⟩
def Q_gtvE (Z : State) (sb : Addr) (va : Addr) (kv : ClassId) (zb : Int32) (vs : List Value) (G1 : Int32) (h0 : Heap) (n0 : Nat) (v : Option Value) (h : Heap) (L : List Loc) : Prop := v = some (.ref va) ∧ Fr n0 L ∧ h = h0
theorem ef_gtvE (m : MethodId) (x0 : Addr)  : entryFrame m #[(.ref x0)] 1 = mkF m 0 #[vR x0] [] := by first | (simp [entryFrame, mkF, argsToLocals, Value.category]; done) | rfl
set_option maxRecDepth 65536 in
set_option maxHeartbeats 40000000 in
theorem c_gtvE (l : Launch) (Z : State) (a0 : Array Value) (hw : HW a0 Z) (ws : List Jvm.Cond) (sb : Addr) (va : Addr) (kv : ClassId) (zb : Int32) (vs : List Value) (G1 : Int32) (h0 : Heap) (n0 : Nat) (Z0 : n0 ≤ h0.size) (Eb : Exa Z h0 sb "java/lang/StringBuilder") (Bv : Fld Z h0 sb "java/lang/AbstractStringBuilder" "value" "[B" (.ref va)) (Bc : Fld Z h0 sb "java/lang/AbstractStringBuilder" "coder" "B" (iV 0)) (Bn : Fld Z h0 sb "java/lang/AbstractStringBuilder" "count" "I" (.int zb)) (Ba : Arv Z h0 va kv .byte zb vs (iV 0)) (Ea : Exa Z h0 va "[B") (O2 : Sta Z Z.heap "java/lang/String" "COMPACT_STRINGS" "Z" (.int G1)) (P5 : ¬ (G1 = (0 : Int32))) (X00 : Old Z n0 h0) :
  MetFree l yM21 (head1 (Jvm.Cond.code yM21 jdk_68_method_64_code 1 (some (.array .byte)) :: ws) ({ frames := 0, cells := 0, slots := 0, locals := 0 } : Room)) (fun a U => a = #[(.ref sb)] ∧ Z.Warmed39 U.vm ∧ U.heap = h0) (fun _ _ _ _ _ => True) (fun _ U o U' => ∃ v L, o = .returned v ∧ (Q_gtvE Z sb va kv zb vs G1 h0 n0) v U'.heap L ∧ FrameEnd U o U' L ({ frames := 0, cells := 0, slots := 0, locals := 0 } : Room).cells ({ frames := 0, cells := 0, slots := 0, locals := 0 } : Room).slots) := by
 refine MetFree.of_bodySF (plainFor_of_name pn_9) hisR ?_
 intro p e s m args below meth c s₁ Bd hml0 hP hK
 obtain ⟨rfl, hZ, hHp⟩ := hP
 have hx := Bd.exec
 have D := fun {pc : Nat} {r} (h : decode _ pc = r) => hb Bd.bytes h
 have hml : c.maxLocals = 1 := hml0
 have hown : s.vm.findClass "java/lang/AbstractStringBuilder" = some m.cls := findClass_of_methodNamed Bd.named
 have hnm := (name_of_methodNamed Bd.named Bd.method).1
 have X0 : Stand p l e ({ frames := 0, cells := 0, slots := 0, locals := 0 } : Room) s m #[(.ref sb)] below meth c s₁ [] 0 0 := Stand.of_body Bd
 have e0 : s₁.heap = h0 := by rw [← hHp, Bd.state]; rfl
 have N0 := Fr.nil n0
 refine ownOut (P := (Q_gtvE Z sb va kv zb vs G1 h0 n0)) ?_
 refine ownBy (A := s₁.setTop (mkF m 0 #[vR sb] [])) (fun t k => castTop (ef_gtvE m sb) k) ?_
 have nsv : sb ≠ va := Exa.neArv Eb Ba (Wd45 hw)
 refine oTo s₁ (mkF m 1 #[vR sb] [(.ref sb)]) (fun t kt => ?_) ?_
 ·refine XS.aloadN X0.here hx rfl (D d29_0) rfl rfl ?_
  exact kt
 refine own_getF X0 hx hZ hown (host := "") (Or.inl (Wd58 hw)) Via.refl e0 Bv (D d29_1) (fun T21 X21 e21 => ?_)
 refine ownRet X21 Bd.notSynchronized (v := some (.ref va)) (fun h => by rw [Bd.returns] at h; cases h) ?_ (oLe rfl) (oLe rfl) (fun fs hr => retOut X21 hx Bd.returns rfl (Or.inr (Or.inr (Or.inr (Or.inr ⟨rfl, rfl, rfl⟩)))) (D d29_4) hr)
 show (Q_gtvE Z sb va kv zb vs G1 h0 n0) (some (.ref va)) T21.heap _
 rw [e21]
 exact ⟨rfl, N0, rfl⟩
def Q_sleE (Z : State) (sb : Addr) (va : Addr) (kv : ClassId) (zb : Int32) (vs : List Value) (G1 : Int32) (h0 : Heap) (n0 : Nat) (v : Option Value) (h : Heap) (L : List Loc) : Prop := v = some (.int zb) ∧ Fr n0 L ∧ h = h0
theorem ef_sleE (m : MethodId) (x0 : Addr)  : entryFrame m #[(.ref x0)] 1 = mkF m 0 #[vR x0] [] := by first | (simp [entryFrame, mkF, argsToLocals, Value.category]; done) | rfl
set_option maxRecDepth 65536 in
set_option maxHeartbeats 40000000 in
theorem c_sleE (l : Launch) (Z : State) (a0 : Array Value) (hw : HW a0 Z) (ws : List Jvm.Cond) (sb : Addr) (va : Addr) (kv : ClassId) (zb : Int32) (vs : List Value) (G1 : Int32) (h0 : Heap) (n0 : Nat) (Z0 : n0 ≤ h0.size) (Eb : Exa Z h0 sb "java/lang/StringBuilder") (Bv : Fld Z h0 sb "java/lang/AbstractStringBuilder" "value" "[B" (.ref va)) (Bc : Fld Z h0 sb "java/lang/AbstractStringBuilder" "coder" "B" (iV 0)) (Bn : Fld Z h0 sb "java/lang/AbstractStringBuilder" "count" "I" (.int zb)) (Ba : Arv Z h0 va kv .byte zb vs (iV 0)) (Ea : Exa Z h0 va "[B") (O2 : Sta Z Z.heap "java/lang/String" "COMPACT_STRINGS" "Z" (.int G1)) (P5 : ¬ (G1 = (0 : Int32))) (X00 : Old Z n0 h0) :
  MetFree l yM23 (head1 (Jvm.Cond.code yM23 jdk_67_method_93_code 1 (some .int) :: ws) ({ frames := 1, cells := 0, slots := 0, locals := 12 } : Room)) (fun a U => a = #[(.ref sb)] ∧ Z.Warmed39 U.vm ∧ U.heap = h0) (fun _ _ _ _ _ => True) (fun _ U o U' => ∃ v L, o = .returned v ∧ (Q_sleE Z sb va kv zb vs G1 h0 n0) v U'.heap L ∧ FrameEnd U o U' L ({ frames := 1, cells := 0, slots := 0, locals := 12 } : Room).cells ({ frames := 1, cells := 0, slots := 0, locals := 12 } : Room).slots) := by
 refine MetFree.of_bodySF (plainFor_of_name pn_10) hisR ?_
 intro p e s m args below meth c s₁ Bd hml0 hP hK
 obtain ⟨rfl, hZ, hHp⟩ := hP
 have hx := Bd.exec
 have D := fun {pc : Nat} {r} (h : decode _ pc = r) => hb Bd.bytes h
 have hml : c.maxLocals = 1 := hml0
 have hown : s.vm.findClass "java/lang/StringBuilder" = some m.cls := findClass_of_methodNamed Bd.named
 have hnm := (name_of_methodNamed Bd.named Bd.method).1
 have X0 : Stand p l e ({ frames := 1, cells := 0, slots := 0, locals := 12 } : Room) s m #[(.ref sb)] below meth c s₁ [] 0 0 := Stand.of_body Bd
 have e0 : s₁.heap = h0 := by rw [← hHp, Bd.state]; rfl
 have N0 := Fr.nil n0
 refine ownOut (P := (Q_sleE Z sb va kv zb vs G1 h0 n0)) ?_
 refine ownBy (A := s₁.setTop (mkF m 0 #[vR sb] [])) (fun t k => castTop (ef_sleE m sb) k) ?_
 have nsv : sb ≠ va := Exa.neArv Eb Ba (Wd45 hw)
 refine oTo s₁ (mkF m 1 #[vR sb] [(.ref sb)]) (fun t kt => ?_) ?_
 ·refine XS.aloadN X0.here hx rfl (D d30_0) rfl rfl ?_
  exact kt
 obtain ⟨vv21, _, ⟨T21, L21, k21, n21⟩, -, X21, ⟨Lc21, hQ21, l21, y21, z21⟩, st21⟩ := superBack X0 hx hZ (y := yM22) hown (Wd161 hw) (own_same (Wd157 hw) (Wd87 hw) rfl (by decide)) (Wd157 hw) (Wd69 hw) (by decide) (backOf (W := 0) (c_bleE l Z a0 hw [] sb va kv zb vs G1 h0 n0 Z0 Eb Bv Bc Bn Ba Ea O2 P5 X00) hZ (Wd162 hw) (Wd54 hw) (by decide) (by decide)) e0 (Ins.self Eb) (g := (mkF m 1 #[vR sb] [(.ref sb)])) rfl (by rw [hml]; rfl) (Wd162 hw) (argsL := []) (rest := []) (lenOf pd_14 rfl) rfl (oWt rfl) (D d30_1) (fun _ _ => ⟨rfl, e0, oLe rfl, oLe rfl⟩)
 dsimp only [Pt.U, Pt.locs, Pt.cells, Pt.slots] at X21 l21 y21 z21 st21 hQ21
 subst l21 y21 z21
 obtain ⟨rfl, Nq21, Eq21⟩ := hQ21
 have N22 := Fr.app N0 Nq21
 obtain ⟨Lh23, Xh23, Nh23⟩ := oHd 0 0 X21 N22 rfl rfl
 refine ownSt st21 ?_
 clear st21
 show oA p e below _ T21 (mkF m 4 #[vR sb] [(.int zb)])
 refine ownRet Xh23 Bd.notSynchronized (v := some (.int zb)) (fun h => by rw [Bd.returns] at h; cases h) ?_ (oLe rfl) (oLe rfl) (fun fs hr => retI Xh23 hx Bd.returns (D d30_4) hr)
 show (Q_sleE Z sb va kv zb vs G1 h0 n0) (some (.int zb)) T21.heap _
 rw [Eq21]
 exact ⟨rfl, Nh23, rfl⟩
def Q_bilE (Z : State) (sb : Addr) (va : Addr) (kv : ClassId) (zb : Int32) (vs : List Value) (G1 : Int32) (h0 : Heap) (n0 : Nat) (v : Option Value) (h : Heap) (L : List Loc) : Prop := v = some (iV 1) ∧ Fr n0 L ∧ h = h0
theorem ef_bilE (m : MethodId) (x0 : Addr)  : entryFrame m #[(.ref x0)] 1 = mkF m 0 #[vR x0] [] := by first | (simp [entryFrame, mkF, argsToLocals, Value.category]; done) | rfl
set_option maxRecDepth 65536 in
set_option maxHeartbeats 40000000 in
theorem c_bilE (l : Launch) (Z : State) (a0 : Array Value) (hw : HW a0 Z) (ws : List Jvm.Cond) (sb : Addr) (va : Addr) (kv : ClassId) (zb : Int32) (vs : List Value) (G1 : Int32) (h0 : Heap) (n0 : Nat) (Z0 : n0 ≤ h0.size) (Eb : Exa Z h0 sb "java/lang/StringBuilder") (Bv : Fld Z h0 sb "java/lang/AbstractStringBuilder" "value" "[B" (.ref va)) (Bc : Fld Z h0 sb "java/lang/AbstractStringBuilder" "coder" "B" (iV 0)) (Bn : Fld Z h0 sb "java/lang/AbstractStringBuilder" "count" "I" (.int zb)) (Ba : Arv Z h0 va kv .byte zb vs (iV 0)) (Ea : Exa Z h0 va "[B") (O2 : Sta Z Z.heap "java/lang/String" "COMPACT_STRINGS" "Z" (.int G1)) (P5 : ¬ (G1 = (0 : Int32))) (X00 : Old Z n0 h0) :
  MetFree l yM15 (head1 (Jvm.Cond.code yM15 jdk_68_method_68_code 1 (some .boolean) :: ws) ({ frames := 0, cells := 0, slots := 0, locals := 0 } : Room)) (fun a U => a = #[(.ref sb)] ∧ Z.Warmed39 U.vm ∧ U.heap = h0) (fun _ _ _ _ _ => True) (fun _ U o U' => ∃ v L, o = .returned v ∧ (Q_bilE Z sb va kv zb vs G1 h0 n0) v U'.heap L ∧ FrameEnd U o U' L ({ frames := 0, cells := 0, slots := 0, locals := 0 } : Room).cells ({ frames := 0, cells := 0, slots := 0, locals := 0 } : Room).slots) := by
 refine MetFree.of_bodySF (plainFor_of_name pn_9) hisR ?_
 intro p e s m args below meth c s₁ Bd hml0 hP hK
 obtain ⟨rfl, hZ, hHp⟩ := hP
 have hx := Bd.exec
 have D := fun {pc : Nat} {r} (h : decode _ pc = r) => hb Bd.bytes h
 have hml : c.maxLocals = 1 := hml0
 have hown : s.vm.findClass "java/lang/AbstractStringBuilder" = some m.cls := findClass_of_methodNamed Bd.named
 have hnm := (name_of_methodNamed Bd.named Bd.method).1
 have X0 : Stand p l e ({ frames := 0, cells := 0, slots := 0, locals := 0 } : Room) s m #[(.ref sb)] below meth c s₁ [] 0 0 := Stand.of_body Bd
 have e0 : s₁.heap = h0 := by rw [← hHp, Bd.state]; rfl
 have N0 := Fr.nil n0
 refine ownOut (P := (Q_bilE Z sb va kv zb vs G1 h0 n0)) ?_
 refine ownBy (A := s₁.setTop (mkF m 0 #[vR sb] [])) (fun t k => castTop (ef_bilE m sb) k) ?_
 have nsv : sb ≠ va := Exa.neArv Eb Ba (Wd45 hw)
 refine own_getS X0 hx hZ hown (host := "") (Or.inl (Wd57 hw)) Via.refl e0 (O2.ext X00.2) (D d32_0) (fun T21 X21 e21 => ?_)
 refine oTo T21 (mkF m 7 #[vR sb] [(.ref sb)]) (fun t kt => ?_) ?_
 ·refine XS.ifNo X21.here hx rfl (D d32_3) rfl ((if0 _ _).trans (feq P5).1) ?_
  refine XS.aloadN X21.here hx rfl (D d32_6) rfl rfl ?_
  exact kt
 refine own_getF X21 hx hZ hown (host := "") (Or.inl (Wd60 hw)) Via.refl e21 Bc (D d32_7) (fun T22 X22 e22 => ?_)
 refine oTo T22 (mkF m 18 #[vR sb] [(iV 1)]) (fun t kt => ?_) ?_
 ·refine XS.ifNo X22.here hx rfl (D d32_10) rfl ((if0 _ _).trans (teq ((by decide) : (0 : Int32) = (0 : Int32))).2) ?_
  refine XS.iconst X22.here hx rfl (D d32_13) ?_
  refine XS.goto X22.here hx rfl (pc0 := 14) (pc' := 18) rfl (D d32_14) (by decide) (by decide) ?_
  exact kt
 refine ownRet X22 Bd.notSynchronized (v := some (.int (nar .boolean (1 : Int32)))) (fun h => by rw [Bd.returns] at h; cases h) ?_ (oLe rfl) (oLe rfl) (fun fs hr => retN X22 hx (t := .boolean) Bd.returns (by simp) (D d32_18) hr)
 show (Q_bilE Z sb va kv zb vs G1 h0 n0) (some (.int (nar .boolean (1 : Int32)))) T22.heap _
 rw [e22]
 exact ⟨rfl, N0, rfl⟩
abbrev fr_corE (m : MethodId) (va : Addr) (zb : Int32) (pc : Nat)  (st : List Value) : JFrame := mkF m pc #[vR va, vI 0, vI zb] st
def Q_corE (Z : State) (va : Addr) (kv : ClassId) (zb : Int32) (vs : List Value) (h0 : Heap) (n0 : Nat) (v : Option Value) (h : Heap) (L : List Loc) : Prop := ∃ (tn : Addr) (kn : ClassId), v = some (.ref tn) ∧ Fr n0 L ∧ Keep h0 h [] ∧ h0.size ≤ tn ∧ Arv Z h tn kn .byte zb vs (iV 0)
theorem ef_corE (m : MethodId) (x0 : Addr) (x1 : Int32) (x2 : Int32)  : entryFrame m #[(.ref x0), (.int x1), (.int x2)] 3 = mkF m 0 #[vR x0, vI x1, vI x2] [] := by first | (simp [entryFrame, mkF, argsToLocals, Value.category]; done) | rfl
set_option maxRecDepth 65536 in
set_option maxHeartbeats 40000000 in
theorem c_corE (l : Launch) (Z : State) (a0 : Array Value) (hw : HW a0 Z) (ws : List Jvm.Cond) (va : Addr) (kv : ClassId) (zb : Int32) (vs : List Value) (h0 : Heap) (n0 : Nat) (Z0 : n0 ≤ h0.size) (Ba : Arv Z h0 va kv .byte zb vs (iV 0)) (Ea : Exa Z h0 va "[B") (hcp : zb.toNatClampNeg ≤ 160) :
  MetFree l yM26 (head1 (Jvm.Cond.code yM26 jdk_65_method_132_code 3 (some (.array .byte)) :: ws) ({ frames := 1, cells := 1, slots := 160, locals := 40 } : Room)) (fun a U => a = #[(.ref va), (iV 0), (.int zb)] ∧ Z.Warmed39 U.vm ∧ U.heap = h0) (fun _ _ _ _ _ => True) (fun _ U o U' => ∃ v L, o = .returned v ∧ (Q_corE Z va kv zb vs h0 n0) v U'.heap L ∧ FrameEnd U o U' L ({ frames := 1, cells := 1, slots := 160, locals := 40 } : Room).cells ({ frames := 1, cells := 1, slots := 160, locals := 40 } : Room).slots) := by
 refine MetFree.of_bodySF (plainFor_of_name pn_20) hisR ?_
 intro p e s m args below meth c s₁ Bd hml0 hP hK
 obtain ⟨rfl, hZ, hHp⟩ := hP
 have hx := Bd.exec
 have D := fun {pc : Nat} {r} (h : decode _ pc = r) => hb Bd.bytes h
 have hml : c.maxLocals = 3 := hml0
 have hown : s.vm.findClass "java/util/Arrays" = some m.cls := findClass_of_methodNamed Bd.named
 have hnm := (name_of_methodNamed Bd.named Bd.method).1
 have X0 : Stand p l e ({ frames := 1, cells := 1, slots := 160, locals := 40 } : Room) s m #[(.ref va), (iV 0), (.int zb)] below meth c s₁ [] 0 0 := Stand.of_body Bd
 have e0 : s₁.heap = h0 := by rw [← hHp, Bd.state]; rfl
 have N0 := Fr.nil n0
 refine ownOut (P := (Q_corE Z va kv zb vs h0 n0)) ?_
 refine ownBy (A := s₁.setTop (mkF m 0 #[vR va, vI 0, vI zb] [])) (fun t k => castTop (ef_corE m va (0 : Int32) zb) k) ?_
 refine oTo s₁ (fr_corE m va zb 6  [(.ref va), (.int zb)]) (fun t kt => ?_) ?_
 ·refine XS.iloadN X0.here hx rfl (D d33_0) rfl ?_
  refine XS.ifNo X0.here hx rfl (D d33_1) rfl ((if0 _ _).trans (teq ((by decide) : (0 : Int32) = (0 : Int32))).2) ?_
  refine XS.iloadN X0.here hx rfl (D d33_4) rfl ?_
  refine XS.aloadN X0.here hx rfl (D d33_5) rfl rfl ?_
  exact kt
 obtain ⟨cl21, Ar21, -, S21, N21, -, -⟩ := id Ba
 have st21 := X0.arraylength hx (by rw [e0]; exact Ar21.1) (State.isArrayOf_alike hZ.alike Ar21.2.1) (g := (fr_corE m va zb 6  [(.ref va), (.int zb)])) rfl rfl (D d33_6)
 rw [len_of S21 N21] at st21
 refine ownBy st21 ?_
 show oA p e below _ s₁ (fr_corE m va zb 7  [(.int zb), (.int zb)])
 refine oTo s₁ (fr_corE m va zb 18  [(.ref va)]) (fun t kt => ?_) ?_
 ·refine XS.icmpYes X0.here hx rfl (pc0 := 7) (pc' := 17) rfl (D d33_7) rfl (teq (rfl : zb = zb)).1 (by decide) (by decide) ?_
  refine XS.aloadN X0.here hx rfl (D d33_17) rfl rfl ?_
  exact kt
 obtain ⟨T22, h22, X22, e22, E22, A22, Ex22, st22⟩ := cloneH X0 hx hZ hown (Wd177 hw) (Wd178 hw) (Wd182 hw) (Wd180 hw) (Wd181 hw) (Wd183 hw) e0 (Arv.arh Ba) Ea (g := (fr_corE m va zb 18  [(.ref va)])) rfl (by rw [hml]; rfl) rfl (D d33_18) (by decide) (W := 0) (oWt rfl) (by decide) (cap := 160) hcp (by decide) (by decide)
 obtain ⟨b22, g22⟩ : ∃ z, z = h0.size := ⟨_, rfl⟩
 rw [← g22] at A22 Ex22 st22
 have ne23 : va ≠ b22 := Nat.ne_of_lt (Nat.lt_of_lt_of_le Ba.lt (Nat.le_of_eq g22.symm))
 have g24 : n0 ≤ b22 := Nat.le_trans Z0 (Nat.le_of_eq g22.symm)
 have z25 : h0.size ≤ b22 := Nat.le_trans (Nat.le_refl h0.size) (Nat.le_of_eq g22.symm)
 have V22 : Arv Z h22 b22 kv .byte zb vs (iV 0) := A22
 refine ownBy st22 ?_
 clear st22
 show oA p e below _ T22 (fr_corE m va zb 21  [(.ref b22)])
 obtain ⟨T26, X26, e26, st26⟩ := castY X22 hx hZ hown (Wd184 hw) e22 (Ins.self Ex22) (g := (fr_corE m va zb 21  [(.ref b22)])) rfl rfl (D d33_21)
 refine ownBy st26 ?_
 clear st26
 show oA p e below _ T26 (fr_corE m va zb 24  [(.ref b22)])
 have f27 := ((Keep.refl h0 []).ext E22)
 refine ownRet X26 Bd.notSynchronized (v := some (.ref b22)) (fun h => by rw [Bd.returns] at h; cases h) ?_ (oLe rfl) (oLe rfl) (fun fs hr => retOut X26 hx Bd.returns rfl (Or.inr (Or.inr (Or.inr (Or.inr ⟨rfl, rfl, rfl⟩)))) (D d33_24) hr)
 show (Q_corE Z va kv zb vs h0 n0) (some (.ref b22)) T26.heap _
 rw [e26]
 exact ⟨b22, kv, rfl, N0, f27, z25, V22⟩
abbrev fr_ins2E (m : MethodId) (a1 : Addr) (sb : Addr) (pc : Nat) (x3_ x4_ : Slot) (st : List Value) : JFrame := mkF m pc #[vR a1, vR sb, .val .null, x3_, x4_] st
def Q_ins2E (Z : State) (a1 : Addr) (sb : Addr) (va : Addr) (kv : ClassId) (zb : Int32) (vs : List Value) (c9 : Value) (G1 : Int32) (h0 : Heap) (n0 : Nat) (v : Option Value) (h : Heap) (L : List Loc) : Prop := v = none ∧ Fr n0 L ∧ Keep h0 h [a1] ∧ ∃ (tn : Addr) (kn : ClassId), h0.size ≤ tn ∧ Exa Z h a1 "java/lang/String" ∧ Fld Z h a1 "java/lang/String" "value" "[B" (.ref tn) ∧ Fld Z h a1 "java/lang/String" "coder" "B" (iV 0) ∧ Arv Z h tn kn .byte zb vs (iV 0)
theorem ef_ins2E (m : MethodId) (x0 : Addr) (x1 : Addr)  : entryFrame m #[(.ref x0), (.ref x1), .null] 5 = mkF m 0 #[vR x0, vR x1, .val .null, .unset, .unset] [] := by first | (simp [entryFrame, mkF, argsToLocals, Value.category]; done) | rfl
set_option maxRecDepth 65536 in
set_option maxHeartbeats 40000000 in
theorem c_ins2E (l : Launch) (Z : State) (a0 : Array Value) (hw : HW a0 Z) (ws : List Jvm.Cond) (a1 : Addr) (sb : Addr) (va : Addr) (kv : ClassId) (zb : Int32) (vs : List Value) (c9 : Value) (G1 : Int32) (h0 : Heap) (n0 : Nat) (Z0 : n0 ≤ h0.size) (E1 : Exa Z h0 a1 "java/lang/String") (F1 : Fld Z h0 a1 "java/lang/String" "value" "[B" .null) (F2 : Fld Z h0 a1 "java/lang/String" "coder" "B" c9) (g1 : n0 ≤ a1) (Eb : Exa Z h0 sb "java/lang/StringBuilder") (Bv : Fld Z h0 sb "java/lang/AbstractStringBuilder" "value" "[B" (.ref va)) (Bc : Fld Z h0 sb "java/lang/AbstractStringBuilder" "coder" "B" (iV 0)) (Bn : Fld Z h0 sb "java/lang/AbstractStringBuilder" "count" "I" (.int zb)) (Ba : Arv Z h0 va kv .byte zb vs (iV 0)) (Ea : Exa Z h0 va "[B") (hcp : zb.toNatClampNeg ≤ 160) (O2 : Sta Z Z.heap "java/lang/String" "COMPACT_STRINGS" "Z" (.int G1)) (P5 : ¬ (G1 = (0 : Int32))) (X00 : Old Z n0 h0) :
  MetFree l yM27 (head1 (Jvm.Cond.code yM27 jdk_42_method_150_code 5 none :: ws) ({ frames := 3, cells := 1, slots := 160, locals := 80 } : Room)) (fun a U => a = #[(.ref a1), (.ref sb), .null] ∧ Z.Warmed39 U.vm ∧ U.heap = h0) (fun _ _ _ _ _ => True) (fun _ U o U' => ∃ v L, o = .returned v ∧ (Q_ins2E Z a1 sb va kv zb vs c9 G1 h0 n0) v U'.heap L ∧ FrameEnd U o U' L ({ frames := 3, cells := 1, slots := 160, locals := 80 } : Room).cells ({ frames := 3, cells := 1, slots := 160, locals := 80 } : Room).slots) := by
 refine MetFree.of_bodySF (plainFor_of_name pn_1) hisR ?_
 intro p e s m args below meth c s₁ Bd hml0 hP hK
 obtain ⟨rfl, hZ, hHp⟩ := hP
 have hx := Bd.exec
 have D := fun {pc : Nat} {r} (h : decode _ pc = r) => hb Bd.bytes h
 have hml : c.maxLocals = 5 := hml0
 have hown : s.vm.findClass "java/lang/String" = some m.cls := findClass_of_methodNamed Bd.named
 have hnm := (name_of_methodNamed Bd.named Bd.method).1
 have X0 : Stand p l e ({ frames := 3, cells := 1, slots := 160, locals := 80 } : Room) s m #[(.ref a1), (.ref sb), .null] below meth c s₁ [] 0 0 := Stand.of_body Bd
 have e0 : s₁.heap = h0 := by rw [← hHp, Bd.state]; rfl
 have N0 := Fr.nil n0
 refine ownOut (P := (Q_ins2E Z a1 sb va kv zb vs c9 G1 h0 n0)) ?_
 refine ownBy (A := s₁.setTop (mkF m 0 #[vR a1, vR sb, .val .null, .unset, .unset] [])) (fun t k => castTop (ef_ins2E m a1 sb) k) ?_
 have nsv : sb ≠ va := Exa.neArv Eb Ba (Wd45 hw)
 have n1s : a1 ≠ sb := own_exa_ne E1 Eb (by decide)
 have n1v : a1 ≠ va := Exa.neArv E1 Ba (Wd5 hw)
 refine oTo s₁ (fr_ins2E m a1 sb 1 .unset .unset [(.ref a1)]) (fun t kt => ?_) ?_
 ·refine XS.aloadN X0.here hx rfl (D d28_0) rfl rfl ?_
  exact kt
 obtain ⟨T21, X21, e21, st21⟩ := initO X0 hx hZ hown (Wd18 hw) (Wd19 hw) (Wd20 hw) e0 (g := (fr_ins2E m a1 sb 1 .unset .unset [(.ref a1)])) rfl (by rw [hml]; rfl) rfl (D d28_1) (by decide) (W := 0) (oWt rfl) (by decide)
 refine ownBy st21 ?_
 clear st21
 show oA p e below _ T21 (fr_ins2E m a1 sb 4 .unset .unset [])
 refine oTo T21 (fr_ins2E m a1 sb 5 .unset .unset [(.ref sb)]) (fun t kt => ?_) ?_
 ·refine XS.aloadN X21.here hx rfl (D d28_4) rfl rfl ?_
  exact kt
 obtain ⟨cq22, kq22, q22a, q22b, q22c⟩ := isOf hZ e21 Eb
 obtain ⟨vv22, _, ⟨T22, L22, k22, n22⟩, -, X22, ⟨Lc22, hQ22, l22, y22, z22⟩, st22⟩ := X21.virtualBack hx (y := yM21) (z := yM21) hown (mvT hZ (Wd150 hw)) (mvT hZ (Wd151 hw)) (oNf hZ (Wd153 hw)) (mvT hZ (Wd153 hw)) (mvT hZ (Wd152 hw)) (by decide) (backOf (W := 0) (c_gtvE l Z a0 hw [] sb va kv zb vs G1 h0 n0 Z0 Eb Bv Bc Bn Ba Ea O2 P5 X00) hZ (Wd154 hw) (Wd54 hw) (by decide) (by decide)) q22a q22c (g := (fr_ins2E m a1 sb 5 .unset .unset [(.ref sb)])) rfl (by rw [hml]; rfl) (Steps.refl _) (argsL := []) (rest := []) (lenOf pd_24 rfl) rfl (oWt rfl) (D d28_5) (fun _ _ => ⟨rfl, e21, oLe rfl, oLe rfl⟩)
 dsimp only [Pt.U, Pt.locs, Pt.cells, Pt.slots] at X22 l22 y22 z22 st22 hQ22
 subst l22 y22 z22
 obtain ⟨rfl, Nq22, Eq22⟩ := hQ22
 have N23 := Fr.app N0 Nq22
 obtain ⟨Lh24, Xh24, Nh24⟩ := oHd 0 0 X22 N23 rfl rfl
 refine ownSt st22 ?_
 clear st22
 show oA p e below _ T22 (fr_ins2E m a1 sb 8 .unset .unset [(.ref va)])
 refine oTo T22 (fr_ins2E m a1 sb 10 (vR va) .unset [(.ref sb)]) (fun t kt => ?_) ?_
 ·refine XS.astoreN Xh24.here hx rfl (D d28_8) rfl rfl (l' := #[vR a1, vR sb, .val .null, vR va, .unset]) rfl ?_
  refine XS.aloadN Xh24.here hx rfl (D d28_9) rfl rfl ?_
  exact kt
 obtain ⟨cq25, kq25, q25a, q25b, q25c⟩ := isOf hZ Eq22 Eb
 obtain ⟨vv25, _, ⟨T25, L25, k25, n25⟩, -, X25, ⟨Lc25, hQ25, l25, y25, z25⟩, st25⟩ := Xh24.virtualBack hx (y := yM22) (z := yM23) hown (mvT hZ (Wd155 hw)) (mvT hZ (Wd156 hw)) (own_nf (args := #[]) (mvT hZ (Wd87 hw)) rfl) (mvT hZ (Wd158 hw)) (mvT hZ (Wd159 hw)) (by decide) (backOf (W := 0) (c_sleE l Z a0 hw [] sb va kv zb vs G1 h0 n0 Z0 Eb Bv Bc Bn Ba Ea O2 P5 X00) hZ (Wd160 hw) (Wd46 hw) (by decide) (by decide)) q25a q25c (g := (fr_ins2E m a1 sb 10 (vR va) .unset [(.ref sb)])) rfl (by rw [hml]; rfl) (Steps.refl _) (argsL := []) (rest := []) (lenOf pd_14 rfl) rfl (oWt rfl) (D d28_10) (fun _ _ => ⟨rfl, Eq22, oLe rfl, oLe rfl⟩)
 dsimp only [Pt.U, Pt.locs, Pt.cells, Pt.slots] at X25 l25 y25 z25 st25 hQ25
 subst l25 y25 z25
 obtain ⟨rfl, Nq25, Eq25⟩ := hQ25
 have N26 := Fr.app Nh24 Nq25
 obtain ⟨Lh27, Xh27, Nh27⟩ := oHd 0 0 X25 N26 rfl rfl
 refine ownSt st25 ?_
 clear st25
 show oA p e below _ T25 (fr_ins2E m a1 sb 13 (vR va) .unset [(.int zb)])
 refine oTo T25 (fr_ins2E m a1 sb 16 (vR va) (vI zb) [(.ref sb)]) (fun t kt => ?_) ?_
 ·refine XS.istore Xh27.here hx rfl (D d28_13) rfl (l' := #[vR a1, vR sb, .val .null, vR va, vI zb]) rfl ?_
  refine XS.aloadN Xh27.here hx rfl (D d28_15) rfl rfl ?_
  exact kt
 obtain ⟨cq28, kq28, q28a, q28b, q28c⟩ := isOf hZ Eq25 Eb
 obtain ⟨vv28, _, ⟨T28, L28, k28, n28⟩, -, X28, ⟨Lc28, hQ28, l28, y28, z28⟩, st28⟩ := Xh27.virtualBack hx (y := yM15) (z := yM15) hown (mvT hZ (Wd163 hw)) (mvT hZ (Wd164 hw)) (oNf hZ (Wd166 hw)) (mvT hZ (Wd166 hw)) (mvT hZ (Wd165 hw)) (by decide) (backOf (W := 0) (c_bilE l Z a0 hw [] sb va kv zb vs G1 h0 n0 Z0 Eb Bv Bc Bn Ba Ea O2 P5 X00) hZ (Wd167 hw) (Wd54 hw) (by decide) (by decide)) q28a q28c (g := (fr_ins2E m a1 sb 16 (vR va) (vI zb) [(.ref sb)])) rfl (by rw [hml]; rfl) (Steps.refl _) (argsL := []) (rest := []) (lenOf pd_7 rfl) rfl (oWt rfl) (D d28_16) (fun _ _ => ⟨rfl, Eq25, oLe rfl, oLe rfl⟩)
 dsimp only [Pt.U, Pt.locs, Pt.cells, Pt.slots] at X28 l28 y28 z28 st28 hQ28
 subst l28 y28 z28
 obtain ⟨rfl, Nq28, Eq28⟩ := hQ28
 have N29 := Fr.app Nh27 Nq28
 obtain ⟨Lh30, Xh30, Nh30⟩ := oHd 0 0 X28 N29 rfl rfl
 refine ownSt st28 ?_
 clear st28
 show oA p e below _ T28 (fr_ins2E m a1 sb 19 (vR va) (vI zb) [(iV 1)])
 refine oTo T28 (fr_ins2E m a1 sb 24 (vR va) (vI zb) [(iV 0), (.ref a1)]) (fun t kt => ?_) ?_
 ·refine XS.ifNo Xh30.here hx rfl (D d28_19) rfl ((if0 _ _).trans (feq ((by decide) : ¬ ((1 : Int32) = (0 : Int32)))).1) ?_
  refine XS.aloadN Xh30.here hx rfl (D d28_22) rfl rfl ?_
  refine XS.iconst Xh30.here hx rfl (D d28_23) ?_
  exact kt
 obtain ⟨T31, h31, X31, e31, W31, st31⟩ := putFN Xh30 hx hZ hown (Wd33 hw) Via.refl Eq28 F2 E1 (Or.inr ⟨(Wd34 hw), rfl, hnm⟩) (Wd5 hw) (ty := .byte) (v' := (iV 0)) (by decide) rfl (fits_nar_byte (0 : Int32)) (g := (fr_ins2E m a1 sb 24 (vR va) (vI zb) [(iV 0), (.ref a1)])) rfl rfl (D d28_24)
 have F32 := F2.same W31
 have N33 := Fr.snoc X31 Nh30 g1
 obtain ⟨Lh34, Xh34, Nh34⟩ := oHd 0 0 X31 N33 rfl rfl
 refine ownBy st31 ?_
 clear st31
 show oA p e below _ T31 (fr_ins2E m a1 sb 27 (vR va) (vI zb) [])
 refine oTo T31 (fr_ins2E m a1 sb 32 (vR va) (vI zb) [(.int zb), (iV 0), (.ref va), (.ref a1)]) (fun t kt => ?_) ?_
 ·refine XS.aloadN Xh34.here hx rfl (D d28_27) rfl rfl ?_
  refine XS.aloadN Xh34.here hx rfl (D d28_28) rfl rfl ?_
  refine XS.iconst Xh34.here hx rfl (D d28_29) ?_
  refine XS.iload Xh34.here hx rfl (D d28_30) rfl ?_
  exact kt
 have f35 := (Ba.other W31 (Ne.symm n1v))
 have f36 := (Ea.wr W31)
 have f37 := (Nat.le_trans Z0 (Keep.of_wr W31).1)
 obtain ⟨vv38, _, ⟨T38, L38, k38, n38⟩, -, X38, ⟨Lc38, hQ38, l38, y38, z38⟩, st38⟩ := Jvm.LawKit.callS Xh34 hx (y := yM26) hown (mvT hZ (Wd168 hw)) (mvT hZ (Wd169 hw)) (mvT hZ (Wd127 hw)) (mvT hZ (Wd170 hw)) (by decide) (backOf (W := 1) (c_corE l Z a0 hw [] va kv zb vs h31 n0 f37 f35 f36 hcp) hZ (Wd170 hw) (Wd127 hw) (by decide) (by decide)) (g := (fr_ins2E m a1 sb 32 (vR va) (vI zb) [(.int zb), (iV 0), (.ref va), (.ref a1)])) rfl (by rw [hml]; rfl) (argsL := [(.ref va), (iV 0), (.int zb)]) (rest := [(.ref a1)]) (lenOf pd_23 rfl) rfl (oWt rfl) (D d28_32) (fun _ _ => ⟨rfl, e31, oLe rfl, oLe rfl⟩)
 dsimp only [Pt.U, Pt.locs, Pt.cells, Pt.slots] at X38 l38 y38 z38 st38 hQ38
 subst l38 y38 z38
 obtain ⟨t38, kn38, rfl, Nq38, Kq38, zq38, Aq38⟩ := hQ38
 have f40 := (Eb.wr W31)
 have ne39 : sb ≠ t38 := Nat.ne_of_lt (Nat.lt_of_lt_of_le f40.lt zq38)
 have ne41 : va ≠ t38 := Nat.ne_of_lt (Nat.lt_of_lt_of_le f35.lt zq38)
 have f43 := (E1.wr W31)
 have ne42 : a1 ≠ t38 := Nat.ne_of_lt (Nat.lt_of_lt_of_le f43.lt zq38)
 have g44 : n0 ≤ t38 := Nat.le_trans f37 zq38
 have f46 := (Nat.le_trans (Nat.le_refl h0.size) (Keep.of_wr W31).1)
 have z45 : h0.size ≤ t38 := Nat.le_trans f46 zq38
 have N47 := Fr.app Nh34 Nq38
 obtain ⟨Lh48, Xh48, Nh48⟩ := oHd 1 160 X38 N47 rfl rfl
 refine ownBy st38 ?_
 clear st38
 show oA p e below _ T38 (fr_ins2E m a1 sb 35 (vR va) (vI zb) [(.ref t38), (.ref a1)])
 have f50 := ((F1.other W31 (Or.inr (slot_ne (Or.inr (Wd36 hw)) (Or.inr (Wd34 hw)) (by decide) (t := (.array .byte)) (t' := .byte) (by decide) (by decide)))).keep Kq38 nin0)
 have f51 := (f43.keep Kq38)
 obtain ⟨T49, h49, X49, e49, W49, st49⟩ := putF Xh48 hx hZ hown (host := "") (Or.inl (Wd35 hw)) Via.refl rfl f50 f51 (Or.inr ⟨(Wd36 hw), rfl, hnm⟩) (Wd5 hw) (ty := (.array .byte)) (by decide) rfl rfl (g := (fr_ins2E m a1 sb 35 (vR va) (vI zb) [(.ref t38), (.ref a1)])) rfl rfl (D d28_35)
 have F52 := f50.same W49
 have N53 := Fr.snoc X49 Nh48 g1
 obtain ⟨Lh54, Xh54, Nh54⟩ := oHd 1 160 X49 N53 rfl rfl
 refine ownBy st49 ?_
 clear st49
 show oA p e below _ T49 (fr_ins2E m a1 sb 38 (vR va) (vI zb) [])
 refine oTo T49 (fr_ins2E m a1 sb 97 (vR va) (vI zb) []) (fun t kt => ?_) ?_
 ·refine XS.goto Xh54.here hx rfl (pc0 := 38) (pc' := 97) rfl (D d28_38) (by decide) (by decide) ?_
  exact kt
 have f55 := ((((Keep.refl h0 [a1]).wr W31 (Or.inl (List.mem_of_getElem? (i := 0) rfl))).trans Kq38 all0).wr W49 (Or.inl (List.mem_of_getElem? (i := 0) rfl)))
 have f56 := (f51.wr W49)
 have f57 := ((F32.keep Kq38 nin0).other W49 (Or.inr (slot_ne (Or.inr (Wd34 hw)) (Or.inr (Wd36 hw)) (by decide) (t := .byte) (t' := (.array .byte)) (by decide) (by decide))))
 have f58 := (Aq38.other W49 (Ne.symm ne42))
 refine ownRet Xh54 Bd.notSynchronized (v := none) (fun _ => rfl) ?_ (oLe rfl) (oLe rfl) (fun fs hr => Xh54.returnOut hx Bd.returns (D d28_97) hr)
 show (Q_ins2E Z a1 sb va kv zb vs c9 G1 h0 n0) (none) T49.heap _
 rw [e49]
 exact ⟨rfl, Nh54, f55, t38, kn38, z45, f56, F52, f57, f58⟩
def Q_ins1E (Z : State) (a1 : Addr) (sb : Addr) (va : Addr) (kv : ClassId) (zb : Int32) (vs : List Value) (c9 : Value) (G1 : Int32) (h0 : Heap) (n0 : Nat) (v : Option Value) (h : Heap) (L : List Loc) : Prop := v = none ∧ Fr n0 L ∧ Keep h0 h [a1] ∧ ∃ (tn : Addr) (kn : ClassId), h0.size ≤ tn ∧ Exa Z h a1 "java/lang/String" ∧ Fld Z h a1 "java/lang/String" "value" "[B" (.ref tn) ∧ Fld Z h a1 "java/lang/String" "coder" "B" (iV 0) ∧ Arv Z h tn kn .byte zb vs (iV 0)
theorem ef_ins1E (m : MethodId) (x0 : Addr) (x1 : Addr)  : entryFrame m #[(.ref x0), (.ref x1)] 2 = mkF m 0 #[vR x0, vR x1] [] := by first | (simp [entryFrame, mkF, argsToLocals, Value.category]; done) | rfl
set_option maxRecDepth 65536 in
set_option maxHeartbeats 40000000 in
theorem c_ins1E (l : Launch) (Z : State) (a0 : Array Value) (hw : HW a0 Z) (ws : List Jvm.Cond) (a1 : Addr) (sb : Addr) (va : Addr) (kv : ClassId) (zb : Int32) (vs : List Value) (c9 : Value) (G1 : Int32) (h0 : Heap) (n0 : Nat) (Z0 : n0 ≤ h0.size) (E1 : Exa Z h0 a1 "java/lang/String") (F1 : Fld Z h0 a1 "java/lang/String" "value" "[B" .null) (F2 : Fld Z h0 a1 "java/lang/String" "coder" "B" c9) (g1 : n0 ≤ a1) (Eb : Exa Z h0 sb "java/lang/StringBuilder") (Bv : Fld Z h0 sb "java/lang/AbstractStringBuilder" "value" "[B" (.ref va)) (Bc : Fld Z h0 sb "java/lang/AbstractStringBuilder" "coder" "B" (iV 0)) (Bn : Fld Z h0 sb "java/lang/AbstractStringBuilder" "count" "I" (.int zb)) (Ba : Arv Z h0 va kv .byte zb vs (iV 0)) (Ea : Exa Z h0 va "[B") (hcp : zb.toNatClampNeg ≤ 160) (O2 : Sta Z Z.heap "java/lang/String" "COMPACT_STRINGS" "Z" (.int G1)) (P5 : ¬ (G1 = (0 : Int32))) (X00 : Old Z n0 h0) :
  MetFree l yM28 (head1 (Jvm.Cond.code yM28 jdk_42_method_53_code 2 none :: ws) ({ frames := 4, cells := 1, slots := 160, locals := 100 } : Room)) (fun a U => a = #[(.ref a1), (.ref sb)] ∧ Z.Warmed39 U.vm ∧ U.heap = h0) (fun _ _ _ _ _ => True) (fun _ U o U' => ∃ v L, o = .returned v ∧ (Q_ins1E Z a1 sb va kv zb vs c9 G1 h0 n0) v U'.heap L ∧ FrameEnd U o U' L ({ frames := 4, cells := 1, slots := 160, locals := 100 } : Room).cells ({ frames := 4, cells := 1, slots := 160, locals := 100 } : Room).slots) := by
 refine MetFree.of_bodySF (plainFor_of_name pn_1) hisR ?_
 intro p e s m args below meth c s₁ Bd hml0 hP hK
 obtain ⟨rfl, hZ, hHp⟩ := hP
 have hx := Bd.exec
 have D := fun {pc : Nat} {r} (h : decode _ pc = r) => hb Bd.bytes h
 have hml : c.maxLocals = 2 := hml0
 have hown : s.vm.findClass "java/lang/String" = some m.cls := findClass_of_methodNamed Bd.named
 have hnm := (name_of_methodNamed Bd.named Bd.method).1
 have X0 : Stand p l e ({ frames := 4, cells := 1, slots := 160, locals := 100 } : Room) s m #[(.ref a1), (.ref sb)] below meth c s₁ [] 0 0 := Stand.of_body Bd
 have e0 : s₁.heap = h0 := by rw [← hHp, Bd.state]; rfl
 have N0 := Fr.nil n0
 refine ownOut (P := (Q_ins1E Z a1 sb va kv zb vs c9 G1 h0 n0)) ?_
 refine ownBy (A := s₁.setTop (mkF m 0 #[vR a1, vR sb] [])) (fun t k => castTop (ef_ins1E m a1 sb) k) ?_
 have nsv : sb ≠ va := Exa.neArv Eb Ba (Wd45 hw)
 have n1s : a1 ≠ sb := own_exa_ne E1 Eb (by decide)
 have n1v : a1 ≠ va := Exa.neArv E1 Ba (Wd5 hw)
 refine oTo s₁ (mkF m 3 #[vR a1, vR sb] [.null, (.ref sb), (.ref a1)]) (fun t kt => ?_) ?_
 ·refine XS.aloadN X0.here hx rfl (D d27_0) rfl rfl ?_
  refine XS.aloadN X0.here hx rfl (D d27_1) rfl rfl ?_
  refine XS.aconstNull X0.here hx rfl (D d27_2) ?_
  exact kt
 obtain ⟨vv21, _, ⟨T21, L21, k21, n21⟩, -, X21, ⟨Lc21, hQ21, l21, y21, z21⟩, st21⟩ := X0.specialBack hx (y := yM27) rfl hown (mvT hZ (Wd147 hw)) (mvT hZ (Wd148 hw)) (mvT hZ (Wd149 hw)) (by decide) (backOf (W := 0) (c_ins2E l Z a0 hw [] a1 sb va kv zb vs _ G1 h0 n0 Z0 E1 F1 F2 g1 Eb Bv Bc Bn Ba Ea hcp O2 P5 X00) hZ (Wd149 hw) (Wd6 hw) (by decide) (by decide)) (g := (mkF m 3 #[vR a1, vR sb] [.null, (.ref sb), (.ref a1)])) rfl (by rw [hml]; rfl) (Steps.refl _) (a := a1) (argsL := [(.ref sb), .null]) (rest := []) (lenOf pd_25 rfl) rfl (oWt rfl) (D d27_3) (fun _ _ => ⟨rfl, e0, oLe rfl, oLe rfl⟩)
 dsimp only [Pt.U, Pt.locs, Pt.cells, Pt.slots] at X21 l21 y21 z21 st21 hQ21
 subst l21 y21 z21
 obtain ⟨rfl, Nq21, Kq21, t21, kn21, zq21, Eq21, Vq21, Cq21, Aq21⟩ := hQ21
 have ne22 : sb ≠ t21 := Nat.ne_of_lt (Nat.lt_of_lt_of_le Eb.lt zq21)
 have ne23 : va ≠ t21 := Nat.ne_of_lt (Nat.lt_of_lt_of_le Ba.lt zq21)
 have ne24 : a1 ≠ t21 := Nat.ne_of_lt (Nat.lt_of_lt_of_le E1.lt zq21)
 have g25 : n0 ≤ t21 := Nat.le_trans Z0 zq21
 have z26 : h0.size ≤ t21 := Nat.le_trans (Nat.le_refl h0.size) zq21
 have N27 := Fr.app N0 Nq21
 obtain ⟨Lh28, Xh28, Nh28⟩ := oHd 1 160 X21 N27 rfl rfl
 refine ownSt st21 ?_
 clear st21
 show oA p e below _ T21 (mkF m 6 #[vR a1, vR sb] [])
 have f29 := ((Keep.refl h0 [a1]).trans Kq21 (allS (Or.inl (List.mem_of_getElem? (i := 0) rfl)) all0))
 refine ownRet Xh28 Bd.notSynchronized (v := none) (fun _ => rfl) ?_ (oLe rfl) (oLe rfl) (fun fs hr => Xh28.returnOut hx Bd.returns (D d27_6) hr)
 show (Q_ins1E Z a1 sb va kv zb vs c9 G1 h0 n0) (none) T21.heap _
 exact ⟨rfl, Nh28, f29, t21, kn21, z26, Eq21, Vq21, Cq21, Aq21⟩
abbrev fr_stsE (m : MethodId) (sb : Addr) (pc : Nat)  (st : List Value) : JFrame := mkF m pc #[vR sb] st
def Q_stsE (Z : State) (sb : Addr) (va : Addr) (kv : ClassId) (zb : Int32) (vs : List Value) (G1 : Int32) (h0 : Heap) (n0 : Nat) (v : Option Value) (h : Heap) (L : List Loc) : Prop := ∃ (xn tn : Addr) (kn : ClassId), v = some (.ref xn) ∧ Fr n0 L ∧ Keep h0 h [] ∧ h0.size ≤ xn ∧ h0.size ≤ tn ∧ Exa Z h xn "java/lang/String" ∧ Fld Z h xn "java/lang/String" "value" "[B" (.ref tn) ∧ Fld Z h xn "java/lang/String" "coder" "B" (iV 0) ∧ Arv Z h tn kn .byte zb vs (iV 0)
theorem ef_stsE (m : MethodId) (x0 : Addr)  : entryFrame m #[(.ref x0)] 1 = mkF m 0 #[vR x0] [] := by first | (simp [entryFrame, mkF, argsToLocals, Value.category]; done) | rfl
set_option maxRecDepth 65536 in
set_option maxHeartbeats 40000000 in
theorem c_stsE (l : Launch) (Z : State) (a0 : Array Value) (hw : HW a0 Z) (ws : List Jvm.Cond) (sb : Addr) (va : Addr) (kv : ClassId) (zb : Int32) (vs : List Value) (G1 : Int32) (h0 : Heap) (n0 : Nat) (Z0 : n0 ≤ h0.size) (Eb : Exa Z h0 sb "java/lang/StringBuilder") (Bv : Fld Z h0 sb "java/lang/AbstractStringBuilder" "value" "[B" (.ref va)) (Bc : Fld Z h0 sb "java/lang/AbstractStringBuilder" "coder" "B" (iV 0)) (Bn : Fld Z h0 sb "java/lang/AbstractStringBuilder" "count" "I" (.int zb)) (Ba : Arv Z h0 va kv .byte zb vs (iV 0)) (Ea : Exa Z h0 va "[B") (hcp : zb.toNatClampNeg ≤ 160) (O2 : Sta Z Z.heap "java/lang/String" "COMPACT_STRINGS" "Z" (.int G1)) (P5 : ¬ (G1 = (0 : Int32))) (X00 : Old Z n0 h0) :
  MetFree l yM29 (head1 (Jvm.Cond.code yM29 jdk_67_method_42_code 1 (some (.object "java/lang/String")) :: ws) ({ frames := 5, cells := 2, slots := 164, locals := 120 } : Room)) (fun a U => a = #[(.ref sb)] ∧ Z.Warmed39 U.vm ∧ U.heap = h0) (fun _ _ _ _ _ => True) (fun _ U o U' => ∃ v L, o = .returned v ∧ (Q_stsE Z sb va kv zb vs G1 h0 n0) v U'.heap L ∧ FrameEnd U o U' L ({ frames := 5, cells := 2, slots := 164, locals := 120 } : Room).cells ({ frames := 5, cells := 2, slots := 164, locals := 120 } : Room).slots) := by
 refine MetFree.of_bodySF (plainFor_of_name pn_10) hisR ?_
 intro p e s m args below meth c s₁ Bd hml0 hP hK
 obtain ⟨rfl, hZ, hHp⟩ := hP
 have hx := Bd.exec
 have D := fun {pc : Nat} {r} (h : decode _ pc = r) => hb Bd.bytes h
 have hml : c.maxLocals = 1 := hml0
 have hown : s.vm.findClass "java/lang/StringBuilder" = some m.cls := findClass_of_methodNamed Bd.named
 have hnm := (name_of_methodNamed Bd.named Bd.method).1
 have X0 : Stand p l e ({ frames := 5, cells := 2, slots := 164, locals := 120 } : Room) s m #[(.ref sb)] below meth c s₁ [] 0 0 := Stand.of_body Bd
 have e0 : s₁.heap = h0 := by rw [← hHp, Bd.state]; rfl
 have N0 := Fr.nil n0
 refine ownOut (P := (Q_stsE Z sb va kv zb vs G1 h0 n0)) ?_
 refine ownBy (A := s₁.setTop (mkF m 0 #[vR sb] [])) (fun t k => castTop (ef_stsE m sb) k) ?_
 have nsv : sb ≠ va := Exa.neArv Eb Ba (Wd45 hw)
 obtain ⟨T21, h21, X21, e21, E21, A21, D21, -, st21⟩ := newO X0 hx hZ hown (Wd143 hw) (Wd5 hw) (Wd6 hw) e0 (g := (fr_stsE m sb 0  [])) rfl (D d26_0) (by decide) (by decide)
 obtain ⟨b21, g21⟩ : ∃ z, z = h0.size := ⟨_, rfl⟩
 rw [← g21] at A21 D21 st21
 have ne22 : sb ≠ b21 := Nat.ne_of_lt (Nat.lt_of_lt_of_le Eb.lt (Nat.le_of_eq g21.symm))
 have ne23 : va ≠ b21 := Nat.ne_of_lt (Nat.lt_of_lt_of_le Ba.lt (Nat.le_of_eq g21.symm))
 have g24 : n0 ≤ b21 := Nat.le_trans Z0 (Nat.le_of_eq g21.symm)
 have z25 : h0.size ≤ b21 := Nat.le_trans (Nat.le_refl h0.size) (Nat.le_of_eq g21.symm)
 have F26 : Fld Z h21 b21 "java/lang/String" "coder" "B" (iV 0) := D21 (Or.inr (Wd34 hw)) (ty := .byte) (by decide)
 have F27 : Fld Z h21 b21 "java/lang/String" "value" "[B" .null := D21 (Or.inr (Wd36 hw)) (ty := (.array .byte)) (by decide)
 refine ownBy st21 ?_
 clear st21
 show oA p e below _ T21 (fr_stsE m sb 3  [(.ref b21)])
 refine oTo T21 (fr_stsE m sb 5  [(.ref sb), (.ref b21), (.ref b21)]) (fun t kt => ?_) ?_
 ·refine XS.dup X21.here hx rfl (D d26_3) rfl rfl ?_
  refine XS.aloadN X21.here hx rfl (D d26_4) rfl rfl ?_
  exact kt
 have f28 := (Eb.ext E21)
 have f29 := (Bv.ext E21)
 have f30 := (Bc.ext E21)
 have f31 := (Bn.ext E21)
 have f32 := (Ba.ext E21)
 have f33 := (Ea.ext E21)
 have f34 := (X00.ext E21)
 have f35 := (Nat.le_trans Z0 E21.1)
 obtain ⟨vv36, _, ⟨T36, L36, k36, n36⟩, -, X36, ⟨Lc36, hQ36, l36, y36, z36⟩, st36⟩ := X21.specialBack hx (y := yM28) rfl hown (mvT hZ (Wd144 hw)) (mvT hZ (Wd145 hw)) (mvT hZ (Wd146 hw)) (by decide) (backOf (W := 1) (c_ins1E l Z a0 hw [] b21 sb va kv zb vs _ G1 h21 n0 f35 A21 F27 F26 g24 f28 f29 f30 f31 f32 f33 hcp O2 P5 f34) hZ (Wd146 hw) (Wd6 hw) (by decide) (by decide)) (g := (fr_stsE m sb 5  [(.ref sb), (.ref b21), (.ref b21)])) rfl (by rw [hml]; rfl) (Steps.refl _) (a := b21) (argsL := [(.ref sb)]) (rest := [(.ref b21)]) (lenOf pd_26 rfl) rfl (oWt rfl) (D d26_5) (fun _ _ => ⟨rfl, e21, oLe rfl, oLe rfl⟩)
 dsimp only [Pt.U, Pt.locs, Pt.cells, Pt.slots] at X36 l36 y36 z36 st36 hQ36
 subst l36 y36 z36
 obtain ⟨rfl, Nq36, Kq36, t36, kn36, zq36, Eq36, Vq36, Cq36, Aq36⟩ := hQ36
 have ne37 : sb ≠ t36 := Nat.ne_of_lt (Nat.lt_of_lt_of_le f28.lt zq36)
 have ne38 : va ≠ t36 := Nat.ne_of_lt (Nat.lt_of_lt_of_le f32.lt zq36)
 have ne39 : b21 ≠ t36 := Nat.ne_of_lt (Nat.lt_of_lt_of_le A21.lt zq36)
 have g40 : n0 ≤ t36 := Nat.le_trans f35 zq36
 have f42 := (Nat.le_trans (Nat.le_refl h0.size) E21.1)
 have z41 : h0.size ≤ t36 := Nat.le_trans f42 zq36
 have N43 := Fr.app N0 Nq36
 obtain ⟨Lh44, Xh44, Nh44⟩ := oHd 2 164 X36 N43 rfl rfl
 refine ownSt st36 ?_
 clear st36
 show oA p e below _ T36 (fr_stsE m sb 8  [(.ref b21)])
 have f45 := (((Keep.refl h0 []).ext E21).trans Kq36 (allS (Or.inr z25) all0))
 refine ownRet Xh44 Bd.notSynchronized (v := some (.ref b21)) (fun h => by rw [Bd.returns] at h; cases h) ?_ (oLe rfl) (oLe rfl) (fun fs hr => retOut Xh44 hx Bd.returns rfl (Or.inr (Or.inr (Or.inr (Or.inr ⟨rfl, rfl, rfl⟩)))) (D d26_8) hr)
 show (Q_stsE Z sb va kv zb vs G1 h0 n0) (some (.ref b21)) T36.heap _
 exact ⟨b21, t36, kn36, rfl, Nh44, f45, z25, z41, Eq36, Vq36, Cq36, Aq36⟩
def Q_ch (Z : State) (p1 : Int32) (i : Int32) (h0 : Heap) (n0 : Nat) (v : Option Value) (h : Heap) (L : List Loc) : Prop := v = some (.int (Ch p1 i)) ∧ Fr n0 L ∧ h = h0
theorem ef_ch (m : MethodId) (x0 : Int32) (x1 : Int32)  : entryFrame m #[(.int x0), (.int x1)] 2 = mkF m 0 #[vI x0, vI x1] [] := by first | (simp [entryFrame, mkF, argsToLocals, Value.category]; done) | rfl
set_option maxRecDepth 65536 in
set_option maxHeartbeats 40000000 in
theorem c_ch (l : Launch) (Z : State) (a0 : Array Value) (hw : HW a0 Z) (ws : List Jvm.Cond) (p1 : Int32) (i : Int32) (h0 : Heap) (n0 : Nat) (Z0 : n0 ≤ h0.size) :
  MetFree l yM30 (head1 (Jvm.Cond.code yM30 method_3_code 2 (some .char) :: ws) ({ frames := 0, cells := 0, slots := 0, locals := 0 } : Room)) (fun a U => a = #[(.int p1), (.int i)] ∧ Z.Warmed39 U.vm ∧ U.heap = h0) (fun _ _ _ _ _ => True) (fun _ U o U' => ∃ v L, o = .returned v ∧ (Q_ch Z p1 i h0 n0) v U'.heap L ∧ FrameEnd U o U' L ({ frames := 0, cells := 0, slots := 0, locals := 0 } : Room).cells ({ frames := 0, cells := 0, slots := 0, locals := 0 } : Room).slots) := by
 refine MetFree.of_bodySF (plainFor_of_name pn_27) hisR ?_
 intro p e s m args below meth c s₁ Bd hml0 hP hK
 obtain ⟨rfl, hZ, hHp⟩ := hP
 have hx := Bd.exec
 have D := fun {pc : Nat} {r} (h : decode _ pc = r) => hb Bd.bytes h
 have hml : c.maxLocals = 2 := hml0
 have hown : s.vm.findClass "com/example/savepoint/savepoint/AnnotationLookupNeverAppliesPinLaw" = some m.cls := findClass_of_methodNamed Bd.named
 have hnm := (name_of_methodNamed Bd.named Bd.method).1
 have X0 : Stand p l e ({ frames := 0, cells := 0, slots := 0, locals := 0 } : Room) s m #[(.int p1), (.int i)] below meth c s₁ [] 0 0 := Stand.of_body Bd
 have e0 : s₁.heap = h0 := by rw [← hHp, Bd.state]; rfl
 have N0 := Fr.nil n0
 refine ownOut (P := (Q_ch Z p1 i h0 n0)) ?_
 refine ownBy (A := s₁.setTop (mkF m 0 #[vI p1, vI i] [])) (fun t k => castTop (ef_ch m p1 i) k) ?_
 refine oTo s₁ (mkF m 11 #[vI p1, vI i] [(.int ((((p1.toUInt32 >>> (((8 : Int32) * i) &&& 31).toUInt32).toInt32) &&& (255 : Int32)).toUInt32.toUInt16.toUInt32.toInt32))]) (fun t kt => ?_) ?_
 ·refine XS.iloadN X0.here hx rfl (D d2_0) rfl ?_
  refine XS.bipush X0.here hx rfl (D d2_1) ?_
  refine XS.iloadN X0.here hx rfl (D d2_3) rfl ?_
  refine XS.imul X0.here hx rfl (D d2_4) rfl ?_
  show Steps p.tables e below (s₁.setTop (mkF m 5 #[vI p1, vI i] [(.int ((8 : Int32) * i)), (.int p1)])) t
  refine XS.iushr X0.here hx rfl (D d2_5) rfl ?_
  refine XS.sipush X0.here hx rfl (D d2_6) ?_
  refine XS.iand X0.here hx rfl (D d2_9) rfl ?_
  refine XS.i2c X0.here hx rfl (D d2_10) rfl ?_
  exact kt
 refine ownRet X0 Bd.notSynchronized (v := some (.int (nar .char ((((p1.toUInt32 >>> (((8 : Int32) * i) &&& 31).toUInt32).toInt32) &&& (255 : Int32)).toUInt32.toUInt16.toUInt32.toInt32)))) (fun h => by rw [Bd.returns] at h; cases h) ?_ (oLe rfl) (oLe rfl) (fun fs hr => retN X0 hx (t := .char) Bd.returns (by simp) (D d2_11) hr)
 show (Q_ch Z p1 i h0 n0) (some (.int (nar .char ((((p1.toUInt32 >>> (((8 : Int32) * i) &&& 31).toUInt32).toInt32) &&& (255 : Int32)).toUInt32.toUInt16.toUInt32.toInt32)))) s₁.heap _
 rw [e0]
 exact ⟨rfl, N0, rfl⟩
abbrev fr_drw (m : MethodId) (p1 : Int32) (nn : Int32) (pc : Nat)  (st : List Value) : JFrame := mkF m pc #[vI p1, vI nn] st
def Q_drw (Z : State) (p1 : Int32) (nn : Int32) (k : Nat) (G1 : Int32) (h0 : Heap) (n0 : Nat) (v : Option Value) (h : Heap) (L : List Loc) : Prop := ∃ (x ta : Addr) (kb : ClassId) (us : List Value), v = some (.ref x) ∧ Fr n0 L ∧ Keep h0 h [] ∧ Exa Z h x "java/lang/String" ∧ Fld Z h x "java/lang/String" "value" "[B" (.ref ta) ∧ Fld Z h x "java/lang/String" "coder" "B" (iV 0) ∧ Arv Z h ta kb .byte nn us (iV 0) ∧ Drw p1 k us
theorem ef_drw (m : MethodId) (x0 : Int32) (x1 : Int32)  : entryFrame m #[(.int x0), (.int x1)] 2 = mkF m 0 #[vI x0, vI x1] [] := by first | (simp [entryFrame, mkF, argsToLocals, Value.category]; done) | rfl
set_option maxRecDepth 65536 in
set_option maxHeartbeats 40000000 in
theorem c_drw (l : Launch) (Z : State) (a0 : Array Value) (hw : HW a0 Z) (ws : List Jvm.Cond) (p1 : Int32) (nn : Int32) (k : Nat) (G1 : Int32) (h0 : Heap) (n0 : Nat) (Z0 : n0 ≤ h0.size) (hn : nn = oN k) (hk : k ≤ 3) (O2 : Sta Z Z.heap "java/lang/String" "COMPACT_STRINGS" "Z" (.int G1)) (P5 : ¬ (G1 = (0 : Int32))) (X00 : Old Z n0 h0) :
  MetFree l yM31 (head1 (Jvm.Cond.code yM31 method_4_code 2 (some (.object "java/lang/String")) :: ws) ({ frames := 6, cells := 3, slots := 10, locals := 120 } : Room)) (fun a U => a = #[(.int p1), (.int nn)] ∧ Z.Warmed39 U.vm ∧ U.heap = h0 ∧ CHv Z ownEL U.vm h0) (fun _ _ _ _ _ => True) (fun _ U o U' => ∃ v L, o = .returned v ∧ (Q_drw Z p1 nn k G1 h0 n0) v U'.heap L ∧ CHr Z ownEL U.vm U.heap U'.vm U'.heap ∧ ReturnedEndW U o U' L ({ frames := 6, cells := 3, slots := 10, locals := 120 } : Room).cells ({ frames := 6, cells := 3, slots := 10, locals := 120 } : Room).slots) := by
 refine MetFree.of_bodySF (plainFor_of_name pn_27) hisR ?_
 intro p e s m args below meth c s₁ Bd hml0 hP hK
 obtain ⟨rfl, hZ, hHp, hCH⟩ := hP
 have hx := Bd.exec
 have D := fun {pc : Nat} {r} (h : decode _ pc = r) => hb Bd.bytes h
 have hml : c.maxLocals = 2 := hml0
 have hown : s.vm.findClass "com/example/savepoint/savepoint/AnnotationLookupNeverAppliesPinLaw" = some m.cls := findClass_of_methodNamed Bd.named
 have hnm := (name_of_methodNamed Bd.named Bd.method).1
 have X0 : Stand p l e ({ frames := 6, cells := 3, slots := 10, locals := 120 } : Room) (s.setVm s.vm) m #[(.int p1), (.int nn)] below meth c s₁ [] 0 0 := Stand.of_body Bd
 have e0 : s₁.heap = h0 := by rw [← hHp, Bd.state]; rfl
 have N0 := Fr.nil n0
 refine ownOutH hHp (P := (Q_drw Z p1 nn k G1 h0 n0)) ?_
 refine ownBy (A := s₁.setTop (mkF m 0 #[vI p1, vI nn] [])) (fun t k => castTop (ef_drw m p1 nn) k) ?_
 have hS0 : s.Since s.vm h0.size := own_since
 have hEL := own_EW hw
 have R0 := CHr.refl hCH
 have wS := own_wS hw
 have hws : ∀ d ∈ StrChars.Road.words, d.before a0 Z = true := fun d hd => hw d ((by decide +kernel : ∀ d ∈ StrChars.Road.words, d ∈ tables_1) d hd)
 refine oTo s₁ (fr_drw m p1 nn 1  [(.int nn)]) (fun t kt => ?_) ?_
 ·refine XS.iloadN X0.here hx rfl (D d1_0) rfl ?_
  exact kt
 by_cases hc21 : nn = (0 : Int32)
 ·skip
  refine oTo s₁ (fr_drw m p1 nn 4  []) (fun t kt => ?_) ?_
  ·refine XS.ifNo X0.here hx rfl (D d1_1) rfl ((if0 _ _).trans (teq hc21).2) ?_
   exact kt
  obtain ⟨a22, T22, h22, k22, b22, kb22, X22, e22, E22, hS22, hk22, hZ22, hown22, A22, C22, V22, Ab22, -, -, hC22, Lt22, hne22, st22⟩ := ldcCH (text := "") X0 hx hZ hown (Wd37 hw) wS e0 hS0 (Nat.le_refl _) hEL (by simp [ownEL]) R0.1 (vs := []) (z := (0 : Int32)) ⟨by decide, by decide⟩ (by decide) rfl (g := (fr_drw m p1 nn 4  [])) rfl (D d1_4) (n := 0) (by decide) (by decide) (by decide) (by decide)
  have R24 := R0.trans hC22
  refine ownBy st22 ?_
  clear st22
  show oA p e below _ T22 (fr_drw m p1 nn 6  [(.ref a22)])
  have f25 := ((Keep.refl h0 []).ext E22)
  refine ownRetH X22 hS22 (by rw [e22]; exact hk22) Bd.notSynchronized (v := some (.ref a22)) (fun h => by rw [Bd.returns] at h; cases h) ?_ (R24.trans ((by rw [e22]; exact CHv.at X22 hZ22 hEL R24.1))) (oLe rfl) (oLe rfl) (fun fs hr => retOut X22 hx Bd.returns rfl (Or.inr (Or.inr (Or.inr (Or.inr ⟨rfl, rfl, rfl⟩)))) (D d1_6) hr)
  show (Q_drw Z p1 nn k G1 h0 n0) (some (.ref a22)) T22.heap _
  rw [e22]
  have hk3 : k = 0 := (oN_eq (by omega) (by omega)).mp (hn.symm.trans hc21)
  refine ⟨a22, b22, kb22, _, rfl, N0, f25, A22, V22, C22, by rw [hc21]; exact Ab22, ?_⟩
  exact ⟨hk3.symm, fun q => absurd q (by omega), fun q => absurd q (by omega), fun q => absurd q (by omega)⟩
 ·skip
  refine oTo s₁ (fr_drw m p1 nn 9  [(iV 1), (.int nn)]) (fun t kt => ?_) ?_
  ·refine XS.ifYes X0.here hx rfl (pc0 := 1) (pc' := 7) rfl (D d1_1) rfl ((if0 _ _).trans (feq hc21).2) (by decide) (by decide) ?_
   refine XS.iloadN X0.here hx rfl (D d1_7) rfl ?_
   refine XS.iconst X0.here hx rfl (D d1_8) ?_
   exact kt
  by_cases hc27 : nn = (1 : Int32)
  ·skip
   refine oTo s₁ (fr_drw m p1 nn 12  []) (fun t kt => ?_) ?_
   ·refine XS.icmpNo X0.here hx rfl (D d1_9) rfl (teq hc27).2 ?_
    exact kt
   obtain ⟨T28, h28, X28, e28, E28, A28, D28, -, st28⟩ := newO X0 hx hZ hown (Wd4 hw) (Wd5 hw) (Wd6 hw) e0 (g := (fr_drw m p1 nn 12  [])) rfl (D d1_12) (by decide) (by decide)
   obtain ⟨b28, g28⟩ : ∃ z, z = h0.size := ⟨_, rfl⟩
   rw [← g28] at A28 D28 st28
   have g29 : n0 ≤ b28 := Nat.le_trans Z0 (Nat.le_of_eq g28.symm)
   have sf30 : Safe Z ownEL s.vm h0 b28 := Safe.new (Nat.le_of_eq g28.symm)
   have z31 : h0.size ≤ b28 := Nat.le_trans (Nat.le_refl h0.size) (Nat.le_of_eq g28.symm)
   have R32 := R0.trans (CHr.ext E28 R0.1)
   have sf33 := Safe.ext E28 R0.1 sf30
   have F34 : Fld Z h28 b28 "java/lang/String" "coder" "B" (iV 0) := D28 (Or.inr (Wd34 hw)) (ty := .byte) (by decide)
   have F35 : Fld Z h28 b28 "java/lang/String" "value" "[B" .null := D28 (Or.inr (Wd36 hw)) (ty := (.array .byte)) (by decide)
   refine ownBy st28 ?_
   clear st28
   show oA p e below _ T28 (fr_drw m p1 nn 15  [(.ref b28)])
   refine oTo T28 (fr_drw m p1 nn 17  [(iV 1), (.ref b28), (.ref b28)]) (fun t kt => ?_) ?_
   ·refine XS.dup X28.here hx rfl (D d1_15) rfl rfl ?_
    refine XS.iconst X28.here hx rfl (D d1_16) ?_
    exact kt
   obtain ⟨T36, h36, k36, X36, e36, E36, A36, st36⟩ := newP X28 hx hZ (aty := .char) (Wd7 hw) e28 (g := (fr_drw m p1 nn 17  [(iV 1), (.ref b28), (.ref b28)])) rfl (D d1_17) rfl (by decide : ¬ ((1 : Int32) < (0 : Int32))) (cap := 1) (by decide) (by decide) (by decide) (by decide)
   obtain ⟨b36, g36⟩ : ∃ z, z = h28.size := ⟨_, rfl⟩
   rw [← g36] at A36 st36
   have ne37 : b28 ≠ b36 := Nat.ne_of_lt (Nat.lt_of_lt_of_le A28.lt (Nat.le_of_eq g36.symm))
   have f39 := (Nat.le_trans Z0 E28.1)
   have g38 : n0 ≤ b36 := Nat.le_trans f39 (Nat.le_of_eq g36.symm)
   have sf40 : Safe Z ownEL s.vm h28 b36 := Safe.new (Nat.le_of_eq g36.symm)
   have f42 := (Nat.le_trans (Nat.le_refl h0.size) E28.1)
   have z41 : h0.size ≤ b36 := Nat.le_trans f42 (Nat.le_of_eq g36.symm)
   have R43 := R32.trans (CHr.ext E36 R32.1)
   have sf44 := Safe.ext E36 R32.1 sf33
   have sf45 := Safe.ext E36 R32.1 sf40
   have V46 : Arv Z h36 b36 k36 .char (1 : Int32) [(iV 0)] (iV 0) := (Arv.new A36 (by decide)).pad (pad_rep [] (iV 0) 1)
   refine ownBy st36 ?_
   clear st36
   show oA p e below _ T36 (fr_drw m p1 nn 19  [(.ref b36), (.ref b28), (.ref b28)])
   refine oTo T36 (fr_drw m p1 nn 23  [(iV 0), (.int p1), (iV 0), (.ref b36), (.ref b36), (.ref b28), (.ref b28)]) (fun t kt => ?_) ?_
   ·refine XS.dup X36.here hx rfl (D d1_19) rfl rfl ?_
    refine XS.iconst X36.here hx rfl (D d1_20) ?_
    refine XS.iloadN X36.here hx rfl (D d1_21) rfl ?_
    refine XS.iconst X36.here hx rfl (D d1_22) ?_
    exact kt
   have f47 := (Nat.le_trans f39 E36.1)
   obtain ⟨vv48, _, ⟨T48, L48, k48, n48⟩, -, X48, ⟨Lc48, hQ48, l48, y48, z48⟩, st48⟩ := Jvm.LawKit.callS X36 hx (y := yM30) hown (mvT hZ (Wd8 hw)) (mvT hZ (Wd9 hw)) (mvT hZ (Wd2 hw)) (mvT hZ (Wd10 hw)) (by decide) (backOf (W := 5) (c_ch l Z a0 hw [] p1 (0 : Int32) h36 n0 f47 ) hZ (Wd10 hw) (Wd2 hw) (by decide) (by decide)) (g := (fr_drw m p1 nn 23  [(iV 0), (.int p1), (iV 0), (.ref b36), (.ref b36), (.ref b28), (.ref b28)])) rfl (by rw [hml]; rfl) (argsL := [(.int p1), (iV 0)]) (rest := [(iV 0), (.ref b36), (.ref b36), (.ref b28), (.ref b28)]) (lenOf pd_28 rfl) rfl (oWt rfl) (D d1_23) (fun _ _ => ⟨rfl, e36, oLe rfl, oLe rfl⟩)
   dsimp only [Pt.U, Pt.locs, Pt.cells, Pt.slots] at X48 l48 y48 z48 st48 hQ48
   subst l48 y48 z48
   obtain ⟨rfl, Nq48, Eq48⟩ := hQ48
   have N49 := Fr.app N0 Nq48
   obtain ⟨Lh50, Xh50, Nh50⟩ := oHd 2 5 X48 N49 rfl rfl
   refine ownBy st48 ?_
   clear st48
   show oA p e below _ T48 (fr_drw m p1 nn 26  [(.int (Ch p1 (0 : Int32))), (iV 0), (.ref b36), (.ref b36), (.ref b28), (.ref b28)])
   obtain ⟨cl51, Ar51, q51, S51, N51, H51, G51⟩ := id V46
   have hin51 : ¬ ((0 : Int32) < 0 ∨ cl51.slots.size ≤ ((0 : Int32)).toNatClampNeg) := inb_of S51 ⟨by decide, by decide⟩
   obtain ⟨T51, h51, X51, e51, W51, st51⟩ := stC Xh50 hx hZ Eq48 Ar51 (j := (0 : Int32)) hin51 (g := (fr_drw m p1 nn 26  [(.int (Ch p1 (0 : Int32))), (iV 0), (.ref b36), (.ref b36), (.ref b28), (.ref b28)])) rfl rfl (D d1_26)
   have V52 : Arv Z h51 b36 k36 .char (1 : Int32) [(.int (nar .char (Ch p1 (0 : Int32))))] (iV 0) := Arv.set Ar51 q51 S51 N51 H51 G51 (fits_nar_char _) W51 0 rfl (oLe rfl)
   rw [own_c8 (Ch_r p1 (0 : Int32))] at V52
   clear hin51 G51 H51 N51 S51 q51 Ar51 cl51 V46
   have N53 := Fr.snoc X51 Nh50 g38
   have R54 := R43.trans (CHr.wr W51 sf45 R43.1)
   have sf55 := Safe.wr W51 sf45 R43.1 sf44
   have sf56 := Safe.wr W51 sf45 R43.1 sf45
   obtain ⟨Lh57, Xh57, Nh57⟩ := oHd 2 5 X51 N53 rfl rfl
   refine ownBy st51 ?_
   clear st51
   show oA p e below _ T51 (fr_drw m p1 nn 27  [(.ref b36), (.ref b28), (.ref b28)])
   have hp58 : ∀ c ∈ ([(Ch p1 (0 : Int32))] : List Int32), ¬ c < 0 ∧ ¬ (255 : Int32) < c := by
    intro c hc
    simp only [List.mem_cons, List.not_mem_nil, or_false] at hc
    rcases hc with rfl
    ·exact (Ch_r p1 (0 : Int32))
   have f59 := (Nat.le_trans f47 (Keep.of_wr W51).1)
   have f60 := ((A28.ext E36).wr W51)
   have f61 := ((F35.ext E36).other W51 (Or.inl ne37))
   have f62 := ((F34.ext E36).other W51 (Or.inl ne37))
   have f63 := (((X00.ext E28).ext E36).wr W51 g38)
   obtain ⟨vv64, _, ⟨T64, L64, k64, n64⟩, -, X64, ⟨Lc64, hQ64, l64, y64, z64⟩, st64⟩ := Xh57.specialBack hx (y := yM32) rfl hown (mvT hZ (Wd11 hw)) (mvT hZ (Wd12 hw)) (mvT hZ (Wd13 hw)) (by decide) (StrChars.Road.backV (W := 1) hZ hws (kI := 4) (Wd5 hw) (cs := ([(Ch p1 (0 : Int32))] : List Int32)) (bs := (([(Ch p1 (0 : Int32))] : List Int32)).map (fun c => c.toInt8.toInt32)) (n := 1) g29 f59 f60 f61 f62 V52 (O2.ext f63.2) P5 rfl rfl (by decide) (by decide) hp58 rfl (by decide) (by decide)) (g := (fr_drw m p1 nn 27  [(.ref b36), (.ref b28), (.ref b28)])) rfl (by rw [hml]; rfl) (Steps.refl _) (a := b28) (argsL := [(.ref b36)]) (rest := [(.ref b28)]) (lenOf pd_29 rfl) rfl (oWt rfl) (D d1_27) (fun _ _ => ⟨rfl, e51, oLe rfl, oLe rfl⟩)
   dsimp only [Pt.U, Pt.locs, Pt.cells, Pt.slots] at X64 l64 y64 z64 st64 hQ64
   subst l64 y64 z64
   obtain ⟨rfl, Nq64, Kq64, Eq64, Cq64, t64, kb64, u64, v64, w64, Vq64, Aq64⟩ := hQ64
   have ne65 : b28 ≠ t64 := Nat.ne_of_lt (Nat.lt_of_lt_of_le f60.lt v64)
   have ne66 : b36 ≠ t64 := Nat.ne_of_lt (Nat.lt_of_lt_of_le V52.lt v64)
   have g67 : n0 ≤ t64 := Nat.le_trans f59 v64
   have sf68 : Safe Z ownEL s.vm h51 t64 := Safe.new v64
   have f70 := (Nat.le_trans (Nat.le_trans f42 E36.1) (Keep.of_wr W51).1)
   have z69 : h0.size ≤ t64 := Nat.le_trans f70 v64
   have N71 := Fr.app Nh57 Nq64
   have R72 := R54.trans (CHr.keep Kq64 (sfS sf55 sf0) R54.1)
   have sf73 := Safe.keep Kq64 (sfS sf55 sf0) R54.1 sf55
   have sf74 := Safe.keep Kq64 (sfS sf55 sf0) R54.1 sf56
   have sf75 := Safe.keep Kq64 (sfS sf55 sf0) R54.1 sf68
   obtain ⟨Lh76, Xh76, Nh76⟩ := oHd 3 6 X64 N71 rfl rfl
   refine ownSt st64 ?_
   clear st64
   show oA p e below _ T64 (fr_drw m p1 nn 30  [(.ref b28)])
   have f77 := (((((Keep.refl h0 []).ext E28).ext E36).wr W51 (Or.inr z41)).trans Kq64 (allS (Or.inr z31) all0))
   have f78 := (f60.keep Kq64)
   refine ownRetH Xh76 hS0 (Nat.le_trans (Nat.le_trans (Nat.le_trans (Nat.le_trans (Nat.le_refl _) E28.1) E36.1) (Keep.of_wr W51).1) Kq64.1) Bd.notSynchronized (v := some (.ref b28)) (fun h => by rw [Bd.returns] at h; cases h) ?_ (R72.trans (CHv.at Xh76 hZ hEL R72.1)) (oLe rfl) (oLe rfl) (fun fs hr => retOut Xh76 hx Bd.returns rfl (Or.inr (Or.inr (Or.inr (Or.inr ⟨rfl, rfl, rfl⟩)))) (D d1_30) hr)
   show (Q_drw Z p1 nn k G1 h0 n0) (some (.ref b28)) T64.heap _
   have hk3 : k = 1 := (oN_eq (by omega) (by omega)).mp (hn.symm.trans hc27)
   refine ⟨b28, t64, kb64, _, rfl, Nh76, f77, f78, Vq64, Cq64, by rw [hc27]; exact Aq64, ?_⟩
   exact ⟨hk3.symm, fun _ => rfl, fun q => absurd q (by omega), fun q => absurd q (by omega)⟩
  ·skip
   refine oTo s₁ (fr_drw m p1 nn 33  [(iV 2), (.int nn)]) (fun t kt => ?_) ?_
   ·refine XS.icmpYes X0.here hx rfl (pc0 := 9) (pc' := 31) rfl (D d1_9) rfl (feq hc27).2 (by decide) (by decide) ?_
    refine XS.iloadN X0.here hx rfl (D d1_31) rfl ?_
    refine XS.iconst X0.here hx rfl (D d1_32) ?_
    exact kt
   by_cases hc80 : nn = (2 : Int32)
   ·skip
    refine oTo s₁ (fr_drw m p1 nn 36  []) (fun t kt => ?_) ?_
    ·refine XS.icmpNo X0.here hx rfl (D d1_33) rfl (teq hc80).2 ?_
     exact kt
    obtain ⟨T81, h81, X81, e81, E81, A81, D81, -, st81⟩ := newO X0 hx hZ hown (Wd4 hw) (Wd5 hw) (Wd6 hw) e0 (g := (fr_drw m p1 nn 36  [])) rfl (D d1_36) (by decide) (by decide)
    obtain ⟨b81, g81⟩ : ∃ z, z = h0.size := ⟨_, rfl⟩
    rw [← g81] at A81 D81 st81
    have g82 : n0 ≤ b81 := Nat.le_trans Z0 (Nat.le_of_eq g81.symm)
    have sf83 : Safe Z ownEL s.vm h0 b81 := Safe.new (Nat.le_of_eq g81.symm)
    have z84 : h0.size ≤ b81 := Nat.le_trans (Nat.le_refl h0.size) (Nat.le_of_eq g81.symm)
    have R85 := R0.trans (CHr.ext E81 R0.1)
    have sf86 := Safe.ext E81 R0.1 sf83
    have F87 : Fld Z h81 b81 "java/lang/String" "coder" "B" (iV 0) := D81 (Or.inr (Wd34 hw)) (ty := .byte) (by decide)
    have F88 : Fld Z h81 b81 "java/lang/String" "value" "[B" .null := D81 (Or.inr (Wd36 hw)) (ty := (.array .byte)) (by decide)
    refine ownBy st81 ?_
    clear st81
    show oA p e below _ T81 (fr_drw m p1 nn 39  [(.ref b81)])
    refine oTo T81 (fr_drw m p1 nn 41  [(iV 2), (.ref b81), (.ref b81)]) (fun t kt => ?_) ?_
    ·refine XS.dup X81.here hx rfl (D d1_39) rfl rfl ?_
     refine XS.iconst X81.here hx rfl (D d1_40) ?_
     exact kt
    obtain ⟨T89, h89, k89, X89, e89, E89, A89, st89⟩ := newP X81 hx hZ (aty := .char) (Wd7 hw) e81 (g := (fr_drw m p1 nn 41  [(iV 2), (.ref b81), (.ref b81)])) rfl (D d1_41) rfl (by decide : ¬ ((2 : Int32) < (0 : Int32))) (cap := 2) (by decide) (by decide) (by decide) (by decide)
    obtain ⟨b89, g89⟩ : ∃ z, z = h81.size := ⟨_, rfl⟩
    rw [← g89] at A89 st89
    have ne90 : b81 ≠ b89 := Nat.ne_of_lt (Nat.lt_of_lt_of_le A81.lt (Nat.le_of_eq g89.symm))
    have f92 := (Nat.le_trans Z0 E81.1)
    have g91 : n0 ≤ b89 := Nat.le_trans f92 (Nat.le_of_eq g89.symm)
    have sf93 : Safe Z ownEL s.vm h81 b89 := Safe.new (Nat.le_of_eq g89.symm)
    have f95 := (Nat.le_trans (Nat.le_refl h0.size) E81.1)
    have z94 : h0.size ≤ b89 := Nat.le_trans f95 (Nat.le_of_eq g89.symm)
    have R96 := R85.trans (CHr.ext E89 R85.1)
    have sf97 := Safe.ext E89 R85.1 sf86
    have sf98 := Safe.ext E89 R85.1 sf93
    have V99 : Arv Z h89 b89 k89 .char (2 : Int32) [(iV 0), (iV 0)] (iV 0) := (Arv.new A89 (by decide)).pad (pad_rep [] (iV 0) 2)
    refine ownBy st89 ?_
    clear st89
    show oA p e below _ T89 (fr_drw m p1 nn 43  [(.ref b89), (.ref b81), (.ref b81)])
    refine oTo T89 (fr_drw m p1 nn 47  [(iV 0), (.int p1), (iV 0), (.ref b89), (.ref b89), (.ref b81), (.ref b81)]) (fun t kt => ?_) ?_
    ·refine XS.dup X89.here hx rfl (D d1_43) rfl rfl ?_
     refine XS.iconst X89.here hx rfl (D d1_44) ?_
     refine XS.iloadN X89.here hx rfl (D d1_45) rfl ?_
     refine XS.iconst X89.here hx rfl (D d1_46) ?_
     exact kt
    have f100 := (Nat.le_trans f92 E89.1)
    obtain ⟨vv101, _, ⟨T101, L101, k101, n101⟩, -, X101, ⟨Lc101, hQ101, l101, y101, z101⟩, st101⟩ := Jvm.LawKit.callS X89 hx (y := yM30) hown (mvT hZ (Wd8 hw)) (mvT hZ (Wd9 hw)) (mvT hZ (Wd2 hw)) (mvT hZ (Wd10 hw)) (by decide) (backOf (W := 5) (c_ch l Z a0 hw [] p1 (0 : Int32) h89 n0 f100 ) hZ (Wd10 hw) (Wd2 hw) (by decide) (by decide)) (g := (fr_drw m p1 nn 47  [(iV 0), (.int p1), (iV 0), (.ref b89), (.ref b89), (.ref b81), (.ref b81)])) rfl (by rw [hml]; rfl) (argsL := [(.int p1), (iV 0)]) (rest := [(iV 0), (.ref b89), (.ref b89), (.ref b81), (.ref b81)]) (lenOf pd_28 rfl) rfl (oWt rfl) (D d1_47) (fun _ _ => ⟨rfl, e89, oLe rfl, oLe rfl⟩)
    dsimp only [Pt.U, Pt.locs, Pt.cells, Pt.slots] at X101 l101 y101 z101 st101 hQ101
    subst l101 y101 z101
    obtain ⟨rfl, Nq101, Eq101⟩ := hQ101
    have N102 := Fr.app N0 Nq101
    obtain ⟨Lh103, Xh103, Nh103⟩ := oHd 2 6 X101 N102 rfl rfl
    refine ownBy st101 ?_
    clear st101
    show oA p e below _ T101 (fr_drw m p1 nn 50  [(.int (Ch p1 (0 : Int32))), (iV 0), (.ref b89), (.ref b89), (.ref b81), (.ref b81)])
    obtain ⟨cl104, Ar104, q104, S104, N104, H104, G104⟩ := id V99
    have hin104 : ¬ ((0 : Int32) < 0 ∨ cl104.slots.size ≤ ((0 : Int32)).toNatClampNeg) := inb_of S104 ⟨by decide, by decide⟩
    obtain ⟨T104, h104, X104, e104, W104, st104⟩ := stC Xh103 hx hZ Eq101 Ar104 (j := (0 : Int32)) hin104 (g := (fr_drw m p1 nn 50  [(.int (Ch p1 (0 : Int32))), (iV 0), (.ref b89), (.ref b89), (.ref b81), (.ref b81)])) rfl rfl (D d1_50)
    have V105 : Arv Z h104 b89 k89 .char (2 : Int32) [(.int (nar .char (Ch p1 (0 : Int32)))), (iV 0)] (iV 0) := Arv.set Ar104 q104 S104 N104 H104 G104 (fits_nar_char _) W104 0 rfl (oLe rfl)
    rw [own_c8 (Ch_r p1 (0 : Int32))] at V105
    clear hin104 G104 H104 N104 S104 q104 Ar104 cl104 V99
    have N106 := Fr.snoc X104 Nh103 g91
    have R107 := R96.trans (CHr.wr W104 sf98 R96.1)
    have sf108 := Safe.wr W104 sf98 R96.1 sf97
    have sf109 := Safe.wr W104 sf98 R96.1 sf98
    obtain ⟨Lh110, Xh110, Nh110⟩ := oHd 2 6 X104 N106 rfl rfl
    refine ownBy st104 ?_
    clear st104
    show oA p e below _ T104 (fr_drw m p1 nn 51  [(.ref b89), (.ref b81), (.ref b81)])
    refine oTo T104 (fr_drw m p1 nn 55  [(iV 1), (.int p1), (iV 1), (.ref b89), (.ref b89), (.ref b81), (.ref b81)]) (fun t kt => ?_) ?_
    ·refine XS.dup Xh110.here hx rfl (D d1_51) rfl rfl ?_
     refine XS.iconst Xh110.here hx rfl (D d1_52) ?_
     refine XS.iloadN Xh110.here hx rfl (D d1_53) rfl ?_
     refine XS.iconst Xh110.here hx rfl (D d1_54) ?_
     exact kt
    have f111 := (Nat.le_trans f100 (Keep.of_wr W104).1)
    obtain ⟨vv112, _, ⟨T112, L112, k112, n112⟩, -, X112, ⟨Lc112, hQ112, l112, y112, z112⟩, st112⟩ := Jvm.LawKit.callS Xh110 hx (y := yM30) hown (mvT hZ (Wd8 hw)) (mvT hZ (Wd9 hw)) (mvT hZ (Wd2 hw)) (mvT hZ (Wd10 hw)) (by decide) (backOf (W := 5) (c_ch l Z a0 hw [] p1 (1 : Int32) h104 n0 f111 ) hZ (Wd10 hw) (Wd2 hw) (by decide) (by decide)) (g := (fr_drw m p1 nn 55  [(iV 1), (.int p1), (iV 1), (.ref b89), (.ref b89), (.ref b81), (.ref b81)])) rfl (by rw [hml]; rfl) (argsL := [(.int p1), (iV 1)]) (rest := [(iV 1), (.ref b89), (.ref b89), (.ref b81), (.ref b81)]) (lenOf pd_28 rfl) rfl (oWt rfl) (D d1_55) (fun _ _ => ⟨rfl, e104, oLe rfl, oLe rfl⟩)
    dsimp only [Pt.U, Pt.locs, Pt.cells, Pt.slots] at X112 l112 y112 z112 st112 hQ112
    subst l112 y112 z112
    obtain ⟨rfl, Nq112, Eq112⟩ := hQ112
    have N113 := Fr.app Nh110 Nq112
    obtain ⟨Lh114, Xh114, Nh114⟩ := oHd 2 6 X112 N113 rfl rfl
    refine ownBy st112 ?_
    clear st112
    show oA p e below _ T112 (fr_drw m p1 nn 58  [(.int (Ch p1 (1 : Int32))), (iV 1), (.ref b89), (.ref b89), (.ref b81), (.ref b81)])
    obtain ⟨cl115, Ar115, q115, S115, N115, H115, G115⟩ := id V105
    have hin115 : ¬ ((1 : Int32) < 0 ∨ cl115.slots.size ≤ ((1 : Int32)).toNatClampNeg) := inb_of S115 ⟨by decide, by decide⟩
    obtain ⟨T115, h115, X115, e115, W115, st115⟩ := stC Xh114 hx hZ Eq112 Ar115 (j := (1 : Int32)) hin115 (g := (fr_drw m p1 nn 58  [(.int (Ch p1 (1 : Int32))), (iV 1), (.ref b89), (.ref b89), (.ref b81), (.ref b81)])) rfl rfl (D d1_58)
    have V116 : Arv Z h115 b89 k89 .char (2 : Int32) [(.int (Ch p1 (0 : Int32))), (.int (nar .char (Ch p1 (1 : Int32))))] (iV 0) := Arv.set Ar115 q115 S115 N115 H115 G115 (fits_nar_char _) W115 1 rfl (oLe rfl)
    rw [own_c8 (Ch_r p1 (1 : Int32))] at V116
    clear hin115 G115 H115 N115 S115 q115 Ar115 cl115 V105
    have N117 := Fr.snoc X115 Nh114 g91
    have R118 := R107.trans (CHr.wr W115 sf109 R107.1)
    have sf119 := Safe.wr W115 sf109 R107.1 sf108
    have sf120 := Safe.wr W115 sf109 R107.1 sf109
    obtain ⟨Lh121, Xh121, Nh121⟩ := oHd 2 6 X115 N117 rfl rfl
    refine ownBy st115 ?_
    clear st115
    show oA p e below _ T115 (fr_drw m p1 nn 59  [(.ref b89), (.ref b81), (.ref b81)])
    have hp122 : ∀ c ∈ ([(Ch p1 (0 : Int32)), (Ch p1 (1 : Int32))] : List Int32), ¬ c < 0 ∧ ¬ (255 : Int32) < c := by
     intro c hc
     simp only [List.mem_cons, List.not_mem_nil, or_false] at hc
     rcases hc with rfl | rfl
     ·exact (Ch_r p1 (0 : Int32))
     ·exact (Ch_r p1 (1 : Int32))
    have f123 := (Nat.le_trans f111 (Keep.of_wr W115).1)
    have f124 := (((A81.ext E89).wr W104).wr W115)
    have f125 := (((F88.ext E89).other W104 (Or.inl ne90)).other W115 (Or.inl ne90))
    have f126 := (((F87.ext E89).other W104 (Or.inl ne90)).other W115 (Or.inl ne90))
    have f127 := ((((X00.ext E81).ext E89).wr W104 g91).wr W115 g91)
    obtain ⟨vv128, _, ⟨T128, L128, k128, n128⟩, -, X128, ⟨Lc128, hQ128, l128, y128, z128⟩, st128⟩ := Xh121.specialBack hx (y := yM32) rfl hown (mvT hZ (Wd11 hw)) (mvT hZ (Wd12 hw)) (mvT hZ (Wd13 hw)) (by decide) (StrChars.Road.backV (W := 1) hZ hws (kI := 4) (Wd5 hw) (cs := ([(Ch p1 (0 : Int32)), (Ch p1 (1 : Int32))] : List Int32)) (bs := (([(Ch p1 (0 : Int32)), (Ch p1 (1 : Int32))] : List Int32)).map (fun c => c.toInt8.toInt32)) (n := 2) g82 f123 f124 f125 f126 V116 (O2.ext f127.2) P5 rfl rfl (by decide) (by decide) hp122 rfl (by decide) (by decide)) (g := (fr_drw m p1 nn 59  [(.ref b89), (.ref b81), (.ref b81)])) rfl (by rw [hml]; rfl) (Steps.refl _) (a := b81) (argsL := [(.ref b89)]) (rest := [(.ref b81)]) (lenOf pd_29 rfl) rfl (oWt rfl) (D d1_59) (fun _ _ => ⟨rfl, e115, oLe rfl, oLe rfl⟩)
    dsimp only [Pt.U, Pt.locs, Pt.cells, Pt.slots] at X128 l128 y128 z128 st128 hQ128
    subst l128 y128 z128
    obtain ⟨rfl, Nq128, Kq128, Eq128, Cq128, t128, kb128, u128, v128, w128, Vq128, Aq128⟩ := hQ128
    have ne129 : b81 ≠ t128 := Nat.ne_of_lt (Nat.lt_of_lt_of_le f124.lt v128)
    have ne130 : b89 ≠ t128 := Nat.ne_of_lt (Nat.lt_of_lt_of_le V116.lt v128)
    have g131 : n0 ≤ t128 := Nat.le_trans f123 v128
    have sf132 : Safe Z ownEL s.vm h115 t128 := Safe.new v128
    have f134 := (Nat.le_trans (Nat.le_trans (Nat.le_trans f95 E89.1) (Keep.of_wr W104).1) (Keep.of_wr W115).1)
    have z133 : h0.size ≤ t128 := Nat.le_trans f134 v128
    have N135 := Fr.app Nh121 Nq128
    have R136 := R118.trans (CHr.keep Kq128 (sfS sf119 sf0) R118.1)
    have sf137 := Safe.keep Kq128 (sfS sf119 sf0) R118.1 sf119
    have sf138 := Safe.keep Kq128 (sfS sf119 sf0) R118.1 sf120
    have sf139 := Safe.keep Kq128 (sfS sf119 sf0) R118.1 sf132
    obtain ⟨Lh140, Xh140, Nh140⟩ := oHd 3 8 X128 N135 rfl rfl
    refine ownSt st128 ?_
    clear st128
    show oA p e below _ T128 (fr_drw m p1 nn 62  [(.ref b81)])
    have f141 := ((((((Keep.refl h0 []).ext E81).ext E89).wr W104 (Or.inr z94)).wr W115 (Or.inr z94)).trans Kq128 (allS (Or.inr z84) all0))
    have f142 := (f124.keep Kq128)
    refine ownRetH Xh140 hS0 (Nat.le_trans (Nat.le_trans (Nat.le_trans (Nat.le_trans (Nat.le_trans (Nat.le_refl _) E81.1) E89.1) (Keep.of_wr W104).1) (Keep.of_wr W115).1) Kq128.1) Bd.notSynchronized (v := some (.ref b81)) (fun h => by rw [Bd.returns] at h; cases h) ?_ (R136.trans (CHv.at Xh140 hZ hEL R136.1)) (oLe rfl) (oLe rfl) (fun fs hr => retOut Xh140 hx Bd.returns rfl (Or.inr (Or.inr (Or.inr (Or.inr ⟨rfl, rfl, rfl⟩)))) (D d1_62) hr)
    show (Q_drw Z p1 nn k G1 h0 n0) (some (.ref b81)) T128.heap _
    have hk3 : k = 2 := (oN_eq (by omega) (by omega)).mp (hn.symm.trans hc80)
    refine ⟨b81, t128, kb128, _, rfl, Nh140, f141, f142, Vq128, Cq128, by rw [hc80]; exact Aq128, ?_⟩
    exact ⟨hk3.symm, fun _ => rfl, fun _ => rfl, fun q => absurd q (by omega)⟩
   ·skip
    refine oTo s₁ (fr_drw m p1 nn 63  []) (fun t kt => ?_) ?_
    ·refine XS.icmpYes X0.here hx rfl (pc0 := 33) (pc' := 63) rfl (D d1_33) rfl (feq hc80).2 (by decide) (by decide) ?_
     exact kt
    obtain ⟨T144, h144, X144, e144, E144, A144, D144, -, st144⟩ := newO X0 hx hZ hown (Wd4 hw) (Wd5 hw) (Wd6 hw) e0 (g := (fr_drw m p1 nn 63  [])) rfl (D d1_63) (by decide) (by decide)
    obtain ⟨b144, g144⟩ : ∃ z, z = h0.size := ⟨_, rfl⟩
    rw [← g144] at A144 D144 st144
    have g145 : n0 ≤ b144 := Nat.le_trans Z0 (Nat.le_of_eq g144.symm)
    have sf146 : Safe Z ownEL s.vm h0 b144 := Safe.new (Nat.le_of_eq g144.symm)
    have z147 : h0.size ≤ b144 := Nat.le_trans (Nat.le_refl h0.size) (Nat.le_of_eq g144.symm)
    have R148 := R0.trans (CHr.ext E144 R0.1)
    have sf149 := Safe.ext E144 R0.1 sf146
    have F150 : Fld Z h144 b144 "java/lang/String" "coder" "B" (iV 0) := D144 (Or.inr (Wd34 hw)) (ty := .byte) (by decide)
    have F151 : Fld Z h144 b144 "java/lang/String" "value" "[B" .null := D144 (Or.inr (Wd36 hw)) (ty := (.array .byte)) (by decide)
    refine ownBy st144 ?_
    clear st144
    show oA p e below _ T144 (fr_drw m p1 nn 66  [(.ref b144)])
    refine oTo T144 (fr_drw m p1 nn 68  [(iV 3), (.ref b144), (.ref b144)]) (fun t kt => ?_) ?_
    ·refine XS.dup X144.here hx rfl (D d1_66) rfl rfl ?_
     refine XS.iconst X144.here hx rfl (D d1_67) ?_
     exact kt
    obtain ⟨T152, h152, k152, X152, e152, E152, A152, st152⟩ := newP X144 hx hZ (aty := .char) (Wd7 hw) e144 (g := (fr_drw m p1 nn 68  [(iV 3), (.ref b144), (.ref b144)])) rfl (D d1_68) rfl (by decide : ¬ ((3 : Int32) < (0 : Int32))) (cap := 3) (by decide) (by decide) (by decide) (by decide)
    obtain ⟨b152, g152⟩ : ∃ z, z = h144.size := ⟨_, rfl⟩
    rw [← g152] at A152 st152
    have ne153 : b144 ≠ b152 := Nat.ne_of_lt (Nat.lt_of_lt_of_le A144.lt (Nat.le_of_eq g152.symm))
    have f155 := (Nat.le_trans Z0 E144.1)
    have g154 : n0 ≤ b152 := Nat.le_trans f155 (Nat.le_of_eq g152.symm)
    have sf156 : Safe Z ownEL s.vm h144 b152 := Safe.new (Nat.le_of_eq g152.symm)
    have f158 := (Nat.le_trans (Nat.le_refl h0.size) E144.1)
    have z157 : h0.size ≤ b152 := Nat.le_trans f158 (Nat.le_of_eq g152.symm)
    have R159 := R148.trans (CHr.ext E152 R148.1)
    have sf160 := Safe.ext E152 R148.1 sf149
    have sf161 := Safe.ext E152 R148.1 sf156
    have V162 : Arv Z h152 b152 k152 .char (3 : Int32) [(iV 0), (iV 0), (iV 0)] (iV 0) := (Arv.new A152 (by decide)).pad (pad_rep [] (iV 0) 3)
    refine ownBy st152 ?_
    clear st152
    show oA p e below _ T152 (fr_drw m p1 nn 70  [(.ref b152), (.ref b144), (.ref b144)])
    refine oTo T152 (fr_drw m p1 nn 74  [(iV 0), (.int p1), (iV 0), (.ref b152), (.ref b152), (.ref b144), (.ref b144)]) (fun t kt => ?_) ?_
    ·refine XS.dup X152.here hx rfl (D d1_70) rfl rfl ?_
     refine XS.iconst X152.here hx rfl (D d1_71) ?_
     refine XS.iloadN X152.here hx rfl (D d1_72) rfl ?_
     refine XS.iconst X152.here hx rfl (D d1_73) ?_
     exact kt
    have f163 := (Nat.le_trans f155 E152.1)
    obtain ⟨vv164, _, ⟨T164, L164, k164, n164⟩, -, X164, ⟨Lc164, hQ164, l164, y164, z164⟩, st164⟩ := Jvm.LawKit.callS X152 hx (y := yM30) hown (mvT hZ (Wd8 hw)) (mvT hZ (Wd9 hw)) (mvT hZ (Wd2 hw)) (mvT hZ (Wd10 hw)) (by decide) (backOf (W := 5) (c_ch l Z a0 hw [] p1 (0 : Int32) h152 n0 f163 ) hZ (Wd10 hw) (Wd2 hw) (by decide) (by decide)) (g := (fr_drw m p1 nn 74  [(iV 0), (.int p1), (iV 0), (.ref b152), (.ref b152), (.ref b144), (.ref b144)])) rfl (by rw [hml]; rfl) (argsL := [(.int p1), (iV 0)]) (rest := [(iV 0), (.ref b152), (.ref b152), (.ref b144), (.ref b144)]) (lenOf pd_28 rfl) rfl (oWt rfl) (D d1_74) (fun _ _ => ⟨rfl, e152, oLe rfl, oLe rfl⟩)
    dsimp only [Pt.U, Pt.locs, Pt.cells, Pt.slots] at X164 l164 y164 z164 st164 hQ164
    subst l164 y164 z164
    obtain ⟨rfl, Nq164, Eq164⟩ := hQ164
    have N165 := Fr.app N0 Nq164
    obtain ⟨Lh166, Xh166, Nh166⟩ := oHd 2 7 X164 N165 rfl rfl
    refine ownBy st164 ?_
    clear st164
    show oA p e below _ T164 (fr_drw m p1 nn 77  [(.int (Ch p1 (0 : Int32))), (iV 0), (.ref b152), (.ref b152), (.ref b144), (.ref b144)])
    obtain ⟨cl167, Ar167, q167, S167, N167, H167, G167⟩ := id V162
    have hin167 : ¬ ((0 : Int32) < 0 ∨ cl167.slots.size ≤ ((0 : Int32)).toNatClampNeg) := inb_of S167 ⟨by decide, by decide⟩
    obtain ⟨T167, h167, X167, e167, W167, st167⟩ := stC Xh166 hx hZ Eq164 Ar167 (j := (0 : Int32)) hin167 (g := (fr_drw m p1 nn 77  [(.int (Ch p1 (0 : Int32))), (iV 0), (.ref b152), (.ref b152), (.ref b144), (.ref b144)])) rfl rfl (D d1_77)
    have V168 : Arv Z h167 b152 k152 .char (3 : Int32) [(.int (nar .char (Ch p1 (0 : Int32)))), (iV 0), (iV 0)] (iV 0) := Arv.set Ar167 q167 S167 N167 H167 G167 (fits_nar_char _) W167 0 rfl (oLe rfl)
    rw [own_c8 (Ch_r p1 (0 : Int32))] at V168
    clear hin167 G167 H167 N167 S167 q167 Ar167 cl167 V162
    have N169 := Fr.snoc X167 Nh166 g154
    have R170 := R159.trans (CHr.wr W167 sf161 R159.1)
    have sf171 := Safe.wr W167 sf161 R159.1 sf160
    have sf172 := Safe.wr W167 sf161 R159.1 sf161
    obtain ⟨Lh173, Xh173, Nh173⟩ := oHd 2 7 X167 N169 rfl rfl
    refine ownBy st167 ?_
    clear st167
    show oA p e below _ T167 (fr_drw m p1 nn 78  [(.ref b152), (.ref b144), (.ref b144)])
    refine oTo T167 (fr_drw m p1 nn 82  [(iV 1), (.int p1), (iV 1), (.ref b152), (.ref b152), (.ref b144), (.ref b144)]) (fun t kt => ?_) ?_
    ·refine XS.dup Xh173.here hx rfl (D d1_78) rfl rfl ?_
     refine XS.iconst Xh173.here hx rfl (D d1_79) ?_
     refine XS.iloadN Xh173.here hx rfl (D d1_80) rfl ?_
     refine XS.iconst Xh173.here hx rfl (D d1_81) ?_
     exact kt
    have f174 := (Nat.le_trans f163 (Keep.of_wr W167).1)
    obtain ⟨vv175, _, ⟨T175, L175, k175, n175⟩, -, X175, ⟨Lc175, hQ175, l175, y175, z175⟩, st175⟩ := Jvm.LawKit.callS Xh173 hx (y := yM30) hown (mvT hZ (Wd8 hw)) (mvT hZ (Wd9 hw)) (mvT hZ (Wd2 hw)) (mvT hZ (Wd10 hw)) (by decide) (backOf (W := 5) (c_ch l Z a0 hw [] p1 (1 : Int32) h167 n0 f174 ) hZ (Wd10 hw) (Wd2 hw) (by decide) (by decide)) (g := (fr_drw m p1 nn 82  [(iV 1), (.int p1), (iV 1), (.ref b152), (.ref b152), (.ref b144), (.ref b144)])) rfl (by rw [hml]; rfl) (argsL := [(.int p1), (iV 1)]) (rest := [(iV 1), (.ref b152), (.ref b152), (.ref b144), (.ref b144)]) (lenOf pd_28 rfl) rfl (oWt rfl) (D d1_82) (fun _ _ => ⟨rfl, e167, oLe rfl, oLe rfl⟩)
    dsimp only [Pt.U, Pt.locs, Pt.cells, Pt.slots] at X175 l175 y175 z175 st175 hQ175
    subst l175 y175 z175
    obtain ⟨rfl, Nq175, Eq175⟩ := hQ175
    have N176 := Fr.app Nh173 Nq175
    obtain ⟨Lh177, Xh177, Nh177⟩ := oHd 2 7 X175 N176 rfl rfl
    refine ownBy st175 ?_
    clear st175
    show oA p e below _ T175 (fr_drw m p1 nn 85  [(.int (Ch p1 (1 : Int32))), (iV 1), (.ref b152), (.ref b152), (.ref b144), (.ref b144)])
    obtain ⟨cl178, Ar178, q178, S178, N178, H178, G178⟩ := id V168
    have hin178 : ¬ ((1 : Int32) < 0 ∨ cl178.slots.size ≤ ((1 : Int32)).toNatClampNeg) := inb_of S178 ⟨by decide, by decide⟩
    obtain ⟨T178, h178, X178, e178, W178, st178⟩ := stC Xh177 hx hZ Eq175 Ar178 (j := (1 : Int32)) hin178 (g := (fr_drw m p1 nn 85  [(.int (Ch p1 (1 : Int32))), (iV 1), (.ref b152), (.ref b152), (.ref b144), (.ref b144)])) rfl rfl (D d1_85)
    have V179 : Arv Z h178 b152 k152 .char (3 : Int32) [(.int (Ch p1 (0 : Int32))), (.int (nar .char (Ch p1 (1 : Int32)))), (iV 0)] (iV 0) := Arv.set Ar178 q178 S178 N178 H178 G178 (fits_nar_char _) W178 1 rfl (oLe rfl)
    rw [own_c8 (Ch_r p1 (1 : Int32))] at V179
    clear hin178 G178 H178 N178 S178 q178 Ar178 cl178 V168
    have N180 := Fr.snoc X178 Nh177 g154
    have R181 := R170.trans (CHr.wr W178 sf172 R170.1)
    have sf182 := Safe.wr W178 sf172 R170.1 sf171
    have sf183 := Safe.wr W178 sf172 R170.1 sf172
    obtain ⟨Lh184, Xh184, Nh184⟩ := oHd 2 7 X178 N180 rfl rfl
    refine ownBy st178 ?_
    clear st178
    show oA p e below _ T178 (fr_drw m p1 nn 86  [(.ref b152), (.ref b144), (.ref b144)])
    refine oTo T178 (fr_drw m p1 nn 90  [(iV 2), (.int p1), (iV 2), (.ref b152), (.ref b152), (.ref b144), (.ref b144)]) (fun t kt => ?_) ?_
    ·refine XS.dup Xh184.here hx rfl (D d1_86) rfl rfl ?_
     refine XS.iconst Xh184.here hx rfl (D d1_87) ?_
     refine XS.iloadN Xh184.here hx rfl (D d1_88) rfl ?_
     refine XS.iconst Xh184.here hx rfl (D d1_89) ?_
     exact kt
    have f185 := (Nat.le_trans f174 (Keep.of_wr W178).1)
    obtain ⟨vv186, _, ⟨T186, L186, k186, n186⟩, -, X186, ⟨Lc186, hQ186, l186, y186, z186⟩, st186⟩ := Jvm.LawKit.callS Xh184 hx (y := yM30) hown (mvT hZ (Wd8 hw)) (mvT hZ (Wd9 hw)) (mvT hZ (Wd2 hw)) (mvT hZ (Wd10 hw)) (by decide) (backOf (W := 5) (c_ch l Z a0 hw [] p1 (2 : Int32) h178 n0 f185 ) hZ (Wd10 hw) (Wd2 hw) (by decide) (by decide)) (g := (fr_drw m p1 nn 90  [(iV 2), (.int p1), (iV 2), (.ref b152), (.ref b152), (.ref b144), (.ref b144)])) rfl (by rw [hml]; rfl) (argsL := [(.int p1), (iV 2)]) (rest := [(iV 2), (.ref b152), (.ref b152), (.ref b144), (.ref b144)]) (lenOf pd_28 rfl) rfl (oWt rfl) (D d1_90) (fun _ _ => ⟨rfl, e178, oLe rfl, oLe rfl⟩)
    dsimp only [Pt.U, Pt.locs, Pt.cells, Pt.slots] at X186 l186 y186 z186 st186 hQ186
    subst l186 y186 z186
    obtain ⟨rfl, Nq186, Eq186⟩ := hQ186
    have N187 := Fr.app Nh184 Nq186
    obtain ⟨Lh188, Xh188, Nh188⟩ := oHd 2 7 X186 N187 rfl rfl
    refine ownBy st186 ?_
    clear st186
    show oA p e below _ T186 (fr_drw m p1 nn 93  [(.int (Ch p1 (2 : Int32))), (iV 2), (.ref b152), (.ref b152), (.ref b144), (.ref b144)])
    obtain ⟨cl189, Ar189, q189, S189, N189, H189, G189⟩ := id V179
    have hin189 : ¬ ((2 : Int32) < 0 ∨ cl189.slots.size ≤ ((2 : Int32)).toNatClampNeg) := inb_of S189 ⟨by decide, by decide⟩
    obtain ⟨T189, h189, X189, e189, W189, st189⟩ := stC Xh188 hx hZ Eq186 Ar189 (j := (2 : Int32)) hin189 (g := (fr_drw m p1 nn 93  [(.int (Ch p1 (2 : Int32))), (iV 2), (.ref b152), (.ref b152), (.ref b144), (.ref b144)])) rfl rfl (D d1_93)
    have V190 : Arv Z h189 b152 k152 .char (3 : Int32) [(.int (Ch p1 (0 : Int32))), (.int (Ch p1 (1 : Int32))), (.int (nar .char (Ch p1 (2 : Int32))))] (iV 0) := Arv.set Ar189 q189 S189 N189 H189 G189 (fits_nar_char _) W189 2 rfl (oLe rfl)
    rw [own_c8 (Ch_r p1 (2 : Int32))] at V190
    clear hin189 G189 H189 N189 S189 q189 Ar189 cl189 V179
    have N191 := Fr.snoc X189 Nh188 g154
    have R192 := R181.trans (CHr.wr W189 sf183 R181.1)
    have sf193 := Safe.wr W189 sf183 R181.1 sf182
    have sf194 := Safe.wr W189 sf183 R181.1 sf183
    obtain ⟨Lh195, Xh195, Nh195⟩ := oHd 2 7 X189 N191 rfl rfl
    refine ownBy st189 ?_
    clear st189
    show oA p e below _ T189 (fr_drw m p1 nn 94  [(.ref b152), (.ref b144), (.ref b144)])
    have hp196 : ∀ c ∈ ([(Ch p1 (0 : Int32)), (Ch p1 (1 : Int32)), (Ch p1 (2 : Int32))] : List Int32), ¬ c < 0 ∧ ¬ (255 : Int32) < c := by
     intro c hc
     simp only [List.mem_cons, List.not_mem_nil, or_false] at hc
     rcases hc with rfl | rfl | rfl
     ·exact (Ch_r p1 (0 : Int32))
     ·exact (Ch_r p1 (1 : Int32))
     ·exact (Ch_r p1 (2 : Int32))
    have f197 := (Nat.le_trans f185 (Keep.of_wr W189).1)
    have f198 := ((((A144.ext E152).wr W167).wr W178).wr W189)
    have f199 := ((((F151.ext E152).other W167 (Or.inl ne153)).other W178 (Or.inl ne153)).other W189 (Or.inl ne153))
    have f200 := ((((F150.ext E152).other W167 (Or.inl ne153)).other W178 (Or.inl ne153)).other W189 (Or.inl ne153))
    have f201 := (((((X00.ext E144).ext E152).wr W167 g154).wr W178 g154).wr W189 g154)
    obtain ⟨vv202, _, ⟨T202, L202, k202, n202⟩, -, X202, ⟨Lc202, hQ202, l202, y202, z202⟩, st202⟩ := Xh195.specialBack hx (y := yM32) rfl hown (mvT hZ (Wd11 hw)) (mvT hZ (Wd12 hw)) (mvT hZ (Wd13 hw)) (by decide) (StrChars.Road.backV (W := 1) hZ hws (kI := 4) (Wd5 hw) (cs := ([(Ch p1 (0 : Int32)), (Ch p1 (1 : Int32)), (Ch p1 (2 : Int32))] : List Int32)) (bs := (([(Ch p1 (0 : Int32)), (Ch p1 (1 : Int32)), (Ch p1 (2 : Int32))] : List Int32)).map (fun c => c.toInt8.toInt32)) (n := 3) g145 f197 f198 f199 f200 V190 (O2.ext f201.2) P5 rfl rfl (by decide) (by decide) hp196 rfl (by decide) (by decide)) (g := (fr_drw m p1 nn 94  [(.ref b152), (.ref b144), (.ref b144)])) rfl (by rw [hml]; rfl) (Steps.refl _) (a := b144) (argsL := [(.ref b152)]) (rest := [(.ref b144)]) (lenOf pd_29 rfl) rfl (oWt rfl) (D d1_94) (fun _ _ => ⟨rfl, e189, oLe rfl, oLe rfl⟩)
    dsimp only [Pt.U, Pt.locs, Pt.cells, Pt.slots] at X202 l202 y202 z202 st202 hQ202
    subst l202 y202 z202
    obtain ⟨rfl, Nq202, Kq202, Eq202, Cq202, t202, kb202, u202, v202, w202, Vq202, Aq202⟩ := hQ202
    have ne203 : b144 ≠ t202 := Nat.ne_of_lt (Nat.lt_of_lt_of_le f198.lt v202)
    have ne204 : b152 ≠ t202 := Nat.ne_of_lt (Nat.lt_of_lt_of_le V190.lt v202)
    have g205 : n0 ≤ t202 := Nat.le_trans f197 v202
    have sf206 : Safe Z ownEL s.vm h189 t202 := Safe.new v202
    have f208 := (Nat.le_trans (Nat.le_trans (Nat.le_trans (Nat.le_trans f158 E152.1) (Keep.of_wr W167).1) (Keep.of_wr W178).1) (Keep.of_wr W189).1)
    have z207 : h0.size ≤ t202 := Nat.le_trans f208 v202
    have N209 := Fr.app Nh195 Nq202
    have R210 := R192.trans (CHr.keep Kq202 (sfS sf193 sf0) R192.1)
    have sf211 := Safe.keep Kq202 (sfS sf193 sf0) R192.1 sf193
    have sf212 := Safe.keep Kq202 (sfS sf193 sf0) R192.1 sf194
    have sf213 := Safe.keep Kq202 (sfS sf193 sf0) R192.1 sf206
    obtain ⟨Lh214, Xh214, Nh214⟩ := oHd 3 10 X202 N209 rfl rfl
    refine ownSt st202 ?_
    clear st202
    show oA p e below _ T202 (fr_drw m p1 nn 97  [(.ref b144)])
    have f215 := (((((((Keep.refl h0 []).ext E144).ext E152).wr W167 (Or.inr z157)).wr W178 (Or.inr z157)).wr W189 (Or.inr z157)).trans Kq202 (allS (Or.inr z147) all0))
    have f216 := (f198.keep Kq202)
    refine ownRetH Xh214 hS0 (Nat.le_trans (Nat.le_trans (Nat.le_trans (Nat.le_trans (Nat.le_trans (Nat.le_trans (Nat.le_refl _) E144.1) E152.1) (Keep.of_wr W167).1) (Keep.of_wr W178).1) (Keep.of_wr W189).1) Kq202.1) Bd.notSynchronized (v := some (.ref b144)) (fun h => by rw [Bd.returns] at h; cases h) ?_ (R210.trans (CHv.at Xh214 hZ hEL R210.1)) (oLe rfl) (oLe rfl) (fun fs hr => retOut Xh214 hx Bd.returns rfl (Or.inr (Or.inr (Or.inr (Or.inr ⟨rfl, rfl, rfl⟩)))) (D d1_97) hr)
    show (Q_drw Z p1 nn k G1 h0 n0) (some (.ref b144)) T202.heap _
    have hk3 : k = 3 := by
     have e0 : k ≠ 0 := fun q => hc21 (by rw [hn, q]; rfl)
     have e1 : k ≠ 1 := fun q => hc27 (by rw [hn, q]; rfl)
     have e2 : k ≠ 2 := fun q => hc80 (by rw [hn, q]; rfl)
     omega
    have hz3 : nn = (3 : Int32) := by rw [hn, hk3]; rfl
    refine ⟨b144, t202, kb202, _, rfl, Nh214, f215, f216, Vq202, Cq202, by rw [hz3]; exact Aq202, ?_⟩
    exact ⟨hk3.symm, fun _ => rfl, fun _ => rfl, fun _ => rfl⟩
abbrev fr_dra (m : MethodId) (x : Addr) (ps : Int32) (p1 : Int32) (nn : Int32) (pc : Nat)  (st : List Value) : JFrame := mkF m pc #[vR x, vI ps, vI p1, vI nn] st
def Q_dra (Z : State) (x : Addr) (ta : Addr) (kb : ClassId) (z : Int32) (us : List Value) (ps : Int32) (p1 : Int32) (nn : Int32) (k : Nat) (G1 : Int32) (G3 : Value) (h0 : Heap) (n0 : Nat) (v : Option Value) (h : Heap) (L : List Loc) : Prop := v = some (iV 1) ∧ Fr n0 L ∧ h = h0
theorem ef_dra (m : MethodId) (x0 : Addr) (x1 : Int32) (x2 : Int32) (x3 : Int32)  : entryFrame m #[(.ref x0), (.int x1), (.int x2), (.int x3)] 4 = mkF m 0 #[vR x0, vI x1, vI x2, vI x3] [] := by first | (simp [entryFrame, mkF, argsToLocals, Value.category]; done) | rfl
set_option maxRecDepth 65536 in
set_option maxHeartbeats 40000000 in
theorem c_dra (l : Launch) (Z : State) (a0 : Array Value) (hw : HW a0 Z) (ws : List Jvm.Cond) (x : Addr) (ta : Addr) (kb : ClassId) (z : Int32) (us : List Value) (ps : Int32) (p1 : Int32) (nn : Int32) (k : Nat) (G1 : Int32) (G3 : Value) (h0 : Heap) (n0 : Nat) (Z0 : n0 ≤ h0.size) (Es : Exa Z h0 x "java/lang/String") (Vs : Fld Z h0 x "java/lang/String" "value" "[B" (.ref ta)) (Cs : Fld Z h0 x "java/lang/String" "coder" "B" (iV 0)) (Ks : Arv Z h0 ta kb .byte z us (iV 0)) (hn : nn = oN k) (hk : k ≤ 3) (hD : Dra z us ps p1 k) (O2 : Sta Z Z.heap "java/lang/String" "COMPACT_STRINGS" "Z" (.int G1)) (P5 : ¬ (G1 = (0 : Int32))) (O4 : Sta Z Z.heap "jdk/internal/util/Preconditions" "SIOOBE_FORMATTER" "Ljava/util/function/BiFunction;" G3) (rG3 : G3.isRef = true) (X00 : Old Z n0 h0) :
  MetFree l yM33 (head1 (Jvm.Cond.code yM33 method_5_code 4 (some .boolean) :: ws) ({ frames := 4, cells := 0, slots := 0, locals := 60 } : Room)) (fun a U => a = #[(.ref x), (.int ps), (.int p1), (.int nn)] ∧ Z.Warmed39 U.vm ∧ U.heap = h0) (fun _ _ _ _ _ => True) (fun _ U o U' => ∃ v L, o = .returned v ∧ (Q_dra Z x ta kb z us ps p1 nn k G1 G3 h0 n0) v U'.heap L ∧ FrameEnd U o U' L ({ frames := 4, cells := 0, slots := 0, locals := 60 } : Room).cells ({ frames := 4, cells := 0, slots := 0, locals := 60 } : Room).slots) := by
 refine MetFree.of_bodySF (plainFor_of_name pn_27) hisR ?_
 intro p e s m args below meth c s₁ Bd hml0 hP hK
 obtain ⟨rfl, hZ, hHp⟩ := hP
 have hx := Bd.exec
 have D := fun {pc : Nat} {r} (h : decode _ pc = r) => hb Bd.bytes h
 have hml : c.maxLocals = 4 := hml0
 have hown : s.vm.findClass "com/example/savepoint/savepoint/AnnotationLookupNeverAppliesPinLaw" = some m.cls := findClass_of_methodNamed Bd.named
 have hnm := (name_of_methodNamed Bd.named Bd.method).1
 have X0 : Stand p l e ({ frames := 4, cells := 0, slots := 0, locals := 60 } : Room) s m #[(.ref x), (.int ps), (.int p1), (.int nn)] below meth c s₁ [] 0 0 := Stand.of_body Bd
 have e0 : s₁.heap = h0 := by rw [← hHp, Bd.state]; rfl
 have N0 := Fr.nil n0
 refine ownOut (P := (Q_dra Z x ta kb z us ps p1 nn k G1 G3 h0 n0)) ?_
 refine ownBy (A := s₁.setTop (mkF m 0 #[vR x, vI ps, vI p1, vI nn] [])) (fun t k => castTop (ef_dra m x ps p1 nn) k) ?_
 refine oTo s₁ (fr_dra m x ps p1 nn 2  [(iV 1), (.int nn)]) (fun t kt => ?_) ?_
 ·refine XS.iloadN X0.here hx rfl (D d38_0) rfl ?_
  refine XS.iconst X0.here hx rfl (D d38_1) ?_
  exact kt
 by_cases hc21 : nn < (1 : Int32)
 ·skip
  refine oTo s₁ (fr_dra m x ps p1 nn 20  [(iV 2), (.int nn)]) (fun t kt => ?_) ?_
  ·refine XS.icmpYes X0.here hx rfl (pc0 := 2) (pc' := 18) rfl (D d38_2) rfl (tlt hc21).1 (by decide) (by decide) ?_
   refine XS.iloadN X0.here hx rfl (D d38_18) rfl ?_
   refine XS.iconst X0.here hx rfl (D d38_19) ?_
   exact kt
  by_cases hc22 : nn < (2 : Int32)
  ·skip
   refine oTo s₁ (fr_dra m x ps p1 nn 40  [(iV 3), (.int nn)]) (fun t kt => ?_) ?_
   ·refine XS.icmpYes X0.here hx rfl (pc0 := 20) (pc' := 38) rfl (D d38_20) rfl (tlt hc22).1 (by decide) (by decide) ?_
    refine XS.iloadN X0.here hx rfl (D d38_38) rfl ?_
    refine XS.iconst X0.here hx rfl (D d38_39) ?_
    exact kt
   by_cases hc23 : nn < (3 : Int32)
   ·skip
    refine oTo s₁ (fr_dra m x ps p1 nn 63  [(iV 1)]) (fun t kt => ?_) ?_
    ·refine XS.icmpYes X0.here hx rfl (pc0 := 40) (pc' := 58) rfl (D d38_40) rfl (tlt hc23).1 (by decide) (by decide) ?_
     refine XS.iconst X0.here hx rfl (D d38_58) ?_
     refine XS.goto X0.here hx rfl (pc0 := 59) (pc' := 63) rfl (D d38_59) (by decide) (by decide) ?_
     exact kt
    refine ownRet X0 Bd.notSynchronized (v := some (.int (nar .boolean (1 : Int32)))) (fun h => by rw [Bd.returns] at h; cases h) ?_ (oLe rfl) (oLe rfl) (fun fs hr => retN X0 hx (t := .boolean) Bd.returns (by simp) (D d38_63) hr)
    show (Q_dra Z x ta kb z us ps p1 nn k G1 G3 h0 n0) (some (.int (nar .boolean (1 : Int32)))) s₁.heap _
    rw [e0]
    exact ⟨rfl, N0, rfl⟩
   ·skip
    refine oTo s₁ (fr_dra m x ps p1 nn 47  [(.int (ps + (2 : Int32))), (.ref x)]) (fun t kt => ?_) ?_
    ·refine XS.icmpNo X0.here hx rfl (D d38_40) rfl (flt hc23).1 ?_
     refine XS.aloadN X0.here hx rfl (D d38_43) rfl rfl ?_
     refine XS.iloadN X0.here hx rfl (D d38_44) rfl ?_
     refine XS.iconst X0.here hx rfl (D d38_45) ?_
     show Steps p.tables e below (s₁.setTop (fr_dra m x ps p1 nn 46  [(iV 2), (.int ps), (.ref x)])) t
     refine XS.iadd X0.here hx rfl (D d38_46) rfl ?_
     exact kt
    obtain ⟨cq24, kq24, q24a, q24b, q24c⟩ := isOf hZ e0 Es
    obtain ⟨vv24, _, ⟨T24, L24, k24, n24⟩, -, X24, ⟨Lc24, hQ24, l24, y24, z24⟩, st24⟩ := X0.virtualBack hx (y := yM6) (z := yM6) hown (mvT hZ (Wd201 hw)) (mvT hZ (Wd202 hw)) (oNf hZ (Wd204 hw)) (mvT hZ (Wd204 hw)) (mvT hZ (Wd203 hw)) (by decide) (backOf (W := 0) (c_chat l Z a0 hw [] x ta kb z us (ps + (2 : Int32)) (Ch p1 (2 : Int32)) G1 G3 h0 n0 Z0 Es Vs Cs Ks (hD.2.2 (oN_ge (by omega) (by omega) (hn ▸ hc23))) O2 P5 O4 rG3 X00) hZ (Wd205 hw) (Wd6 hw) (by decide) (by decide)) q24a q24c (g := (fr_dra m x ps p1 nn 47  [(.int (ps + (2 : Int32))), (.ref x)])) rfl (by rw [hml]; rfl) (Steps.refl _) (argsL := [(.int (ps + (2 : Int32)))]) (rest := []) (lenOf pd_30 rfl) rfl (oWt rfl) (D d38_47) (fun _ _ => ⟨rfl, e0, oLe rfl, oLe rfl⟩)
    dsimp only [Pt.U, Pt.locs, Pt.cells, Pt.slots] at X24 l24 y24 z24 st24 hQ24
    subst l24 y24 z24
    obtain ⟨rfl, Nq24, Eq24⟩ := hQ24
    have N25 := Fr.app N0 Nq24
    obtain ⟨Lh26, Xh26, Nh26⟩ := oHd 0 0 X24 N25 rfl rfl
    refine ownSt st24 ?_
    clear st24
    show oA p e below _ T24 (fr_dra m x ps p1 nn 50  [(.int (Ch p1 (2 : Int32)))])
    refine oTo T24 (fr_dra m x ps p1 nn 52  [(iV 2), (.int p1), (.int (Ch p1 (2 : Int32)))]) (fun t kt => ?_) ?_
    ·refine XS.iloadN Xh26.here hx rfl (D d38_50) rfl ?_
     refine XS.iconst Xh26.here hx rfl (D d38_51) ?_
     exact kt
    obtain ⟨vv27, _, ⟨T27, L27, k27, n27⟩, -, X27, ⟨Lc27, hQ27, l27, y27, z27⟩, st27⟩ := Jvm.LawKit.callS Xh26 hx (y := yM30) hown (mvT hZ (Wd8 hw)) (mvT hZ (Wd9 hw)) (mvT hZ (Wd2 hw)) (mvT hZ (Wd10 hw)) (by decide) (backOf (W := 1) (c_ch l Z a0 hw [] p1 (2 : Int32) h0 n0 Z0 ) hZ (Wd10 hw) (Wd2 hw) (by decide) (by decide)) (g := (fr_dra m x ps p1 nn 52  [(iV 2), (.int p1), (.int (Ch p1 (2 : Int32)))])) rfl (by rw [hml]; rfl) (argsL := [(.int p1), (iV 2)]) (rest := [(.int (Ch p1 (2 : Int32)))]) (lenOf pd_28 rfl) rfl (oWt rfl) (D d38_52) (fun _ _ => ⟨rfl, Eq24, oLe rfl, oLe rfl⟩)
    dsimp only [Pt.U, Pt.locs, Pt.cells, Pt.slots] at X27 l27 y27 z27 st27 hQ27
    subst l27 y27 z27
    obtain ⟨rfl, Nq27, Eq27⟩ := hQ27
    have N28 := Fr.app Nh26 Nq27
    obtain ⟨Lh29, Xh29, Nh29⟩ := oHd 0 0 X27 N28 rfl rfl
    refine ownBy st27 ?_
    clear st27
    show oA p e below _ T27 (fr_dra m x ps p1 nn 55  [(.int (Ch p1 (2 : Int32))), (.int (Ch p1 (2 : Int32)))])
    refine oTo T27 (fr_dra m x ps p1 nn 63  [(iV 1)]) (fun t kt => ?_) ?_
    ·refine XS.icmpNo Xh29.here hx rfl (D d38_55) rfl (teq (rfl : (Ch p1 (2 : Int32)) = (Ch p1 (2 : Int32)))).2 ?_
     refine XS.iconst Xh29.here hx rfl (D d38_58) ?_
     refine XS.goto Xh29.here hx rfl (pc0 := 59) (pc' := 63) rfl (D d38_59) (by decide) (by decide) ?_
     exact kt
    refine ownRet Xh29 Bd.notSynchronized (v := some (.int (nar .boolean (1 : Int32)))) (fun h => by rw [Bd.returns] at h; cases h) ?_ (oLe rfl) (oLe rfl) (fun fs hr => retN Xh29 hx (t := .boolean) Bd.returns (by simp) (D d38_63) hr)
    show (Q_dra Z x ta kb z us ps p1 nn k G1 G3 h0 n0) (some (.int (nar .boolean (1 : Int32)))) T27.heap _
    rw [Eq27]
    exact ⟨rfl, Nh29, rfl⟩
  ·skip
   refine oTo s₁ (fr_dra m x ps p1 nn 27  [(.int (ps + (1 : Int32))), (.ref x)]) (fun t kt => ?_) ?_
   ·refine XS.icmpNo X0.here hx rfl (D d38_20) rfl (flt hc22).1 ?_
    refine XS.aloadN X0.here hx rfl (D d38_23) rfl rfl ?_
    refine XS.iloadN X0.here hx rfl (D d38_24) rfl ?_
    refine XS.iconst X0.here hx rfl (D d38_25) ?_
    show Steps p.tables e below (s₁.setTop (fr_dra m x ps p1 nn 26  [(iV 1), (.int ps), (.ref x)])) t
    refine XS.iadd X0.here hx rfl (D d38_26) rfl ?_
    exact kt
   obtain ⟨cq30, kq30, q30a, q30b, q30c⟩ := isOf hZ e0 Es
   obtain ⟨vv30, _, ⟨T30, L30, k30, n30⟩, -, X30, ⟨Lc30, hQ30, l30, y30, z30⟩, st30⟩ := X0.virtualBack hx (y := yM6) (z := yM6) hown (mvT hZ (Wd201 hw)) (mvT hZ (Wd202 hw)) (oNf hZ (Wd204 hw)) (mvT hZ (Wd204 hw)) (mvT hZ (Wd203 hw)) (by decide) (backOf (W := 0) (c_chat l Z a0 hw [] x ta kb z us (ps + (1 : Int32)) (Ch p1 (1 : Int32)) G1 G3 h0 n0 Z0 Es Vs Cs Ks (hD.2.1 (oN_ge (by omega) (by omega) (hn ▸ hc22))) O2 P5 O4 rG3 X00) hZ (Wd205 hw) (Wd6 hw) (by decide) (by decide)) q30a q30c (g := (fr_dra m x ps p1 nn 27  [(.int (ps + (1 : Int32))), (.ref x)])) rfl (by rw [hml]; rfl) (Steps.refl _) (argsL := [(.int (ps + (1 : Int32)))]) (rest := []) (lenOf pd_30 rfl) rfl (oWt rfl) (D d38_27) (fun _ _ => ⟨rfl, e0, oLe rfl, oLe rfl⟩)
   dsimp only [Pt.U, Pt.locs, Pt.cells, Pt.slots] at X30 l30 y30 z30 st30 hQ30
   subst l30 y30 z30
   obtain ⟨rfl, Nq30, Eq30⟩ := hQ30
   have N31 := Fr.app N0 Nq30
   obtain ⟨Lh32, Xh32, Nh32⟩ := oHd 0 0 X30 N31 rfl rfl
   refine ownSt st30 ?_
   clear st30
   show oA p e below _ T30 (fr_dra m x ps p1 nn 30  [(.int (Ch p1 (1 : Int32)))])
   refine oTo T30 (fr_dra m x ps p1 nn 32  [(iV 1), (.int p1), (.int (Ch p1 (1 : Int32)))]) (fun t kt => ?_) ?_
   ·refine XS.iloadN Xh32.here hx rfl (D d38_30) rfl ?_
    refine XS.iconst Xh32.here hx rfl (D d38_31) ?_
    exact kt
   obtain ⟨vv33, _, ⟨T33, L33, k33, n33⟩, -, X33, ⟨Lc33, hQ33, l33, y33, z33⟩, st33⟩ := Jvm.LawKit.callS Xh32 hx (y := yM30) hown (mvT hZ (Wd8 hw)) (mvT hZ (Wd9 hw)) (mvT hZ (Wd2 hw)) (mvT hZ (Wd10 hw)) (by decide) (backOf (W := 1) (c_ch l Z a0 hw [] p1 (1 : Int32) h0 n0 Z0 ) hZ (Wd10 hw) (Wd2 hw) (by decide) (by decide)) (g := (fr_dra m x ps p1 nn 32  [(iV 1), (.int p1), (.int (Ch p1 (1 : Int32)))])) rfl (by rw [hml]; rfl) (argsL := [(.int p1), (iV 1)]) (rest := [(.int (Ch p1 (1 : Int32)))]) (lenOf pd_28 rfl) rfl (oWt rfl) (D d38_32) (fun _ _ => ⟨rfl, Eq30, oLe rfl, oLe rfl⟩)
   dsimp only [Pt.U, Pt.locs, Pt.cells, Pt.slots] at X33 l33 y33 z33 st33 hQ33
   subst l33 y33 z33
   obtain ⟨rfl, Nq33, Eq33⟩ := hQ33
   have N34 := Fr.app Nh32 Nq33
   obtain ⟨Lh35, Xh35, Nh35⟩ := oHd 0 0 X33 N34 rfl rfl
   refine ownBy st33 ?_
   clear st33
   show oA p e below _ T33 (fr_dra m x ps p1 nn 35  [(.int (Ch p1 (1 : Int32))), (.int (Ch p1 (1 : Int32)))])
   refine oTo T33 (fr_dra m x ps p1 nn 40  [(iV 3), (.int nn)]) (fun t kt => ?_) ?_
   ·refine XS.icmpNo Xh35.here hx rfl (D d38_35) rfl (teq (rfl : (Ch p1 (1 : Int32)) = (Ch p1 (1 : Int32)))).2 ?_
    refine XS.iloadN Xh35.here hx rfl (D d38_38) rfl ?_
    refine XS.iconst Xh35.here hx rfl (D d38_39) ?_
    exact kt
   by_cases hc36 : nn < (3 : Int32)
   ·skip
    refine oTo T33 (fr_dra m x ps p1 nn 63  [(iV 1)]) (fun t kt => ?_) ?_
    ·refine XS.icmpYes Xh35.here hx rfl (pc0 := 40) (pc' := 58) rfl (D d38_40) rfl (tlt hc36).1 (by decide) (by decide) ?_
     refine XS.iconst Xh35.here hx rfl (D d38_58) ?_
     refine XS.goto Xh35.here hx rfl (pc0 := 59) (pc' := 63) rfl (D d38_59) (by decide) (by decide) ?_
     exact kt
    refine ownRet Xh35 Bd.notSynchronized (v := some (.int (nar .boolean (1 : Int32)))) (fun h => by rw [Bd.returns] at h; cases h) ?_ (oLe rfl) (oLe rfl) (fun fs hr => retN Xh35 hx (t := .boolean) Bd.returns (by simp) (D d38_63) hr)
    show (Q_dra Z x ta kb z us ps p1 nn k G1 G3 h0 n0) (some (.int (nar .boolean (1 : Int32)))) T33.heap _
    rw [Eq33]
    exact ⟨rfl, Nh35, rfl⟩
   ·skip
    refine oTo T33 (fr_dra m x ps p1 nn 47  [(.int (ps + (2 : Int32))), (.ref x)]) (fun t kt => ?_) ?_
    ·refine XS.icmpNo Xh35.here hx rfl (D d38_40) rfl (flt hc36).1 ?_
     refine XS.aloadN Xh35.here hx rfl (D d38_43) rfl rfl ?_
     refine XS.iloadN Xh35.here hx rfl (D d38_44) rfl ?_
     refine XS.iconst Xh35.here hx rfl (D d38_45) ?_
     show Steps p.tables e below (T33.setTop (fr_dra m x ps p1 nn 46  [(iV 2), (.int ps), (.ref x)])) t
     refine XS.iadd Xh35.here hx rfl (D d38_46) rfl ?_
     exact kt
    obtain ⟨cq37, kq37, q37a, q37b, q37c⟩ := isOf hZ Eq33 Es
    obtain ⟨vv37, _, ⟨T37, L37, k37, n37⟩, -, X37, ⟨Lc37, hQ37, l37, y37, z37⟩, st37⟩ := Xh35.virtualBack hx (y := yM6) (z := yM6) hown (mvT hZ (Wd201 hw)) (mvT hZ (Wd202 hw)) (oNf hZ (Wd204 hw)) (mvT hZ (Wd204 hw)) (mvT hZ (Wd203 hw)) (by decide) (backOf (W := 0) (c_chat l Z a0 hw [] x ta kb z us (ps + (2 : Int32)) (Ch p1 (2 : Int32)) G1 G3 h0 n0 Z0 Es Vs Cs Ks (hD.2.2 (oN_ge (by omega) (by omega) (hn ▸ hc36))) O2 P5 O4 rG3 X00) hZ (Wd205 hw) (Wd6 hw) (by decide) (by decide)) q37a q37c (g := (fr_dra m x ps p1 nn 47  [(.int (ps + (2 : Int32))), (.ref x)])) rfl (by rw [hml]; rfl) (Steps.refl _) (argsL := [(.int (ps + (2 : Int32)))]) (rest := []) (lenOf pd_30 rfl) rfl (oWt rfl) (D d38_47) (fun _ _ => ⟨rfl, Eq33, oLe rfl, oLe rfl⟩)
    dsimp only [Pt.U, Pt.locs, Pt.cells, Pt.slots] at X37 l37 y37 z37 st37 hQ37
    subst l37 y37 z37
    obtain ⟨rfl, Nq37, Eq37⟩ := hQ37
    have N38 := Fr.app Nh35 Nq37
    obtain ⟨Lh39, Xh39, Nh39⟩ := oHd 0 0 X37 N38 rfl rfl
    refine ownSt st37 ?_
    clear st37
    show oA p e below _ T37 (fr_dra m x ps p1 nn 50  [(.int (Ch p1 (2 : Int32)))])
    refine oTo T37 (fr_dra m x ps p1 nn 52  [(iV 2), (.int p1), (.int (Ch p1 (2 : Int32)))]) (fun t kt => ?_) ?_
    ·refine XS.iloadN Xh39.here hx rfl (D d38_50) rfl ?_
     refine XS.iconst Xh39.here hx rfl (D d38_51) ?_
     exact kt
    obtain ⟨vv40, _, ⟨T40, L40, k40, n40⟩, -, X40, ⟨Lc40, hQ40, l40, y40, z40⟩, st40⟩ := Jvm.LawKit.callS Xh39 hx (y := yM30) hown (mvT hZ (Wd8 hw)) (mvT hZ (Wd9 hw)) (mvT hZ (Wd2 hw)) (mvT hZ (Wd10 hw)) (by decide) (backOf (W := 1) (c_ch l Z a0 hw [] p1 (2 : Int32) h0 n0 Z0 ) hZ (Wd10 hw) (Wd2 hw) (by decide) (by decide)) (g := (fr_dra m x ps p1 nn 52  [(iV 2), (.int p1), (.int (Ch p1 (2 : Int32)))])) rfl (by rw [hml]; rfl) (argsL := [(.int p1), (iV 2)]) (rest := [(.int (Ch p1 (2 : Int32)))]) (lenOf pd_28 rfl) rfl (oWt rfl) (D d38_52) (fun _ _ => ⟨rfl, Eq37, oLe rfl, oLe rfl⟩)
    dsimp only [Pt.U, Pt.locs, Pt.cells, Pt.slots] at X40 l40 y40 z40 st40 hQ40
    subst l40 y40 z40
    obtain ⟨rfl, Nq40, Eq40⟩ := hQ40
    have N41 := Fr.app Nh39 Nq40
    obtain ⟨Lh42, Xh42, Nh42⟩ := oHd 0 0 X40 N41 rfl rfl
    refine ownBy st40 ?_
    clear st40
    show oA p e below _ T40 (fr_dra m x ps p1 nn 55  [(.int (Ch p1 (2 : Int32))), (.int (Ch p1 (2 : Int32)))])
    refine oTo T40 (fr_dra m x ps p1 nn 63  [(iV 1)]) (fun t kt => ?_) ?_
    ·refine XS.icmpNo Xh42.here hx rfl (D d38_55) rfl (teq (rfl : (Ch p1 (2 : Int32)) = (Ch p1 (2 : Int32)))).2 ?_
     refine XS.iconst Xh42.here hx rfl (D d38_58) ?_
     refine XS.goto Xh42.here hx rfl (pc0 := 59) (pc' := 63) rfl (D d38_59) (by decide) (by decide) ?_
     exact kt
    refine ownRet Xh42 Bd.notSynchronized (v := some (.int (nar .boolean (1 : Int32)))) (fun h => by rw [Bd.returns] at h; cases h) ?_ (oLe rfl) (oLe rfl) (fun fs hr => retN Xh42 hx (t := .boolean) Bd.returns (by simp) (D d38_63) hr)
    show (Q_dra Z x ta kb z us ps p1 nn k G1 G3 h0 n0) (some (.int (nar .boolean (1 : Int32)))) T40.heap _
    rw [Eq40]
    exact ⟨rfl, Nh42, rfl⟩
 ·skip
  refine oTo s₁ (fr_dra m x ps p1 nn 7  [(.int ps), (.ref x)]) (fun t kt => ?_) ?_
  ·refine XS.icmpNo X0.here hx rfl (D d38_2) rfl (flt hc21).1 ?_
   refine XS.aloadN X0.here hx rfl (D d38_5) rfl rfl ?_
   refine XS.iloadN X0.here hx rfl (D d38_6) rfl ?_
   exact kt
  obtain ⟨cq43, kq43, q43a, q43b, q43c⟩ := isOf hZ e0 Es
  obtain ⟨vv43, _, ⟨T43, L43, k43, n43⟩, -, X43, ⟨Lc43, hQ43, l43, y43, z43⟩, st43⟩ := X0.virtualBack hx (y := yM6) (z := yM6) hown (mvT hZ (Wd201 hw)) (mvT hZ (Wd202 hw)) (oNf hZ (Wd204 hw)) (mvT hZ (Wd204 hw)) (mvT hZ (Wd203 hw)) (by decide) (backOf (W := 0) (c_chat l Z a0 hw [] x ta kb z us ps (Ch p1 (0 : Int32)) G1 G3 h0 n0 Z0 Es Vs Cs Ks (hD.1 (oN_ge (by omega) (by omega) (hn ▸ hc21))) O2 P5 O4 rG3 X00) hZ (Wd205 hw) (Wd6 hw) (by decide) (by decide)) q43a q43c (g := (fr_dra m x ps p1 nn 7  [(.int ps), (.ref x)])) rfl (by rw [hml]; rfl) (Steps.refl _) (argsL := [(.int ps)]) (rest := []) (lenOf pd_30 rfl) rfl (oWt rfl) (D d38_7) (fun _ _ => ⟨rfl, e0, oLe rfl, oLe rfl⟩)
  dsimp only [Pt.U, Pt.locs, Pt.cells, Pt.slots] at X43 l43 y43 z43 st43 hQ43
  subst l43 y43 z43
  obtain ⟨rfl, Nq43, Eq43⟩ := hQ43
  have N44 := Fr.app N0 Nq43
  obtain ⟨Lh45, Xh45, Nh45⟩ := oHd 0 0 X43 N44 rfl rfl
  refine ownSt st43 ?_
  clear st43
  show oA p e below _ T43 (fr_dra m x ps p1 nn 10  [(.int (Ch p1 (0 : Int32)))])
  refine oTo T43 (fr_dra m x ps p1 nn 12  [(iV 0), (.int p1), (.int (Ch p1 (0 : Int32)))]) (fun t kt => ?_) ?_
  ·refine XS.iloadN Xh45.here hx rfl (D d38_10) rfl ?_
   refine XS.iconst Xh45.here hx rfl (D d38_11) ?_
   exact kt
  obtain ⟨vv46, _, ⟨T46, L46, k46, n46⟩, -, X46, ⟨Lc46, hQ46, l46, y46, z46⟩, st46⟩ := Jvm.LawKit.callS Xh45 hx (y := yM30) hown (mvT hZ (Wd8 hw)) (mvT hZ (Wd9 hw)) (mvT hZ (Wd2 hw)) (mvT hZ (Wd10 hw)) (by decide) (backOf (W := 1) (c_ch l Z a0 hw [] p1 (0 : Int32) h0 n0 Z0 ) hZ (Wd10 hw) (Wd2 hw) (by decide) (by decide)) (g := (fr_dra m x ps p1 nn 12  [(iV 0), (.int p1), (.int (Ch p1 (0 : Int32)))])) rfl (by rw [hml]; rfl) (argsL := [(.int p1), (iV 0)]) (rest := [(.int (Ch p1 (0 : Int32)))]) (lenOf pd_28 rfl) rfl (oWt rfl) (D d38_12) (fun _ _ => ⟨rfl, Eq43, oLe rfl, oLe rfl⟩)
  dsimp only [Pt.U, Pt.locs, Pt.cells, Pt.slots] at X46 l46 y46 z46 st46 hQ46
  subst l46 y46 z46
  obtain ⟨rfl, Nq46, Eq46⟩ := hQ46
  have N47 := Fr.app Nh45 Nq46
  obtain ⟨Lh48, Xh48, Nh48⟩ := oHd 0 0 X46 N47 rfl rfl
  refine ownBy st46 ?_
  clear st46
  show oA p e below _ T46 (fr_dra m x ps p1 nn 15  [(.int (Ch p1 (0 : Int32))), (.int (Ch p1 (0 : Int32)))])
  refine oTo T46 (fr_dra m x ps p1 nn 20  [(iV 2), (.int nn)]) (fun t kt => ?_) ?_
  ·refine XS.icmpNo Xh48.here hx rfl (D d38_15) rfl (teq (rfl : (Ch p1 (0 : Int32)) = (Ch p1 (0 : Int32)))).2 ?_
   refine XS.iloadN Xh48.here hx rfl (D d38_18) rfl ?_
   refine XS.iconst Xh48.here hx rfl (D d38_19) ?_
   exact kt
  by_cases hc49 : nn < (2 : Int32)
  ·skip
   refine oTo T46 (fr_dra m x ps p1 nn 40  [(iV 3), (.int nn)]) (fun t kt => ?_) ?_
   ·refine XS.icmpYes Xh48.here hx rfl (pc0 := 20) (pc' := 38) rfl (D d38_20) rfl (tlt hc49).1 (by decide) (by decide) ?_
    refine XS.iloadN Xh48.here hx rfl (D d38_38) rfl ?_
    refine XS.iconst Xh48.here hx rfl (D d38_39) ?_
    exact kt
   by_cases hc50 : nn < (3 : Int32)
   ·skip
    refine oTo T46 (fr_dra m x ps p1 nn 63  [(iV 1)]) (fun t kt => ?_) ?_
    ·refine XS.icmpYes Xh48.here hx rfl (pc0 := 40) (pc' := 58) rfl (D d38_40) rfl (tlt hc50).1 (by decide) (by decide) ?_
     refine XS.iconst Xh48.here hx rfl (D d38_58) ?_
     refine XS.goto Xh48.here hx rfl (pc0 := 59) (pc' := 63) rfl (D d38_59) (by decide) (by decide) ?_
     exact kt
    refine ownRet Xh48 Bd.notSynchronized (v := some (.int (nar .boolean (1 : Int32)))) (fun h => by rw [Bd.returns] at h; cases h) ?_ (oLe rfl) (oLe rfl) (fun fs hr => retN Xh48 hx (t := .boolean) Bd.returns (by simp) (D d38_63) hr)
    show (Q_dra Z x ta kb z us ps p1 nn k G1 G3 h0 n0) (some (.int (nar .boolean (1 : Int32)))) T46.heap _
    rw [Eq46]
    exact ⟨rfl, Nh48, rfl⟩
   ·skip
    refine oTo T46 (fr_dra m x ps p1 nn 47  [(.int (ps + (2 : Int32))), (.ref x)]) (fun t kt => ?_) ?_
    ·refine XS.icmpNo Xh48.here hx rfl (D d38_40) rfl (flt hc50).1 ?_
     refine XS.aloadN Xh48.here hx rfl (D d38_43) rfl rfl ?_
     refine XS.iloadN Xh48.here hx rfl (D d38_44) rfl ?_
     refine XS.iconst Xh48.here hx rfl (D d38_45) ?_
     show Steps p.tables e below (T46.setTop (fr_dra m x ps p1 nn 46  [(iV 2), (.int ps), (.ref x)])) t
     refine XS.iadd Xh48.here hx rfl (D d38_46) rfl ?_
     exact kt
    obtain ⟨cq51, kq51, q51a, q51b, q51c⟩ := isOf hZ Eq46 Es
    obtain ⟨vv51, _, ⟨T51, L51, k51, n51⟩, -, X51, ⟨Lc51, hQ51, l51, y51, z51⟩, st51⟩ := Xh48.virtualBack hx (y := yM6) (z := yM6) hown (mvT hZ (Wd201 hw)) (mvT hZ (Wd202 hw)) (oNf hZ (Wd204 hw)) (mvT hZ (Wd204 hw)) (mvT hZ (Wd203 hw)) (by decide) (backOf (W := 0) (c_chat l Z a0 hw [] x ta kb z us (ps + (2 : Int32)) (Ch p1 (2 : Int32)) G1 G3 h0 n0 Z0 Es Vs Cs Ks (hD.2.2 (oN_ge (by omega) (by omega) (hn ▸ hc50))) O2 P5 O4 rG3 X00) hZ (Wd205 hw) (Wd6 hw) (by decide) (by decide)) q51a q51c (g := (fr_dra m x ps p1 nn 47  [(.int (ps + (2 : Int32))), (.ref x)])) rfl (by rw [hml]; rfl) (Steps.refl _) (argsL := [(.int (ps + (2 : Int32)))]) (rest := []) (lenOf pd_30 rfl) rfl (oWt rfl) (D d38_47) (fun _ _ => ⟨rfl, Eq46, oLe rfl, oLe rfl⟩)
    dsimp only [Pt.U, Pt.locs, Pt.cells, Pt.slots] at X51 l51 y51 z51 st51 hQ51
    subst l51 y51 z51
    obtain ⟨rfl, Nq51, Eq51⟩ := hQ51
    have N52 := Fr.app Nh48 Nq51
    obtain ⟨Lh53, Xh53, Nh53⟩ := oHd 0 0 X51 N52 rfl rfl
    refine ownSt st51 ?_
    clear st51
    show oA p e below _ T51 (fr_dra m x ps p1 nn 50  [(.int (Ch p1 (2 : Int32)))])
    refine oTo T51 (fr_dra m x ps p1 nn 52  [(iV 2), (.int p1), (.int (Ch p1 (2 : Int32)))]) (fun t kt => ?_) ?_
    ·refine XS.iloadN Xh53.here hx rfl (D d38_50) rfl ?_
     refine XS.iconst Xh53.here hx rfl (D d38_51) ?_
     exact kt
    obtain ⟨vv54, _, ⟨T54, L54, k54, n54⟩, -, X54, ⟨Lc54, hQ54, l54, y54, z54⟩, st54⟩ := Jvm.LawKit.callS Xh53 hx (y := yM30) hown (mvT hZ (Wd8 hw)) (mvT hZ (Wd9 hw)) (mvT hZ (Wd2 hw)) (mvT hZ (Wd10 hw)) (by decide) (backOf (W := 1) (c_ch l Z a0 hw [] p1 (2 : Int32) h0 n0 Z0 ) hZ (Wd10 hw) (Wd2 hw) (by decide) (by decide)) (g := (fr_dra m x ps p1 nn 52  [(iV 2), (.int p1), (.int (Ch p1 (2 : Int32)))])) rfl (by rw [hml]; rfl) (argsL := [(.int p1), (iV 2)]) (rest := [(.int (Ch p1 (2 : Int32)))]) (lenOf pd_28 rfl) rfl (oWt rfl) (D d38_52) (fun _ _ => ⟨rfl, Eq51, oLe rfl, oLe rfl⟩)
    dsimp only [Pt.U, Pt.locs, Pt.cells, Pt.slots] at X54 l54 y54 z54 st54 hQ54
    subst l54 y54 z54
    obtain ⟨rfl, Nq54, Eq54⟩ := hQ54
    have N55 := Fr.app Nh53 Nq54
    obtain ⟨Lh56, Xh56, Nh56⟩ := oHd 0 0 X54 N55 rfl rfl
    refine ownBy st54 ?_
    clear st54
    show oA p e below _ T54 (fr_dra m x ps p1 nn 55  [(.int (Ch p1 (2 : Int32))), (.int (Ch p1 (2 : Int32)))])
    refine oTo T54 (fr_dra m x ps p1 nn 63  [(iV 1)]) (fun t kt => ?_) ?_
    ·refine XS.icmpNo Xh56.here hx rfl (D d38_55) rfl (teq (rfl : (Ch p1 (2 : Int32)) = (Ch p1 (2 : Int32)))).2 ?_
     refine XS.iconst Xh56.here hx rfl (D d38_58) ?_
     refine XS.goto Xh56.here hx rfl (pc0 := 59) (pc' := 63) rfl (D d38_59) (by decide) (by decide) ?_
     exact kt
    refine ownRet Xh56 Bd.notSynchronized (v := some (.int (nar .boolean (1 : Int32)))) (fun h => by rw [Bd.returns] at h; cases h) ?_ (oLe rfl) (oLe rfl) (fun fs hr => retN Xh56 hx (t := .boolean) Bd.returns (by simp) (D d38_63) hr)
    show (Q_dra Z x ta kb z us ps p1 nn k G1 G3 h0 n0) (some (.int (nar .boolean (1 : Int32)))) T54.heap _
    rw [Eq54]
    exact ⟨rfl, Nh56, rfl⟩
  ·skip
   refine oTo T46 (fr_dra m x ps p1 nn 27  [(.int (ps + (1 : Int32))), (.ref x)]) (fun t kt => ?_) ?_
   ·refine XS.icmpNo Xh48.here hx rfl (D d38_20) rfl (flt hc49).1 ?_
    refine XS.aloadN Xh48.here hx rfl (D d38_23) rfl rfl ?_
    refine XS.iloadN Xh48.here hx rfl (D d38_24) rfl ?_
    refine XS.iconst Xh48.here hx rfl (D d38_25) ?_
    show Steps p.tables e below (T46.setTop (fr_dra m x ps p1 nn 26  [(iV 1), (.int ps), (.ref x)])) t
    refine XS.iadd Xh48.here hx rfl (D d38_26) rfl ?_
    exact kt
   obtain ⟨cq57, kq57, q57a, q57b, q57c⟩ := isOf hZ Eq46 Es
   obtain ⟨vv57, _, ⟨T57, L57, k57, n57⟩, -, X57, ⟨Lc57, hQ57, l57, y57, z57⟩, st57⟩ := Xh48.virtualBack hx (y := yM6) (z := yM6) hown (mvT hZ (Wd201 hw)) (mvT hZ (Wd202 hw)) (oNf hZ (Wd204 hw)) (mvT hZ (Wd204 hw)) (mvT hZ (Wd203 hw)) (by decide) (backOf (W := 0) (c_chat l Z a0 hw [] x ta kb z us (ps + (1 : Int32)) (Ch p1 (1 : Int32)) G1 G3 h0 n0 Z0 Es Vs Cs Ks (hD.2.1 (oN_ge (by omega) (by omega) (hn ▸ hc49))) O2 P5 O4 rG3 X00) hZ (Wd205 hw) (Wd6 hw) (by decide) (by decide)) q57a q57c (g := (fr_dra m x ps p1 nn 27  [(.int (ps + (1 : Int32))), (.ref x)])) rfl (by rw [hml]; rfl) (Steps.refl _) (argsL := [(.int (ps + (1 : Int32)))]) (rest := []) (lenOf pd_30 rfl) rfl (oWt rfl) (D d38_27) (fun _ _ => ⟨rfl, Eq46, oLe rfl, oLe rfl⟩)
   dsimp only [Pt.U, Pt.locs, Pt.cells, Pt.slots] at X57 l57 y57 z57 st57 hQ57
   subst l57 y57 z57
   obtain ⟨rfl, Nq57, Eq57⟩ := hQ57
   have N58 := Fr.app Nh48 Nq57
   obtain ⟨Lh59, Xh59, Nh59⟩ := oHd 0 0 X57 N58 rfl rfl
   refine ownSt st57 ?_
   clear st57
   show oA p e below _ T57 (fr_dra m x ps p1 nn 30  [(.int (Ch p1 (1 : Int32)))])
   refine oTo T57 (fr_dra m x ps p1 nn 32  [(iV 1), (.int p1), (.int (Ch p1 (1 : Int32)))]) (fun t kt => ?_) ?_
   ·refine XS.iloadN Xh59.here hx rfl (D d38_30) rfl ?_
    refine XS.iconst Xh59.here hx rfl (D d38_31) ?_
    exact kt
   obtain ⟨vv60, _, ⟨T60, L60, k60, n60⟩, -, X60, ⟨Lc60, hQ60, l60, y60, z60⟩, st60⟩ := Jvm.LawKit.callS Xh59 hx (y := yM30) hown (mvT hZ (Wd8 hw)) (mvT hZ (Wd9 hw)) (mvT hZ (Wd2 hw)) (mvT hZ (Wd10 hw)) (by decide) (backOf (W := 1) (c_ch l Z a0 hw [] p1 (1 : Int32) h0 n0 Z0 ) hZ (Wd10 hw) (Wd2 hw) (by decide) (by decide)) (g := (fr_dra m x ps p1 nn 32  [(iV 1), (.int p1), (.int (Ch p1 (1 : Int32)))])) rfl (by rw [hml]; rfl) (argsL := [(.int p1), (iV 1)]) (rest := [(.int (Ch p1 (1 : Int32)))]) (lenOf pd_28 rfl) rfl (oWt rfl) (D d38_32) (fun _ _ => ⟨rfl, Eq57, oLe rfl, oLe rfl⟩)
   dsimp only [Pt.U, Pt.locs, Pt.cells, Pt.slots] at X60 l60 y60 z60 st60 hQ60
   subst l60 y60 z60
   obtain ⟨rfl, Nq60, Eq60⟩ := hQ60
   have N61 := Fr.app Nh59 Nq60
   obtain ⟨Lh62, Xh62, Nh62⟩ := oHd 0 0 X60 N61 rfl rfl
   refine ownBy st60 ?_
   clear st60
   show oA p e below _ T60 (fr_dra m x ps p1 nn 35  [(.int (Ch p1 (1 : Int32))), (.int (Ch p1 (1 : Int32)))])
   refine oTo T60 (fr_dra m x ps p1 nn 40  [(iV 3), (.int nn)]) (fun t kt => ?_) ?_
   ·refine XS.icmpNo Xh62.here hx rfl (D d38_35) rfl (teq (rfl : (Ch p1 (1 : Int32)) = (Ch p1 (1 : Int32)))).2 ?_
    refine XS.iloadN Xh62.here hx rfl (D d38_38) rfl ?_
    refine XS.iconst Xh62.here hx rfl (D d38_39) ?_
    exact kt
   by_cases hc63 : nn < (3 : Int32)
   ·skip
    refine oTo T60 (fr_dra m x ps p1 nn 63  [(iV 1)]) (fun t kt => ?_) ?_
    ·refine XS.icmpYes Xh62.here hx rfl (pc0 := 40) (pc' := 58) rfl (D d38_40) rfl (tlt hc63).1 (by decide) (by decide) ?_
     refine XS.iconst Xh62.here hx rfl (D d38_58) ?_
     refine XS.goto Xh62.here hx rfl (pc0 := 59) (pc' := 63) rfl (D d38_59) (by decide) (by decide) ?_
     exact kt
    refine ownRet Xh62 Bd.notSynchronized (v := some (.int (nar .boolean (1 : Int32)))) (fun h => by rw [Bd.returns] at h; cases h) ?_ (oLe rfl) (oLe rfl) (fun fs hr => retN Xh62 hx (t := .boolean) Bd.returns (by simp) (D d38_63) hr)
    show (Q_dra Z x ta kb z us ps p1 nn k G1 G3 h0 n0) (some (.int (nar .boolean (1 : Int32)))) T60.heap _
    rw [Eq60]
    exact ⟨rfl, Nh62, rfl⟩
   ·skip
    refine oTo T60 (fr_dra m x ps p1 nn 47  [(.int (ps + (2 : Int32))), (.ref x)]) (fun t kt => ?_) ?_
    ·refine XS.icmpNo Xh62.here hx rfl (D d38_40) rfl (flt hc63).1 ?_
     refine XS.aloadN Xh62.here hx rfl (D d38_43) rfl rfl ?_
     refine XS.iloadN Xh62.here hx rfl (D d38_44) rfl ?_
     refine XS.iconst Xh62.here hx rfl (D d38_45) ?_
     show Steps p.tables e below (T60.setTop (fr_dra m x ps p1 nn 46  [(iV 2), (.int ps), (.ref x)])) t
     refine XS.iadd Xh62.here hx rfl (D d38_46) rfl ?_
     exact kt
    obtain ⟨cq64, kq64, q64a, q64b, q64c⟩ := isOf hZ Eq60 Es
    obtain ⟨vv64, _, ⟨T64, L64, k64, n64⟩, -, X64, ⟨Lc64, hQ64, l64, y64, z64⟩, st64⟩ := Xh62.virtualBack hx (y := yM6) (z := yM6) hown (mvT hZ (Wd201 hw)) (mvT hZ (Wd202 hw)) (oNf hZ (Wd204 hw)) (mvT hZ (Wd204 hw)) (mvT hZ (Wd203 hw)) (by decide) (backOf (W := 0) (c_chat l Z a0 hw [] x ta kb z us (ps + (2 : Int32)) (Ch p1 (2 : Int32)) G1 G3 h0 n0 Z0 Es Vs Cs Ks (hD.2.2 (oN_ge (by omega) (by omega) (hn ▸ hc63))) O2 P5 O4 rG3 X00) hZ (Wd205 hw) (Wd6 hw) (by decide) (by decide)) q64a q64c (g := (fr_dra m x ps p1 nn 47  [(.int (ps + (2 : Int32))), (.ref x)])) rfl (by rw [hml]; rfl) (Steps.refl _) (argsL := [(.int (ps + (2 : Int32)))]) (rest := []) (lenOf pd_30 rfl) rfl (oWt rfl) (D d38_47) (fun _ _ => ⟨rfl, Eq60, oLe rfl, oLe rfl⟩)
    dsimp only [Pt.U, Pt.locs, Pt.cells, Pt.slots] at X64 l64 y64 z64 st64 hQ64
    subst l64 y64 z64
    obtain ⟨rfl, Nq64, Eq64⟩ := hQ64
    have N65 := Fr.app Nh62 Nq64
    obtain ⟨Lh66, Xh66, Nh66⟩ := oHd 0 0 X64 N65 rfl rfl
    refine ownSt st64 ?_
    clear st64
    show oA p e below _ T64 (fr_dra m x ps p1 nn 50  [(.int (Ch p1 (2 : Int32)))])
    refine oTo T64 (fr_dra m x ps p1 nn 52  [(iV 2), (.int p1), (.int (Ch p1 (2 : Int32)))]) (fun t kt => ?_) ?_
    ·refine XS.iloadN Xh66.here hx rfl (D d38_50) rfl ?_
     refine XS.iconst Xh66.here hx rfl (D d38_51) ?_
     exact kt
    obtain ⟨vv67, _, ⟨T67, L67, k67, n67⟩, -, X67, ⟨Lc67, hQ67, l67, y67, z67⟩, st67⟩ := Jvm.LawKit.callS Xh66 hx (y := yM30) hown (mvT hZ (Wd8 hw)) (mvT hZ (Wd9 hw)) (mvT hZ (Wd2 hw)) (mvT hZ (Wd10 hw)) (by decide) (backOf (W := 1) (c_ch l Z a0 hw [] p1 (2 : Int32) h0 n0 Z0 ) hZ (Wd10 hw) (Wd2 hw) (by decide) (by decide)) (g := (fr_dra m x ps p1 nn 52  [(iV 2), (.int p1), (.int (Ch p1 (2 : Int32)))])) rfl (by rw [hml]; rfl) (argsL := [(.int p1), (iV 2)]) (rest := [(.int (Ch p1 (2 : Int32)))]) (lenOf pd_28 rfl) rfl (oWt rfl) (D d38_52) (fun _ _ => ⟨rfl, Eq64, oLe rfl, oLe rfl⟩)
    dsimp only [Pt.U, Pt.locs, Pt.cells, Pt.slots] at X67 l67 y67 z67 st67 hQ67
    subst l67 y67 z67
    obtain ⟨rfl, Nq67, Eq67⟩ := hQ67
    have N68 := Fr.app Nh66 Nq67
    obtain ⟨Lh69, Xh69, Nh69⟩ := oHd 0 0 X67 N68 rfl rfl
    refine ownBy st67 ?_
    clear st67
    show oA p e below _ T67 (fr_dra m x ps p1 nn 55  [(.int (Ch p1 (2 : Int32))), (.int (Ch p1 (2 : Int32)))])
    refine oTo T67 (fr_dra m x ps p1 nn 63  [(iV 1)]) (fun t kt => ?_) ?_
    ·refine XS.icmpNo Xh69.here hx rfl (D d38_55) rfl (teq (rfl : (Ch p1 (2 : Int32)) = (Ch p1 (2 : Int32)))).2 ?_
     refine XS.iconst Xh69.here hx rfl (D d38_58) ?_
     refine XS.goto Xh69.here hx rfl (pc0 := 59) (pc' := 63) rfl (D d38_59) (by decide) (by decide) ?_
     exact kt
    refine ownRet Xh69 Bd.notSynchronized (v := some (.int (nar .boolean (1 : Int32)))) (fun h => by rw [Bd.returns] at h; cases h) ?_ (oLe rfl) (oLe rfl) (fun fs hr => retN Xh69 hx (t := .boolean) Bd.returns (by simp) (D d38_63) hr)
    show (Q_dra Z x ta kb z us ps p1 nn k G1 G3 h0 n0) (some (.int (nar .boolean (1 : Int32)))) T67.heap _
    rw [Eq67]
    exact ⟨rfl, Nh69, rfl⟩
abbrev fr_cna (m : MethodId) (x3 : Addr) (pc : Nat)  (st : List Value) : JFrame := mkF m pc #[vR x3] st
def Q_cna (Z : State) (x3 : Addr) (ta3 : Addr) (kb3 : ClassId) (n3 : Nat) (u3 : List Value) (G1 : Int32) (h0 : Heap) (n0 : Nat) (v : Option Value) (h : Heap) (L : List Loc) : Prop := ∃ (x ta : Addr) (kb : ClassId), v = some (.ref x) ∧ Fr n0 L ∧ Keep h0 h [] ∧ h0.size ≤ x ∧ h0.size ≤ ta ∧ Exa Z h x "java/lang/String" ∧ Fld Z h x "java/lang/String" "value" "[B" (.ref ta) ∧ Fld Z h x "java/lang/String" "coder" "B" (iV 0) ∧ Arv Z h ta kb .byte (oN (39 + n3 + 23)) ((C2L ++ u3) ++ C3L) (iV 0)
theorem ef_cna (m : MethodId) (x0 : Addr)  : entryFrame m #[(.ref x0)] 1 = mkF m 0 #[vR x0] [] := by first | (simp [entryFrame, mkF, argsToLocals, Value.category]; done) | rfl
set_option maxRecDepth 65536 in
set_option maxHeartbeats 40000000 in
theorem c_cna (l : Launch) (Z : State) (a0 : Array Value) (hw : HW a0 Z) (ws : List Jvm.Cond) (x3 : Addr) (ta3 : Addr) (kb3 : ClassId) (n3 : Nat) (u3 : List Value) (G1 : Int32) (h0 : Heap) (n0 : Nat) (Z0 : n0 ≤ h0.size) (Es3 : Exa Z h0 x3 "java/lang/String") (Vs3 : Fld Z h0 x3 "java/lang/String" "value" "[B" (.ref ta3)) (Cs3 : Fld Z h0 x3 "java/lang/String" "coder" "B" (iV 0)) (Ks3 : Arv Z h0 ta3 kb3 .byte (oN n3) u3 (iV 0)) (hu3 : u3.length = n3) (hk3 : n3 ≤ 3) (O2 : Sta Z Z.heap "java/lang/String" "COMPACT_STRINGS" "Z" (.int G1)) (P5 : ¬ (G1 = (0 : Int32))) (X00 : Old Z n0 h0) :
  MetFree l yM34 (head1 (Jvm.Cond.code yM34 prog_1_method_6_code 1 (some (.object "java/lang/String")) :: ws) ({ frames := 6, cells := 10, slots := 760, locals := 135 } : Room)) (fun a U => a = #[(.ref x3)] ∧ Z.Warmed39 U.vm ∧ U.heap = h0 ∧ CHv Z ownEL U.vm h0) (fun _ _ _ _ _ => True) (fun _ U o U' => ∃ v L, o = .returned v ∧ (Q_cna Z x3 ta3 kb3 n3 u3 G1 h0 n0) v U'.heap L ∧ CHr Z ownEL U.vm U.heap U'.vm U'.heap ∧ ReturnedEndW U o U' L ({ frames := 6, cells := 10, slots := 760, locals := 135 } : Room).cells ({ frames := 6, cells := 10, slots := 760, locals := 135 } : Room).slots) := by
 refine MetFree.of_bodySF (plainFor_of_name pn_31) hisR ?_
 intro p e s m args below meth c s₁ Bd hml0 hP hK
 obtain ⟨rfl, hZ, hHp, hCH⟩ := hP
 have hx := Bd.exec
 have D := fun {pc : Nat} {r} (h : decode _ pc = r) => hb Bd.bytes h
 have hml : c.maxLocals = 1 := hml0
 have hown : s.vm.findClass "com/example/savepoint/savepoint/AnnotationLookup" = some m.cls := findClass_of_methodNamed Bd.named
 have hnm := (name_of_methodNamed Bd.named Bd.method).1
 have X0 : Stand p l e ({ frames := 6, cells := 10, slots := 760, locals := 135 } : Room) (s.setVm s.vm) m #[(.ref x3)] below meth c s₁ [] 0 0 := Stand.of_body Bd
 have e0 : s₁.heap = h0 := by rw [← hHp, Bd.state]; rfl
 have N0 := Fr.nil n0
 refine ownOutH hHp (P := (Q_cna Z x3 ta3 kb3 n3 u3 G1 h0 n0)) ?_
 refine ownBy (A := s₁.setTop (mkF m 0 #[vR x3] [])) (fun t k => castTop (ef_cna m x3) k) ?_
 have hS0 : s.Since s.vm h0.size := own_since
 have hEL := own_EW hw
 have R0 := CHr.refl hCH
 have wS := own_wS hw
 obtain ⟨T21, h21, X21, e21, E21, A21, D21, -, st21⟩ := newO X0 hx hZ hown (Wd44 hw) (Wd45 hw) (Wd46 hw) e0 (g := (fr_cna m x3 0  [])) rfl (D d25_0) (by decide) (by decide)
 obtain ⟨b21, g21⟩ : ∃ z, z = h0.size := ⟨_, rfl⟩
 rw [← g21] at A21 D21 st21
 have ne22 : x3 ≠ b21 := Nat.ne_of_lt (Nat.lt_of_lt_of_le Es3.lt (Nat.le_of_eq g21.symm))
 have ne23 : ta3 ≠ b21 := Nat.ne_of_lt (Nat.lt_of_lt_of_le Ks3.lt (Nat.le_of_eq g21.symm))
 have g24 : n0 ≤ b21 := Nat.le_trans Z0 (Nat.le_of_eq g21.symm)
 have sf25 : Safe Z ownEL s.vm h0 b21 := Safe.new (Nat.le_of_eq g21.symm)
 have z26 : h0.size ≤ b21 := Nat.le_trans (Nat.le_refl h0.size) (Nat.le_of_eq g21.symm)
 have R27 := R0.trans (CHr.ext E21 R0.1)
 have sf28 := Safe.ext E21 R0.1 sf25
 have F29 : Fld Z h21 b21 "java/lang/AbstractStringBuilder" "value" "[B" .null := D21 (Or.inl (Wd59 hw)) (ty := (.array .byte)) (by decide)
 have F30 : Fld Z h21 b21 "java/lang/AbstractStringBuilder" "coder" "B" (iV 0) := D21 (Or.inl (Wd61 hw)) (ty := .byte) (by decide)
 have F31 : Fld Z h21 b21 "java/lang/AbstractStringBuilder" "count" "I" (iV 0) := D21 (Or.inl (Wd83 hw)) (ty := .int) (by decide)
 refine ownBy st21 ?_
 clear st21
 show oA p e below _ T21 (fr_cna m x3 3  [(.ref b21)])
 refine oTo T21 (fr_cna m x3 4  [(.ref b21), (.ref b21)]) (fun t kt => ?_) ?_
 ·refine XS.dup X21.here hx rfl (D d25_3) rfl rfl ?_
  exact kt
 have f32 := (X00.ext E21)
 have f33 := (Nat.le_trans Z0 E21.1)
 obtain ⟨vv34, _, ⟨T34, L34, k34, n34⟩, -, X34, ⟨Lc34, hQ34, l34, y34, z34⟩, st34⟩ := X21.specialBack hx (y := yM8) rfl hown (mvT hZ (Wd47 hw)) (mvT hZ (Wd48 hw)) (mvT hZ (Wd49 hw)) (by decide) (backOf (W := 1) (c_sbi l Z a0 hw [] b21 _ G1 h21 n0 f33 A21 F29 F30 F31 g24 O2 P5 f32) hZ (Wd49 hw) (Wd46 hw) (by decide) (by decide)) (g := (fr_cna m x3 4  [(.ref b21), (.ref b21)])) rfl (by rw [hml]; rfl) (Steps.refl _) (a := b21) (argsL := []) (rest := [(.ref b21)]) (lenOf pd_32 rfl) rfl (oWt rfl) (D d25_4) (fun _ _ => ⟨rfl, e21, oLe rfl, oLe rfl⟩)
 dsimp only [Pt.U, Pt.locs, Pt.cells, Pt.slots] at X34 l34 y34 z34 st34 hQ34
 subst l34 y34 z34
 obtain ⟨rfl, Nq34, Kq34, t34, kv34, zq34, Eq34, Vq34, Cq34, Mq34, Aq34⟩ := hQ34
 have f36 := (Es3.ext E21)
 have ne35 : x3 ≠ t34 := Nat.ne_of_lt (Nat.lt_of_lt_of_le f36.lt zq34)
 have f38 := (Ks3.ext E21)
 have ne37 : ta3 ≠ t34 := Nat.ne_of_lt (Nat.lt_of_lt_of_le f38.lt zq34)
 have ne39 : b21 ≠ t34 := Nat.ne_of_lt (Nat.lt_of_lt_of_le A21.lt zq34)
 have g40 : n0 ≤ t34 := Nat.le_trans f33 zq34
 have sf41 : Safe Z ownEL s.vm h21 t34 := Safe.new zq34
 have f43 := (Nat.le_trans (Nat.le_refl h0.size) E21.1)
 have z42 : h0.size ≤ t34 := Nat.le_trans f43 zq34
 have N44 := Fr.app N0 Nq34
 have R45 := R27.trans (CHr.keep Kq34 (sfS sf28 sf0) R27.1)
 have sf46 := Safe.keep Kq34 (sfS sf28 sf0) R27.1 sf28
 have sf47 := Safe.keep Kq34 (sfS sf28 sf0) R27.1 sf41
 obtain ⟨Lh48, Xh48, Nh48⟩ := oHd 2 20 X34 N44 rfl rfl
 refine ownSt st34 ?_
 clear st34
 show oA p e below _ T34 (fr_cna m x3 7  [(.ref b21)])
 obtain ⟨a49, T49, h49, k49, b49, kb49, X49, e49, E49, hS49, hk49, hZ49, hown49, A49, C49, V49, Ab49, -, -, hC49, Lt49, hne49, st49⟩ := ldcCH (text := (ownText 136)) Xh48 hx hZ hown (Wd136 hw) wS rfl hS0 (Nat.le_trans (Nat.le_trans (Nat.le_refl _) E21.1) Kq34.1) hEL (by simp [ownEL]) R45.1 (vs := [(iV 44), (iV 32), (iV 115), (iV 111), (iV 32), (iV 116), (iV 104), (iV 101), (iV 32), (iV 97), (iV 110), (iV 110), (iV 111), (iV 116), (iV 97), (iV 116), (iV 105), (iV 111), (iV 110), (iV 32), (iV 99), (iV 111), (iV 117), (iV 108), (iV 100), (iV 32), (iV 110), (iV 101), (iV 118), (iV 101), (iV 114), (iV 32), (iV 97), (iV 112), (iV 112), (iV 108), (iV 121), (iV 59), (iV 32)]) (z := (39 : Int32)) ⟨by decide +kernel, by decide +kernel⟩ (by decide) rfl (g := (fr_cna m x3 7  [(.ref b21)])) rfl (D d25_7) (n := 156) (by decide +kernel) (by decide) (by decide) (by decide)
 have R51 := R45.trans hC49
 have sf52 := CHr.safe hC49 Eq34.lt sf46
 have sf53 := CHr.safe hC49 Aq34.lt sf47
 have ne54 := hne49 b21 sf52
 have ne55 := hne49 t34 sf53
 refine ownBy st49 ?_
 clear st49
 show oA p e below _ T49 (fr_cna m x3 9  [(.ref a49), (.ref b21)])
 have f56 := (Eq34.ext E49)
 have f57 := (Vq34.ext E49)
 have f58 := (Cq34.ext E49)
 have f59 := (Mq34.ext E49)
 have f60 := (Aq34.ext E49)
 have f61 := ((f32.keep Kq34 (allS g24 all0)).ext E49)
 have f62 := (Nat.le_trans (Nat.le_trans f33 Kq34.1) E49.1)
 obtain ⟨cq63, kq63, q63a, q63b, q63c⟩ := isOf hZ49 e49 f56
 obtain ⟨vv63, _, ⟨T63, L63, k63, n63⟩, -, X63, ⟨Lc63, hQ63, l63, y63, z63⟩, st63⟩ := X49.virtualBack hx (y := yM14) (z := yM14) hown49 (mvT hZ49 (Wd62 hw)) (mvT hZ49 (Wd63 hw)) (oNf hZ49 (Wd65 hw)) (mvT hZ49 (Wd65 hw)) (mvT hZ49 (Wd64 hw)) (by decide) (backOf (W := 0) (c_sapg l Z a0 hw [] a49 b49 kb49 (oN 39) C2L b21 t34 kv34 (oN 16) (Pad ([] : List Value) 16) (oN 0) (Pad C2L 39) (oN 39) (oN 39) (Pad ([] : List Value) 39) G1 h49 n0 f62 A49 V49 C49 Ab49 f56 f57 f58 f59 f60 g24 g40 (Ne.symm ne55.2) (oGrN (L := ([] : List Value)) (b := 16) (m := (0 + 39)) (n := 39) (Nat.le_trans (Nat.le_of_eq (show ([] : List Value).length = 0 from rfl)) (by omega)) (by omega) (by omega) (by omega) (by omega)) (oCpN (L := ([] : List Value)) (us := C2L) (a := 0) (b := 39) (c := 39) (show ([] : List Value).length = 0 from rfl) ln2 (by omega) (by omega)) O2 P5 f61) hZ49 (Wd66 hw) (Wd46 hw) (by decide) (by decide)) q63a q63c (g := (fr_cna m x3 9  [(.ref a49), (.ref b21)])) rfl (by rw [hml]; rfl) (Steps.refl _) (argsL := [(.ref a49)]) (rest := []) (lenOf pd_33 rfl) rfl (oWt rfl) (D d25_9) (fun _ _ => ⟨rfl, e49, oLe rfl, oLe rfl⟩)
 dsimp only [Pt.U, Pt.locs, Pt.cells, Pt.slots] at X63 l63 y63 z63 st63 hQ63
 subst l63 y63 z63
 obtain ⟨rfl, Nq63, Kq63, t63, kw63, zq63, Ea63, Eq63, Vq63, Cq63, Mq63, Aq63⟩ := hQ63
 have f65 := ((f36.keep Kq34).ext E49)
 have ne64 : x3 ≠ t63 := Nat.ne_of_lt (Nat.lt_of_lt_of_le f65.lt zq63)
 have f67 := ((f38.keep Kq34 (ninS ne23 nin0)).ext E49)
 have ne66 : ta3 ≠ t63 := Nat.ne_of_lt (Nat.lt_of_lt_of_le f67.lt zq63)
 have ne68 : b21 ≠ t63 := Nat.ne_of_lt (Nat.lt_of_lt_of_le f56.lt zq63)
 have ne69 : t34 ≠ t63 := Nat.ne_of_lt (Nat.lt_of_lt_of_le f60.lt zq63)
 have ne70 : a49 ≠ t63 := Nat.ne_of_lt (Nat.lt_of_lt_of_le A49.lt zq63)
 have ne71 : b49 ≠ t63 := Nat.ne_of_lt (Nat.lt_of_lt_of_le Ab49.lt zq63)
 have g72 : n0 ≤ t63 := Nat.le_trans f62 zq63
 have sf73 : Safe Z ownEL T49.vm h49 t63 := Safe.new zq63
 have f75 := (Nat.le_trans (Nat.le_trans f43 Kq34.1) E49.1)
 have z74 : h0.size ≤ t63 := Nat.le_trans f75 zq63
 have N76 := Fr.app Nh48 Nq63
 have R77 := R51.trans (CHr.keep Kq63 (sfS sf52 sf0) R51.1)
 have sf78 := Safe.keep Kq63 (sfS sf52 sf0) R51.1 sf52
 have sf79 := Safe.keep Kq63 (sfS sf52 sf0) R51.1 sf53
 have sf80 := Safe.keep Kq63 (sfS sf52 sf0) R51.1 sf73
 obtain ⟨Lh81, Xh81, Nh81⟩ := oHd 5 340 X63 N76 rfl rfl
 refine ownSt st63 ?_
 clear st63
 show oA p e below _ T63 (fr_cna m x3 12  [(.ref b21)])
 have ne82 : b21 ≠ t63 := Exa.neArv Eq63 Aq63 (Wd45 hw)
 by_cases h30 : n3 = 0
 ·skip
  refine oTo T63 (fr_cna m x3 13  [(.ref x3), (.ref b21)]) (fun t kt => ?_) ?_
  ·refine XS.aloadN Xh81.here hx rfl (D d25_12) rfl rfl ?_
   exact kt
  have f83 := (f65.keep Kq63)
  have f84 := ((((Vs3.ext E21).keep Kq34 (ninS ne22 nin0)).ext E49).keep Kq63 (ninS ne22 nin0))
  have f85 := ((((Cs3.ext E21).keep Kq34 (ninS ne22 nin0)).ext E49).keep Kq63 (ninS ne22 nin0))
  have f86 := (f67.keep Kq63 (ninS ne23 nin0))
  have f87 := (f61.keep Kq63 (allS g24 all0))
  have f88 := (Nat.le_trans f62 Kq63.1)
  obtain ⟨cq89, kq89, q89a, q89b, q89c⟩ := isOf hZ49 rfl Eq63
  obtain ⟨vv89, _, ⟨T89, L89, k89, n89⟩, -, X89, ⟨Lc89, hQ89, l89, y89, z89⟩, st89⟩ := Xh81.virtualBack hx (y := yM14) (z := yM14) hown49 (mvT hZ49 (Wd62 hw)) (mvT hZ49 (Wd63 hw)) (oNf hZ49 (Wd65 hw)) (mvT hZ49 (Wd65 hw)) (mvT hZ49 (Wd64 hw)) (by decide) (backOf (W := 0) (c_sapp l Z a0 hw [] x3 ta3 kb3 (oN n3) u3 b21 t63 kw63 (oN 39) (Pad C2L 39) (oN 39) (Pad (C2L ++ u3) 39) (oN (39 + n3)) G1 T63.heap n0 f88 f83 f84 f85 f86 Eq63 Vq63 Cq63 Mq63 Aq63 g24 g72 ne66 (oCpN (L := C2L) (us := u3) (a := 39) (b := n3) (c := 39) ln2 hu3 (by omega) (by omega)) O2 P5 f87) hZ49 (Wd66 hw) (Wd46 hw) (by decide) (by decide)) q89a q89c (g := (fr_cna m x3 13  [(.ref x3), (.ref b21)])) rfl (by rw [hml]; rfl) (Steps.refl _) (argsL := [(.ref x3)]) (rest := []) (lenOf pd_33 rfl) rfl (oWt rfl) (D d25_13) (fun _ _ => ⟨rfl, rfl, oLe rfl, oLe rfl⟩)
  dsimp only [Pt.U, Pt.locs, Pt.cells, Pt.slots] at X89 l89 y89 z89 st89 hQ89
  subst l89 y89 z89
  obtain ⟨rfl, Nq89, Kq89, Eq89, Vq89, Cq89, Mq89, Aq89⟩ := hQ89
  have N90 := Fr.app Nh81 Nq89
  have R91 := R77.trans (CHr.keep Kq89 (sfS sf78 (sfS sf80 sf0)) R77.1)
  have sf92 := Safe.keep Kq89 (sfS sf78 (sfS sf80 sf0)) R77.1 sf78
  have sf93 := Safe.keep Kq89 (sfS sf78 (sfS sf80 sf0)) R77.1 sf79
  have sf94 := Safe.keep Kq89 (sfS sf78 (sfS sf80 sf0)) R77.1 sf80
  obtain ⟨Lh95, Xh95, Nh95⟩ := oHd 5 340 X89 N90 rfl rfl
  refine ownSt st89 ?_
  clear st89
  show oA p e below _ T89 (fr_cna m x3 16  [(.ref b21)])
  obtain ⟨a96, T96, h96, k96, b96, kb96, X96, e96, E96, hS96, hk96, hZ96, hown96, A96, C96, V96, Ab96, -, -, hC96, Lt96, hne96, st96⟩ := ldcCH (text := (ownText 137)) Xh95 hx hZ49 hown49 (Wd137 hw) wS rfl hS49 (Nat.le_trans (Nat.le_trans hk49 Kq63.1) Kq89.1) hEL (by simp [ownEL]) R91.1 (vs := [(iV 116), (iV 97), (iV 107), (iV 101), (iV 32), (iV 116), (iV 104), (iV 101), (iV 32), (iV 97), (iV 110), (iV 110), (iV 111), (iV 116), (iV 97), (iV 116), (iV 105), (iV 111), (iV 110), (iV 32), (iV 111), (iV 102), (iV 102)]) (z := (23 : Int32)) ⟨by decide +kernel, by decide +kernel⟩ (by decide) rfl (g := (fr_cna m x3 16  [(.ref b21)])) rfl (D d25_16) (n := 92) (by decide +kernel) (by decide) (by decide) (by decide)
  have R98 := R91.trans hC96
  have sf99 := CHr.safe hC96 Eq89.lt sf92
  have f101 := ((f60.keep Kq63 (ninS (Ne.symm ne39) nin0)).keep Kq89 (ninS (Ne.symm ne39) (ninS ne69 nin0)))
  have sf100 := CHr.safe hC96 f101.lt sf93
  have f103 := (Ea63.keep Kq89)
  have sf102 := CHr.safe hC96 f103.lt sf94
  have ne104 := hne96 b21 sf99
  have ne105 := hne96 t34 sf100
  have ne106 := hne96 t63 sf102
  refine ownBy st96 ?_
  clear st96
  show oA p e below _ T96 (fr_cna m x3 18  [(.ref a96), (.ref b21)])
  have f107 := (Eq89.ext E96)
  have f108 := (Vq89.ext E96)
  have f109 := (Cq89.ext E96)
  have f110 := (Mq89.ext E96)
  have f111 := (Aq89.ext E96)
  have f112 := ((f87.keep Kq89 (allS g24 (allS g72 all0))).ext E96)
  have f113 := (Nat.le_trans (Nat.le_trans f88 Kq89.1) E96.1)
  obtain ⟨cq114, kq114, q114a, q114b, q114c⟩ := isOf hZ96 e96 f107
  obtain ⟨vv114, _, ⟨T114, L114, k114, n114⟩, -, X114, ⟨Lc114, hQ114, l114, y114, z114⟩, st114⟩ := X96.virtualBack hx (y := yM14) (z := yM14) hown96 (mvT hZ96 (Wd62 hw)) (mvT hZ96 (Wd63 hw)) (oNf hZ96 (Wd65 hw)) (mvT hZ96 (Wd65 hw)) (mvT hZ96 (Wd64 hw)) (by decide) (backOf (W := 0) (c_sapg l Z a0 hw [] a96 b96 kb96 (oN 23) C3L b21 t63 kw63 (oN 39) (Pad (C2L ++ u3) 39) (oN (39 + n3)) (Pad ((C2L ++ u3) ++ C3L) 80) (oN ((39 + n3) + 23)) (oN 80) (Pad (C2L ++ u3) 80) G1 h96 n0 f113 A96 V96 C96 Ab96 f107 f108 f109 f110 f111 g24 g72 (Ne.symm ne106.2) (oGrN (L := (C2L ++ u3)) (b := 39) (m := ((39 + n3) + 23)) (n := 80) (Nat.le_trans (Nat.le_of_eq (rld hu3)) (by omega)) (by omega) (by omega) (by omega) (by omega)) (oCpN (L := (C2L ++ u3)) (us := C3L) (a := (39 + n3)) (b := 23) (c := 80) (rld hu3) ln3 (by omega) (by omega)) O2 P5 f112) hZ96 (Wd66 hw) (Wd46 hw) (by decide) (by decide)) q114a q114c (g := (fr_cna m x3 18  [(.ref a96), (.ref b21)])) rfl (by rw [hml]; rfl) (Steps.refl _) (argsL := [(.ref a96)]) (rest := []) (lenOf pd_33 rfl) rfl (oWt rfl) (D d25_18) (fun _ _ => ⟨rfl, e96, oLe rfl, oLe rfl⟩)
  dsimp only [Pt.U, Pt.locs, Pt.cells, Pt.slots] at X114 l114 y114 z114 st114 hQ114
  subst l114 y114 z114
  obtain ⟨rfl, Nq114, Kq114, t114, kw114, zq114, Ea114, Eq114, Vq114, Cq114, Mq114, Aq114⟩ := hQ114
  have f116 := ((f83.keep Kq89).ext E96)
  have ne115 : x3 ≠ t114 := Nat.ne_of_lt (Nat.lt_of_lt_of_le f116.lt zq114)
  have f118 := ((f86.keep Kq89 (ninS ne23 (ninS ne66 nin0))).ext E96)
  have ne117 : ta3 ≠ t114 := Nat.ne_of_lt (Nat.lt_of_lt_of_le f118.lt zq114)
  have f120 := (f101.ext E96)
  have ne119 : t34 ≠ t114 := Nat.ne_of_lt (Nat.lt_of_lt_of_le f120.lt zq114)
  have f122 := (((A49.keep Kq63).keep Kq89).ext E96)
  have ne121 : a49 ≠ t114 := Nat.ne_of_lt (Nat.lt_of_lt_of_le f122.lt zq114)
  have f124 := (((Ab49.keep Kq63 (ninS (Ne.symm ne54.2) nin0)).keep Kq89 (ninS (Ne.symm ne54.2) (ninS ne71 nin0))).ext E96)
  have ne123 : b49 ≠ t114 := Nat.ne_of_lt (Nat.lt_of_lt_of_le f124.lt zq114)
  have f126 := (f103.ext E96)
  have ne125 : t63 ≠ t114 := Nat.ne_of_lt (Nat.lt_of_lt_of_le f126.lt zq114)
  have ne127 : b21 ≠ t114 := Nat.ne_of_lt (Nat.lt_of_lt_of_le f107.lt zq114)
  have ne128 : a96 ≠ t114 := Nat.ne_of_lt (Nat.lt_of_lt_of_le A96.lt zq114)
  have ne129 : b96 ≠ t114 := Nat.ne_of_lt (Nat.lt_of_lt_of_le Ab96.lt zq114)
  have g130 : n0 ≤ t114 := Nat.le_trans f113 zq114
  have sf131 : Safe Z ownEL T96.vm h96 t114 := Safe.new zq114
  have f133 := (Nat.le_trans (Nat.le_trans (Nat.le_trans f75 Kq63.1) Kq89.1) E96.1)
  have z132 : h0.size ≤ t114 := Nat.le_trans f133 zq114
  have N134 := Fr.app Nh95 Nq114
  have R135 := R98.trans (CHr.keep Kq114 (sfS sf99 sf0) R98.1)
  have sf136 := Safe.keep Kq114 (sfS sf99 sf0) R98.1 sf99
  have sf137 := Safe.keep Kq114 (sfS sf99 sf0) R98.1 sf100
  have sf138 := Safe.keep Kq114 (sfS sf99 sf0) R98.1 sf102
  have sf139 := Safe.keep Kq114 (sfS sf99 sf0) R98.1 sf131
  obtain ⟨Lh140, Xh140, Nh140⟩ := oHd 8 596 X114 N134 rfl rfl
  refine ownSt st114 ?_
  clear st114
  show oA p e below _ T114 (fr_cna m x3 21  [(.ref b21)])
  have ne141 : b21 ≠ t114 := Exa.neArv Eq114 Aq114 (Wd45 hw)
  have f142 := (f112.keep Kq114 (allS g24 all0))
  have f143 := (Nat.le_trans f113 Kq114.1)
  obtain ⟨cq144, kq144, q144a, q144b, q144c⟩ := isOf hZ96 rfl Eq114
  obtain ⟨vv144, _, ⟨T144, L144, k144, n144⟩, -, X144, ⟨Lc144, hQ144, l144, y144, z144⟩, st144⟩ := Xh140.virtualBack hx (y := yM29) (z := yM29) hown96 (mvT hZ96 (Wd138 hw)) (mvT hZ96 (Wd139 hw)) (oNf hZ96 (Wd141 hw)) (mvT hZ96 (Wd141 hw)) (mvT hZ96 (Wd140 hw)) (by decide) (backOf (W := 0) (c_sts l Z a0 hw [] b21 t114 kw114 (oN 80) (Pad ((C2L ++ u3) ++ C3L) 80) (oN ((39 + n3) + 23)) ((C2L ++ u3) ++ C3L) G1 T114.heap n0 f143 Eq114 Vq114 Cq114 Mq114 Aq114 (oCrN (L := ((C2L ++ u3) ++ C3L)) (a := ((39 + n3) + 23)) (c := 80) (rle hu3) (by omega) (by omega) (by omega)) O2 P5 f142) hZ96 (Wd142 hw) (Wd46 hw) (by decide) (by decide)) q144a q144c (g := (fr_cna m x3 21  [(.ref b21)])) rfl (by rw [hml]; rfl) (Steps.refl _) (argsL := []) (rest := []) (lenOf pd_34 rfl) rfl (oWt rfl) (D d25_21) (fun _ _ => ⟨rfl, rfl, oLe rfl, oLe rfl⟩)
  dsimp only [Pt.U, Pt.locs, Pt.cells, Pt.slots] at X144 l144 y144 z144 st144 hQ144
  subst l144 y144 z144
  obtain ⟨x144, t144, kn144, rfl, Nq144, Kq144, zx144, zq144, Eq144, Vq144, Cq144, Aq144⟩ := hQ144
  have f146 := (f116.keep Kq114)
  have ne145 : x3 ≠ x144 := Nat.ne_of_lt (Nat.lt_of_lt_of_le f146.lt zx144)
  have f148 := (f118.keep Kq114 (ninS ne23 nin0))
  have ne147 : ta3 ≠ x144 := Nat.ne_of_lt (Nat.lt_of_lt_of_le f148.lt zx144)
  have f150 := (f120.keep Kq114 (ninS (Ne.symm ne39) nin0))
  have ne149 : t34 ≠ x144 := Nat.ne_of_lt (Nat.lt_of_lt_of_le f150.lt zx144)
  have f152 := (f122.keep Kq114)
  have ne151 : a49 ≠ x144 := Nat.ne_of_lt (Nat.lt_of_lt_of_le f152.lt zx144)
  have f154 := (f124.keep Kq114 (ninS (Ne.symm ne54.2) nin0))
  have ne153 : b49 ≠ x144 := Nat.ne_of_lt (Nat.lt_of_lt_of_le f154.lt zx144)
  have f156 := (f126.keep Kq114)
  have ne155 : t63 ≠ x144 := Nat.ne_of_lt (Nat.lt_of_lt_of_le f156.lt zx144)
  have f158 := (A96.keep Kq114)
  have ne157 : a96 ≠ x144 := Nat.ne_of_lt (Nat.lt_of_lt_of_le f158.lt zx144)
  have f160 := (Ab96.keep Kq114 (ninS (Ne.symm ne104.2) nin0))
  have ne159 : b96 ≠ x144 := Nat.ne_of_lt (Nat.lt_of_lt_of_le f160.lt zx144)
  have ne161 : b21 ≠ x144 := Nat.ne_of_lt (Nat.lt_of_lt_of_le Eq114.lt zx144)
  have ne162 : t114 ≠ x144 := Nat.ne_of_lt (Nat.lt_of_lt_of_le Ea114.lt zx144)
  have g163 : n0 ≤ x144 := Nat.le_trans f143 zx144
  have sf164 : Safe Z ownEL T96.vm T114.heap x144 := Safe.new zx144
  have f166 := (Nat.le_trans f133 Kq114.1)
  have z165 : h0.size ≤ x144 := Nat.le_trans f166 zx144
  have ne167 : x3 ≠ t144 := Nat.ne_of_lt (Nat.lt_of_lt_of_le f146.lt zq144)
  have ne168 : ta3 ≠ t144 := Nat.ne_of_lt (Nat.lt_of_lt_of_le f148.lt zq144)
  have ne169 : t34 ≠ t144 := Nat.ne_of_lt (Nat.lt_of_lt_of_le f150.lt zq144)
  have ne170 : a49 ≠ t144 := Nat.ne_of_lt (Nat.lt_of_lt_of_le f152.lt zq144)
  have ne171 : b49 ≠ t144 := Nat.ne_of_lt (Nat.lt_of_lt_of_le f154.lt zq144)
  have ne172 : t63 ≠ t144 := Nat.ne_of_lt (Nat.lt_of_lt_of_le f156.lt zq144)
  have ne173 : a96 ≠ t144 := Nat.ne_of_lt (Nat.lt_of_lt_of_le f158.lt zq144)
  have ne174 : b96 ≠ t144 := Nat.ne_of_lt (Nat.lt_of_lt_of_le f160.lt zq144)
  have ne175 : b21 ≠ t144 := Nat.ne_of_lt (Nat.lt_of_lt_of_le Eq114.lt zq144)
  have ne176 : t114 ≠ t144 := Nat.ne_of_lt (Nat.lt_of_lt_of_le Ea114.lt zq144)
  have g177 : n0 ≤ t144 := Nat.le_trans f143 zq144
  have sf178 : Safe Z ownEL T96.vm T114.heap t144 := Safe.new zq144
  have z179 : h0.size ≤ t144 := Nat.le_trans f166 zq144
  have N180 := Fr.app Nh140 Nq144
  have R181 := R135.trans (CHr.keep Kq144 sf0 R135.1)
  have sf182 := Safe.keep Kq144 sf0 R135.1 sf136
  have sf183 := Safe.keep Kq144 sf0 R135.1 sf137
  have sf184 := Safe.keep Kq144 sf0 R135.1 sf138
  have sf185 := Safe.keep Kq144 sf0 R135.1 sf139
  have sf186 := Safe.keep Kq144 sf0 R135.1 sf164
  have sf187 := Safe.keep Kq144 sf0 R135.1 sf178
  obtain ⟨Lh188, Xh188, Nh188⟩ := oHd 10 760 X144 N180 rfl rfl
  refine ownSt st144 ?_
  clear st144
  show oA p e below _ T144 (fr_cna m x3 24  [(.ref x144)])
  have f189 := (((((((((Keep.refl h0 []).ext E21).trans Kq34 (allS (Or.inr z26) all0)).ext E49).trans Kq63 (allS (Or.inr z26) all0)).trans Kq89 (allS (Or.inr z26) (allS (Or.inr z74) all0))).ext E96).trans Kq114 (allS (Or.inr z26) all0)).trans Kq144 all0)
  refine ownRetH Xh188 hS96 (Nat.le_trans (Nat.le_trans hk96 Kq114.1) Kq144.1) Bd.notSynchronized (v := some (.ref x144)) (fun h => by rw [Bd.returns] at h; cases h) ?_ (R181.trans (CHv.at Xh188 hZ96 hEL R181.1)) (oLe rfl) (oLe rfl) (fun fs hr => retOut Xh188 hx Bd.returns rfl (Or.inr (Or.inr (Or.inr (Or.inr ⟨rfl, rfl, rfl⟩)))) (D d25_24) hr)
  show (Q_cna Z x3 ta3 kb3 n3 u3 G1 h0 n0) (some (.ref x144)) T144.heap _
  exact ⟨x144, t144, kn144, rfl, Nh188, f189, z165, z179, Eq144, Vq144, Cq144, Aq144⟩
 ·skip
  refine oTo T63 (fr_cna m x3 13  [(.ref x3), (.ref b21)]) (fun t kt => ?_) ?_
  ·refine XS.aloadN Xh81.here hx rfl (D d25_12) rfl rfl ?_
   exact kt
  have f191 := (f65.keep Kq63)
  have f192 := ((((Vs3.ext E21).keep Kq34 (ninS ne22 nin0)).ext E49).keep Kq63 (ninS ne22 nin0))
  have f193 := ((((Cs3.ext E21).keep Kq34 (ninS ne22 nin0)).ext E49).keep Kq63 (ninS ne22 nin0))
  have f194 := (f67.keep Kq63 (ninS ne23 nin0))
  have f195 := (f61.keep Kq63 (allS g24 all0))
  have f196 := (Nat.le_trans f62 Kq63.1)
  obtain ⟨cq197, kq197, q197a, q197b, q197c⟩ := isOf hZ49 rfl Eq63
  obtain ⟨vv197, _, ⟨T197, L197, k197, n197⟩, -, X197, ⟨Lc197, hQ197, l197, y197, z197⟩, st197⟩ := Xh81.virtualBack hx (y := yM14) (z := yM14) hown49 (mvT hZ49 (Wd62 hw)) (mvT hZ49 (Wd63 hw)) (oNf hZ49 (Wd65 hw)) (mvT hZ49 (Wd65 hw)) (mvT hZ49 (Wd64 hw)) (by decide) (backOf (W := 0) (c_sapg l Z a0 hw [] x3 ta3 kb3 (oN n3) u3 b21 t63 kw63 (oN 39) (Pad C2L 39) (oN 39) (Pad (C2L ++ u3) 80) (oN (39 + n3)) (oN 80) (Pad C2L 80) G1 T63.heap n0 f196 f191 f192 f193 f194 Eq63 Vq63 Cq63 Mq63 Aq63 g24 g72 ne66 (oGrN (L := C2L) (b := 39) (m := (39 + n3)) (n := 80) (Nat.le_trans (Nat.le_of_eq ln2) (by omega)) (by omega) (by omega) (by omega) (by omega)) (oCpN (L := C2L) (us := u3) (a := 39) (b := n3) (c := 80) ln2 hu3 (by omega) (by omega)) O2 P5 f195) hZ49 (Wd66 hw) (Wd46 hw) (by decide) (by decide)) q197a q197c (g := (fr_cna m x3 13  [(.ref x3), (.ref b21)])) rfl (by rw [hml]; rfl) (Steps.refl _) (argsL := [(.ref x3)]) (rest := []) (lenOf pd_33 rfl) rfl (oWt rfl) (D d25_13) (fun _ _ => ⟨rfl, rfl, oLe rfl, oLe rfl⟩)
  dsimp only [Pt.U, Pt.locs, Pt.cells, Pt.slots] at X197 l197 y197 z197 st197 hQ197
  subst l197 y197 z197
  obtain ⟨rfl, Nq197, Kq197, t197, kw197, zq197, Ea197, Eq197, Vq197, Cq197, Mq197, Aq197⟩ := hQ197
  have ne198 : x3 ≠ t197 := Nat.ne_of_lt (Nat.lt_of_lt_of_le f191.lt zq197)
  have ne199 : ta3 ≠ t197 := Nat.ne_of_lt (Nat.lt_of_lt_of_le f194.lt zq197)
  have f201 := (f60.keep Kq63 (ninS (Ne.symm ne39) nin0))
  have ne200 : t34 ≠ t197 := Nat.ne_of_lt (Nat.lt_of_lt_of_le f201.lt zq197)
  have f203 := (A49.keep Kq63)
  have ne202 : a49 ≠ t197 := Nat.ne_of_lt (Nat.lt_of_lt_of_le f203.lt zq197)
  have f205 := (Ab49.keep Kq63 (ninS (Ne.symm ne54.2) nin0))
  have ne204 : b49 ≠ t197 := Nat.ne_of_lt (Nat.lt_of_lt_of_le f205.lt zq197)
  have ne206 : b21 ≠ t197 := Nat.ne_of_lt (Nat.lt_of_lt_of_le Eq63.lt zq197)
  have ne207 : t63 ≠ t197 := Nat.ne_of_lt (Nat.lt_of_lt_of_le Ea63.lt zq197)
  have g208 : n0 ≤ t197 := Nat.le_trans f196 zq197
  have sf209 : Safe Z ownEL T49.vm T63.heap t197 := Safe.new zq197
  have f211 := (Nat.le_trans f75 Kq63.1)
  have z210 : h0.size ≤ t197 := Nat.le_trans f211 zq197
  have N212 := Fr.app Nh81 Nq197
  have R213 := R77.trans (CHr.keep Kq197 (sfS sf78 sf0) R77.1)
  have sf214 := Safe.keep Kq197 (sfS sf78 sf0) R77.1 sf78
  have sf215 := Safe.keep Kq197 (sfS sf78 sf0) R77.1 sf79
  have sf216 := Safe.keep Kq197 (sfS sf78 sf0) R77.1 sf80
  have sf217 := Safe.keep Kq197 (sfS sf78 sf0) R77.1 sf209
  obtain ⟨Lh218, Xh218, Nh218⟩ := oHd 6 500 X197 N212 rfl rfl
  refine ownSt st197 ?_
  clear st197
  show oA p e below _ T197 (fr_cna m x3 16  [(.ref b21)])
  have ne219 : b21 ≠ t197 := Exa.neArv Eq197 Aq197 (Wd45 hw)
  obtain ⟨a220, T220, h220, k220, b220, kb220, X220, e220, E220, hS220, hk220, hZ220, hown220, A220, C220, V220, Ab220, -, -, hC220, Lt220, hne220, st220⟩ := ldcCH (text := (ownText 137)) Xh218 hx hZ49 hown49 (Wd137 hw) wS rfl hS49 (Nat.le_trans (Nat.le_trans hk49 Kq63.1) Kq197.1) hEL (by simp [ownEL]) R213.1 (vs := [(iV 116), (iV 97), (iV 107), (iV 101), (iV 32), (iV 116), (iV 104), (iV 101), (iV 32), (iV 97), (iV 110), (iV 110), (iV 111), (iV 116), (iV 97), (iV 116), (iV 105), (iV 111), (iV 110), (iV 32), (iV 111), (iV 102), (iV 102)]) (z := (23 : Int32)) ⟨by decide +kernel, by decide +kernel⟩ (by decide) rfl (g := (fr_cna m x3 16  [(.ref b21)])) rfl (D d25_16) (n := 92) (by decide +kernel) (by decide) (by decide) (by decide)
  have R222 := R213.trans hC220
  have sf223 := CHr.safe hC220 Eq197.lt sf214
  have f225 := (f201.keep Kq197 (ninS (Ne.symm ne39) nin0))
  have sf224 := CHr.safe hC220 f225.lt sf215
  have f227 := (Ea63.keep Kq197)
  have sf226 := CHr.safe hC220 f227.lt sf216
  have sf228 := CHr.safe hC220 Ea197.lt sf217
  have ne229 := hne220 b21 sf223
  have ne230 := hne220 t34 sf224
  have ne231 := hne220 t63 sf226
  have ne232 := hne220 t197 sf228
  refine ownBy st220 ?_
  clear st220
  show oA p e below _ T220 (fr_cna m x3 18  [(.ref a220), (.ref b21)])
  have f233 := (Eq197.ext E220)
  have f234 := (Vq197.ext E220)
  have f235 := (Cq197.ext E220)
  have f236 := (Mq197.ext E220)
  have f237 := (Aq197.ext E220)
  have f238 := ((f195.keep Kq197 (allS g24 all0)).ext E220)
  have f239 := (Nat.le_trans (Nat.le_trans f196 Kq197.1) E220.1)
  obtain ⟨cq240, kq240, q240a, q240b, q240c⟩ := isOf hZ220 e220 f233
  obtain ⟨vv240, _, ⟨T240, L240, k240, n240⟩, -, X240, ⟨Lc240, hQ240, l240, y240, z240⟩, st240⟩ := X220.virtualBack hx (y := yM14) (z := yM14) hown220 (mvT hZ220 (Wd62 hw)) (mvT hZ220 (Wd63 hw)) (oNf hZ220 (Wd65 hw)) (mvT hZ220 (Wd65 hw)) (mvT hZ220 (Wd64 hw)) (by decide) (backOf (W := 0) (c_sapp l Z a0 hw [] a220 b220 kb220 (oN 23) C3L b21 t197 kw197 (oN 80) (Pad (C2L ++ u3) 80) (oN (39 + n3)) (Pad ((C2L ++ u3) ++ C3L) 80) (oN ((39 + n3) + 23)) G1 h220 n0 f239 A220 V220 C220 Ab220 f233 f234 f235 f236 f237 g24 g208 (Ne.symm ne232.2) (oCpN (L := (C2L ++ u3)) (us := C3L) (a := (39 + n3)) (b := 23) (c := 80) (rld hu3) ln3 (by omega) (by omega)) O2 P5 f238) hZ220 (Wd66 hw) (Wd46 hw) (by decide) (by decide)) q240a q240c (g := (fr_cna m x3 18  [(.ref a220), (.ref b21)])) rfl (by rw [hml]; rfl) (Steps.refl _) (argsL := [(.ref a220)]) (rest := []) (lenOf pd_33 rfl) rfl (oWt rfl) (D d25_18) (fun _ _ => ⟨rfl, e220, oLe rfl, oLe rfl⟩)
  dsimp only [Pt.U, Pt.locs, Pt.cells, Pt.slots] at X240 l240 y240 z240 st240 hQ240
  subst l240 y240 z240
  obtain ⟨rfl, Nq240, Kq240, Eq240, Vq240, Cq240, Mq240, Aq240⟩ := hQ240
  have N241 := Fr.app Nh218 Nq240
  have R242 := R222.trans (CHr.keep Kq240 (sfS sf223 (sfS sf228 sf0)) R222.1)
  have sf243 := Safe.keep Kq240 (sfS sf223 (sfS sf228 sf0)) R222.1 sf223
  have sf244 := Safe.keep Kq240 (sfS sf223 (sfS sf228 sf0)) R222.1 sf224
  have sf245 := Safe.keep Kq240 (sfS sf223 (sfS sf228 sf0)) R222.1 sf226
  have sf246 := Safe.keep Kq240 (sfS sf223 (sfS sf228 sf0)) R222.1 sf228
  obtain ⟨Lh247, Xh247, Nh247⟩ := oHd 8 596 X240 N241 rfl rfl
  refine ownSt st240 ?_
  clear st240
  show oA p e below _ T240 (fr_cna m x3 21  [(.ref b21)])
  have f248 := (f238.keep Kq240 (allS g24 (allS g208 all0)))
  have f249 := (Nat.le_trans f239 Kq240.1)
  obtain ⟨cq250, kq250, q250a, q250b, q250c⟩ := isOf hZ220 rfl Eq240
  obtain ⟨vv250, _, ⟨T250, L250, k250, n250⟩, -, X250, ⟨Lc250, hQ250, l250, y250, z250⟩, st250⟩ := Xh247.virtualBack hx (y := yM29) (z := yM29) hown220 (mvT hZ220 (Wd138 hw)) (mvT hZ220 (Wd139 hw)) (oNf hZ220 (Wd141 hw)) (mvT hZ220 (Wd141 hw)) (mvT hZ220 (Wd140 hw)) (by decide) (backOf (W := 0) (c_sts l Z a0 hw [] b21 t197 kw197 (oN 80) (Pad ((C2L ++ u3) ++ C3L) 80) (oN ((39 + n3) + 23)) ((C2L ++ u3) ++ C3L) G1 T240.heap n0 f249 Eq240 Vq240 Cq240 Mq240 Aq240 (oCrN (L := ((C2L ++ u3) ++ C3L)) (a := ((39 + n3) + 23)) (c := 80) (rle hu3) (by omega) (by omega) (by omega)) O2 P5 f248) hZ220 (Wd142 hw) (Wd46 hw) (by decide) (by decide)) q250a q250c (g := (fr_cna m x3 21  [(.ref b21)])) rfl (by rw [hml]; rfl) (Steps.refl _) (argsL := []) (rest := []) (lenOf pd_34 rfl) rfl (oWt rfl) (D d25_21) (fun _ _ => ⟨rfl, rfl, oLe rfl, oLe rfl⟩)
  dsimp only [Pt.U, Pt.locs, Pt.cells, Pt.slots] at X250 l250 y250 z250 st250 hQ250
  subst l250 y250 z250
  obtain ⟨x250, t250, kn250, rfl, Nq250, Kq250, zx250, zq250, Eq250, Vq250, Cq250, Aq250⟩ := hQ250
  have f252 := (((f191.keep Kq197).ext E220).keep Kq240)
  have ne251 : x3 ≠ x250 := Nat.ne_of_lt (Nat.lt_of_lt_of_le f252.lt zx250)
  have f254 := (((f194.keep Kq197 (ninS ne23 nin0)).ext E220).keep Kq240 (ninS ne23 (ninS ne199 nin0)))
  have ne253 : ta3 ≠ x250 := Nat.ne_of_lt (Nat.lt_of_lt_of_le f254.lt zx250)
  have f256 := ((f225.ext E220).keep Kq240 (ninS (Ne.symm ne39) (ninS ne200 nin0)))
  have ne255 : t34 ≠ x250 := Nat.ne_of_lt (Nat.lt_of_lt_of_le f256.lt zx250)
  have f258 := (((f203.keep Kq197).ext E220).keep Kq240)
  have ne257 : a49 ≠ x250 := Nat.ne_of_lt (Nat.lt_of_lt_of_le f258.lt zx250)
  have f260 := (((f205.keep Kq197 (ninS (Ne.symm ne54.2) nin0)).ext E220).keep Kq240 (ninS (Ne.symm ne54.2) (ninS ne204 nin0)))
  have ne259 : b49 ≠ x250 := Nat.ne_of_lt (Nat.lt_of_lt_of_le f260.lt zx250)
  have f262 := ((f227.ext E220).keep Kq240)
  have ne261 : t63 ≠ x250 := Nat.ne_of_lt (Nat.lt_of_lt_of_le f262.lt zx250)
  have f264 := ((Ea197.ext E220).keep Kq240)
  have ne263 : t197 ≠ x250 := Nat.ne_of_lt (Nat.lt_of_lt_of_le f264.lt zx250)
  have f266 := (A220.keep Kq240)
  have ne265 : a220 ≠ x250 := Nat.ne_of_lt (Nat.lt_of_lt_of_le f266.lt zx250)
  have f268 := (Ab220.keep Kq240 (ninS (Ne.symm ne229.2) (ninS (Ne.symm ne232.2) nin0)))
  have ne267 : b220 ≠ x250 := Nat.ne_of_lt (Nat.lt_of_lt_of_le f268.lt zx250)
  have ne269 : b21 ≠ x250 := Nat.ne_of_lt (Nat.lt_of_lt_of_le Eq240.lt zx250)
  have g270 : n0 ≤ x250 := Nat.le_trans f249 zx250
  have sf271 : Safe Z ownEL T220.vm T240.heap x250 := Safe.new zx250
  have f273 := (Nat.le_trans (Nat.le_trans (Nat.le_trans f211 Kq197.1) E220.1) Kq240.1)
  have z272 : h0.size ≤ x250 := Nat.le_trans f273 zx250
  have ne274 : x3 ≠ t250 := Nat.ne_of_lt (Nat.lt_of_lt_of_le f252.lt zq250)
  have ne275 : ta3 ≠ t250 := Nat.ne_of_lt (Nat.lt_of_lt_of_le f254.lt zq250)
  have ne276 : t34 ≠ t250 := Nat.ne_of_lt (Nat.lt_of_lt_of_le f256.lt zq250)
  have ne277 : a49 ≠ t250 := Nat.ne_of_lt (Nat.lt_of_lt_of_le f258.lt zq250)
  have ne278 : b49 ≠ t250 := Nat.ne_of_lt (Nat.lt_of_lt_of_le f260.lt zq250)
  have ne279 : t63 ≠ t250 := Nat.ne_of_lt (Nat.lt_of_lt_of_le f262.lt zq250)
  have ne280 : t197 ≠ t250 := Nat.ne_of_lt (Nat.lt_of_lt_of_le f264.lt zq250)
  have ne281 : a220 ≠ t250 := Nat.ne_of_lt (Nat.lt_of_lt_of_le f266.lt zq250)
  have ne282 : b220 ≠ t250 := Nat.ne_of_lt (Nat.lt_of_lt_of_le f268.lt zq250)
  have ne283 : b21 ≠ t250 := Nat.ne_of_lt (Nat.lt_of_lt_of_le Eq240.lt zq250)
  have g284 : n0 ≤ t250 := Nat.le_trans f249 zq250
  have sf285 : Safe Z ownEL T220.vm T240.heap t250 := Safe.new zq250
  have z286 : h0.size ≤ t250 := Nat.le_trans f273 zq250
  have N287 := Fr.app Nh247 Nq250
  have R288 := R242.trans (CHr.keep Kq250 sf0 R242.1)
  have sf289 := Safe.keep Kq250 sf0 R242.1 sf243
  have sf290 := Safe.keep Kq250 sf0 R242.1 sf244
  have sf291 := Safe.keep Kq250 sf0 R242.1 sf245
  have sf292 := Safe.keep Kq250 sf0 R242.1 sf246
  have sf293 := Safe.keep Kq250 sf0 R242.1 sf271
  have sf294 := Safe.keep Kq250 sf0 R242.1 sf285
  obtain ⟨Lh295, Xh295, Nh295⟩ := oHd 10 760 X250 N287 rfl rfl
  refine ownSt st250 ?_
  clear st250
  show oA p e below _ T250 (fr_cna m x3 24  [(.ref x250)])
  have f296 := (((((((((Keep.refl h0 []).ext E21).trans Kq34 (allS (Or.inr z26) all0)).ext E49).trans Kq63 (allS (Or.inr z26) all0)).trans Kq197 (allS (Or.inr z26) all0)).ext E220).trans Kq240 (allS (Or.inr z26) (allS (Or.inr z210) all0))).trans Kq250 all0)
  refine ownRetH Xh295 hS220 (Nat.le_trans (Nat.le_trans hk220 Kq240.1) Kq250.1) Bd.notSynchronized (v := some (.ref x250)) (fun h => by rw [Bd.returns] at h; cases h) ?_ (R288.trans (CHv.at Xh295 hZ220 hEL R288.1)) (oLe rfl) (oLe rfl) (fun fs hr => retOut Xh295 hx Bd.returns rfl (Or.inr (Or.inr (Or.inr (Or.inr ⟨rfl, rfl, rfl⟩)))) (D d25_24) hr)
  show (Q_cna Z x3 ta3 kb3 n3 u3 G1 h0 n0) (some (.ref x250)) T250.heap _
  exact ⟨x250, t250, kn250, rfl, Nh295, f296, z272, z286, Eq250, Vq250, Cq250, Aq250⟩
abbrev fr_nva (m : MethodId) (x1 : Addr) (x2 : Addr) (x3 : Addr) (pc : Nat)  (st : List Value) : JFrame := mkF m pc #[vR x1, vR x2, vR x3] st
def Q_nva (Z : State) (x1 : Addr) (ta1 : Addr) (kb1 : ClassId) (n1 : Nat) (u1 : List Value) (x2 : Addr) (ta2 : Addr) (kb2 : ClassId) (n2 : Nat) (u2 : List Value) (x3 : Addr) (ta3 : Addr) (kb3 : ClassId) (n3 : Nat) (u3 : List Value) (G1 : Int32) (h0 : Heap) (n0 : Nat) (v : Option Value) (h : Heap) (L : List Loc) : Prop := ∃ (x ta : Addr) (kb : ClassId), v = some (.ref x) ∧ Fr n0 L ∧ Keep h0 h [] ∧ h0.size ≤ x ∧ h0.size ≤ ta ∧ Exa Z h x "java/lang/String" ∧ Fld Z h x "java/lang/String" "value" "[B" (.ref ta) ∧ Fld Z h x "java/lang/String" "coder" "B" (iV 0) ∧ Arv Z h ta kb .byte (oN (0 + n1 + 29 + n2 + (39 + n3 + 23))) ((((([] : List Value) ++ u1) ++ C1L) ++ u2) ++ ((C2L ++ u3) ++ C3L)) (iV 0)
theorem ef_nva (m : MethodId) (x0 : Addr) (x1 : Addr) (x2 : Addr)  : entryFrame m #[(.ref x0), (.ref x1), (.ref x2)] 3 = mkF m 0 #[vR x0, vR x1, vR x2] [] := by first | (simp [entryFrame, mkF, argsToLocals, Value.category]; done) | rfl
set_option maxRecDepth 65536 in
set_option maxHeartbeats 40000000 in
theorem c_nva (l : Launch) (Z : State) (a0 : Array Value) (hw : HW a0 Z) (ws : List Jvm.Cond) (x1 : Addr) (ta1 : Addr) (kb1 : ClassId) (n1 : Nat) (u1 : List Value) (x2 : Addr) (ta2 : Addr) (kb2 : ClassId) (n2 : Nat) (u2 : List Value) (x3 : Addr) (ta3 : Addr) (kb3 : ClassId) (n3 : Nat) (u3 : List Value) (G1 : Int32) (h0 : Heap) (n0 : Nat) (Z0 : n0 ≤ h0.size) (Es1 : Exa Z h0 x1 "java/lang/String") (Vs1 : Fld Z h0 x1 "java/lang/String" "value" "[B" (.ref ta1)) (Cs1 : Fld Z h0 x1 "java/lang/String" "coder" "B" (iV 0)) (Ks1 : Arv Z h0 ta1 kb1 .byte (oN n1) u1 (iV 0)) (hu1 : u1.length = n1) (hk1 : n1 ≤ 3) (Es2 : Exa Z h0 x2 "java/lang/String") (Vs2 : Fld Z h0 x2 "java/lang/String" "value" "[B" (.ref ta2)) (Cs2 : Fld Z h0 x2 "java/lang/String" "coder" "B" (iV 0)) (Ks2 : Arv Z h0 ta2 kb2 .byte (oN n2) u2 (iV 0)) (hu2 : u2.length = n2) (hk2 : n2 ≤ 3) (Es3 : Exa Z h0 x3 "java/lang/String") (Vs3 : Fld Z h0 x3 "java/lang/String" "value" "[B" (.ref ta3)) (Cs3 : Fld Z h0 x3 "java/lang/String" "coder" "B" (iV 0)) (Ks3 : Arv Z h0 ta3 kb3 .byte (oN n3) u3 (iV 0)) (hu3 : u3.length = n3) (hk3 : n3 ≤ 3) (O2 : Sta Z Z.heap "java/lang/String" "COMPACT_STRINGS" "Z" (.int G1)) (P5 : ¬ (G1 = (0 : Int32))) (X00 : Old Z n0 h0) :
  MetFree l yM35 (head1 (Jvm.Cond.code yM35 prog_1_method_5_code 3 (some (.object "java/lang/String")) :: ws) ({ frames := 7, cells := 19, slots := 1544, locals := 150 } : Room)) (fun a U => a = #[(.ref x1), (.ref x2), (.ref x3)] ∧ Z.Warmed39 U.vm ∧ U.heap = h0 ∧ CHv Z ownEL U.vm h0) (fun _ _ _ _ _ => True) (fun _ U o U' => ∃ v L, o = .returned v ∧ (Q_nva Z x1 ta1 kb1 n1 u1 x2 ta2 kb2 n2 u2 x3 ta3 kb3 n3 u3 G1 h0 n0) v U'.heap L ∧ CHr Z ownEL U.vm U.heap U'.vm U'.heap ∧ ReturnedEndW U o U' L ({ frames := 7, cells := 19, slots := 1544, locals := 150 } : Room).cells ({ frames := 7, cells := 19, slots := 1544, locals := 150 } : Room).slots) := by
 refine MetFree.of_bodySF (plainFor_of_name pn_31) hisR ?_
 intro p e s m args below meth c s₁ Bd hml0 hP hK
 obtain ⟨rfl, hZ, hHp, hCH⟩ := hP
 have hx := Bd.exec
 have D := fun {pc : Nat} {r} (h : decode _ pc = r) => hb Bd.bytes h
 have hml : c.maxLocals = 3 := hml0
 have hown : s.vm.findClass "com/example/savepoint/savepoint/AnnotationLookup" = some m.cls := findClass_of_methodNamed Bd.named
 have hnm := (name_of_methodNamed Bd.named Bd.method).1
 have X0 : Stand p l e ({ frames := 7, cells := 19, slots := 1544, locals := 150 } : Room) (s.setVm s.vm) m #[(.ref x1), (.ref x2), (.ref x3)] below meth c s₁ [] 0 0 := Stand.of_body Bd
 have e0 : s₁.heap = h0 := by rw [← hHp, Bd.state]; rfl
 have N0 := Fr.nil n0
 refine ownOutH hHp (P := (Q_nva Z x1 ta1 kb1 n1 u1 x2 ta2 kb2 n2 u2 x3 ta3 kb3 n3 u3 G1 h0 n0)) ?_
 refine ownBy (A := s₁.setTop (mkF m 0 #[vR x1, vR x2, vR x3] [])) (fun t k => castTop (ef_nva m x1 x2 x3) k) ?_
 have hS0 : s.Since s.vm h0.size := own_since
 have hEL := own_EW hw
 have R0 := CHr.refl hCH
 have wS := own_wS hw
 obtain ⟨T21, h21, X21, e21, E21, A21, D21, -, st21⟩ := newO X0 hx hZ hown (Wd44 hw) (Wd45 hw) (Wd46 hw) e0 (g := (fr_nva m x1 x2 x3 0  [])) rfl (D d9_0) (by decide) (by decide)
 obtain ⟨b21, g21⟩ : ∃ z, z = h0.size := ⟨_, rfl⟩
 rw [← g21] at A21 D21 st21
 have ne22 : x1 ≠ b21 := Nat.ne_of_lt (Nat.lt_of_lt_of_le Es1.lt (Nat.le_of_eq g21.symm))
 have ne23 : ta1 ≠ b21 := Nat.ne_of_lt (Nat.lt_of_lt_of_le Ks1.lt (Nat.le_of_eq g21.symm))
 have ne24 : x2 ≠ b21 := Nat.ne_of_lt (Nat.lt_of_lt_of_le Es2.lt (Nat.le_of_eq g21.symm))
 have ne25 : ta2 ≠ b21 := Nat.ne_of_lt (Nat.lt_of_lt_of_le Ks2.lt (Nat.le_of_eq g21.symm))
 have ne26 : x3 ≠ b21 := Nat.ne_of_lt (Nat.lt_of_lt_of_le Es3.lt (Nat.le_of_eq g21.symm))
 have ne27 : ta3 ≠ b21 := Nat.ne_of_lt (Nat.lt_of_lt_of_le Ks3.lt (Nat.le_of_eq g21.symm))
 have g28 : n0 ≤ b21 := Nat.le_trans Z0 (Nat.le_of_eq g21.symm)
 have sf29 : Safe Z ownEL s.vm h0 b21 := Safe.new (Nat.le_of_eq g21.symm)
 have z30 : h0.size ≤ b21 := Nat.le_trans (Nat.le_refl h0.size) (Nat.le_of_eq g21.symm)
 have R31 := R0.trans (CHr.ext E21 R0.1)
 have sf32 := Safe.ext E21 R0.1 sf29
 have F33 : Fld Z h21 b21 "java/lang/AbstractStringBuilder" "value" "[B" .null := D21 (Or.inl (Wd59 hw)) (ty := (.array .byte)) (by decide)
 have F34 : Fld Z h21 b21 "java/lang/AbstractStringBuilder" "coder" "B" (iV 0) := D21 (Or.inl (Wd61 hw)) (ty := .byte) (by decide)
 have F35 : Fld Z h21 b21 "java/lang/AbstractStringBuilder" "count" "I" (iV 0) := D21 (Or.inl (Wd83 hw)) (ty := .int) (by decide)
 refine ownBy st21 ?_
 clear st21
 show oA p e below _ T21 (fr_nva m x1 x2 x3 3  [(.ref b21)])
 refine oTo T21 (fr_nva m x1 x2 x3 4  [(.ref b21), (.ref b21)]) (fun t kt => ?_) ?_
 ·refine XS.dup X21.here hx rfl (D d9_3) rfl rfl ?_
  exact kt
 have f36 := (X00.ext E21)
 have f37 := (Nat.le_trans Z0 E21.1)
 obtain ⟨vv38, _, ⟨T38, L38, k38, n38⟩, -, X38, ⟨Lc38, hQ38, l38, y38, z38⟩, st38⟩ := X21.specialBack hx (y := yM8) rfl hown (mvT hZ (Wd47 hw)) (mvT hZ (Wd48 hw)) (mvT hZ (Wd49 hw)) (by decide) (backOf (W := 1) (c_sbi l Z a0 hw [] b21 _ G1 h21 n0 f37 A21 F33 F34 F35 g28 O2 P5 f36) hZ (Wd49 hw) (Wd46 hw) (by decide) (by decide)) (g := (fr_nva m x1 x2 x3 4  [(.ref b21), (.ref b21)])) rfl (by rw [hml]; rfl) (Steps.refl _) (a := b21) (argsL := []) (rest := [(.ref b21)]) (lenOf pd_32 rfl) rfl (oWt rfl) (D d9_4) (fun _ _ => ⟨rfl, e21, oLe rfl, oLe rfl⟩)
 dsimp only [Pt.U, Pt.locs, Pt.cells, Pt.slots] at X38 l38 y38 z38 st38 hQ38
 subst l38 y38 z38
 obtain ⟨rfl, Nq38, Kq38, t38, kv38, zq38, Eq38, Vq38, Cq38, Mq38, Aq38⟩ := hQ38
 have f40 := (Es1.ext E21)
 have ne39 : x1 ≠ t38 := Nat.ne_of_lt (Nat.lt_of_lt_of_le f40.lt zq38)
 have f42 := (Ks1.ext E21)
 have ne41 : ta1 ≠ t38 := Nat.ne_of_lt (Nat.lt_of_lt_of_le f42.lt zq38)
 have f44 := (Es2.ext E21)
 have ne43 : x2 ≠ t38 := Nat.ne_of_lt (Nat.lt_of_lt_of_le f44.lt zq38)
 have f46 := (Ks2.ext E21)
 have ne45 : ta2 ≠ t38 := Nat.ne_of_lt (Nat.lt_of_lt_of_le f46.lt zq38)
 have f48 := (Es3.ext E21)
 have ne47 : x3 ≠ t38 := Nat.ne_of_lt (Nat.lt_of_lt_of_le f48.lt zq38)
 have f50 := (Ks3.ext E21)
 have ne49 : ta3 ≠ t38 := Nat.ne_of_lt (Nat.lt_of_lt_of_le f50.lt zq38)
 have ne51 : b21 ≠ t38 := Nat.ne_of_lt (Nat.lt_of_lt_of_le A21.lt zq38)
 have g52 : n0 ≤ t38 := Nat.le_trans f37 zq38
 have sf53 : Safe Z ownEL s.vm h21 t38 := Safe.new zq38
 have f55 := (Nat.le_trans (Nat.le_refl h0.size) E21.1)
 have z54 : h0.size ≤ t38 := Nat.le_trans f55 zq38
 have N56 := Fr.app N0 Nq38
 have R57 := R31.trans (CHr.keep Kq38 (sfS sf32 sf0) R31.1)
 have sf58 := Safe.keep Kq38 (sfS sf32 sf0) R31.1 sf32
 have sf59 := Safe.keep Kq38 (sfS sf32 sf0) R31.1 sf53
 obtain ⟨Lh60, Xh60, Nh60⟩ := oHd 2 20 X38 N56 rfl rfl
 refine ownSt st38 ?_
 clear st38
 show oA p e below _ T38 (fr_nva m x1 x2 x3 7  [(.ref b21)])
 refine oTo T38 (fr_nva m x1 x2 x3 8  [(.ref x1), (.ref b21)]) (fun t kt => ?_) ?_
 ·refine XS.aloadN Xh60.here hx rfl (D d9_7) rfl rfl ?_
  exact kt
 have f61 := (f40.keep Kq38)
 have f62 := ((Vs1.ext E21).keep Kq38 (ninS ne22 nin0))
 have f63 := ((Cs1.ext E21).keep Kq38 (ninS ne22 nin0))
 have f64 := (f42.keep Kq38 (ninS ne23 nin0))
 have f65 := (f36.keep Kq38 (allS g28 all0))
 have f66 := (Nat.le_trans f37 Kq38.1)
 obtain ⟨cq67, kq67, q67a, q67b, q67c⟩ := isOf hZ rfl Eq38
 obtain ⟨vv67, _, ⟨T67, L67, k67, n67⟩, -, X67, ⟨Lc67, hQ67, l67, y67, z67⟩, st67⟩ := Xh60.virtualBack hx (y := yM14) (z := yM14) hown (mvT hZ (Wd62 hw)) (mvT hZ (Wd63 hw)) (oNf hZ (Wd65 hw)) (mvT hZ (Wd65 hw)) (mvT hZ (Wd64 hw)) (by decide) (backOf (W := 0) (c_sapp l Z a0 hw [] x1 ta1 kb1 (oN n1) u1 b21 t38 kv38 (oN 16) (Pad ([] : List Value) 16) (oN 0) (Pad (([] : List Value) ++ u1) 16) (oN (0 + n1)) G1 T38.heap n0 f66 f61 f62 f63 f64 Eq38 Vq38 Cq38 Mq38 Aq38 g28 g52 ne41 (oCpN (L := ([] : List Value)) (us := u1) (a := 0) (b := n1) (c := 16) (show ([] : List Value).length = 0 from rfl) hu1 (by omega) (by omega)) O2 P5 f65) hZ (Wd66 hw) (Wd46 hw) (by decide) (by decide)) q67a q67c (g := (fr_nva m x1 x2 x3 8  [(.ref x1), (.ref b21)])) rfl (by rw [hml]; rfl) (Steps.refl _) (argsL := [(.ref x1)]) (rest := []) (lenOf pd_33 rfl) rfl (oWt rfl) (D d9_8) (fun _ _ => ⟨rfl, rfl, oLe rfl, oLe rfl⟩)
 dsimp only [Pt.U, Pt.locs, Pt.cells, Pt.slots] at X67 l67 y67 z67 st67 hQ67
 subst l67 y67 z67
 obtain ⟨rfl, Nq67, Kq67, Eq67, Vq67, Cq67, Mq67, Aq67⟩ := hQ67
 have N68 := Fr.app Nh60 Nq67
 have R69 := R57.trans (CHr.keep Kq67 (sfS sf58 (sfS sf59 sf0)) R57.1)
 have sf70 := Safe.keep Kq67 (sfS sf58 (sfS sf59 sf0)) R57.1 sf58
 have sf71 := Safe.keep Kq67 (sfS sf58 (sfS sf59 sf0)) R57.1 sf59
 obtain ⟨Lh72, Xh72, Nh72⟩ := oHd 2 20 X67 N68 rfl rfl
 refine ownSt st67 ?_
 clear st67
 show oA p e below _ T67 (fr_nva m x1 x2 x3 11  [(.ref b21)])
 obtain ⟨a73, T73, h73, k73, b73, kb73, X73, e73, E73, hS73, hk73, hZ73, hown73, A73, C73, V73, Ab73, -, -, hC73, Lt73, hne73, st73⟩ := ldcCH (text := " carries @Transactional, and ") Xh72 hx hZ hown (Wd109 hw) wS rfl hS0 (Nat.le_trans (Nat.le_trans (Nat.le_trans (Nat.le_refl _) E21.1) Kq38.1) Kq67.1) hEL (by simp [ownEL]) R69.1 (vs := [(iV 32), (iV 99), (iV 97), (iV 114), (iV 114), (iV 105), (iV 101), (iV 115), (iV 32), (iV 64), (iV 84), (iV 114), (iV 97), (iV 110), (iV 115), (iV 97), (iV 99), (iV 116), (iV 105), (iV 111), (iV 110), (iV 97), (iV 108), (iV 44), (iV 32), (iV 97), (iV 110), (iV 100), (iV 32)]) (z := (29 : Int32)) ⟨by decide, by decide⟩ (by decide) rfl (g := (fr_nva m x1 x2 x3 11  [(.ref b21)])) rfl (D d9_11) (n := 116) (by decide) (by decide) (by decide) (by decide)
 have R75 := R69.trans hC73
 have sf76 := CHr.safe hC73 Eq67.lt sf70
 have sf77 := CHr.safe hC73 Aq67.lt sf71
 have ne78 := hne73 b21 sf76
 have ne79 := hne73 t38 sf77
 refine ownBy st73 ?_
 clear st73
 show oA p e below _ T73 (fr_nva m x1 x2 x3 13  [(.ref a73), (.ref b21)])
 have f80 := (Eq67.ext E73)
 have f81 := (Vq67.ext E73)
 have f82 := (Cq67.ext E73)
 have f83 := (Mq67.ext E73)
 have f84 := (Aq67.ext E73)
 have f85 := ((f65.keep Kq67 (allS g28 (allS g52 all0))).ext E73)
 have f86 := (Nat.le_trans (Nat.le_trans f66 Kq67.1) E73.1)
 obtain ⟨cq87, kq87, q87a, q87b, q87c⟩ := isOf hZ73 e73 f80
 obtain ⟨vv87, _, ⟨T87, L87, k87, n87⟩, -, X87, ⟨Lc87, hQ87, l87, y87, z87⟩, st87⟩ := X73.virtualBack hx (y := yM14) (z := yM14) hown73 (mvT hZ73 (Wd62 hw)) (mvT hZ73 (Wd63 hw)) (oNf hZ73 (Wd65 hw)) (mvT hZ73 (Wd65 hw)) (mvT hZ73 (Wd64 hw)) (by decide) (backOf (W := 0) (c_sapg l Z a0 hw [] a73 b73 kb73 (oN 29) C1L b21 t38 kv38 (oN 16) (Pad (([] : List Value) ++ u1) 16) (oN (0 + n1)) (Pad ((([] : List Value) ++ u1) ++ C1L) 34) (oN ((0 + n1) + 29)) (oN 34) (Pad (([] : List Value) ++ u1) 34) G1 h73 n0 f86 A73 V73 C73 Ab73 f80 f81 f82 f83 f84 g28 g52 (Ne.symm ne79.2) (oGrN (L := (([] : List Value) ++ u1)) (b := 16) (m := ((0 + n1) + 29)) (n := 34) (Nat.le_trans (Nat.le_of_eq (rla hu1)) (by omega)) (by omega) (by omega) (by omega) (by omega)) (oCpN (L := (([] : List Value) ++ u1)) (us := C1L) (a := (0 + n1)) (b := 29) (c := 34) (rla hu1) ln1 (by omega) (by omega)) O2 P5 f85) hZ73 (Wd66 hw) (Wd46 hw) (by decide) (by decide)) q87a q87c (g := (fr_nva m x1 x2 x3 13  [(.ref a73), (.ref b21)])) rfl (by rw [hml]; rfl) (Steps.refl _) (argsL := [(.ref a73)]) (rest := []) (lenOf pd_33 rfl) rfl (oWt rfl) (D d9_13) (fun _ _ => ⟨rfl, e73, oLe rfl, oLe rfl⟩)
 dsimp only [Pt.U, Pt.locs, Pt.cells, Pt.slots] at X87 l87 y87 z87 st87 hQ87
 subst l87 y87 z87
 obtain ⟨rfl, Nq87, Kq87, t87, kw87, zq87, Ea87, Eq87, Vq87, Cq87, Mq87, Aq87⟩ := hQ87
 have f89 := ((f61.keep Kq67).ext E73)
 have ne88 : x1 ≠ t87 := Nat.ne_of_lt (Nat.lt_of_lt_of_le f89.lt zq87)
 have f91 := ((f64.keep Kq67 (ninS ne23 (ninS ne41 nin0))).ext E73)
 have ne90 : ta1 ≠ t87 := Nat.ne_of_lt (Nat.lt_of_lt_of_le f91.lt zq87)
 have f93 := (((f44.keep Kq38).keep Kq67).ext E73)
 have ne92 : x2 ≠ t87 := Nat.ne_of_lt (Nat.lt_of_lt_of_le f93.lt zq87)
 have f95 := (((f46.keep Kq38 (ninS ne25 nin0)).keep Kq67 (ninS ne25 (ninS ne45 nin0))).ext E73)
 have ne94 : ta2 ≠ t87 := Nat.ne_of_lt (Nat.lt_of_lt_of_le f95.lt zq87)
 have f97 := (((f48.keep Kq38).keep Kq67).ext E73)
 have ne96 : x3 ≠ t87 := Nat.ne_of_lt (Nat.lt_of_lt_of_le f97.lt zq87)
 have f99 := (((f50.keep Kq38 (ninS ne27 nin0)).keep Kq67 (ninS ne27 (ninS ne49 nin0))).ext E73)
 have ne98 : ta3 ≠ t87 := Nat.ne_of_lt (Nat.lt_of_lt_of_le f99.lt zq87)
 have ne100 : b21 ≠ t87 := Nat.ne_of_lt (Nat.lt_of_lt_of_le f80.lt zq87)
 have ne101 : t38 ≠ t87 := Nat.ne_of_lt (Nat.lt_of_lt_of_le f84.lt zq87)
 have ne102 : a73 ≠ t87 := Nat.ne_of_lt (Nat.lt_of_lt_of_le A73.lt zq87)
 have ne103 : b73 ≠ t87 := Nat.ne_of_lt (Nat.lt_of_lt_of_le Ab73.lt zq87)
 have g104 : n0 ≤ t87 := Nat.le_trans f86 zq87
 have sf105 : Safe Z ownEL T73.vm h73 t87 := Safe.new zq87
 have f107 := (Nat.le_trans (Nat.le_trans (Nat.le_trans f55 Kq38.1) Kq67.1) E73.1)
 have z106 : h0.size ≤ t87 := Nat.le_trans f107 zq87
 have N108 := Fr.app Nh72 Nq87
 have R109 := R75.trans (CHr.keep Kq87 (sfS sf76 sf0) R75.1)
 have sf110 := Safe.keep Kq87 (sfS sf76 sf0) R75.1 sf76
 have sf111 := Safe.keep Kq87 (sfS sf76 sf0) R75.1 sf77
 have sf112 := Safe.keep Kq87 (sfS sf76 sf0) R75.1 sf105
 obtain ⟨Lh113, Xh113, Nh113⟩ := oHd 5 300 X87 N108 rfl rfl
 refine ownSt st87 ?_
 clear st87
 show oA p e below _ T87 (fr_nva m x1 x2 x3 16  [(.ref b21)])
 have ne114 : b21 ≠ t87 := Exa.neArv Eq87 Aq87 (Wd45 hw)
 by_cases h5 : n1 + n2 ≤ 5
 ·skip
  refine oTo T87 (fr_nva m x1 x2 x3 17  [(.ref x2), (.ref b21)]) (fun t kt => ?_) ?_
  ·refine XS.aloadN Xh113.here hx rfl (D d9_16) rfl rfl ?_
   exact kt
  have f115 := (f93.keep Kq87)
  have f116 := (((((Vs2.ext E21).keep Kq38 (ninS ne24 nin0)).keep Kq67 (ninS ne24 (ninS ne43 nin0))).ext E73).keep Kq87 (ninS ne24 nin0))
  have f117 := (((((Cs2.ext E21).keep Kq38 (ninS ne24 nin0)).keep Kq67 (ninS ne24 (ninS ne43 nin0))).ext E73).keep Kq87 (ninS ne24 nin0))
  have f118 := (f95.keep Kq87 (ninS ne25 nin0))
  have f119 := (f85.keep Kq87 (allS g28 all0))
  have f120 := (Nat.le_trans f86 Kq87.1)
  obtain ⟨cq121, kq121, q121a, q121b, q121c⟩ := isOf hZ73 rfl Eq87
  obtain ⟨vv121, _, ⟨T121, L121, k121, n121⟩, -, X121, ⟨Lc121, hQ121, l121, y121, z121⟩, st121⟩ := Xh113.virtualBack hx (y := yM14) (z := yM14) hown73 (mvT hZ73 (Wd62 hw)) (mvT hZ73 (Wd63 hw)) (oNf hZ73 (Wd65 hw)) (mvT hZ73 (Wd65 hw)) (mvT hZ73 (Wd64 hw)) (by decide) (backOf (W := 0) (c_sapp l Z a0 hw [] x2 ta2 kb2 (oN n2) u2 b21 t87 kw87 (oN 34) (Pad ((([] : List Value) ++ u1) ++ C1L) 34) (oN ((0 + n1) + 29)) (Pad (((([] : List Value) ++ u1) ++ C1L) ++ u2) 34) (oN (((0 + n1) + 29) + n2)) G1 T87.heap n0 f120 f115 f116 f117 f118 Eq87 Vq87 Cq87 Mq87 Aq87 g28 g104 ne94 (oCpN (L := ((([] : List Value) ++ u1) ++ C1L)) (us := u2) (a := ((0 + n1) + 29)) (b := n2) (c := 34) (rlb hu1) hu2 (by omega) (by omega)) O2 P5 f119) hZ73 (Wd66 hw) (Wd46 hw) (by decide) (by decide)) q121a q121c (g := (fr_nva m x1 x2 x3 17  [(.ref x2), (.ref b21)])) rfl (by rw [hml]; rfl) (Steps.refl _) (argsL := [(.ref x2)]) (rest := []) (lenOf pd_33 rfl) rfl (oWt rfl) (D d9_17) (fun _ _ => ⟨rfl, rfl, oLe rfl, oLe rfl⟩)
  dsimp only [Pt.U, Pt.locs, Pt.cells, Pt.slots] at X121 l121 y121 z121 st121 hQ121
  subst l121 y121 z121
  obtain ⟨rfl, Nq121, Kq121, Eq121, Vq121, Cq121, Mq121, Aq121⟩ := hQ121
  have N122 := Fr.app Nh113 Nq121
  have R123 := R109.trans (CHr.keep Kq121 (sfS sf110 (sfS sf112 sf0)) R109.1)
  have sf124 := Safe.keep Kq121 (sfS sf110 (sfS sf112 sf0)) R109.1 sf110
  have sf125 := Safe.keep Kq121 (sfS sf110 (sfS sf112 sf0)) R109.1 sf111
  have sf126 := Safe.keep Kq121 (sfS sf110 (sfS sf112 sf0)) R109.1 sf112
  obtain ⟨Lh127, Xh127, Nh127⟩ := oHd 5 300 X121 N122 rfl rfl
  refine ownSt st121 ?_
  clear st121
  show oA p e below _ T121 (fr_nva m x1 x2 x3 20  [(.ref b21)])
  refine oTo T121 (fr_nva m x1 x2 x3 21  [(.ref x3), (.ref b21)]) (fun t kt => ?_) ?_
  ·refine XS.aloadN Xh127.here hx rfl (D d9_20) rfl rfl ?_
   exact kt
  have f128 := ((f97.keep Kq87).keep Kq121)
  have f129 := ((((((Vs3.ext E21).keep Kq38 (ninS ne26 nin0)).keep Kq67 (ninS ne26 (ninS ne47 nin0))).ext E73).keep Kq87 (ninS ne26 nin0)).keep Kq121 (ninS ne26 (ninS ne96 nin0)))
  have f130 := ((((((Cs3.ext E21).keep Kq38 (ninS ne26 nin0)).keep Kq67 (ninS ne26 (ninS ne47 nin0))).ext E73).keep Kq87 (ninS ne26 nin0)).keep Kq121 (ninS ne26 (ninS ne96 nin0)))
  have f131 := ((f99.keep Kq87 (ninS ne27 nin0)).keep Kq121 (ninS ne27 (ninS ne98 nin0)))
  have f132 := (f119.keep Kq121 (allS g28 (allS g104 all0)))
  have f133 := (Nat.le_trans f120 Kq121.1)
  obtain ⟨vv134, _, ⟨T134, L134, k134, n134⟩, -, X134, hS134, hg134, ⟨Lc134, hQ134, l134, y134, z134, hC134⟩, st134⟩ := callSS Xh127 hx (y := yM34) hown73 (mvT hZ73 (Wd133 hw)) (mvT hZ73 (Wd134 hw)) (mvT hZ73 (Wd42 hw)) (mvT hZ73 (Wd135 hw)) (by decide) (backOfSH (W := 1) (s := s) (EL := ownEL) (c_cna l Z a0 hw [] x3 ta3 kb3 n3 u3 G1 T121.heap n0 f133 f128 f129 f130 f131 hu3 hk3 O2 P5 f132) hZ73 (Wd135 hw) (Wd42 hw) (by decide) (by decide) hEL R123.1) (g := (fr_nva m x1 x2 x3 21  [(.ref x3), (.ref b21)])) rfl (by rw [hml]; rfl) (argsL := [(.ref x3)]) (rest := [(.ref b21)]) (lenOf pd_35 rfl) rfl (oWt rfl) (D d9_21) (fun _ _ => ⟨rfl, rfl, oLe rfl, oLe rfl⟩)
  dsimp only [Pt.U, Pt.locs, Pt.cells, Pt.slots] at X134 l134 y134 z134 st134 hQ134 hS134 hg134 hC134
  subst l134 y134 z134
  obtain ⟨x134, t134, kb134, rfl, Nq134, Kq134, zq134, zt134, Eq134, Vq134, Cq134, Aq134⟩ := hQ134
  have f136 := ((f89.keep Kq87).keep Kq121)
  have ne135 : x1 ≠ x134 := Nat.ne_of_lt (Nat.lt_of_lt_of_le f136.lt zq134)
  have f138 := ((f91.keep Kq87 (ninS ne23 nin0)).keep Kq121 (ninS ne23 (ninS ne90 nin0)))
  have ne137 : ta1 ≠ x134 := Nat.ne_of_lt (Nat.lt_of_lt_of_le f138.lt zq134)
  have f140 := (f115.keep Kq121)
  have ne139 : x2 ≠ x134 := Nat.ne_of_lt (Nat.lt_of_lt_of_le f140.lt zq134)
  have f142 := (f118.keep Kq121 (ninS ne25 (ninS ne94 nin0)))
  have ne141 : ta2 ≠ x134 := Nat.ne_of_lt (Nat.lt_of_lt_of_le f142.lt zq134)
  have ne143 : x3 ≠ x134 := Nat.ne_of_lt (Nat.lt_of_lt_of_le f128.lt zq134)
  have ne144 : ta3 ≠ x134 := Nat.ne_of_lt (Nat.lt_of_lt_of_le f131.lt zq134)
  have f146 := ((f84.keep Kq87 (ninS (Ne.symm ne51) nin0)).keep Kq121 (ninS (Ne.symm ne51) (ninS ne101 nin0)))
  have ne145 : t38 ≠ x134 := Nat.ne_of_lt (Nat.lt_of_lt_of_le f146.lt zq134)
  have f148 := ((A73.keep Kq87).keep Kq121)
  have ne147 : a73 ≠ x134 := Nat.ne_of_lt (Nat.lt_of_lt_of_le f148.lt zq134)
  have f150 := ((Ab73.keep Kq87 (ninS (Ne.symm ne78.2) nin0)).keep Kq121 (ninS (Ne.symm ne78.2) (ninS ne103 nin0)))
  have ne149 : b73 ≠ x134 := Nat.ne_of_lt (Nat.lt_of_lt_of_le f150.lt zq134)
  have f152 := (Ea87.keep Kq121)
  have ne151 : t87 ≠ x134 := Nat.ne_of_lt (Nat.lt_of_lt_of_le f152.lt zq134)
  have ne153 : b21 ≠ x134 := Nat.ne_of_lt (Nat.lt_of_lt_of_le Eq121.lt zq134)
  have g154 : n0 ≤ x134 := Nat.le_trans f133 zq134
  have f156 := (Nat.le_trans (Nat.le_trans f107 Kq87.1) Kq121.1)
  have z155 : h0.size ≤ x134 := Nat.le_trans f156 zq134
  have ne157 : x1 ≠ t134 := Nat.ne_of_lt (Nat.lt_of_lt_of_le f136.lt zt134)
  have ne158 : ta1 ≠ t134 := Nat.ne_of_lt (Nat.lt_of_lt_of_le f138.lt zt134)
  have ne159 : x2 ≠ t134 := Nat.ne_of_lt (Nat.lt_of_lt_of_le f140.lt zt134)
  have ne160 : ta2 ≠ t134 := Nat.ne_of_lt (Nat.lt_of_lt_of_le f142.lt zt134)
  have ne161 : x3 ≠ t134 := Nat.ne_of_lt (Nat.lt_of_lt_of_le f128.lt zt134)
  have ne162 : ta3 ≠ t134 := Nat.ne_of_lt (Nat.lt_of_lt_of_le f131.lt zt134)
  have ne163 : t38 ≠ t134 := Nat.ne_of_lt (Nat.lt_of_lt_of_le f146.lt zt134)
  have ne164 : a73 ≠ t134 := Nat.ne_of_lt (Nat.lt_of_lt_of_le f148.lt zt134)
  have ne165 : b73 ≠ t134 := Nat.ne_of_lt (Nat.lt_of_lt_of_le f150.lt zt134)
  have ne166 : t87 ≠ t134 := Nat.ne_of_lt (Nat.lt_of_lt_of_le f152.lt zt134)
  have ne167 : b21 ≠ t134 := Nat.ne_of_lt (Nat.lt_of_lt_of_le Eq121.lt zt134)
  have g168 : n0 ≤ t134 := Nat.le_trans f133 zt134
  have z169 : h0.size ≤ t134 := Nat.le_trans f156 zt134
  have N170 := Fr.app Nh127 Nq134
  have R172 := R123.trans hC134
  have sf173 := CHr.safe hC134 Eq121.lt sf124
  have sf174 := CHr.safe hC134 f146.lt sf125
  have sf175 := CHr.safe hC134 f152.lt sf126
  obtain ⟨XR176, hSR176, hZ176, hown176⟩ := rebS hS73 (Nat.le_trans (Nat.le_trans hk73 Kq87.1) Kq121.1) X134 hS134 hg134 hZ73 hown73
  obtain ⟨Lh177, Xh177, Nh177⟩ := oHd 15 1060 XR176 N170 rfl rfl
  refine ownSt st134 ?_
  clear st134
  show oA p e below _ T134 (fr_nva m x1 x2 x3 24  [(.ref x134), (.ref b21)])
  have f178 := (Eq121.keep Kq134)
  have f179 := (Vq121.keep Kq134 nin0)
  have f180 := (Cq121.keep Kq134 nin0)
  have f181 := (Mq121.keep Kq134 nin0)
  have f182 := (Aq121.keep Kq134 nin0)
  have f183 := (f132.keep Kq134 all0)
  have f184 := (Nat.le_trans f133 Kq134.1)
  obtain ⟨cq185, kq185, q185a, q185b, q185c⟩ := isOf hZ176 rfl f178
  obtain ⟨vv185, _, ⟨T185, L185, k185, n185⟩, -, X185, ⟨Lc185, hQ185, l185, y185, z185⟩, st185⟩ := Xh177.virtualBack hx (y := yM14) (z := yM14) hown176 (mvT hZ176 (Wd62 hw)) (mvT hZ176 (Wd63 hw)) (oNf hZ176 (Wd65 hw)) (mvT hZ176 (Wd65 hw)) (mvT hZ176 (Wd64 hw)) (by decide) (backOf (W := 0) (c_sapg l Z a0 hw [] x134 t134 kb134 (oN (39 + n3 + 23)) ((C2L ++ u3) ++ C3L) b21 t87 kw87 (oN 34) (Pad (((([] : List Value) ++ u1) ++ C1L) ++ u2) 34) (oN (((0 + n1) + 29) + n2)) (Pad ((((([] : List Value) ++ u1) ++ C1L) ++ u2) ++ ((C2L ++ u3) ++ C3L)) (0 + n1 + 29 + n2 + (39 + n3 + 23))) (oN ((((0 + n1) + 29) + n2) + (39 + n3 + 23))) (oN (0 + n1 + 29 + n2 + (39 + n3 + 23))) (Pad (((([] : List Value) ++ u1) ++ C1L) ++ u2) (0 + n1 + 29 + n2 + (39 + n3 + 23))) G1 T134.heap n0 f184 Eq134 Vq134 Cq134 Aq134 f178 f179 f180 f181 f182 g28 g104 (Ne.symm ne166) (oGrN (L := (((([] : List Value) ++ u1) ++ C1L) ++ u2)) (b := 34) (m := ((((0 + n1) + 29) + n2) + (39 + n3 + 23))) (n := (0 + n1 + 29 + n2 + (39 + n3 + 23))) (Nat.le_trans (Nat.le_of_eq (rlc hu1 hu2)) (by omega)) (by omega) (by omega) (by omega) (by omega)) (oCpN (L := (((([] : List Value) ++ u1) ++ C1L) ++ u2)) (us := ((C2L ++ u3) ++ C3L)) (a := (((0 + n1) + 29) + n2)) (b := (39 + n3 + 23)) (c := (0 + n1 + 29 + n2 + (39 + n3 + 23))) (rlc hu1 hu2) (rle hu3) (by omega) (by omega)) O2 P5 f183) hZ176 (Wd66 hw) (Wd46 hw) (by decide) (by decide)) q185a q185c (g := (fr_nva m x1 x2 x3 24  [(.ref x134), (.ref b21)])) rfl (by rw [hml]; rfl) (Steps.refl _) (argsL := [(.ref x134)]) (rest := []) (lenOf pd_33 rfl) rfl (oWt rfl) (D d9_24) (fun _ _ => ⟨rfl, rfl, oLe rfl, oLe rfl⟩)
  dsimp only [Pt.U, Pt.locs, Pt.cells, Pt.slots] at X185 l185 y185 z185 st185 hQ185
  subst l185 y185 z185
  obtain ⟨rfl, Nq185, Kq185, t185, kw185, zq185, Ea185, Eq185, Vq185, Cq185, Mq185, Aq185⟩ := hQ185
  have f187 := (f136.keep Kq134)
  have ne186 : x1 ≠ t185 := Nat.ne_of_lt (Nat.lt_of_lt_of_le f187.lt zq185)
  have f189 := (f138.keep Kq134 nin0)
  have ne188 : ta1 ≠ t185 := Nat.ne_of_lt (Nat.lt_of_lt_of_le f189.lt zq185)
  have f191 := (f140.keep Kq134)
  have ne190 : x2 ≠ t185 := Nat.ne_of_lt (Nat.lt_of_lt_of_le f191.lt zq185)
  have f193 := (f142.keep Kq134 nin0)
  have ne192 : ta2 ≠ t185 := Nat.ne_of_lt (Nat.lt_of_lt_of_le f193.lt zq185)
  have f195 := (f128.keep Kq134)
  have ne194 : x3 ≠ t185 := Nat.ne_of_lt (Nat.lt_of_lt_of_le f195.lt zq185)
  have f197 := (f131.keep Kq134 nin0)
  have ne196 : ta3 ≠ t185 := Nat.ne_of_lt (Nat.lt_of_lt_of_le f197.lt zq185)
  have f199 := (f146.keep Kq134 nin0)
  have ne198 : t38 ≠ t185 := Nat.ne_of_lt (Nat.lt_of_lt_of_le f199.lt zq185)
  have f201 := (f148.keep Kq134)
  have ne200 : a73 ≠ t185 := Nat.ne_of_lt (Nat.lt_of_lt_of_le f201.lt zq185)
  have f203 := (f150.keep Kq134 nin0)
  have ne202 : b73 ≠ t185 := Nat.ne_of_lt (Nat.lt_of_lt_of_le f203.lt zq185)
  have f205 := (f152.keep Kq134)
  have ne204 : t87 ≠ t185 := Nat.ne_of_lt (Nat.lt_of_lt_of_le f205.lt zq185)
  have ne206 : b21 ≠ t185 := Nat.ne_of_lt (Nat.lt_of_lt_of_le f178.lt zq185)
  have ne207 : x134 ≠ t185 := Nat.ne_of_lt (Nat.lt_of_lt_of_le Eq134.lt zq185)
  have ne208 : t134 ≠ t185 := Nat.ne_of_lt (Nat.lt_of_lt_of_le Aq134.lt zq185)
  have g209 : n0 ≤ t185 := Nat.le_trans f184 zq185
  have sf210 : Safe Z ownEL T134.vm T134.heap t185 := Safe.new zq185
  have f212 := (Nat.le_trans f156 Kq134.1)
  have z211 : h0.size ≤ t185 := Nat.le_trans f212 zq185
  have N213 := Fr.app Nh177 Nq185
  have R214 := R172.trans (CHr.keep Kq185 (sfS sf173 sf0) R172.1)
  have sf215 := Safe.keep Kq185 (sfS sf173 sf0) R172.1 sf173
  have sf216 := Safe.keep Kq185 (sfS sf173 sf0) R172.1 sf174
  have sf217 := Safe.keep Kq185 (sfS sf173 sf0) R172.1 sf175
  have sf218 := Safe.keep Kq185 (sfS sf173 sf0) R172.1 sf210
  obtain ⟨Lh219, Xh219, Nh219⟩ := oHd 16 1220 X185 N213 rfl rfl
  refine ownSt st185 ?_
  clear st185
  show oA p e below _ T185 (fr_nva m x1 x2 x3 27  [(.ref b21)])
  have ne220 : b21 ≠ t185 := Exa.neArv Eq185 Aq185 (Wd45 hw)
  have f221 := (f183.keep Kq185 (allS g28 all0))
  have f222 := (Nat.le_trans f184 Kq185.1)
  obtain ⟨cq223, kq223, q223a, q223b, q223c⟩ := isOf hZ176 rfl Eq185
  obtain ⟨vv223, _, ⟨T223, L223, k223, n223⟩, -, X223, ⟨Lc223, hQ223, l223, y223, z223⟩, st223⟩ := Xh219.virtualBack hx (y := yM29) (z := yM29) hown176 (mvT hZ176 (Wd138 hw)) (mvT hZ176 (Wd139 hw)) (oNf hZ176 (Wd141 hw)) (mvT hZ176 (Wd141 hw)) (mvT hZ176 (Wd140 hw)) (by decide) (backOf (W := 0) (c_stsE l Z a0 hw [] b21 t185 kw185 (oN (0 + n1 + 29 + n2 + (39 + n3 + 23))) (Pad ((((([] : List Value) ++ u1) ++ C1L) ++ u2) ++ ((C2L ++ u3) ++ C3L)) (0 + n1 + 29 + n2 + (39 + n3 + 23))) G1 T185.heap n0 f222 Eq185 Vq185 Cq185 Mq185 Aq185 Ea185 (by rw [oN_nat (by omega)]; omega) O2 P5 f221) hZ176 (Wd142 hw) (Wd46 hw) (by decide) (by decide)) q223a q223c (g := (fr_nva m x1 x2 x3 27  [(.ref b21)])) rfl (by rw [hml]; rfl) (Steps.refl _) (argsL := []) (rest := []) (lenOf pd_34 rfl) rfl (oWt rfl) (D d9_27) (fun _ _ => ⟨rfl, rfl, oLe rfl, oLe rfl⟩)
  dsimp only [Pt.U, Pt.locs, Pt.cells, Pt.slots] at X223 l223 y223 z223 st223 hQ223
  subst l223 y223 z223
  obtain ⟨x223, t223, kn223, rfl, Nq223, Kq223, zx223, zq223, Eq223, Vq223, Cq223, Aq223⟩ := hQ223
  have f225 := (f187.keep Kq185)
  have ne224 : x1 ≠ x223 := Nat.ne_of_lt (Nat.lt_of_lt_of_le f225.lt zx223)
  have f227 := (f189.keep Kq185 (ninS ne23 nin0))
  have ne226 : ta1 ≠ x223 := Nat.ne_of_lt (Nat.lt_of_lt_of_le f227.lt zx223)
  have f229 := (f191.keep Kq185)
  have ne228 : x2 ≠ x223 := Nat.ne_of_lt (Nat.lt_of_lt_of_le f229.lt zx223)
  have f231 := (f193.keep Kq185 (ninS ne25 nin0))
  have ne230 : ta2 ≠ x223 := Nat.ne_of_lt (Nat.lt_of_lt_of_le f231.lt zx223)
  have f233 := (f195.keep Kq185)
  have ne232 : x3 ≠ x223 := Nat.ne_of_lt (Nat.lt_of_lt_of_le f233.lt zx223)
  have f235 := (f197.keep Kq185 (ninS ne27 nin0))
  have ne234 : ta3 ≠ x223 := Nat.ne_of_lt (Nat.lt_of_lt_of_le f235.lt zx223)
  have f237 := (f199.keep Kq185 (ninS (Ne.symm ne51) nin0))
  have ne236 : t38 ≠ x223 := Nat.ne_of_lt (Nat.lt_of_lt_of_le f237.lt zx223)
  have f239 := (f201.keep Kq185)
  have ne238 : a73 ≠ x223 := Nat.ne_of_lt (Nat.lt_of_lt_of_le f239.lt zx223)
  have f241 := (f203.keep Kq185 (ninS (Ne.symm ne78.2) nin0))
  have ne240 : b73 ≠ x223 := Nat.ne_of_lt (Nat.lt_of_lt_of_le f241.lt zx223)
  have f243 := (f205.keep Kq185)
  have ne242 : t87 ≠ x223 := Nat.ne_of_lt (Nat.lt_of_lt_of_le f243.lt zx223)
  have f245 := (Eq134.keep Kq185)
  have ne244 : x134 ≠ x223 := Nat.ne_of_lt (Nat.lt_of_lt_of_le f245.lt zx223)
  have f247 := (Aq134.keep Kq185 (ninS (Ne.symm ne167) nin0))
  have ne246 : t134 ≠ x223 := Nat.ne_of_lt (Nat.lt_of_lt_of_le f247.lt zx223)
  have ne248 : b21 ≠ x223 := Nat.ne_of_lt (Nat.lt_of_lt_of_le Eq185.lt zx223)
  have ne249 : t185 ≠ x223 := Nat.ne_of_lt (Nat.lt_of_lt_of_le Ea185.lt zx223)
  have g250 : n0 ≤ x223 := Nat.le_trans f222 zx223
  have sf251 : Safe Z ownEL T134.vm T185.heap x223 := Safe.new zx223
  have f253 := (Nat.le_trans f212 Kq185.1)
  have z252 : h0.size ≤ x223 := Nat.le_trans f253 zx223
  have ne254 : x1 ≠ t223 := Nat.ne_of_lt (Nat.lt_of_lt_of_le f225.lt zq223)
  have ne255 : ta1 ≠ t223 := Nat.ne_of_lt (Nat.lt_of_lt_of_le f227.lt zq223)
  have ne256 : x2 ≠ t223 := Nat.ne_of_lt (Nat.lt_of_lt_of_le f229.lt zq223)
  have ne257 : ta2 ≠ t223 := Nat.ne_of_lt (Nat.lt_of_lt_of_le f231.lt zq223)
  have ne258 : x3 ≠ t223 := Nat.ne_of_lt (Nat.lt_of_lt_of_le f233.lt zq223)
  have ne259 : ta3 ≠ t223 := Nat.ne_of_lt (Nat.lt_of_lt_of_le f235.lt zq223)
  have ne260 : t38 ≠ t223 := Nat.ne_of_lt (Nat.lt_of_lt_of_le f237.lt zq223)
  have ne261 : a73 ≠ t223 := Nat.ne_of_lt (Nat.lt_of_lt_of_le f239.lt zq223)
  have ne262 : b73 ≠ t223 := Nat.ne_of_lt (Nat.lt_of_lt_of_le f241.lt zq223)
  have ne263 : t87 ≠ t223 := Nat.ne_of_lt (Nat.lt_of_lt_of_le f243.lt zq223)
  have ne264 : x134 ≠ t223 := Nat.ne_of_lt (Nat.lt_of_lt_of_le f245.lt zq223)
  have ne265 : t134 ≠ t223 := Nat.ne_of_lt (Nat.lt_of_lt_of_le f247.lt zq223)
  have ne266 : b21 ≠ t223 := Nat.ne_of_lt (Nat.lt_of_lt_of_le Eq185.lt zq223)
  have ne267 : t185 ≠ t223 := Nat.ne_of_lt (Nat.lt_of_lt_of_le Ea185.lt zq223)
  have g268 : n0 ≤ t223 := Nat.le_trans f222 zq223
  have sf269 : Safe Z ownEL T134.vm T185.heap t223 := Safe.new zq223
  have z270 : h0.size ≤ t223 := Nat.le_trans f253 zq223
  have N271 := Fr.app Nh219 Nq223
  have R272 := R214.trans (CHr.keep Kq223 sf0 R214.1)
  have sf273 := Safe.keep Kq223 sf0 R214.1 sf215
  have sf274 := Safe.keep Kq223 sf0 R214.1 sf216
  have sf275 := Safe.keep Kq223 sf0 R214.1 sf217
  have sf276 := Safe.keep Kq223 sf0 R214.1 sf218
  have sf277 := Safe.keep Kq223 sf0 R214.1 sf251
  have sf278 := Safe.keep Kq223 sf0 R214.1 sf269
  obtain ⟨Lh279, Xh279, Nh279⟩ := oHd 18 1384 X223 N271 rfl rfl
  refine ownSt st223 ?_
  clear st223
  show oA p e below _ T223 (fr_nva m x1 x2 x3 30  [(.ref x223)])
  have f280 := ((((((((((Keep.refl h0 []).ext E21).trans Kq38 (allS (Or.inr z30) all0)).trans Kq67 (allS (Or.inr z30) (allS (Or.inr z54) all0))).ext E73).trans Kq87 (allS (Or.inr z30) all0)).trans Kq121 (allS (Or.inr z30) (allS (Or.inr z106) all0))).trans Kq134 all0).trans Kq185 (allS (Or.inr z30) all0)).trans Kq223 all0)
  refine ownRetH Xh279 hSR176 (Nat.le_trans (Nat.le_trans (Nat.le_refl _) Kq185.1) Kq223.1) Bd.notSynchronized (v := some (.ref x223)) (fun h => by rw [Bd.returns] at h; cases h) ?_ (R272.trans (CHv.at Xh279 hZ176 hEL R272.1)) (oLe rfl) (oLe rfl) (fun fs hr => retOut Xh279 hx Bd.returns rfl (Or.inr (Or.inr (Or.inr (Or.inr ⟨rfl, rfl, rfl⟩)))) (D d9_30) hr)
  show (Q_nva Z x1 ta1 kb1 n1 u1 x2 ta2 kb2 n2 u2 x3 ta3 kb3 n3 u3 G1 h0 n0) (some (.ref x223)) T223.heap _
  exact ⟨x223, t223, kn223, rfl, Nh279, f280, z252, z270, Eq223, Vq223, Cq223, (by have q := Aq223; rw [Pad_exact (rlf hu1 hu2 hu3)] at q; exact q)⟩
 ·skip
  refine oTo T87 (fr_nva m x1 x2 x3 17  [(.ref x2), (.ref b21)]) (fun t kt => ?_) ?_
  ·refine XS.aloadN Xh113.here hx rfl (D d9_16) rfl rfl ?_
   exact kt
  have f282 := (f93.keep Kq87)
  have f283 := (((((Vs2.ext E21).keep Kq38 (ninS ne24 nin0)).keep Kq67 (ninS ne24 (ninS ne43 nin0))).ext E73).keep Kq87 (ninS ne24 nin0))
  have f284 := (((((Cs2.ext E21).keep Kq38 (ninS ne24 nin0)).keep Kq67 (ninS ne24 (ninS ne43 nin0))).ext E73).keep Kq87 (ninS ne24 nin0))
  have f285 := (f95.keep Kq87 (ninS ne25 nin0))
  have f286 := (f85.keep Kq87 (allS g28 all0))
  have f287 := (Nat.le_trans f86 Kq87.1)
  obtain ⟨cq288, kq288, q288a, q288b, q288c⟩ := isOf hZ73 rfl Eq87
  obtain ⟨vv288, _, ⟨T288, L288, k288, n288⟩, -, X288, ⟨Lc288, hQ288, l288, y288, z288⟩, st288⟩ := Xh113.virtualBack hx (y := yM14) (z := yM14) hown73 (mvT hZ73 (Wd62 hw)) (mvT hZ73 (Wd63 hw)) (oNf hZ73 (Wd65 hw)) (mvT hZ73 (Wd65 hw)) (mvT hZ73 (Wd64 hw)) (by decide) (backOf (W := 0) (c_sapg l Z a0 hw [] x2 ta2 kb2 (oN n2) u2 b21 t87 kw87 (oN 34) (Pad ((([] : List Value) ++ u1) ++ C1L) 34) (oN ((0 + n1) + 29)) (Pad (((([] : List Value) ++ u1) ++ C1L) ++ u2) 70) (oN (((0 + n1) + 29) + n2)) (oN 70) (Pad ((([] : List Value) ++ u1) ++ C1L) 70) G1 T87.heap n0 f287 f282 f283 f284 f285 Eq87 Vq87 Cq87 Mq87 Aq87 g28 g104 ne94 (oGrN (L := ((([] : List Value) ++ u1) ++ C1L)) (b := 34) (m := (((0 + n1) + 29) + n2)) (n := 70) (Nat.le_trans (Nat.le_of_eq (rlb hu1)) (by omega)) (by omega) (by omega) (by omega) (by omega)) (oCpN (L := ((([] : List Value) ++ u1) ++ C1L)) (us := u2) (a := ((0 + n1) + 29)) (b := n2) (c := 70) (rlb hu1) hu2 (by omega) (by omega)) O2 P5 f286) hZ73 (Wd66 hw) (Wd46 hw) (by decide) (by decide)) q288a q288c (g := (fr_nva m x1 x2 x3 17  [(.ref x2), (.ref b21)])) rfl (by rw [hml]; rfl) (Steps.refl _) (argsL := [(.ref x2)]) (rest := []) (lenOf pd_33 rfl) rfl (oWt rfl) (D d9_17) (fun _ _ => ⟨rfl, rfl, oLe rfl, oLe rfl⟩)
  dsimp only [Pt.U, Pt.locs, Pt.cells, Pt.slots] at X288 l288 y288 z288 st288 hQ288
  subst l288 y288 z288
  obtain ⟨rfl, Nq288, Kq288, t288, kw288, zq288, Ea288, Eq288, Vq288, Cq288, Mq288, Aq288⟩ := hQ288
  have f290 := (f89.keep Kq87)
  have ne289 : x1 ≠ t288 := Nat.ne_of_lt (Nat.lt_of_lt_of_le f290.lt zq288)
  have f292 := (f91.keep Kq87 (ninS ne23 nin0))
  have ne291 : ta1 ≠ t288 := Nat.ne_of_lt (Nat.lt_of_lt_of_le f292.lt zq288)
  have ne293 : x2 ≠ t288 := Nat.ne_of_lt (Nat.lt_of_lt_of_le f282.lt zq288)
  have ne294 : ta2 ≠ t288 := Nat.ne_of_lt (Nat.lt_of_lt_of_le f285.lt zq288)
  have f296 := (f97.keep Kq87)
  have ne295 : x3 ≠ t288 := Nat.ne_of_lt (Nat.lt_of_lt_of_le f296.lt zq288)
  have f298 := (f99.keep Kq87 (ninS ne27 nin0))
  have ne297 : ta3 ≠ t288 := Nat.ne_of_lt (Nat.lt_of_lt_of_le f298.lt zq288)
  have f300 := (f84.keep Kq87 (ninS (Ne.symm ne51) nin0))
  have ne299 : t38 ≠ t288 := Nat.ne_of_lt (Nat.lt_of_lt_of_le f300.lt zq288)
  have f302 := (A73.keep Kq87)
  have ne301 : a73 ≠ t288 := Nat.ne_of_lt (Nat.lt_of_lt_of_le f302.lt zq288)
  have f304 := (Ab73.keep Kq87 (ninS (Ne.symm ne78.2) nin0))
  have ne303 : b73 ≠ t288 := Nat.ne_of_lt (Nat.lt_of_lt_of_le f304.lt zq288)
  have ne305 : b21 ≠ t288 := Nat.ne_of_lt (Nat.lt_of_lt_of_le Eq87.lt zq288)
  have ne306 : t87 ≠ t288 := Nat.ne_of_lt (Nat.lt_of_lt_of_le Ea87.lt zq288)
  have g307 : n0 ≤ t288 := Nat.le_trans f287 zq288
  have sf308 : Safe Z ownEL T73.vm T87.heap t288 := Safe.new zq288
  have f310 := (Nat.le_trans f107 Kq87.1)
  have z309 : h0.size ≤ t288 := Nat.le_trans f310 zq288
  have N311 := Fr.app Nh113 Nq288
  have R312 := R109.trans (CHr.keep Kq288 (sfS sf110 sf0) R109.1)
  have sf313 := Safe.keep Kq288 (sfS sf110 sf0) R109.1 sf110
  have sf314 := Safe.keep Kq288 (sfS sf110 sf0) R109.1 sf111
  have sf315 := Safe.keep Kq288 (sfS sf110 sf0) R109.1 sf112
  have sf316 := Safe.keep Kq288 (sfS sf110 sf0) R109.1 sf308
  obtain ⟨Lh317, Xh317, Nh317⟩ := oHd 6 460 X288 N311 rfl rfl
  refine ownSt st288 ?_
  clear st288
  show oA p e below _ T288 (fr_nva m x1 x2 x3 20  [(.ref b21)])
  have ne318 : b21 ≠ t288 := Exa.neArv Eq288 Aq288 (Wd45 hw)
  refine oTo T288 (fr_nva m x1 x2 x3 21  [(.ref x3), (.ref b21)]) (fun t kt => ?_) ?_
  ·refine XS.aloadN Xh317.here hx rfl (D d9_20) rfl rfl ?_
   exact kt
  have f319 := (f296.keep Kq288)
  have f320 := ((((((Vs3.ext E21).keep Kq38 (ninS ne26 nin0)).keep Kq67 (ninS ne26 (ninS ne47 nin0))).ext E73).keep Kq87 (ninS ne26 nin0)).keep Kq288 (ninS ne26 nin0))
  have f321 := ((((((Cs3.ext E21).keep Kq38 (ninS ne26 nin0)).keep Kq67 (ninS ne26 (ninS ne47 nin0))).ext E73).keep Kq87 (ninS ne26 nin0)).keep Kq288 (ninS ne26 nin0))
  have f322 := (f298.keep Kq288 (ninS ne27 nin0))
  have f323 := (f286.keep Kq288 (allS g28 all0))
  have f324 := (Nat.le_trans f287 Kq288.1)
  obtain ⟨vv325, _, ⟨T325, L325, k325, n325⟩, -, X325, hS325, hg325, ⟨Lc325, hQ325, l325, y325, z325, hC325⟩, st325⟩ := callSS Xh317 hx (y := yM34) hown73 (mvT hZ73 (Wd133 hw)) (mvT hZ73 (Wd134 hw)) (mvT hZ73 (Wd42 hw)) (mvT hZ73 (Wd135 hw)) (by decide) (backOfSH (W := 1) (s := s) (EL := ownEL) (c_cna l Z a0 hw [] x3 ta3 kb3 n3 u3 G1 T288.heap n0 f324 f319 f320 f321 f322 hu3 hk3 O2 P5 f323) hZ73 (Wd135 hw) (Wd42 hw) (by decide) (by decide) hEL R312.1) (g := (fr_nva m x1 x2 x3 21  [(.ref x3), (.ref b21)])) rfl (by rw [hml]; rfl) (argsL := [(.ref x3)]) (rest := [(.ref b21)]) (lenOf pd_35 rfl) rfl (oWt rfl) (D d9_21) (fun _ _ => ⟨rfl, rfl, oLe rfl, oLe rfl⟩)
  dsimp only [Pt.U, Pt.locs, Pt.cells, Pt.slots] at X325 l325 y325 z325 st325 hQ325 hS325 hg325 hC325
  subst l325 y325 z325
  obtain ⟨x325, t325, kb325, rfl, Nq325, Kq325, zq325, zt325, Eq325, Vq325, Cq325, Aq325⟩ := hQ325
  have f327 := (f290.keep Kq288)
  have ne326 : x1 ≠ x325 := Nat.ne_of_lt (Nat.lt_of_lt_of_le f327.lt zq325)
  have f329 := (f292.keep Kq288 (ninS ne23 nin0))
  have ne328 : ta1 ≠ x325 := Nat.ne_of_lt (Nat.lt_of_lt_of_le f329.lt zq325)
  have f331 := (f282.keep Kq288)
  have ne330 : x2 ≠ x325 := Nat.ne_of_lt (Nat.lt_of_lt_of_le f331.lt zq325)
  have f333 := (f285.keep Kq288 (ninS ne25 nin0))
  have ne332 : ta2 ≠ x325 := Nat.ne_of_lt (Nat.lt_of_lt_of_le f333.lt zq325)
  have ne334 : x3 ≠ x325 := Nat.ne_of_lt (Nat.lt_of_lt_of_le f319.lt zq325)
  have ne335 : ta3 ≠ x325 := Nat.ne_of_lt (Nat.lt_of_lt_of_le f322.lt zq325)
  have f337 := (f300.keep Kq288 (ninS (Ne.symm ne51) nin0))
  have ne336 : t38 ≠ x325 := Nat.ne_of_lt (Nat.lt_of_lt_of_le f337.lt zq325)
  have f339 := (f302.keep Kq288)
  have ne338 : a73 ≠ x325 := Nat.ne_of_lt (Nat.lt_of_lt_of_le f339.lt zq325)
  have f341 := (f304.keep Kq288 (ninS (Ne.symm ne78.2) nin0))
  have ne340 : b73 ≠ x325 := Nat.ne_of_lt (Nat.lt_of_lt_of_le f341.lt zq325)
  have f343 := (Ea87.keep Kq288)
  have ne342 : t87 ≠ x325 := Nat.ne_of_lt (Nat.lt_of_lt_of_le f343.lt zq325)
  have ne344 : b21 ≠ x325 := Nat.ne_of_lt (Nat.lt_of_lt_of_le Eq288.lt zq325)
  have ne345 : t288 ≠ x325 := Nat.ne_of_lt (Nat.lt_of_lt_of_le Ea288.lt zq325)
  have g346 : n0 ≤ x325 := Nat.le_trans f324 zq325
  have f348 := (Nat.le_trans f310 Kq288.1)
  have z347 : h0.size ≤ x325 := Nat.le_trans f348 zq325
  have ne349 : x1 ≠ t325 := Nat.ne_of_lt (Nat.lt_of_lt_of_le f327.lt zt325)
  have ne350 : ta1 ≠ t325 := Nat.ne_of_lt (Nat.lt_of_lt_of_le f329.lt zt325)
  have ne351 : x2 ≠ t325 := Nat.ne_of_lt (Nat.lt_of_lt_of_le f331.lt zt325)
  have ne352 : ta2 ≠ t325 := Nat.ne_of_lt (Nat.lt_of_lt_of_le f333.lt zt325)
  have ne353 : x3 ≠ t325 := Nat.ne_of_lt (Nat.lt_of_lt_of_le f319.lt zt325)
  have ne354 : ta3 ≠ t325 := Nat.ne_of_lt (Nat.lt_of_lt_of_le f322.lt zt325)
  have ne355 : t38 ≠ t325 := Nat.ne_of_lt (Nat.lt_of_lt_of_le f337.lt zt325)
  have ne356 : a73 ≠ t325 := Nat.ne_of_lt (Nat.lt_of_lt_of_le f339.lt zt325)
  have ne357 : b73 ≠ t325 := Nat.ne_of_lt (Nat.lt_of_lt_of_le f341.lt zt325)
  have ne358 : t87 ≠ t325 := Nat.ne_of_lt (Nat.lt_of_lt_of_le f343.lt zt325)
  have ne359 : b21 ≠ t325 := Nat.ne_of_lt (Nat.lt_of_lt_of_le Eq288.lt zt325)
  have ne360 : t288 ≠ t325 := Nat.ne_of_lt (Nat.lt_of_lt_of_le Ea288.lt zt325)
  have g361 : n0 ≤ t325 := Nat.le_trans f324 zt325
  have z362 : h0.size ≤ t325 := Nat.le_trans f348 zt325
  have N363 := Fr.app Nh317 Nq325
  have R365 := R312.trans hC325
  have sf366 := CHr.safe hC325 Eq288.lt sf313
  have sf367 := CHr.safe hC325 f337.lt sf314
  have sf368 := CHr.safe hC325 f343.lt sf315
  have sf369 := CHr.safe hC325 Ea288.lt sf316
  obtain ⟨XR370, hSR370, hZ370, hown370⟩ := rebS hS73 (Nat.le_trans (Nat.le_trans hk73 Kq87.1) Kq288.1) X325 hS325 hg325 hZ73 hown73
  obtain ⟨Lh371, Xh371, Nh371⟩ := oHd 16 1220 XR370 N363 rfl rfl
  refine ownSt st325 ?_
  clear st325
  show oA p e below _ T325 (fr_nva m x1 x2 x3 24  [(.ref x325), (.ref b21)])
  have f372 := (Eq288.keep Kq325)
  have f373 := (Vq288.keep Kq325 nin0)
  have f374 := (Cq288.keep Kq325 nin0)
  have f375 := (Mq288.keep Kq325 nin0)
  have f376 := (Aq288.keep Kq325 nin0)
  have f377 := (f323.keep Kq325 all0)
  have f378 := (Nat.le_trans f324 Kq325.1)
  obtain ⟨cq379, kq379, q379a, q379b, q379c⟩ := isOf hZ370 rfl f372
  obtain ⟨vv379, _, ⟨T379, L379, k379, n379⟩, -, X379, ⟨Lc379, hQ379, l379, y379, z379⟩, st379⟩ := Xh371.virtualBack hx (y := yM14) (z := yM14) hown370 (mvT hZ370 (Wd62 hw)) (mvT hZ370 (Wd63 hw)) (oNf hZ370 (Wd65 hw)) (mvT hZ370 (Wd65 hw)) (mvT hZ370 (Wd64 hw)) (by decide) (backOf (W := 0) (c_sapg l Z a0 hw [] x325 t325 kb325 (oN (39 + n3 + 23)) ((C2L ++ u3) ++ C3L) b21 t288 kw288 (oN 70) (Pad (((([] : List Value) ++ u1) ++ C1L) ++ u2) 70) (oN (((0 + n1) + 29) + n2)) (Pad ((((([] : List Value) ++ u1) ++ C1L) ++ u2) ++ ((C2L ++ u3) ++ C3L)) 142) (oN ((((0 + n1) + 29) + n2) + (39 + n3 + 23))) (oN 142) (Pad (((([] : List Value) ++ u1) ++ C1L) ++ u2) 142) G1 T325.heap n0 f378 Eq325 Vq325 Cq325 Aq325 f372 f373 f374 f375 f376 g28 g307 (Ne.symm ne360) (oGrN (L := (((([] : List Value) ++ u1) ++ C1L) ++ u2)) (b := 70) (m := ((((0 + n1) + 29) + n2) + (39 + n3 + 23))) (n := 142) (Nat.le_trans (Nat.le_of_eq (rlc hu1 hu2)) (by omega)) (by omega) (by omega) (by omega) (by omega)) (oCpN (L := (((([] : List Value) ++ u1) ++ C1L) ++ u2)) (us := ((C2L ++ u3) ++ C3L)) (a := (((0 + n1) + 29) + n2)) (b := (39 + n3 + 23)) (c := 142) (rlc hu1 hu2) (rle hu3) (by omega) (by omega)) O2 P5 f377) hZ370 (Wd66 hw) (Wd46 hw) (by decide) (by decide)) q379a q379c (g := (fr_nva m x1 x2 x3 24  [(.ref x325), (.ref b21)])) rfl (by rw [hml]; rfl) (Steps.refl _) (argsL := [(.ref x325)]) (rest := []) (lenOf pd_33 rfl) rfl (oWt rfl) (D d9_24) (fun _ _ => ⟨rfl, rfl, oLe rfl, oLe rfl⟩)
  dsimp only [Pt.U, Pt.locs, Pt.cells, Pt.slots] at X379 l379 y379 z379 st379 hQ379
  subst l379 y379 z379
  obtain ⟨rfl, Nq379, Kq379, t379, kw379, zq379, Ea379, Eq379, Vq379, Cq379, Mq379, Aq379⟩ := hQ379
  have f381 := (f327.keep Kq325)
  have ne380 : x1 ≠ t379 := Nat.ne_of_lt (Nat.lt_of_lt_of_le f381.lt zq379)
  have f383 := (f329.keep Kq325 nin0)
  have ne382 : ta1 ≠ t379 := Nat.ne_of_lt (Nat.lt_of_lt_of_le f383.lt zq379)
  have f385 := (f331.keep Kq325)
  have ne384 : x2 ≠ t379 := Nat.ne_of_lt (Nat.lt_of_lt_of_le f385.lt zq379)
  have f387 := (f333.keep Kq325 nin0)
  have ne386 : ta2 ≠ t379 := Nat.ne_of_lt (Nat.lt_of_lt_of_le f387.lt zq379)
  have f389 := (f319.keep Kq325)
  have ne388 : x3 ≠ t379 := Nat.ne_of_lt (Nat.lt_of_lt_of_le f389.lt zq379)
  have f391 := (f322.keep Kq325 nin0)
  have ne390 : ta3 ≠ t379 := Nat.ne_of_lt (Nat.lt_of_lt_of_le f391.lt zq379)
  have f393 := (f337.keep Kq325 nin0)
  have ne392 : t38 ≠ t379 := Nat.ne_of_lt (Nat.lt_of_lt_of_le f393.lt zq379)
  have f395 := (f339.keep Kq325)
  have ne394 : a73 ≠ t379 := Nat.ne_of_lt (Nat.lt_of_lt_of_le f395.lt zq379)
  have f397 := (f341.keep Kq325 nin0)
  have ne396 : b73 ≠ t379 := Nat.ne_of_lt (Nat.lt_of_lt_of_le f397.lt zq379)
  have f399 := (f343.keep Kq325)
  have ne398 : t87 ≠ t379 := Nat.ne_of_lt (Nat.lt_of_lt_of_le f399.lt zq379)
  have ne400 : b21 ≠ t379 := Nat.ne_of_lt (Nat.lt_of_lt_of_le f372.lt zq379)
  have f402 := (Ea288.keep Kq325)
  have ne401 : t288 ≠ t379 := Nat.ne_of_lt (Nat.lt_of_lt_of_le f402.lt zq379)
  have ne403 : x325 ≠ t379 := Nat.ne_of_lt (Nat.lt_of_lt_of_le Eq325.lt zq379)
  have ne404 : t325 ≠ t379 := Nat.ne_of_lt (Nat.lt_of_lt_of_le Aq325.lt zq379)
  have g405 : n0 ≤ t379 := Nat.le_trans f378 zq379
  have sf406 : Safe Z ownEL T325.vm T325.heap t379 := Safe.new zq379
  have f408 := (Nat.le_trans f348 Kq325.1)
  have z407 : h0.size ≤ t379 := Nat.le_trans f408 zq379
  have N409 := Fr.app Nh371 Nq379
  have R410 := R365.trans (CHr.keep Kq379 (sfS sf366 sf0) R365.1)
  have sf411 := Safe.keep Kq379 (sfS sf366 sf0) R365.1 sf366
  have sf412 := Safe.keep Kq379 (sfS sf366 sf0) R365.1 sf367
  have sf413 := Safe.keep Kq379 (sfS sf366 sf0) R365.1 sf368
  have sf414 := Safe.keep Kq379 (sfS sf366 sf0) R365.1 sf369
  have sf415 := Safe.keep Kq379 (sfS sf366 sf0) R365.1 sf406
  obtain ⟨Lh416, Xh416, Nh416⟩ := oHd 17 1380 X379 N409 rfl rfl
  refine ownSt st379 ?_
  clear st379
  show oA p e below _ T379 (fr_nva m x1 x2 x3 27  [(.ref b21)])
  have ne417 : b21 ≠ t379 := Exa.neArv Eq379 Aq379 (Wd45 hw)
  have f418 := (f377.keep Kq379 (allS g28 all0))
  have f419 := (Nat.le_trans f378 Kq379.1)
  obtain ⟨cq420, kq420, q420a, q420b, q420c⟩ := isOf hZ370 rfl Eq379
  obtain ⟨vv420, _, ⟨T420, L420, k420, n420⟩, -, X420, ⟨Lc420, hQ420, l420, y420, z420⟩, st420⟩ := Xh416.virtualBack hx (y := yM29) (z := yM29) hown370 (mvT hZ370 (Wd138 hw)) (mvT hZ370 (Wd139 hw)) (oNf hZ370 (Wd141 hw)) (mvT hZ370 (Wd141 hw)) (mvT hZ370 (Wd140 hw)) (by decide) (backOf (W := 0) (c_sts l Z a0 hw [] b21 t379 kw379 (oN 142) (Pad ((((([] : List Value) ++ u1) ++ C1L) ++ u2) ++ ((C2L ++ u3) ++ C3L)) 142) (oN ((((0 + n1) + 29) + n2) + (39 + n3 + 23))) ((((([] : List Value) ++ u1) ++ C1L) ++ u2) ++ ((C2L ++ u3) ++ C3L)) G1 T379.heap n0 f419 Eq379 Vq379 Cq379 Mq379 Aq379 (oCrN (L := ((((([] : List Value) ++ u1) ++ C1L) ++ u2) ++ ((C2L ++ u3) ++ C3L))) (a := ((((0 + n1) + 29) + n2) + (39 + n3 + 23))) (c := 142) (rlf hu1 hu2 hu3) (by omega) (by omega) (by omega)) O2 P5 f418) hZ370 (Wd142 hw) (Wd46 hw) (by decide) (by decide)) q420a q420c (g := (fr_nva m x1 x2 x3 27  [(.ref b21)])) rfl (by rw [hml]; rfl) (Steps.refl _) (argsL := []) (rest := []) (lenOf pd_34 rfl) rfl (oWt rfl) (D d9_27) (fun _ _ => ⟨rfl, rfl, oLe rfl, oLe rfl⟩)
  dsimp only [Pt.U, Pt.locs, Pt.cells, Pt.slots] at X420 l420 y420 z420 st420 hQ420
  subst l420 y420 z420
  obtain ⟨x420, t420, kn420, rfl, Nq420, Kq420, zx420, zq420, Eq420, Vq420, Cq420, Aq420⟩ := hQ420
  have f422 := (f381.keep Kq379)
  have ne421 : x1 ≠ x420 := Nat.ne_of_lt (Nat.lt_of_lt_of_le f422.lt zx420)
  have f424 := (f383.keep Kq379 (ninS ne23 nin0))
  have ne423 : ta1 ≠ x420 := Nat.ne_of_lt (Nat.lt_of_lt_of_le f424.lt zx420)
  have f426 := (f385.keep Kq379)
  have ne425 : x2 ≠ x420 := Nat.ne_of_lt (Nat.lt_of_lt_of_le f426.lt zx420)
  have f428 := (f387.keep Kq379 (ninS ne25 nin0))
  have ne427 : ta2 ≠ x420 := Nat.ne_of_lt (Nat.lt_of_lt_of_le f428.lt zx420)
  have f430 := (f389.keep Kq379)
  have ne429 : x3 ≠ x420 := Nat.ne_of_lt (Nat.lt_of_lt_of_le f430.lt zx420)
  have f432 := (f391.keep Kq379 (ninS ne27 nin0))
  have ne431 : ta3 ≠ x420 := Nat.ne_of_lt (Nat.lt_of_lt_of_le f432.lt zx420)
  have f434 := (f393.keep Kq379 (ninS (Ne.symm ne51) nin0))
  have ne433 : t38 ≠ x420 := Nat.ne_of_lt (Nat.lt_of_lt_of_le f434.lt zx420)
  have f436 := (f395.keep Kq379)
  have ne435 : a73 ≠ x420 := Nat.ne_of_lt (Nat.lt_of_lt_of_le f436.lt zx420)
  have f438 := (f397.keep Kq379 (ninS (Ne.symm ne78.2) nin0))
  have ne437 : b73 ≠ x420 := Nat.ne_of_lt (Nat.lt_of_lt_of_le f438.lt zx420)
  have f440 := (f399.keep Kq379)
  have ne439 : t87 ≠ x420 := Nat.ne_of_lt (Nat.lt_of_lt_of_le f440.lt zx420)
  have f442 := (f402.keep Kq379)
  have ne441 : t288 ≠ x420 := Nat.ne_of_lt (Nat.lt_of_lt_of_le f442.lt zx420)
  have f444 := (Eq325.keep Kq379)
  have ne443 : x325 ≠ x420 := Nat.ne_of_lt (Nat.lt_of_lt_of_le f444.lt zx420)
  have f446 := (Aq325.keep Kq379 (ninS (Ne.symm ne359) nin0))
  have ne445 : t325 ≠ x420 := Nat.ne_of_lt (Nat.lt_of_lt_of_le f446.lt zx420)
  have ne447 : b21 ≠ x420 := Nat.ne_of_lt (Nat.lt_of_lt_of_le Eq379.lt zx420)
  have ne448 : t379 ≠ x420 := Nat.ne_of_lt (Nat.lt_of_lt_of_le Ea379.lt zx420)
  have g449 : n0 ≤ x420 := Nat.le_trans f419 zx420
  have sf450 : Safe Z ownEL T325.vm T379.heap x420 := Safe.new zx420
  have f452 := (Nat.le_trans f408 Kq379.1)
  have z451 : h0.size ≤ x420 := Nat.le_trans f452 zx420
  have ne453 : x1 ≠ t420 := Nat.ne_of_lt (Nat.lt_of_lt_of_le f422.lt zq420)
  have ne454 : ta1 ≠ t420 := Nat.ne_of_lt (Nat.lt_of_lt_of_le f424.lt zq420)
  have ne455 : x2 ≠ t420 := Nat.ne_of_lt (Nat.lt_of_lt_of_le f426.lt zq420)
  have ne456 : ta2 ≠ t420 := Nat.ne_of_lt (Nat.lt_of_lt_of_le f428.lt zq420)
  have ne457 : x3 ≠ t420 := Nat.ne_of_lt (Nat.lt_of_lt_of_le f430.lt zq420)
  have ne458 : ta3 ≠ t420 := Nat.ne_of_lt (Nat.lt_of_lt_of_le f432.lt zq420)
  have ne459 : t38 ≠ t420 := Nat.ne_of_lt (Nat.lt_of_lt_of_le f434.lt zq420)
  have ne460 : a73 ≠ t420 := Nat.ne_of_lt (Nat.lt_of_lt_of_le f436.lt zq420)
  have ne461 : b73 ≠ t420 := Nat.ne_of_lt (Nat.lt_of_lt_of_le f438.lt zq420)
  have ne462 : t87 ≠ t420 := Nat.ne_of_lt (Nat.lt_of_lt_of_le f440.lt zq420)
  have ne463 : t288 ≠ t420 := Nat.ne_of_lt (Nat.lt_of_lt_of_le f442.lt zq420)
  have ne464 : x325 ≠ t420 := Nat.ne_of_lt (Nat.lt_of_lt_of_le f444.lt zq420)
  have ne465 : t325 ≠ t420 := Nat.ne_of_lt (Nat.lt_of_lt_of_le f446.lt zq420)
  have ne466 : b21 ≠ t420 := Nat.ne_of_lt (Nat.lt_of_lt_of_le Eq379.lt zq420)
  have ne467 : t379 ≠ t420 := Nat.ne_of_lt (Nat.lt_of_lt_of_le Ea379.lt zq420)
  have g468 : n0 ≤ t420 := Nat.le_trans f419 zq420
  have sf469 : Safe Z ownEL T325.vm T379.heap t420 := Safe.new zq420
  have z470 : h0.size ≤ t420 := Nat.le_trans f452 zq420
  have N471 := Fr.app Nh416 Nq420
  have R472 := R410.trans (CHr.keep Kq420 sf0 R410.1)
  have sf473 := Safe.keep Kq420 sf0 R410.1 sf411
  have sf474 := Safe.keep Kq420 sf0 R410.1 sf412
  have sf475 := Safe.keep Kq420 sf0 R410.1 sf413
  have sf476 := Safe.keep Kq420 sf0 R410.1 sf414
  have sf477 := Safe.keep Kq420 sf0 R410.1 sf415
  have sf478 := Safe.keep Kq420 sf0 R410.1 sf450
  have sf479 := Safe.keep Kq420 sf0 R410.1 sf469
  obtain ⟨Lh480, Xh480, Nh480⟩ := oHd 19 1544 X420 N471 rfl rfl
  refine ownSt st420 ?_
  clear st420
  show oA p e below _ T420 (fr_nva m x1 x2 x3 30  [(.ref x420)])
  have f481 := ((((((((((Keep.refl h0 []).ext E21).trans Kq38 (allS (Or.inr z30) all0)).trans Kq67 (allS (Or.inr z30) (allS (Or.inr z54) all0))).ext E73).trans Kq87 (allS (Or.inr z30) all0)).trans Kq288 (allS (Or.inr z30) all0)).trans Kq325 all0).trans Kq379 (allS (Or.inr z30) all0)).trans Kq420 all0)
  refine ownRetH Xh480 hSR370 (Nat.le_trans (Nat.le_trans (Nat.le_refl _) Kq379.1) Kq420.1) Bd.notSynchronized (v := some (.ref x420)) (fun h => by rw [Bd.returns] at h; cases h) ?_ (R472.trans (CHv.at Xh480 hZ370 hEL R472.1)) (oLe rfl) (oLe rfl) (fun fs hr => retOut Xh480 hx Bd.returns rfl (Or.inr (Or.inr (Or.inr (Or.inr ⟨rfl, rfl, rfl⟩)))) (D d9_30) hr)
  show (Q_nva Z x1 ta1 kb1 n1 u1 x2 ta2 kb2 n2 u2 x3 ta3 kb3 n3 u3 G1 h0 n0) (some (.ref x420)) T420.heap _
  exact ⟨x420, t420, kn420, rfl, Nh480, f481, z451, z470, Eq420, Vq420, Cq420, Aq420⟩
abbrev fr_law (m : MethodId) (p1 : Int32) (p2 : Int32) (p3 : Int32) (p4 : Int32) (pc : Nat) (x4_ x5_ x6_ x7_ x8_ x9_ x10_ x11_ x12_ x13_ x14_ x15_ : Slot) (st : List Value) : JFrame := mkF m pc #[vI p1, vI p2, vI p3, vI p4, x4_, x5_, x6_, x7_, x8_, x9_, x10_, x11_, x12_, x13_, x14_, x15_] st
def Q_law (Z : State) (p1 : Int32) (p2 : Int32) (p3 : Int32) (p4 : Int32) (G1 : Int32) (G3 : Value) (h0 : Heap) (n0 : Nat) (v : Option Value) (h : Heap) (L : List Loc) : Prop := v = some (.int 1) ∧ Fr n0 L
theorem ef_law (m : MethodId) (x0 : Int32) (x1 : Int32) (x2 : Int32) (x3 : Int32)  : entryFrame m #[(.int x0), (.int x1), (.int x2), (.int x3)] maxLocals = mkF m 0 #[vI x0, vI x1, vI x2, vI x3, .unset, .unset, .unset, .unset, .unset, .unset, .unset, .unset, .unset, .unset, .unset, .unset] [] := by first | (simp [entryFrame, mkF, argsToLocals, Value.category, maxLocals]; done) | rfl
set_option maxRecDepth 65536 in
set_option maxHeartbeats 40000000 in
theorem c_law (l : Launch) (Z : State) (a0 : Array Value) (hw : HW a0 Z) (ws : List Jvm.Cond) (p1 : Int32) (p2 : Int32) (p3 : Int32) (p4 : Int32) (G1 : Int32) (G3 : Value) (h0 : Heap) (n0 : Nat) (Z0 : n0 ≤ h0.size) (O2 : Sta Z Z.heap "java/lang/String" "COMPACT_STRINGS" "Z" (.int G1)) (P5 : ¬ (G1 = (0 : Int32))) (O4 : Sta Z Z.heap "jdk/internal/util/Preconditions" "SIOOBE_FORMATTER" "Ljava/util/function/BiFunction;" G3) (rG3 : G3.isRef = true) (X00 : Old Z n0 h0) :
  MetFree l x (head1 (Jvm.Cond.code x code maxLocals ret :: ws) room_1) (fun a U => a = #[(.int p1), (.int p2), (.int p3), (.int p4)] ∧ Z.Warmed39 U.vm ∧ U.heap = h0 ∧ CHv Z ownEL U.vm h0) (fun _ _ _ _ _ => True) (fun _ U o U' => ∃ v L, o = .returned v ∧ (Q_law Z p1 p2 p3 p4 G1 G3 h0 n0) v U'.heap L ∧ CHr Z ownEL U.vm U.heap U'.vm U'.heap ∧ ReturnedEndW U o U' L 88 7360) := by
 refine MetFree.of_bodySF (plainFor_of_name pn_27) hisR ?_
 intro p e s m args below meth c s₁ Bd hml0 hP hK
 obtain ⟨rfl, hZ, hHp, hCH⟩ := hP
 have hx := Bd.exec
 have D := fun {pc : Nat} {r} (h : decode _ pc = r) => hb Bd.bytes h
 have hml : c.maxLocals = 16 := hml0
 have hown : s.vm.findClass "com/example/savepoint/savepoint/AnnotationLookupNeverAppliesPinLaw" = some m.cls := findClass_of_methodNamed Bd.named
 have hnm := (name_of_methodNamed Bd.named Bd.method).1
 have X0 : Stand p l e room_1 (s.setVm s.vm) m #[(.int p1), (.int p2), (.int p3), (.int p4)] below meth c s₁ [] 0 0 := Stand.of_body Bd
 have e0 : s₁.heap = h0 := by rw [← hHp, Bd.state]; rfl
 have N0 := Fr.nil n0
 refine ownOutH hHp (P := (Q_law Z p1 p2 p3 p4 G1 G3 h0 n0)) ?_
 refine ownBy (A := s₁.setTop (mkF m 0 #[vI p1, vI p2, vI p3, vI p4, .unset, .unset, .unset, .unset, .unset, .unset, .unset, .unset, .unset, .unset, .unset, .unset] [])) (fun t k => castTop (ef_law m p1 p2 p3 p4) k) ?_
 have hS0 : s.Since s.vm h0.size := own_since
 have hEL := own_EW hw
 have R0 := CHr.refl hCH
 have wS := own_wS hw
 have heq : ∀ d ∈ StrChars.Road.wordsEq, d.before a0 Z = true := fun d hd => hw d ((by decide +kernel : ∀ d ∈ StrChars.Road.wordsEq, d ∈ tables_1) d hd)
 refine oTo s₁ (fr_law m p1 p2 p3 p4 5 (.val (.int (p4 &&& (3 : Int32)))) .unset .unset .unset .unset .unset .unset .unset .unset .unset .unset .unset []) (fun t kt => ?_) ?_
 ·refine XS.iloadN X0.here hx rfl (D at_0) rfl ?_
  refine XS.iconst X0.here hx rfl (D at_1) ?_
  refine XS.iand X0.here hx rfl (D at_2) rfl ?_
  refine XS.istore X0.here hx rfl (D at_3) rfl (l' := #[vI p1, vI p2, vI p3, vI p4, .val (.int (p4 &&& (3 : Int32))), .unset, .unset, .unset, .unset, .unset, .unset, .unset, .unset, .unset, .unset, .unset]) rfl ?_
  exact kt
 show oA p e below _ s₁ (fr_law m p1 p2 p3 p4 5 (.val (.int (p4 &&& (3 : Int32)))) .unset .unset .unset .unset .unset .unset .unset .unset .unset .unset .unset [])
 obtain ⟨n1, hk1, e1⟩ := oN_four (own_three p4)
 rw [e1]
 refine oTo s₁ (fr_law m p1 p2 p3 p4 12 (.val (.int (oN n1))) (.val (.int (((p4.toUInt32 >>> ((2 : Int32) &&& 31).toUInt32).toInt32) &&& (3 : Int32)))) .unset .unset .unset .unset .unset .unset .unset .unset .unset .unset []) (fun t kt => ?_) ?_
 ·refine XS.iloadN X0.here hx rfl (D at_5) rfl ?_
  refine XS.iconst X0.here hx rfl (D at_6) ?_
  refine XS.iushr X0.here hx rfl (D at_7) rfl ?_
  refine XS.iconst X0.here hx rfl (D at_8) ?_
  refine XS.iand X0.here hx rfl (D at_9) rfl ?_
  refine XS.istore X0.here hx rfl (D at_10) rfl (l' := #[vI p1, vI p2, vI p3, vI p4, .val (.int (oN n1)), .val (.int (((p4.toUInt32 >>> ((2 : Int32) &&& 31).toUInt32).toInt32) &&& (3 : Int32))), .unset, .unset, .unset, .unset, .unset, .unset, .unset, .unset, .unset, .unset]) rfl ?_
  exact kt
 show oA p e below _ s₁ (fr_law m p1 p2 p3 p4 12 (.val (.int (oN n1))) (.val (.int (((p4.toUInt32 >>> ((2 : Int32) &&& 31).toUInt32).toInt32) &&& (3 : Int32)))) .unset .unset .unset .unset .unset .unset .unset .unset .unset .unset [])
 obtain ⟨n2, hk2, e2⟩ := oN_four (own_three ((p4.toUInt32 >>> ((2 : Int32) &&& 31).toUInt32).toInt32))
 rw [e2]
 refine oTo s₁ (fr_law m p1 p2 p3 p4 19 (.val (.int (oN n1))) (.val (.int (oN n2))) (.val (.int (((p4.toUInt32 >>> ((4 : Int32) &&& 31).toUInt32).toInt32) &&& (3 : Int32)))) .unset .unset .unset .unset .unset .unset .unset .unset .unset []) (fun t kt => ?_) ?_
 ·refine XS.iloadN X0.here hx rfl (D at_12) rfl ?_
  refine XS.iconst X0.here hx rfl (D at_13) ?_
  refine XS.iushr X0.here hx rfl (D at_14) rfl ?_
  refine XS.iconst X0.here hx rfl (D at_15) ?_
  refine XS.iand X0.here hx rfl (D at_16) rfl ?_
  refine XS.istore X0.here hx rfl (D at_17) rfl (l' := #[vI p1, vI p2, vI p3, vI p4, .val (.int (oN n1)), .val (.int (oN n2)), .val (.int (((p4.toUInt32 >>> ((4 : Int32) &&& 31).toUInt32).toInt32) &&& (3 : Int32))), .unset, .unset, .unset, .unset, .unset, .unset, .unset, .unset, .unset]) rfl ?_
  exact kt
 show oA p e below _ s₁ (fr_law m p1 p2 p3 p4 19 (.val (.int (oN n1))) (.val (.int (oN n2))) (.val (.int (((p4.toUInt32 >>> ((4 : Int32) &&& 31).toUInt32).toInt32) &&& (3 : Int32)))) .unset .unset .unset .unset .unset .unset .unset .unset .unset [])
 obtain ⟨n3, hk3, e3⟩ := oN_four (own_three ((p4.toUInt32 >>> ((4 : Int32) &&& 31).toUInt32).toInt32))
 rw [e3]
 refine oTo s₁ (fr_law m p1 p2 p3 p4 22 (.val (.int (oN n1))) (.val (.int (oN n2))) (.val (.int (oN n3))) .unset .unset .unset .unset .unset .unset .unset .unset .unset [(.int (oN n1)), (.int p1)]) (fun t kt => ?_) ?_
 ·refine XS.iloadN X0.here hx rfl (D at_19) rfl ?_
  refine XS.iload X0.here hx rfl (D at_20) rfl ?_
  exact kt
 obtain ⟨vv21, _, ⟨T21, L21, k21, n21⟩, -, X21, hS21, hg21, ⟨Lc21, hQ21, l21, y21, z21, hC21⟩, st21⟩ := callSS X0 hx (y := yM31) hown (mvT hZ (Wd0 hw)) (mvT hZ (Wd1 hw)) (mvT hZ (Wd2 hw)) (mvT hZ (Wd3 hw)) (by decide) (backOfSH (W := 0) (s := s) (EL := ownEL) (c_drw l Z a0 hw [] p1 (oN n1) n1 G1 h0 n0 Z0 rfl hk1 O2 P5 X00) hZ (Wd3 hw) (Wd2 hw) (by decide) (by decide) hEL R0.1) (g := (fr_law m p1 p2 p3 p4 22 (.val (.int (oN n1))) (.val (.int (oN n2))) (.val (.int (oN n3))) .unset .unset .unset .unset .unset .unset .unset .unset .unset [(.int (oN n1)), (.int p1)])) rfl (by rw [hml]; rfl) (argsL := [(.int p1), (.int (oN n1))]) (rest := []) (lenOf pd_36 rfl) rfl (oWt rfl) (D at_22) (fun _ _ => ⟨rfl, e0, oLe rfl, oLe rfl⟩)
 dsimp only [Pt.U, Pt.locs, Pt.cells, Pt.slots] at X21 l21 y21 z21 st21 hQ21 hS21 hg21 hC21
 subst l21 y21 z21
 obtain ⟨x21, t21, kb21, us21, rfl, Nq21, Kq21, Eq21, Vq21, Cq21, Aq21, hD21⟩ := hQ21
 have N22 := Fr.app N0 Nq21
 have R24 := R0.trans hC21
 obtain ⟨XR25, hSR25, hZ25, hown25⟩ := rebS hS0 (by rw [e0]; exact (Nat.le_refl _)) X21 hS21 hg21 hZ hown
 obtain ⟨Lh26, Xh26, Nh26⟩ := oHd 3 10 XR25 N22 rfl rfl
 refine ownSt st21 ?_
 clear st21
 show oA p e below _ T21 (fr_law m p1 p2 p3 p4 25 (.val (.int (oN n1))) (.val (.int (oN n2))) (.val (.int (oN n3))) .unset .unset .unset .unset .unset .unset .unset .unset .unset [(.ref x21)])
 refine oTo T21 (fr_law m p1 p2 p3 p4 30 (.val (.int (oN n1))) (.val (.int (oN n2))) (.val (.int (oN n3))) (vR x21) .unset .unset .unset .unset .unset .unset .unset .unset [(.int (oN n2)), (.int p2)]) (fun t kt => ?_) ?_
 ·refine XS.astore Xh26.here hx rfl (D at_25) rfl rfl (l' := #[vI p1, vI p2, vI p3, vI p4, .val (.int (oN n1)), .val (.int (oN n2)), .val (.int (oN n3)), vR x21, .unset, .unset, .unset, .unset, .unset, .unset, .unset, .unset]) rfl ?_
  refine XS.iloadN Xh26.here hx rfl (D at_27) rfl ?_
  refine XS.iload Xh26.here hx rfl (D at_28) rfl ?_
  exact kt
 have f27 := (X00.keep Kq21 all0)
 have f28 := (Nat.le_trans Z0 Kq21.1)
 obtain ⟨vv29, _, ⟨T29, L29, k29, n29⟩, -, X29, hS29, hg29, ⟨Lc29, hQ29, l29, y29, z29, hC29⟩, st29⟩ := callSS Xh26 hx (y := yM31) hown25 (mvT hZ25 (Wd0 hw)) (mvT hZ25 (Wd1 hw)) (mvT hZ25 (Wd2 hw)) (mvT hZ25 (Wd3 hw)) (by decide) (backOfSH (W := 0) (s := s) (EL := ownEL) (c_drw l Z a0 hw [] p2 (oN n2) n2 G1 T21.heap n0 f28 rfl hk2 O2 P5 f27) hZ25 (Wd3 hw) (Wd2 hw) (by decide) (by decide) hEL R24.1) (g := (fr_law m p1 p2 p3 p4 30 (.val (.int (oN n1))) (.val (.int (oN n2))) (.val (.int (oN n3))) (vR x21) .unset .unset .unset .unset .unset .unset .unset .unset [(.int (oN n2)), (.int p2)])) rfl (by rw [hml]; rfl) (argsL := [(.int p2), (.int (oN n2))]) (rest := []) (lenOf pd_36 rfl) rfl (oWt rfl) (D at_30) (fun _ _ => ⟨rfl, rfl, oLe rfl, oLe rfl⟩)
 dsimp only [Pt.U, Pt.locs, Pt.cells, Pt.slots] at X29 l29 y29 z29 st29 hQ29 hS29 hg29 hC29
 subst l29 y29 z29
 obtain ⟨x29, t29, kb29, us29, rfl, Nq29, Kq29, Eq29, Vq29, Cq29, Aq29, hD29⟩ := hQ29
 have N30 := Fr.app Nh26 Nq29
 have R32 := R24.trans hC29
 obtain ⟨XR33, hSR33, hZ33, hown33⟩ := rebS hSR25 (Nat.le_refl _) X29 hS29 hg29 hZ25 hown25
 obtain ⟨Lh34, Xh34, Nh34⟩ := oHd 6 20 XR33 N30 rfl rfl
 refine ownSt st29 ?_
 clear st29
 show oA p e below _ T29 (fr_law m p1 p2 p3 p4 33 (.val (.int (oN n1))) (.val (.int (oN n2))) (.val (.int (oN n3))) (vR x21) .unset .unset .unset .unset .unset .unset .unset .unset [(.ref x29)])
 refine oTo T29 (fr_law m p1 p2 p3 p4 38 (.val (.int (oN n1))) (.val (.int (oN n2))) (.val (.int (oN n3))) (vR x21) (vR x29) .unset .unset .unset .unset .unset .unset .unset [(.int (oN n3)), (.int p3)]) (fun t kt => ?_) ?_
 ·refine XS.astore Xh34.here hx rfl (D at_33) rfl rfl (l' := #[vI p1, vI p2, vI p3, vI p4, .val (.int (oN n1)), .val (.int (oN n2)), .val (.int (oN n3)), vR x21, vR x29, .unset, .unset, .unset, .unset, .unset, .unset, .unset]) rfl ?_
  refine XS.iloadN Xh34.here hx rfl (D at_35) rfl ?_
  refine XS.iload Xh34.here hx rfl (D at_36) rfl ?_
  exact kt
 have f35 := (f27.keep Kq29 all0)
 have f36 := (Nat.le_trans f28 Kq29.1)
 obtain ⟨vv37, _, ⟨T37, L37, k37, n37⟩, -, X37, hS37, hg37, ⟨Lc37, hQ37, l37, y37, z37, hC37⟩, st37⟩ := callSS Xh34 hx (y := yM31) hown33 (mvT hZ33 (Wd0 hw)) (mvT hZ33 (Wd1 hw)) (mvT hZ33 (Wd2 hw)) (mvT hZ33 (Wd3 hw)) (by decide) (backOfSH (W := 0) (s := s) (EL := ownEL) (c_drw l Z a0 hw [] p3 (oN n3) n3 G1 T29.heap n0 f36 rfl hk3 O2 P5 f35) hZ33 (Wd3 hw) (Wd2 hw) (by decide) (by decide) hEL R32.1) (g := (fr_law m p1 p2 p3 p4 38 (.val (.int (oN n1))) (.val (.int (oN n2))) (.val (.int (oN n3))) (vR x21) (vR x29) .unset .unset .unset .unset .unset .unset .unset [(.int (oN n3)), (.int p3)])) rfl (by rw [hml]; rfl) (argsL := [(.int p3), (.int (oN n3))]) (rest := []) (lenOf pd_36 rfl) rfl (oWt rfl) (D at_38) (fun _ _ => ⟨rfl, rfl, oLe rfl, oLe rfl⟩)
 dsimp only [Pt.U, Pt.locs, Pt.cells, Pt.slots] at X37 l37 y37 z37 st37 hQ37 hS37 hg37 hC37
 subst l37 y37 z37
 obtain ⟨x37, t37, kb37, us37, rfl, Nq37, Kq37, Eq37, Vq37, Cq37, Aq37, hD37⟩ := hQ37
 have N38 := Fr.app Nh34 Nq37
 have R40 := R32.trans hC37
 obtain ⟨XR41, hSR41, hZ41, hown41⟩ := rebS hSR33 (Nat.le_refl _) X37 hS37 hg37 hZ33 hown33
 obtain ⟨Lh42, Xh42, Nh42⟩ := oHd 9 30 XR41 N38 rfl rfl
 refine ownSt st37 ?_
 clear st37
 show oA p e below _ T37 (fr_law m p1 p2 p3 p4 41 (.val (.int (oN n1))) (.val (.int (oN n2))) (.val (.int (oN n3))) (vR x21) (vR x29) .unset .unset .unset .unset .unset .unset .unset [(.ref x37)])
 refine oTo T37 (fr_law m p1 p2 p3 p4 43 (.val (.int (oN n1))) (.val (.int (oN n2))) (.val (.int (oN n3))) (vR x21) (vR x29) (vR x37) .unset .unset .unset .unset .unset .unset []) (fun t kt => ?_) ?_
 ·refine XS.astore Xh42.here hx rfl (D at_41) rfl rfl (l' := #[vI p1, vI p2, vI p3, vI p4, .val (.int (oN n1)), .val (.int (oN n2)), .val (.int (oN n3)), vR x21, vR x29, vR x37, .unset, .unset, .unset, .unset, .unset, .unset]) rfl ?_
  exact kt
 obtain ⟨a43, T43, h43, k43, b43, kb43, X43, e43, E43, hS43, hk43, hZ43, hown43, A43, C43, V43, Ab43, -, -, hC43, Lt43, hne43, st43⟩ := ldcCH (text := "") Xh42 hx hZ41 hown41 (Wd37 hw) wS rfl hSR41 (Nat.le_refl _) hEL (by simp [ownEL]) R40.1 (vs := []) (z := (0 : Int32)) ⟨by decide, by decide⟩ (by decide) rfl (g := (fr_law m p1 p2 p3 p4 43 (.val (.int (oN n1))) (.val (.int (oN n2))) (.val (.int (oN n3))) (vR x21) (vR x29) (vR x37) .unset .unset .unset .unset .unset .unset [])) rfl (D at_43) (n := 0) (by decide) (by decide) (by decide) (by decide)
 have R45 := R40.trans hC43
 refine ownBy st43 ?_
 clear st43
 show oA p e below _ T43 (fr_law m p1 p2 p3 p4 45 (.val (.int (oN n1))) (.val (.int (oN n2))) (.val (.int (oN n3))) (vR x21) (vR x29) (vR x37) .unset .unset .unset .unset .unset .unset [(.ref a43)])
 obtain ⟨a46, T46, h46, k46, b46, kb46, X46, e46, E46, hS46, hk46, hZ46, hown46, A46, C46, V46, Ab46, -, -, hC46, Lt46, hne46, st46⟩ := ldcCH (text := "") X43 hx hZ43 hown43 (Wd37 hw) wS e43 hS43 hk43 hEL (by simp [ownEL]) R45.1 (vs := []) (z := (0 : Int32)) ⟨by decide, by decide⟩ (by decide) rfl (g := (fr_law m p1 p2 p3 p4 45 (.val (.int (oN n1))) (.val (.int (oN n2))) (.val (.int (oN n3))) (vR x21) (vR x29) (vR x37) .unset .unset .unset .unset .unset .unset [(.ref a43)])) rfl (D at_45) (n := 0) (by decide) (by decide) (by decide) (by decide)
 have R48 := R45.trans hC46
 refine ownBy st46 ?_
 clear st46
 show oA p e below _ T46 (fr_law m p1 p2 p3 p4 47 (.val (.int (oN n1))) (.val (.int (oN n2))) (.val (.int (oN n3))) (vR x21) (vR x29) (vR x37) .unset .unset .unset .unset .unset .unset [(.ref a46), (.ref a43)])
 obtain ⟨a49, T49, h49, k49, b49, kb49, X49, e49, E49, hS49, hk49, hZ49, hown49, A49, C49, V49, Ab49, -, -, hC49, Lt49, hne49, st49⟩ := ldcCH (text := "") X46 hx hZ46 hown46 (Wd37 hw) wS e46 hS46 hk46 hEL (by simp [ownEL]) R48.1 (vs := []) (z := (0 : Int32)) ⟨by decide, by decide⟩ (by decide) rfl (g := (fr_law m p1 p2 p3 p4 47 (.val (.int (oN n1))) (.val (.int (oN n2))) (.val (.int (oN n3))) (vR x21) (vR x29) (vR x37) .unset .unset .unset .unset .unset .unset [(.ref a46), (.ref a43)])) rfl (D at_47) (n := 0) (by decide) (by decide) (by decide) (by decide)
 have R51 := R48.trans hC49
 refine ownBy st49 ?_
 clear st49
 show oA p e below _ T49 (fr_law m p1 p2 p3 p4 49 (.val (.int (oN n1))) (.val (.int (oN n2))) (.val (.int (oN n3))) (vR x21) (vR x29) (vR x37) .unset .unset .unset .unset .unset .unset [(.ref a49), (.ref a46), (.ref a43)])
 have f52 := ((A43.ext E46).ext E49)
 have f53 := ((V43.ext E46).ext E49)
 have f54 := ((C43.ext E46).ext E49)
 have f55 := ((Ab43.ext E46).ext E49)
 have f56 := (A46.ext E49)
 have f57 := (V46.ext E49)
 have f58 := (C46.ext E49)
 have f59 := (Ab46.ext E49)
 have f60 := ((((f35.keep Kq37 all0).ext E43).ext E46).ext E49)
 have f61 := (Nat.le_trans (Nat.le_trans (Nat.le_trans (Nat.le_trans f36 Kq37.1) E43.1) E46.1) E49.1)
 obtain ⟨vv62, _, ⟨T62, L62, k62, n62⟩, -, X62, hS62, hg62, ⟨Lc62, hQ62, l62, y62, z62, hC62⟩, st62⟩ := callSS X49 hx (y := yM35) hown49 (mvT hZ49 (Wd40 hw)) (mvT hZ49 (Wd41 hw)) (mvT hZ49 (Wd42 hw)) (mvT hZ49 (Wd43 hw)) (by decide) (backOfSH (W := 0) (s := s) (EL := ownEL) (c_nva l Z a0 hw [] a43 b43 kb43 0 [] a46 b46 kb46 0 [] a49 b49 kb49 0 [] G1 h49 n0 f61 f52 f53 f54 f55 rfl (by decide) f56 f57 f58 f59 rfl (by decide) A49 V49 C49 Ab49 rfl (by decide) O2 P5 f60) hZ49 (Wd43 hw) (Wd42 hw) (by decide) (by decide) hEL R51.1) (g := (fr_law m p1 p2 p3 p4 49 (.val (.int (oN n1))) (.val (.int (oN n2))) (.val (.int (oN n3))) (vR x21) (vR x29) (vR x37) .unset .unset .unset .unset .unset .unset [(.ref a49), (.ref a46), (.ref a43)])) rfl (by rw [hml]; rfl) (argsL := [(.ref a43), (.ref a46), (.ref a49)]) (rest := []) (lenOf pd_37 rfl) rfl (oWt rfl) (D at_49) (fun _ _ => ⟨rfl, e49, oLe rfl, oLe rfl⟩)
 dsimp only [Pt.U, Pt.locs, Pt.cells, Pt.slots] at X62 l62 y62 z62 st62 hQ62 hS62 hg62 hC62
 subst l62 y62 z62
 obtain ⟨x62, t62, kb62, rfl, Nq62, Kq62, zq62, zt62, Eq62, Vq62, Cq62, Aq62⟩ := hQ62
 have f64 := (((((Eq21.keep Kq29).keep Kq37).ext E43).ext E46).ext E49)
 have ne63 : x21 ≠ x62 := Nat.ne_of_lt (Nat.lt_of_lt_of_le f64.lt zq62)
 have f66 := (((((Aq21.keep Kq29 nin0).keep Kq37 nin0).ext E43).ext E46).ext E49)
 have ne65 : t21 ≠ x62 := Nat.ne_of_lt (Nat.lt_of_lt_of_le f66.lt zq62)
 have f68 := ((((Eq29.keep Kq37).ext E43).ext E46).ext E49)
 have ne67 : x29 ≠ x62 := Nat.ne_of_lt (Nat.lt_of_lt_of_le f68.lt zq62)
 have f70 := ((((Aq29.keep Kq37 nin0).ext E43).ext E46).ext E49)
 have ne69 : t29 ≠ x62 := Nat.ne_of_lt (Nat.lt_of_lt_of_le f70.lt zq62)
 have f72 := (((Eq37.ext E43).ext E46).ext E49)
 have ne71 : x37 ≠ x62 := Nat.ne_of_lt (Nat.lt_of_lt_of_le f72.lt zq62)
 have f74 := (((Aq37.ext E43).ext E46).ext E49)
 have ne73 : t37 ≠ x62 := Nat.ne_of_lt (Nat.lt_of_lt_of_le f74.lt zq62)
 have ne75 : a43 ≠ x62 := Nat.ne_of_lt (Nat.lt_of_lt_of_le f52.lt zq62)
 have ne76 : b43 ≠ x62 := Nat.ne_of_lt (Nat.lt_of_lt_of_le f55.lt zq62)
 have ne77 : a46 ≠ x62 := Nat.ne_of_lt (Nat.lt_of_lt_of_le f56.lt zq62)
 have ne78 : b46 ≠ x62 := Nat.ne_of_lt (Nat.lt_of_lt_of_le f59.lt zq62)
 have ne79 : a49 ≠ x62 := Nat.ne_of_lt (Nat.lt_of_lt_of_le A49.lt zq62)
 have ne80 : b49 ≠ x62 := Nat.ne_of_lt (Nat.lt_of_lt_of_le Ab49.lt zq62)
 have g81 : n0 ≤ x62 := Nat.le_trans f61 zq62
 have f83 := (Nat.le_trans (Nat.le_trans (Nat.le_trans (Nat.le_trans (Nat.le_trans (Nat.le_trans (Nat.le_refl h0.size) Kq21.1) Kq29.1) Kq37.1) E43.1) E46.1) E49.1)
 have z82 : h0.size ≤ x62 := Nat.le_trans f83 zq62
 have ne84 : x21 ≠ t62 := Nat.ne_of_lt (Nat.lt_of_lt_of_le f64.lt zt62)
 have ne85 : t21 ≠ t62 := Nat.ne_of_lt (Nat.lt_of_lt_of_le f66.lt zt62)
 have ne86 : x29 ≠ t62 := Nat.ne_of_lt (Nat.lt_of_lt_of_le f68.lt zt62)
 have ne87 : t29 ≠ t62 := Nat.ne_of_lt (Nat.lt_of_lt_of_le f70.lt zt62)
 have ne88 : x37 ≠ t62 := Nat.ne_of_lt (Nat.lt_of_lt_of_le f72.lt zt62)
 have ne89 : t37 ≠ t62 := Nat.ne_of_lt (Nat.lt_of_lt_of_le f74.lt zt62)
 have ne90 : a43 ≠ t62 := Nat.ne_of_lt (Nat.lt_of_lt_of_le f52.lt zt62)
 have ne91 : b43 ≠ t62 := Nat.ne_of_lt (Nat.lt_of_lt_of_le f55.lt zt62)
 have ne92 : a46 ≠ t62 := Nat.ne_of_lt (Nat.lt_of_lt_of_le f56.lt zt62)
 have ne93 : b46 ≠ t62 := Nat.ne_of_lt (Nat.lt_of_lt_of_le f59.lt zt62)
 have ne94 : a49 ≠ t62 := Nat.ne_of_lt (Nat.lt_of_lt_of_le A49.lt zt62)
 have ne95 : b49 ≠ t62 := Nat.ne_of_lt (Nat.lt_of_lt_of_le Ab49.lt zt62)
 have g96 : n0 ≤ t62 := Nat.le_trans f61 zt62
 have z97 : h0.size ≤ t62 := Nat.le_trans f83 zt62
 have N98 := Fr.app Nh42 Nq62
 have R100 := R51.trans hC62
 obtain ⟨XR101, hSR101, hZ101, hown101⟩ := rebS hS49 (by rw [e49]; exact hk49) X62 hS62 hg62 hZ49 hown49
 obtain ⟨Lh102, Xh102, Nh102⟩ := oHd 34 1586 XR101 N98 rfl rfl
 refine ownSt st62 ?_
 clear st62
 show oA p e below _ T62 (fr_law m p1 p2 p3 p4 52 (.val (.int (oN n1))) (.val (.int (oN n2))) (.val (.int (oN n3))) (vR x21) (vR x29) (vR x37) .unset .unset .unset .unset .unset .unset [(.ref x62)])
 obtain ⟨a103, T103, h103, k103, b103, kb103, X103, e103, E103, hS103, hk103, hZ103, hown103, A103, C103, V103, Ab103, -, -, hC103, Lt103, hne103, st103⟩ := ldcCH (text := (ownText 186)) Xh102 hx hZ101 hown101 (Wd186 hw) wS rfl hSR101 (Nat.le_refl _) hEL (by simp [ownEL]) R100.1 (vs := [(iV 32), (iV 99), (iV 97), (iV 114), (iV 114), (iV 105), (iV 101), (iV 115), (iV 32), (iV 64), (iV 84), (iV 114), (iV 97), (iV 110), (iV 115), (iV 97), (iV 99), (iV 116), (iV 105), (iV 111), (iV 110), (iV 97), (iV 108), (iV 44), (iV 32), (iV 97), (iV 110), (iV 100), (iV 32), (iV 44), (iV 32), (iV 115), (iV 111), (iV 32), (iV 116), (iV 104), (iV 101), (iV 32), (iV 97), (iV 110), (iV 110), (iV 111), (iV 116), (iV 97), (iV 116), (iV 105), (iV 111), (iV 110), (iV 32), (iV 99), (iV 111), (iV 117), (iV 108), (iV 100), (iV 32), (iV 110), (iV 101), (iV 118), (iV 101), (iV 114), (iV 32), (iV 97), (iV 112), (iV 112), (iV 108), (iV 121), (iV 59), (iV 32), (iV 116), (iV 97), (iV 107), (iV 101), (iV 32), (iV 116), (iV 104), (iV 101), (iV 32), (iV 97), (iV 110), (iV 110), (iV 111), (iV 116), (iV 97), (iV 116), (iV 105), (iV 111), (iV 110), (iV 32), (iV 111), (iV 102), (iV 102)]) (z := (91 : Int32)) ⟨by decide +kernel, by decide +kernel⟩ (by decide) rfl (g := (fr_law m p1 p2 p3 p4 52 (.val (.int (oN n1))) (.val (.int (oN n2))) (.val (.int (oN n3))) (vR x21) (vR x29) (vR x37) .unset .unset .unset .unset .unset .unset [(.ref x62)])) rfl (D at_52) (n := 364) (by decide +kernel) (by decide) (by decide) (by decide)
 have R105 := R100.trans hC103
 refine ownBy st103 ?_
 clear st103
 show oA p e below _ T103 (fr_law m p1 p2 p3 p4 54 (.val (.int (oN n1))) (.val (.int (oN n2))) (.val (.int (oN n3))) (vR x21) (vR x29) (vR x37) .unset .unset .unset .unset .unset .unset [(.ref a103), (.ref x62)])
 have f107 := (Aq62.ext E103)
 have Kz106 : Arv Z h103 t62 kb62 .byte (91 : Int32) ((([(32 : Int32), (99 : Int32), (97 : Int32), (114 : Int32), (114 : Int32), (105 : Int32), (101 : Int32), (115 : Int32), (32 : Int32), (64 : Int32), (84 : Int32), (114 : Int32), (97 : Int32), (110 : Int32), (115 : Int32), (97 : Int32), (99 : Int32), (116 : Int32), (105 : Int32), (111 : Int32), (110 : Int32), (97 : Int32), (108 : Int32), (44 : Int32), (32 : Int32), (97 : Int32), (110 : Int32), (100 : Int32), (32 : Int32), (44 : Int32), (32 : Int32), (115 : Int32), (111 : Int32), (32 : Int32), (116 : Int32), (104 : Int32), (101 : Int32), (32 : Int32), (97 : Int32), (110 : Int32), (110 : Int32), (111 : Int32), (116 : Int32), (97 : Int32), (116 : Int32), (105 : Int32), (111 : Int32), (110 : Int32), (32 : Int32), (99 : Int32), (111 : Int32), (117 : Int32), (108 : Int32), (100 : Int32), (32 : Int32), (110 : Int32), (101 : Int32), (118 : Int32), (101 : Int32), (114 : Int32), (32 : Int32), (97 : Int32), (112 : Int32), (112 : Int32), (108 : Int32), (121 : Int32), (59 : Int32), (32 : Int32), (116 : Int32), (97 : Int32), (107 : Int32), (101 : Int32), (32 : Int32), (116 : Int32), (104 : Int32), (101 : Int32), (32 : Int32), (97 : Int32), (110 : Int32), (110 : Int32), (111 : Int32), (116 : Int32), (97 : Int32), (116 : Int32), (105 : Int32), (111 : Int32), (110 : Int32), (32 : Int32), (111 : Int32), (102 : Int32), (102 : Int32)] : List Int32).map (fun c => c.toInt8.toInt32)).map Value.int) (iV 0) := by
  have q := f107
  rw [show (((((([] : List Value) ++ []) ++ C1L) ++ []) ++ ((C2L ++ []) ++ C3L)) : List Value) = ((([(32 : Int32), (99 : Int32), (97 : Int32), (114 : Int32), (114 : Int32), (105 : Int32), (101 : Int32), (115 : Int32), (32 : Int32), (64 : Int32), (84 : Int32), (114 : Int32), (97 : Int32), (110 : Int32), (115 : Int32), (97 : Int32), (99 : Int32), (116 : Int32), (105 : Int32), (111 : Int32), (110 : Int32), (97 : Int32), (108 : Int32), (44 : Int32), (32 : Int32), (97 : Int32), (110 : Int32), (100 : Int32), (32 : Int32), (44 : Int32), (32 : Int32), (115 : Int32), (111 : Int32), (32 : Int32), (116 : Int32), (104 : Int32), (101 : Int32), (32 : Int32), (97 : Int32), (110 : Int32), (110 : Int32), (111 : Int32), (116 : Int32), (97 : Int32), (116 : Int32), (105 : Int32), (111 : Int32), (110 : Int32), (32 : Int32), (99 : Int32), (111 : Int32), (117 : Int32), (108 : Int32), (100 : Int32), (32 : Int32), (110 : Int32), (101 : Int32), (118 : Int32), (101 : Int32), (114 : Int32), (32 : Int32), (97 : Int32), (112 : Int32), (112 : Int32), (108 : Int32), (121 : Int32), (59 : Int32), (32 : Int32), (116 : Int32), (97 : Int32), (107 : Int32), (101 : Int32), (32 : Int32), (116 : Int32), (104 : Int32), (101 : Int32), (32 : Int32), (97 : Int32), (110 : Int32), (110 : Int32), (111 : Int32), (116 : Int32), (97 : Int32), (116 : Int32), (105 : Int32), (111 : Int32), (110 : Int32), (32 : Int32), (111 : Int32), (102 : Int32), (102 : Int32)] : List Int32).map (fun c => c.toInt8.toInt32)).map Value.int) from by decide +kernel] at q
  exact q
 have hp108 : ∀ c ∈ ([(32 : Int32), (99 : Int32), (97 : Int32), (114 : Int32), (114 : Int32), (105 : Int32), (101 : Int32), (115 : Int32), (32 : Int32), (64 : Int32), (84 : Int32), (114 : Int32), (97 : Int32), (110 : Int32), (115 : Int32), (97 : Int32), (99 : Int32), (116 : Int32), (105 : Int32), (111 : Int32), (110 : Int32), (97 : Int32), (108 : Int32), (44 : Int32), (32 : Int32), (97 : Int32), (110 : Int32), (100 : Int32), (32 : Int32), (44 : Int32), (32 : Int32), (115 : Int32), (111 : Int32), (32 : Int32), (116 : Int32), (104 : Int32), (101 : Int32), (32 : Int32), (97 : Int32), (110 : Int32), (110 : Int32), (111 : Int32), (116 : Int32), (97 : Int32), (116 : Int32), (105 : Int32), (111 : Int32), (110 : Int32), (32 : Int32), (99 : Int32), (111 : Int32), (117 : Int32), (108 : Int32), (100 : Int32), (32 : Int32), (110 : Int32), (101 : Int32), (118 : Int32), (101 : Int32), (114 : Int32), (32 : Int32), (97 : Int32), (112 : Int32), (112 : Int32), (108 : Int32), (121 : Int32), (59 : Int32), (32 : Int32), (116 : Int32), (97 : Int32), (107 : Int32), (101 : Int32), (32 : Int32), (116 : Int32), (104 : Int32), (101 : Int32), (32 : Int32), (97 : Int32), (110 : Int32), (110 : Int32), (111 : Int32), (116 : Int32), (97 : Int32), (116 : Int32), (105 : Int32), (111 : Int32), (110 : Int32), (32 : Int32), (111 : Int32), (102 : Int32), (102 : Int32)] : List Int32), ¬ c < 0 ∧ ¬ (255 : Int32) < c := by decide +kernel
 have Kz109 : Arv Z h103 b103 kb103 .byte (91 : Int32) ((([(32 : Int32), (99 : Int32), (97 : Int32), (114 : Int32), (114 : Int32), (105 : Int32), (101 : Int32), (115 : Int32), (32 : Int32), (64 : Int32), (84 : Int32), (114 : Int32), (97 : Int32), (110 : Int32), (115 : Int32), (97 : Int32), (99 : Int32), (116 : Int32), (105 : Int32), (111 : Int32), (110 : Int32), (97 : Int32), (108 : Int32), (44 : Int32), (32 : Int32), (97 : Int32), (110 : Int32), (100 : Int32), (32 : Int32), (44 : Int32), (32 : Int32), (115 : Int32), (111 : Int32), (32 : Int32), (116 : Int32), (104 : Int32), (101 : Int32), (32 : Int32), (97 : Int32), (110 : Int32), (110 : Int32), (111 : Int32), (116 : Int32), (97 : Int32), (116 : Int32), (105 : Int32), (111 : Int32), (110 : Int32), (32 : Int32), (99 : Int32), (111 : Int32), (117 : Int32), (108 : Int32), (100 : Int32), (32 : Int32), (110 : Int32), (101 : Int32), (118 : Int32), (101 : Int32), (114 : Int32), (32 : Int32), (97 : Int32), (112 : Int32), (112 : Int32), (108 : Int32), (121 : Int32), (59 : Int32), (32 : Int32), (116 : Int32), (97 : Int32), (107 : Int32), (101 : Int32), (32 : Int32), (116 : Int32), (104 : Int32), (101 : Int32), (32 : Int32), (97 : Int32), (110 : Int32), (110 : Int32), (111 : Int32), (116 : Int32), (97 : Int32), (116 : Int32), (105 : Int32), (111 : Int32), (110 : Int32), (32 : Int32), (111 : Int32), (102 : Int32), (102 : Int32)] : List Int32).map (fun c => c.toInt8.toInt32)).map Value.int) (iV 0) := by
  have q := Ab103
  rw [show ([(iV 32), (iV 99), (iV 97), (iV 114), (iV 114), (iV 105), (iV 101), (iV 115), (iV 32), (iV 64), (iV 84), (iV 114), (iV 97), (iV 110), (iV 115), (iV 97), (iV 99), (iV 116), (iV 105), (iV 111), (iV 110), (iV 97), (iV 108), (iV 44), (iV 32), (iV 97), (iV 110), (iV 100), (iV 32), (iV 44), (iV 32), (iV 115), (iV 111), (iV 32), (iV 116), (iV 104), (iV 101), (iV 32), (iV 97), (iV 110), (iV 110), (iV 111), (iV 116), (iV 97), (iV 116), (iV 105), (iV 111), (iV 110), (iV 32), (iV 99), (iV 111), (iV 117), (iV 108), (iV 100), (iV 32), (iV 110), (iV 101), (iV 118), (iV 101), (iV 114), (iV 32), (iV 97), (iV 112), (iV 112), (iV 108), (iV 121), (iV 59), (iV 32), (iV 116), (iV 97), (iV 107), (iV 101), (iV 32), (iV 116), (iV 104), (iV 101), (iV 32), (iV 97), (iV 110), (iV 110), (iV 111), (iV 116), (iV 97), (iV 116), (iV 105), (iV 111), (iV 110), (iV 32), (iV 111), (iV 102), (iV 102)] : List Value) = ((([(32 : Int32), (99 : Int32), (97 : Int32), (114 : Int32), (114 : Int32), (105 : Int32), (101 : Int32), (115 : Int32), (32 : Int32), (64 : Int32), (84 : Int32), (114 : Int32), (97 : Int32), (110 : Int32), (115 : Int32), (97 : Int32), (99 : Int32), (116 : Int32), (105 : Int32), (111 : Int32), (110 : Int32), (97 : Int32), (108 : Int32), (44 : Int32), (32 : Int32), (97 : Int32), (110 : Int32), (100 : Int32), (32 : Int32), (44 : Int32), (32 : Int32), (115 : Int32), (111 : Int32), (32 : Int32), (116 : Int32), (104 : Int32), (101 : Int32), (32 : Int32), (97 : Int32), (110 : Int32), (110 : Int32), (111 : Int32), (116 : Int32), (97 : Int32), (116 : Int32), (105 : Int32), (111 : Int32), (110 : Int32), (32 : Int32), (99 : Int32), (111 : Int32), (117 : Int32), (108 : Int32), (100 : Int32), (32 : Int32), (110 : Int32), (101 : Int32), (118 : Int32), (101 : Int32), (114 : Int32), (32 : Int32), (97 : Int32), (112 : Int32), (112 : Int32), (108 : Int32), (121 : Int32), (59 : Int32), (32 : Int32), (116 : Int32), (97 : Int32), (107 : Int32), (101 : Int32), (32 : Int32), (116 : Int32), (104 : Int32), (101 : Int32), (32 : Int32), (97 : Int32), (110 : Int32), (110 : Int32), (111 : Int32), (116 : Int32), (97 : Int32), (116 : Int32), (105 : Int32), (111 : Int32), (110 : Int32), (32 : Int32), (111 : Int32), (102 : Int32), (102 : Int32)] : List Int32).map (fun c => c.toInt8.toInt32)).map Value.int) from by decide +kernel] at q
  exact q
 have hp110 : ∀ c ∈ ([(32 : Int32), (99 : Int32), (97 : Int32), (114 : Int32), (114 : Int32), (105 : Int32), (101 : Int32), (115 : Int32), (32 : Int32), (64 : Int32), (84 : Int32), (114 : Int32), (97 : Int32), (110 : Int32), (115 : Int32), (97 : Int32), (99 : Int32), (116 : Int32), (105 : Int32), (111 : Int32), (110 : Int32), (97 : Int32), (108 : Int32), (44 : Int32), (32 : Int32), (97 : Int32), (110 : Int32), (100 : Int32), (32 : Int32), (44 : Int32), (32 : Int32), (115 : Int32), (111 : Int32), (32 : Int32), (116 : Int32), (104 : Int32), (101 : Int32), (32 : Int32), (97 : Int32), (110 : Int32), (110 : Int32), (111 : Int32), (116 : Int32), (97 : Int32), (116 : Int32), (105 : Int32), (111 : Int32), (110 : Int32), (32 : Int32), (99 : Int32), (111 : Int32), (117 : Int32), (108 : Int32), (100 : Int32), (32 : Int32), (110 : Int32), (101 : Int32), (118 : Int32), (101 : Int32), (114 : Int32), (32 : Int32), (97 : Int32), (112 : Int32), (112 : Int32), (108 : Int32), (121 : Int32), (59 : Int32), (32 : Int32), (116 : Int32), (97 : Int32), (107 : Int32), (101 : Int32), (32 : Int32), (116 : Int32), (104 : Int32), (101 : Int32), (32 : Int32), (97 : Int32), (110 : Int32), (110 : Int32), (111 : Int32), (116 : Int32), (97 : Int32), (116 : Int32), (105 : Int32), (111 : Int32), (110 : Int32), (32 : Int32), (111 : Int32), (102 : Int32), (102 : Int32)] : List Int32), ¬ c < 0 ∧ ¬ (255 : Int32) < c := by decide +kernel
 have hcd111 : StrChars.Road.CodA ([(32 : Int32), (99 : Int32), (97 : Int32), (114 : Int32), (114 : Int32), (105 : Int32), (101 : Int32), (115 : Int32), (32 : Int32), (64 : Int32), (84 : Int32), (114 : Int32), (97 : Int32), (110 : Int32), (115 : Int32), (97 : Int32), (99 : Int32), (116 : Int32), (105 : Int32), (111 : Int32), (110 : Int32), (97 : Int32), (108 : Int32), (44 : Int32), (32 : Int32), (97 : Int32), (110 : Int32), (100 : Int32), (32 : Int32), (44 : Int32), (32 : Int32), (115 : Int32), (111 : Int32), (32 : Int32), (116 : Int32), (104 : Int32), (101 : Int32), (32 : Int32), (97 : Int32), (110 : Int32), (110 : Int32), (111 : Int32), (116 : Int32), (97 : Int32), (116 : Int32), (105 : Int32), (111 : Int32), (110 : Int32), (32 : Int32), (99 : Int32), (111 : Int32), (117 : Int32), (108 : Int32), (100 : Int32), (32 : Int32), (110 : Int32), (101 : Int32), (118 : Int32), (101 : Int32), (114 : Int32), (32 : Int32), (97 : Int32), (112 : Int32), (112 : Int32), (108 : Int32), (121 : Int32), (59 : Int32), (32 : Int32), (116 : Int32), (97 : Int32), (107 : Int32), (101 : Int32), (32 : Int32), (116 : Int32), (104 : Int32), (101 : Int32), (32 : Int32), (97 : Int32), (110 : Int32), (110 : Int32), (111 : Int32), (116 : Int32), (97 : Int32), (116 : Int32), (105 : Int32), (111 : Int32), (110 : Int32), (32 : Int32), (111 : Int32), (102 : Int32), (102 : Int32)] : List Int32) 0 (91 : Int32) ((([(32 : Int32), (99 : Int32), (97 : Int32), (114 : Int32), (114 : Int32), (105 : Int32), (101 : Int32), (115 : Int32), (32 : Int32), (64 : Int32), (84 : Int32), (114 : Int32), (97 : Int32), (110 : Int32), (115 : Int32), (97 : Int32), (99 : Int32), (116 : Int32), (105 : Int32), (111 : Int32), (110 : Int32), (97 : Int32), (108 : Int32), (44 : Int32), (32 : Int32), (97 : Int32), (110 : Int32), (100 : Int32), (32 : Int32), (44 : Int32), (32 : Int32), (115 : Int32), (111 : Int32), (32 : Int32), (116 : Int32), (104 : Int32), (101 : Int32), (32 : Int32), (97 : Int32), (110 : Int32), (110 : Int32), (111 : Int32), (116 : Int32), (97 : Int32), (116 : Int32), (105 : Int32), (111 : Int32), (110 : Int32), (32 : Int32), (99 : Int32), (111 : Int32), (117 : Int32), (108 : Int32), (100 : Int32), (32 : Int32), (110 : Int32), (101 : Int32), (118 : Int32), (101 : Int32), (114 : Int32), (32 : Int32), (97 : Int32), (112 : Int32), (112 : Int32), (108 : Int32), (121 : Int32), (59 : Int32), (32 : Int32), (116 : Int32), (97 : Int32), (107 : Int32), (101 : Int32), (32 : Int32), (116 : Int32), (104 : Int32), (101 : Int32), (32 : Int32), (97 : Int32), (110 : Int32), (110 : Int32), (111 : Int32), (116 : Int32), (97 : Int32), (116 : Int32), (105 : Int32), (111 : Int32), (110 : Int32), (32 : Int32), (111 : Int32), (102 : Int32), (102 : Int32)] : List Int32).map (fun c => c.toInt8.toInt32)).map Value.int) := StrChars.Road.codOf (n := 91) rfl (fun x hx => (hp108 x hx).2)
 have hbd111 : ∀ x ∈ ([(32 : Int32), (99 : Int32), (97 : Int32), (114 : Int32), (114 : Int32), (105 : Int32), (101 : Int32), (115 : Int32), (32 : Int32), (64 : Int32), (84 : Int32), (114 : Int32), (97 : Int32), (110 : Int32), (115 : Int32), (97 : Int32), (99 : Int32), (116 : Int32), (105 : Int32), (111 : Int32), (110 : Int32), (97 : Int32), (108 : Int32), (44 : Int32), (32 : Int32), (97 : Int32), (110 : Int32), (100 : Int32), (32 : Int32), (44 : Int32), (32 : Int32), (115 : Int32), (111 : Int32), (32 : Int32), (116 : Int32), (104 : Int32), (101 : Int32), (32 : Int32), (97 : Int32), (110 : Int32), (110 : Int32), (111 : Int32), (116 : Int32), (97 : Int32), (116 : Int32), (105 : Int32), (111 : Int32), (110 : Int32), (32 : Int32), (99 : Int32), (111 : Int32), (117 : Int32), (108 : Int32), (100 : Int32), (32 : Int32), (110 : Int32), (101 : Int32), (118 : Int32), (101 : Int32), (114 : Int32), (32 : Int32), (97 : Int32), (112 : Int32), (112 : Int32), (108 : Int32), (121 : Int32), (59 : Int32), (32 : Int32), (116 : Int32), (97 : Int32), (107 : Int32), (101 : Int32), (32 : Int32), (116 : Int32), (104 : Int32), (101 : Int32), (32 : Int32), (97 : Int32), (110 : Int32), (110 : Int32), (111 : Int32), (116 : Int32), (97 : Int32), (116 : Int32), (105 : Int32), (111 : Int32), (110 : Int32), (32 : Int32), (111 : Int32), (102 : Int32), (102 : Int32)] : List Int32), ¬ x < 0 ∧ ¬ (65535 : Int32) < x := own_up _ hp108
 have f112 := (Eq62.ext E103)
 have f113 := (Vq62.ext E103)
 have f114 := (Cq62.ext E103)
 have hcd115 : StrChars.Road.CodA ([(32 : Int32), (99 : Int32), (97 : Int32), (114 : Int32), (114 : Int32), (105 : Int32), (101 : Int32), (115 : Int32), (32 : Int32), (64 : Int32), (84 : Int32), (114 : Int32), (97 : Int32), (110 : Int32), (115 : Int32), (97 : Int32), (99 : Int32), (116 : Int32), (105 : Int32), (111 : Int32), (110 : Int32), (97 : Int32), (108 : Int32), (44 : Int32), (32 : Int32), (97 : Int32), (110 : Int32), (100 : Int32), (32 : Int32), (44 : Int32), (32 : Int32), (115 : Int32), (111 : Int32), (32 : Int32), (116 : Int32), (104 : Int32), (101 : Int32), (32 : Int32), (97 : Int32), (110 : Int32), (110 : Int32), (111 : Int32), (116 : Int32), (97 : Int32), (116 : Int32), (105 : Int32), (111 : Int32), (110 : Int32), (32 : Int32), (99 : Int32), (111 : Int32), (117 : Int32), (108 : Int32), (100 : Int32), (32 : Int32), (110 : Int32), (101 : Int32), (118 : Int32), (101 : Int32), (114 : Int32), (32 : Int32), (97 : Int32), (112 : Int32), (112 : Int32), (108 : Int32), (121 : Int32), (59 : Int32), (32 : Int32), (116 : Int32), (97 : Int32), (107 : Int32), (101 : Int32), (32 : Int32), (116 : Int32), (104 : Int32), (101 : Int32), (32 : Int32), (97 : Int32), (110 : Int32), (110 : Int32), (111 : Int32), (116 : Int32), (97 : Int32), (116 : Int32), (105 : Int32), (111 : Int32), (110 : Int32), (32 : Int32), (111 : Int32), (102 : Int32), (102 : Int32)] : List Int32) 0 (91 : Int32) ((([(32 : Int32), (99 : Int32), (97 : Int32), (114 : Int32), (114 : Int32), (105 : Int32), (101 : Int32), (115 : Int32), (32 : Int32), (64 : Int32), (84 : Int32), (114 : Int32), (97 : Int32), (110 : Int32), (115 : Int32), (97 : Int32), (99 : Int32), (116 : Int32), (105 : Int32), (111 : Int32), (110 : Int32), (97 : Int32), (108 : Int32), (44 : Int32), (32 : Int32), (97 : Int32), (110 : Int32), (100 : Int32), (32 : Int32), (44 : Int32), (32 : Int32), (115 : Int32), (111 : Int32), (32 : Int32), (116 : Int32), (104 : Int32), (101 : Int32), (32 : Int32), (97 : Int32), (110 : Int32), (110 : Int32), (111 : Int32), (116 : Int32), (97 : Int32), (116 : Int32), (105 : Int32), (111 : Int32), (110 : Int32), (32 : Int32), (99 : Int32), (111 : Int32), (117 : Int32), (108 : Int32), (100 : Int32), (32 : Int32), (110 : Int32), (101 : Int32), (118 : Int32), (101 : Int32), (114 : Int32), (32 : Int32), (97 : Int32), (112 : Int32), (112 : Int32), (108 : Int32), (121 : Int32), (59 : Int32), (32 : Int32), (116 : Int32), (97 : Int32), (107 : Int32), (101 : Int32), (32 : Int32), (116 : Int32), (104 : Int32), (101 : Int32), (32 : Int32), (97 : Int32), (110 : Int32), (110 : Int32), (111 : Int32), (116 : Int32), (97 : Int32), (116 : Int32), (105 : Int32), (111 : Int32), (110 : Int32), (32 : Int32), (111 : Int32), (102 : Int32), (102 : Int32)] : List Int32).map (fun c => c.toInt8.toInt32)).map Value.int) := StrChars.Road.codOf (n := 91) rfl (fun x hx => (hp110 x hx).2)
 have hbd115 : ∀ x ∈ ([(32 : Int32), (99 : Int32), (97 : Int32), (114 : Int32), (114 : Int32), (105 : Int32), (101 : Int32), (115 : Int32), (32 : Int32), (64 : Int32), (84 : Int32), (114 : Int32), (97 : Int32), (110 : Int32), (115 : Int32), (97 : Int32), (99 : Int32), (116 : Int32), (105 : Int32), (111 : Int32), (110 : Int32), (97 : Int32), (108 : Int32), (44 : Int32), (32 : Int32), (97 : Int32), (110 : Int32), (100 : Int32), (32 : Int32), (44 : Int32), (32 : Int32), (115 : Int32), (111 : Int32), (32 : Int32), (116 : Int32), (104 : Int32), (101 : Int32), (32 : Int32), (97 : Int32), (110 : Int32), (110 : Int32), (111 : Int32), (116 : Int32), (97 : Int32), (116 : Int32), (105 : Int32), (111 : Int32), (110 : Int32), (32 : Int32), (99 : Int32), (111 : Int32), (117 : Int32), (108 : Int32), (100 : Int32), (32 : Int32), (110 : Int32), (101 : Int32), (118 : Int32), (101 : Int32), (114 : Int32), (32 : Int32), (97 : Int32), (112 : Int32), (112 : Int32), (108 : Int32), (121 : Int32), (59 : Int32), (32 : Int32), (116 : Int32), (97 : Int32), (107 : Int32), (101 : Int32), (32 : Int32), (116 : Int32), (104 : Int32), (101 : Int32), (32 : Int32), (97 : Int32), (110 : Int32), (110 : Int32), (111 : Int32), (116 : Int32), (97 : Int32), (116 : Int32), (105 : Int32), (111 : Int32), (110 : Int32), (32 : Int32), (111 : Int32), (102 : Int32), (102 : Int32)] : List Int32), ¬ x < 0 ∧ ¬ (65535 : Int32) < x := own_up _ hp110
 have f116 := ((f60.keep Kq62 all0).ext E103)
 obtain ⟨cq117, kq117, q117a, q117b, q117c⟩ := isOf hZ103 e103 f112
 obtain ⟨vv117, _, ⟨T117, L117, k117, n117⟩, -, X117, ⟨Lc117, hQ117, l117, y117, z117⟩, st117⟩ := X103.virtualBack hx (y := yM36) (z := yM36) hown103 (mvT hZ103 (Wd187 hw)) (mvT hZ103 (Wd188 hw)) (oNf hZ103 (Wd190 hw)) (mvT hZ103 (Wd190 hw)) (mvT hZ103 (Wd189 hw)) (by decide) (StrChars.Road.eqW (W := 0) hZ103 heq (kI := 4) (Wd5 hw) f112 f113 f114 Kz106 hcd111 hbd111 (oLe rfl) A103 V103 C103 Kz109 hcd115 hbd115 (oLe rfl) (O2.ext f116.2) P5 (by decide) (by decide)) q117a q117c (g := (fr_law m p1 p2 p3 p4 54 (.val (.int (oN n1))) (.val (.int (oN n2))) (.val (.int (oN n3))) (vR x21) (vR x29) (vR x37) .unset .unset .unset .unset .unset .unset [(.ref a103), (.ref x62)])) rfl (by rw [hml]; rfl) (Steps.refl _) (argsL := [(.ref a103)]) (rest := []) (lenOf pd_38 rfl) rfl (oWt rfl) (D at_54) (fun _ _ => ⟨rfl, e103, oLe rfl, oLe rfl⟩)
 dsimp only [Pt.U, Pt.locs, Pt.cells, Pt.slots] at X117 l117 y117 z117 st117 hQ117
 subst l117 y117 z117
 obtain ⟨hE117, rfl, Eq117⟩ := hQ117
 have Nq117 : Fr n0 ([] : List Loc) := Fr.nil n0
 obtain rfl : vv117 = some (.int 1) := hE117.elim (fun q => q.1) (fun q => absurd rfl q.2)
 have N118 := Fr.app Nh102 Nq117
 obtain ⟨Lh119, Xh119, Nh119⟩ := oHd 36 1954 X117 N118 rfl rfl
 refine ownSt st117 ?_
 clear st117
 show oA p e below _ T117 (fr_law m p1 p2 p3 p4 57 (.val (.int (oN n1))) (.val (.int (oN n2))) (.val (.int (oN n3))) (vR x21) (vR x29) (vR x37) .unset .unset .unset .unset .unset .unset [(iV 1)])
 refine oTo T117 (fr_law m p1 p2 p3 p4 65 (.val (.int (oN n1))) (.val (.int (oN n2))) (.val (.int (oN n3))) (vR x21) (vR x29) (vR x37) (vI 1) .unset .unset .unset .unset .unset [(.ref x37), (.ref x29), (.ref x21)]) (fun t kt => ?_) ?_
 ·refine XS.istore Xh119.here hx rfl (D at_57) rfl (l' := #[vI p1, vI p2, vI p3, vI p4, .val (.int (oN n1)), .val (.int (oN n2)), .val (.int (oN n3)), vR x21, vR x29, vR x37, vI 1, .unset, .unset, .unset, .unset, .unset]) rfl ?_
  refine XS.aload Xh119.here hx rfl (D at_59) rfl rfl ?_
  refine XS.aload Xh119.here hx rfl (D at_61) rfl rfl ?_
  refine XS.aload Xh119.here hx rfl (D at_63) rfl rfl ?_
  exact kt
 have f120 := ((f64.keep Kq62).ext E103)
 have f121 := (((((((Vq21.keep Kq29 nin0).keep Kq37 nin0).ext E43).ext E46).ext E49).keep Kq62 nin0).ext E103)
 have f122 := (((((((Cq21.keep Kq29 nin0).keep Kq37 nin0).ext E43).ext E46).ext E49).keep Kq62 nin0).ext E103)
 have f123 := ((f66.keep Kq62 nin0).ext E103)
 have f124 := ((f68.keep Kq62).ext E103)
 have f125 := ((((((Vq29.keep Kq37 nin0).ext E43).ext E46).ext E49).keep Kq62 nin0).ext E103)
 have f126 := ((((((Cq29.keep Kq37 nin0).ext E43).ext E46).ext E49).keep Kq62 nin0).ext E103)
 have f127 := ((f70.keep Kq62 nin0).ext E103)
 have f128 := ((f72.keep Kq62).ext E103)
 have f129 := (((((Vq37.ext E43).ext E46).ext E49).keep Kq62 nin0).ext E103)
 have f130 := (((((Cq37.ext E43).ext E46).ext E49).keep Kq62 nin0).ext E103)
 have f131 := ((f74.keep Kq62 nin0).ext E103)
 have f132 := (Nat.le_trans (Nat.le_trans f61 Kq62.1) E103.1)
 obtain ⟨vv133, _, ⟨T133, L133, k133, n133⟩, -, X133, hS133, hg133, ⟨Lc133, hQ133, l133, y133, z133, hC133⟩, st133⟩ := callSS Xh119 hx (y := yM35) hown103 (mvT hZ103 (Wd40 hw)) (mvT hZ103 (Wd41 hw)) (mvT hZ103 (Wd42 hw)) (mvT hZ103 (Wd43 hw)) (by decide) (backOfSH (W := 0) (s := s) (EL := ownEL) (c_nva l Z a0 hw [] x21 t21 kb21 n1 us21 x29 t29 kb29 n2 us29 x37 t37 kb37 n3 us37 G1 h103 n0 f132 f120 f121 f122 f123 hD21.1 hk1 f124 f125 f126 f127 hD29.1 hk2 f128 f129 f130 f131 hD37.1 hk3 O2 P5 f116) hZ103 (Wd43 hw) (Wd42 hw) (by decide) (by decide) hEL R105.1) (g := (fr_law m p1 p2 p3 p4 65 (.val (.int (oN n1))) (.val (.int (oN n2))) (.val (.int (oN n3))) (vR x21) (vR x29) (vR x37) (vI 1) .unset .unset .unset .unset .unset [(.ref x37), (.ref x29), (.ref x21)])) rfl (by rw [hml]; rfl) (argsL := [(.ref x21), (.ref x29), (.ref x37)]) (rest := []) (lenOf pd_37 rfl) rfl (oWt rfl) (D at_65) (fun _ _ => ⟨rfl, Eq117, oLe rfl, oLe rfl⟩)
 dsimp only [Pt.U, Pt.locs, Pt.cells, Pt.slots] at X133 l133 y133 z133 st133 hQ133 hS133 hg133 hC133
 subst l133 y133 z133
 obtain ⟨x133, t133, kb133, rfl, Nq133, Kq133, zq133, zt133, Eq133, Vq133, Cq133, Aq133⟩ := hQ133
 have ne134 : x21 ≠ x133 := Nat.ne_of_lt (Nat.lt_of_lt_of_le f120.lt zq133)
 have ne135 : t21 ≠ x133 := Nat.ne_of_lt (Nat.lt_of_lt_of_le f123.lt zq133)
 have ne136 : x29 ≠ x133 := Nat.ne_of_lt (Nat.lt_of_lt_of_le f124.lt zq133)
 have ne137 : t29 ≠ x133 := Nat.ne_of_lt (Nat.lt_of_lt_of_le f127.lt zq133)
 have ne138 : x37 ≠ x133 := Nat.ne_of_lt (Nat.lt_of_lt_of_le f128.lt zq133)
 have ne139 : t37 ≠ x133 := Nat.ne_of_lt (Nat.lt_of_lt_of_le f131.lt zq133)
 have f141 := ((f52.keep Kq62).ext E103)
 have ne140 : a43 ≠ x133 := Nat.ne_of_lt (Nat.lt_of_lt_of_le f141.lt zq133)
 have f143 := ((f55.keep Kq62 nin0).ext E103)
 have ne142 : b43 ≠ x133 := Nat.ne_of_lt (Nat.lt_of_lt_of_le f143.lt zq133)
 have f145 := ((f56.keep Kq62).ext E103)
 have ne144 : a46 ≠ x133 := Nat.ne_of_lt (Nat.lt_of_lt_of_le f145.lt zq133)
 have f147 := ((f59.keep Kq62 nin0).ext E103)
 have ne146 : b46 ≠ x133 := Nat.ne_of_lt (Nat.lt_of_lt_of_le f147.lt zq133)
 have f149 := ((A49.keep Kq62).ext E103)
 have ne148 : a49 ≠ x133 := Nat.ne_of_lt (Nat.lt_of_lt_of_le f149.lt zq133)
 have f151 := ((Ab49.keep Kq62 nin0).ext E103)
 have ne150 : b49 ≠ x133 := Nat.ne_of_lt (Nat.lt_of_lt_of_le f151.lt zq133)
 have ne152 : x62 ≠ x133 := Nat.ne_of_lt (Nat.lt_of_lt_of_le f112.lt zq133)
 have ne153 : a103 ≠ x133 := Nat.ne_of_lt (Nat.lt_of_lt_of_le A103.lt zq133)
 have ne154 : t62 ≠ x133 := Nat.ne_of_lt (Nat.lt_of_lt_of_le Kz106.lt zq133)
 have ne155 : b103 ≠ x133 := Nat.ne_of_lt (Nat.lt_of_lt_of_le Kz109.lt zq133)
 have g156 : n0 ≤ x133 := Nat.le_trans f132 zq133
 have f158 := (Nat.le_trans (Nat.le_trans f83 Kq62.1) E103.1)
 have z157 : h0.size ≤ x133 := Nat.le_trans f158 zq133
 have ne159 : x21 ≠ t133 := Nat.ne_of_lt (Nat.lt_of_lt_of_le f120.lt zt133)
 have ne160 : t21 ≠ t133 := Nat.ne_of_lt (Nat.lt_of_lt_of_le f123.lt zt133)
 have ne161 : x29 ≠ t133 := Nat.ne_of_lt (Nat.lt_of_lt_of_le f124.lt zt133)
 have ne162 : t29 ≠ t133 := Nat.ne_of_lt (Nat.lt_of_lt_of_le f127.lt zt133)
 have ne163 : x37 ≠ t133 := Nat.ne_of_lt (Nat.lt_of_lt_of_le f128.lt zt133)
 have ne164 : t37 ≠ t133 := Nat.ne_of_lt (Nat.lt_of_lt_of_le f131.lt zt133)
 have ne165 : a43 ≠ t133 := Nat.ne_of_lt (Nat.lt_of_lt_of_le f141.lt zt133)
 have ne166 : b43 ≠ t133 := Nat.ne_of_lt (Nat.lt_of_lt_of_le f143.lt zt133)
 have ne167 : a46 ≠ t133 := Nat.ne_of_lt (Nat.lt_of_lt_of_le f145.lt zt133)
 have ne168 : b46 ≠ t133 := Nat.ne_of_lt (Nat.lt_of_lt_of_le f147.lt zt133)
 have ne169 : a49 ≠ t133 := Nat.ne_of_lt (Nat.lt_of_lt_of_le f149.lt zt133)
 have ne170 : b49 ≠ t133 := Nat.ne_of_lt (Nat.lt_of_lt_of_le f151.lt zt133)
 have ne171 : x62 ≠ t133 := Nat.ne_of_lt (Nat.lt_of_lt_of_le f112.lt zt133)
 have ne172 : a103 ≠ t133 := Nat.ne_of_lt (Nat.lt_of_lt_of_le A103.lt zt133)
 have ne173 : t62 ≠ t133 := Nat.ne_of_lt (Nat.lt_of_lt_of_le Kz106.lt zt133)
 have ne174 : b103 ≠ t133 := Nat.ne_of_lt (Nat.lt_of_lt_of_le Kz109.lt zt133)
 have g175 : n0 ≤ t133 := Nat.le_trans f132 zt133
 have z176 : h0.size ≤ t133 := Nat.le_trans f158 zt133
 have N177 := Fr.app Nh119 Nq133
 have R179 := R105.trans hC133
 obtain ⟨XR180, hSR180, hZ180, hown180⟩ := rebS hS103 (by rw [Eq117]; exact hk103) X133 hS133 hg133 hZ103 hown103
 obtain ⟨Lh181, Xh181, Nh181⟩ := oHd 55 3498 XR180 N177 rfl rfl
 refine ownSt st133 ?_
 clear st133
 show oA p e below _ T133 (fr_law m p1 p2 p3 p4 68 (.val (.int (oN n1))) (.val (.int (oN n2))) (.val (.int (oN n3))) (vR x21) (vR x29) (vR x37) (vI 1) .unset .unset .unset .unset .unset [(.ref x133)])
 refine oTo T133 (fr_law m p1 p2 p3 p4 77 (.val (.int (oN n1))) (.val (.int (oN n2))) (.val (.int (oN n3))) (vR x21) (vR x29) (vR x37) (vI 1) (vR x133) .unset .unset .unset .unset [(.ref x133)]) (fun t kt => ?_) ?_
 ·refine XS.astore Xh181.here hx rfl (D at_68) rfl rfl (l' := #[vI p1, vI p2, vI p3, vI p4, .val (.int (oN n1)), .val (.int (oN n2)), .val (.int (oN n3)), vR x21, vR x29, vR x37, vI 1, vR x133, .unset, .unset, .unset, .unset]) rfl ?_
  refine XS.aload Xh181.here hx rfl (D at_70) rfl rfl ?_
  refine XS.ifnullNo Xh181.here hx rfl (D at_72) rfl ?_
  refine XS.aload Xh181.here hx rfl (D at_75) rfl rfl ?_
  exact kt
 have f182 := (f116.keep Kq133 all0)
 have f183 := (Nat.le_trans f132 Kq133.1)
 obtain ⟨cq184, kq184, q184a, q184b, q184c⟩ := isOf hZ180 rfl Eq133
 obtain ⟨vv184, _, ⟨T184, L184, k184, n184⟩, -, X184, ⟨Lc184, hQ184, l184, y184, z184⟩, st184⟩ := Xh181.virtualBack hx (y := yM2) (z := yM2) hown180 (mvT hZ180 (Wd197 hw)) (mvT hZ180 (Wd73 hw)) (oNf hZ180 (Wd75 hw)) (mvT hZ180 (Wd75 hw)) (mvT hZ180 (Wd74 hw)) (by decide) (backOf (W := 0) (c_leng l Z a0 hw [] x133 t133 kb133 (oN (0 + n1 + 29 + n2 + (39 + n3 + 23))) ((((([] : List Value) ++ us21) ++ C1L) ++ us29) ++ ((C2L ++ us37) ++ C3L)) G1 T133.heap n0 f183 Eq133 Vq133 Cq133 Aq133 (oN_shr _) O2 P5 f182) hZ180 (Wd76 hw) (Wd6 hw) (by decide) (by decide)) q184a q184c (g := (fr_law m p1 p2 p3 p4 77 (.val (.int (oN n1))) (.val (.int (oN n2))) (.val (.int (oN n3))) (vR x21) (vR x29) (vR x37) (vI 1) (vR x133) .unset .unset .unset .unset [(.ref x133)])) rfl (by rw [hml]; rfl) (Steps.refl _) (argsL := []) (rest := []) (lenOf pd_14 rfl) rfl (oWt rfl) (D at_77) (fun _ _ => ⟨rfl, rfl, oLe rfl, oLe rfl⟩)
 dsimp only [Pt.U, Pt.locs, Pt.cells, Pt.slots] at X184 l184 y184 z184 st184 hQ184
 subst l184 y184 z184
 obtain ⟨rfl, Nq184, Eq184⟩ := hQ184
 have N185 := Fr.app Nh181 Nq184
 obtain ⟨Lh186, Xh186, Nh186⟩ := oHd 55 3498 X184 N185 rfl rfl
 refine ownSt st184 ?_
 clear st184
 show oA p e below _ T184 (fr_law m p1 p2 p3 p4 80 (.val (.int (oN n1))) (.val (.int (oN n2))) (.val (.int (oN n3))) (vR x21) (vR x29) (vR x37) (vI 1) (vR x133) .unset .unset .unset .unset [(.int (oN (0 + n1 + 29 + n2 + (39 + n3 + 23))))])
 refine oTo T184 (fr_law m p1 p2 p3 p4 103 (.val (.int (oN n1))) (.val (.int (oN n2))) (.val (.int (oN n3))) (vR x21) (vR x29) (vR x37) (vI 1) (vR x133) (.val (.int ((oN n1) + (29 : Int32)))) .unset .unset .unset []) (fun t kt => ?_) ?_
 ·refine XS.iload Xh186.here hx rfl (D at_80) rfl ?_
  refine XS.iload Xh186.here hx rfl (D at_82) rfl ?_
  refine XS.iadd Xh186.here hx rfl (D at_84) rfl ?_
  refine XS.iload Xh186.here hx rfl (D at_85) rfl ?_
  refine XS.iadd Xh186.here hx rfl (D at_87) rfl ?_
  refine XS.bipush Xh186.here hx rfl (D at_88) ?_
  refine XS.iadd Xh186.here hx rfl (D at_90) rfl ?_
  refine XS.icmpYes Xh186.here hx rfl (pc0 := 91) (pc' := 96) rfl (D at_91) rfl (teq (show (oN (0 + n1 + 29 + n2 + (39 + n3 + 23))) = ((((oN n1) + (oN n2)) + (oN n3)) + (91 : Int32)) from by rw [show (91 : Int32) = oN 91 from rfl, oN_add, oN_add, oN_add]; exact congrArg oN (by omega))).1 (by decide) (by decide) ?_
  refine XS.iload Xh186.here hx rfl (D at_96) rfl ?_
  refine XS.bipush Xh186.here hx rfl (D at_98) ?_
  refine XS.iadd Xh186.here hx rfl (D at_100) rfl ?_
  refine XS.istore Xh186.here hx rfl (D at_101) rfl (l' := #[vI p1, vI p2, vI p3, vI p4, .val (.int (oN n1)), .val (.int (oN n2)), .val (.int (oN n3)), vR x21, vR x29, vR x37, vI 1, vR x133, .val (.int ((oN n1) + (29 : Int32))), .unset, .unset, .unset]) rfl ?_
  exact kt
 show oA p e below _ T184 (fr_law m p1 p2 p3 p4 103 (.val (.int (oN n1))) (.val (.int (oN n2))) (.val (.int (oN n3))) (vR x21) (vR x29) (vR x37) (vI 1) (vR x133) (.val (.int ((oN n1) + (29 : Int32)))) .unset .unset .unset [])
 rw [show ((oN n1) + (29 : Int32)) = (oN (n1 + 29)) from oN_add _ _]
 refine oTo T184 (fr_law m p1 p2 p3 p4 110 (.val (.int (oN n1))) (.val (.int (oN n2))) (.val (.int (oN n3))) (vR x21) (vR x29) (vR x37) (vI 1) (vR x133) (.val (.int (oN (n1 + 29)))) (.val (.int ((oN (n1 + 29)) + (oN n2)))) .unset .unset []) (fun t kt => ?_) ?_
 ·refine XS.iload Xh186.here hx rfl (D at_103) rfl ?_
  refine XS.iload Xh186.here hx rfl (D at_105) rfl ?_
  refine XS.iadd Xh186.here hx rfl (D at_107) rfl ?_
  refine XS.istore Xh186.here hx rfl (D at_108) rfl (l' := #[vI p1, vI p2, vI p3, vI p4, .val (.int (oN n1)), .val (.int (oN n2)), .val (.int (oN n3)), vR x21, vR x29, vR x37, vI 1, vR x133, .val (.int (oN (n1 + 29))), .val (.int ((oN (n1 + 29)) + (oN n2))), .unset, .unset]) rfl ?_
  exact kt
 show oA p e below _ T184 (fr_law m p1 p2 p3 p4 110 (.val (.int (oN n1))) (.val (.int (oN n2))) (.val (.int (oN n3))) (vR x21) (vR x29) (vR x37) (vI 1) (vR x133) (.val (.int (oN (n1 + 29)))) (.val (.int ((oN (n1 + 29)) + (oN n2)))) .unset .unset [])
 rw [show ((oN (n1 + 29)) + (oN n2)) = (oN (n1 + 29 + n2)) from oN_add _ _]
 refine oTo T184 (fr_law m p1 p2 p3 p4 117 (.val (.int (oN n1))) (.val (.int (oN n2))) (.val (.int (oN n3))) (vR x21) (vR x29) (vR x37) (vI 1) (vR x133) (.val (.int (oN (n1 + 29)))) (.val (.int (oN (n1 + 29 + n2)))) (.val (.int ((oN (n1 + 29 + n2)) + (39 : Int32)))) .unset []) (fun t kt => ?_) ?_
 ·refine XS.iload Xh186.here hx rfl (D at_110) rfl ?_
  refine XS.bipush Xh186.here hx rfl (D at_112) ?_
  refine XS.iadd Xh186.here hx rfl (D at_114) rfl ?_
  refine XS.istore Xh186.here hx rfl (D at_115) rfl (l' := #[vI p1, vI p2, vI p3, vI p4, .val (.int (oN n1)), .val (.int (oN n2)), .val (.int (oN n3)), vR x21, vR x29, vR x37, vI 1, vR x133, .val (.int (oN (n1 + 29))), .val (.int (oN (n1 + 29 + n2))), .val (.int ((oN (n1 + 29 + n2)) + (39 : Int32))), .unset]) rfl ?_
  exact kt
 show oA p e below _ T184 (fr_law m p1 p2 p3 p4 117 (.val (.int (oN n1))) (.val (.int (oN n2))) (.val (.int (oN n3))) (vR x21) (vR x29) (vR x37) (vI 1) (vR x133) (.val (.int (oN (n1 + 29)))) (.val (.int (oN (n1 + 29 + n2)))) (.val (.int ((oN (n1 + 29 + n2)) + (39 : Int32)))) .unset [])
 rw [show ((oN (n1 + 29 + n2)) + (39 : Int32)) = (oN (n1 + 29 + n2 + 39)) from oN_add _ _]
 refine oTo T184 (fr_law m p1 p2 p3 p4 124 (.val (.int (oN n1))) (.val (.int (oN n2))) (.val (.int (oN n3))) (vR x21) (vR x29) (vR x37) (vI 1) (vR x133) (.val (.int (oN (n1 + 29)))) (.val (.int (oN (n1 + 29 + n2)))) (.val (.int (oN (n1 + 29 + n2 + 39)))) (.val (.int ((oN (n1 + 29 + n2 + 39)) + (oN n3)))) []) (fun t kt => ?_) ?_
 ·refine XS.iload Xh186.here hx rfl (D at_117) rfl ?_
  refine XS.iload Xh186.here hx rfl (D at_119) rfl ?_
  refine XS.iadd Xh186.here hx rfl (D at_121) rfl ?_
  refine XS.istore Xh186.here hx rfl (D at_122) rfl (l' := #[vI p1, vI p2, vI p3, vI p4, .val (.int (oN n1)), .val (.int (oN n2)), .val (.int (oN n3)), vR x21, vR x29, vR x37, vI 1, vR x133, .val (.int (oN (n1 + 29))), .val (.int (oN (n1 + 29 + n2))), .val (.int (oN (n1 + 29 + n2 + 39))), .val (.int ((oN (n1 + 29 + n2 + 39)) + (oN n3)))]) rfl ?_
  exact kt
 show oA p e below _ T184 (fr_law m p1 p2 p3 p4 124 (.val (.int (oN n1))) (.val (.int (oN n2))) (.val (.int (oN n3))) (vR x21) (vR x29) (vR x37) (vI 1) (vR x133) (.val (.int (oN (n1 + 29)))) (.val (.int (oN (n1 + 29 + n2)))) (.val (.int (oN (n1 + 29 + n2 + 39)))) (.val (.int ((oN (n1 + 29 + n2 + 39)) + (oN n3)))) [])
 rw [show ((oN (n1 + 29 + n2 + 39)) + (oN n3)) = (oN (n1 + 29 + n2 + 39 + n3)) from oN_add _ _]
 refine oTo T184 (fr_law m p1 p2 p3 p4 135 (.val (.int (oN n1))) (.val (.int (oN n2))) (.val (.int (oN n3))) (vR x21) (vR x29) (vR x37) (vI 1) (vR x133) (.val (.int (oN (n1 + 29)))) (.val (.int (oN (n1 + 29 + n2)))) (.val (.int (oN (n1 + 29 + n2 + 39)))) (.val (.int (oN (n1 + 29 + n2 + 39 + n3)))) [(.int (oN n1)), (.int p1), (iV 0), (.ref x133)]) (fun t kt => ?_) ?_
 ·refine XS.iload Xh186.here hx rfl (D at_124) rfl ?_
  refine XS.ifNo Xh186.here hx rfl (D at_126) rfl ((if0 _ _).trans (feq ((by decide) : ¬ ((1 : Int32) = (0 : Int32)))).1) ?_
  refine XS.aload Xh186.here hx rfl (D at_129) rfl rfl ?_
  refine XS.iconst Xh186.here hx rfl (D at_131) ?_
  refine XS.iloadN Xh186.here hx rfl (D at_132) rfl ?_
  refine XS.iload Xh186.here hx rfl (D at_133) rfl ?_
  exact kt
 obtain ⟨vv187, _, ⟨T187, L187, k187, n187⟩, -, X187, ⟨Lc187, hQ187, l187, y187, z187⟩, st187⟩ := Jvm.LawKit.callS Xh186 hx (y := yM33) hown180 (mvT hZ180 (Wd198 hw)) (mvT hZ180 (Wd199 hw)) (mvT hZ180 (Wd2 hw)) (mvT hZ180 (Wd200 hw)) (by decide) (backOf (W := 0) (c_dra l Z a0 hw [] x133 t133 kb133 (oN (0 + n1 + 29 + n2 + (39 + n3 + 23))) ((((([] : List Value) ++ us21) ++ C1L) ++ us29) ++ ((C2L ++ us37) ++ C3L)) (0 : Int32) p1 (oN n1) n1 G1 G3 T133.heap n0 f183 Eq133 Vq133 Cq133 Aq133 rfl hk1 (oDra (q := 0) (Ch_r _) hD21 (by omega) (by omega) (fun j hj => (congrArg (fun q => List.getD _ q _) (Nat.zero_add j)).trans (rl0 hD21.1 hD29.1 _ hj))) O2 P5 O4 rG3 f182) hZ180 (Wd200 hw) (Wd2 hw) (by decide) (by decide)) (g := (fr_law m p1 p2 p3 p4 135 (.val (.int (oN n1))) (.val (.int (oN n2))) (.val (.int (oN n3))) (vR x21) (vR x29) (vR x37) (vI 1) (vR x133) (.val (.int (oN (n1 + 29)))) (.val (.int (oN (n1 + 29 + n2)))) (.val (.int (oN (n1 + 29 + n2 + 39)))) (.val (.int (oN (n1 + 29 + n2 + 39 + n3)))) [(.int (oN n1)), (.int p1), (iV 0), (.ref x133)])) rfl (by rw [hml]; rfl) (argsL := [(.ref x133), (iV 0), (.int p1), (.int (oN n1))]) (rest := []) (lenOf pd_39 rfl) rfl (oWt rfl) (D at_135) (fun _ _ => ⟨rfl, Eq184, oLe rfl, oLe rfl⟩)
 dsimp only [Pt.U, Pt.locs, Pt.cells, Pt.slots] at X187 l187 y187 z187 st187 hQ187
 subst l187 y187 z187
 obtain ⟨rfl, Nq187, Eq187⟩ := hQ187
 have N188 := Fr.app Nh186 Nq187
 obtain ⟨Lh189, Xh189, Nh189⟩ := oHd 55 3498 X187 N188 rfl rfl
 refine ownBy st187 ?_
 clear st187
 show oA p e below _ T187 (fr_law m p1 p2 p3 p4 138 (.val (.int (oN n1))) (.val (.int (oN n2))) (.val (.int (oN n3))) (vR x21) (vR x29) (vR x37) (vI 1) (vR x133) (.val (.int (oN (n1 + 29)))) (.val (.int (oN (n1 + 29 + n2)))) (.val (.int (oN (n1 + 29 + n2 + 39)))) (.val (.int (oN (n1 + 29 + n2 + 39 + n3)))) [(iV 1)])
 refine oTo T187 (fr_law m p1 p2 p3 p4 148 (.val (.int (oN n1))) (.val (.int (oN n2))) (.val (.int (oN n3))) (vR x21) (vR x29) (vR x37) (vI 1) (vR x133) (.val (.int (oN (n1 + 29)))) (.val (.int (oN (n1 + 29 + n2)))) (.val (.int (oN (n1 + 29 + n2 + 39)))) (.val (.int (oN (n1 + 29 + n2 + 39 + n3)))) [(.int (oN n2)), (.int p2), (.int (oN (n1 + 29))), (.ref x133)]) (fun t kt => ?_) ?_
 ·refine XS.ifNo Xh189.here hx rfl (D at_138) rfl ((if0 _ _).trans (feq ((by decide) : ¬ ((1 : Int32) = (0 : Int32)))).1) ?_
  refine XS.aload Xh189.here hx rfl (D at_141) rfl rfl ?_
  refine XS.iload Xh189.here hx rfl (D at_143) rfl ?_
  refine XS.iloadN Xh189.here hx rfl (D at_145) rfl ?_
  refine XS.iload Xh189.here hx rfl (D at_146) rfl ?_
  exact kt
 obtain ⟨vv190, _, ⟨T190, L190, k190, n190⟩, -, X190, ⟨Lc190, hQ190, l190, y190, z190⟩, st190⟩ := Jvm.LawKit.callS Xh189 hx (y := yM33) hown180 (mvT hZ180 (Wd198 hw)) (mvT hZ180 (Wd199 hw)) (mvT hZ180 (Wd2 hw)) (mvT hZ180 (Wd200 hw)) (by decide) (backOf (W := 0) (c_dra l Z a0 hw [] x133 t133 kb133 (oN (0 + n1 + 29 + n2 + (39 + n3 + 23))) ((((([] : List Value) ++ us21) ++ C1L) ++ us29) ++ ((C2L ++ us37) ++ C3L)) (oN (n1 + 29)) p2 (oN n2) n2 G1 G3 T133.heap n0 f183 Eq133 Vq133 Cq133 Aq133 rfl hk2 (oDra (Ch_r _) hD29 (by omega) (by omega) (fun j hj => rl2 hD21.1 hD29.1 _ hj)) O2 P5 O4 rG3 f182) hZ180 (Wd200 hw) (Wd2 hw) (by decide) (by decide)) (g := (fr_law m p1 p2 p3 p4 148 (.val (.int (oN n1))) (.val (.int (oN n2))) (.val (.int (oN n3))) (vR x21) (vR x29) (vR x37) (vI 1) (vR x133) (.val (.int (oN (n1 + 29)))) (.val (.int (oN (n1 + 29 + n2)))) (.val (.int (oN (n1 + 29 + n2 + 39)))) (.val (.int (oN (n1 + 29 + n2 + 39 + n3)))) [(.int (oN n2)), (.int p2), (.int (oN (n1 + 29))), (.ref x133)])) rfl (by rw [hml]; rfl) (argsL := [(.ref x133), (.int (oN (n1 + 29))), (.int p2), (.int (oN n2))]) (rest := []) (lenOf pd_39 rfl) rfl (oWt rfl) (D at_148) (fun _ _ => ⟨rfl, Eq187, oLe rfl, oLe rfl⟩)
 dsimp only [Pt.U, Pt.locs, Pt.cells, Pt.slots] at X190 l190 y190 z190 st190 hQ190
 subst l190 y190 z190
 obtain ⟨rfl, Nq190, Eq190⟩ := hQ190
 have N191 := Fr.app Nh189 Nq190
 obtain ⟨Lh192, Xh192, Nh192⟩ := oHd 55 3498 X190 N191 rfl rfl
 refine ownBy st190 ?_
 clear st190
 show oA p e below _ T190 (fr_law m p1 p2 p3 p4 151 (.val (.int (oN n1))) (.val (.int (oN n2))) (.val (.int (oN n3))) (vR x21) (vR x29) (vR x37) (vI 1) (vR x133) (.val (.int (oN (n1 + 29)))) (.val (.int (oN (n1 + 29 + n2)))) (.val (.int (oN (n1 + 29 + n2 + 39)))) (.val (.int (oN (n1 + 29 + n2 + 39 + n3)))) [(iV 1)])
 refine oTo T190 (fr_law m p1 p2 p3 p4 161 (.val (.int (oN n1))) (.val (.int (oN n2))) (.val (.int (oN n3))) (vR x21) (vR x29) (vR x37) (vI 1) (vR x133) (.val (.int (oN (n1 + 29)))) (.val (.int (oN (n1 + 29 + n2)))) (.val (.int (oN (n1 + 29 + n2 + 39)))) (.val (.int (oN (n1 + 29 + n2 + 39 + n3)))) [(.int (oN n3)), (.int p3), (.int (oN (n1 + 29 + n2 + 39))), (.ref x133)]) (fun t kt => ?_) ?_
 ·refine XS.ifNo Xh192.here hx rfl (D at_151) rfl ((if0 _ _).trans (feq ((by decide) : ¬ ((1 : Int32) = (0 : Int32)))).1) ?_
  refine XS.aload Xh192.here hx rfl (D at_154) rfl rfl ?_
  refine XS.iload Xh192.here hx rfl (D at_156) rfl ?_
  refine XS.iloadN Xh192.here hx rfl (D at_158) rfl ?_
  refine XS.iload Xh192.here hx rfl (D at_159) rfl ?_
  exact kt
 obtain ⟨vv193, _, ⟨T193, L193, k193, n193⟩, -, X193, ⟨Lc193, hQ193, l193, y193, z193⟩, st193⟩ := Jvm.LawKit.callS Xh192 hx (y := yM33) hown180 (mvT hZ180 (Wd198 hw)) (mvT hZ180 (Wd199 hw)) (mvT hZ180 (Wd2 hw)) (mvT hZ180 (Wd200 hw)) (by decide) (backOf (W := 0) (c_dra l Z a0 hw [] x133 t133 kb133 (oN (0 + n1 + 29 + n2 + (39 + n3 + 23))) ((((([] : List Value) ++ us21) ++ C1L) ++ us29) ++ ((C2L ++ us37) ++ C3L)) (oN (n1 + 29 + n2 + 39)) p3 (oN n3) n3 G1 G3 T133.heap n0 f183 Eq133 Vq133 Cq133 Aq133 rfl hk3 (oDra (Ch_r _) hD37 (by omega) (by omega) (fun j hj => rl4 hD21.1 hD29.1 hD37.1 _ hj)) O2 P5 O4 rG3 f182) hZ180 (Wd200 hw) (Wd2 hw) (by decide) (by decide)) (g := (fr_law m p1 p2 p3 p4 161 (.val (.int (oN n1))) (.val (.int (oN n2))) (.val (.int (oN n3))) (vR x21) (vR x29) (vR x37) (vI 1) (vR x133) (.val (.int (oN (n1 + 29)))) (.val (.int (oN (n1 + 29 + n2)))) (.val (.int (oN (n1 + 29 + n2 + 39)))) (.val (.int (oN (n1 + 29 + n2 + 39 + n3)))) [(.int (oN n3)), (.int p3), (.int (oN (n1 + 29 + n2 + 39))), (.ref x133)])) rfl (by rw [hml]; rfl) (argsL := [(.ref x133), (.int (oN (n1 + 29 + n2 + 39))), (.int p3), (.int (oN n3))]) (rest := []) (lenOf pd_39 rfl) rfl (oWt rfl) (D at_161) (fun _ _ => ⟨rfl, Eq190, oLe rfl, oLe rfl⟩)
 dsimp only [Pt.U, Pt.locs, Pt.cells, Pt.slots] at X193 l193 y193 z193 st193 hQ193
 subst l193 y193 z193
 obtain ⟨rfl, Nq193, Eq193⟩ := hQ193
 have N194 := Fr.app Nh192 Nq193
 obtain ⟨Lh195, Xh195, Nh195⟩ := oHd 55 3498 X193 N194 rfl rfl
 refine ownBy st193 ?_
 clear st193
 show oA p e below _ T193 (fr_law m p1 p2 p3 p4 164 (.val (.int (oN n1))) (.val (.int (oN n2))) (.val (.int (oN n3))) (vR x21) (vR x29) (vR x37) (vI 1) (vR x133) (.val (.int (oN (n1 + 29)))) (.val (.int (oN (n1 + 29 + n2)))) (.val (.int (oN (n1 + 29 + n2 + 39)))) (.val (.int (oN (n1 + 29 + n2 + 39 + n3)))) [(iV 1)])
 refine oTo T193 (fr_law m p1 p2 p3 p4 171 (.val (.int (oN n1))) (.val (.int (oN n2))) (.val (.int (oN n3))) (vR x21) (vR x29) (vR x37) (vI 1) (vR x133) (.val (.int (oN (n1 + 29)))) (.val (.int (oN (n1 + 29 + n2)))) (.val (.int (oN (n1 + 29 + n2 + 39)))) (.val (.int (oN (n1 + 29 + n2 + 39 + n3)))) [(.int (oN n1)), (.ref x133)]) (fun t kt => ?_) ?_
 ·refine XS.ifNo Xh195.here hx rfl (D at_164) rfl ((if0 _ _).trans (feq ((by decide) : ¬ ((1 : Int32) = (0 : Int32)))).1) ?_
  refine XS.aload Xh195.here hx rfl (D at_167) rfl rfl ?_
  refine XS.iload Xh195.here hx rfl (D at_169) rfl ?_
  exact kt
 obtain ⟨cq196, kq196, q196a, q196b, q196c⟩ := isOf hZ180 Eq193 Eq133
 obtain ⟨vv196, _, ⟨T196, L196, k196, n196⟩, -, X196, ⟨Lc196, hQ196, l196, y196, z196⟩, st196⟩ := Xh195.virtualBack hx (y := yM6) (z := yM6) hown180 (mvT hZ180 (Wd201 hw)) (mvT hZ180 (Wd202 hw)) (oNf hZ180 (Wd204 hw)) (mvT hZ180 (Wd204 hw)) (mvT hZ180 (Wd203 hw)) (by decide) (backOf (W := 0) (c_chat l Z a0 hw [] x133 t133 kb133 (oN (0 + n1 + 29 + n2 + (39 + n3 + 23))) ((((([] : List Value) ++ us21) ++ C1L) ++ us29) ++ ((C2L ++ us37) ++ C3L)) (oN n1) (32 : Int32) G1 G3 T133.heap n0 f183 Eq133 Vq133 Cq133 Aq133 (oClN (by omega) (by omega) ((rl1 (i := 0) hD21.1 hD29.1 _ (by omega)).trans rfl) (by decide)) O2 P5 O4 rG3 f182) hZ180 (Wd205 hw) (Wd6 hw) (by decide) (by decide)) q196a q196c (g := (fr_law m p1 p2 p3 p4 171 (.val (.int (oN n1))) (.val (.int (oN n2))) (.val (.int (oN n3))) (vR x21) (vR x29) (vR x37) (vI 1) (vR x133) (.val (.int (oN (n1 + 29)))) (.val (.int (oN (n1 + 29 + n2)))) (.val (.int (oN (n1 + 29 + n2 + 39)))) (.val (.int (oN (n1 + 29 + n2 + 39 + n3)))) [(.int (oN n1)), (.ref x133)])) rfl (by rw [hml]; rfl) (Steps.refl _) (argsL := [(.int (oN n1))]) (rest := []) (lenOf pd_30 rfl) rfl (oWt rfl) (D at_171) (fun _ _ => ⟨rfl, Eq193, oLe rfl, oLe rfl⟩)
 dsimp only [Pt.U, Pt.locs, Pt.cells, Pt.slots] at X196 l196 y196 z196 st196 hQ196
 subst l196 y196 z196
 obtain ⟨rfl, Nq196, Eq196⟩ := hQ196
 have N197 := Fr.app Nh195 Nq196
 obtain ⟨Lh198, Xh198, Nh198⟩ := oHd 55 3498 X196 N197 rfl rfl
 refine ownSt st196 ?_
 clear st196
 show oA p e below _ T196 (fr_law m p1 p2 p3 p4 174 (.val (.int (oN n1))) (.val (.int (oN n2))) (.val (.int (oN n3))) (vR x21) (vR x29) (vR x37) (vI 1) (vR x133) (.val (.int (oN (n1 + 29)))) (.val (.int (oN (n1 + 29 + n2)))) (.val (.int (oN (n1 + 29 + n2 + 39)))) (.val (.int (oN (n1 + 29 + n2 + 39 + n3)))) [(iV 32)])
 refine oTo T196 (fr_law m p1 p2 p3 p4 185 (.val (.int (oN n1))) (.val (.int (oN n2))) (.val (.int (oN n3))) (vR x21) (vR x29) (vR x37) (vI 1) (vR x133) (.val (.int (oN (n1 + 29)))) (.val (.int (oN (n1 + 29 + n2)))) (.val (.int (oN (n1 + 29 + n2 + 39)))) (.val (.int (oN (n1 + 29 + n2 + 39 + n3)))) [(.int ((oN n1) + (1 : Int32))), (.ref x133)]) (fun t kt => ?_) ?_
 ·refine XS.bipush Xh198.here hx rfl (D at_174) ?_
  refine XS.icmpNo Xh198.here hx rfl (D at_176) rfl (teq ((by decide) : (32 : Int32) = (32 : Int32))).2 ?_
  refine XS.aload Xh198.here hx rfl (D at_179) rfl rfl ?_
  refine XS.iload Xh198.here hx rfl (D at_181) rfl ?_
  refine XS.iconst Xh198.here hx rfl (D at_183) ?_
  refine XS.iadd Xh198.here hx rfl (D at_184) rfl ?_
  exact kt
 obtain ⟨cq199, kq199, q199a, q199b, q199c⟩ := isOf hZ180 Eq196 Eq133
 obtain ⟨vv199, _, ⟨T199, L199, k199, n199⟩, -, X199, ⟨Lc199, hQ199, l199, y199, z199⟩, st199⟩ := Xh198.virtualBack hx (y := yM6) (z := yM6) hown180 (mvT hZ180 (Wd201 hw)) (mvT hZ180 (Wd202 hw)) (oNf hZ180 (Wd204 hw)) (mvT hZ180 (Wd204 hw)) (mvT hZ180 (Wd203 hw)) (by decide) (backOf (W := 0) (c_chat l Z a0 hw [] x133 t133 kb133 (oN (0 + n1 + 29 + n2 + (39 + n3 + 23))) ((((([] : List Value) ++ us21) ++ C1L) ++ us29) ++ ((C2L ++ us37) ++ C3L)) ((oN n1) + (1 : Int32)) (99 : Int32) G1 G3 T133.heap n0 f183 Eq133 Vq133 Cq133 Aq133 (oClA (b := 1) (oClN (by omega) (by omega) ((rl1 (i := 1) hD21.1 hD29.1 _ (by omega)).trans rfl) (by decide))) O2 P5 O4 rG3 f182) hZ180 (Wd205 hw) (Wd6 hw) (by decide) (by decide)) q199a q199c (g := (fr_law m p1 p2 p3 p4 185 (.val (.int (oN n1))) (.val (.int (oN n2))) (.val (.int (oN n3))) (vR x21) (vR x29) (vR x37) (vI 1) (vR x133) (.val (.int (oN (n1 + 29)))) (.val (.int (oN (n1 + 29 + n2)))) (.val (.int (oN (n1 + 29 + n2 + 39)))) (.val (.int (oN (n1 + 29 + n2 + 39 + n3)))) [(.int ((oN n1) + (1 : Int32))), (.ref x133)])) rfl (by rw [hml]; rfl) (Steps.refl _) (argsL := [(.int ((oN n1) + (1 : Int32)))]) (rest := []) (lenOf pd_30 rfl) rfl (oWt rfl) (D at_185) (fun _ _ => ⟨rfl, Eq196, oLe rfl, oLe rfl⟩)
 dsimp only [Pt.U, Pt.locs, Pt.cells, Pt.slots] at X199 l199 y199 z199 st199 hQ199
 subst l199 y199 z199
 obtain ⟨rfl, Nq199, Eq199⟩ := hQ199
 have N200 := Fr.app Nh198 Nq199
 obtain ⟨Lh201, Xh201, Nh201⟩ := oHd 55 3498 X199 N200 rfl rfl
 refine ownSt st199 ?_
 clear st199
 show oA p e below _ T199 (fr_law m p1 p2 p3 p4 188 (.val (.int (oN n1))) (.val (.int (oN n2))) (.val (.int (oN n3))) (vR x21) (vR x29) (vR x37) (vI 1) (vR x133) (.val (.int (oN (n1 + 29)))) (.val (.int (oN (n1 + 29 + n2)))) (.val (.int (oN (n1 + 29 + n2 + 39)))) (.val (.int (oN (n1 + 29 + n2 + 39 + n3)))) [(iV 99)])
 refine oTo T199 (fr_law m p1 p2 p3 p4 199 (.val (.int (oN n1))) (.val (.int (oN n2))) (.val (.int (oN n3))) (vR x21) (vR x29) (vR x37) (vI 1) (vR x133) (.val (.int (oN (n1 + 29)))) (.val (.int (oN (n1 + 29 + n2)))) (.val (.int (oN (n1 + 29 + n2 + 39)))) (.val (.int (oN (n1 + 29 + n2 + 39 + n3)))) [(.int ((oN (n1 + 29)) - (2 : Int32))), (.ref x133)]) (fun t kt => ?_) ?_
 ·refine XS.bipush Xh201.here hx rfl (D at_188) ?_
  refine XS.icmpNo Xh201.here hx rfl (D at_190) rfl (teq ((by decide) : (99 : Int32) = (99 : Int32))).2 ?_
  refine XS.aload Xh201.here hx rfl (D at_193) rfl rfl ?_
  refine XS.iload Xh201.here hx rfl (D at_195) rfl ?_
  refine XS.iconst Xh201.here hx rfl (D at_197) ?_
  refine XS.isub Xh201.here hx rfl (D at_198) rfl ?_
  exact kt
 obtain ⟨cq202, kq202, q202a, q202b, q202c⟩ := isOf hZ180 Eq199 Eq133
 obtain ⟨vv202, _, ⟨T202, L202, k202, n202⟩, -, X202, ⟨Lc202, hQ202, l202, y202, z202⟩, st202⟩ := Xh201.virtualBack hx (y := yM6) (z := yM6) hown180 (mvT hZ180 (Wd201 hw)) (mvT hZ180 (Wd202 hw)) (oNf hZ180 (Wd204 hw)) (mvT hZ180 (Wd204 hw)) (mvT hZ180 (Wd203 hw)) (by decide) (backOf (W := 0) (c_chat l Z a0 hw [] x133 t133 kb133 (oN (0 + n1 + 29 + n2 + (39 + n3 + 23))) ((((([] : List Value) ++ us21) ++ C1L) ++ us29) ++ ((C2L ++ us37) ++ C3L)) ((oN (n1 + 29)) - (2 : Int32)) (100 : Int32) G1 G3 T133.heap n0 f183 Eq133 Vq133 Cq133 Aq133 (oClS (b := 2) (by omega) (by omega) (show Chl _ _ (oN (n1 + 27)) _ from (oClN (by omega) (by omega) ((rl1 (i := 27) hD21.1 hD29.1 _ (by omega)).trans rfl) (by decide)))) O2 P5 O4 rG3 f182) hZ180 (Wd205 hw) (Wd6 hw) (by decide) (by decide)) q202a q202c (g := (fr_law m p1 p2 p3 p4 199 (.val (.int (oN n1))) (.val (.int (oN n2))) (.val (.int (oN n3))) (vR x21) (vR x29) (vR x37) (vI 1) (vR x133) (.val (.int (oN (n1 + 29)))) (.val (.int (oN (n1 + 29 + n2)))) (.val (.int (oN (n1 + 29 + n2 + 39)))) (.val (.int (oN (n1 + 29 + n2 + 39 + n3)))) [(.int ((oN (n1 + 29)) - (2 : Int32))), (.ref x133)])) rfl (by rw [hml]; rfl) (Steps.refl _) (argsL := [(.int ((oN (n1 + 29)) - (2 : Int32)))]) (rest := []) (lenOf pd_30 rfl) rfl (oWt rfl) (D at_199) (fun _ _ => ⟨rfl, Eq199, oLe rfl, oLe rfl⟩)
 dsimp only [Pt.U, Pt.locs, Pt.cells, Pt.slots] at X202 l202 y202 z202 st202 hQ202
 subst l202 y202 z202
 obtain ⟨rfl, Nq202, Eq202⟩ := hQ202
 have N203 := Fr.app Nh201 Nq202
 obtain ⟨Lh204, Xh204, Nh204⟩ := oHd 55 3498 X202 N203 rfl rfl
 refine ownSt st202 ?_
 clear st202
 show oA p e below _ T202 (fr_law m p1 p2 p3 p4 202 (.val (.int (oN n1))) (.val (.int (oN n2))) (.val (.int (oN n3))) (vR x21) (vR x29) (vR x37) (vI 1) (vR x133) (.val (.int (oN (n1 + 29)))) (.val (.int (oN (n1 + 29 + n2)))) (.val (.int (oN (n1 + 29 + n2 + 39)))) (.val (.int (oN (n1 + 29 + n2 + 39 + n3)))) [(iV 100)])
 refine oTo T202 (fr_law m p1 p2 p3 p4 213 (.val (.int (oN n1))) (.val (.int (oN n2))) (.val (.int (oN n3))) (vR x21) (vR x29) (vR x37) (vI 1) (vR x133) (.val (.int (oN (n1 + 29)))) (.val (.int (oN (n1 + 29 + n2)))) (.val (.int (oN (n1 + 29 + n2 + 39)))) (.val (.int (oN (n1 + 29 + n2 + 39 + n3)))) [(.int ((oN (n1 + 29)) - (1 : Int32))), (.ref x133)]) (fun t kt => ?_) ?_
 ·refine XS.bipush Xh204.here hx rfl (D at_202) ?_
  refine XS.icmpNo Xh204.here hx rfl (D at_204) rfl (teq ((by decide) : (100 : Int32) = (100 : Int32))).2 ?_
  refine XS.aload Xh204.here hx rfl (D at_207) rfl rfl ?_
  refine XS.iload Xh204.here hx rfl (D at_209) rfl ?_
  refine XS.iconst Xh204.here hx rfl (D at_211) ?_
  refine XS.isub Xh204.here hx rfl (D at_212) rfl ?_
  exact kt
 obtain ⟨cq205, kq205, q205a, q205b, q205c⟩ := isOf hZ180 Eq202 Eq133
 obtain ⟨vv205, _, ⟨T205, L205, k205, n205⟩, -, X205, ⟨Lc205, hQ205, l205, y205, z205⟩, st205⟩ := Xh204.virtualBack hx (y := yM6) (z := yM6) hown180 (mvT hZ180 (Wd201 hw)) (mvT hZ180 (Wd202 hw)) (oNf hZ180 (Wd204 hw)) (mvT hZ180 (Wd204 hw)) (mvT hZ180 (Wd203 hw)) (by decide) (backOf (W := 0) (c_chat l Z a0 hw [] x133 t133 kb133 (oN (0 + n1 + 29 + n2 + (39 + n3 + 23))) ((((([] : List Value) ++ us21) ++ C1L) ++ us29) ++ ((C2L ++ us37) ++ C3L)) ((oN (n1 + 29)) - (1 : Int32)) (32 : Int32) G1 G3 T133.heap n0 f183 Eq133 Vq133 Cq133 Aq133 (oClS (b := 1) (by omega) (by omega) (show Chl _ _ (oN (n1 + 28)) _ from (oClN (by omega) (by omega) ((rl1 (i := 28) hD21.1 hD29.1 _ (by omega)).trans rfl) (by decide)))) O2 P5 O4 rG3 f182) hZ180 (Wd205 hw) (Wd6 hw) (by decide) (by decide)) q205a q205c (g := (fr_law m p1 p2 p3 p4 213 (.val (.int (oN n1))) (.val (.int (oN n2))) (.val (.int (oN n3))) (vR x21) (vR x29) (vR x37) (vI 1) (vR x133) (.val (.int (oN (n1 + 29)))) (.val (.int (oN (n1 + 29 + n2)))) (.val (.int (oN (n1 + 29 + n2 + 39)))) (.val (.int (oN (n1 + 29 + n2 + 39 + n3)))) [(.int ((oN (n1 + 29)) - (1 : Int32))), (.ref x133)])) rfl (by rw [hml]; rfl) (Steps.refl _) (argsL := [(.int ((oN (n1 + 29)) - (1 : Int32)))]) (rest := []) (lenOf pd_30 rfl) rfl (oWt rfl) (D at_213) (fun _ _ => ⟨rfl, Eq202, oLe rfl, oLe rfl⟩)
 dsimp only [Pt.U, Pt.locs, Pt.cells, Pt.slots] at X205 l205 y205 z205 st205 hQ205
 subst l205 y205 z205
 obtain ⟨rfl, Nq205, Eq205⟩ := hQ205
 have N206 := Fr.app Nh204 Nq205
 obtain ⟨Lh207, Xh207, Nh207⟩ := oHd 55 3498 X205 N206 rfl rfl
 refine ownSt st205 ?_
 clear st205
 show oA p e below _ T205 (fr_law m p1 p2 p3 p4 216 (.val (.int (oN n1))) (.val (.int (oN n2))) (.val (.int (oN n3))) (vR x21) (vR x29) (vR x37) (vI 1) (vR x133) (.val (.int (oN (n1 + 29)))) (.val (.int (oN (n1 + 29 + n2)))) (.val (.int (oN (n1 + 29 + n2 + 39)))) (.val (.int (oN (n1 + 29 + n2 + 39 + n3)))) [(iV 32)])
 refine oTo T205 (fr_law m p1 p2 p3 p4 225 (.val (.int (oN n1))) (.val (.int (oN n2))) (.val (.int (oN n3))) (vR x21) (vR x29) (vR x37) (vI 1) (vR x133) (.val (.int (oN (n1 + 29)))) (.val (.int (oN (n1 + 29 + n2)))) (.val (.int (oN (n1 + 29 + n2 + 39)))) (.val (.int (oN (n1 + 29 + n2 + 39 + n3)))) [(.int (oN (n1 + 29 + n2))), (.ref x133)]) (fun t kt => ?_) ?_
 ·refine XS.bipush Xh207.here hx rfl (D at_216) ?_
  refine XS.icmpNo Xh207.here hx rfl (D at_218) rfl (teq ((by decide) : (32 : Int32) = (32 : Int32))).2 ?_
  refine XS.aload Xh207.here hx rfl (D at_221) rfl rfl ?_
  refine XS.iload Xh207.here hx rfl (D at_223) rfl ?_
  exact kt
 obtain ⟨cq208, kq208, q208a, q208b, q208c⟩ := isOf hZ180 Eq205 Eq133
 obtain ⟨vv208, _, ⟨T208, L208, k208, n208⟩, -, X208, ⟨Lc208, hQ208, l208, y208, z208⟩, st208⟩ := Xh207.virtualBack hx (y := yM6) (z := yM6) hown180 (mvT hZ180 (Wd201 hw)) (mvT hZ180 (Wd202 hw)) (oNf hZ180 (Wd204 hw)) (mvT hZ180 (Wd204 hw)) (mvT hZ180 (Wd203 hw)) (by decide) (backOf (W := 0) (c_chat l Z a0 hw [] x133 t133 kb133 (oN (0 + n1 + 29 + n2 + (39 + n3 + 23))) ((((([] : List Value) ++ us21) ++ C1L) ++ us29) ++ ((C2L ++ us37) ++ C3L)) (oN (n1 + 29 + n2)) (44 : Int32) G1 G3 T133.heap n0 f183 Eq133 Vq133 Cq133 Aq133 (oClN (by omega) (by omega) ((rl3 (i := 0) hD21.1 hD29.1 hD37.1 _ (by omega)).trans rfl) (by decide)) O2 P5 O4 rG3 f182) hZ180 (Wd205 hw) (Wd6 hw) (by decide) (by decide)) q208a q208c (g := (fr_law m p1 p2 p3 p4 225 (.val (.int (oN n1))) (.val (.int (oN n2))) (.val (.int (oN n3))) (vR x21) (vR x29) (vR x37) (vI 1) (vR x133) (.val (.int (oN (n1 + 29)))) (.val (.int (oN (n1 + 29 + n2)))) (.val (.int (oN (n1 + 29 + n2 + 39)))) (.val (.int (oN (n1 + 29 + n2 + 39 + n3)))) [(.int (oN (n1 + 29 + n2))), (.ref x133)])) rfl (by rw [hml]; rfl) (Steps.refl _) (argsL := [(.int (oN (n1 + 29 + n2)))]) (rest := []) (lenOf pd_30 rfl) rfl (oWt rfl) (D at_225) (fun _ _ => ⟨rfl, Eq205, oLe rfl, oLe rfl⟩)
 dsimp only [Pt.U, Pt.locs, Pt.cells, Pt.slots] at X208 l208 y208 z208 st208 hQ208
 subst l208 y208 z208
 obtain ⟨rfl, Nq208, Eq208⟩ := hQ208
 have N209 := Fr.app Nh207 Nq208
 obtain ⟨Lh210, Xh210, Nh210⟩ := oHd 55 3498 X208 N209 rfl rfl
 refine ownSt st208 ?_
 clear st208
 show oA p e below _ T208 (fr_law m p1 p2 p3 p4 228 (.val (.int (oN n1))) (.val (.int (oN n2))) (.val (.int (oN n3))) (vR x21) (vR x29) (vR x37) (vI 1) (vR x133) (.val (.int (oN (n1 + 29)))) (.val (.int (oN (n1 + 29 + n2)))) (.val (.int (oN (n1 + 29 + n2 + 39)))) (.val (.int (oN (n1 + 29 + n2 + 39 + n3)))) [(iV 44)])
 refine oTo T208 (fr_law m p1 p2 p3 p4 239 (.val (.int (oN n1))) (.val (.int (oN n2))) (.val (.int (oN n3))) (vR x21) (vR x29) (vR x37) (vI 1) (vR x133) (.val (.int (oN (n1 + 29)))) (.val (.int (oN (n1 + 29 + n2)))) (.val (.int (oN (n1 + 29 + n2 + 39)))) (.val (.int (oN (n1 + 29 + n2 + 39 + n3)))) [(.int ((oN (n1 + 29 + n2)) + (1 : Int32))), (.ref x133)]) (fun t kt => ?_) ?_
 ·refine XS.bipush Xh210.here hx rfl (D at_228) ?_
  refine XS.icmpNo Xh210.here hx rfl (D at_230) rfl (teq ((by decide) : (44 : Int32) = (44 : Int32))).2 ?_
  refine XS.aload Xh210.here hx rfl (D at_233) rfl rfl ?_
  refine XS.iload Xh210.here hx rfl (D at_235) rfl ?_
  refine XS.iconst Xh210.here hx rfl (D at_237) ?_
  refine XS.iadd Xh210.here hx rfl (D at_238) rfl ?_
  exact kt
 obtain ⟨cq211, kq211, q211a, q211b, q211c⟩ := isOf hZ180 Eq208 Eq133
 obtain ⟨vv211, _, ⟨T211, L211, k211, n211⟩, -, X211, ⟨Lc211, hQ211, l211, y211, z211⟩, st211⟩ := Xh210.virtualBack hx (y := yM6) (z := yM6) hown180 (mvT hZ180 (Wd201 hw)) (mvT hZ180 (Wd202 hw)) (oNf hZ180 (Wd204 hw)) (mvT hZ180 (Wd204 hw)) (mvT hZ180 (Wd203 hw)) (by decide) (backOf (W := 0) (c_chat l Z a0 hw [] x133 t133 kb133 (oN (0 + n1 + 29 + n2 + (39 + n3 + 23))) ((((([] : List Value) ++ us21) ++ C1L) ++ us29) ++ ((C2L ++ us37) ++ C3L)) ((oN (n1 + 29 + n2)) + (1 : Int32)) (32 : Int32) G1 G3 T133.heap n0 f183 Eq133 Vq133 Cq133 Aq133 (oClA (b := 1) (oClN (by omega) (by omega) ((rl3 (i := 1) hD21.1 hD29.1 hD37.1 _ (by omega)).trans rfl) (by decide))) O2 P5 O4 rG3 f182) hZ180 (Wd205 hw) (Wd6 hw) (by decide) (by decide)) q211a q211c (g := (fr_law m p1 p2 p3 p4 239 (.val (.int (oN n1))) (.val (.int (oN n2))) (.val (.int (oN n3))) (vR x21) (vR x29) (vR x37) (vI 1) (vR x133) (.val (.int (oN (n1 + 29)))) (.val (.int (oN (n1 + 29 + n2)))) (.val (.int (oN (n1 + 29 + n2 + 39)))) (.val (.int (oN (n1 + 29 + n2 + 39 + n3)))) [(.int ((oN (n1 + 29 + n2)) + (1 : Int32))), (.ref x133)])) rfl (by rw [hml]; rfl) (Steps.refl _) (argsL := [(.int ((oN (n1 + 29 + n2)) + (1 : Int32)))]) (rest := []) (lenOf pd_30 rfl) rfl (oWt rfl) (D at_239) (fun _ _ => ⟨rfl, Eq208, oLe rfl, oLe rfl⟩)
 dsimp only [Pt.U, Pt.locs, Pt.cells, Pt.slots] at X211 l211 y211 z211 st211 hQ211
 subst l211 y211 z211
 obtain ⟨rfl, Nq211, Eq211⟩ := hQ211
 have N212 := Fr.app Nh210 Nq211
 obtain ⟨Lh213, Xh213, Nh213⟩ := oHd 55 3498 X211 N212 rfl rfl
 refine ownSt st211 ?_
 clear st211
 show oA p e below _ T211 (fr_law m p1 p2 p3 p4 242 (.val (.int (oN n1))) (.val (.int (oN n2))) (.val (.int (oN n3))) (vR x21) (vR x29) (vR x37) (vI 1) (vR x133) (.val (.int (oN (n1 + 29)))) (.val (.int (oN (n1 + 29 + n2)))) (.val (.int (oN (n1 + 29 + n2 + 39)))) (.val (.int (oN (n1 + 29 + n2 + 39 + n3)))) [(iV 32)])
 refine oTo T211 (fr_law m p1 p2 p3 p4 253 (.val (.int (oN n1))) (.val (.int (oN n2))) (.val (.int (oN n3))) (vR x21) (vR x29) (vR x37) (vI 1) (vR x133) (.val (.int (oN (n1 + 29)))) (.val (.int (oN (n1 + 29 + n2)))) (.val (.int (oN (n1 + 29 + n2 + 39)))) (.val (.int (oN (n1 + 29 + n2 + 39 + n3)))) [(.int ((oN (n1 + 29 + n2 + 39)) - (2 : Int32))), (.ref x133)]) (fun t kt => ?_) ?_
 ·refine XS.bipush Xh213.here hx rfl (D at_242) ?_
  refine XS.icmpNo Xh213.here hx rfl (D at_244) rfl (teq ((by decide) : (32 : Int32) = (32 : Int32))).2 ?_
  refine XS.aload Xh213.here hx rfl (D at_247) rfl rfl ?_
  refine XS.iload Xh213.here hx rfl (D at_249) rfl ?_
  refine XS.iconst Xh213.here hx rfl (D at_251) ?_
  refine XS.isub Xh213.here hx rfl (D at_252) rfl ?_
  exact kt
 obtain ⟨cq214, kq214, q214a, q214b, q214c⟩ := isOf hZ180 Eq211 Eq133
 obtain ⟨vv214, _, ⟨T214, L214, k214, n214⟩, -, X214, ⟨Lc214, hQ214, l214, y214, z214⟩, st214⟩ := Xh213.virtualBack hx (y := yM6) (z := yM6) hown180 (mvT hZ180 (Wd201 hw)) (mvT hZ180 (Wd202 hw)) (oNf hZ180 (Wd204 hw)) (mvT hZ180 (Wd204 hw)) (mvT hZ180 (Wd203 hw)) (by decide) (backOf (W := 0) (c_chat l Z a0 hw [] x133 t133 kb133 (oN (0 + n1 + 29 + n2 + (39 + n3 + 23))) ((((([] : List Value) ++ us21) ++ C1L) ++ us29) ++ ((C2L ++ us37) ++ C3L)) ((oN (n1 + 29 + n2 + 39)) - (2 : Int32)) (59 : Int32) G1 G3 T133.heap n0 f183 Eq133 Vq133 Cq133 Aq133 (oClS (b := 2) (by omega) (by omega) (show Chl _ _ (oN (n1 + 29 + n2 + 37)) _ from (oClN (by omega) (by omega) ((rl3 (i := 37) hD21.1 hD29.1 hD37.1 _ (by omega)).trans rfl) (by decide)))) O2 P5 O4 rG3 f182) hZ180 (Wd205 hw) (Wd6 hw) (by decide) (by decide)) q214a q214c (g := (fr_law m p1 p2 p3 p4 253 (.val (.int (oN n1))) (.val (.int (oN n2))) (.val (.int (oN n3))) (vR x21) (vR x29) (vR x37) (vI 1) (vR x133) (.val (.int (oN (n1 + 29)))) (.val (.int (oN (n1 + 29 + n2)))) (.val (.int (oN (n1 + 29 + n2 + 39)))) (.val (.int (oN (n1 + 29 + n2 + 39 + n3)))) [(.int ((oN (n1 + 29 + n2 + 39)) - (2 : Int32))), (.ref x133)])) rfl (by rw [hml]; rfl) (Steps.refl _) (argsL := [(.int ((oN (n1 + 29 + n2 + 39)) - (2 : Int32)))]) (rest := []) (lenOf pd_30 rfl) rfl (oWt rfl) (D at_253) (fun _ _ => ⟨rfl, Eq211, oLe rfl, oLe rfl⟩)
 dsimp only [Pt.U, Pt.locs, Pt.cells, Pt.slots] at X214 l214 y214 z214 st214 hQ214
 subst l214 y214 z214
 obtain ⟨rfl, Nq214, Eq214⟩ := hQ214
 have N215 := Fr.app Nh213 Nq214
 obtain ⟨Lh216, Xh216, Nh216⟩ := oHd 55 3498 X214 N215 rfl rfl
 refine ownSt st214 ?_
 clear st214
 show oA p e below _ T214 (fr_law m p1 p2 p3 p4 256 (.val (.int (oN n1))) (.val (.int (oN n2))) (.val (.int (oN n3))) (vR x21) (vR x29) (vR x37) (vI 1) (vR x133) (.val (.int (oN (n1 + 29)))) (.val (.int (oN (n1 + 29 + n2)))) (.val (.int (oN (n1 + 29 + n2 + 39)))) (.val (.int (oN (n1 + 29 + n2 + 39 + n3)))) [(iV 59)])
 refine oTo T214 (fr_law m p1 p2 p3 p4 267 (.val (.int (oN n1))) (.val (.int (oN n2))) (.val (.int (oN n3))) (vR x21) (vR x29) (vR x37) (vI 1) (vR x133) (.val (.int (oN (n1 + 29)))) (.val (.int (oN (n1 + 29 + n2)))) (.val (.int (oN (n1 + 29 + n2 + 39)))) (.val (.int (oN (n1 + 29 + n2 + 39 + n3)))) [(.int ((oN (n1 + 29 + n2 + 39)) - (1 : Int32))), (.ref x133)]) (fun t kt => ?_) ?_
 ·refine XS.bipush Xh216.here hx rfl (D at_256) ?_
  refine XS.icmpNo Xh216.here hx rfl (D at_258) rfl (teq ((by decide) : (59 : Int32) = (59 : Int32))).2 ?_
  refine XS.aload Xh216.here hx rfl (D at_261) rfl rfl ?_
  refine XS.iload Xh216.here hx rfl (D at_263) rfl ?_
  refine XS.iconst Xh216.here hx rfl (D at_265) ?_
  refine XS.isub Xh216.here hx rfl (D at_266) rfl ?_
  exact kt
 obtain ⟨cq217, kq217, q217a, q217b, q217c⟩ := isOf hZ180 Eq214 Eq133
 obtain ⟨vv217, _, ⟨T217, L217, k217, n217⟩, -, X217, ⟨Lc217, hQ217, l217, y217, z217⟩, st217⟩ := Xh216.virtualBack hx (y := yM6) (z := yM6) hown180 (mvT hZ180 (Wd201 hw)) (mvT hZ180 (Wd202 hw)) (oNf hZ180 (Wd204 hw)) (mvT hZ180 (Wd204 hw)) (mvT hZ180 (Wd203 hw)) (by decide) (backOf (W := 0) (c_chat l Z a0 hw [] x133 t133 kb133 (oN (0 + n1 + 29 + n2 + (39 + n3 + 23))) ((((([] : List Value) ++ us21) ++ C1L) ++ us29) ++ ((C2L ++ us37) ++ C3L)) ((oN (n1 + 29 + n2 + 39)) - (1 : Int32)) (32 : Int32) G1 G3 T133.heap n0 f183 Eq133 Vq133 Cq133 Aq133 (oClS (b := 1) (by omega) (by omega) (show Chl _ _ (oN (n1 + 29 + n2 + 38)) _ from (oClN (by omega) (by omega) ((rl3 (i := 38) hD21.1 hD29.1 hD37.1 _ (by omega)).trans rfl) (by decide)))) O2 P5 O4 rG3 f182) hZ180 (Wd205 hw) (Wd6 hw) (by decide) (by decide)) q217a q217c (g := (fr_law m p1 p2 p3 p4 267 (.val (.int (oN n1))) (.val (.int (oN n2))) (.val (.int (oN n3))) (vR x21) (vR x29) (vR x37) (vI 1) (vR x133) (.val (.int (oN (n1 + 29)))) (.val (.int (oN (n1 + 29 + n2)))) (.val (.int (oN (n1 + 29 + n2 + 39)))) (.val (.int (oN (n1 + 29 + n2 + 39 + n3)))) [(.int ((oN (n1 + 29 + n2 + 39)) - (1 : Int32))), (.ref x133)])) rfl (by rw [hml]; rfl) (Steps.refl _) (argsL := [(.int ((oN (n1 + 29 + n2 + 39)) - (1 : Int32)))]) (rest := []) (lenOf pd_30 rfl) rfl (oWt rfl) (D at_267) (fun _ _ => ⟨rfl, Eq214, oLe rfl, oLe rfl⟩)
 dsimp only [Pt.U, Pt.locs, Pt.cells, Pt.slots] at X217 l217 y217 z217 st217 hQ217
 subst l217 y217 z217
 obtain ⟨rfl, Nq217, Eq217⟩ := hQ217
 have N218 := Fr.app Nh216 Nq217
 obtain ⟨Lh219, Xh219, Nh219⟩ := oHd 55 3498 X217 N218 rfl rfl
 refine ownSt st217 ?_
 clear st217
 show oA p e below _ T217 (fr_law m p1 p2 p3 p4 270 (.val (.int (oN n1))) (.val (.int (oN n2))) (.val (.int (oN n3))) (vR x21) (vR x29) (vR x37) (vI 1) (vR x133) (.val (.int (oN (n1 + 29)))) (.val (.int (oN (n1 + 29 + n2)))) (.val (.int (oN (n1 + 29 + n2 + 39)))) (.val (.int (oN (n1 + 29 + n2 + 39 + n3)))) [(iV 32)])
 refine oTo T217 (fr_law m p1 p2 p3 p4 279 (.val (.int (oN n1))) (.val (.int (oN n2))) (.val (.int (oN n3))) (vR x21) (vR x29) (vR x37) (vI 1) (vR x133) (.val (.int (oN (n1 + 29)))) (.val (.int (oN (n1 + 29 + n2)))) (.val (.int (oN (n1 + 29 + n2 + 39)))) (.val (.int (oN (n1 + 29 + n2 + 39 + n3)))) [(.int (oN (n1 + 29 + n2 + 39 + n3))), (.ref x133)]) (fun t kt => ?_) ?_
 ·refine XS.bipush Xh219.here hx rfl (D at_270) ?_
  refine XS.icmpNo Xh219.here hx rfl (D at_272) rfl (teq ((by decide) : (32 : Int32) = (32 : Int32))).2 ?_
  refine XS.aload Xh219.here hx rfl (D at_275) rfl rfl ?_
  refine XS.iload Xh219.here hx rfl (D at_277) rfl ?_
  exact kt
 obtain ⟨cq220, kq220, q220a, q220b, q220c⟩ := isOf hZ180 Eq217 Eq133
 obtain ⟨vv220, _, ⟨T220, L220, k220, n220⟩, -, X220, ⟨Lc220, hQ220, l220, y220, z220⟩, st220⟩ := Xh219.virtualBack hx (y := yM6) (z := yM6) hown180 (mvT hZ180 (Wd201 hw)) (mvT hZ180 (Wd202 hw)) (oNf hZ180 (Wd204 hw)) (mvT hZ180 (Wd204 hw)) (mvT hZ180 (Wd203 hw)) (by decide) (backOf (W := 0) (c_chat l Z a0 hw [] x133 t133 kb133 (oN (0 + n1 + 29 + n2 + (39 + n3 + 23))) ((((([] : List Value) ++ us21) ++ C1L) ++ us29) ++ ((C2L ++ us37) ++ C3L)) (oN (n1 + 29 + n2 + 39 + n3)) (116 : Int32) G1 G3 T133.heap n0 f183 Eq133 Vq133 Cq133 Aq133 (oClN (by omega) (by omega) ((rl5 (i := 0) hD21.1 hD29.1 hD37.1 _ (by omega)).trans rfl) (by decide)) O2 P5 O4 rG3 f182) hZ180 (Wd205 hw) (Wd6 hw) (by decide) (by decide)) q220a q220c (g := (fr_law m p1 p2 p3 p4 279 (.val (.int (oN n1))) (.val (.int (oN n2))) (.val (.int (oN n3))) (vR x21) (vR x29) (vR x37) (vI 1) (vR x133) (.val (.int (oN (n1 + 29)))) (.val (.int (oN (n1 + 29 + n2)))) (.val (.int (oN (n1 + 29 + n2 + 39)))) (.val (.int (oN (n1 + 29 + n2 + 39 + n3)))) [(.int (oN (n1 + 29 + n2 + 39 + n3))), (.ref x133)])) rfl (by rw [hml]; rfl) (Steps.refl _) (argsL := [(.int (oN (n1 + 29 + n2 + 39 + n3)))]) (rest := []) (lenOf pd_30 rfl) rfl (oWt rfl) (D at_279) (fun _ _ => ⟨rfl, Eq217, oLe rfl, oLe rfl⟩)
 dsimp only [Pt.U, Pt.locs, Pt.cells, Pt.slots] at X220 l220 y220 z220 st220 hQ220
 subst l220 y220 z220
 obtain ⟨rfl, Nq220, Eq220⟩ := hQ220
 have N221 := Fr.app Nh219 Nq220
 obtain ⟨Lh222, Xh222, Nh222⟩ := oHd 55 3498 X220 N221 rfl rfl
 refine ownSt st220 ?_
 clear st220
 show oA p e below _ T220 (fr_law m p1 p2 p3 p4 282 (.val (.int (oN n1))) (.val (.int (oN n2))) (.val (.int (oN n3))) (vR x21) (vR x29) (vR x37) (vI 1) (vR x133) (.val (.int (oN (n1 + 29)))) (.val (.int (oN (n1 + 29 + n2)))) (.val (.int (oN (n1 + 29 + n2 + 39)))) (.val (.int (oN (n1 + 29 + n2 + 39 + n3)))) [(iV 116)])
 refine oTo T220 (fr_law m p1 p2 p3 p4 294 (.val (.int (oN n1))) (.val (.int (oN n2))) (.val (.int (oN n3))) (vR x21) (vR x29) (vR x37) (vI 1) (vR x133) (.val (.int (oN (n1 + 29)))) (.val (.int (oN (n1 + 29 + n2)))) (.val (.int (oN (n1 + 29 + n2 + 39)))) (.val (.int (oN (n1 + 29 + n2 + 39 + n3)))) [(.int ((oN (n1 + 29 + n2 + 39 + n3)) + (22 : Int32))), (.ref x133)]) (fun t kt => ?_) ?_
 ·refine XS.bipush Xh222.here hx rfl (D at_282) ?_
  refine XS.icmpNo Xh222.here hx rfl (D at_284) rfl (teq ((by decide) : (116 : Int32) = (116 : Int32))).2 ?_
  refine XS.aload Xh222.here hx rfl (D at_287) rfl rfl ?_
  refine XS.iload Xh222.here hx rfl (D at_289) rfl ?_
  refine XS.bipush Xh222.here hx rfl (D at_291) ?_
  refine XS.iadd Xh222.here hx rfl (D at_293) rfl ?_
  exact kt
 obtain ⟨cq223, kq223, q223a, q223b, q223c⟩ := isOf hZ180 Eq220 Eq133
 obtain ⟨vv223, _, ⟨T223, L223, k223, n223⟩, -, X223, ⟨Lc223, hQ223, l223, y223, z223⟩, st223⟩ := Xh222.virtualBack hx (y := yM6) (z := yM6) hown180 (mvT hZ180 (Wd201 hw)) (mvT hZ180 (Wd202 hw)) (oNf hZ180 (Wd204 hw)) (mvT hZ180 (Wd204 hw)) (mvT hZ180 (Wd203 hw)) (by decide) (backOf (W := 0) (c_chat l Z a0 hw [] x133 t133 kb133 (oN (0 + n1 + 29 + n2 + (39 + n3 + 23))) ((((([] : List Value) ++ us21) ++ C1L) ++ us29) ++ ((C2L ++ us37) ++ C3L)) ((oN (n1 + 29 + n2 + 39 + n3)) + (22 : Int32)) (102 : Int32) G1 G3 T133.heap n0 f183 Eq133 Vq133 Cq133 Aq133 (oClA (b := 22) (oClN (by omega) (by omega) ((rl5 (i := 22) hD21.1 hD29.1 hD37.1 _ (by omega)).trans rfl) (by decide))) O2 P5 O4 rG3 f182) hZ180 (Wd205 hw) (Wd6 hw) (by decide) (by decide)) q223a q223c (g := (fr_law m p1 p2 p3 p4 294 (.val (.int (oN n1))) (.val (.int (oN n2))) (.val (.int (oN n3))) (vR x21) (vR x29) (vR x37) (vI 1) (vR x133) (.val (.int (oN (n1 + 29)))) (.val (.int (oN (n1 + 29 + n2)))) (.val (.int (oN (n1 + 29 + n2 + 39)))) (.val (.int (oN (n1 + 29 + n2 + 39 + n3)))) [(.int ((oN (n1 + 29 + n2 + 39 + n3)) + (22 : Int32))), (.ref x133)])) rfl (by rw [hml]; rfl) (Steps.refl _) (argsL := [(.int ((oN (n1 + 29 + n2 + 39 + n3)) + (22 : Int32)))]) (rest := []) (lenOf pd_30 rfl) rfl (oWt rfl) (D at_294) (fun _ _ => ⟨rfl, Eq220, oLe rfl, oLe rfl⟩)
 dsimp only [Pt.U, Pt.locs, Pt.cells, Pt.slots] at X223 l223 y223 z223 st223 hQ223
 subst l223 y223 z223
 obtain ⟨rfl, Nq223, Eq223⟩ := hQ223
 have N224 := Fr.app Nh222 Nq223
 obtain ⟨Lh225, Xh225, Nh225⟩ := oHd 55 3498 X223 N224 rfl rfl
 refine ownSt st223 ?_
 clear st223
 show oA p e below _ T223 (fr_law m p1 p2 p3 p4 297 (.val (.int (oN n1))) (.val (.int (oN n2))) (.val (.int (oN n3))) (vR x21) (vR x29) (vR x37) (vI 1) (vR x133) (.val (.int (oN (n1 + 29)))) (.val (.int (oN (n1 + 29 + n2)))) (.val (.int (oN (n1 + 29 + n2 + 39)))) (.val (.int (oN (n1 + 29 + n2 + 39 + n3)))) [(iV 102)])
 refine oTo T223 (fr_law m p1 p2 p3 p4 307 (.val (.int (oN n1))) (.val (.int (oN n2))) (.val (.int (oN n3))) (vR x21) (vR x29) (vR x37) (vI 1) (vR x133) (.val (.int (oN (n1 + 29)))) (.val (.int (oN (n1 + 29 + n2)))) (.val (.int (oN (n1 + 29 + n2 + 39)))) (.val (.int (oN (n1 + 29 + n2 + 39 + n3)))) [(iV 1)]) (fun t kt => ?_) ?_
 ·refine XS.bipush Xh225.here hx rfl (D at_297) ?_
  refine XS.icmpNo Xh225.here hx rfl (D at_299) rfl (teq ((by decide) : (102 : Int32) = (102 : Int32))).2 ?_
  refine XS.iconst Xh225.here hx rfl (D at_302) ?_
  refine XS.goto Xh225.here hx rfl (pc0 := 303) (pc' := 307) rfl (D at_303) (by decide) (by decide) ?_
  exact kt
 refine ownRetH Xh225 hSR180 (by rw [Eq223]; exact (Nat.le_refl _)) Bd.notSynchronized (v := some (.int (nar .boolean (1 : Int32)))) (fun h => by rw [Bd.returns] at h; cases h) ?_ (R179.trans ((by rw [Eq223]; exact CHv.at Xh225 hZ180 hEL R179.1))) (oLe rfl) (oLe rfl) (fun fs hr => retN Xh225 hx (t := .boolean) Bd.returns (by simp) (D at_307) hr)
 show (Q_law Z p1 p2 p3 p4 G1 G3 h0 n0) (some (.int (nar .boolean (1 : Int32)))) T223.heap _
 rw [Eq223]
 exact ⟨rfl, Nh225⟩
set_option maxRecDepth 65536 in
set_option maxHeartbeats 40000000 in
theorem comes_1 {Post : Tables → Env → Array Value → State → Outcome → State → Prop} (hpost : ∀ tb e args s v u, (limb_1_1.after args s (.returned v) u = true ∧ limb_1_2.after args s (.returned v) u = true ∧ True) → ReturnedEndW s (.returned v) u (Jvm.fieldLocs frame_1_writes args s ++ Jvm.arrayLocs frame_1_arrays args s ++ Jvm.staticLocs frame_1_statics s) 88 7360 → Post tb e args s (.returned v) u) :
  ArmFor flags0 classFile x code maxLocals ret World_1 tables_1 room_1 Calls_1 rest_1 Pre_1 Post := by
 intro l hfl _ _ p e ha hc hk s m args below hf hA hF happ hP
 obtain ⟨hcalls, hrest, hpre⟩ := hP
 obtain ⟨-, -, -, hnamed, -, -, -, hat⟩ := (Spec.applies_iff hf).mp happ
 obtain ⟨hg, hn⟩ := and_e (Cond.before_iff.mp (show (Jvm.Cond.and given_1 narrow_1).before args s = true from hpre))
 obtain ⟨g227, g228⟩ := and_e hg
 obtain ⟨g229, g230⟩ := and_e g228
 obtain ⟨g231, g232⟩ := and_e g230
 obtain ⟨g233, g234⟩ := and_e g232
 obtain ⟨w0, w1, w2, w3, rfl⟩ : ∃ w0 w1 w2 w3 : Value, args = #[w0, w1, w2, w3] := by
  have hs : args.size = 4 := by simpa [Cond.value, given_1] using g227
  obtain ⟨L⟩ := args
  match L, hs with
  | [w0, w1, w2, w3], _ => exact ⟨w0, w1, w2, w3, rfl⟩
 have hw := fun d (hd : d ∈ tables_1) => atoms_spec (ws := Jvm.Cond.code x code maxLocals ret :: tables_1) hat d (List.mem_cons_of_mem _ hd)
 have hfit : Fit s := fun {y c} hc i hi => by
  obtain ⟨ha, rfl⟩ := Array.getElem?_eq_some_iff.mp hc
  have q := List.all_eq_true.mp ((Array.all_eq_true_iff_forall_mem.mp hF) _ (Array.getElem_mem ha)) i (List.mem_range.mpr hi)
  simpa [Array.getElem?_eq_getElem hi] using q
 obtain ⟨hsets, hown0⟩ := atoms_of _ (rest_1_c_eq ▸ (show rest_1_c.before _ s = true from hrest))
 have hr0 := Cond.before_iff.mp hown0
 obtain ⟨i0, ei0⟩ := is_v g229
 obtain rfl : w0 = (.int i0) := Option.some.inj ei0
 obtain ⟨i1, ei1⟩ := is_v g231
 obtain rfl : w1 = (.int i1) := Option.some.inj ei1
 obtain ⟨i2, ei2⟩ := is_v g233
 obtain rfl : w2 = (.int i2) := Option.some.inj ei2
 obtain ⟨i3, ei3⟩ := is_v g234
 obtain rfl : w3 = (.int i3) := Option.some.inj ei3
 obtain ⟨G1, eG1⟩ := is_v (Cond.before_iff.mp (hsets _ (List.mem_of_getElem? (i := 1) rfl)))
 have O2 := Sta.start eG1 (Or.inl (hsets _ (List.mem_of_getElem? (i := 0) rfl)))
 have P5 : ¬ (G1 = (0 : Int32)) := own_nz eG1 (Cond.before_iff.mp (hsets _ (List.mem_of_getElem? (i := 2) rfl)))
 obtain ⟨G3, eG3, rG3⟩ := isR_v (Cond.before_iff.mp (hsets _ (List.mem_of_getElem? (i := 8) rfl)))
 have O4 := Sta.start eG3 (Or.inl (hsets _ (List.mem_of_getElem? (i := 7) rfl)))
 have hCH : CHv s ownEL s.vm s.heap := CHv.start (own_EW hw) (fun q hq => hcalls.1 q hq) (hsets _ (List.mem_of_getElem? (i := 2) rfl)) (Wd26 hw) (Wd5 hw)
 obtain ⟨n, o, h1, h2, h3, _, L, rfl, ⟨rfl, N⟩, -, hq⟩ := c_law l s _ hw tables_1 i0 i1 i2 i3 G1 G3 s.heap s.heap.size (Nat.le_refl _) O2 P5 O4 rG3 (Old.start s) p e ha hc hk s m _ below hf ((Spec.applies_iff_loose hf).mp happ).1 ⟨rfl, State.Warmed39.refl s, rfl, hCH⟩ trivial
 refine ⟨n, _, h1, h2, h3, hpost _ _ _ _ _ _ ⟨Cond.after_iff.mpr rfl, Cond.after_iff.mpr (eq_i res_at (Term.int_eval (1)) rfl), trivial⟩ ⟨hq.1, hq.2.1, hq.2.2.1, (hq.2.2.2.sift fun y hy => Or.inr (N y hy)).mono (by decide) (by decide)⟩⟩
theorem main_1_1 : Claimed_1_1 := comes_1 fun _ _ _ _ _ _ h hF => ⟨h.1, hF⟩
theorem main_1_2 : Claimed_1_2 := comes_1 fun _ _ _ _ _ _ h hF => ⟨h.2.1, hF⟩
end Jvm.Pilot.@@N@@
namespace Jvm.Pilot.@@N@@
open Jvm Jvm.ClassFile Sem Op Lib Jvm.Free Jvm.Stand Jvm.Pilot.@@N@@.Jvm.D
/-! MADE BY PROGRAM (witnessworld.py) out of the Statement's table words and the real class files: 24 classes; the members and pool entries that the words name. The judged class is class 1, her method 1. -/
namespace start1
open Jvm.ClassFile
def u (s : String) : CpInfo := .utf8 (stringToUtf16 s)
/-- a pool by its gaps: so many unusable entries, then the entry; so many at the end -/
def gap : Nat → List CpInfo → List CpInfo
  | 0, r => r
  | n + 1, r => .unusable :: gap n r
def poolList (es : List (Nat × CpInfo)) (last : Nat) : List CpInfo := es.foldr (fun e r => gap e.1 (e.2 :: r)) (gap last [])
def pool (es : List (Nat × CpInfo)) (last : Nat) : Array CpInfo := ⟨poolList es last⟩
def fileOf (pool : Array CpInfo) (this : Nat) (attrs : Array Attribute := #[]) (ms : Array MethodInfo := #[]) (fl : Nat := 33) (sup : Nat := 0) (ifs : Array Nat := #[]) (fds : Array FieldInfo := #[]) : ClassFile where
  minorVersion := 0
  majorVersion := 65
  constantPool := pool
  accessFlags := fl
  thisClass := this
  superClass := sup
  interfaces := ifs
  fields := fds
  methods := ms
  attributes := attrs
def plain (name : String) (sup : Option ClassId) : Class where
  name := name
  kind := .ordinary
  loader := none
  accessFlags := 33
  super := sup
  interfaces := #[]
  cf := none
  fields := #[]
  methods := #[]
  instanceTypes := #[]
  staticTypes := #[]
  resolved := #[]
  callSites := []
  init := .initialized
  statics := none
  mirror := none

def pool0 : Array CpInfo := pool [(5, u "<init>"), (0, u "()V"), (1, .class_ 10), (1, u "java/lang/Object"), (85, u "clone"), (0, u "()Ljava/lang/Object;")] 26

def k0c0 : Code := { maxStack := 0, maxLocals := 1, code := object_method_1_code, exceptionTable := #[], attributes := #[] }
def k0m0 : Method := { name := "<init>", desc := "()V", sig := { parameters := [], returnType := none }, accessFlags := 1, code := some k0c0 }
def k0m1 : Method := { name := "clone", desc := "()Ljava/lang/Object;", sig := { parameters := [], returnType := some (.object "java/lang/Object") }, accessFlags := 260, code := none }
/-- java/lang/Object -/
def k0 : Class := { plain "java/lang/Object" none with
  accessFlags := 33
  interfaces := #[]
  cf := some (fileOf pool0 8 #[] #[{ accessFlags := 1, nameIndex := 5, descriptorIndex := 6, attributes := #[] }, { accessFlags := 260, nameIndex := 96, descriptorIndex := 97, attributes := #[] }] 33 0 #[] #[])
  fields := #[]
  methods := #[k0m0, k0m1]
  instanceTypes := #[]
  staticTypes := #[]
  resolved := Array.replicate 124 none
  statics := none }

def pool1 : Array CpInfo := pool [(2, .class_ 4), (1, u "java/lang/Object"), (0, u "<init>"), (0, u "()V"), (0, .methodref 8 9), (0, .class_ 10), (0, .nameAndType 11 12), (0, u "com/example/savepoint/savepoint/AnnotationLookupNeverAppliesPinLaw"), (0, u "draw"), (0, u "(II)Ljava/lang/String;"), (0, .string 14), (0, u ""), (0, .methodref 16 17), (0, .class_ 18), (0, .nameAndType 19 20), (0, u "com/example/savepoint/savepoint/AnnotationLookup"), (0, u "neverApplies"), (0, u "(Ljava/lang/String;Ljava/lang/String;Ljava/lang/String;)Ljava/lang/String;"), (0, .string 22), (0, u (ownText 186)), (0, .methodref 24 25), (0, .class_ 26), (0, .nameAndType 27 28), (0, u "java/lang/String"), (0, u "equals"), (0, u "(Ljava/lang/Object;)Z"), (0, .methodref 24 30), (0, .nameAndType 31 32), (0, u "length"), (0, u "()I"), (0, .methodref 8 34), (0, .nameAndType 35 36), (0, u "drawnAt"), (0, u "(Ljava/lang/String;III)Z"), (0, .methodref 24 38), (0, .nameAndType 39 40), (0, u "charAt"), (0, u "(I)C"), (0, .methodref 8 42), (0, .nameAndType 43 44), (0, u "ch"), (0, u "(II)C"), (0, .methodref 24 46), (0, .nameAndType 5 47), (0, u "([C)V"), (2, u "law"), (0, u "(IIII)Z")] 3

def k1m0 : Method := { name := "<init>", desc := "()V", sig := { parameters := [], returnType := none }, accessFlags := 2, code := none }
def k1c1 : Code := { maxStack := 4, maxLocals := 16, code := code, exceptionTable := #[], attributes := #[] }
def k1m1 : Method := { name := "law", desc := "(IIII)Z", sig := { parameters := [.int, .int, .int, .int], returnType := some .boolean }, accessFlags := 9, code := some k1c1 }
def k1c2 : Code := { maxStack := 3, maxLocals := 2, code := method_3_code, exceptionTable := #[], attributes := #[] }
def k1m2 : Method := { name := "ch", desc := "(II)C", sig := { parameters := [.int, .int], returnType := some .char }, accessFlags := 10, code := some k1c2 }
def k1c3 : Code := { maxStack := 7, maxLocals := 2, code := method_4_code, exceptionTable := #[], attributes := #[] }
def k1m3 : Method := { name := "draw", desc := "(II)Ljava/lang/String;", sig := { parameters := [.int, .int], returnType := some (.object "java/lang/String") }, accessFlags := 10, code := some k1c3 }
def k1c4 : Code := { maxStack := 3, maxLocals := 4, code := method_5_code, exceptionTable := #[], attributes := #[] }
def k1m4 : Method := { name := "drawnAt", desc := "(Ljava/lang/String;III)Z", sig := { parameters := [(.object "java/lang/String"), .int, .int, .int], returnType := some .boolean }, accessFlags := 10, code := some k1c4 }
/-- com/example/savepoint/savepoint/AnnotationLookupNeverAppliesPinLaw -/
def k1 : Class := { plain "com/example/savepoint/savepoint/AnnotationLookupNeverAppliesPinLaw" (some 0) with
  accessFlags := 49
  interfaces := #[]
  cf := some (fileOf pool1 8 #[] #[{ accessFlags := 2, nameIndex := 5, descriptorIndex := 6, attributes := #[] }, { accessFlags := 9, nameIndex := 50, descriptorIndex := 51, attributes := #[] }, { accessFlags := 10, nameIndex := 43, descriptorIndex := 44, attributes := #[] }, { accessFlags := 10, nameIndex := 11, descriptorIndex := 12, attributes := #[] }, { accessFlags := 10, nameIndex := 35, descriptorIndex := 36, attributes := #[] }] 49 2 #[] #[])
  fields := #[]
  methods := #[k1m0, k1m1, k1m2, k1m3, k1m4]
  instanceTypes := #[]
  staticTypes := #[]
  resolved := Array.replicate 55 none
  statics := none }

def pool2 : Array CpInfo := pool [(1, .class_ 2), (0, u "java/io/Serializable"), (0, .class_ 4), (0, u "java/lang/Object")] 2

/-- java/io/Serializable -/
def k2 : Class := { plain "java/io/Serializable" (some 0) with
  accessFlags := 1537
  interfaces := #[]
  cf := some (fileOf pool2 1 #[] #[] 1537 3 #[] #[])
  fields := #[]
  methods := #[]
  instanceTypes := #[]
  staticTypes := #[]
  resolved := Array.replicate 7 none
  statics := none }

def pool3 : Array CpInfo := pool [(1, .class_ 2), (0, u "java/lang/Comparable"), (0, .class_ 4), (0, u "java/lang/Object")] 7

/-- java/lang/Comparable -/
def k3 : Class := { plain "java/lang/Comparable" (some 0) with
  accessFlags := 1537
  interfaces := #[]
  cf := some (fileOf pool3 1 #[] #[] 1537 3 #[] #[])
  fields := #[]
  methods := #[]
  instanceTypes := #[]
  staticTypes := #[]
  resolved := Array.replicate 12 none
  statics := none }

def pool4 : Array CpInfo := pool [(2, .class_ 4), (1, u "java/lang/CharSequence"), (42, .class_ 48), (0, u "java/lang/CharSequence$1CodePointIterator"), (10, .class_ 60), (0, u "java/lang/CharSequence$1CharIterator"), (5, .class_ 67), (0, u "java/lang/Object")] 63

/-- java/lang/CharSequence -/
def k4 : Class := { plain "java/lang/CharSequence" (some 0) with
  accessFlags := 1537
  interfaces := #[]
  cf := some (fileOf pool4 2 #[.nestMembers #[47, 59]] #[] 1537 66 #[] #[])
  fields := #[]
  methods := #[]
  instanceTypes := #[]
  staticTypes := #[]
  resolved := Array.replicate 131 none
  statics := none }

def pool5 : Array CpInfo := pool [(1, .class_ 2), (0, u "java/lang/constant/Constable"), (0, .class_ 4), (0, u "java/lang/Object")] 6

/-- java/lang/constant/Constable -/
def k5 : Class := { plain "java/lang/constant/Constable" (some 0) with
  accessFlags := 1537
  interfaces := #[]
  cf := some (fileOf pool5 1 #[] #[] 1537 3 #[] #[])
  fields := #[]
  methods := #[]
  instanceTypes := #[]
  staticTypes := #[]
  resolved := Array.replicate 11 none
  statics := none }

def pool6 : Array CpInfo := pool [(1, .class_ 2), (0, u "java/lang/constant/ConstantDesc"), (0, .class_ 4), (0, u "java/lang/Object")] 32

/-- java/lang/constant/ConstantDesc -/
def k6 : Class := { plain "java/lang/constant/ConstantDesc" (some 0) with
  accessFlags := 1537
  interfaces := #[]
  cf := some (fileOf pool6 1 #[] #[] 1537 3 #[] #[])
  fields := #[]
  methods := #[]
  instanceTypes := #[]
  staticTypes := #[]
  resolved := Array.replicate 37 none
  statics := none }

def pool7 : Array CpInfo := pool [(1, .methodref 2 3), (0, .class_ 4), (0, .nameAndType 5 6), (0, u "java/lang/Object"), (0, u "<init>"), (0, u "()V"), (2, .fieldref 10 11), (0, .class_ 12), (0, .nameAndType 13 14), (0, u "java/lang/String"), (0, u "value"), (0, u "[B"), (0, .fieldref 10 16), (0, .nameAndType 17 18), (0, u "coder"), (0, u "B"), (2, u "hash"), (0, u "I"), (2, u "hashIsZero"), (0, u "Z"), (0, .methodref 10 28), (0, .nameAndType 5 29), (0, u "([CIILjava/lang/Void;)V"), (8, .fieldref 10 39), (0, .nameAndType 40 26), (0, u "COMPACT_STRINGS"), (1, .class_ 44), (1, u "java/lang/StringUTF16"), (0, u "compress"), (1, .methodref 42 48), (0, .nameAndType 49 50), (0, u "coderFromArrayLen"), (0, u "([BI)B"), (3, .methodref 55 56), (0, .class_ 57), (0, .nameAndType 58 59), (0, u "java/util/Arrays"), (0, u "copyOfRange"), (0, u "([BII)[B"), (47, .class_ 109), (1, u "java/lang/StringLatin1"), (32, u "()Z"), (34, .methodref 42 178), (0, .nameAndType 45 179), (0, u "([CII)[B"), (13, .class_ 195), (1, u "java/lang/System"), (16, .methodref 193 213), (0, .nameAndType 214 215), (0, u "arraycopy"), (0, u "(Ljava/lang/Object;ILjava/lang/Object;II)V"), (118, u "()I"), (0, .methodref 10 336), (0, .nameAndType 17 337), (0, u "()B"), (2, u "()[B"), (22, u "([BI)C"), (27, u "(II)V"), (35, u "(I)C"), (61, .methodref 10 490), (0, .nameAndType 5 491), (0, u "(Ljava/lang/AbstractStringBuilder;Ljava/lang/Void;)V"), (0, .methodref 10 493), (0, .nameAndType 494 142), (0, u "isLatin1"), (0, .methodref 107 496), (0, .nameAndType 497 363), (0, u "charAt"), (3, u "checkIndex"), (4, .nameAndType 507 334), (0, u "length"), (24, u "getBytes"), (8, .methodref 107 542), (0, .nameAndType 543 544), (0, u "equals"), (0, u "([B[B)Z"), (4, .methodref 550 506), (0, .class_ 551), (0, u "java/lang/AbstractStringBuilder"), (0, .methodref 550 553), (0, .nameAndType 554 340), (0, u "getValue"), (18, u "(Ljava/lang/Object;)Z"), (1, .class_ 576), (0, u "java/lang/CharSequence"), (22, u "CASE_INSENSITIVE_ORDER"), (0, u "Ljava/util/Comparator;"), (220, u "([BIB)V"), (188, u "([C)V"), (36, .methodref 550 493), (5, .fieldref 1054 1055), (0, .class_ 1056), (0, .nameAndType 1057 1058), (0, u "jdk/internal/util/Preconditions"), (0, u "SIOOBE_FORMATTER"), (0, u "Ljava/util/function/BiFunction;"), (0, .methodref 1054 1060), (0, .nameAndType 501 1061), (0, u "(IILjava/util/function/BiFunction;)I"), (39, u "serialPersistentFields"), (0, u "[Ljava/io/ObjectStreamField;"), (0, .class_ 1104), (0, u "java/lang/String$CaseInsensitiveComparator"), (1, .class_ 1107), (0, u "java/io/Serializable"), (0, .class_ 1109), (0, u "java/lang/Comparable"), (0, .class_ 1111), (0, u "java/lang/constant/Constable"), (0, .class_ 1113), (0, u "java/lang/constant/ConstantDesc"), (2, u "serialVersionUID"), (0, u "J"), (3, u "REPL"), (0, u "C"), (2, u "LATIN1"), (1, u "UTF16"), (105, u "(Ljava/lang/StringBuilder;)V")] 217

def k7m0 : Method := { name := "<init>", desc := "()V", sig := { parameters := [], returnType := none }, accessFlags := 1, code := none }
def k7c1 : Code := { maxStack := 5, maxLocals := 2, code := jdk_42_method_3_code, exceptionTable := #[], attributes := #[] }
def k7m1 : Method := { name := "<init>", desc := "([C)V", sig := { parameters := [(.array .char)], returnType := none }, accessFlags := 1, code := some k7c1 }
def k7c2 : Code := { maxStack := 3, maxLocals := 2, code := jdk_42_method_53_code, exceptionTable := #[], attributes := #[] }
def k7m2 : Method := { name := "<init>", desc := "(Ljava/lang/StringBuilder;)V", sig := { parameters := [(.object "java/lang/StringBuilder")], returnType := none }, accessFlags := 1, code := some k7c2 }
def k7c3 : Code := { maxStack := 2, maxLocals := 1, code := jdk_42_method_54_code, exceptionTable := #[], attributes := #[] }
def k7m3 : Method := { name := "length", desc := "()I", sig := { parameters := [], returnType := some .int }, accessFlags := 1, code := some k7c3 }
def k7c4 : Code := { maxStack := 2, maxLocals := 2, code := jdk_42_method_56_code, exceptionTable := #[], attributes := #[] }
def k7m4 : Method := { name := "charAt", desc := "(I)C", sig := { parameters := [.int], returnType := some .char }, accessFlags := 1, code := some k7c4 }
def k7c5 : Code := { maxStack := 2, maxLocals := 3, code := jdk_42_method_66_code, exceptionTable := #[], attributes := #[] }
def k7m5 : Method := { name := "equals", desc := "(Ljava/lang/Object;)Z", sig := { parameters := [(.object "java/lang/Object")], returnType := some .boolean }, accessFlags := 1, code := some k7c5 }
def k7c6 : Code := { maxStack := 5, maxLocals := 4, code := jdk_42_method_147_code, exceptionTable := #[], attributes := #[] }
def k7m6 : Method := { name := "getBytes", desc := "([BIB)V", sig := { parameters := [(.array .byte), .int, .byte], returnType := none }, accessFlags := 0, code := some k7c6 }
def k7c7 : Code := { maxStack := 4, maxLocals := 6, code := jdk_42_method_149_code, exceptionTable := #[], attributes := #[] }
def k7m7 : Method := { name := "<init>", desc := "([CIILjava/lang/Void;)V", sig := { parameters := [(.array .char), .int, .int, (.object "java/lang/Void")], returnType := none }, accessFlags := 2, code := some k7c7 }
def k7c8 : Code := { maxStack := 5, maxLocals := 5, code := jdk_42_method_150_code, exceptionTable := #[], attributes := #[] }
def k7m8 : Method := { name := "<init>", desc := "(Ljava/lang/AbstractStringBuilder;Ljava/lang/Void;)V", sig := { parameters := [(.object "java/lang/AbstractStringBuilder"), (.object "java/lang/Void")], returnType := none }, accessFlags := 0, code := some k7c8 }
def k7c9 : Code := { maxStack := 1, maxLocals := 1, code := jdk_42_method_152_code, exceptionTable := #[], attributes := #[] }
def k7m9 : Method := { name := "coder", desc := "()B", sig := { parameters := [], returnType := some .byte }, accessFlags := 0, code := some k7c9 }
def k7c10 : Code := { maxStack := 1, maxLocals := 1, code := jdk_42_method_154_code, exceptionTable := #[], attributes := #[] }
def k7m10 : Method := { name := "isLatin1", desc := "()Z", sig := { parameters := [], returnType := some .boolean }, accessFlags := 0, code := some k7c10 }
def k7c11 : Code := { maxStack := 3, maxLocals := 2, code := jdk_42_method_155_code, exceptionTable := #[], attributes := #[] }
def k7m11 : Method := { name := "checkIndex", desc := "(II)V", sig := { parameters := [.int, .int], returnType := none }, accessFlags := 8, code := some k7c11 }
/-- java/lang/String -/
def k7 : Class := { plain "java/lang/String" (some 0) with
  accessFlags := 49
  interfaces := #[2, 3, 4, 5, 6]
  cf := some (fileOf pool7 10 #[.nestMembers #[1103]] #[{ accessFlags := 1, nameIndex := 5, descriptorIndex := 6, attributes := #[] }, { accessFlags := 1, nameIndex := 5, descriptorIndex := 1010, attributes := #[] }, { accessFlags := 1, nameIndex := 5, descriptorIndex := 1233, attributes := #[] }, { accessFlags := 1, nameIndex := 507, descriptorIndex := 334, attributes := #[] }, { accessFlags := 1, nameIndex := 497, descriptorIndex := 427, attributes := #[] }, { accessFlags := 1, nameIndex := 543, descriptorIndex := 573, attributes := #[] }, { accessFlags := 0, nameIndex := 532, descriptorIndex := 821, attributes := #[] }, { accessFlags := 2, nameIndex := 5, descriptorIndex := 29, attributes := #[] }, { accessFlags := 0, nameIndex := 5, descriptorIndex := 491, attributes := #[] }, { accessFlags := 0, nameIndex := 17, descriptorIndex := 337, attributes := #[] }, { accessFlags := 0, nameIndex := 494, descriptorIndex := 142, attributes := #[] }, { accessFlags := 8, nameIndex := 501, descriptorIndex := 391, attributes := #[] }] 49 2 #[1106, 1108, 575, 1110, 1112] #[{ accessFlags := 18, nameIndex := 13, descriptorIndex := 14, attributes := #[] }, { accessFlags := 18, nameIndex := 17, descriptorIndex := 18, attributes := #[] }, { accessFlags := 2, nameIndex := 21, descriptorIndex := 22, attributes := #[] }, { accessFlags := 2, nameIndex := 25, descriptorIndex := 26, attributes := #[] }, { accessFlags := 26, nameIndex := 1116, descriptorIndex := 1117, attributes := #[] }, { accessFlags := 24, nameIndex := 40, descriptorIndex := 26, attributes := #[] }, { accessFlags := 26, nameIndex := 1101, descriptorIndex := 1102, attributes := #[] }, { accessFlags := 26, nameIndex := 1121, descriptorIndex := 1122, attributes := #[] }, { accessFlags := 25, nameIndex := 599, descriptorIndex := 600, attributes := #[] }, { accessFlags := 24, nameIndex := 1125, descriptorIndex := 18, attributes := #[] }, { accessFlags := 24, nameIndex := 1127, descriptorIndex := 18, attributes := #[] }])
  fields := #[{ name := "value", type := (.array .byte), accessFlags := 18, slot := 0, constantValue := 0 }, { name := "coder", type := .byte, accessFlags := 18, slot := 1, constantValue := 0 }, { name := "hash", type := .int, accessFlags := 2, slot := 2, constantValue := 0 }, { name := "hashIsZero", type := .boolean, accessFlags := 2, slot := 3, constantValue := 0 }, { name := "serialVersionUID", type := .long, accessFlags := 26, slot := 0, constantValue := 0 }, { name := "COMPACT_STRINGS", type := .boolean, accessFlags := 24, slot := 1, constantValue := 0 }, { name := "serialPersistentFields", type := (.array (.object "java/io/ObjectStreamField")), accessFlags := 26, slot := 2, constantValue := 0 }, { name := "REPL", type := .char, accessFlags := 26, slot := 3, constantValue := 0 }, { name := "CASE_INSENSITIVE_ORDER", type := (.object "java/util/Comparator"), accessFlags := 25, slot := 4, constantValue := 0 }, { name := "LATIN1", type := .byte, accessFlags := 24, slot := 5, constantValue := 0 }, { name := "UTF16", type := .byte, accessFlags := 24, slot := 6, constantValue := 0 }]
  methods := #[k7m0, k7m1, k7m2, k7m3, k7m4, k7m5, k7m6, k7m7, k7m8, k7m9, k7m10, k7m11]
  instanceTypes := #[(.array .byte), .byte, .int, .boolean]
  staticTypes := #[.long, .boolean, (.array (.object "java/io/ObjectStreamField")), .char, (.object "java/util/Comparator"), .byte, .byte]
  resolved := Array.replicate 1451 none
  statics := some 0 }

def pool8 : Array CpInfo := pool [(6, .class_ 8), (1, u "java/lang/Object"), (0, u "<init>"), (0, u "()V"), (1, .class_ 14), (1, u "java/lang/StringUTF16"), (31, u "$assertionsDisabled"), (0, u "Z"), (13, u "HI_BYTE_SHIFT"), (0, u "I"), (2, u "LO_BYTE_SHIFT"), (49, .methodref 12 116), (0, .nameAndType 117 118), (0, u "compress"), (0, u "([CI[BII)I"), (3, u "([CII)[B"), (138, u "coderFromArrayLen"), (0, u "([BI)B"), (106, .class_ 371), (1, u "java/lang/StringUTF16$LinesSpliterator"), (58, u "MAX_LENGTH"), (196, .class_ 628), (0, u "java/lang/StringUTF16$CodePointsSpliterator"), (0, .class_ 630), (0, u "java/lang/StringUTF16$CharsSpliterator")] 4

def k8m0 : Method := { name := "<init>", desc := "()V", sig := { parameters := [], returnType := none }, accessFlags := 0, code := none }
def k8c1 : Code := { maxStack := 2, maxLocals := 2, code := jdk_52_method_15_code, exceptionTable := #[], attributes := #[] }
def k8m1 : Method := { name := "coderFromArrayLen", desc := "([BI)B", sig := { parameters := [(.array .byte), .int], returnType := some .byte }, accessFlags := 8, code := some k8c1 }
def k8c2 : Code := { maxStack := 5, maxLocals := 6, code := jdk_52_method_16_code, exceptionTable := #[], attributes := #[] }
def k8m2 : Method := { name := "compress", desc := "([CII)[B", sig := { parameters := [(.array .char), .int, .int], returnType := some (.array .byte) }, accessFlags := 9, code := some k8c2 }
def k8c3 : Code := { maxStack := 3, maxLocals := 7, code := jdk_52_method_21_code, exceptionTable := #[], attributes := #[] }
def k8m3 : Method := { name := "compress", desc := "([CI[BII)I", sig := { parameters := [(.array .char), .int, (.array .byte), .int, .int], returnType := some .int }, accessFlags := 9, code := some k8c3 }
/-- java/lang/StringUTF16 -/
def k8 : Class := { plain "java/lang/StringUTF16" (some 0) with
  accessFlags := 48
  interfaces := #[]
  cf := some (fileOf pool8 12 #[.nestMembers #[627, 629, 369]] #[{ accessFlags := 0, nameIndex := 9, descriptorIndex := 10, attributes := #[] }, { accessFlags := 8, nameIndex := 261, descriptorIndex := 262, attributes := #[] }, { accessFlags := 9, nameIndex := 117, descriptorIndex := 122, attributes := #[] }, { accessFlags := 9, nameIndex := 117, descriptorIndex := 118, attributes := #[] }] 48 6 #[] #[{ accessFlags := 26, nameIndex := 61, descriptorIndex := 62, attributes := #[] }, { accessFlags := 26, nameIndex := 65, descriptorIndex := 62, attributes := #[] }, { accessFlags := 24, nameIndex := 430, descriptorIndex := 62, attributes := #[] }, { accessFlags := 4120, nameIndex := 46, descriptorIndex := 47, attributes := #[] }])
  fields := #[{ name := "HI_BYTE_SHIFT", type := .int, accessFlags := 26, slot := 0, constantValue := 0 }, { name := "LO_BYTE_SHIFT", type := .int, accessFlags := 26, slot := 1, constantValue := 0 }, { name := "MAX_LENGTH", type := .int, accessFlags := 24, slot := 2, constantValue := 0 }, { name := "$assertionsDisabled", type := .boolean, accessFlags := 4120, slot := 3, constantValue := 0 }]
  methods := #[k8m0, k8m1, k8m2, k8m3]
  instanceTypes := #[]
  staticTypes := #[.int, .int, .int, .boolean]
  resolved := Array.replicate 635 none
  statics := none }

def pool9 : Array CpInfo := pool [(2, .class_ 4), (0, .nameAndType 5 6), (0, u "java/lang/Object"), (0, u "<init>"), (0, u "()V"), (101, .class_ 109), (0, u "java/lang/StringBuilder"), (0, .methodref 108 3), (2, .methodref 108 114), (0, .nameAndType 115 116), (0, u "append"), (0, u "(Ljava/lang/String;)Ljava/lang/StringBuilder;"), (1, .class_ 120), (1, u "com/example/savepoint/savepoint/AnnotationLookup"), (15, u "()Ljava/lang/String;"), (0, .methodref 108 138), (0, .nameAndType 139 136), (0, u "toString"), (14, .string 155), (0, u " carries @Transactional, and "), (0, .methodref 118 157), (0, .nameAndType 158 159), (0, u "couldNeverApply"), (0, u "(Ljava/lang/String;)Ljava/lang/String;"), (0, .string 161), (0, u (ownText 136)), (0, .string 163), (0, u (ownText 137)), (60, u "neverApplies"), (0, u "(Ljava/lang/String;Ljava/lang/String;Ljava/lang/String;)Ljava/lang/String;")] 24

def k9m0 : Method := { name := "<init>", desc := "()V", sig := { parameters := [], returnType := none }, accessFlags := 2, code := none }
def k9c1 : Code := { maxStack := 2, maxLocals := 3, code := prog_1_method_5_code, exceptionTable := #[], attributes := #[] }
def k9m1 : Method := { name := "neverApplies", desc := "(Ljava/lang/String;Ljava/lang/String;Ljava/lang/String;)Ljava/lang/String;", sig := { parameters := [(.object "java/lang/String"), (.object "java/lang/String"), (.object "java/lang/String")], returnType := some (.object "java/lang/String") }, accessFlags := 8, code := some k9c1 }
def k9c2 : Code := { maxStack := 2, maxLocals := 1, code := prog_1_method_6_code, exceptionTable := #[], attributes := #[] }
def k9m2 : Method := { name := "couldNeverApply", desc := "(Ljava/lang/String;)Ljava/lang/String;", sig := { parameters := [(.object "java/lang/String")], returnType := some (.object "java/lang/String") }, accessFlags := 8, code := some k9c2 }
/-- com/example/savepoint/savepoint/AnnotationLookup -/
def k9 : Class := { plain "com/example/savepoint/savepoint/AnnotationLookup" (some 0) with
  accessFlags := 32
  interfaces := #[]
  cf := some (fileOf pool9 118 #[] #[{ accessFlags := 2, nameIndex := 5, descriptorIndex := 6, attributes := #[] }, { accessFlags := 8, nameIndex := 224, descriptorIndex := 225, attributes := #[] }, { accessFlags := 8, nameIndex := 158, descriptorIndex := 159, attributes := #[] }] 32 2 #[] #[])
  fields := #[]
  methods := #[k9m0, k9m1, k9m2]
  instanceTypes := #[]
  staticTypes := #[]
  resolved := Array.replicate 250 none
  statics := none }

def pool10 : Array CpInfo := pool [(1, .class_ 2), (0, u "java/lang/Appendable"), (0, .class_ 4), (0, u "java/lang/Object")] 9

/-- java/lang/Appendable -/
def k10 : Class := { plain "java/lang/Appendable" (some 0) with
  accessFlags := 1537
  interfaces := #[]
  cf := some (fileOf pool10 1 #[] #[] 1537 3 #[] #[])
  fields := #[]
  methods := #[]
  instanceTypes := #[]
  staticTypes := #[]
  resolved := Array.replicate 14 none
  statics := none }

def pool11 : Array CpInfo := pool [(1, .class_ 2), (0, u "java/lang/String"), (0, .methodref 4 5), (0, .class_ 6), (0, .nameAndType 7 8), (0, u "java/lang/Object"), (0, u "<init>"), (0, u "()V"), (1, .class_ 12), (1, u "java/lang/AbstractStringBuilder"), (0, u "EMPTYVALUE"), (0, u "[B"), (0, .fieldref 10 16), (0, .nameAndType 17 14), (0, u "value"), (0, .fieldref 1 19), (0, .nameAndType 20 21), (0, u "COMPACT_STRINGS"), (0, u "Z"), (0, .fieldref 10 23), (0, .nameAndType 24 25), (0, u "coder"), (0, u "B"), (6, .methodref 1 33), (0, .nameAndType 34 35), (0, u "length"), (0, u "()I"), (3, .integer 2147483647), (0, .methodref 1 41), (0, .nameAndType 24 42), (0, u "()B"), (2, u "append"), (0, u "(Ljava/lang/String;)Ljava/lang/AbstractStringBuilder;"), (1, .class_ 49), (0, u "java/lang/CharSequence"), (19, u "(Ljava/lang/String;)V"), (5, u "maybeLatin1"), (3, .fieldref 10 80), (0, .nameAndType 81 82), (0, u "count"), (0, u "I"), (2, u "isLatin1"), (0, u "()Z"), (13, .methodref 10 101), (0, .nameAndType 102 103), (0, u "ensureCapacityInternal"), (0, u "(I)V"), (0, .methodref 10 105), (0, .nameAndType 106 107), (0, u "newCapacity"), (0, u "(I)I"), (0, .methodref 109 110), (0, .class_ 111), (0, .nameAndType 112 113), (0, u "java/util/Arrays"), (0, u "copyOf"), (0, u "([BI)[B"), (0, .methodref 115 116), (0, .class_ 117), (0, .nameAndType 118 119), (0, u "jdk/internal/util/ArraysSupport"), (0, u "newLength"), (0, u "(III)I"), (88, .methodref 10 209), (0, .nameAndType 210 211), (0, u "putStringAt"), (0, u "(ILjava/lang/String;)V"), (5, u "inflateIfNeededFor"), (2, .nameAndType 221 222), (0, u "getBytes"), (0, u "([BIB)V"), (174, .methodref 10 398), (0, .nameAndType 217 69), (0, .methodref 1 220), (3, u "()[B"), (40, .class_ 445), (0, u "java/lang/Appendable"), (106, u "getValue")] 56

def k11m0 : Method := { name := "<init>", desc := "()V", sig := { parameters := [], returnType := none }, accessFlags := 0, code := none }
def k11c1 : Code := { maxStack := 2, maxLocals := 2, code := jdk_68_method_2_code, exceptionTable := #[], attributes := #[] }
def k11m1 : Method := { name := "<init>", desc := "(I)V", sig := { parameters := [.int], returnType := none }, accessFlags := 0, code := some k11c1 }
def k11c2 : Code := { maxStack := 1, maxLocals := 1, code := jdk_68_method_6_code, exceptionTable := #[], attributes := #[] }
def k11m2 : Method := { name := "length", desc := "()I", sig := { parameters := [], returnType := some .int }, accessFlags := 1, code := some k11c2 }
def k11c3 : Code := { maxStack := 4, maxLocals := 3, code := jdk_68_method_9_code, exceptionTable := #[], attributes := #[] }
def k11m3 : Method := { name := "ensureCapacityInternal", desc := "(I)V", sig := { parameters := [.int], returnType := none }, accessFlags := 2, code := some k11c3 }
def k11c4 : Code := { maxStack := 5, maxLocals := 6, code := jdk_68_method_10_code, exceptionTable := #[], attributes := #[] }
def k11m4 : Method := { name := "newCapacity", desc := "(I)I", sig := { parameters := [.int], returnType := some .int }, accessFlags := 2, code := some k11c4 }
def k11c5 : Code := { maxStack := 3, maxLocals := 3, code := jdk_68_method_22_code, exceptionTable := #[], attributes := #[] }
def k11m5 : Method := { name := "append", desc := "(Ljava/lang/String;)Ljava/lang/AbstractStringBuilder;", sig := { parameters := [(.object "java/lang/String")], returnType := some (.object "java/lang/AbstractStringBuilder") }, accessFlags := 1, code := some k11c5 }
def k11c6 : Code := { maxStack := 1, maxLocals := 1, code := jdk_68_method_64_code, exceptionTable := #[], attributes := #[] }
def k11m6 : Method := { name := "getValue", desc := "()[B", sig := { parameters := [], returnType := some (.array .byte) }, accessFlags := 16, code := some k11c6 }
def k11c7 : Code := { maxStack := 1, maxLocals := 1, code := jdk_68_method_68_code, exceptionTable := #[], attributes := #[] }
def k11m7 : Method := { name := "isLatin1", desc := "()Z", sig := { parameters := [], returnType := some .boolean }, accessFlags := 16, code := some k11c7 }
def k11c8 : Code := { maxStack := 2, maxLocals := 2, code := jdk_68_method_71_code, exceptionTable := #[], attributes := #[] }
def k11m8 : Method := { name := "inflateIfNeededFor", desc := "(Ljava/lang/String;)V", sig := { parameters := [(.object "java/lang/String")], returnType := none }, accessFlags := 2, code := some k11c8 }
def k11c9 : Code := { maxStack := 4, maxLocals := 3, code := jdk_68_method_73_code, exceptionTable := #[], attributes := #[] }
def k11m9 : Method := { name := "putStringAt", desc := "(ILjava/lang/String;)V", sig := { parameters := [.int, (.object "java/lang/String")], returnType := none }, accessFlags := 2, code := some k11c9 }
/-- java/lang/AbstractStringBuilder -/
def k11 : Class := { plain "java/lang/AbstractStringBuilder" (some 0) with
  accessFlags := 1056
  interfaces := #[10, 4]
  cf := some (fileOf pool11 10 #[] #[{ accessFlags := 0, nameIndex := 7, descriptorIndex := 8, attributes := #[] }, { accessFlags := 0, nameIndex := 7, descriptorIndex := 103, attributes := #[] }, { accessFlags := 1, nameIndex := 34, descriptorIndex := 35, attributes := #[] }, { accessFlags := 2, nameIndex := 102, descriptorIndex := 103, attributes := #[] }, { accessFlags := 2, nameIndex := 106, descriptorIndex := 107, attributes := #[] }, { accessFlags := 1, nameIndex := 45, descriptorIndex := 46, attributes := #[] }, { accessFlags := 16, nameIndex := 552, descriptorIndex := 403, attributes := #[] }, { accessFlags := 16, nameIndex := 85, descriptorIndex := 86, attributes := #[] }, { accessFlags := 2, nameIndex := 217, descriptorIndex := 69, attributes := #[] }, { accessFlags := 2, nameIndex := 210, descriptorIndex := 211, attributes := #[] }] 1056 4 #[444, 48] #[{ accessFlags := 0, nameIndex := 17, descriptorIndex := 14, attributes := #[] }, { accessFlags := 0, nameIndex := 24, descriptorIndex := 25, attributes := #[] }, { accessFlags := 0, nameIndex := 75, descriptorIndex := 21, attributes := #[] }, { accessFlags := 0, nameIndex := 81, descriptorIndex := 82, attributes := #[] }, { accessFlags := 26, nameIndex := 13, descriptorIndex := 14, attributes := #[] }])
  fields := #[{ name := "value", type := (.array .byte), accessFlags := 0, slot := 0, constantValue := 0 }, { name := "coder", type := .byte, accessFlags := 0, slot := 1, constantValue := 0 }, { name := "maybeLatin1", type := .boolean, accessFlags := 0, slot := 2, constantValue := 0 }, { name := "count", type := .int, accessFlags := 0, slot := 3, constantValue := 0 }, { name := "EMPTYVALUE", type := (.array .byte), accessFlags := 26, slot := 0, constantValue := 0 }]
  methods := #[k11m0, k11m1, k11m2, k11m3, k11m4, k11m5, k11m6, k11m7, k11m8, k11m9]
  instanceTypes := #[(.array .byte), .byte, .boolean, .int]
  staticTypes := #[(.array .byte)]
  resolved := Array.replicate 609 none
  statics := none }

def pool12 : Array CpInfo := pool [(1, .methodref 2 3), (0, .class_ 4), (0, .nameAndType 5 6), (0, u "java/lang/AbstractStringBuilder"), (0, u "<init>"), (0, u "(I)V"), (11, .class_ 20), (1, u "java/lang/String"), (3, .class_ 26), (1, u "java/lang/StringBuilder"), (0, u "append"), (0, u "(Ljava/lang/String;)Ljava/lang/StringBuilder;"), (0, .methodref 2 30), (0, .nameAndType 27 31), (0, u "(Ljava/lang/String;)Ljava/lang/AbstractStringBuilder;"), (105, .methodref 18 138), (0, .nameAndType 5 139), (0, u "(Ljava/lang/StringBuilder;)V"), (5, u "()V"), (10, u "()I"), (186, .methodref 2 344), (0, .nameAndType 345 156), (0, u "length"), (3, .class_ 350), (0, u "java/lang/Appendable"), (0, .class_ 352), (0, u "java/io/Serializable"), (0, .class_ 354), (0, u "java/lang/Comparable"), (0, .class_ 356), (0, u "java/lang/CharSequence"), (0, u "serialVersionUID"), (0, u "J"), (40, u "toString"), (0, u "()Ljava/lang/String;")] 21

def k12c0 : Code := { maxStack := 2, maxLocals := 1, code := jdk_67_method_1_code, exceptionTable := #[], attributes := #[] }
def k12m0 : Method := { name := "<init>", desc := "()V", sig := { parameters := [], returnType := none }, accessFlags := 1, code := some k12c0 }
def k12c1 : Code := { maxStack := 2, maxLocals := 2, code := jdk_67_method_7_code, exceptionTable := #[], attributes := #[] }
def k12m1 : Method := { name := "append", desc := "(Ljava/lang/String;)Ljava/lang/StringBuilder;", sig := { parameters := [(.object "java/lang/String")], returnType := some (.object "java/lang/StringBuilder") }, accessFlags := 1, code := some k12c1 }
def k12c2 : Code := { maxStack := 3, maxLocals := 1, code := jdk_67_method_42_code, exceptionTable := #[], attributes := #[] }
def k12m2 : Method := { name := "toString", desc := "()Ljava/lang/String;", sig := { parameters := [], returnType := some (.object "java/lang/String") }, accessFlags := 1, code := some k12c2 }
def k12c3 : Code := { maxStack := 1, maxLocals := 1, code := jdk_67_method_93_code, exceptionTable := #[], attributes := #[] }
def k12m3 : Method := { name := "length", desc := "()I", sig := { parameters := [], returnType := some .int }, accessFlags := 4161, code := some k12c3 }
/-- java/lang/StringBuilder -/
def k12 : Class := { plain "java/lang/StringBuilder" (some 11) with
  accessFlags := 49
  interfaces := #[10, 2, 3, 4]
  cf := some (fileOf pool12 24 #[] #[{ accessFlags := 1, nameIndex := 5, descriptorIndex := 145, attributes := #[] }, { accessFlags := 1, nameIndex := 27, descriptorIndex := 28, attributes := #[] }, { accessFlags := 1, nameIndex := 399, descriptorIndex := 400, attributes := #[] }, { accessFlags := 4161, nameIndex := 345, descriptorIndex := 156, attributes := #[] }] 49 2 #[349, 351, 353, 355] #[{ accessFlags := 24, nameIndex := 357, descriptorIndex := 358, attributes := #[] }])
  fields := #[{ name := "serialVersionUID", type := .long, accessFlags := 24, slot := 0, constantValue := 0 }]
  methods := #[k12m0, k12m1, k12m2, k12m3]
  instanceTypes := #[(.array .byte), .byte, .boolean, .int]
  staticTypes := #[.long]
  resolved := Array.replicate 422 none
  statics := none }

def pool13 : Array CpInfo := pool [(2, .class_ 4), (1, u "java/lang/Object"), (0, u "<init>"), (0, u "()V"), (1, .class_ 10), (1, u "java/lang/System"), (0, u "allowSecurityManager"), (0, u "I"), (16, u "cons"), (0, u "Ljava/io/Console;"), (77, .class_ 110), (1, u "java/lang/System$CallersHolder"), (43, u "initialErrStream"), (0, u "Ljava/io/PrintStream;"), (19, u "security"), (0, u "Ljava/lang/SecurityManager;"), (31, .class_ 209), (0, u "java/lang/System$1"), (7, u "props"), (0, u "Ljava/util/Properties;"), (2, u "lineSeparator"), (0, u "Ljava/lang/String;"), (96, .class_ 321), (1, u "java/lang/System$LoggerFinder"), (5, .class_ 328), (0, u "java/lang/System$Logger"), (67, u "err"), (2, u "out"), (91, u "notSupportedJnuEncoding"), (15, u "in"), (17, u "initialIn"), (0, u "Ljava/io/InputStream;"), (35, u "bootLayer"), (0, u "Ljava/lang/ModuleLayer;"), (99, .class_ 664), (0, u "java/lang/System$2"), (9, u "NEVER"), (2, u "MAYBE"), (49, u "arraycopy"), (0, u "(Ljava/lang/Object;ILjava/lang/Object;II)V"), (72, .class_ 802), (0, u "java/lang/System$Logger$Level")] 31

def k13m0 : Method := { name := "<init>", desc := "()V", sig := { parameters := [], returnType := none }, accessFlags := 2, code := none }
def k13m1 : Method := { name := "arraycopy", desc := "(Ljava/lang/Object;ILjava/lang/Object;II)V", sig := { parameters := [(.object "java/lang/Object"), .int, (.object "java/lang/Object"), .int, .int], returnType := none }, accessFlags := 265, code := none }
/-- java/lang/System -/
def k13 : Class := { plain "java/lang/System" (some 0) with
  accessFlags := 49
  interfaces := #[]
  cf := some (fileOf pool13 8 #[.nestMembers #[319, 327, 801, 108, 663, 208]] #[{ accessFlags := 2, nameIndex := 5, descriptorIndex := 6, attributes := #[] }, { accessFlags := 265, nameIndex := 727, descriptorIndex := 728, attributes := #[] }] 49 2 #[] #[{ accessFlags := 25, nameIndex := 507, descriptorIndex := 526, attributes := #[] }, { accessFlags := 25, nameIndex := 399, descriptorIndex := 155, attributes := #[] }, { accessFlags := 25, nameIndex := 396, descriptorIndex := 155, attributes := #[] }, { accessFlags := 10, nameIndex := 525, descriptorIndex := 526, attributes := #[] }, { accessFlags := 26, nameIndex := 674, descriptorIndex := 12, attributes := #[] }, { accessFlags := 26, nameIndex := 677, descriptorIndex := 12, attributes := #[] }, { accessFlags := 10, nameIndex := 11, descriptorIndex := 12, attributes := #[] }, { accessFlags := 74, nameIndex := 175, descriptorIndex := 176, attributes := #[] }, { accessFlags := 10, nameIndex := 491, descriptorIndex := 222, attributes := #[] }, { accessFlags := 74, nameIndex := 29, descriptorIndex := 30, attributes := #[] }, { accessFlags := 74, nameIndex := 154, descriptorIndex := 155, attributes := #[] }, { accessFlags := 10, nameIndex := 217, descriptorIndex := 218, attributes := #[] }, { accessFlags := 10, nameIndex := 221, descriptorIndex := 222, attributes := #[] }, { accessFlags := 8, nameIndex := 562, descriptorIndex := 563, attributes := #[] }])
  fields := #[{ name := "in", type := (.object "java/io/InputStream"), accessFlags := 25, slot := 0, constantValue := 0 }, { name := "out", type := (.object "java/io/PrintStream"), accessFlags := 25, slot := 1, constantValue := 0 }, { name := "err", type := (.object "java/io/PrintStream"), accessFlags := 25, slot := 2, constantValue := 0 }, { name := "initialIn", type := (.object "java/io/InputStream"), accessFlags := 10, slot := 3, constantValue := 0 }, { name := "NEVER", type := .int, accessFlags := 26, slot := 4, constantValue := 0 }, { name := "MAYBE", type := .int, accessFlags := 26, slot := 5, constantValue := 0 }, { name := "allowSecurityManager", type := .int, accessFlags := 10, slot := 6, constantValue := 0 }, { name := "security", type := (.object "java/lang/SecurityManager"), accessFlags := 74, slot := 7, constantValue := 0 }, { name := "notSupportedJnuEncoding", type := (.object "java/lang/String"), accessFlags := 10, slot := 8, constantValue := 0 }, { name := "cons", type := (.object "java/io/Console"), accessFlags := 74, slot := 9, constantValue := 0 }, { name := "initialErrStream", type := (.object "java/io/PrintStream"), accessFlags := 74, slot := 10, constantValue := 0 }, { name := "props", type := (.object "java/util/Properties"), accessFlags := 10, slot := 11, constantValue := 0 }, { name := "lineSeparator", type := (.object "java/lang/String"), accessFlags := 10, slot := 12, constantValue := 0 }, { name := "bootLayer", type := (.object "java/lang/ModuleLayer"), accessFlags := 8, slot := 13, constantValue := 0 }]
  methods := #[k13m0, k13m1]
  instanceTypes := #[]
  staticTypes := #[(.object "java/io/InputStream"), (.object "java/io/PrintStream"), (.object "java/io/PrintStream"), (.object "java/io/InputStream"), .int, .int, .int, (.object "java/lang/SecurityManager"), (.object "java/lang/String"), (.object "java/io/Console"), (.object "java/io/PrintStream"), (.object "java/util/Properties"), (.object "java/lang/String"), (.object "java/lang/ModuleLayer")]
  resolved := Array.replicate 834 none
  statics := none }

def pool14 : Array CpInfo := pool [(9, u "<init>"), (6, .class_ 18), (1, u "java/lang/Object"), (0, u "()V"), (1, .class_ 23), (1, u "jdk/internal/util/ArraysSupport"), (0, u "LOG2_ARRAY_LONG_INDEX_SCALE"), (0, u "I"), (2, u "U"), (0, u "Ljdk/internal/misc/Unsafe;"), (8, u "BIG_ENDIAN"), (0, u "Z"), (8, u "LOG2_BYTE_BIT_SIZE"), (4, u "LOG2_ARRAY_INT_INDEX_SCALE"), (54, u "JLA"), (0, u "Ljdk/internal/access/JavaLangAccess;"), (11, u "LOG2_ARRAY_BOOLEAN_INDEX_SCALE"), (9, u "LOG2_ARRAY_BYTE_INDEX_SCALE"), (5, u "LOG2_ARRAY_CHAR_INDEX_SCALE"), (5, u "LOG2_ARRAY_SHORT_INDEX_SCALE"), (18, u "LOG2_ARRAY_FLOAT_INDEX_SCALE"), (24, u "LOG2_ARRAY_DOUBLE_INDEX_SCALE"), (6, .methodref 195 196), (0, .class_ 197), (0, .nameAndType 198 199), (0, u "java/lang/Math"), (0, u "max"), (0, u "(II)I"), (0, .integer 2147483639), (76, u "T_BOOLEAN"), (2, u "T_CHAR"), (1, u "T_FLOAT"), (1, u "T_DOUBLE"), (1, u "T_BYTE"), (1, u "T_SHORT"), (1, u "T_INT"), (1, u "T_LONG"), (1, u "SOFT_MAX_ARRAY_LENGTH"), (56, u "newLength"), (0, u "(III)I")] 25

def k14m0 : Method := { name := "<init>", desc := "()V", sig := { parameters := [], returnType := none }, accessFlags := 2, code := none }
def k14c1 : Code := { maxStack := 3, maxLocals := 4, code := jdk_48_method_27_code, exceptionTable := #[], attributes := #[] }
def k14m1 : Method := { name := "newLength", desc := "(III)I", sig := { parameters := [.int, .int, .int], returnType := some .int }, accessFlags := 9, code := some k14c1 }
/-- jdk/internal/util/ArraysSupport -/
def k14 : Class := { plain "jdk/internal/util/ArraysSupport" (some 0) with
  accessFlags := 33
  interfaces := #[]
  cf := some (fileOf pool14 21 #[] #[{ accessFlags := 2, nameIndex := 9, descriptorIndex := 19, attributes := #[] }, { accessFlags := 9, nameIndex := 351, descriptorIndex := 352, attributes := #[] }] 33 16 #[] #[{ accessFlags := 24, nameIndex := 28, descriptorIndex := 29, attributes := #[] }, { accessFlags := 26, nameIndex := 38, descriptorIndex := 39, attributes := #[] }, { accessFlags := 25, nameIndex := 121, descriptorIndex := 25, attributes := #[] }, { accessFlags := 25, nameIndex := 131, descriptorIndex := 25, attributes := #[] }, { accessFlags := 25, nameIndex := 137, descriptorIndex := 25, attributes := #[] }, { accessFlags := 25, nameIndex := 143, descriptorIndex := 25, attributes := #[] }, { accessFlags := 25, nameIndex := 53, descriptorIndex := 25, attributes := #[] }, { accessFlags := 25, nameIndex := 24, descriptorIndex := 25, attributes := #[] }, { accessFlags := 25, nameIndex := 162, descriptorIndex := 25, attributes := #[] }, { accessFlags := 25, nameIndex := 187, descriptorIndex := 25, attributes := #[] }, { accessFlags := 26, nameIndex := 48, descriptorIndex := 25, attributes := #[] }, { accessFlags := 25, nameIndex := 277, descriptorIndex := 25, attributes := #[] }, { accessFlags := 25, nameIndex := 280, descriptorIndex := 25, attributes := #[] }, { accessFlags := 25, nameIndex := 282, descriptorIndex := 25, attributes := #[] }, { accessFlags := 25, nameIndex := 284, descriptorIndex := 25, attributes := #[] }, { accessFlags := 25, nameIndex := 286, descriptorIndex := 25, attributes := #[] }, { accessFlags := 25, nameIndex := 288, descriptorIndex := 25, attributes := #[] }, { accessFlags := 25, nameIndex := 290, descriptorIndex := 25, attributes := #[] }, { accessFlags := 25, nameIndex := 292, descriptorIndex := 25, attributes := #[] }, { accessFlags := 26, nameIndex := 108, descriptorIndex := 109, attributes := #[] }, { accessFlags := 25, nameIndex := 294, descriptorIndex := 25, attributes := #[] }])
  fields := #[{ name := "U", type := (.object "jdk/internal/misc/Unsafe"), accessFlags := 24, slot := 0, constantValue := 0 }, { name := "BIG_ENDIAN", type := .boolean, accessFlags := 26, slot := 1, constantValue := 0 }, { name := "LOG2_ARRAY_BOOLEAN_INDEX_SCALE", type := .int, accessFlags := 25, slot := 2, constantValue := 0 }, { name := "LOG2_ARRAY_BYTE_INDEX_SCALE", type := .int, accessFlags := 25, slot := 3, constantValue := 0 }, { name := "LOG2_ARRAY_CHAR_INDEX_SCALE", type := .int, accessFlags := 25, slot := 4, constantValue := 0 }, { name := "LOG2_ARRAY_SHORT_INDEX_SCALE", type := .int, accessFlags := 25, slot := 5, constantValue := 0 }, { name := "LOG2_ARRAY_INT_INDEX_SCALE", type := .int, accessFlags := 25, slot := 6, constantValue := 0 }, { name := "LOG2_ARRAY_LONG_INDEX_SCALE", type := .int, accessFlags := 25, slot := 7, constantValue := 0 }, { name := "LOG2_ARRAY_FLOAT_INDEX_SCALE", type := .int, accessFlags := 25, slot := 8, constantValue := 0 }, { name := "LOG2_ARRAY_DOUBLE_INDEX_SCALE", type := .int, accessFlags := 25, slot := 9, constantValue := 0 }, { name := "LOG2_BYTE_BIT_SIZE", type := .int, accessFlags := 26, slot := 10, constantValue := 0 }, { name := "T_BOOLEAN", type := .int, accessFlags := 25, slot := 11, constantValue := 0 }, { name := "T_CHAR", type := .int, accessFlags := 25, slot := 12, constantValue := 0 }, { name := "T_FLOAT", type := .int, accessFlags := 25, slot := 13, constantValue := 0 }, { name := "T_DOUBLE", type := .int, accessFlags := 25, slot := 14, constantValue := 0 }, { name := "T_BYTE", type := .int, accessFlags := 25, slot := 15, constantValue := 0 }, { name := "T_SHORT", type := .int, accessFlags := 25, slot := 16, constantValue := 0 }, { name := "T_INT", type := .int, accessFlags := 25, slot := 17, constantValue := 0 }, { name := "T_LONG", type := .int, accessFlags := 25, slot := 18, constantValue := 0 }, { name := "JLA", type := (.object "jdk/internal/access/JavaLangAccess"), accessFlags := 26, slot := 19, constantValue := 0 }, { name := "SOFT_MAX_ARRAY_LENGTH", type := .int, accessFlags := 25, slot := 20, constantValue := 0 }]
  methods := #[k14m0, k14m1]
  instanceTypes := #[]
  staticTypes := #[(.object "jdk/internal/misc/Unsafe"), .boolean, .int, .int, .int, .int, .int, .int, .int, .int, .int, .int, .int, .int, .int, .int, .int, .int, .int, (.object "jdk/internal/access/JavaLangAccess"), .int]
  resolved := Array.replicate 378 none
  statics := none }

def pool15 : Array CpInfo := pool [(1, .class_ 2), (0, u "java/lang/Math"), (1, .class_ 6), (1, u "java/lang/Object"), (0, u "<init>"), (0, u "()V"), (89, .class_ 100), (1, u "java/lang/Math$RandomNumberGeneratorHolder"), (71, u "negativeZeroFloatBits"), (0, u "J"), (2, u "negativeZeroDoubleBits"), (21, u "max"), (2, u "min"), (43, u "$assertionsDisabled"), (0, u "Z"), (88, u "(II)I"), (2, u "twoToTheDoubleScaleDown"), (0, u "D"), (4, u "twoToTheDoubleScaleUp"), (9, u "E"), (3, u "PI"), (2, u "TAU"), (2, u "DEGREES_TO_RADIANS"), (0, u "RADIANS_TO_DEGREES")] 94

def k15m0 : Method := { name := "<init>", desc := "()V", sig := { parameters := [], returnType := none }, accessFlags := 2, code := none }
def k15c1 : Code := { maxStack := 2, maxLocals := 2, code := jdk_29_method_65_code, exceptionTable := #[], attributes := #[] }
def k15m1 : Method := { name := "max", desc := "(II)I", sig := { parameters := [.int, .int], returnType := some .int }, accessFlags := 9, code := some k15c1 }
def k15c2 : Code := { maxStack := 2, maxLocals := 2, code := jdk_29_method_69_code, exceptionTable := #[], attributes := #[] }
def k15m2 : Method := { name := "min", desc := "(II)I", sig := { parameters := [.int, .int], returnType := some .int }, accessFlags := 9, code := some k15c2 }
/-- java/lang/Math -/
def k15 : Class := { plain "java/lang/Math" (some 0) with
  accessFlags := 49
  interfaces := #[]
  cf := some (fileOf pool15 1 #[.nestMembers #[98]] #[{ accessFlags := 2, nameIndex := 7, descriptorIndex := 8, attributes := #[] }, { accessFlags := 9, nameIndex := 198, descriptorIndex := 335, attributes := #[] }, { accessFlags := 9, nameIndex := 201, descriptorIndex := 335, attributes := #[] }] 49 4 #[] #[{ accessFlags := 25, nameIndex := 354, descriptorIndex := 339, attributes := #[] }, { accessFlags := 25, nameIndex := 358, descriptorIndex := 339, attributes := #[] }, { accessFlags := 25, nameIndex := 361, descriptorIndex := 339, attributes := #[] }, { accessFlags := 26, nameIndex := 364, descriptorIndex := 339, attributes := #[] }, { accessFlags := 26, nameIndex := 365, descriptorIndex := 339, attributes := #[] }, { accessFlags := 26, nameIndex := 172, descriptorIndex := 173, attributes := #[] }, { accessFlags := 26, nameIndex := 176, descriptorIndex := 173, attributes := #[] }, { accessFlags := 8, nameIndex := 344, descriptorIndex := 339, attributes := #[] }, { accessFlags := 8, nameIndex := 338, descriptorIndex := 339, attributes := #[] }, { accessFlags := 4120, nameIndex := 245, descriptorIndex := 246, attributes := #[] }])
  fields := #[{ name := "E", type := .double, accessFlags := 25, slot := 0, constantValue := 0 }, { name := "PI", type := .double, accessFlags := 25, slot := 1, constantValue := 0 }, { name := "TAU", type := .double, accessFlags := 25, slot := 2, constantValue := 0 }, { name := "DEGREES_TO_RADIANS", type := .double, accessFlags := 26, slot := 3, constantValue := 0 }, { name := "RADIANS_TO_DEGREES", type := .double, accessFlags := 26, slot := 4, constantValue := 0 }, { name := "negativeZeroFloatBits", type := .long, accessFlags := 26, slot := 5, constantValue := 0 }, { name := "negativeZeroDoubleBits", type := .long, accessFlags := 26, slot := 6, constantValue := 0 }, { name := "twoToTheDoubleScaleUp", type := .double, accessFlags := 8, slot := 7, constantValue := 0 }, { name := "twoToTheDoubleScaleDown", type := .double, accessFlags := 8, slot := 8, constantValue := 0 }, { name := "$assertionsDisabled", type := .boolean, accessFlags := 4120, slot := 9, constantValue := 0 }]
  methods := #[k15m0, k15m1, k15m2]
  instanceTypes := #[]
  staticTypes := #[.double, .double, .double, .double, .double, .long, .long, .double, .double, .boolean]
  resolved := Array.replicate 460 none
  statics := none }

def pool16 : Array CpInfo := pool [(2, .class_ 4), (1, u "java/lang/Object"), (0, u "<init>"), (0, u "()V"), (7, .class_ 16), (1, u "java/util/Arrays"), (57, .class_ 76), (1, u "java/util/Arrays$NaturalOrder"), (32, u "()Ljava/lang/Object;"), (3, .class_ 115), (1, u "java/util/Arrays$LegacyMergeSort"), (1, u "Z"), (10, .nameAndType 129 109), (0, u "clone"), (9, u "copyOfRange"), (10, .methodref 151 152), (0, .class_ 153), (0, .nameAndType 154 155), (0, u "java/lang/System"), (0, u "arraycopy"), (0, u "(Ljava/lang/Object;ILjava/lang/Object;II)V"), (146, u "copyOf"), (1, .methodref 305 306), (0, .class_ 307), (0, .nameAndType 308 309), (0, u "java/lang/Math"), (0, u "min"), (0, u "(II)I"), (0, .methodref 311 128), (0, .class_ 312), (0, u "[B"), (26, .methodref 14 340), (0, .nameAndType 341 342), (0, u "copyOfRangeByte"), (0, u "([BII)[B"), (0, .methodref 14 344), (0, .nameAndType 345 346), (0, u "checkLength"), (0, u "(II)V"), (28, .class_ 376), (0, u "java/util/Arrays$ArrayList"), (68, u "$assertionsDisabled"), (269, u "MIN_ARRAY_SORT_GRAN"), (0, u "I"), (2, u "INSERTIONSORT_THRESHOLD"), (149, u "([BI)[B"), (105, .class_ 976), (0, u "java/util/Arrays$ArrayItr")] 52

def k16m0 : Method := { name := "<init>", desc := "()V", sig := { parameters := [], returnType := none }, accessFlags := 2, code := none }
def k16c1 : Code := { maxStack := 6, maxLocals := 3, code := jdk_65_method_121_code, exceptionTable := #[], attributes := #[] }
def k16m1 : Method := { name := "copyOf", desc := "([BI)[B", sig := { parameters := [(.array .byte), .int], returnType := some (.array .byte) }, accessFlags := 9, code := some k16c1 }
def k16c2 : Code := { maxStack := 4, maxLocals := 2, code := jdk_65_method_131_code, exceptionTable := #[], attributes := #[] }
def k16m2 : Method := { name := "checkLength", desc := "(II)V", sig := { parameters := [.int, .int], returnType := none }, accessFlags := 10, code := some k16c2 }
def k16c3 : Code := { maxStack := 3, maxLocals := 3, code := jdk_65_method_132_code, exceptionTable := #[], attributes := #[] }
def k16m3 : Method := { name := "copyOfRange", desc := "([BII)[B", sig := { parameters := [(.array .byte), .int, .int], returnType := some (.array .byte) }, accessFlags := 9, code := some k16c3 }
def k16c4 : Code := { maxStack := 6, maxLocals := 5, code := jdk_65_method_133_code, exceptionTable := #[], attributes := #[] }
def k16m4 : Method := { name := "copyOfRangeByte", desc := "([BII)[B", sig := { parameters := [(.array .byte), .int, .int], returnType := some (.array .byte) }, accessFlags := 10, code := some k16c4 }
/-- java/util/Arrays -/
def k16 : Class := { plain "java/util/Arrays" (some 0) with
  accessFlags := 49
  interfaces := #[]
  cf := some (fileOf pool16 14 #[.nestMembers #[975, 375, 113, 74]] #[{ accessFlags := 2, nameIndex := 5, descriptorIndex := 6, attributes := #[] }, { accessFlags := 9, nameIndex := 302, descriptorIndex := 869, attributes := #[] }, { accessFlags := 10, nameIndex := 345, descriptorIndex := 346, attributes := #[] }, { accessFlags := 9, nameIndex := 139, descriptorIndex := 342, attributes := #[] }, { accessFlags := 10, nameIndex := 341, descriptorIndex := 342, attributes := #[] }] 49 2 #[] #[{ accessFlags := 26, nameIndex := 715, descriptorIndex := 716, attributes := #[] }, { accessFlags := 26, nameIndex := 719, descriptorIndex := 716, attributes := #[] }, { accessFlags := 4120, nameIndex := 445, descriptorIndex := 117, attributes := #[] }])
  fields := #[{ name := "MIN_ARRAY_SORT_GRAN", type := .int, accessFlags := 26, slot := 0, constantValue := 0 }, { name := "INSERTIONSORT_THRESHOLD", type := .int, accessFlags := 26, slot := 1, constantValue := 0 }, { name := "$assertionsDisabled", type := .boolean, accessFlags := 4120, slot := 2, constantValue := 0 }]
  methods := #[k16m0, k16m1, k16m2, k16m3, k16m4]
  instanceTypes := #[]
  staticTypes := #[.int, .int, .boolean]
  resolved := Array.replicate 1029 none
  statics := none }

def pool17 : Array CpInfo := pool [(1, .class_ 2), (0, u "java/lang/Cloneable"), (0, .class_ 4), (0, u "java/lang/Object")] 2

/-- java/lang/Cloneable -/
def k17 : Class := { plain "java/lang/Cloneable" (some 0) with
  accessFlags := 1537
  interfaces := #[]
  cf := some (fileOf pool17 1 #[] #[] 1537 3 #[] #[])
  fields := #[]
  methods := #[]
  instanceTypes := #[]
  staticTypes := #[]
  resolved := Array.replicate 7 none
  statics := none }

def pool18 : Array CpInfo := pool [(1, .class_ 2), (0, u "java/lang/String"), (1, .class_ 6), (1, u "java/lang/Object"), (0, u "<init>"), (0, u "()V"), (0, .methodref 1 10), (0, .nameAndType 11 12), (0, u "checkIndex"), (0, u "(II)V"), (1, .class_ 16), (1, u "java/lang/StringLatin1"), (36, u "([BI)C"), (67, u "$assertionsDisabled"), (0, u "Z"), (98, .class_ 223), (1, u "java/lang/StringLatin1$LinesSpliterator"), (28, u "charAt"), (28, u "equals"), (0, u "([B[B)Z"), (107, .class_ 391), (0, u "java/lang/StringLatin1$CharsSpliterator")] 3

def k18m0 : Method := { name := "<init>", desc := "()V", sig := { parameters := [], returnType := none }, accessFlags := 0, code := none }
def k18c1 : Code := { maxStack := 2, maxLocals := 2, code := jdk_43_method_2_code, exceptionTable := #[], attributes := #[] }
def k18m1 : Method := { name := "charAt", desc := "([BI)C", sig := { parameters := [(.array .byte), .int], returnType := some .char }, accessFlags := 9, code := some k18c1 }
def k18c2 : Code := { maxStack := 3, maxLocals := 3, code := jdk_43_method_13_code, exceptionTable := #[], attributes := #[] }
def k18m2 : Method := { name := "equals", desc := "([B[B)Z", sig := { parameters := [(.array .byte), (.array .byte)], returnType := some .boolean }, accessFlags := 9, code := some k18c2 }
/-- java/lang/StringLatin1 -/
def k18 : Class := { plain "java/lang/StringLatin1" (some 0) with
  accessFlags := 48
  interfaces := #[]
  cf := some (fileOf pool18 14 #[.nestMembers #[390, 221]] #[{ accessFlags := 0, nameIndex := 7, descriptorIndex := 8, attributes := #[] }, { accessFlags := 9, nameIndex := 252, descriptorIndex := 53, attributes := #[] }, { accessFlags := 9, nameIndex := 281, descriptorIndex := 282, attributes := #[] }] 48 4 #[] #[{ accessFlags := 4120, nameIndex := 121, descriptorIndex := 122, attributes := #[] }])
  fields := #[{ name := "$assertionsDisabled", type := .boolean, accessFlags := 4120, slot := 0, constantValue := 0 }]
  methods := #[k18m0, k18m1, k18m2]
  instanceTypes := #[]
  staticTypes := #[.boolean]
  resolved := Array.replicate 395 none
  statics := none }

def pool19 : Array CpInfo := pool [(2, .class_ 4), (1, u "java/lang/Object"), (0, u "<init>"), (0, u "()V"), (17, .class_ 26), (1, u "jdk/internal/util/Preconditions"), (6, u "checkIndex"), (21, .class_ 56), (0, u "jdk/internal/util/Preconditions$4"), (57, .class_ 115), (0, u "jdk/internal/util/Preconditions$1"), (7, u "SIOOBE_FORMATTER"), (0, u "Ljava/util/function/BiFunction;"), (0, .class_ 126), (0, u "jdk/internal/util/Preconditions$2"), (3, u "AIOOBE_FORMATTER"), (0, .class_ 132), (0, u "jdk/internal/util/Preconditions$3"), (3, u "IOOBE_FORMATTER"), (41, u "(IILjava/util/function/BiFunction;)I")] 15

def k19m0 : Method := { name := "<init>", desc := "()V", sig := { parameters := [], returnType := none }, accessFlags := 1, code := none }
def k19c1 : Code := { maxStack := 3, maxLocals := 3, code := jdk_41_method_11_code, exceptionTable := #[], attributes := #[] }
def k19m1 : Method := { name := "checkIndex", desc := "(IILjava/util/function/BiFunction;)I", sig := { parameters := [.int, .int, (.object "java/util/function/BiFunction")], returnType := some .int }, accessFlags := 9, code := some k19c1 }
/-- jdk/internal/util/Preconditions -/
def k19 : Class := { plain "jdk/internal/util/Preconditions" (some 0) with
  accessFlags := 33
  interfaces := #[]
  cf := some (fileOf pool19 24 #[.nestMembers #[55, 131, 125, 114]] #[{ accessFlags := 1, nameIndex := 5, descriptorIndex := 6, attributes := #[] }, { accessFlags := 9, nameIndex := 33, descriptorIndex := 178, attributes := #[] }] 33 2 #[] #[{ accessFlags := 25, nameIndex := 123, descriptorIndex := 124, attributes := #[] }, { accessFlags := 25, nameIndex := 130, descriptorIndex := 124, attributes := #[] }, { accessFlags := 25, nameIndex := 136, descriptorIndex := 124, attributes := #[] }])
  fields := #[{ name := "SIOOBE_FORMATTER", type := (.object "java/util/function/BiFunction"), accessFlags := 25, slot := 0, constantValue := 0 }, { name := "AIOOBE_FORMATTER", type := (.object "java/util/function/BiFunction"), accessFlags := 25, slot := 1, constantValue := 0 }, { name := "IOOBE_FORMATTER", type := (.object "java/util/function/BiFunction"), accessFlags := 25, slot := 2, constantValue := 0 }]
  methods := #[k19m0, k19m1]
  instanceTypes := #[]
  staticTypes := #[(.object "java/util/function/BiFunction"), (.object "java/util/function/BiFunction"), (.object "java/util/function/BiFunction")]
  resolved := Array.replicate 194 none
  statics := some 1 }

/-- the primitive byte -/
def k20 : Class := { plain "byte" none with kind := .primitive 'B', accessFlags := 0x411 }
/-- [B -/
def k21 : Class := { plain "[B" (some 0) with kind := .array 20 .byte, interfaces := #[17, 2], accessFlags := 1041 }

/-- the primitive char -/
def k22 : Class := { plain "char" none with kind := .primitive 'C', accessFlags := 0x411 }
/-- [C -/
def k23 : Class := { plain "[C" (some 0) with kind := .array 22 .char, interfaces := #[17, 2], accessFlags := 1041 }

def heap : Heap := #[{ cls := 7, slots := #[.long 0, .int 1, .null, .int 0, .null, .int 0, .int 0], vm := .statics 7 },
  { cls := 19, slots := #[.null, .null, .null], vm := .statics 19 }]
def classes : Array Class := #[k0, k1, k2, k3, k4, k5, k6, k7, k8, k9, k10, k11, k12, k13, k14, k15, k16, k17, k18, k19, k20, k21, k22, k23]
def interned : List (Array UInt16 × Addr) := []
def slotsUsed : Nat := 10
def theMethod : MethodId := ⟨1, 1⟩
def args0 : Array Value := #[.int 33620225, .int 50529027, .int 1, .int 27]
def aboutOver (below : List Frame) : State where
  vm := { classes := classes, interned := interned.toArray }
  heap := heap
  slotsUsed := slotsUsed
  threads := #[{ frames := .invoking theMethod args0 :: below }]
def below0 : List Frame := [.native { method := ⟨0, 0⟩, args := #[] }]
def about1 : State := aboutOver below0
def p0 : Program := .bare "" "" ""
def e0 : Env := launch0.env 0 0 0
theorem w_frames : about1.frames = Frame.invoking theMethod args0 :: below0 := rfl
set_option maxRecDepth 65536 in
theorem w_args : argsFit about1.vm theMethod args0 = true := by decide +kernel
set_option maxRecDepth 65536 in
theorem w_heap : heapFits about1 = true := by decide +kernel
set_option maxRecDepth 65536 in
theorem w_runnable : about1.curStatus? = some .runnable := by decide +kernel
set_option maxRecDepth 65536 in
theorem w_alone : about1.alone = true := by decide +kernel
set_option maxRecDepth 65536 in
theorem w_named : about1.methodNamed? x = some theMethod := by decide +kernel
set_option maxRecDepth 65536 in
theorem w_hears : about1.hears theMethod below0 = true := by decide +kernel
set_option maxRecDepth 65536 in
theorem w_ripe : about1.ripe theMethod args0 below0 = true := by decide +kernel
theorem w_running : about1.status = .running := rfl
set_option maxRecDepth 65536 in
theorem w_room : about1.hasRoom e0.platform room_1 = true :=
  launch0.hasRoom_least _ room_1 (by decide +kernel) (by decide +kernel) (by decide +kernel) (by decide +kernel) (by decide +kernel) (by decide +kernel)
theorem allAtoms_all (ts : List Jvm.Cond) (a : Array Jvm.Value) (st : Jvm.State) : (allAtoms ts).before a st = ts.all (fun c => c.before a st) := by
  induction ts with
  | nil => rfl
  | cons c t ih =>
    show (Jvm.Cond.and c (allAtoms t)).before a st = _
    rw [Jvm.Cond.before_and, ih, List.all_cons]
def words1 : List Jvm.Cond := Jvm.Cond.code x code maxLocals ret :: tables_1
/-- a 'code' word, met by the world's own term for the bytes: nothing is compared byte by byte -/
theorem code_word {y : MethodName} {bytes : ByteArray} {mx : Nat} {rt : Option FieldType} {a : Array Value} {s : State} {m : MethodId} {meth : Method} {c : Code} (h1 : s.methodNamed? y = some m) (h2 : s.vm.method? m = some meth) (h3 : meth.code = some c) (h4 : c.code = bytes)
    (h5 : (c.maxLocals == mx && c.exceptionTable.isEmpty && decide (c.maxStack ≤ mostOperands) && decide (meth.sig.returnType = rt) && !meth.locks && decide (parseMethodDescriptor y.desc = some meth.sig)) = true) : (Jvm.Cond.code y bytes mx rt).before a s = true := by
  simp only [Bool.and_eq_true, beq_iff_eq, Bool.not_eq_true', decide_eq_true_eq] at h5
  obtain ⟨⟨⟨⟨⟨g1, g2⟩, g3⟩, g4⟩, g5⟩, g6⟩ := h5
  simp [Cond.before, Cond.holds, Cond.value, h1, h2, h3, h4, g1, g2, g3, g4, g5, g6]
def isCode : Jvm.Cond → Bool
  | .code _ _ _ _ => true
  | _ => false
theorem all_split {L : List Jvm.Cond} {P : Jvm.Cond → Bool} (h1 : L.all (fun c => isCode c || P c) = true) (h2 : ∀ c ∈ L.filter isCode, P c = true) : L.all P = true := by
  refine List.all_eq_true.mpr fun c hc => ?_
  have h := List.all_eq_true.mp h1 c hc
  rcases Bool.eq_false_or_eq_true (isCode c) with hi | hi
  · exact h2 c (List.mem_filter.mpr ⟨hc, hi⟩)
  · simpa [hi] using h
set_option maxRecDepth 65536 in
theorem w_c0 : (Jvm.Cond.code x code maxLocals ret).before args0 about1 = true := code_word (m := ⟨1, 1⟩) (meth := k1m1) (c := k1c1) (by decide +kernel) rfl rfl rfl (by decide +kernel)
set_option maxRecDepth 65536 in
theorem w_c1 : (Jvm.Cond.code ({ cls := "com/example/savepoint/savepoint/AnnotationLookupNeverAppliesPinLaw", name := "draw", desc := "(II)Ljava/lang/String;" } : Jvm.MethodName) method_4_code (2 : Nat) (Option.some (Jvm.ClassFile.FieldType.object "java/lang/String"))).before args0 about1 = true := code_word (m := ⟨1, 3⟩) (meth := k1m3) (c := k1c3) (by decide +kernel) rfl rfl rfl (by decide +kernel)
set_option maxRecDepth 65536 in
theorem w_c2 : (Jvm.Cond.code ({ cls := "com/example/savepoint/savepoint/AnnotationLookupNeverAppliesPinLaw", name := "ch", desc := "(II)C" } : Jvm.MethodName) method_3_code (2 : Nat) (Option.some Jvm.ClassFile.FieldType.char)).before args0 about1 = true := code_word (m := ⟨1, 2⟩) (meth := k1m2) (c := k1c2) (by decide +kernel) rfl rfl rfl (by decide +kernel)
set_option maxRecDepth 65536 in
theorem w_c3 : (Jvm.Cond.code ({ cls := "java/lang/String", name := "<init>", desc := "([C)V" } : Jvm.MethodName) jdk_42_method_3_code (2 : Nat) (Option.none : Option Jvm.ClassFile.FieldType)).before args0 about1 = true := code_word (m := ⟨7, 1⟩) (meth := k7m1) (c := k7c1) (by decide +kernel) rfl rfl rfl (by decide +kernel)
set_option maxRecDepth 65536 in
theorem w_c4 : (Jvm.Cond.code ({ cls := "java/lang/String", name := "<init>", desc := "([CIILjava/lang/Void;)V" } : Jvm.MethodName) jdk_42_method_149_code (6 : Nat) (Option.none : Option Jvm.ClassFile.FieldType)).before args0 about1 = true := code_word (m := ⟨7, 7⟩) (meth := k7m7) (c := k7c7) (by decide +kernel) rfl rfl rfl (by decide +kernel)
set_option maxRecDepth 65536 in
theorem w_c5 : (Jvm.Cond.code ({ cls := "java/lang/Object", name := "<init>", desc := "()V" } : Jvm.MethodName) object_method_1_code (1 : Nat) (Option.none : Option Jvm.ClassFile.FieldType)).before args0 about1 = true := code_word (m := ⟨0, 0⟩) (meth := k0m0) (c := k0c0) (by decide +kernel) rfl rfl rfl (by decide +kernel)
set_option maxRecDepth 65536 in
theorem w_c6 : (Jvm.Cond.code ({ cls := "java/lang/StringUTF16", name := "compress", desc := "([CII)[B" } : Jvm.MethodName) jdk_52_method_16_code (6 : Nat) (Option.some (Jvm.ClassFile.FieldType.array Jvm.ClassFile.FieldType.byte))).before args0 about1 = true := code_word (m := ⟨8, 2⟩) (meth := k8m2) (c := k8c2) (by decide +kernel) rfl rfl rfl (by decide +kernel)
set_option maxRecDepth 65536 in
theorem w_c7 : (Jvm.Cond.code ({ cls := "java/lang/StringUTF16", name := "compress", desc := "([CI[BII)I" } : Jvm.MethodName) jdk_52_method_21_code (7 : Nat) (Option.some Jvm.ClassFile.FieldType.int)).before args0 about1 = true := code_word (m := ⟨8, 3⟩) (meth := k8m3) (c := k8c3) (by decide +kernel) rfl rfl rfl (by decide +kernel)
set_option maxRecDepth 65536 in
theorem w_c8 : (Jvm.Cond.code ({ cls := "java/lang/StringUTF16", name := "coderFromArrayLen", desc := "([BI)B" } : Jvm.MethodName) jdk_52_method_15_code (2 : Nat) (Option.some Jvm.ClassFile.FieldType.byte)).before args0 about1 = true := code_word (m := ⟨8, 1⟩) (meth := k8m1) (c := k8c1) (by decide +kernel) rfl rfl rfl (by decide +kernel)
set_option maxRecDepth 65536 in
theorem w_c9 : (Jvm.Cond.code ({ cls := "com/example/savepoint/savepoint/AnnotationLookup", name := "neverApplies", desc := "(Ljava/lang/String;Ljava/lang/String;Ljava/lang/String;)Ljava/lang/String;" } : Jvm.MethodName) prog_1_method_5_code (3 : Nat) (Option.some (Jvm.ClassFile.FieldType.object "java/lang/String"))).before args0 about1 = true := code_word (m := ⟨9, 1⟩) (meth := k9m1) (c := k9c1) (by decide +kernel) rfl rfl rfl (by decide +kernel)
set_option maxRecDepth 65536 in
theorem w_c10 : (Jvm.Cond.code ({ cls := "java/lang/StringBuilder", name := "<init>", desc := "()V" } : Jvm.MethodName) jdk_67_method_1_code (1 : Nat) (Option.none : Option Jvm.ClassFile.FieldType)).before args0 about1 = true := code_word (m := ⟨12, 0⟩) (meth := k12m0) (c := k12c0) (by decide +kernel) rfl rfl rfl (by decide +kernel)
set_option maxRecDepth 65536 in
theorem w_c11 : (Jvm.Cond.code ({ cls := "java/lang/AbstractStringBuilder", name := "<init>", desc := "(I)V" } : Jvm.MethodName) jdk_68_method_2_code (2 : Nat) (Option.none : Option Jvm.ClassFile.FieldType)).before args0 about1 = true := code_word (m := ⟨11, 1⟩) (meth := k11m1) (c := k11c1) (by decide +kernel) rfl rfl rfl (by decide +kernel)
set_option maxRecDepth 65536 in
theorem w_c12 : (Jvm.Cond.code ({ cls := "java/lang/StringBuilder", name := "append", desc := "(Ljava/lang/String;)Ljava/lang/StringBuilder;" } : Jvm.MethodName) jdk_67_method_7_code (2 : Nat) (Option.some (Jvm.ClassFile.FieldType.object "java/lang/StringBuilder"))).before args0 about1 = true := code_word (m := ⟨12, 1⟩) (meth := k12m1) (c := k12c1) (by decide +kernel) rfl rfl rfl (by decide +kernel)
set_option maxRecDepth 65536 in
theorem w_c13 : (Jvm.Cond.code ({ cls := "java/lang/AbstractStringBuilder", name := "append", desc := "(Ljava/lang/String;)Ljava/lang/AbstractStringBuilder;" } : Jvm.MethodName) jdk_68_method_22_code (3 : Nat) (Option.some (Jvm.ClassFile.FieldType.object "java/lang/AbstractStringBuilder"))).before args0 about1 = true := code_word (m := ⟨11, 5⟩) (meth := k11m5) (c := k11c5) (by decide +kernel) rfl rfl rfl (by decide +kernel)
set_option maxRecDepth 65536 in
theorem w_c14 : (Jvm.Cond.code ({ cls := "java/lang/String", name := "length", desc := "()I" } : Jvm.MethodName) jdk_42_method_54_code (1 : Nat) (Option.some Jvm.ClassFile.FieldType.int)).before args0 about1 = true := code_word (m := ⟨7, 3⟩) (meth := k7m3) (c := k7c3) (by decide +kernel) rfl rfl rfl (by decide +kernel)
set_option maxRecDepth 65536 in
theorem w_c15 : (Jvm.Cond.code ({ cls := "java/lang/String", name := "coder", desc := "()B" } : Jvm.MethodName) jdk_42_method_152_code (1 : Nat) (Option.some Jvm.ClassFile.FieldType.byte)).before args0 about1 = true := code_word (m := ⟨7, 9⟩) (meth := k7m9) (c := k7c9) (by decide +kernel) rfl rfl rfl (by decide +kernel)
set_option maxRecDepth 65536 in
theorem w_c16 : (Jvm.Cond.code ({ cls := "java/lang/AbstractStringBuilder", name := "ensureCapacityInternal", desc := "(I)V" } : Jvm.MethodName) jdk_68_method_9_code (3 : Nat) (Option.none : Option Jvm.ClassFile.FieldType)).before args0 about1 = true := code_word (m := ⟨11, 3⟩) (meth := k11m3) (c := k11c3) (by decide +kernel) rfl rfl rfl (by decide +kernel)
set_option maxRecDepth 65536 in
theorem w_c17 : (Jvm.Cond.code ({ cls := "java/lang/AbstractStringBuilder", name := "putStringAt", desc := "(ILjava/lang/String;)V" } : Jvm.MethodName) jdk_68_method_73_code (3 : Nat) (Option.none : Option Jvm.ClassFile.FieldType)).before args0 about1 = true := code_word (m := ⟨11, 9⟩) (meth := k11m9) (c := k11c9) (by decide +kernel) rfl rfl rfl (by decide +kernel)
set_option maxRecDepth 65536 in
theorem w_c18 : (Jvm.Cond.code ({ cls := "java/lang/AbstractStringBuilder", name := "inflateIfNeededFor", desc := "(Ljava/lang/String;)V" } : Jvm.MethodName) jdk_68_method_71_code (2 : Nat) (Option.none : Option Jvm.ClassFile.FieldType)).before args0 about1 = true := code_word (m := ⟨11, 8⟩) (meth := k11m8) (c := k11c8) (by decide +kernel) rfl rfl rfl (by decide +kernel)
set_option maxRecDepth 65536 in
theorem w_c19 : (Jvm.Cond.code ({ cls := "java/lang/String", name := "getBytes", desc := "([BIB)V" } : Jvm.MethodName) jdk_42_method_147_code (4 : Nat) (Option.none : Option Jvm.ClassFile.FieldType)).before args0 about1 = true := code_word (m := ⟨7, 6⟩) (meth := k7m6) (c := k7c6) (by decide +kernel) rfl rfl rfl (by decide +kernel)
set_option maxRecDepth 65536 in
theorem w_c20 : (Jvm.Cond.code ({ cls := "java/lang/AbstractStringBuilder", name := "newCapacity", desc := "(I)I" } : Jvm.MethodName) jdk_68_method_10_code (6 : Nat) (Option.some Jvm.ClassFile.FieldType.int)).before args0 about1 = true := code_word (m := ⟨11, 4⟩) (meth := k11m4) (c := k11c4) (by decide +kernel) rfl rfl rfl (by decide +kernel)
set_option maxRecDepth 65536 in
theorem w_c21 : (Jvm.Cond.code ({ cls := "jdk/internal/util/ArraysSupport", name := "newLength", desc := "(III)I" } : Jvm.MethodName) jdk_48_method_27_code (4 : Nat) (Option.some Jvm.ClassFile.FieldType.int)).before args0 about1 = true := code_word (m := ⟨14, 1⟩) (meth := k14m1) (c := k14c1) (by decide +kernel) rfl rfl rfl (by decide +kernel)
set_option maxRecDepth 65536 in
theorem w_c22 : (Jvm.Cond.code ({ cls := "java/lang/Math", name := "max", desc := "(II)I" } : Jvm.MethodName) jdk_29_method_65_code (2 : Nat) (Option.some Jvm.ClassFile.FieldType.int)).before args0 about1 = true := code_word (m := ⟨15, 1⟩) (meth := k15m1) (c := k15c1) (by decide +kernel) rfl rfl rfl (by decide +kernel)
set_option maxRecDepth 65536 in
theorem w_c23 : (Jvm.Cond.code ({ cls := "java/util/Arrays", name := "copyOf", desc := "([BI)[B" } : Jvm.MethodName) jdk_65_method_121_code (3 : Nat) (Option.some (Jvm.ClassFile.FieldType.array Jvm.ClassFile.FieldType.byte))).before args0 about1 = true := code_word (m := ⟨16, 1⟩) (meth := k16m1) (c := k16c1) (by decide +kernel) rfl rfl rfl (by decide +kernel)
set_option maxRecDepth 65536 in
theorem w_c24 : (Jvm.Cond.code ({ cls := "java/lang/Math", name := "min", desc := "(II)I" } : Jvm.MethodName) jdk_29_method_69_code (2 : Nat) (Option.some Jvm.ClassFile.FieldType.int)).before args0 about1 = true := code_word (m := ⟨15, 2⟩) (meth := k15m2) (c := k15c2) (by decide +kernel) rfl rfl rfl (by decide +kernel)
set_option maxRecDepth 65536 in
theorem w_c25 : (Jvm.Cond.code ({ cls := "com/example/savepoint/savepoint/AnnotationLookup", name := "couldNeverApply", desc := "(Ljava/lang/String;)Ljava/lang/String;" } : Jvm.MethodName) prog_1_method_6_code (1 : Nat) (Option.some (Jvm.ClassFile.FieldType.object "java/lang/String"))).before args0 about1 = true := code_word (m := ⟨9, 2⟩) (meth := k9m2) (c := k9c2) (by decide +kernel) rfl rfl rfl (by decide +kernel)
set_option maxRecDepth 65536 in
theorem w_c26 : (Jvm.Cond.code ({ cls := "java/lang/StringBuilder", name := "toString", desc := "()Ljava/lang/String;" } : Jvm.MethodName) jdk_67_method_42_code (1 : Nat) (Option.some (Jvm.ClassFile.FieldType.object "java/lang/String"))).before args0 about1 = true := code_word (m := ⟨12, 2⟩) (meth := k12m2) (c := k12c2) (by decide +kernel) rfl rfl rfl (by decide +kernel)
set_option maxRecDepth 65536 in
theorem w_c27 : (Jvm.Cond.code ({ cls := "java/lang/String", name := "<init>", desc := "(Ljava/lang/StringBuilder;)V" } : Jvm.MethodName) jdk_42_method_53_code (2 : Nat) (Option.none : Option Jvm.ClassFile.FieldType)).before args0 about1 = true := code_word (m := ⟨7, 2⟩) (meth := k7m2) (c := k7c2) (by decide +kernel) rfl rfl rfl (by decide +kernel)
set_option maxRecDepth 65536 in
theorem w_c28 : (Jvm.Cond.code ({ cls := "java/lang/String", name := "<init>", desc := "(Ljava/lang/AbstractStringBuilder;Ljava/lang/Void;)V" } : Jvm.MethodName) jdk_42_method_150_code (5 : Nat) (Option.none : Option Jvm.ClassFile.FieldType)).before args0 about1 = true := code_word (m := ⟨7, 8⟩) (meth := k7m8) (c := k7c8) (by decide +kernel) rfl rfl rfl (by decide +kernel)
set_option maxRecDepth 65536 in
theorem w_c29 : (Jvm.Cond.code ({ cls := "java/lang/AbstractStringBuilder", name := "getValue", desc := "()[B" } : Jvm.MethodName) jdk_68_method_64_code (1 : Nat) (Option.some (Jvm.ClassFile.FieldType.array Jvm.ClassFile.FieldType.byte))).before args0 about1 = true := code_word (m := ⟨11, 6⟩) (meth := k11m6) (c := k11c6) (by decide +kernel) rfl rfl rfl (by decide +kernel)
set_option maxRecDepth 65536 in
theorem w_c30 : (Jvm.Cond.code ({ cls := "java/lang/StringBuilder", name := "length", desc := "()I" } : Jvm.MethodName) jdk_67_method_93_code (1 : Nat) (Option.some Jvm.ClassFile.FieldType.int)).before args0 about1 = true := code_word (m := ⟨12, 3⟩) (meth := k12m3) (c := k12c3) (by decide +kernel) rfl rfl rfl (by decide +kernel)
set_option maxRecDepth 65536 in
theorem w_c31 : (Jvm.Cond.code ({ cls := "java/lang/AbstractStringBuilder", name := "length", desc := "()I" } : Jvm.MethodName) jdk_68_method_6_code (1 : Nat) (Option.some Jvm.ClassFile.FieldType.int)).before args0 about1 = true := code_word (m := ⟨11, 2⟩) (meth := k11m2) (c := k11c2) (by decide +kernel) rfl rfl rfl (by decide +kernel)
set_option maxRecDepth 65536 in
theorem w_c32 : (Jvm.Cond.code ({ cls := "java/lang/AbstractStringBuilder", name := "isLatin1", desc := "()Z" } : Jvm.MethodName) jdk_68_method_68_code (1 : Nat) (Option.some Jvm.ClassFile.FieldType.boolean)).before args0 about1 = true := code_word (m := ⟨11, 7⟩) (meth := k11m7) (c := k11c7) (by decide +kernel) rfl rfl rfl (by decide +kernel)
set_option maxRecDepth 65536 in
theorem w_c33 : (Jvm.Cond.code ({ cls := "java/util/Arrays", name := "copyOfRange", desc := "([BII)[B" } : Jvm.MethodName) jdk_65_method_132_code (3 : Nat) (Option.some (Jvm.ClassFile.FieldType.array Jvm.ClassFile.FieldType.byte))).before args0 about1 = true := code_word (m := ⟨16, 3⟩) (meth := k16m3) (c := k16c3) (by decide +kernel) rfl rfl rfl (by decide +kernel)
set_option maxRecDepth 65536 in
theorem w_c34 : (Jvm.Cond.code ({ cls := "java/util/Arrays", name := "copyOfRangeByte", desc := "([BII)[B" } : Jvm.MethodName) jdk_65_method_133_code (5 : Nat) (Option.some (Jvm.ClassFile.FieldType.array Jvm.ClassFile.FieldType.byte))).before args0 about1 = true := code_word (m := ⟨16, 4⟩) (meth := k16m4) (c := k16c4) (by decide +kernel) rfl rfl rfl (by decide +kernel)
set_option maxRecDepth 65536 in
theorem w_c35 : (Jvm.Cond.code ({ cls := "java/util/Arrays", name := "checkLength", desc := "(II)V" } : Jvm.MethodName) jdk_65_method_131_code (2 : Nat) (Option.none : Option Jvm.ClassFile.FieldType)).before args0 about1 = true := code_word (m := ⟨16, 2⟩) (meth := k16m2) (c := k16c2) (by decide +kernel) rfl rfl rfl (by decide +kernel)
set_option maxRecDepth 65536 in
theorem w_c36 : (Jvm.Cond.code ({ cls := "java/lang/String", name := "equals", desc := "(Ljava/lang/Object;)Z" } : Jvm.MethodName) jdk_42_method_66_code (3 : Nat) (Option.some Jvm.ClassFile.FieldType.boolean)).before args0 about1 = true := code_word (m := ⟨7, 5⟩) (meth := k7m5) (c := k7c5) (by decide +kernel) rfl rfl rfl (by decide +kernel)
set_option maxRecDepth 65536 in
theorem w_c37 : (Jvm.Cond.code ({ cls := "java/lang/StringLatin1", name := "equals", desc := "([B[B)Z" } : Jvm.MethodName) jdk_43_method_13_code (3 : Nat) (Option.some Jvm.ClassFile.FieldType.boolean)).before args0 about1 = true := code_word (m := ⟨18, 2⟩) (meth := k18m2) (c := k18c2) (by decide +kernel) rfl rfl rfl (by decide +kernel)
set_option maxRecDepth 65536 in
theorem w_c38 : (Jvm.Cond.code ({ cls := "com/example/savepoint/savepoint/AnnotationLookupNeverAppliesPinLaw", name := "drawnAt", desc := "(Ljava/lang/String;III)Z" } : Jvm.MethodName) method_5_code (4 : Nat) (Option.some Jvm.ClassFile.FieldType.boolean)).before args0 about1 = true := code_word (m := ⟨1, 4⟩) (meth := k1m4) (c := k1c4) (by decide +kernel) rfl rfl rfl (by decide +kernel)
set_option maxRecDepth 65536 in
theorem w_c39 : (Jvm.Cond.code ({ cls := "java/lang/String", name := "charAt", desc := "(I)C" } : Jvm.MethodName) jdk_42_method_56_code (2 : Nat) (Option.some Jvm.ClassFile.FieldType.char)).before args0 about1 = true := code_word (m := ⟨7, 4⟩) (meth := k7m4) (c := k7c4) (by decide +kernel) rfl rfl rfl (by decide +kernel)
set_option maxRecDepth 65536 in
theorem w_c40 : (Jvm.Cond.code ({ cls := "java/lang/String", name := "isLatin1", desc := "()Z" } : Jvm.MethodName) jdk_42_method_154_code (1 : Nat) (Option.some Jvm.ClassFile.FieldType.boolean)).before args0 about1 = true := code_word (m := ⟨7, 10⟩) (meth := k7m10) (c := k7c10) (by decide +kernel) rfl rfl rfl (by decide +kernel)
set_option maxRecDepth 65536 in
theorem w_c41 : (Jvm.Cond.code ({ cls := "java/lang/StringLatin1", name := "charAt", desc := "([BI)C" } : Jvm.MethodName) jdk_43_method_2_code (2 : Nat) (Option.some Jvm.ClassFile.FieldType.char)).before args0 about1 = true := code_word (m := ⟨18, 1⟩) (meth := k18m1) (c := k18c1) (by decide +kernel) rfl rfl rfl (by decide +kernel)
set_option maxRecDepth 65536 in
theorem w_c42 : (Jvm.Cond.code ({ cls := "java/lang/String", name := "checkIndex", desc := "(II)V" } : Jvm.MethodName) jdk_42_method_155_code (2 : Nat) (Option.none : Option Jvm.ClassFile.FieldType)).before args0 about1 = true := code_word (m := ⟨7, 11⟩) (meth := k7m11) (c := k7c11) (by decide +kernel) rfl rfl rfl (by decide +kernel)
set_option maxRecDepth 65536 in
theorem w_c43 : (Jvm.Cond.code ({ cls := "jdk/internal/util/Preconditions", name := "checkIndex", desc := "(IILjava/util/function/BiFunction;)I" } : Jvm.MethodName) jdk_41_method_11_code (3 : Nat) (Option.some Jvm.ClassFile.FieldType.int)).before args0 about1 = true := code_word (m := ⟨19, 1⟩) (meth := k19m1) (c := k19c1) (by decide +kernel) rfl rfl rfl (by decide +kernel)
def codes1 : List Jvm.Cond := [Jvm.Cond.code x code maxLocals ret, Jvm.Cond.code ({ cls := "com/example/savepoint/savepoint/AnnotationLookupNeverAppliesPinLaw", name := "draw", desc := "(II)Ljava/lang/String;" } : Jvm.MethodName) method_4_code (2 : Nat) (Option.some (Jvm.ClassFile.FieldType.object "java/lang/String")), Jvm.Cond.code ({ cls := "com/example/savepoint/savepoint/AnnotationLookupNeverAppliesPinLaw", name := "ch", desc := "(II)C" } : Jvm.MethodName) method_3_code (2 : Nat) (Option.some Jvm.ClassFile.FieldType.char), Jvm.Cond.code ({ cls := "java/lang/String", name := "<init>", desc := "([C)V" } : Jvm.MethodName) jdk_42_method_3_code (2 : Nat) (Option.none : Option Jvm.ClassFile.FieldType), Jvm.Cond.code ({ cls := "java/lang/String", name := "<init>", desc := "([CIILjava/lang/Void;)V" } : Jvm.MethodName) jdk_42_method_149_code (6 : Nat) (Option.none : Option Jvm.ClassFile.FieldType), Jvm.Cond.code ({ cls := "java/lang/Object", name := "<init>", desc := "()V" } : Jvm.MethodName) object_method_1_code (1 : Nat) (Option.none : Option Jvm.ClassFile.FieldType), Jvm.Cond.code ({ cls := "java/lang/StringUTF16", name := "compress", desc := "([CII)[B" } : Jvm.MethodName) jdk_52_method_16_code (6 : Nat) (Option.some (Jvm.ClassFile.FieldType.array Jvm.ClassFile.FieldType.byte)), Jvm.Cond.code ({ cls := "java/lang/StringUTF16", name := "compress", desc := "([CI[BII)I" } : Jvm.MethodName) jdk_52_method_21_code (7 : Nat) (Option.some Jvm.ClassFile.FieldType.int), Jvm.Cond.code ({ cls := "java/lang/StringUTF16", name := "coderFromArrayLen", desc := "([BI)B" } : Jvm.MethodName) jdk_52_method_15_code (2 : Nat) (Option.some Jvm.ClassFile.FieldType.byte), Jvm.Cond.code ({ cls := "com/example/savepoint/savepoint/AnnotationLookup", name := "neverApplies", desc := "(Ljava/lang/String;Ljava/lang/String;Ljava/lang/String;)Ljava/lang/String;" } : Jvm.MethodName) prog_1_method_5_code (3 : Nat) (Option.some (Jvm.ClassFile.FieldType.object "java/lang/String")), Jvm.Cond.code ({ cls := "java/lang/StringBuilder", name := "<init>", desc := "()V" } : Jvm.MethodName) jdk_67_method_1_code (1 : Nat) (Option.none : Option Jvm.ClassFile.FieldType), Jvm.Cond.code ({ cls := "java/lang/AbstractStringBuilder", name := "<init>", desc := "(I)V" } : Jvm.MethodName) jdk_68_method_2_code (2 : Nat) (Option.none : Option Jvm.ClassFile.FieldType), Jvm.Cond.code ({ cls := "java/lang/StringBuilder", name := "append", desc := "(Ljava/lang/String;)Ljava/lang/StringBuilder;" } : Jvm.MethodName) jdk_67_method_7_code (2 : Nat) (Option.some (Jvm.ClassFile.FieldType.object "java/lang/StringBuilder")), Jvm.Cond.code ({ cls := "java/lang/AbstractStringBuilder", name := "append", desc := "(Ljava/lang/String;)Ljava/lang/AbstractStringBuilder;" } : Jvm.MethodName) jdk_68_method_22_code (3 : Nat) (Option.some (Jvm.ClassFile.FieldType.object "java/lang/AbstractStringBuilder")), Jvm.Cond.code ({ cls := "java/lang/String", name := "length", desc := "()I" } : Jvm.MethodName) jdk_42_method_54_code (1 : Nat) (Option.some Jvm.ClassFile.FieldType.int), Jvm.Cond.code ({ cls := "java/lang/String", name := "coder", desc := "()B" } : Jvm.MethodName) jdk_42_method_152_code (1 : Nat) (Option.some Jvm.ClassFile.FieldType.byte), Jvm.Cond.code ({ cls := "java/lang/AbstractStringBuilder", name := "ensureCapacityInternal", desc := "(I)V" } : Jvm.MethodName) jdk_68_method_9_code (3 : Nat) (Option.none : Option Jvm.ClassFile.FieldType), Jvm.Cond.code ({ cls := "java/lang/AbstractStringBuilder", name := "putStringAt", desc := "(ILjava/lang/String;)V" } : Jvm.MethodName) jdk_68_method_73_code (3 : Nat) (Option.none : Option Jvm.ClassFile.FieldType), Jvm.Cond.code ({ cls := "java/lang/AbstractStringBuilder", name := "inflateIfNeededFor", desc := "(Ljava/lang/String;)V" } : Jvm.MethodName) jdk_68_method_71_code (2 : Nat) (Option.none : Option Jvm.ClassFile.FieldType), Jvm.Cond.code ({ cls := "java/lang/String", name := "getBytes", desc := "([BIB)V" } : Jvm.MethodName) jdk_42_method_147_code (4 : Nat) (Option.none : Option Jvm.ClassFile.FieldType), Jvm.Cond.code ({ cls := "java/lang/AbstractStringBuilder", name := "newCapacity", desc := "(I)I" } : Jvm.MethodName) jdk_68_method_10_code (6 : Nat) (Option.some Jvm.ClassFile.FieldType.int), Jvm.Cond.code ({ cls := "jdk/internal/util/ArraysSupport", name := "newLength", desc := "(III)I" } : Jvm.MethodName) jdk_48_method_27_code (4 : Nat) (Option.some Jvm.ClassFile.FieldType.int), Jvm.Cond.code ({ cls := "java/lang/Math", name := "max", desc := "(II)I" } : Jvm.MethodName) jdk_29_method_65_code (2 : Nat) (Option.some Jvm.ClassFile.FieldType.int), Jvm.Cond.code ({ cls := "java/util/Arrays", name := "copyOf", desc := "([BI)[B" } : Jvm.MethodName) jdk_65_method_121_code (3 : Nat) (Option.some (Jvm.ClassFile.FieldType.array Jvm.ClassFile.FieldType.byte)), Jvm.Cond.code ({ cls := "java/lang/Math", name := "min", desc := "(II)I" } : Jvm.MethodName) jdk_29_method_69_code (2 : Nat) (Option.some Jvm.ClassFile.FieldType.int), Jvm.Cond.code ({ cls := "com/example/savepoint/savepoint/AnnotationLookup", name := "couldNeverApply", desc := "(Ljava/lang/String;)Ljava/lang/String;" } : Jvm.MethodName) prog_1_method_6_code (1 : Nat) (Option.some (Jvm.ClassFile.FieldType.object "java/lang/String")), Jvm.Cond.code ({ cls := "java/lang/StringBuilder", name := "toString", desc := "()Ljava/lang/String;" } : Jvm.MethodName) jdk_67_method_42_code (1 : Nat) (Option.some (Jvm.ClassFile.FieldType.object "java/lang/String")), Jvm.Cond.code ({ cls := "java/lang/String", name := "<init>", desc := "(Ljava/lang/StringBuilder;)V" } : Jvm.MethodName) jdk_42_method_53_code (2 : Nat) (Option.none : Option Jvm.ClassFile.FieldType), Jvm.Cond.code ({ cls := "java/lang/String", name := "<init>", desc := "(Ljava/lang/AbstractStringBuilder;Ljava/lang/Void;)V" } : Jvm.MethodName) jdk_42_method_150_code (5 : Nat) (Option.none : Option Jvm.ClassFile.FieldType), Jvm.Cond.code ({ cls := "java/lang/AbstractStringBuilder", name := "getValue", desc := "()[B" } : Jvm.MethodName) jdk_68_method_64_code (1 : Nat) (Option.some (Jvm.ClassFile.FieldType.array Jvm.ClassFile.FieldType.byte)), Jvm.Cond.code ({ cls := "java/lang/StringBuilder", name := "length", desc := "()I" } : Jvm.MethodName) jdk_67_method_93_code (1 : Nat) (Option.some Jvm.ClassFile.FieldType.int), Jvm.Cond.code ({ cls := "java/lang/AbstractStringBuilder", name := "length", desc := "()I" } : Jvm.MethodName) jdk_68_method_6_code (1 : Nat) (Option.some Jvm.ClassFile.FieldType.int), Jvm.Cond.code ({ cls := "java/lang/AbstractStringBuilder", name := "isLatin1", desc := "()Z" } : Jvm.MethodName) jdk_68_method_68_code (1 : Nat) (Option.some Jvm.ClassFile.FieldType.boolean), Jvm.Cond.code ({ cls := "java/util/Arrays", name := "copyOfRange", desc := "([BII)[B" } : Jvm.MethodName) jdk_65_method_132_code (3 : Nat) (Option.some (Jvm.ClassFile.FieldType.array Jvm.ClassFile.FieldType.byte)), Jvm.Cond.code ({ cls := "java/util/Arrays", name := "copyOfRangeByte", desc := "([BII)[B" } : Jvm.MethodName) jdk_65_method_133_code (5 : Nat) (Option.some (Jvm.ClassFile.FieldType.array Jvm.ClassFile.FieldType.byte)), Jvm.Cond.code ({ cls := "java/util/Arrays", name := "checkLength", desc := "(II)V" } : Jvm.MethodName) jdk_65_method_131_code (2 : Nat) (Option.none : Option Jvm.ClassFile.FieldType), Jvm.Cond.code ({ cls := "java/lang/String", name := "equals", desc := "(Ljava/lang/Object;)Z" } : Jvm.MethodName) jdk_42_method_66_code (3 : Nat) (Option.some Jvm.ClassFile.FieldType.boolean), Jvm.Cond.code ({ cls := "java/lang/StringLatin1", name := "equals", desc := "([B[B)Z" } : Jvm.MethodName) jdk_43_method_13_code (3 : Nat) (Option.some Jvm.ClassFile.FieldType.boolean), Jvm.Cond.code ({ cls := "com/example/savepoint/savepoint/AnnotationLookupNeverAppliesPinLaw", name := "drawnAt", desc := "(Ljava/lang/String;III)Z" } : Jvm.MethodName) method_5_code (4 : Nat) (Option.some Jvm.ClassFile.FieldType.boolean), Jvm.Cond.code ({ cls := "java/lang/String", name := "charAt", desc := "(I)C" } : Jvm.MethodName) jdk_42_method_56_code (2 : Nat) (Option.some Jvm.ClassFile.FieldType.char), Jvm.Cond.code ({ cls := "java/lang/String", name := "isLatin1", desc := "()Z" } : Jvm.MethodName) jdk_42_method_154_code (1 : Nat) (Option.some Jvm.ClassFile.FieldType.boolean), Jvm.Cond.code ({ cls := "java/lang/StringLatin1", name := "charAt", desc := "([BI)C" } : Jvm.MethodName) jdk_43_method_2_code (2 : Nat) (Option.some Jvm.ClassFile.FieldType.char), Jvm.Cond.code ({ cls := "java/lang/String", name := "checkIndex", desc := "(II)V" } : Jvm.MethodName) jdk_42_method_155_code (2 : Nat) (Option.none : Option Jvm.ClassFile.FieldType), Jvm.Cond.code ({ cls := "jdk/internal/util/Preconditions", name := "checkIndex", desc := "(IILjava/util/function/BiFunction;)I" } : Jvm.MethodName) jdk_41_method_11_code (3 : Nat) (Option.some Jvm.ClassFile.FieldType.int)]
set_option maxRecDepth 65536 in
theorem codes_eq : words1.filter isCode = codes1 := rfl
theorem w_codes : ∀ c ∈ words1.filter isCode, c.before args0 about1 = true := by
  rw [codes_eq]
  intro c hc
  simp only [codes1, List.mem_cons, List.not_mem_nil, or_false] at hc
  rcases hc with rfl | rfl | rfl | rfl | rfl | rfl | rfl | rfl | rfl | rfl | rfl | rfl | rfl | rfl | rfl | rfl | rfl | rfl | rfl | rfl | rfl | rfl | rfl | rfl | rfl | rfl | rfl | rfl | rfl | rfl | rfl | rfl | rfl | rfl | rfl | rfl | rfl | rfl | rfl | rfl | rfl | rfl | rfl | rfl
  · exact w_c0
  · exact w_c1
  · exact w_c2
  · exact w_c3
  · exact w_c4
  · exact w_c5
  · exact w_c6
  · exact w_c7
  · exact w_c8
  · exact w_c9
  · exact w_c10
  · exact w_c11
  · exact w_c12
  · exact w_c13
  · exact w_c14
  · exact w_c15
  · exact w_c16
  · exact w_c17
  · exact w_c18
  · exact w_c19
  · exact w_c20
  · exact w_c21
  · exact w_c22
  · exact w_c23
  · exact w_c24
  · exact w_c25
  · exact w_c26
  · exact w_c27
  · exact w_c28
  · exact w_c29
  · exact w_c30
  · exact w_c31
  · exact w_c32
  · exact w_c33
  · exact w_c34
  · exact w_c35
  · exact w_c36
  · exact w_c37
  · exact w_c38
  · exact w_c39
  · exact w_c40
  · exact w_c41
  · exact w_c42
  · exact w_c43
set_option maxRecDepth 65536 in
theorem w_t1 : (words1.take 24).all (fun c => isCode c || c.before args0 about1) = true := by decide +kernel
set_option maxRecDepth 65536 in
theorem w_t2 : ((words1.drop 24).take 24).all (fun c => isCode c || c.before args0 about1) = true := by decide +kernel
set_option maxRecDepth 65536 in
theorem w_t3 : (((words1.drop 24).drop 24).take 24).all (fun c => isCode c || c.before args0 about1) = true := by decide +kernel
set_option maxRecDepth 65536 in
theorem w_t4 : ((((words1.drop 24).drop 24).drop 24).take 24).all (fun c => isCode c || c.before args0 about1) = true := by decide +kernel
set_option maxRecDepth 65536 in
theorem w_t5 : (((((words1.drop 24).drop 24).drop 24).drop 24).take 24).all (fun c => isCode c || c.before args0 about1) = true := by decide +kernel
set_option maxRecDepth 65536 in
theorem w_t6 : ((((((words1.drop 24).drop 24).drop 24).drop 24).drop 24).take 24).all (fun c => isCode c || c.before args0 about1) = true := by decide +kernel
set_option maxRecDepth 65536 in
theorem w_t7 : (((((((words1.drop 24).drop 24).drop 24).drop 24).drop 24).drop 24).take 24).all (fun c => isCode c || c.before args0 about1) = true := by decide +kernel
set_option maxRecDepth 65536 in
theorem w_t8 : ((((((((words1.drop 24).drop 24).drop 24).drop 24).drop 24).drop 24).drop 24).take 24).all (fun c => isCode c || c.before args0 about1) = true := by decide +kernel
set_option maxRecDepth 65536 in
theorem w_t9 : (((((((((words1.drop 24).drop 24).drop 24).drop 24).drop 24).drop 24).drop 24).drop 24).take 24).all (fun c => isCode c || c.before args0 about1) = true := by decide +kernel
set_option maxRecDepth 65536 in
theorem w_t10 : (((((((((words1.drop 24).drop 24).drop 24).drop 24).drop 24).drop 24).drop 24).drop 24).drop 24).all (fun c => isCode c || c.before args0 about1) = true := by decide +kernel
theorem w_tables : (allAtoms (Jvm.Cond.code x code maxLocals ret :: tables_1)).before args0 about1 = true := by
  rw [allAtoms_all]
  show words1.all (fun c => c.before args0 about1) = true
  refine all_split ?_ w_codes
  rw [← List.take_append_drop 24 words1, List.all_append, w_t1, ← List.take_append_drop 24 (words1.drop 24), List.all_append, w_t2, ← List.take_append_drop 24 ((words1.drop 24).drop 24), List.all_append, w_t3, ← List.take_append_drop 24 (((words1.drop 24).drop 24).drop 24), List.all_append, w_t4, ← List.take_append_drop 24 ((((words1.drop 24).drop 24).drop 24).drop 24), List.all_append, w_t5, ← List.take_append_drop 24 (((((words1.drop 24).drop 24).drop 24).drop 24).drop 24), List.all_append, w_t6, ← List.take_append_drop 24 ((((((words1.drop 24).drop 24).drop 24).drop 24).drop 24).drop 24), List.all_append, w_t7, ← List.take_append_drop 24 (((((((words1.drop 24).drop 24).drop 24).drop 24).drop 24).drop 24).drop 24), List.all_append, w_t8, ← List.take_append_drop 24 ((((((((words1.drop 24).drop 24).drop 24).drop 24).drop 24).drop 24).drop 24).drop 24), List.all_append, w_t9, w_t10]
  rfl
set_option maxRecDepth 65536 in
theorem w_rest : rest_1_c.before args0 about1 = true := by decide +kernel
set_option maxRecDepth 65536 in
theorem w_case : (Jvm.Cond.and given_1 narrow_1).before args0 about1 = true := by decide +kernel
set_option maxRecDepth 65536 in
theorem w_consts : constsHeld consts_1 about1 := Jvm.Lit.constsHeldB_iff.mp (by decide +kernel)
theorem w_applies : (headSpec (Jvm.Cond.code x code maxLocals ret :: tables_1) room_1).applies x e0.platform about1 = true :=
  (Spec.applies_iff w_frames).mpr ⟨w_running, w_runnable, w_alone, w_named, w_hears, w_ripe, w_room, w_tables⟩
theorem atStart : AtStart classFile x code maxLocals ret World_1 tables_1 room_1 Calls_1 rest_1 Pre_1 launch0 p0 e0 about1 theMethod args0 below0 :=
  ⟨lists_1, trivial, launch0.admits_env _ _ _, launch0.least_env, fairChoices_fair.cas, fairChoices_fair.clock, w_frames, w_args, w_heap, w_applies, ⟨w_consts, trivial⟩, w_rest, w_case⟩
end start1
theorem witness_1 : WitnessClaimed_1 := ⟨start1.p0, start1.e0, start1.about1, start1.theMethod, start1.args0, start1.below0, start1.atStart⟩
end Jvm.Pilot.@@N@@
