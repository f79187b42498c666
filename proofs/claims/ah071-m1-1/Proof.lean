import JvmDerived
import JvmDerived.Pilot.@@N@@Statement
import JvmDerived.Pilot.@@N@@Code
set_option linter.unusedVariables false
set_option linter.unusedSimpArgs false
namespace Jvm.RoadKit
open Sem ClassFile Op Lib Jvm.Stand Jvm.Free Jvm.LawKit
section New
variable {p : Program} {l : Launch} {e : Env} {R : Room} {s : State} {m : MethodId} {args : Array Value} {below : List Frame} {meth : Method} {c : Code} {T : State} {locs : List Loc} {cells slots : Nat}
theorem retI (X : Stand p l e R s m args below meth c T locs cells slots) (hx : p.tables.exec = Jvm.exec) {pc : Nat} {Ls : Array Slot} {z : Int32} {rest : List Value} (hret : meth.sig.returnType = some .int) (hd : decode c.code pc = .ok (.ireturn, 1)) {fs : List Frame}
    (hl : ∀ (f : JFrame) (acts : List Action), f.method = m → f.locked = none → f.entered = [] → (doReturn e (T.setTop f) acts (some (.int z))).1 = T.setFrames fs) : Steps p.tables e below (T.setTop (mkF m pc Ls (.int z :: rest))) (T.setFrames fs) := by
  have hm' : T.vm.method? m = some meth := X.method'
  have hn : narrow .int (.int z) = .int z := rfl
  show Steps p.tables e below (T.setTop { method := m, pc := pc, locals := Ls, stack := _ :: rest, locked := none }) _
  jvm_step X.here [X.here.top, hx, hd, hm', hret, hn]
  first | (intro acts; rw [hl _ acts rfl rfl rfl]) | rw [hl _ _ rfl rfl rfl]
  exact Steps.refl _
end New
end Jvm.RoadKit
/- laws to paste: Road.backV (cut by pick.py; bodies as the Statement names them) -/
namespace Jvm.Pilot.@@N@@
namespace StrChars
open Jvm Sem ClassFile Op Lib Jvm.Stand Jvm.Free.XT Jvm.Free.ALB Jvm.Free.JM Jvm.Free
open Jvm.Lib.Cold (StaticIs)
/-- a char array whose places are chars -/
def Ch (a : Addr) (A : Cell) (U : State) : Prop := Arr .char a A U ∧ Typed .char A
theorem Ch.mv {a : Addr} {A : Cell} {U U' : State} (h : Ch a A U) (hal : U.vm.Alike U'.vm) (hh : U'.heap = U.heap) : Ch a A U' := ⟨h.1.mv hal hh, h.2⟩
theorem Ch.keep {a : Addr} {A : Cell} {U U' : State} (h : Ch a A U) (hal : U.vm.Alike U'.vm) (hk : U'.heap[a]? = some A) : Ch a A U' := ⟨h.1.keep hal hk, h.2⟩
/-- what place i of a char[]'s cell holds -/
def cv (A : Cell) (i : Nat) : Int32 := match A.slots[i]? with | some (.int x) => x | _ => 0
theorem Ch.get {a : Addr} {A : Cell} {U : State} (h : Ch a A U) {i : Nat} (hi : i < A.slots.size) : A.slots[i]? = some (.int (cv A i)) := by
  have e := Array.getElem?_eq_getElem hi
  have f := h.2 i _ e
  unfold cv; rw [e]
  generalize A.slots[i] = v at f
  cases v <;> simp [fits] at f ⊢
/-- the byte that i2b leaves of a char -/
def lo8 (x : Int32) : Int32 := x.toInt8.toInt32
theorem fits_lo8 (y : Int32) : fits .byte (.int (lo8 y)) = true := by
  have h1 := y.toInt8.le_toInt
  have h2 := y.toInt8.toInt_lt
  simp only [lo8, fits, Bool.and_eq_true, decide_eq_true_eq, Int32.le_iff_toInt_le, Int8.toInt_toInt32, show (-128 : Int32).toInt = -128 from by decide, show (127 : Int32).toInt = 127 from by decide]
  omega
/-- A' is A but that each place j of lo .. hi - 1 holds f j -/
def Laid (A A' : Cell) (lo hi : Nat) (f : Nat → Value) : Prop := A'.cls = A.cls ∧ A'.vm = A.vm ∧ A'.slots.size = A.slots.size ∧ ∀ i, A'.slots[i]? = if lo ≤ i ∧ i < hi then some (f i) else A.slots[i]?
theorem Laid.zero (A : Cell) (lo : Nat) (f : Nat → Value) : Laid A A lo (lo + 0) f := ⟨rfl, rfl, rfl, fun i => by rw [if_neg (by omega)]⟩
theorem Laid.step {A Ak : Cell} {lo k : Nat} {f : Nat → Value} {v : Value} (h : Laid A Ak lo k f) (hlo : lo ≤ k) (hk : k < Ak.slots.size) (hv : v = f k) : Laid A (Ak.setSlot k v) lo (k + 1) f := by
  refine ⟨h.1, h.2.1, by simpa [Cell.setSlot] using h.2.2.1, fun i => ?_⟩
  by_cases e : k = i
  · subst e; rw [Cell.slots_setSlot_self v hk, if_pos (by omega), hv]
  · rw [Cell.slots_setSlot_ne v e, h.2.2.2 i]
    by_cases q : lo ≤ i ∧ i < k
    · rw [if_pos q, if_pos (by omega)]
    · rw [if_neg q, if_neg (by omega)]
def U16 : String := "java/lang/StringUTF16"
namespace Cmp5
def yN : MethodName := ⟨"java/lang/StringUTF16", "compress", "([CI[BII)I"⟩
abbrev yB : ByteArray := jdk_52_method_21_code
theorem d0 : decode yB 0 = .ok (.iconst 0, 1) := by decide +kernel
theorem d1 : decode yB 1 = .ok (.istore 5, 2) := by decide +kernel
theorem d3 : decode yB 3 = .ok (.iload 5, 2) := by decide +kernel
theorem d5 : decode yB 5 = .ok (.iload 4, 2) := by decide +kernel
theorem d7 : decode yB 7 = .ok (.if_icmp (.ge) 37, 3) := by decide +kernel
theorem d10 : decode yB 10 = .ok (.aload_n 0, 1) := by decide +kernel
theorem d11 : decode yB 11 = .ok (.iload_n 1, 1) := by decide +kernel
theorem d12 : decode yB 12 = .ok (.caload, 1) := by decide +kernel
theorem d13 : decode yB 13 = .ok (.istore 6, 2) := by decide +kernel
theorem d15 : decode yB 15 = .ok (.iload 6, 2) := by decide +kernel
theorem d17 : decode yB 17 = .ok (.sipush 255, 3) := by decide +kernel
theorem d20 : decode yB 20 = .ok (.if_icmp (.le) 6, 3) := by decide +kernel
theorem d26 : decode yB 26 = .ok (.aload_n 2, 1) := by decide +kernel
theorem d27 : decode yB 27 = .ok (.iload_n 3, 1) := by decide +kernel
theorem d28 : decode yB 28 = .ok (.iload 6, 2) := by decide +kernel
theorem d30 : decode yB 30 = .ok (.i2b, 1) := by decide +kernel
theorem d31 : decode yB 31 = .ok (.bastore, 1) := by decide +kernel
theorem d32 : decode yB 32 = .ok (.iinc 1 1, 3) := by decide +kernel
theorem d35 : decode yB 35 = .ok (.iinc 3 1, 3) := by decide +kernel
theorem d38 : decode yB 38 = .ok (.iinc 5 1, 3) := by decide +kernel
theorem d41 : decode yB 41 = .ok (.goto (-38), 3) := by decide +kernel
theorem d44 : decode yB 44 = .ok (.iload 4, 2) := by decide +kernel
theorem d46 : decode yB 46 = .ok (.ireturn, 1) := by decide +kernel
def site : List Cond := []
def tab : Cond := tabOf yN yB 7 (some .int) site
def P (b : Addr) (A : Cell) (d : Addr) (B : Cell) (o q len : Nat) (args : Array Value) (s : State) : Prop := args = #[.ref b, .int (Int32.ofNat o), .ref d, .int (Int32.ofNat q), .int (Int32.ofNat len)] ∧ Ch b A s ∧ Arr .byte d B s ∧ b ≠ d ∧ o + len ≤ A.slots.size ∧ q + len ≤ B.slots.size ∧ ∀ i, i < len → ¬ 255 < cv A (o + i)
def E (b : Addr) (A : Cell) (d : Addr) (B : Cell) (o q len : Nat) (r : Option Value) (s u : State) : Prop := r = some (.int (Int32.ofNat len)) ∧ ∃ B', Put d B' s u ∧ Laid B B' q (q + len) (fun j => Value.int (lo8 (cv A (o + (j - q)))))
/-- no char of the range above 255: len; the places written hold each char's low byte -/
theorem law (l : Launch) (b : Addr) (A : Cell) (d : Addr) (B : Cell) (o q len : Nat) : Law l yN 5 5 0 0 yB 7 (some .int) site (P b A d B o q len) (E b A d B o q len) (copyLocs d q len) 0 0 := by
  refine Law.of_walk (plainFor_of_name (by decide +kernel)) (by decide +kernel) (by decide +kernel) (by decide) (fun _ _ h => by rw [h.1]; rfl) (fun _ U U' hal hh h => ⟨h.1, h.2.1.mv hal hh, h.2.2.1.mv hal hh, h.2.2.2⟩) (fun r U U' V V' h1 hal h2 h => ⟨h.1, h.2.elim fun B' q => ⟨B', q.1.mv h1 h2, q.2⟩⟩) ?_
  intro p e s m args below meth c s₁ X0 hexec hbytes hml hret hlk hnm hown hh0 W hP
  obtain ⟨rfl, hA, hB, hne, l1, l2, hp⟩ := hP
  have c1 : Steps p.tables e below (s₁.setTop (entryFrame m #[.ref b, .int (Int32.ofNat o), .ref d, .int (Int32.ofNat q), .int (Int32.ofNat len)] 7)) (s₁.setTop (mkF m 0 #[.val (.ref b), .val (.int (Int32.ofNat o)), .val (.ref d), .val (.int (Int32.ofNat q)), .val (.int (Int32.ofNat len)), .unset, .unset] [])) := entry rfl
  have hA0 := hA.1.mv X0.warmed.alike hh0
  have hB0 := hB.mv X0.warmed.alike hh0
  have a31 := hA.1.2.2.2
  have c2 : Steps p.tables e below (s₁.setTop (entryFrame m #[.ref b, .int (Int32.ofNat o), .ref d, .int (Int32.ofNat q), .int (Int32.ofNat len)] 7)) (s₁.setTop (mkF m 3 #[.val (.ref b), .val (.int (Int32.ofNat o)), .val (.ref d), .val (.int (Int32.ofNat q)), .val (.int (Int32.ofNat len)), .val (.int 0), .unset] [])) := c1.trans (by
    refine iconstV X0.here hexec rfl 0 (hb hbytes d0) (by decide) ?_
    refine XS.istore X0.here hexec rfl (hb hbytes d1) rfl rfl ?_
    exact Steps.refl _)
  have loop : ∀ (r i : Nat), i + r = len → ∀ (z : Slot), (z = .unset ∨ ∃ w, z = .val w ∧ w.category = 1) → ∀ (Tl : State) (Bk : Cell), Stand p l e { frames := 0, locals := 0, cells := 0, slots := 0 } s m #[.ref b, .int (Int32.ofNat o), .ref d, .int (Int32.ofNat q), .int (Int32.ofNat len)] below meth c Tl ([] ++ copyLocs d q i) 0 0 → Put d Bk s₁ Tl → Laid B Bk q (q + i) (fun j => Value.int (lo8 (cv A (o + (j - q))))) →
      Steps p.tables e below (s₁.setTop (entryFrame m #[.ref b, .int (Int32.ofNat o), .ref d, .int (Int32.ofNat q), .int (Int32.ofNat len)] 7)) (Tl.setTop (mkF m 3 #[.val (.ref b), .val (.int (Int32.ofNat (o + i))), .val (.ref d), .val (.int (Int32.ofNat (q + i))), .val (.int (Int32.ofNat len)), .val (.int (Int32.ofNat i)), z] [])) → ∃ (T' : State) (B' : Cell) (z' : Slot), Stand p l e { frames := 0, locals := 0, cells := 0, slots := 0 } s m #[.ref b, .int (Int32.ofNat o), .ref d, .int (Int32.ofNat q), .int (Int32.ofNat len)] below meth c T' ([] ++ copyLocs d q len) 0 0 ∧ Put d B' s₁ T' ∧ Laid B B' q (q + len) (fun j => Value.int (lo8 (cv A (o + (j - q))))) ∧
      Steps p.tables e below (s₁.setTop (entryFrame m #[.ref b, .int (Int32.ofNat o), .ref d, .int (Int32.ofNat q), .int (Int32.ofNat len)] 7)) (T'.setTop (mkF m 3 #[.val (.ref b), .val (.int (Int32.ofNat (o + len))), .val (.ref d), .val (.int (Int32.ofNat (q + len))), .val (.int (Int32.ofNat len)), .val (.int (Int32.ofNat len)), z'] [])) := by
    intro r
    induction r with
    | zero =>
      intro i hi z hz Tl Bk Xl pl fl cl
      have hil : i = len := by omega
      rw [hil] at Xl fl cl
      exact ⟨Tl, Bk, z, Xl, pl, fl, cl⟩
    | succ r ih =>
      intro i hi z hz Tl Bk Xl pl fl cl
      have all := X0.warmed.alike.symm.trans Xl.warmed.alike
      have hAl := hA0.keep all (pl.other hne hA0.1)
      have hBk := hB0.like all pl.1 fl.1 fl.2.1 fl.2.2.1
      have hlt : q + i < Bk.slots.size := by rw [fl.2.2.1]; omega
      have c3 : Steps p.tables e below (s₁.setTop (entryFrame m #[.ref b, .int (Int32.ofNat o), .ref d, .int (Int32.ofNat q), .int (Int32.ofNat len)] 7)) (Tl.setTop (mkF m 12 #[.val (.ref b), .val (.int (Int32.ofNat (o + i))), .val (.ref d), .val (.int (Int32.ofNat (q + i))), .val (.int (Int32.ofNat len)), .val (.int (Int32.ofNat i)), z] [.int (Int32.ofNat (o + i)), .ref b])) := cl.trans (by
        refine XS.iload Xl.here hexec rfl (hb hbytes d3) rfl ?_
        refine XS.iload Xl.here hexec rfl (hb hbytes d5) rfl ?_
        refine XS.icmpNo Xl.here hexec rfl (hb hbytes d7) rfl (ii_ge_f (lt32 (by omega) (by omega))) ?_
        refine XS.aloadN Xl.here hexec rfl (hb hbytes d10) rfl rfl ?_
        refine XS.iloadN Xl.here hexec rfl (hb hbytes d11) rfl ?_
        exact Steps.refl _)
      have c4 : Steps p.tables e below (s₁.setTop (entryFrame m #[.ref b, .int (Int32.ofNat o), .ref d, .int (Int32.ofNat q), .int (Int32.ofNat len)] 7)) (Tl.setTop (mkF m 13 #[.val (.ref b), .val (.int (Int32.ofNat (o + i))), .val (.ref d), .val (.int (Int32.ofNat (q + i))), .val (.int (Int32.ofNat len)), .val (.int (Int32.ofNat i)), z] [.int (cv A (o + i))])) := c3.trans (by
        refine Xl.aget hexec hAl rfl (hA.get (i := o + i) (by omega)) rfl rfl (hb hbytes d12) ?_
        exact Steps.refl _)
      have c5 : Steps p.tables e below (s₁.setTop (entryFrame m #[.ref b, .int (Int32.ofNat o), .ref d, .int (Int32.ofNat q), .int (Int32.ofNat len)] 7)) (Tl.setTop (mkF m 15 #[.val (.ref b), .val (.int (Int32.ofNat (o + i))), .val (.ref d), .val (.int (Int32.ofNat (q + i))), .val (.int (Int32.ofNat len)), .val (.int (Int32.ofNat i)), .val (.int (cv A (o + i)))] [])) := c4.trans (by
        refine XS.istoreS Xl.here hexec rfl (hb hbytes d13) rfl rfl hz ?_
        exact Steps.refl _)
      have c6 : Steps p.tables e below (s₁.setTop (entryFrame m #[.ref b, .int (Int32.ofNat o), .ref d, .int (Int32.ofNat q), .int (Int32.ofNat len)] 7)) (Tl.setTop (mkF m 31 #[.val (.ref b), .val (.int (Int32.ofNat (o + i))), .val (.ref d), .val (.int (Int32.ofNat (q + i))), .val (.int (Int32.ofNat len)), .val (.int (Int32.ofNat i)), .val (.int (cv A (o + i)))] [.int (lo8 (cv A (o + i))), .int (Int32.ofNat (q + i)), .ref d])) := c5.trans (by
        refine XS.iload Xl.here hexec rfl (hb hbytes d15) rfl ?_
        refine sipushV Xl.here hexec rfl 255 (hb hbytes d17) (by decide) ?_
        refine XS.icmpYes Xl.here hexec rfl (pc0 := 20) rfl (hb hbytes d20) rfl (ii_le_t (hp i (by omega))) (by decide) rfl ?_
        refine XS.aloadN Xl.here hexec rfl (hb hbytes d26) rfl rfl ?_
        refine XS.iloadN Xl.here hexec rfl (hb hbytes d27) rfl ?_
        refine XS.iload Xl.here hexec rfl (hb hbytes d28) rfl ?_
        refine i2b Xl.here hexec rfl (hb hbytes d30) rfl ?_
        exact Steps.refl _)
      obtain ⟨T7, X7, p7, st7⟩ := Xl.aput hexec hBk rfl hlt rfl (fits_lo8 (cv A (o + i))) (g := (mkF m 31 #[.val (.ref b), .val (.int (Int32.ofNat (o + i))), .val (.ref d), .val (.int (Int32.ofNat (q + i))), .val (.int (Int32.ofNat len)), .val (.int (Int32.ofNat i)), .val (.int (cv A (o + i)))] [.int (lo8 (cv A (o + i))), .int (Int32.ofNat (q + i)), .ref d])) rfl (rest := []) rfl (hb hbytes d31)
      have c8 : Steps p.tables e below (s₁.setTop (entryFrame m #[.ref b, .int (Int32.ofNat o), .ref d, .int (Int32.ofNat q), .int (Int32.ofNat len)] 7)) (T7.setTop (mkF m 32 #[.val (.ref b), .val (.int (Int32.ofNat (o + i))), .val (.ref d), .val (.int (Int32.ofNat (q + i))), .val (.int (Int32.ofNat len)), .val (.int (Int32.ofNat i)), .val (.int (cv A (o + i)))] [])) := c6.trans (st7 _ (Steps.refl _))
      have c9 : Steps p.tables e below (s₁.setTop (entryFrame m #[.ref b, .int (Int32.ofNat o), .ref d, .int (Int32.ofNat q), .int (Int32.ofNat len)] 7)) (T7.setTop (mkF m 3 #[.val (.ref b), .val (.int (Int32.ofNat (o + i) + 1)), .val (.ref d), .val (.int (Int32.ofNat (q + i) + 1)), .val (.int (Int32.ofNat len)), .val (.int (Int32.ofNat i + 1)), .val (.int (cv A (o + i)))] [])) := c8.trans (by
        refine iincV X7.here hexec rfl 1 (hb hbytes d32) (by decide) rfl rfl ?_
        refine iincV X7.here hexec rfl 1 (hb hbytes d35) (by decide) rfl rfl ?_
        refine iincV X7.here hexec rfl 1 (hb hbytes d38) (by decide) rfl rfl ?_
        refine XS.goto X7.here hexec rfl (pc0 := 41) rfl (hb hbytes d41) (by decide) rfl ?_
        exact Steps.refl _)
      have c10 : Steps p.tables e below (s₁.setTop (entryFrame m #[.ref b, .int (Int32.ofNat o), .ref d, .int (Int32.ofNat q), .int (Int32.ofNat len)] 7)) (T7.setTop (mkF m 3 #[.val (.ref b), .val (.int (Int32.ofNat (o + (i + 1)))), .val (.ref d), .val (.int (Int32.ofNat (q + (i + 1)))), .val (.int (Int32.ofNat len)), .val (.int (Int32.ofNat (i + 1))), .val (.int (cv A (o + i)))] [])) := by
        have := c9
        rw [succ32, succ32, succ32] at this
        exact this
      exact ih (i + 1) (by omega) _ (Or.inr ⟨_, rfl, rfl⟩) T7 _ (by rw [copyLocs_step, ← List.append_assoc]; exact X7) (pl.trans p7) (fl.step (by omega) hlt (by simp)) c10
  obtain ⟨T9, B9, z9, X9, p9, f9, g9⟩ := loop len 0 (by omega) .unset (Or.inl rfl) s₁ B (by simpa [copyLocs] using X0) ⟨hB0.1, fun _ _ => rfl, rfl⟩ (Laid.zero _ _ _) c2
  have c11 : Steps p.tables e below (s₁.setTop (entryFrame m #[.ref b, .int (Int32.ofNat o), .ref d, .int (Int32.ofNat q), .int (Int32.ofNat len)] 7)) (T9.setTop (mkF m 46 #[.val (.ref b), .val (.int (Int32.ofNat (o + len))), .val (.ref d), .val (.int (Int32.ofNat (q + len))), .val (.int (Int32.ofNat len)), .val (.int (Int32.ofNat len)), z9] [.int (Int32.ofNat len)])) := g9.trans (by
    refine XS.iload X9.here hexec rfl (hb hbytes d3) rfl ?_
    refine XS.iload X9.here hexec rfl (hb hbytes d5) rfl ?_
    refine XS.icmpYes X9.here hexec rfl (pc0 := 7) rfl (hb hbytes d7) rfl (ii_ge_t (nlt32 (by omega) (Nat.le_refl _))) (by decide) rfl ?_
    refine XS.iload X9.here hexec rfl (hb hbytes d44) rfl ?_
    exact Steps.refl _)
  exact ⟨T9, some (.int (Int32.ofNat len)), _, _, _, X9, by simp, rfl, rfl, (fun h => by cases h), ⟨rfl, B9, p9.from hh0, f9⟩, fun fs hl => c11.trans (X9.ireturnOut hexec hret rfl (Or.inl rfl) (hb hbytes d46) hl)⟩
end Cmp5
namespace Cmp3
def yN : MethodName := ⟨"java/lang/StringUTF16", "compress", "([CII)[B"⟩
abbrev yB : ByteArray := jdk_52_method_16_code
theorem d0 : decode yB 0 = .ok (.iload_n 2, 1) := by decide +kernel
theorem d1 : decode yB 1 = .ok (.newarray .byte, 2) := by decide +kernel
theorem d3 : decode yB 3 = .ok (.astore_n 3, 1) := by decide +kernel
theorem d4 : decode yB 4 = .ok (.aload_n 0, 1) := by decide +kernel
theorem d5 : decode yB 5 = .ok (.iload_n 1, 1) := by decide +kernel
theorem d6 : decode yB 6 = .ok (.aload_n 3, 1) := by decide +kernel
theorem d7 : decode yB 7 = .ok (.iconst 0, 1) := by decide +kernel
theorem d8 : decode yB 8 = .ok (.iload_n 2, 1) := by decide +kernel
theorem d9 : decode yB 9 = .ok (.invokestatic 115, 3) := by decide +kernel
theorem d12 : decode yB 12 = .ok (.istore 4, 2) := by decide +kernel
theorem d14 : decode yB 14 = .ok (.iload 4, 2) := by decide +kernel
theorem d16 : decode yB 16 = .ok (.iload_n 2, 1) := by decide +kernel
theorem d17 : decode yB 17 = .ok (.if_icmp (.eq) 40, 3) := by decide +kernel
theorem d57 : decode yB 57 = .ok (.aload_n 3, 1) := by decide +kernel
theorem d58 : decode yB 58 = .ok (.areturn, 1) := by decide +kernel
def site : List Cond := [.arrayClass .byte, Cmp5.tab] ++ staticW U16 115 Cmp5.yN
def tab : Cond := tabOf yN yB 6 (some (.array .byte)) site
def P (b : Addr) (A : Cell) (o len : Nat) (args : Array Value) (s : State) : Prop := args = #[.ref b, .int (Int32.ofNat o), .int (Int32.ofNat len)] ∧ Ch b A s ∧ o + len ≤ A.slots.size ∧ len ≤ 536870912 ∧ ∀ i, i < len → ¬ 255 < cv A (o + i)
def E (b : Addr) (A : Cell) (o len : Nat) (r : Option Value) (s u : State) : Prop := NewArr .byte "[B" len (fun j => .int (lo8 (cv A (o + j)))) r s u ∧ u.heap.size = s.heap.size + 1
/-- no char of the range above 255: a new byte[] of their low bytes -/
theorem law (l : Launch) (b : Addr) (A : Cell) (o len : Nat) : Law l yN 3 3 1 18 yB 6 (some (.array .byte)) site (P b A o len) (E b A o len) [] 1 len := by
  refine Law.of_walk (plainFor_of_name (by decide +kernel)) (by decide +kernel) (by decide +kernel) (by decide) (fun _ _ h => by rw [h.1]; rfl) (fun _ U U' hal hh h => ⟨h.1, h.2.1.mv hal hh, h.2.2⟩) (fun r U U' V V' h1 hal h2 h => ⟨NewArr.mv r U U' V V' h1 hal h2 h.1, by rw [h1, h2]; exact h.2⟩) ?_
  intro p e s m args below meth c s₁ X0 hexec hbytes hml hret hlk hnm hown hh0 W hP
  obtain ⟨rfl, hA, l1, l2, hp⟩ := hP
  have a31 := hA.1.2.2.2
  have c1 : Steps p.tables e below (s₁.setTop (entryFrame m #[.ref b, .int (Int32.ofNat o), .int (Int32.ofNat len)] 6)) (s₁.setTop (mkF m 0 #[.val (.ref b), .val (.int (Int32.ofNat o)), .val (.int (Int32.ofNat len)), .unset, .unset, .unset] [])) := entry rfl
  have c2 : Steps p.tables e below (s₁.setTop (entryFrame m #[.ref b, .int (Int32.ofNat o), .int (Int32.ofNat len)] 6)) (s₁.setTop (mkF m 1 #[.val (.ref b), .val (.int (Int32.ofNat o)), .val (.int (Int32.ofNat len)), .unset, .unset, .unset] [.int (Int32.ofNat len)])) := c1.trans (by
    refine XS.iloadN X0.here hexec rfl (hb hbytes d0) rfl ?_
    exact Steps.refl _)
  obtain ⟨T3, B3, X3, ba3, bs3, bv3, bh3, bf3, st3⟩ := X0.anew hexec (atype := .byte) (wk W (.arrayClass .byte)) rfl (by show len * 1 ≤ _; omega) (by omega) (g := (mkF m 1 #[.val (.ref b), .val (.int (Int32.ofNat o)), .val (.int (Int32.ofNat len)), .unset, .unset, .unset] [.int (Int32.ofNat len)])) rfl (hb hbytes d1) (rest := []) rfl (Nat.le_refl _) (by show 0 + len ≤ len; omega)
  rw [hh0] at ba3 st3
  have kp3 : XT.Kept s T3 := (XT.Kept.of_eq hh0).push bh3
  have hA3 := hA.keep X3.warmed.alike (kp3 _ _ hA.1.1)
  have hne : b ≠ s.heap.size := hA.1.ne
  have c4 : Steps p.tables e below (s₁.setTop (entryFrame m #[.ref b, .int (Int32.ofNat o), .int (Int32.ofNat len)] 6)) (T3.setTop (mkF m 3 #[.val (.ref b), .val (.int (Int32.ofNat o)), .val (.int (Int32.ofNat len)), .unset, .unset, .unset] [.ref s.heap.size])) := c2.trans (st3 _ (Steps.refl _))
  have c5 : Steps p.tables e below (s₁.setTop (entryFrame m #[.ref b, .int (Int32.ofNat o), .int (Int32.ofNat len)] 6)) (T3.setTop (mkF m 9 #[.val (.ref b), .val (.int (Int32.ofNat o)), .val (.int (Int32.ofNat len)), .val (.ref s.heap.size), .unset, .unset] [.int (Int32.ofNat len), .int 0, .ref s.heap.size, .int (Int32.ofNat o), .ref b])) := c4.trans (by
    refine XS.astoreN X3.here hexec rfl (hb hbytes d3) rfl rfl rfl ?_
    refine XS.aloadN X3.here hexec rfl (hb hbytes d4) rfl rfl ?_
    refine XS.iloadN X3.here hexec rfl (hb hbytes d5) rfl ?_
    refine XS.aloadN X3.here hexec rfl (hb hbytes d6) rfl rfl ?_
    refine iconstV X3.here hexec rfl 0 (hb hbytes d7) (by decide) ?_
    refine XS.iloadN X3.here hexec rfl (hb hbytes d8) rfl ?_
    exact Steps.refl _)
  obtain ⟨v6, T6, X6, E6, g6⟩ := X3.callS hexec (Cmp5.law l b A s.heap.size B3 o 0 len) hown (wks W (staticW U16 115 Cmp5.yN)) (wk W Cmp5.tab) (W := 0) (Nat.le_of_ble_eq_true rfl) (Nat.le_of_ble_eq_true rfl) (Nat.le_refl _) (by show 0 + len + 0 ≤ len; omega) (g := (mkF m 9 #[.val (.ref b), .val (.int (Int32.ofNat o)), .val (.int (Int32.ofNat len)), .val (.ref s.heap.size), .unset, .unset] [.int (Int32.ofNat len), .int (Int32.ofNat 0), .ref s.heap.size, .int (Int32.ofNat o), .ref b])) rfl (by rw [hml]; rfl) c5 (argsL := [.ref b, .int (Int32.ofNat o), .ref s.heap.size, .int (Int32.ofNat 0), .int (Int32.ofNat len)]) (rest := []) rfl rfl (by show 2 * 0 + 0 ≤ _; decide) (hb hbytes d9) (⟨rfl, hA3, ba3, hne, l1, by rw [bs3]; simp, hp⟩)
  obtain ⟨rfl, B6, p6, f6⟩ := E6
  have c7 : Steps p.tables e below (s₁.setTop (entryFrame m #[.ref b, .int (Int32.ofNat o), .int (Int32.ofNat len)] 6)) (T6.setTop (mkF m 12 #[.val (.ref b), .val (.int (Int32.ofNat o)), .val (.int (Int32.ofNat len)), .val (.ref s.heap.size), .unset, .unset] [.int (Int32.ofNat len)])) := g6
  have c8 : Steps p.tables e below (s₁.setTop (entryFrame m #[.ref b, .int (Int32.ofNat o), .int (Int32.ofNat len)] 6)) (T6.setTop (mkF m 58 #[.val (.ref b), .val (.int (Int32.ofNat o)), .val (.int (Int32.ofNat len)), .val (.ref s.heap.size), .val (.int (Int32.ofNat len)), .unset] [.ref s.heap.size])) := c7.trans (by
    refine XS.istore X6.here hexec rfl (hb hbytes d12) rfl rfl ?_
    refine XS.iload X6.here hexec rfl (hb hbytes d14) rfl ?_
    refine XS.iloadN X6.here hexec rfl (hb hbytes d16) rfl ?_
    refine XS.icmpYes X6.here hexec rfl (pc0 := 17) rfl (hb hbytes d17) rfl (ii_eq_t rfl) (by decide) rfl ?_
    refine XS.aloadN X6.here hexec rfl (hb hbytes d57) rfl rfl ?_
    exact Steps.refl _)
  have X8 := X6.wide (L' := []) (cells' := 1) (slots' := len) (fun x hx hlt => by
    simp only [List.nil_append, copyLocs, List.mem_map, List.mem_range] at hx
    obtain ⟨i, -, rfl⟩ := hx
    exact absurd hlt (Nat.lt_irrefl _)) (Nat.le_refl _) (by omega)
  exact ⟨T6, some (.ref s.heap.size), _, _, _, X8, rfl, rfl, rfl, (fun h => by cases h), ⟨⟨rfl, B6, ba3.like (X3.warmed.alike.symm.trans X6.warmed.alike) p6.1 f6.1 f6.2.1 f6.2.2.1, f6.2.1.trans bv3, by rw [X6.warmed.alike.findClass, f6.1]; exact bf3, by rw [f6.2.2.1, bs3]; simp, fun j hj => by rw [f6.2.2.2 j, if_pos (by omega)]; rfl, kp3.put p6 (Nat.le_refl _)⟩, by rw [p6.2.2, bh3, hh0]; simp⟩, fun fs hl => c8.trans (X8.areturnOut hexec rfl hret rfl (hb hbytes d58) hl)⟩
end Cmp3
namespace CodL
def yN : MethodName := ⟨"java/lang/StringUTF16", "coderFromArrayLen", "([BI)B"⟩
abbrev yB : ByteArray := jdk_52_method_15_code
theorem d0 : decode yB 0 = .ok (.iload_n 1, 1) := by decide +kernel
theorem d1 : decode yB 1 = .ok (.aload_n 0, 1) := by decide +kernel
theorem d2 : decode yB 2 = .ok (.arraylength, 1) := by decide +kernel
theorem d3 : decode yB 3 = .ok (.isub, 1) := by decide +kernel
theorem d4 : decode yB 4 = .ok (.bipush 31, 2) := by decide +kernel
theorem d6 : decode yB 6 = .ok (.iushr, 1) := by decide +kernel
theorem d7 : decode yB 7 = .ok (.i2b, 1) := by decide +kernel
theorem d8 : decode yB 8 = .ok (.ireturn, 1) := by decide +kernel
def site : List Cond := []
def tab : Cond := tabOf yN yB 2 (some .byte) site
def P (d : Addr) (B : Cell) (args : Array Value) (s : State) : Prop := args = #[.ref d, .int (Int32.ofNat B.slots.size)] ∧ Arr .byte d B s
def E (r : Option Value) (s u : State) : Prop := XT.PureE (some (.int 0)) r s u
/-- an array as long as the number of chars: LATIN1 -/
theorem law (l : Launch) (d : Addr) (B : Cell) : Law l yN 2 2 0 0 yB 2 (some .byte) site (P d B) E [] 0 0 := by
  refine Law.of_walk (plainFor_of_name (by decide +kernel)) (by decide +kernel) (by decide +kernel) (by decide) (fun _ _ h => by rw [h.1]; rfl) (fun _ U U' hal hh h => ⟨h.1, h.2.mv hal hh⟩) (fun r U U' V V' h1 hal h2 h => XT.PureE.mv r U U' V V' h1 hal h2 h) ?_
  intro p e s m args below meth c s₁ X0 hexec hbytes hml hret hlk hnm hown hh0 W hP
  obtain ⟨rfl, hB⟩ := hP
  have hB0 := hB.mv X0.warmed.alike hh0
  have c1 : Steps p.tables e below (s₁.setTop (entryFrame m #[.ref d, .int (Int32.ofNat B.slots.size)] 2)) (s₁.setTop (mkF m 0 #[.val (.ref d), .val (.int (Int32.ofNat B.slots.size))] [])) := entry rfl
  have c2 : Steps p.tables e below (s₁.setTop (entryFrame m #[.ref d, .int (Int32.ofNat B.slots.size)] 2)) (s₁.setTop (mkF m 2 #[.val (.ref d), .val (.int (Int32.ofNat B.slots.size))] [.ref d, .int (Int32.ofNat B.slots.size)])) := c1.trans (by
    refine XS.iloadN X0.here hexec rfl (hb hbytes d0) rfl ?_
    refine XS.aloadN X0.here hexec rfl (hb hbytes d1) rfl rfl ?_
    exact Steps.refl _)
  have c3 : Steps p.tables e below (s₁.setTop (entryFrame m #[.ref d, .int (Int32.ofNat B.slots.size)] 2)) (s₁.setTop (mkF m 8 #[.val (.ref d), .val (.int (Int32.ofNat B.slots.size))] [.int (lo8 (ushr (Int32.ofNat B.slots.size - Int32.ofNat B.slots.size) 31))])) := c2.trans (by
    refine X0.alen hexec hB0 rfl rfl (hb hbytes d2) ?_
    refine XS.isub X0.here hexec rfl (hb hbytes d3) rfl ?_
    refine bipushV X0.here hexec rfl 31 (hb hbytes d4) (by decide) ?_
    refine iushr X0.here hexec rfl (hb hbytes d6) rfl ?_
    refine i2b X0.here hexec rfl (hb hbytes d7) rfl ?_
    exact Steps.refl _)
  have e0 : lo8 (ushr (Int32.ofNat B.slots.size - Int32.ofNat B.slots.size) 31) = 0 := by rw [Int32.sub_self]; decide
  rw [e0] at c3
  exact ⟨s₁, some (.int 0), _, _, _, X0, rfl, rfl, rfl, (fun h => by cases h), ⟨rfl, hh0⟩, fun fs hl => c3.trans (X0.ireturnOut hexec hret rfl (Or.inr (Or.inr (Or.inl rfl))) (hb hbytes d8) hl)⟩
end CodL
/-- the String at a is Latin-1 over a new byte[] (the heap's one new cell): the low bytes of the len chars of A from o on; every cell but a is kept -/
def Got (a : Addr) (D : Cell) (fV fC : Field) (A : Cell) (o len : Nat) (r : Option Value) (s u : State) : Prop := r = none ∧ ∃ D' V : Cell, Blank "java/lang/String" a D' u ∧ Same D D' [fV.slot, fC.slot] ∧ D'.slots[fV.slot]? = some (.ref s.heap.size) ∧ D'.slots[fC.slot]? = some (.int 0) ∧ Arr .byte s.heap.size V u ∧ V.vm = .none ∧ u.vm.findClass "[B" = some V.cls ∧ V.slots.size = len ∧ (∀ j, j < len → V.slots[j]? = some (.int (lo8 (cv A (o + j))))) ∧ (∀ (y : Addr) (c : Cell), y ≠ a → s.heap[y]? = some c → u.heap[y]? = some c) ∧ u.heap.size = s.heap.size + 1
theorem Got.mv {a : Addr} {D A : Cell} {fV fC : Field} {o len : Nat} : ∀ r (U U' V V' : State), U'.heap = U.heap → V.vm.Alike V'.vm → V'.heap = V.heap → Got a D fV fC A o len r U V → Got a D fV fC A o len r U' V' :=
  fun r U U' V V' h1 hal h2 ⟨e0, D', X, a1, a2, a3, a4, a5, a6, a7, a8, a9, a10, a11⟩ => ⟨e0, D', X, a1.mv hal h2, a2, by rw [h1]; exact a3, a4, by rw [h1]; exact a5.mv hal h2, a6, by rw [hal.findClass]; exact a7, a8, a9, by rw [h1, h2]; exact a10, by rw [h1, h2]; exact a11⟩
namespace New4
def yN : MethodName := ⟨"java/lang/String", "<init>", "([CIILjava/lang/Void;)V"⟩
abbrev yB : ByteArray := jdk_42_method_149_code
theorem d0 : decode yB 0 = .ok (.aload_n 0, 1) := by decide +kernel
theorem d1 : decode yB 1 = .ok (.invokespecial 1, 3) := by decide +kernel
theorem d4 : decode yB 4 = .ok (.iload_n 3, 1) := by decide +kernel
theorem d5 : decode yB 5 = .ok (.ifCond (.ne) 22, 3) := by decide +kernel
theorem d27 : decode yB 27 = .ok (.getstatic 38, 3) := by decide +kernel
theorem d30 : decode yB 30 = .ok (.ifCond (.eq) 28, 3) := by decide +kernel
theorem d33 : decode yB 33 = .ok (.aload_n 1, 1) := by decide +kernel
theorem d34 : decode yB 34 = .ok (.iload_n 2, 1) := by decide +kernel
theorem d35 : decode yB 35 = .ok (.iload_n 3, 1) := by decide +kernel
theorem d36 : decode yB 36 = .ok (.invokestatic 177, 3) := by decide +kernel
theorem d39 : decode yB 39 = .ok (.astore 5, 2) := by decide +kernel
theorem d41 : decode yB 41 = .ok (.aload_n 0, 1) := by decide +kernel
theorem d42 : decode yB 42 = .ok (.aload 5, 2) := by decide +kernel
theorem d44 : decode yB 44 = .ok (.iload_n 3, 1) := by decide +kernel
theorem d45 : decode yB 45 = .ok (.invokestatic 47, 3) := by decide +kernel
theorem d48 : decode yB 48 = .ok (.putfield 15, 3) := by decide +kernel
theorem d51 : decode yB 51 = .ok (.aload_n 0, 1) := by decide +kernel
theorem d52 : decode yB 52 = .ok (.aload 5, 2) := by decide +kernel
theorem d54 : decode yB 54 = .ok (.putfield 9, 3) := by decide +kernel
theorem d57 : decode yB 57 = .ok (.return_, 1) := by decide +kernel
def site : List Cond := [.fieldLink "java/lang/String" 38 "java/lang/String" "COMPACT_STRINGS" "Z", Cmp3.tab, CodL.tab, .laysFinal "java/lang/String" "java/lang/String" "value" "[B", .fieldLink "java/lang/String" 9 "java/lang/String" "value" "[B", .laysFinal "java/lang/String" "java/lang/String" "coder" "B", .fieldLink "java/lang/String" 15 "java/lang/String" "coder" "B"] ++ objW "java/lang/String" 1 ++ staticW "java/lang/String" 177 Cmp3.yN ++ staticW "java/lang/String" 47 CodL.yN
def tab : Cond := tabOf yN yB 6 none site
def P (a : Addr) (D : Cell) (fV fC : Field) (b : Addr) (A : Cell) (z : Int32) (o len : Nat) (args : Array Value) (s : State) : Prop := args = #[.ref a, .ref b, .int (Int32.ofNat o), .int (Int32.ofNat len), .null] ∧ Blank "java/lang/String" a D s ∧ Found "java/lang/String" "value" "[B" fV s ∧ Found "java/lang/String" "coder" "B" fC s ∧ Ch b A s ∧ StaticIs s "java/lang/String" "COMPACT_STRINGS" "Z" (.int z) ∧ ¬ z = 0 ∧ 0 < len ∧ o + len ≤ A.slots.size ∧ len ≤ 536870912 ∧ ∀ i, i < len → ¬ 255 < cv A (o + i)
def E (a : Addr) (D : Cell) (fV fC : Field) (A : Cell) (o len : Nat) (r : Option Value) (s u : State) : Prop := Got a D fV fC A o len r s u
/-- len > 0, no char of the range above 255: a Latin-1 String of their low bytes -/
theorem law (l : Launch) (a : Addr) (D : Cell) (fV fC : Field) (b : Addr) (A : Cell) (z : Int32) (o len : Nat) : Law l yN 5 4 2 35 yB 6 none site (P a D fV fC b A z o len) (E a D fV fC A o len) [⟨a, fC.slot⟩, ⟨a, fV.slot⟩] 1 len := by
  refine Law.of_walk (plainFor_of_name (by decide +kernel)) (by decide +kernel) (by decide +kernel) (by decide) (fun _ _ h => by rw [h.1]; rfl) (fun _ U U' hal hh h => ⟨h.1, h.2.1.mv hal hh, h.2.2.1.al hal, h.2.2.2.1.al hal, h.2.2.2.2.1.mv hal hh, h.2.2.2.2.2.1.there hal hh, h.2.2.2.2.2.2⟩) (fun r U U' V V' h1 hal h2 h => Got.mv r U U' V V' h1 hal h2 h) ?_
  intro p e s m args below meth c s₁ X0 hexec hbytes hml hret hlk hnm hown hh0 W hP
  obtain ⟨rfl, hB, f1, f2, hA, s1, hz, l0, l1, l2, hp⟩ := hP
  have a31 := hA.1.2.2.2
  have c1 : Steps p.tables e below (s₁.setTop (entryFrame m #[.ref a, .ref b, .int (Int32.ofNat o), .int (Int32.ofNat len), .null] 6)) (s₁.setTop (mkF m 0 #[.val (.ref a), .val (.ref b), .val (.int (Int32.ofNat o)), .val (.int (Int32.ofNat len)), .val .null, .unset] [])) := entry rfl
  have c2 : Steps p.tables e below (s₁.setTop (entryFrame m #[.ref a, .ref b, .int (Int32.ofNat o), .int (Int32.ofNat len), .null] 6)) (s₁.setTop (mkF m 1 #[.val (.ref a), .val (.ref b), .val (.int (Int32.ofNat o)), .val (.int (Int32.ofNat len)), .val .null, .unset] [.ref a])) := c1.trans (by
    refine XS.aloadN X0.here hexec rfl (hb hbytes d0) rfl rfl ?_
    exact Steps.refl _)
  obtain ⟨T3, X3, q3, st3⟩ := X0.oinit hexec hown (wks W (objW "java/lang/String" 1)) (g := (mkF m 1 #[.val (.ref a), .val (.ref b), .val (.int (Int32.ofNat o)), .val (.int (Int32.ofNat len)), .val .null, .unset] [.ref a])) rfl (by rw [hml]; rfl) (rest := []) rfl (hb hbytes d1) (W := 0) (by show 2 * 0 + 0 ≤ _; decide) (Nat.le_of_ble_eq_true rfl) (Nat.le_of_ble_eq_true rfl)
  have hh3 := q3.trans hh0
  have c4 : Steps p.tables e below (s₁.setTop (entryFrame m #[.ref a, .ref b, .int (Int32.ofNat o), .int (Int32.ofNat len), .null] 6)) (T3.setTop (mkF m 27 #[.val (.ref a), .val (.ref b), .val (.int (Int32.ofNat o)), .val (.int (Int32.ofNat len)), .val .null, .unset] [])) := (c2.trans (st3 _ (Steps.refl _))).trans (by
    refine XS.iloadN X3.here hexec rfl (hb hbytes d4) rfl ?_
    refine XS.ifYes X3.here hexec rfl (pc0 := 5) rfl (hb hbytes d5) rfl (i0_ne_t (nz32 (by omega) l0)) (by decide) rfl ?_
    exact Steps.refl _)
  obtain ⟨T5, X5, q5, st5⟩ := X3.sget hexec hown (wk W (.fieldLink "java/lang/String" 38 "java/lang/String" "COMPACT_STRINGS" "Z")) s1 (fun _ _ h => by rw [hh3]; exact h) (g := (mkF m 27 #[.val (.ref a), .val (.ref b), .val (.int (Int32.ofNat o)), .val (.int (Int32.ofNat len)), .val .null, .unset] [])) rfl (hb hbytes d27)
  have hh5 := q5.trans hh3
  have c6 : Steps p.tables e below (s₁.setTop (entryFrame m #[.ref a, .ref b, .int (Int32.ofNat o), .int (Int32.ofNat len), .null] 6)) (T5.setTop (mkF m 30 #[.val (.ref a), .val (.ref b), .val (.int (Int32.ofNat o)), .val (.int (Int32.ofNat len)), .val .null, .unset] [.int z])) := c4.trans (st5 _ (Steps.refl _))
  have c7 : Steps p.tables e below (s₁.setTop (entryFrame m #[.ref a, .ref b, .int (Int32.ofNat o), .int (Int32.ofNat len), .null] 6)) (T5.setTop (mkF m 36 #[.val (.ref a), .val (.ref b), .val (.int (Int32.ofNat o)), .val (.int (Int32.ofNat len)), .val .null, .unset] [.int (Int32.ofNat len), .int (Int32.ofNat o), .ref b])) := c6.trans (by
    refine XS.ifNo X5.here hexec rfl (hb hbytes d30) rfl (i0_eq_f hz) ?_
    refine XS.aloadN X5.here hexec rfl (hb hbytes d33) rfl rfl ?_
    refine XS.iloadN X5.here hexec rfl (hb hbytes d34) rfl ?_
    refine XS.iloadN X5.here hexec rfl (hb hbytes d35) rfl ?_
    exact Steps.refl _)
  obtain ⟨v8, T8, X8, E8, g8⟩ := X5.callS hexec (Cmp3.law l b A o len) hown (wks W (staticW "java/lang/String" 177 Cmp3.yN)) (wk W Cmp3.tab) (W := 0) (Nat.le_of_ble_eq_true rfl) (Nat.le_of_ble_eq_true rfl) (Nat.le_refl _) (by show 0 + len ≤ len; omega) (g := (mkF m 36 #[.val (.ref a), .val (.ref b), .val (.int (Int32.ofNat o)), .val (.int (Int32.ofNat len)), .val .null, .unset] [.int (Int32.ofNat len), .int (Int32.ofNat o), .ref b])) rfl (by rw [hml]; rfl) c7 (argsL := [.ref b, .int (Int32.ofNat o), .int (Int32.ofNat len)]) (rest := []) rfl rfl (by show 2 * 0 + 0 ≤ _; decide) (hb hbytes d36) (⟨rfl, hA.mv X5.warmed.alike hh5, l1, l2, hp⟩)
  obtain ⟨e8, z8⟩ := E8
  obtain ⟨rfl, N, n1, n2, n3, n4, n5, n6⟩ := NewArr.mv _ T5 s _ _ hh5.symm (Vm.Alike.refl _) rfl e8
  rw [hh5] at z8
  have hB1 := hB.keep X8.warmed.alike (n6 _ _ hB.1)
  have hne : s.heap.size ≠ a := (Nat.ne_of_lt (Array.getElem?_eq_some_iff.mp hB.1).1).symm
  have c9 : Steps p.tables e below (s₁.setTop (entryFrame m #[.ref a, .ref b, .int (Int32.ofNat o), .int (Int32.ofNat len), .null] 6)) (T8.setTop (mkF m 39 #[.val (.ref a), .val (.ref b), .val (.int (Int32.ofNat o)), .val (.int (Int32.ofNat len)), .val .null, .unset] [.ref s.heap.size])) := g8
  have c10 : Steps p.tables e below (s₁.setTop (entryFrame m #[.ref a, .ref b, .int (Int32.ofNat o), .int (Int32.ofNat len), .null] 6)) (T8.setTop (mkF m 45 #[.val (.ref a), .val (.ref b), .val (.int (Int32.ofNat o)), .val (.int (Int32.ofNat len)), .val .null, .val (.ref s.heap.size)] [.int (Int32.ofNat N.slots.size), .ref s.heap.size, .ref a])) := by
    have hc : Steps p.tables e below (s₁.setTop (entryFrame m #[.ref a, .ref b, .int (Int32.ofNat o), .int (Int32.ofNat len), .null] 6)) (T8.setTop (mkF m 45 #[.val (.ref a), .val (.ref b), .val (.int (Int32.ofNat o)), .val (.int (Int32.ofNat len)), .val .null, .val (.ref s.heap.size)] [.int (Int32.ofNat len), .ref s.heap.size, .ref a])) := c9.trans (by
      refine XS.astore X8.here hexec rfl (hb hbytes d39) rfl rfl rfl ?_
      refine XS.aloadN X8.here hexec rfl (hb hbytes d41) rfl rfl ?_
      refine XS.aload X8.here hexec rfl (hb hbytes d42) rfl rfl ?_
      refine XS.iloadN X8.here hexec rfl (hb hbytes d44) rfl ?_
      exact Steps.refl _)
    rw [n4]; exact hc
  obtain ⟨v11, T11, X11, E11, g11⟩ := X8.callS hexec (CodL.law l s.heap.size N) hown (wks W (staticW "java/lang/String" 47 CodL.yN)) (wk W CodL.tab) (W := 1) (Nat.le_of_ble_eq_true rfl) (Nat.le_of_ble_eq_true rfl) (Nat.le_refl _) (by show 0 + len + 0 ≤ len; omega) (g := (mkF m 45 #[.val (.ref a), .val (.ref b), .val (.int (Int32.ofNat o)), .val (.int (Int32.ofNat len)), .val .null, .val (.ref s.heap.size)] [.int (Int32.ofNat N.slots.size), .ref s.heap.size, .ref a])) rfl (by rw [hml]; rfl) c10 (argsL := [.ref s.heap.size, .int (Int32.ofNat N.slots.size)]) (rest := [.ref a]) rfl rfl (by show 2 * 0 + (1 + 0) ≤ _; decide) (hb hbytes d45) (⟨rfl, n1⟩)
  obtain ⟨rfl, q11⟩ := E11
  have hB11 := hB1.mv (X8.warmed.alike.symm.trans X11.warmed.alike) q11
  have c12 : Steps p.tables e below (s₁.setTop (entryFrame m #[.ref a, .ref b, .int (Int32.ofNat o), .int (Int32.ofNat len), .null] 6)) (T11.setTop (mkF m 48 #[.val (.ref a), .val (.ref b), .val (.int (Int32.ofNat o)), .val (.int (Int32.ofNat len)), .val .null, .val (.ref s.heap.size)] [.int 0, .ref a])) := g11
  obtain ⟨T13, X13, p13, bl13, sl13, st13⟩ := X11.finit hexec hown (wk W (.fieldLink "java/lang/String" 15 "java/lang/String" "coder" "B")) (Or.inr ⟨_, (wk W (.laysFinal "java/lang/String" "java/lang/String" "coder" "B"))⟩) (Or.inl ⟨rfl, hnm⟩) f2 (Or.inl rfl) hB11 (t := .byte) (by decide +kernel) rfl (g := (mkF m 48 #[.val (.ref a), .val (.ref b), .val (.int (Int32.ofNat o)), .val (.int (Int32.ofNat len)), .val .null, .val (.ref s.heap.size)] [.int 0, .ref a])) rfl (rest := []) rfl (hb hbytes d48)
  have c14 : Steps p.tables e below (s₁.setTop (entryFrame m #[.ref a, .ref b, .int (Int32.ofNat o), .int (Int32.ofNat len), .null] 6)) (T13.setTop (mkF m 54 #[.val (.ref a), .val (.ref b), .val (.int (Int32.ofNat o)), .val (.int (Int32.ofNat len)), .val .null, .val (.ref s.heap.size)] [.ref s.heap.size, .ref a])) := (c12.trans (st13 _ (Steps.refl _))).trans (by
    refine XS.aloadN X13.here hexec rfl (hb hbytes d51) rfl rfl ?_
    refine XS.aload X13.here hexec rfl (hb hbytes d52) rfl rfl ?_
    exact Steps.refl _)
  obtain ⟨T15, X15, p15, bl15, sl15, st15⟩ := X13.finit hexec hown (wk W (.fieldLink "java/lang/String" 9 "java/lang/String" "value" "[B")) (Or.inr ⟨_, (wk W (.laysFinal "java/lang/String" "java/lang/String" "value" "[B"))⟩) (Or.inl ⟨rfl, hnm⟩) f1 (Or.inl rfl) bl13 (t := (.array .byte)) (by decide +kernel) rfl (g := (mkF m 54 #[.val (.ref a), .val (.ref b), .val (.int (Int32.ofNat o)), .val (.int (Int32.ofNat len)), .val .null, .val (.ref s.heap.size)] [.ref s.heap.size, .ref a])) rfl (rest := []) rfl (hb hbytes d54)
  have c16 : Steps p.tables e below (s₁.setTop (entryFrame m #[.ref a, .ref b, .int (Int32.ofNat o), .int (Int32.ofNat len), .null] 6)) (T15.setTop (mkF m 57 #[.val (.ref a), .val (.ref b), .val (.int (Int32.ofNat o)), .val (.int (Int32.ofNat len)), .val .null, .val (.ref s.heap.size)] [])) := c14.trans (st15 _ (Steps.refl _))
  have ap := apart (Or.inr ⟨_, (wk W (.laysFinal "java/lang/String" "java/lang/String" "value" "[B"))⟩) (Or.inr ⟨_, (wk W (.laysFinal "java/lang/String" "java/lang/String" "coder" "B"))⟩) f1 f2 (t₁ := .array .byte) (t₂ := .byte) (by decide +kernel) (by decide +kernel) (by decide)
  have al := X8.warmed.alike.symm.trans X15.warmed.alike
  have n7 : T11.heap[s.heap.size]? = some N := by rw [q11]; exact n1.1
  exact ⟨T15, none, _, _, _, X15, by simp, rfl, by omega, (fun _ => rfl), ⟨rfl, _, N, bl15, ((Same.refl D _).set _ (by simp)).set _ (by simp), sl15, (Cell.slots_setSlot_ne _ ap).trans sl13, n1.keep al (p15.other hne (p13.other hne n7)), n2, by rw [al.findClass]; exact n3, n4, n5, fun y c h1 h2 => p15.other h1 (p13.other h1 (by rw [q11]; exact n6 y c h2)), by rw [p15.2.2, p13.2.2, q11]; exact z8⟩, fun fs hl => c16.trans (X15.returnOut hexec hret (hb hbytes d57) hl)⟩
end New4
namespace New1
def yN : MethodName := ⟨"java/lang/String", "<init>", "([C)V"⟩
abbrev yB : ByteArray := jdk_42_method_3_code
theorem d0 : decode yB 0 = .ok (.aload_n 0, 1) := by decide +kernel
theorem d1 : decode yB 1 = .ok (.aload_n 1, 1) := by decide +kernel
theorem d2 : decode yB 2 = .ok (.iconst 0, 1) := by decide +kernel
theorem d3 : decode yB 3 = .ok (.aload_n 1, 1) := by decide +kernel
theorem d4 : decode yB 4 = .ok (.arraylength, 1) := by decide +kernel
theorem d5 : decode yB 5 = .ok (.aconst_null, 1) := by decide +kernel
theorem d6 : decode yB 6 = .ok (.invokespecial 27, 3) := by decide +kernel
theorem d9 : decode yB 9 = .ok (.return_, 1) := by decide +kernel
def site : List Cond := [New4.tab] ++ initW "java/lang/String" 27 New4.yN
def tab : Cond := tabOf yN yB 2 none site
def P (a : Addr) (D : Cell) (fV fC : Field) (b : Addr) (A : Cell) (z : Int32) (args : Array Value) (s : State) : Prop := args = #[.ref a, .ref b] ∧ Blank "java/lang/String" a D s ∧ Found "java/lang/String" "value" "[B" fV s ∧ Found "java/lang/String" "coder" "B" fC s ∧ Ch b A s ∧ StaticIs s "java/lang/String" "COMPACT_STRINGS" "Z" (.int z) ∧ ¬ z = 0 ∧ 0 < A.slots.size ∧ A.slots.size ≤ 536870912 ∧ ∀ i, i < A.slots.size → ¬ 255 < cv A i
def E (a : Addr) (D : Cell) (fV fC : Field) (A : Cell) (r : Option Value) (s u : State) : Prop := Got a D fV fC A 0 A.slots.size r s u
/-- new String(chars), not empty, no char above 255: a Latin-1 String of their low bytes -/
theorem law (l : Launch) (a : Addr) (D : Cell) (fV fC : Field) (b : Addr) (A : Cell) (z : Int32) : Law l yN 2 1 3 52 yB 2 none site (P a D fV fC b A z) (E a D fV fC A) [⟨a, fC.slot⟩, ⟨a, fV.slot⟩] 1 A.slots.size := by
  refine Law.of_walk (plainFor_of_name (by decide +kernel)) (by decide +kernel) (by decide +kernel) (by decide) (fun _ _ h => by rw [h.1]; rfl) (fun _ U U' hal hh h => ⟨h.1, h.2.1.mv hal hh, h.2.2.1.al hal, h.2.2.2.1.al hal, h.2.2.2.2.1.mv hal hh, h.2.2.2.2.2.1.there hal hh, h.2.2.2.2.2.2⟩) (fun r U U' V V' h1 hal h2 h => Got.mv r U U' V V' h1 hal h2 h) ?_
  intro p e s m args below meth c s₁ X0 hexec hbytes hml hret hlk hnm hown hh0 W hP
  obtain ⟨rfl, hB, f1, f2, hA, s1, hz, l0, l2, hp⟩ := hP
  have c1 : Steps p.tables e below (s₁.setTop (entryFrame m #[.ref a, .ref b] 2)) (s₁.setTop (mkF m 0 #[.val (.ref a), .val (.ref b)] [])) := entry rfl
  have c2 : Steps p.tables e below (s₁.setTop (entryFrame m #[.ref a, .ref b] 2)) (s₁.setTop (mkF m 6 #[.val (.ref a), .val (.ref b)] [.null, .int (Int32.ofNat A.slots.size), .int 0, .ref b, .ref a])) := c1.trans (by
    refine XS.aloadN X0.here hexec rfl (hb hbytes d0) rfl rfl ?_
    refine XS.aloadN X0.here hexec rfl (hb hbytes d1) rfl rfl ?_
    refine iconstV X0.here hexec rfl 0 (hb hbytes d2) (by decide) ?_
    refine XS.aloadN X0.here hexec rfl (hb hbytes d3) rfl rfl ?_
    refine X0.alen hexec (hA.1.mv X0.warmed.alike hh0) rfl rfl (hb hbytes d4) ?_
    refine XS.aconstNull X0.here hexec rfl (hb hbytes d5) ?_
    exact Steps.refl _)
  obtain ⟨v3, T3, X3, E3, g3⟩ := X0.callN hexec (New4.law l a D fV fC b A z 0 A.slots.size) rfl hown (wks W (initW "java/lang/String" 27 New4.yN)) (W New4.tab (by simp only [site, List.mem_cons, List.mem_append, true_or, or_true])) (W := 0) (Nat.le_of_ble_eq_true rfl) (Nat.le_of_ble_eq_true rfl) (Nat.le_refl _) (by show 0 + A.slots.size ≤ A.slots.size; omega) (g := (mkF m 6 #[.val (.ref a), .val (.ref b)] [.null, .int (Int32.ofNat A.slots.size), .int (Int32.ofNat 0), .ref b, .ref a])) rfl (by rw [hml]; rfl) c2 (argsL := [.ref b, .int (Int32.ofNat 0), .int (Int32.ofNat A.slots.size), .null]) (rest := []) rfl rfl (by show 2 * 0 + 0 ≤ _; decide) (hb hbytes d6) (⟨rfl, hB.mv X0.warmed.alike hh0, f1.al X0.warmed.alike, f2.al X0.warmed.alike, hA.mv X0.warmed.alike hh0, s1.there X0.warmed.alike hh0, hz, l0, by omega, l2, fun i hi => by rw [Nat.zero_add]; exact hp i hi⟩)
  have e0 := Got.mv _ s₁ s _ _ hh0.symm (Vm.Alike.refl _) rfl E3
  obtain rfl := e0.1
  have c4 : Steps p.tables e below (s₁.setTop (entryFrame m #[.ref a, .ref b] 2)) (T3.setTop (mkF m 9 #[.val (.ref a), .val (.ref b)] [])) := g3
  exact ⟨T3, none, _, _, _, X3, by simp, rfl, by omega, (fun _ => rfl), e0, fun fs hl => c4.trans (X3.returnOut hexec hret (hb hbytes d9) hl)⟩
theorem pays {l : Launch} {R : Room} {p : Program} {e : Env} {below : List Frame} {s : State} {sargs : Array Value} {len W : Nat} (a : Addr) (D : Cell) (fV fC : Field) (b : Addr) (A : Cell) (z : Int32) (htab : tab.before sargs s = true) (hfr : 4 ≤ R.frames) (hlo : W + 65 ≤ R.locals) :
    Back l R p e below s sargs yN len W (fun A₁ a₁ => A₁.cells + 1 ≤ R.cells ∧ A₁.slots + A.slots.size ≤ R.slots ∧ P a D fV fC b A z a₁ A₁.U) (fun A₁ _ v₁ B₁ => E a D fV fC A v₁ A₁.U B₁.U ∧ B₁.locs = A₁.locs ++ [⟨a, fC.slot⟩, ⟨a, fV.slot⟩] ∧ B₁.cells = A₁.cells + 1 ∧ B₁.slots = A₁.slots + A.slots.size) :=
  (law l a D fV fC b A z).pays htab hfr (by omega)
end New1
end StrChars
namespace StrChars.Road
open Jvm Sem ClassFile Op Lib Jvm.Stand Jvm.Free Jvm.Free.XT
open Jvm.Lib.Cold (StaticIs)
abbrev ST : String := "java/lang/String"
/-- every table word that New1's law asks, flat -/
abbrev words : List Jvm.Cond := [.code New1.yN New1.yB 2 none, .initialized ST, .methodLink ST 27 New4.yN, .instanceMethod New4.yN,
  .code New4.yN New4.yB 6 none, .fieldLink ST 38 ST "COMPACT_STRINGS" "Z", .laysFinal ST ST "value" "[B", .fieldLink ST 9 ST "value" "[B", .laysFinal ST ST "coder" "B", .fieldLink ST 15 ST "coder" "B",
  .methodLink ST 1 Lib.objectInit, .instanceMethod Lib.objectInit, .code Lib.objectInit ⟨#[0xb1]⟩ 1 none, .methodLink ST 177 Cmp3.yN, .static Cmp3.yN, .methodLink ST 47 CodL.yN, .static CodL.yN,
  .code Cmp3.yN Cmp3.yB 6 (some (.array .byte)), .initialized U16, .arrayClass .byte, .methodLink U16 115 Cmp5.yN, .static Cmp5.yN, .code Cmp5.yN Cmp5.yB 7 (some .int), .code CodL.yN CodL.yB 2 (some .byte)]
theorem tab_of {a : Array Value} {s : State} (h : ∀ w ∈ words, w.before a s = true) : New1.tab.before a s = true := by
  have h5 : Cmp5.tab.before a s = true := unparts (wk h (.code Cmp5.yN Cmp5.yB 7 (some .int))) (wks h (.initialized Cmp5.yN.cls :: Cmp5.site))
  have hc : CodL.tab.before a s = true := unparts (wk h (.code CodL.yN CodL.yB 2 (some .byte))) (wks h (.initialized CodL.yN.cls :: CodL.site))
  have q5 : ∀ w ∈ Cmp5.tab :: words, w.before a s = true := fun w hw => (List.mem_cons.mp hw).elim (fun e => e ▸ h5) (h w)
  have h3 : Cmp3.tab.before a s = true := unparts (wk q5 (.code Cmp3.yN Cmp3.yB 6 (some (.array .byte)))) (wks q5 (.initialized Cmp3.yN.cls :: Cmp3.site))
  have q3 : ∀ w ∈ Cmp3.tab :: CodL.tab :: words, w.before a s = true := fun w hw => (List.mem_cons.mp hw).elim (fun e => e ▸ h3) fun hw => (List.mem_cons.mp hw).elim (fun e => e ▸ hc) (h w)
  have h4 : New4.tab.before a s = true := unparts (wk q3 (.code New4.yN New4.yB 6 none)) (wks q3 (.initialized New4.yN.cls :: New4.site))
  have q4 : ∀ w ∈ New4.tab :: words, w.before a s = true := fun w hw => (List.mem_cons.mp hw).elim (fun e => e ▸ h4) (h w)
  exact unparts (wk q4 (.code New1.yN New1.yB 2 none)) (wks q4 (.initialized New1.yN.cls :: New1.site))
/-- the words ride from the start Z to the walk's own state -/
theorem moved {Z s : State} {a0 args : Array Value} (hZ : Z.Warmed39 s.vm) (hw : ∀ d ∈ words, d.before a0 Z = true) : ∀ d ∈ words, d.before args s = true := fun d hd => by
  have q := hw d hd
  have t : ∀ d ∈ words, d = .arrayClass .byte ∨ (d.onTables && d.keepsFace) = true := by decide +kernel
  rcases t d hd with rfl | t
  · exact RoadKit.mvA hZ q
  · exact RoadKit.mv hZ q t
/-- WHAT COMES BACK, over the tables of the start Z: h the heap at the call, h' behind it -/
def Q (Z : State) (x : Addr) (A : Cell) (h : Heap) (v : Option Value) (h' : Heap) (L : List Loc) : Prop := v = none ∧ (∀ y ∈ L, y.base = x) ∧ RoadKit.Keep h h' [x] ∧ h'.size = h.size + 1 ∧ RoadKit.Exa Z h' x ST ∧ RoadKit.Fld Z h' x ST "value" "[B" (.ref h.size) ∧ RoadKit.Fld Z h' x ST "coder" "B" (.int 0) ∧
  (∃ V : Cell, RoadKit.Arr Z h' h.size V .byte ∧ V.vm = .none ∧ Z.vm.findClass "[B" = some V.cls ∧ V.slots.size = A.slots.size ∧ ∀ j, j < A.slots.size → V.slots[j]? = some (.int (lo8 (cv A j)))) ∧
  ∀ (O n d : String) (w : Value), RoadKit.Fld Z h x O n d w → RoadKit.slotOf Z O n d ≠ RoadKit.slotOf Z ST "value" "[B" → RoadKit.slotOf Z O n d ≠ RoadKit.slotOf Z ST "coder" "B" → RoadKit.Fld Z h' x O n d w
/-- **new String(chars) AT A CALL, IN THE ROAD'S FORM**: for specialBack behind newO: x the fresh String, b the char[] with the cell A -/
theorem back {p : Program} {l : Launch} {e : Env} {R : Room} {s : State} {args : Array Value} {below : List Frame} {len W : Nat} {Z : State} {a0 : Array Value} {h : Heap} (hZ : Z.Warmed39 s.vm) (hw : ∀ d ∈ words, d.before a0 Z = true) {kI : Nat} (wi : (Jvm.Cond.instantiable ST kI).before a0 Z = true)
    {x b : Addr} {A : Cell} {z : Int32} {v0 c0 : Value} (E : RoadKit.Exa Z h x ST) (V : RoadKit.Fld Z h x ST "value" "[B" v0) (C : RoadKit.Fld Z h x ST "coder" "B" c0) (K : RoadKit.Arr Z h b A .char) (hty : Typed .char A) (S : RoadKit.Sta Z h ST "COMPACT_STRINGS" "Z" (.int z)) (hz : ¬ z = 0)
    (l0 : 0 < A.slots.size) (l2 : A.slots.size ≤ 536870912) (hp : ∀ i, i < A.slots.size → ¬ 255 < cv A i) (hfr : 4 ≤ R.frames) (hlo : W + 65 ≤ R.locals) :
    Back l R p e below s args New1.yN len W (fun P a => a = #[.ref x, .ref b] ∧ P.U.heap = h ∧ P.cells + 1 ≤ R.cells ∧ P.slots + A.slots.size ≤ R.slots)
      (fun P _ v B => ∃ L, Q Z x A h v B.U.heap L ∧ B.locs = P.locs ++ L ∧ B.cells = P.cells + 1 ∧ B.slots = P.slots + A.slots.size) := by
  intro m meth c P g ig mk a X hg hsize hdg hW hn hp'
  obtain ⟨rfl, rfl, r1, r2⟩ := hp'
  have al : Z.vm.Alike P.U.vm := hZ.alike.trans X.warmed.alike
  obtain ⟨D, cfV, kV, iV, fV, hD, gV, stV, knV, obV, asV, slV⟩ := id V
  obtain ⟨D', cfC, kC, iC, fC, hD', gC, stC, -, -, asC, slC⟩ := id C
  cases hD.symm.trans hD'
  obtain ⟨D2, kD, e1, e2, e3, e4, e5⟩ := id E
  cases hD.symm.trans e1
  obtain ⟨c2, k2, i1, i2, i3, -⟩ := Cond.instantiable_spec wi
  cases e2.symm.trans i1
  cases e3.symm.trans i2
  obtain ⟨kU, u1, u2⟩ := al.2.2 _ _ e3
  have hB : Blank ST x D P.U := ⟨hD, ⟨knV, fun q hq => by rw [hq] at obV; cases obV⟩, by rw [al.findClass]; exact e2, kU, u1, by rw [u2]; exact i3, by rw [u2]; exact e5 i3⟩
  have F1 : Found ST "value" "[B" fV P.U := ⟨SBG.found_only al ⟨cfV, kV, iV, gV⟩, stV⟩
  have F2 : Found ST "coder" "B" fC P.U := ⟨SBG.found_only al ⟨cfC, kC, iC, gC⟩, stC⟩
  have hA : Ch b A P.U := ⟨⟨K.1, State.isArrayOf_alike al K.2.1, K.2.2, by omega⟩, hty⟩
  have hS : StaticIs P.U ST "COMPACT_STRINGS" "Z" (.int z) := by
    obtain ⟨cfS, iS, kS, fS, st, cS, t1, t2, t3, t4, t5, t6, t7⟩ := S
    exact StaticIs.there (s := { Z with heap := P.U.heap }) ⟨cfS, iS, kS, fS, st, cS, t1, t2, t3, t4, t5, (fun q => by rw [q] at t6; cases t6), t7⟩ al rfl
  obtain ⟨v, B, X', ⟨⟨hv, E', V', q1, q2, q3, q4, q5, q6, q7, q8, q9, q10, q11⟩, hl, hc, hs⟩, st⟩ := New1.pays x D fV fC b A z (tab_of (moved hZ hw)) hfr hlo m meth c P g ig mk _ X hg hsize hdg hW hn ⟨r1, r2, rfl, hB, F1, F2, hA, hS, hz, l0, l2, hp⟩
  have al' : Z.vm.Alike B.U.vm := hZ.alike.trans X'.warmed.alike
  have hsz : E'.slots.size = D.slots.size := by
    obtain ⟨-, -, -, kB, w1, w2, w3⟩ := q1
    obtain ⟨kB', y1, y2⟩ := al'.2.2 _ _ e3
    rw [q2.2.1] at w1
    cases w1.symm.trans y1
    rw [w3, e5 i3, y2]
  refine ⟨v, B, X', ⟨_, ⟨hv, ?_, ⟨by omega, fun y cy hy hn' => q10 y cy (by simpa using hn') hy, fun y cy hy => ?_⟩, q11, ⟨E', _, q1.1, by rw [q2.2.1]; exact e2, by rw [q2.2.1]; exact e3, by rw [q2.1]; exact obV, fun _ => by rw [hsz]; exact e5 i3⟩,
    ⟨E', cfV, kV, iV, fV, q1.1, gV, stV, by rw [q2.1]; exact knV, by rw [q2.1]; exact obV, by rw [q2.2.1]; exact asV, q3⟩, ⟨E', cfC, kC, iC, fC, q1.1, gC, stC, by rw [q2.1]; exact knV, by rw [q2.1]; exact obV, by rw [q2.2.1]; exact asC, q4⟩,
    ⟨V', ⟨q5.1, State.isArrayOf_alike al'.symm q5.2.1, q5.2.2.1⟩, q6, by rw [← al'.findClass]; exact q7, q8, fun j hj => by have := q9 j hj; rwa [Nat.zero_add] at this⟩, fun O n d w F n1 n2 => ?_⟩, hl, hc, hs⟩, st⟩
  · intro y hy
    simp only [List.mem_cons, List.not_mem_nil, or_false] at hy
    rcases hy with rfl | rfl <;> rfl
  · by_cases q : y = x
    · subst q
      cases hD.symm.trans hy
      exact ⟨E', q1.1, q2.2.1, q2.1, hsz⟩
    · exact ⟨cy, q10 y cy q hy, rfl, rfl, rfl⟩
  · obtain ⟨D3, cf, k, i, f, g1, g2, g3, g4, g5, g6, g7⟩ := F
    cases hD.symm.trans g1
    simp only [RoadKit.slotOf, g2, gV, gC, Option.map_some, Option.getD_some] at n1 n2
    exact ⟨E', cf, k, i, f, q1.1, g2, g3, by rw [q2.1]; exact g4, by rw [q2.1]; exact g5, by rw [q2.2.1]; exact g6, by rw [q2.2.2 f.slot (by simp [n1, n2])]; exact g7⟩
end StrChars.Road
namespace StrChars.Road
open Jvm Sem ClassFile Op Lib Jvm.Stand Jvm.Free Jvm.Free.XT
/-- WHAT COMES BACK, the byte[] as a list of values -/
def QA (Z : State) (x : Addr) (zn : Int32) (cs : List Int32) (h : Heap) (v : Option Value) (h' : Heap) (L : List Loc) : Prop := v = none ∧ (∀ y ∈ L, y.base = x) ∧ RoadKit.Keep h h' [x] ∧ h'.size = h.size + 1 ∧ RoadKit.Exa Z h' x ST ∧ RoadKit.Fld Z h' x ST "value" "[B" (.ref h.size) ∧ RoadKit.Fld Z h' x ST "coder" "B" (.int 0) ∧
  (∃ kb, Z.vm.findClass "[B" = some kb ∧ RoadKit.Arv Z h' h.size kb .byte zn (cs.map fun c => .int (lo8 c)) (.int 0)) ∧
  ∀ (O n d : String) (w : Value), RoadKit.Fld Z h x O n d w → RoadKit.slotOf Z O n d ≠ RoadKit.slotOf Z ST "value" "[B" → RoadKit.slotOf Z O n d ≠ RoadKit.slotOf Z ST "coder" "B" → RoadKit.Fld Z h' x O n d w
/-- **new String(chars) AT A CALL, THE ARRAYS AS LISTS**: the char[] at b holds cs, not empty, no char above 255 -/
theorem backArv {p : Program} {l : Launch} {e : Env} {R : Room} {s : State} {args : Array Value} {below : List Frame} {len W : Nat} {Z : State} {a0 : Array Value} {h : Heap} (hZ : Z.Warmed39 s.vm) (hw : ∀ d ∈ words, d.before a0 Z = true) {kI : Nat} (wi : (Jvm.Cond.instantiable ST kI).before a0 Z = true)
    {x b : Addr} {k : ClassId} {zn z : Int32} {cs : List Int32} {dv v0 c0 : Value} (E : RoadKit.Exa Z h x ST) (V : RoadKit.Fld Z h x ST "value" "[B" v0) (C : RoadKit.Fld Z h x ST "coder" "B" c0) (K : RoadKit.Arv Z h b k .char zn (cs.map Value.int) dv) (S : RoadKit.Sta Z h ST "COMPACT_STRINGS" "Z" (.int z)) (hz : ¬ z = 0)
    (hlen : zn.toNatClampNeg = cs.length) (h0 : 0 < cs.length) (hbig : cs.length ≤ 536870912) (hall : ∀ c ∈ cs, ¬ 255 < c) (hfr : 4 ≤ R.frames) (hlo : W + 65 ≤ R.locals) :
    Back l R p e below s args New1.yN len W (fun P a => a = #[.ref x, .ref b] ∧ P.U.heap = h ∧ P.cells + 1 ≤ R.cells ∧ P.slots + cs.length ≤ R.slots)
      (fun P _ v B => ∃ L, QA Z x zn cs h v B.U.heap L ∧ B.locs = P.locs ++ L ∧ B.cells = P.cells + 1 ∧ B.slots = P.slots + cs.length) := by
  obtain ⟨A, K1, K2, K3, K4, K5, K6⟩ := K
  have e : A.slots.size = cs.length := K3.trans hlen
  have hat : ∀ (i : Nat) (hi : i < cs.length), A.slots[i]? = some (.int cs[i]) := fun i hi => by rw [K5 i (by omega)]; simp [List.getD_eq_getElem?_getD, hi]
  have hcv : ∀ (i : Nat) (hi : i < cs.length), cv A i = cs[i] := fun i hi => by unfold cv; rw [hat i hi]
  have hty : Typed .char A := fun i v hv => by
    have hi : i < A.slots.size := (Array.getElem?_eq_some_iff.mp hv).1
    have q := K5 i hi
    rw [hv] at q
    rw [Option.some.inj q]
    exact K6 i hi
  refine Back.mono (back hZ hw wi E V C K1 hty S hz (by omega) (by omega) (fun i hi => by rw [hcv i (by omega)]; exact hall _ (List.getElem_mem _)) hfr hlo) (fun P a hp => ⟨hp.1, hp.2.1, hp.2.2.1, by rw [e]; exact hp.2.2.2⟩) (fun P a v B hp hq => ?_)
  obtain ⟨L, ⟨q1, q2, q3, q4, q5, q6, q7, ⟨V', v1, v2, v3, v4, v5⟩, q9⟩, hl, hc, hs⟩ := hq
  refine ⟨L, ⟨q1, q2, q3, q4, q5, q6, q7, ⟨V'.cls, v3, V', v1, rfl, by rw [v4, e, hlen], K4, fun i hi => ?_, fun i hi => ?_⟩, q9⟩, hl, hc, by rw [hs, e]⟩
  · have hi' : i < cs.length := by omega
    rw [v5 i (by omega), hcv i hi']; simp [List.getD_eq_getElem?_getD, hi']
  · have hi' : i < cs.length := by omega
    simp only [List.getD_eq_getElem?_getD, List.getElem?_map, List.getElem?_eq_getElem hi', Option.map_some, Option.getD_some]
    exact fits_lo8 _
end StrChars.Road
namespace StrChars.Road
open Jvm Sem ClassFile Op Lib Jvm.Stand Jvm.Free Jvm.Free.XT
/-- WHAT COMES BACK, in the writer's own shape -/
def QV (Z : State) (x : Addr) (N : Int32) (bs : List Int32) (h : Heap) (n0 : Nat) (v : Option Value) (h' : Heap) (L : List Loc) : Prop := v = none ∧ RoadKit.Fr n0 L ∧ RoadKit.Keep h h' [x] ∧ RoadKit.Exa Z h' x ST ∧ RoadKit.Fld Z h' x ST "coder" "B" (.int 0) ∧
  ∃ (t : Addr) (kb : ClassId), n0 ≤ t ∧ h.size ≤ t ∧ ¬ t = x ∧ RoadKit.Fld Z h' x ST "value" "[B" (.ref t) ∧ RoadKit.Arv Z h' t kb .byte N (bs.map Value.int) (.int 0)
/-- **new String(chars) AT A CALL, FOR THE WRITER**: a char[] of n known ints, each 0 to 255 -/
theorem backV {p : Program} {l : Launch} {e : Env} {R : Room} {s : State} {args : Array Value} {below : List Frame} {len W : Nat} {Z : State} {a0 : Array Value} {h : Heap} (hZ : Z.Warmed39 s.vm) (hw : ∀ d ∈ words, d.before a0 Z = true) {kI : Nat} (wi : (Jvm.Cond.instantiable ST kI).before a0 Z = true)
    {x b : Addr} {kC : ClassId} {cs bs : List Int32} {d v0 c0 : Value} {z N : Int32} {n n0 : Nat} (hx0 : n0 ≤ x) (hh0 : n0 ≤ h.size) (E : RoadKit.Exa Z h x ST) (V : RoadKit.Fld Z h x ST "value" "[B" v0) (C : RoadKit.Fld Z h x ST "coder" "B" c0) (K : RoadKit.Arv Z h b kC .char N (cs.map Value.int) d) (S : RoadKit.Sta Z h ST "COMPACT_STRINGS" "Z" (.int z)) (hz : ¬ z = 0)
    (hn : cs.length = n) (hN : N = Int32.ofNat n) (l0 : 0 < n) (l2 : n ≤ 4000) (hp : ∀ c ∈ cs, ¬ c < 0 ∧ ¬ (255 : Int32) < c) (hb : bs = cs.map (fun c => c.toInt8.toInt32)) (hfr : 4 ≤ R.frames) (hlo : W + 65 ≤ R.locals) :
    Back l R p e below s args (⟨"java/lang/String", "<init>", "([C)V"⟩ : MethodName) len W (fun P a => a = #[.ref x, .ref b] ∧ P.U.heap = h ∧ P.cells + 1 ≤ R.cells ∧ P.slots + n ≤ R.slots)
      (fun P _ v B => ∃ L, QV Z x N bs h n0 v B.U.heap L ∧ B.locs = P.locs ++ L ∧ B.cells = P.cells + 1 ∧ B.slots = P.slots + n) := by
  subst hn hN hb
  refine Back.mono (backArv hZ hw wi E V C K S hz (n32 (by omega)) l0 (by omega) (fun c hc => (hp c hc).2) hfr hlo) (fun P a hp => hp) (fun P a v B hp hq => ?_)
  obtain ⟨L, ⟨q1, q2, q3, q4, q5, q6, q7, ⟨kb, v1, v2⟩, q9⟩, hl, hc, hs⟩ := hq
  exact ⟨L, ⟨q1, fun y hy => by rw [q2 y hy]; exact hx0, q3, q5, q7, h.size, kb, hh0, Nat.le_refl _, Nat.ne_of_gt E.lt, q6, by rw [List.map_map]; exact v2⟩, hl, hc, hs⟩
end StrChars.Road
end Jvm.Pilot.@@N@@
namespace Jvm.Pilot.@@N@@
open Jvm Jvm.ClassFile Sem Op Lib Jvm.Free Jvm.Stand Jvm.LawKit Jvm.RoadKit Bundle Jvm.Pilot.@@N@@.Jvm.D
/-- the run comes from A to a state with P -/
def ownG (tb : Tables) (e : Env) (below : List Frame) (P : State → Prop) (A : State) : Prop := ∃ t, Steps tb e below A t ∧ P t
theorem ownBy {tb : Tables} {e : Env} {below : List Frame} {P : State → Prop} {A B : State} (st : ∀ t, Steps tb e below A t → Steps tb e below B t) (k : ownG tb e below P A) : ownG tb e below P B := by
  obtain ⟨t, h, q⟩ := k
  exact ⟨t, st t h, q⟩
theorem ownSt {tb : Tables} {e : Env} {below : List Frame} {P : State → Prop} {A B : State} (st : Steps tb e below B A) (k : ownG tb e below P A) : ownG tb e below P B := by
  obtain ⟨t, h, q⟩ := k
  exact ⟨t, st.trans h, q⟩
def ownE (s : State) (below : List Frame) (Q : Option Value → Heap → List Loc → Prop) (k n : Nat) (t : State) : Prop := t.status = .running ∧ ∃ v L, Ended t below (.returned v) ∧ Q v t.heap L ∧ FrameEnd s (.returned v) t L k n
def ownEH (s : State) (below : List Frame) (Q : Option Value → Heap → List Loc → Prop) (Z : State) (EL : List (String × Nat)) (h0 : Heap) (k n : Nat) (t : State) : Prop := t.status = .running ∧ ∃ v L, Ended t below (.returned v) ∧ Q v t.heap L ∧ CHr Z EL s.vm h0 t.vm t.heap ∧ ReturnedEndW s (.returned v) t L k n
theorem ownOut {tb : Tables} {e : Env} {below : List Frame} {P : Option Value → Heap → List Loc → Prop} {s A : State} {k n : Nat} (g : ownG tb e below (ownE s below P k n) A) :
    ∃ s₂ o, Steps tb e below A s₂ ∧ s₂.status = .running ∧ Ended s₂ below o ∧ ∃ v L, o = .returned v ∧ P v s₂.heap L ∧ FrameEnd s o s₂ L k n := by
  obtain ⟨t, h, r, v, L, e1, q, f⟩ := g
  exact ⟨t, _, h, r, e1, v, L, rfl, q, f⟩
theorem ownOutH {tb : Tables} {e : Env} {below : List Frame} {P : Option Value → Heap → List Loc → Prop} {s A Z : State} {EL : List (String × Nat)} {h0 : Heap} {k n : Nat} (hh : s.heap = h0) (g : ownG tb e below (ownEH s below P Z EL h0 k n) A) :
    ∃ s₂ o, Steps tb e below A s₂ ∧ s₂.status = .running ∧ Ended s₂ below o ∧ ∃ v L, o = .returned v ∧ P v s₂.heap L ∧ CHr Z EL s.vm s.heap s₂.vm s₂.heap ∧ ReturnedEndW s o s₂ L k n := by
  subst hh
  obtain ⟨t, h, r, v, L, e1, q, c, f⟩ := g
  exact ⟨t, _, h, r, e1, v, L, rfl, q, c, f⟩
theorem ownRet {p : Program} {l : Launch} {e : Env} {R : Room} {s : State} {m : MethodId} {args : Array Value} {below : List Frame} {meth : Method} {c : Code} {T A : State} {locs : List Loc} {cells slots k n : Nat} {P : Option Value → Heap → List Loc → Prop}
    (X : Stand p l e R s m args below meth c T locs cells slots) (hlk : meth.locks = false) {v : Option Value} (hv : meth.sig.returnType = none → v = none) (hQ : P v T.heap locs) (hk : cells ≤ k) (hn : slots ≤ n)
    (st : ∀ fs, (∀ (f : JFrame) (acts : List Action), f.method = m → f.locked = none → f.entered = [] → (doReturn e (T.setTop f) acts v).1 = T.setFrames fs) → Steps p.tables e below A (T.setFrames fs)) :
    ownG p.tables e below (ownE s below P k n) A := by
  obtain ⟨fs, hr, hrun, hended, hW, hsame⟩ := X.leave hv hlk
  exact ⟨_, st fs hr, hrun, v, locs, hended, hQ, ⟨_, rfl⟩, hW, hsame.mono hk hn⟩
theorem ownRetH {p : Program} {l : Launch} {e : Env} {R : Room} {s : State} {m : MethodId} {args : Array Value} {below : List Frame} {meth : Method} {c : Code} {T A Z : State} {EL : List (String × Nat)} {h0 : Heap} {locs : List Loc} {cells slots k n k1 : Nat} {vm1 : Vm} {P : Option Value → Heap → List Loc → Prop}
    (X : Stand p l e R (s.setVm vm1) m args below meth c T locs cells slots) (hS : s.Since vm1 k1) (hk1 : k1 ≤ T.heap.size) (hlk : meth.locks = false) {v : Option Value} (hv : meth.sig.returnType = none → v = none) (hQ : P v T.heap locs) (hC : CHr Z EL s.vm h0 T.vm T.heap) (hk : cells ≤ k) (hn : slots ≤ n)
    (st : ∀ fs, (∀ (f : JFrame) (acts : List Action), f.method = m → f.locked = none → f.entered = [] → (doReturn e (T.setTop f) acts v).1 = T.setFrames fs) → Steps p.tables e below A (T.setFrames fs)) :
    ownG p.tables e below (ownEH s below P Z EL h0 k n) A := by
  obtain ⟨fs, hr, hrun, hended, hR⟩ := X.leaveW hS hk1 hv hlk
  exact ⟨_, st fs hr, hrun, v, locs, hended, hQ, hC, hR.1, hR.2.1, hR.2.2.1, hR.2.2.2.mono hk hn⟩
theorem own_since {s : State} {n : Nat} : s.Since s.vm n := (State.WarmedH.refl s).since n
theorem own_cat {v : Value} (h : v.isRef = true) : v.category = 1 := by cases v <;> simp_all [Value.isRef, Value.category]
theorem own_narrow {t : FieldType} {v : Value} (ht : t.isReference = true) (h : v.isRef = true) : narrow t v = v := by
  rcases ref_cases h with rfl | ⟨a, rfl⟩ <;> cases t <;> simp_all [narrow, FieldType.isReference]
theorem own_fits {t : FieldType} {v : Value} (ht : t.isReference = true) (h : v.isRef = true) : fits t v = true := by
  rcases ref_cases h with rfl | ⟨a, rfl⟩ <;> cases t <;> simp_all [fits, FieldType.isReference]
theorem own_and255 (x : Int32) : ¬ nar .char ((x &&& (255 : Int32)).toUInt32.toUInt16.toUInt32.toInt32) < 0 ∧ ¬ (255 : Int32) < nar .char ((x &&& (255 : Int32)).toUInt32.toUInt16.toUInt32.toInt32) := by
  have t : ∀ k : Fin 256, ¬ nar .char ((Int32.ofNat k.val).toUInt32.toUInt16.toUInt32.toInt32) < 0 ∧ ¬ (255 : Int32) < nar .char ((Int32.ofNat k.val).toUInt32.toUInt16.toUInt32.toInt32) := by decide +kernel
  have h : (x &&& 255).toBitVec.toNat < 256 := by
    simp only [Int32.toBitVec_and, BitVec.toNat_and]
    exact Nat.lt_succ_of_le Nat.and_le_right
  have e : (x &&& 255) = Int32.ofNat (x &&& 255).toBitVec.toNat := by
    apply Int32.toBitVec_inj.mp
    show _ = BitVec.ofNat 32 _
    rw [BitVec.ofNat_toNat]; simp
  rw [e]
  exact t ⟨_, h⟩
theorem own_up (cs : List Int32) (h : ∀ c ∈ cs, ¬ c < 0 ∧ ¬ (255 : Int32) < c) : ∀ c ∈ cs, ¬ c < 0 ∧ ¬ (65535 : Int32) < c := fun c hc => ⟨(h c hc).1, fun q => (h c hc).2 (by rw [Int32.lt_iff_toInt_lt] at q ⊢; have e1 : (65535 : Int32).toInt = 65535 := rfl; have e2 : (255 : Int32).toInt = 255 := rfl; omega)⟩
theorem own_nz {args : Array Value} {s : State} {t : Jvm.Term} {g : Int32} (e : t.eval args s none [] s = some (.int g)) (h : (Jvm.Cond.not (Jvm.Cond.eq t (Jvm.Term.int (0 : Int32)))).value args s none s [] = some true) : ¬ (g = (0 : Int32)) := by
  intro q
  subst q
  simp [Jvm.Cond.value, Jvm.Term.eval, e] at h
theorem own_lcmp_self (x : Int64) : lcmpW x x = 0 := by rw [lcW]; exact (lc_eq x x).mpr rfl
theorem own_nar_byte (x : Int32) : nar .byte (x.toInt8.toInt32) = x.toInt8.toInt32 := by simp [nar]
theorem own_nar_char (x : Int32) : nar .char (x.toUInt32.toUInt16.toUInt32.toInt32) = x.toUInt32.toUInt16.toUInt32.toInt32 := by
  have q := c_i2c x
  have q2 := c_i2c (x.toUInt32.toUInt16.toUInt32.toInt32)
  exact Int32.toInt_inj.mp (by show ((x.toUInt32.toUInt16.toUInt32.toInt32).toUInt32.toUInt16.toUInt32.toInt32).toInt = _; omega)
theorem own_and255c (x : Int32) : ¬ ((255 : Int32) < (x &&& (255 : Int32)).toUInt32.toUInt16.toUInt32.toInt32) := by
  have h := (own_and255 x).2
  rwa [own_nar_char] at h
def own_b (p : Prop) [Decidable p] : Int32 := if p then 1 else 0
theorem own_bt0 {p : Prop} [Decidable p] (h : p) : ¬ (own_b p = (0 : Int32)) := by simp [own_b, h]
theorem own_bf0 {p : Prop} [Decidable p] (h : ¬ p) : own_b p = (0 : Int32) := by simp [own_b, h]
theorem own_bt1 {p : Prop} [Decidable p] (h : p) : own_b p = (1 : Int32) := by simp [own_b, h]
theorem own_bf1 {p : Prop} [Decidable p] (h : ¬ p) : ¬ (own_b p = (1 : Int32)) := by simp [own_b, h]
theorem own_safe_blank {Z : State} {EL : List (String × Nat)} {vm : Vm} {h : Heap} {x : Addr} (hal : Z.vm.Alike vm) (E : Exa Z h x "java/lang/String") (F : Fld Z h x "java/lang/String" "value" "[B" .null) : Safe Z EL vm h x := fun B => by
  obtain ⟨p, -, u, a, -, q, -, G, rfl | rfl⟩ := B
  · obtain ⟨cS, ⟨⟨s1, s2, s3, ⟨cv, kv, iv, s4, s4'⟩, -, s6, -, s8, -⟩, -⟩, -⟩ := G
    obtain ⟨cell, cf, kk, i, f, h1, h2, h3, -, -, -, h7⟩ := F
    cases (show h[q.sa]? = some q.sC from s1).symm.trans h1
    obtain ⟨kv', z4⟩ := ff_back (U := Wst Z vm h) hal s4
    cases h2.symm.trans z4
    rw [s8] at h7
    cases h7
  · obtain ⟨cell, k, e1, e2, e3, -, -⟩ := E
    cases (show h[q.sd]? = some q.SA from G.hd).symm.trans e1
    obtain ⟨cS, -, -, f, -⟩ := G
    have f' : vm.findClass "[B" = some q.SA.cls := f
    rw [hal.findClass] at f'
    obtain ⟨k1, q1, q2⟩ := Vm.findClass_spec f'
    obtain ⟨k2, q3, q4⟩ := Vm.findClass_spec e2
    cases q1.symm.trans q3
    exact absurd (q2.symm.trans q4) (by decide)
theorem own_wS {Z : State} {a0 : Array Value} (hw : ∀ d ∈ tables_1, d.before a0 Z = true) : ∀ a ∈ Bundle.stringAtoms, a.before a0 Z = true := fun d hd => hw d ((by decide +kernel : ∀ d ∈ Bundle.stringAtoms, d ∈ tables_1) d hd)
def ownEL : List (String × Nat) := [("java/lang/String", 7)]
theorem own_EW {Z : State} {a0 : Array Value} (hw : ∀ d ∈ tables_1, d.before a0 Z = true) : EW Z a0 ownEL := (EW.cons (hw _ (List.mem_of_getElem? (i := 81) rfl)) (by decide) EW.nil)
theorem pn_1 : plainName "java/lang/StringLatin1" = true := by first | (simp [plainName, overriddenIn]; done) | decide +kernel
theorem d_jdk_43_method_3_0 : decode jdk_43_method_3_code 0 = .ok (.iload_n 0, 1) := by decide +kernel
theorem d_jdk_43_method_3_1 : decode jdk_43_method_3_code 1 = .ok (.sipush 255, 3) := by decide +kernel
theorem d_jdk_43_method_3_4 : decode jdk_43_method_3_code 4 = .ok (.if_icmp .gt 7, 3) := by decide +kernel
theorem d_jdk_43_method_3_7 : decode jdk_43_method_3_code 7 = .ok (.iconst 1, 1) := by decide +kernel
theorem d_jdk_43_method_3_8 : decode jdk_43_method_3_code 8 = .ok (.goto 4, 3) := by decide +kernel
theorem d_jdk_43_method_3_12 : decode jdk_43_method_3_code 12 = .ok (.ireturn, 1) := by decide +kernel
theorem d_jdk_43_method_46_0 : decode jdk_43_method_46_code 0 = .ok (.iconst 1, 1) := by decide +kernel
theorem d_jdk_43_method_46_1 : decode jdk_43_method_46_code 1 = .ok (.newarray .byte, 2) := by decide +kernel
theorem d_jdk_43_method_46_3 : decode jdk_43_method_46_code 3 = .ok (.dup, 1) := by decide +kernel
theorem d_jdk_43_method_46_4 : decode jdk_43_method_46_code 4 = .ok (.iconst 0, 1) := by decide +kernel
theorem d_jdk_43_method_46_5 : decode jdk_43_method_46_code 5 = .ok (.iload_n 0, 1) := by decide +kernel
theorem d_jdk_43_method_46_6 : decode jdk_43_method_46_code 6 = .ok (.i2b, 1) := by decide +kernel
theorem d_jdk_43_method_46_7 : decode jdk_43_method_46_code 7 = .ok (.bastore, 1) := by decide +kernel
theorem d_jdk_43_method_46_8 : decode jdk_43_method_46_code 8 = .ok (.areturn, 1) := by decide +kernel
theorem pn_10 : plainName "java/lang/String" = true := by first | (simp [plainName, overriddenIn]; done) | decide +kernel
theorem d_jdk_42_method_151_0 : decode jdk_42_method_151_code 0 = .ok (.aload_n 0, 1) := by decide +kernel
theorem d_jdk_42_method_151_1 : decode jdk_42_method_151_code 1 = .ok (.invokespecial 1, 3) := by decide +kernel
theorem d_jdk_42_method_151_4 : decode jdk_42_method_151_code 4 = .ok (.aload_n 0, 1) := by decide +kernel
theorem d_jdk_42_method_151_5 : decode jdk_42_method_151_code 5 = .ok (.aload_n 1, 1) := by decide +kernel
theorem d_jdk_42_method_151_6 : decode jdk_42_method_151_code 6 = .ok (.putfield 9, 3) := by decide +kernel
theorem d_jdk_42_method_151_9 : decode jdk_42_method_151_code 9 = .ok (.aload_n 0, 1) := by decide +kernel
theorem d_jdk_42_method_151_10 : decode jdk_42_method_151_code 10 = .ok (.iload_n 2, 1) := by decide +kernel
theorem d_jdk_42_method_151_11 : decode jdk_42_method_151_code 11 = .ok (.putfield 15, 3) := by decide +kernel
theorem d_jdk_42_method_151_14 : decode jdk_42_method_151_code 14 = .ok (.return_, 1) := by decide +kernel
theorem d_jdk_42_method_139_0 : decode jdk_42_method_139_code 0 = .ok (.getstatic 38, 3) := by decide +kernel
theorem d_jdk_42_method_139_3 : decode jdk_42_method_139_code 3 = .ok (.ifCond .eq 23, 3) := by decide +kernel
theorem d_jdk_42_method_139_6 : decode jdk_42_method_139_code 6 = .ok (.iload_n 0, 1) := by decide +kernel
theorem d_jdk_42_method_139_7 : decode jdk_42_method_139_code 7 = .ok (.invokestatic 1015, 3) := by decide +kernel
theorem pd_25 : parseMethodDescriptor "(C)Z" = some ⟨[.char], some .boolean⟩ := by decide +kernel
theorem d_jdk_42_method_139_10 : decode jdk_42_method_139_code 10 = .ok (.ifCond .eq 16, 3) := by decide +kernel
theorem d_jdk_42_method_139_13 : decode jdk_42_method_139_code 13 = .ok (.new 10, 3) := by decide +kernel
theorem d_jdk_42_method_139_16 : decode jdk_42_method_139_code 16 = .ok (.dup, 1) := by decide +kernel
theorem d_jdk_42_method_139_17 : decode jdk_42_method_139_code 17 = .ok (.iload_n 0, 1) := by decide +kernel
theorem d_jdk_42_method_139_18 : decode jdk_42_method_139_code 18 = .ok (.invokestatic 1018, 3) := by decide +kernel
theorem pd_34 : parseMethodDescriptor "(C)[B" = some ⟨[.char], some (.array .byte)⟩ := by decide +kernel
theorem d_jdk_42_method_139_21 : decode jdk_42_method_139_code 21 = .ok (.iconst 0, 1) := by decide +kernel
theorem d_jdk_42_method_139_22 : decode jdk_42_method_139_code 22 = .ok (.invokespecial 209, 3) := by decide +kernel
theorem pd_45 : parseMethodDescriptor "([BB)V" = some ⟨[(.array .byte), .byte], none⟩ := by decide +kernel
theorem d_jdk_42_method_139_25 : decode jdk_42_method_139_code 25 = .ok (.areturn, 1) := by decide +kernel
theorem d_jdk_42_method_149_0 : decode jdk_42_method_149_code 0 = .ok (.aload_n 0, 1) := by decide +kernel
theorem d_jdk_42_method_149_1 : decode jdk_42_method_149_code 1 = .ok (.invokespecial 1, 3) := by decide +kernel
theorem d_jdk_42_method_149_4 : decode jdk_42_method_149_code 4 = .ok (.iload_n 3, 1) := by decide +kernel
theorem d_jdk_42_method_149_5 : decode jdk_42_method_149_code 5 = .ok (.ifCond .ne 22, 3) := by decide +kernel
theorem d_jdk_42_method_149_8 : decode jdk_42_method_149_code 8 = .ok (.aload_n 0, 1) := by decide +kernel
theorem d_jdk_42_method_149_9 : decode jdk_42_method_149_code 9 = .ok (.ldc 7, 2) := by decide +kernel
theorem d_jdk_42_method_149_11 : decode jdk_42_method_149_code 11 = .ok (.getfield 9, 3) := by decide +kernel
theorem d_jdk_42_method_149_14 : decode jdk_42_method_149_code 14 = .ok (.putfield 9, 3) := by decide +kernel
theorem d_jdk_42_method_149_17 : decode jdk_42_method_149_code 17 = .ok (.aload_n 0, 1) := by decide +kernel
theorem d_jdk_42_method_149_18 : decode jdk_42_method_149_code 18 = .ok (.ldc 7, 2) := by decide +kernel
theorem d_jdk_42_method_149_20 : decode jdk_42_method_149_code 20 = .ok (.getfield 15, 3) := by decide +kernel
theorem d_jdk_42_method_149_23 : decode jdk_42_method_149_code 23 = .ok (.putfield 15, 3) := by decide +kernel
theorem d_jdk_42_method_149_26 : decode jdk_42_method_149_code 26 = .ok (.return_, 1) := by decide +kernel
theorem d_jdk_42_method_3_0 : decode jdk_42_method_3_code 0 = .ok (.aload_n 0, 1) := by decide +kernel
theorem d_jdk_42_method_3_1 : decode jdk_42_method_3_code 1 = .ok (.aload_n 1, 1) := by decide +kernel
theorem d_jdk_42_method_3_2 : decode jdk_42_method_3_code 2 = .ok (.iconst 0, 1) := by decide +kernel
theorem d_jdk_42_method_3_3 : decode jdk_42_method_3_code 3 = .ok (.aload_n 1, 1) := by decide +kernel
theorem d_jdk_42_method_3_4 : decode jdk_42_method_3_code 4 = .ok (.arraylength, 1) := by decide +kernel
theorem d_jdk_42_method_3_5 : decode jdk_42_method_3_code 5 = .ok (.aconst_null, 1) := by decide +kernel
theorem d_jdk_42_method_3_6 : decode jdk_42_method_3_code 6 = .ok (.invokespecial 27, 3) := by decide +kernel
theorem pd_85 : parseMethodDescriptor "([CIILjava/lang/Void;)V" = some ⟨[(.array .char), .int, .int, (.object "java/lang/Void")], none⟩ := by decide +kernel
theorem d_jdk_42_method_3_9 : decode jdk_42_method_3_code 9 = .ok (.return_, 1) := by decide +kernel
theorem pn_94 : plainName "com/example/boring_outbox/boringoutbox/EndpointChangeDescriptionPinLaw" = true := by first | (simp [plainName, overriddenIn]; done) | decide +kernel
theorem d_method_2_0 : decode method_2_code 0 = .ok (.iload_n 1, 1) := by decide +kernel
theorem d_method_2_1 : decode method_2_code 1 = .ok (.sipush 255, 3) := by decide +kernel
theorem d_method_2_4 : decode method_2_code 4 = .ok (.iand, 1) := by decide +kernel
theorem d_method_2_5 : decode method_2_code 5 = .ok (.i2c, 1) := by decide +kernel
theorem d_method_2_6 : decode method_2_code 6 = .ok (.istore_n 2, 1) := by decide +kernel
theorem d_method_2_7 : decode method_2_code 7 = .ok (.iload_n 1, 1) := by decide +kernel
theorem d_method_2_8 : decode method_2_code 8 = .ok (.bipush 8, 2) := by decide +kernel
theorem d_method_2_10 : decode method_2_code 10 = .ok (.iushr, 1) := by decide +kernel
theorem d_method_2_11 : decode method_2_code 11 = .ok (.sipush 255, 3) := by decide +kernel
theorem d_method_2_14 : decode method_2_code 14 = .ok (.iand, 1) := by decide +kernel
theorem d_method_2_15 : decode method_2_code 15 = .ok (.i2c, 1) := by decide +kernel
theorem d_method_2_16 : decode method_2_code 16 = .ok (.istore_n 3, 1) := by decide +kernel
theorem d_method_2_17 : decode method_2_code 17 = .ok (.iload_n 0, 1) := by decide +kernel
theorem d_method_2_18 : decode method_2_code 18 = .ok (.ifCond .ne 5, 3) := by decide +kernel
theorem d_method_2_21 : decode method_2_code 21 = .ok (.aconst_null, 1) := by decide +kernel
theorem d_method_2_22 : decode method_2_code 22 = .ok (.areturn, 1) := by decide +kernel
theorem d_method_2_23 : decode method_2_code 23 = .ok (.iload_n 0, 1) := by decide +kernel
theorem d_method_2_24 : decode method_2_code 24 = .ok (.iconst 1, 1) := by decide +kernel
theorem d_method_2_25 : decode method_2_code 25 = .ok (.if_icmp .ne 14, 3) := by decide +kernel
theorem d_method_2_28 : decode method_2_code 28 = .ok (.new 7, 3) := by decide +kernel
theorem d_method_2_31 : decode method_2_code 31 = .ok (.dup, 1) := by decide +kernel
theorem d_method_2_32 : decode method_2_code 32 = .ok (.iconst 0, 1) := by decide +kernel
theorem d_method_2_33 : decode method_2_code 33 = .ok (.newarray .char, 2) := by decide +kernel
theorem d_method_2_35 : decode method_2_code 35 = .ok (.invokespecial 9, 3) := by decide +kernel
theorem pd_122 : parseMethodDescriptor "([C)V" = some ⟨[(.array .char)], none⟩ := by decide +kernel
theorem d_method_2_38 : decode method_2_code 38 = .ok (.areturn, 1) := by decide +kernel
theorem d_method_2_39 : decode method_2_code 39 = .ok (.iload_n 0, 1) := by decide +kernel
theorem d_method_2_40 : decode method_2_code 40 = .ok (.iconst 2, 1) := by decide +kernel
theorem d_method_2_41 : decode method_2_code 41 = .ok (.if_icmp .ne 8, 3) := by decide +kernel
theorem d_method_2_44 : decode method_2_code 44 = .ok (.iload_n 2, 1) := by decide +kernel
theorem d_method_2_45 : decode method_2_code 45 = .ok (.invokestatic 12, 3) := by decide +kernel
theorem pd_133 : parseMethodDescriptor "(C)Ljava/lang/String;" = some ⟨[.char], some (.object "java/lang/String")⟩ := by decide +kernel
theorem d_method_2_48 : decode method_2_code 48 = .ok (.areturn, 1) := by decide +kernel
theorem d_method_2_49 : decode method_2_code 49 = .ok (.new 7, 3) := by decide +kernel
theorem d_method_2_52 : decode method_2_code 52 = .ok (.dup, 1) := by decide +kernel
theorem d_method_2_53 : decode method_2_code 53 = .ok (.iconst 2, 1) := by decide +kernel
theorem d_method_2_54 : decode method_2_code 54 = .ok (.newarray .char, 2) := by decide +kernel
theorem d_method_2_56 : decode method_2_code 56 = .ok (.dup, 1) := by decide +kernel
theorem d_method_2_57 : decode method_2_code 57 = .ok (.iconst 0, 1) := by decide +kernel
theorem d_method_2_58 : decode method_2_code 58 = .ok (.iload_n 2, 1) := by decide +kernel
theorem d_method_2_59 : decode method_2_code 59 = .ok (.castore, 1) := by decide +kernel
theorem d_method_2_60 : decode method_2_code 60 = .ok (.dup, 1) := by decide +kernel
theorem d_method_2_61 : decode method_2_code 61 = .ok (.iconst 1, 1) := by decide +kernel
theorem d_method_2_62 : decode method_2_code 62 = .ok (.iload_n 3, 1) := by decide +kernel
theorem d_method_2_63 : decode method_2_code 63 = .ok (.castore, 1) := by decide +kernel
theorem d_method_2_64 : decode method_2_code 64 = .ok (.invokespecial 9, 3) := by decide +kernel
theorem d_method_2_67 : decode method_2_code 67 = .ok (.areturn, 1) := by decide +kernel
theorem pn_193 : plainName "com/example/boring_outbox/boringoutbox/EndpointChange" = true := by first | (simp [plainName, overriddenIn]; done) | decide +kernel
theorem d_prog_12_method_1_0 : decode prog_12_method_1_code 0 = .ok (.aload_n 0, 1) := by decide +kernel
theorem d_prog_12_method_1_1 : decode prog_12_method_1_code 1 = .ok (.invokespecial 1, 3) := by decide +kernel
theorem d_prog_12_method_1_4 : decode prog_12_method_1_code 4 = .ok (.return_, 1) := by decide +kernel
theorem d_prog_12_method_11_0 : decode prog_12_method_11_code 0 = .ok (.aload_n 0, 1) := by decide +kernel
theorem d_prog_12_method_11_1 : decode prog_12_method_11_code 1 = .ok (.getfield 80, 3) := by decide +kernel
theorem d_prog_12_method_11_4 : decode prog_12_method_11_code 4 = .ok (.ireturn, 1) := by decide +kernel
theorem d_prog_12_method_12_0 : decode prog_12_method_12_code 0 = .ok (.aload_n 0, 1) := by decide +kernel
theorem d_prog_12_method_12_1 : decode prog_12_method_12_code 1 = .ok (.getfield 84, 3) := by decide +kernel
theorem d_prog_12_method_12_4 : decode prog_12_method_12_code 4 = .ok (.areturn, 1) := by decide +kernel
theorem d_prog_12_method_7_0 : decode prog_12_method_7_code 0 = .ok (.aload_n 0, 1) := by decide +kernel
theorem d_prog_12_method_7_1 : decode prog_12_method_7_code 1 = .ok (.getfield 13, 3) := by decide +kernel
theorem d_prog_12_method_7_4 : decode prog_12_method_7_code 4 = .ok (.areturn, 1) := by decide +kernel
theorem d_prog_12_method_6_0 : decode prog_12_method_6_code 0 = .ok (.aload_n 0, 1) := by decide +kernel
theorem d_prog_12_method_6_1 : decode prog_12_method_6_code 1 = .ok (.iconst 1, 1) := by decide +kernel
theorem d_prog_12_method_6_2 : decode prog_12_method_6_code 2 = .ok (.putfield 80, 3) := by decide +kernel
theorem d_prog_12_method_6_5 : decode prog_12_method_6_code 5 = .ok (.aload_n 0, 1) := by decide +kernel
theorem d_prog_12_method_6_6 : decode prog_12_method_6_code 6 = .ok (.aload_n 1, 1) := by decide +kernel
theorem d_prog_12_method_6_7 : decode prog_12_method_6_code 7 = .ok (.putfield 84, 3) := by decide +kernel
theorem d_prog_12_method_6_10 : decode prog_12_method_6_code 10 = .ok (.aload_n 0, 1) := by decide +kernel
theorem d_prog_12_method_6_11 : decode prog_12_method_6_code 11 = .ok (.areturn, 1) := by decide +kernel
theorem pd_210 : parseMethodDescriptor "(II)Ljava/lang/String;" = some ⟨[.int, .int], some (.object "java/lang/String")⟩ := by decide +kernel
theorem pd_235 : parseMethodDescriptor "()V" = some ⟨[], none⟩ := by decide +kernel
theorem pd_238 : parseMethodDescriptor "()Z" = some ⟨[], some .boolean⟩ := by decide +kernel
theorem pd_241 : parseMethodDescriptor "()Ljava/lang/String;" = some ⟨[], some (.object "java/lang/String")⟩ := by decide +kernel
theorem pd_244 : parseMethodDescriptor "(Ljava/lang/String;)Lcom/example/boring_outbox/boringoutbox/EndpointChange;" = some ⟨[(.object "java/lang/String")], some (.object "com/example/boring_outbox/boringoutbox/EndpointChange")⟩ := by decide +kernel
def Q_canc (Z : State) (p1 : Int32) (h0 : Heap) (n0 : Nat) (v : Option Value) (h : Heap) (L : List Loc) : Prop := v = some (.int (1 : Int32)) ∧ Fr n0 L ∧ h = h0
theorem ef_canc (m : MethodId) (x0 : Int32)  : entryFrame m #[(.int x0)] 1 = mkF m 0 #[.val (.int x0)] [] := by first | (simp [entryFrame, mkF, argsToLocals, Value.category]; done) | rfl
set_option maxRecDepth 65536 in
set_option maxHeartbeats 40000000 in
theorem c_canc (l : Launch) (Z : State) (a0 : Array Value) (hw : ∀ d ∈ tables_1, d.before a0 Z = true) (ws : List Jvm.Cond) (p1 : Int32) (h0 : Heap) (n0 : Nat) (Z0 : n0 ≤ h0.size) (hle : ¬ ((255 : Int32) < p1)) :
    MetFree l (⟨"java/lang/StringLatin1", "canEncode", "(C)Z"⟩ : MethodName) (head1 (Jvm.Cond.code (⟨"java/lang/StringLatin1", "canEncode", "(C)Z"⟩ : MethodName) jdk_43_method_3_code 1 (some .boolean) :: ws) ({ frames := 0, cells := 0, slots := 0, locals := 0 } : Room)) (fun a U => a = #[(.int p1)] ∧ Z.Warmed39 U.vm ∧ U.heap = h0) (fun _ _ _ _ _ => True) (fun _ U o U' => ∃ v L, o = .returned v ∧ (Q_canc Z p1 h0 n0) v U'.heap L ∧ FrameEnd U o U' L ({ frames := 0, cells := 0, slots := 0, locals := 0 } : Room).cells ({ frames := 0, cells := 0, slots := 0, locals := 0 } : Room).slots) := by
  refine MetFree.of_bodySF (plainFor_of_name pn_1) hisR ?_
  intro p e s m args below meth c s₁ Bd hml0 hP hK
  obtain ⟨rfl, hZ, hh⟩ := hP
  have hx := Bd.exec
  have hby := Bd.bytes
  have hml : c.maxLocals = 1 := hml0
  have hown : s.vm.findClass "java/lang/StringLatin1" = some m.cls := findClass_of_methodNamed Bd.named
  have hnm := (name_of_methodNamed Bd.named Bd.method).1
  have X0 : Stand p l e ({ frames := 0, cells := 0, slots := 0, locals := 0 } : Room) s m #[(.int p1)] below meth c s₁ [] 0 0 := Stand.of_body Bd
  have e0 : s₁.heap = h0 := by rw [← hh, Bd.state]; rfl
  have N0 := Fr.nil n0
  refine ownOut (P := (Q_canc Z p1 h0 n0)) ?_
  refine ownBy (A := s₁.setTop (mkF m 0 #[.val (.int p1)] [])) (fun t k => castTop (ef_canc m p1) k) ?_
  refine ownBy (A := s₁.setTop (mkF m 12 #[.val (.int p1)] [(.int (1 : Int32))])) (fun t kt => ?_) ?_
  · show Steps p.tables e below (s₁.setTop (mkF m 0 #[.val (.int p1)] [])) t
    refine XS.iloadN X0.here hx rfl (hb hby d_jdk_43_method_3_0) rfl ?_
    show Steps p.tables e below (s₁.setTop (mkF m 1 #[.val (.int p1)] [(.int p1)])) t
    refine XS.sipush X0.here hx rfl (hb hby d_jdk_43_method_3_1) ?_
    show Steps p.tables e below (s₁.setTop (mkF m 4 #[.val (.int p1)] [(.int (255 : Int32)), (.int p1)])) t
    refine XS.icmpNo X0.here hx rfl (hb hby d_jdk_43_method_3_4) rfl (flt hle).2.2.1 ?_
    show Steps p.tables e below (s₁.setTop (mkF m 7 #[.val (.int p1)] [])) t
    refine XS.iconst X0.here hx rfl (hb hby d_jdk_43_method_3_7) ?_
    show Steps p.tables e below (s₁.setTop (mkF m 8 #[.val (.int p1)] [(.int (1 : Int32))])) t
    refine XS.goto X0.here hx rfl (pc0 := 8) (pc' := 12) rfl (hb hby d_jdk_43_method_3_8) (by decide) (by decide) ?_
    exact kt
  refine ownRet X0 Bd.notSynchronized (v := some (.int (nar .boolean (1 : Int32)))) (fun h => by rw [Bd.returns] at h; cases h) ?_ (Nat.le_of_ble_eq_true rfl) (Nat.le_of_ble_eq_true rfl) (fun fs hr => retN X0 hx (t := .boolean) Bd.returns (by simp) (hb hby d_jdk_43_method_3_12) hr)
  show (Q_canc Z p1 h0 n0) (some (.int (nar .boolean (1 : Int32)))) s₁.heap _
  rw [e0]
  exact ⟨rfl, N0, rfl⟩
def Q_tobc (Z : State) (p1 : Int32) (h0 : Heap) (n0 : Nat) (v : Option Value) (h : Heap) (L : List Loc) : Prop := ∃ (t : Addr) (kb : ClassId), v = some (.ref t) ∧ Fr n0 L ∧ Keep h0 h [] ∧ h0.size ≤ t ∧ Arv Z h t kb .byte (1 : Int32) [(.int (nar .byte (p1.toInt8.toInt32)))] (.int (0 : Int32))
theorem ef_tobc (m : MethodId) (x0 : Int32)  : entryFrame m #[(.int x0)] 1 = mkF m 0 #[.val (.int x0)] [] := by first | (simp [entryFrame, mkF, argsToLocals, Value.category]; done) | rfl
set_option maxRecDepth 65536 in
set_option maxHeartbeats 40000000 in
theorem c_tobc (l : Launch) (Z : State) (a0 : Array Value) (hw : ∀ d ∈ tables_1, d.before a0 Z = true) (ws : List Jvm.Cond) (p1 : Int32) (h0 : Heap) (n0 : Nat) (Z0 : n0 ≤ h0.size) :
    MetFree l (⟨"java/lang/StringLatin1", "toBytes", "(C)[B"⟩ : MethodName) (head1 (Jvm.Cond.code (⟨"java/lang/StringLatin1", "toBytes", "(C)[B"⟩ : MethodName) jdk_43_method_46_code 1 (some (.array .byte)) :: ws) ({ frames := 0, cells := 1, slots := 1, locals := 0 } : Room)) (fun a U => a = #[(.int p1)] ∧ Z.Warmed39 U.vm ∧ U.heap = h0) (fun _ _ _ _ _ => True) (fun _ U o U' => ∃ v L, o = .returned v ∧ (Q_tobc Z p1 h0 n0) v U'.heap L ∧ FrameEnd U o U' L ({ frames := 0, cells := 1, slots := 1, locals := 0 } : Room).cells ({ frames := 0, cells := 1, slots := 1, locals := 0 } : Room).slots) := by
  refine MetFree.of_bodySF (plainFor_of_name pn_1) hisR ?_
  intro p e s m args below meth c s₁ Bd hml0 hP hK
  obtain ⟨rfl, hZ, hh⟩ := hP
  have hx := Bd.exec
  have hby := Bd.bytes
  have hml : c.maxLocals = 1 := hml0
  have hown : s.vm.findClass "java/lang/StringLatin1" = some m.cls := findClass_of_methodNamed Bd.named
  have hnm := (name_of_methodNamed Bd.named Bd.method).1
  have X0 : Stand p l e ({ frames := 0, cells := 1, slots := 1, locals := 0 } : Room) s m #[(.int p1)] below meth c s₁ [] 0 0 := Stand.of_body Bd
  have e0 : s₁.heap = h0 := by rw [← hh, Bd.state]; rfl
  have N0 := Fr.nil n0
  refine ownOut (P := (Q_tobc Z p1 h0 n0)) ?_
  refine ownBy (A := s₁.setTop (mkF m 0 #[.val (.int p1)] [])) (fun t k => castTop (ef_tobc m p1) k) ?_
  refine ownBy (A := s₁.setTop (mkF m 1 #[.val (.int p1)] [(.int (1 : Int32))])) (fun t kt => ?_) ?_
  · show Steps p.tables e below (s₁.setTop (mkF m 0 #[.val (.int p1)] [])) t
    refine XS.iconst X0.here hx rfl (hb hby d_jdk_43_method_46_0) ?_
    exact kt
  obtain ⟨T2, h2, k2, X2, e2, E2, A2, st2⟩ := newP X0 hx hZ (hw _ (List.mem_of_getElem? (i := 18) rfl)) e0 (g := (mkF m 1 #[.val (.int p1)] [(.int (1 : Int32))])) rfl (hb hby d_jdk_43_method_46_1) rfl (by decide : ¬ ((1 : Int32) < (0 : Int32))) (cap := 1) (by decide) (by decide) (by decide) (by decide)
  obtain ⟨b2, g2⟩ : ∃ z, z = h0.size := ⟨_, rfl⟩
  rw [← g2] at A2 st2
  have g3 : n0 ≤ b2 := Nat.le_trans Z0 (Nat.le_of_eq g2.symm)
  have z4 : h0.size ≤ b2 := Nat.le_trans (Keep.refl h0 []).1 (Nat.le_of_eq g2.symm)
  have V5 : Arv Z h2 b2 k2 .byte (1 : Int32) [(.int (0 : Int32))] (.int (0 : Int32)) := (Arv.new A2 (by decide)).pad (pad_rep [] (.int (0 : Int32)) 1)
  refine ownBy st2 ?_
  show ownG p.tables e below _ (T2.setTop (mkF m 3 #[.val (.int p1)] [(.ref b2)]))
  refine ownBy (A := T2.setTop (mkF m 7 #[.val (.int p1)] [(.int (p1.toInt8.toInt32)), (.int (0 : Int32)), (.ref b2), (.ref b2)])) (fun t kt => ?_) ?_
  · show Steps p.tables e below (T2.setTop (mkF m 3 #[.val (.int p1)] [(.ref b2)])) t
    refine XS.dup X2.here hx rfl (hb hby d_jdk_43_method_46_3) rfl rfl ?_
    show Steps p.tables e below (T2.setTop (mkF m 4 #[.val (.int p1)] [(.ref b2), (.ref b2)])) t
    refine XS.iconst X2.here hx rfl (hb hby d_jdk_43_method_46_4) ?_
    show Steps p.tables e below (T2.setTop (mkF m 5 #[.val (.int p1)] [(.int (0 : Int32)), (.ref b2), (.ref b2)])) t
    refine XS.iloadN X2.here hx rfl (hb hby d_jdk_43_method_46_5) rfl ?_
    show Steps p.tables e below (T2.setTop (mkF m 6 #[.val (.int p1)] [(.int p1), (.int (0 : Int32)), (.ref b2), (.ref b2)])) t
    refine XS.i2b X2.here hx rfl (hb hby d_jdk_43_method_46_6) rfl ?_
    exact kt
  obtain ⟨cl6, Ar6, q6, S6, N6, H6, G6⟩ := id V5
  have hin6 : ¬ ((0 : Int32) < 0 ∨ cl6.slots.size ≤ ((0 : Int32)).toNatClampNeg) := inb_of S6 ⟨by decide, by decide⟩
  obtain ⟨T6, h6, X6, e6, W6, st6⟩ := stB X2 hx hZ e2 Ar6 (j := (0 : Int32)) hin6 (g := (mkF m 7 #[.val (.int p1)] [(.int (p1.toInt8.toInt32)), (.int (0 : Int32)), (.ref b2), (.ref b2)])) rfl rfl (hb hby d_jdk_43_method_46_7)
  have V7 : Arv Z h6 b2 k2 .byte (1 : Int32) [(.int (nar .byte (p1.toInt8.toInt32)))] (.int (0 : Int32)) := Arv.set Ar6 q6 S6 N6 H6 G6 (fits_nar_byte _) W6 0 rfl (Nat.le_of_ble_eq_true rfl)
  have N8 := Fr.snoc X6 N0 g3
  refine ownBy st6 ?_
  show ownG p.tables e below _ (T6.setTop (mkF m 8 #[.val (.int p1)] [(.ref b2)]))
  have f9 := (((Keep.refl h0 []).ext E2).wr W6 (Or.inr z4))
  refine ownRet X6 Bd.notSynchronized (v := some (.ref b2)) (fun h => by rw [Bd.returns] at h; cases h) ?_ (Nat.le_of_ble_eq_true rfl) (Nat.le_of_ble_eq_true rfl) (fun fs hr => retOut X6 hx Bd.returns rfl (Or.inr (Or.inr (Or.inr (Or.inr ⟨rfl, rfl, rfl⟩)))) (hb hby d_jdk_43_method_46_8) hr)
  show (Q_tobc Z p1 h0 n0) (some (.ref b2)) T6.heap _
  rw [e6]
  exact ⟨b2, k2, rfl, N8, f9, z4, V7⟩
def Q_inbb (Z : State) (a1 : Addr) (a2 : Addr) (v0 : Value) (c0 : Value) (h0 : Heap) (n0 : Nat) (v : Option Value) (h : Heap) (L : List Loc) : Prop := v = none ∧ Fr n0 L ∧ Keep h0 h [a1] ∧ Exa Z h a1 "java/lang/String" ∧ Fld Z h a1 "java/lang/String" "value" "[B" (.ref a2) ∧ Fld Z h a1 "java/lang/String" "coder" "B" (.int (0 : Int32))
theorem ef_inbb (m : MethodId) (x0 : Addr) (x1 : Addr) (x2 : Int32)  : entryFrame m #[(.ref x0), (.ref x1), (.int x2)] 3 = mkF m 0 #[.val (.ref x0), .val (.ref x1), .val (.int x2)] [] := by first | (simp [entryFrame, mkF, argsToLocals, Value.category]; done) | rfl
set_option maxRecDepth 65536 in
set_option maxHeartbeats 40000000 in
theorem c_inbb (l : Launch) (Z : State) (a0 : Array Value) (hw : ∀ d ∈ tables_1, d.before a0 Z = true) (ws : List Jvm.Cond) (a1 : Addr) (a2 : Addr) (v0 : Value) (c0 : Value) (h0 : Heap) (n0 : Nat) (Z0 : n0 ≤ h0.size) (E1 : Exa Z h0 a1 "java/lang/String") (F1 : Fld Z h0 a1 "java/lang/String" "value" "[B" v0) (F2 : Fld Z h0 a1 "java/lang/String" "coder" "B" c0) (g1 : n0 ≤ a1) :
    MetFree l (⟨"java/lang/String", "<init>", "([BB)V"⟩ : MethodName) (head1 (Jvm.Cond.code (⟨"java/lang/String", "<init>", "([BB)V"⟩ : MethodName) jdk_42_method_151_code 3 none :: ws) ({ frames := 1, cells := 0, slots := 0, locals := 12 } : Room)) (fun a U => a = #[(.ref a1), (.ref a2), (.int (0 : Int32))] ∧ Z.Warmed39 U.vm ∧ U.heap = h0) (fun _ _ _ _ _ => True) (fun _ U o U' => ∃ v L, o = .returned v ∧ (Q_inbb Z a1 a2 v0 c0 h0 n0) v U'.heap L ∧ FrameEnd U o U' L ({ frames := 1, cells := 0, slots := 0, locals := 12 } : Room).cells ({ frames := 1, cells := 0, slots := 0, locals := 12 } : Room).slots) := by
  refine MetFree.of_bodySF (plainFor_of_name pn_10) hisR ?_
  intro p e s m args below meth c s₁ Bd hml0 hP hK
  obtain ⟨rfl, hZ, hh⟩ := hP
  have hx := Bd.exec
  have hby := Bd.bytes
  have hml : c.maxLocals = 3 := hml0
  have hown : s.vm.findClass "java/lang/String" = some m.cls := findClass_of_methodNamed Bd.named
  have hnm := (name_of_methodNamed Bd.named Bd.method).1
  have X0 : Stand p l e ({ frames := 1, cells := 0, slots := 0, locals := 12 } : Room) s m #[(.ref a1), (.ref a2), (.int (0 : Int32))] below meth c s₁ [] 0 0 := Stand.of_body Bd
  have e0 : s₁.heap = h0 := by rw [← hh, Bd.state]; rfl
  have N0 := Fr.nil n0
  refine ownOut (P := (Q_inbb Z a1 a2 v0 c0 h0 n0)) ?_
  refine ownBy (A := s₁.setTop (mkF m 0 #[.val (.ref a1), .val (.ref a2), .val (.int (0 : Int32))] [])) (fun t k => castTop (ef_inbb m a1 a2 (0 : Int32)) k) ?_
  refine ownBy (A := s₁.setTop (mkF m 1 #[.val (.ref a1), .val (.ref a2), .val (.int (0 : Int32))] [(.ref a1)])) (fun t kt => ?_) ?_
  · show Steps p.tables e below (s₁.setTop (mkF m 0 #[.val (.ref a1), .val (.ref a2), .val (.int (0 : Int32))] [])) t
    refine XS.aloadN X0.here hx rfl (hb hby d_jdk_42_method_151_0) rfl rfl ?_
    exact kt
  obtain ⟨T11, X11, e11, st11⟩ := initO X0 hx hZ hown (hw _ (List.mem_of_getElem? (i := 23) rfl)) (hw _ (List.mem_of_getElem? (i := 24) rfl)) (hw _ (List.mem_of_getElem? (i := 25) rfl)) e0 (g := (mkF m 1 #[.val (.ref a1), .val (.ref a2), .val (.int (0 : Int32))] [(.ref a1)])) rfl (by rw [hml]; rfl) rfl (hb hby d_jdk_42_method_151_1) (by decide) (W := 0) (by show 2 * 0 + _ ≤ _; exact Nat.le_of_eq rfl) (by decide)
  refine ownBy st11 ?_
  show ownG p.tables e below _ (T11.setTop (mkF m 4 #[.val (.ref a1), .val (.ref a2), .val (.int (0 : Int32))] []))
  refine ownBy (A := T11.setTop (mkF m 6 #[.val (.ref a1), .val (.ref a2), .val (.int (0 : Int32))] [(.ref a2), (.ref a1)])) (fun t kt => ?_) ?_
  · show Steps p.tables e below (T11.setTop (mkF m 4 #[.val (.ref a1), .val (.ref a2), .val (.int (0 : Int32))] [])) t
    refine XS.aloadN X11.here hx rfl (hb hby d_jdk_42_method_151_4) rfl rfl ?_
    show Steps p.tables e below (T11.setTop (mkF m 5 #[.val (.ref a1), .val (.ref a2), .val (.int (0 : Int32))] [(.ref a1)])) t
    refine XS.aloadN X11.here hx rfl (hb hby d_jdk_42_method_151_5) rfl rfl ?_
    exact kt
  obtain ⟨T12, h12, X12, e12, W12, st12⟩ := putF X11 hx hZ hown (host := "") (Or.inl (hw _ (List.mem_of_getElem? (i := 26) rfl))) Via.refl e11 F1 E1 (Or.inr ⟨(hw _ (List.mem_of_getElem? (i := 27) rfl)), rfl, hnm⟩) (hw _ (List.mem_of_getElem? (i := 14) rfl)) (ty := (.array .byte)) (by decide) rfl rfl (g := (mkF m 6 #[.val (.ref a1), .val (.ref a2), .val (.int (0 : Int32))] [(.ref a2), (.ref a1)])) rfl rfl (hb hby d_jdk_42_method_151_6)
  have F13 := F1.same W12
  have N14 := Fr.snoc X12 N0 g1
  refine ownBy st12 ?_
  show ownG p.tables e below _ (T12.setTop (mkF m 9 #[.val (.ref a1), .val (.ref a2), .val (.int (0 : Int32))] []))
  refine ownBy (A := T12.setTop (mkF m 11 #[.val (.ref a1), .val (.ref a2), .val (.int (0 : Int32))] [(.int (0 : Int32)), (.ref a1)])) (fun t kt => ?_) ?_
  · show Steps p.tables e below (T12.setTop (mkF m 9 #[.val (.ref a1), .val (.ref a2), .val (.int (0 : Int32))] [])) t
    refine XS.aloadN X12.here hx rfl (hb hby d_jdk_42_method_151_9) rfl rfl ?_
    show Steps p.tables e below (T12.setTop (mkF m 10 #[.val (.ref a1), .val (.ref a2), .val (.int (0 : Int32))] [(.ref a1)])) t
    refine XS.iloadN X12.here hx rfl (hb hby d_jdk_42_method_151_10) rfl ?_
    exact kt
  have f16 := (F2.other W12 (Or.inr (slot_ne (Or.inr (hw _ (List.mem_of_getElem? (i := 29) rfl))) (Or.inr (hw _ (List.mem_of_getElem? (i := 27) rfl))) (by decide) (t := .byte) (t' := (.array .byte)) (by decide) (by decide))))
  have f17 := (E1.wr W12)
  obtain ⟨T15, h15, X15, e15, W15, st15⟩ := putFN X12 hx hZ hown (hw _ (List.mem_of_getElem? (i := 28) rfl)) Via.refl e12 f16 f17 (Or.inr ⟨(hw _ (List.mem_of_getElem? (i := 29) rfl)), rfl, hnm⟩) (hw _ (List.mem_of_getElem? (i := 14) rfl)) (ty := .byte) (v' := (.int (0 : Int32))) (by decide) rfl (fits_nar_byte (0 : Int32)) (g := (mkF m 11 #[.val (.ref a1), .val (.ref a2), .val (.int (0 : Int32))] [(.int (0 : Int32)), (.ref a1)])) rfl rfl (hb hby d_jdk_42_method_151_11)
  have F18 := f16.same W15
  have N19 := Fr.snoc X15 N14 g1
  refine ownBy st15 ?_
  show ownG p.tables e below _ (T15.setTop (mkF m 14 #[.val (.ref a1), .val (.ref a2), .val (.int (0 : Int32))] []))
  have f20 := (((Keep.refl h0 [a1]).wr W12 (Or.inl (List.mem_of_getElem? (i := 0) rfl))).wr W15 (Or.inl (List.mem_of_getElem? (i := 0) rfl)))
  have f21 := (f17.wr W15)
  have f22 := (F13.other W15 (Or.inr (slot_ne (Or.inr (hw _ (List.mem_of_getElem? (i := 27) rfl))) (Or.inr (hw _ (List.mem_of_getElem? (i := 29) rfl))) (by decide) (t := (.array .byte)) (t' := .byte) (by decide) (by decide))))
  refine ownRet X15 Bd.notSynchronized (v := none) (fun _ => rfl) ?_ (Nat.le_of_ble_eq_true rfl) (Nat.le_of_ble_eq_true rfl) (fun fs hr => X15.returnOut hx Bd.returns (hb hby d_jdk_42_method_151_14) hr)
  show (Q_inbb Z a1 a2 v0 c0 h0 n0) (none) T15.heap _
  rw [e15]
  exact ⟨rfl, N19, f20, f21, f22, F18⟩
def Q_valc (Z : State) (p1 : Int32) (G1 : Int32) (h0 : Heap) (n0 : Nat) (v : Option Value) (h : Heap) (L : List Loc) : Prop := ∃ (x t : Addr) (kb : ClassId), v = some (.ref x) ∧ Fr n0 L ∧ Keep h0 h [] ∧ h0.size ≤ x ∧ Exa Z h x "java/lang/String" ∧ Fld Z h x "java/lang/String" "value" "[B" (.ref t) ∧ Fld Z h x "java/lang/String" "coder" "B" (.int (0 : Int32)) ∧ Arv Z h t kb .byte (1 : Int32) [(.int (nar .byte (p1.toInt8.toInt32)))] (.int (0 : Int32))
theorem ef_valc (m : MethodId) (x0 : Int32)  : entryFrame m #[(.int x0)] 1 = mkF m 0 #[.val (.int x0)] [] := by first | (simp [entryFrame, mkF, argsToLocals, Value.category]; done) | rfl
set_option maxRecDepth 65536 in
set_option maxHeartbeats 40000000 in
theorem c_valc (l : Launch) (Z : State) (a0 : Array Value) (hw : ∀ d ∈ tables_1, d.before a0 Z = true) (ws : List Jvm.Cond) (p1 : Int32) (G1 : Int32) (h0 : Heap) (n0 : Nat) (Z0 : n0 ≤ h0.size) (hle : ¬ ((255 : Int32) < p1)) (O2 : Sta Z Z.heap "java/lang/String" "COMPACT_STRINGS" "Z" (.int G1)) (P5 : ¬ (G1 = (0 : Int32))) (X00 : Old Z n0 h0) :
    MetFree l (⟨"java/lang/String", "valueOf", "(C)Ljava/lang/String;"⟩ : MethodName) (head1 (Jvm.Cond.code (⟨"java/lang/String", "valueOf", "(C)Ljava/lang/String;"⟩ : MethodName) jdk_42_method_139_code 1 (some (.object "java/lang/String")) :: ws) ({ frames := 2, cells := 2, slots := 5, locals := 28 } : Room)) (fun a U => a = #[(.int p1)] ∧ Z.Warmed39 U.vm ∧ U.heap = h0) (fun _ _ _ _ _ => True) (fun _ U o U' => ∃ v L, o = .returned v ∧ (Q_valc Z p1 G1 h0 n0) v U'.heap L ∧ FrameEnd U o U' L ({ frames := 2, cells := 2, slots := 5, locals := 28 } : Room).cells ({ frames := 2, cells := 2, slots := 5, locals := 28 } : Room).slots) := by
  refine MetFree.of_bodySF (plainFor_of_name pn_10) hisR ?_
  intro p e s m args below meth c s₁ Bd hml0 hP hK
  obtain ⟨rfl, hZ, hh⟩ := hP
  have hx := Bd.exec
  have hby := Bd.bytes
  have hml : c.maxLocals = 1 := hml0
  have hown : s.vm.findClass "java/lang/String" = some m.cls := findClass_of_methodNamed Bd.named
  have hnm := (name_of_methodNamed Bd.named Bd.method).1
  have X0 : Stand p l e ({ frames := 2, cells := 2, slots := 5, locals := 28 } : Room) s m #[(.int p1)] below meth c s₁ [] 0 0 := Stand.of_body Bd
  have e0 : s₁.heap = h0 := by rw [← hh, Bd.state]; rfl
  have N0 := Fr.nil n0
  refine ownOut (P := (Q_valc Z p1 G1 h0 n0)) ?_
  refine ownBy (A := s₁.setTop (mkF m 0 #[.val (.int p1)] [])) (fun t k => castTop (ef_valc m p1) k) ?_
  obtain ⟨T23, X23, e23, st23⟩ := getS2 X0 hx hZ hown (host := "") (Or.inl (hw _ (List.mem_of_getElem? (i := 8) rfl))) Via.refl e0 (O2.ext X00.2) (g := (mkF m 0 #[.val (.int p1)] [])) rfl (hb hby d_jdk_42_method_139_0)
  refine ownBy st23 ?_
  show ownG p.tables e below _ (T23.setTop (mkF m 3 #[.val (.int p1)] [(.int G1)]))
  refine ownBy (A := T23.setTop (mkF m 7 #[.val (.int p1)] [(.int p1)])) (fun t kt => ?_) ?_
  · show Steps p.tables e below (T23.setTop (mkF m 3 #[.val (.int p1)] [(.int G1)])) t
    refine XS.ifNo X23.here hx rfl (hb hby d_jdk_42_method_139_3) rfl ((if0 _ _).trans (feq P5).1) ?_
    show Steps p.tables e below (T23.setTop (mkF m 6 #[.val (.int p1)] [])) t
    refine XS.iloadN X23.here hx rfl (hb hby d_jdk_42_method_139_6) rfl ?_
    exact kt
  obtain ⟨_, _, ⟨T24, L24, k24, n24⟩, -, X24, ⟨Lc24, hQ24, l24, y24, z24⟩, st24⟩ := Jvm.LawKit.callS X23 hx (y := (⟨"java/lang/StringLatin1", "canEncode", "(C)Z"⟩ : MethodName)) hown (mvT hZ (hw _ (List.mem_of_getElem? (i := 9) rfl))) (mvT hZ (hw _ (List.mem_of_getElem? (i := 10) rfl))) (mvT hZ (hw _ (List.mem_of_getElem? (i := 11) rfl))) (mvT hZ (hw _ (List.mem_of_getElem? (i := 12) rfl))) (by decide) (backOf (W := 0) (c_canc l Z a0 hw [] p1 h0 n0 Z0 hle) hZ (hw _ (List.mem_of_getElem? (i := 12) rfl)) (hw _ (List.mem_of_getElem? (i := 11) rfl)) (by decide) (by decide)) (g := (mkF m 7 #[.val (.int p1)] [(.int p1)])) rfl (by rw [hml]; rfl) (argsL := [(.int p1)]) (rest := []) (lenOf pd_25 rfl) rfl (by show 2 * 0 + _ ≤ _; exact Nat.le_of_eq rfl) (hb hby d_jdk_42_method_139_7) (fun _ _ => ⟨rfl, e23, (by decide : 0 + 0 ≤ _), (by decide : 0 + 0 ≤ _)⟩)
  dsimp only [Pt.U, Pt.locs, Pt.cells, Pt.slots] at X24 l24 y24 z24 st24 hQ24
  subst l24 y24 z24
  obtain ⟨rfl, Nq24, Eq24⟩ := hQ24
  have N26 := Fr.app N0 Nq24
  refine ownBy st24 ?_
  show ownG p.tables e below _ (T24.setTop (mkF m 10 #[.val (.int p1)] [(.int (1 : Int32))]))
  refine ownBy (A := T24.setTop (mkF m 13 #[.val (.int p1)] [])) (fun t kt => ?_) ?_
  · show Steps p.tables e below (T24.setTop (mkF m 10 #[.val (.int p1)] [(.int (1 : Int32))])) t
    refine XS.ifNo X24.here hx rfl (hb hby d_jdk_42_method_139_10) rfl ((if0 _ _).trans (feq ((by decide) : ¬ ((1 : Int32) = (0 : Int32)))).1) ?_
    exact kt
  obtain ⟨T27, h27, X27, e27, E27, A27, D27, -, st27⟩ := newO X24 hx hZ hown (hw _ (List.mem_of_getElem? (i := 13) rfl)) (hw _ (List.mem_of_getElem? (i := 14) rfl)) (hw _ (List.mem_of_getElem? (i := 6) rfl)) Eq24 (g := (mkF m 13 #[.val (.int p1)] [])) rfl (hb hby d_jdk_42_method_139_13) (by decide) (by decide)
  obtain ⟨b27, g27⟩ : ∃ z, z = h0.size := ⟨_, rfl⟩
  rw [← g27] at A27 D27 st27
  have g28 : n0 ≤ b27 := Nat.le_trans Z0 (Nat.le_of_eq g27.symm)
  have z29 : h0.size ≤ b27 := Nat.le_trans (Keep.refl h0 []).1 (Nat.le_of_eq g27.symm)
  have F30 : Fld Z h27 b27 "java/lang/String" "value" "[B" .null := D27 (Or.inr (hw _ (List.mem_of_getElem? (i := 27) rfl))) (ty := (.array .byte)) (by decide)
  have F31 : Fld Z h27 b27 "java/lang/String" "coder" "B" (.int (0 : Int32)) := D27 (Or.inr (hw _ (List.mem_of_getElem? (i := 29) rfl))) (ty := .byte) (by decide)
  refine ownBy st27 ?_
  show ownG p.tables e below _ (T27.setTop (mkF m 16 #[.val (.int p1)] [(.ref b27)]))
  refine ownBy (A := T27.setTop (mkF m 18 #[.val (.int p1)] [(.int p1), (.ref b27), (.ref b27)])) (fun t kt => ?_) ?_
  · show Steps p.tables e below (T27.setTop (mkF m 16 #[.val (.int p1)] [(.ref b27)])) t
    refine XS.dup X27.here hx rfl (hb hby d_jdk_42_method_139_16) rfl rfl ?_
    show Steps p.tables e below (T27.setTop (mkF m 17 #[.val (.int p1)] [(.ref b27), (.ref b27)])) t
    refine XS.iloadN X27.here hx rfl (hb hby d_jdk_42_method_139_17) rfl ?_
    exact kt
  have f32 := (Nat.le_trans Z0 E27.1)
  obtain ⟨_, _, ⟨T33, L33, k33, n33⟩, -, X33, ⟨Lc33, hQ33, l33, y33, z33⟩, st33⟩ := Jvm.LawKit.callS X27 hx (y := (⟨"java/lang/StringLatin1", "toBytes", "(C)[B"⟩ : MethodName)) hown (mvT hZ (hw _ (List.mem_of_getElem? (i := 15) rfl))) (mvT hZ (hw _ (List.mem_of_getElem? (i := 16) rfl))) (mvT hZ (hw _ (List.mem_of_getElem? (i := 11) rfl))) (mvT hZ (hw _ (List.mem_of_getElem? (i := 17) rfl))) (by decide) (backOf (W := 2) (c_tobc l Z a0 hw [] p1 h27 n0 f32 ) hZ (hw _ (List.mem_of_getElem? (i := 17) rfl)) (hw _ (List.mem_of_getElem? (i := 11) rfl)) (by decide) (by decide)) (g := (mkF m 18 #[.val (.int p1)] [(.int p1), (.ref b27), (.ref b27)])) rfl (by rw [hml]; rfl) (argsL := [(.int p1)]) (rest := [(.ref b27), (.ref b27)]) (lenOf pd_34 rfl) rfl (by show 2 * 0 + _ ≤ _; exact Nat.le_of_eq rfl) (hb hby d_jdk_42_method_139_18) (fun _ _ => ⟨rfl, e27, (by decide : 1 + 1 ≤ _), (by decide : 4 + 1 ≤ _)⟩)
  dsimp only [Pt.U, Pt.locs, Pt.cells, Pt.slots] at X33 l33 y33 z33 st33 hQ33
  subst l33 y33 z33
  obtain ⟨t33, kb33, rfl, Nq33, Kq33, zq33, Aq33⟩ := hQ33
  have ne35 : b27 ≠ t33 := Nat.ne_of_lt (Nat.lt_of_lt_of_le A27.lt zq33)
  have g36 : n0 ≤ t33 := Nat.le_trans f32 zq33
  have f38 := ((Keep.refl h0 []).ext E27)
  have z37 : h0.size ≤ t33 := Nat.le_trans f38.1 zq33
  have N39 := Fr.app N26 Nq33
  refine ownBy st33 ?_
  show ownG p.tables e below _ (T33.setTop (mkF m 21 #[.val (.int p1)] [(.ref t33), (.ref b27), (.ref b27)]))
  refine ownBy (A := T33.setTop (mkF m 22 #[.val (.int p1)] [(.int (0 : Int32)), (.ref t33), (.ref b27), (.ref b27)])) (fun t kt => ?_) ?_
  · show Steps p.tables e below (T33.setTop (mkF m 21 #[.val (.int p1)] [(.ref t33), (.ref b27), (.ref b27)])) t
    refine XS.iconst X33.here hx rfl (hb hby d_jdk_42_method_139_21) ?_
    exact kt
  have f40 := (A27.keep Kq33)
  have f41 := (F30.keep Kq33 nin0)
  have f42 := (F31.keep Kq33 nin0)
  have f43 := (Nat.le_trans f32 Kq33.1)
  obtain ⟨_, _, ⟨T44, L44, k44, n44⟩, -, X44, ⟨Lc44, hQ44, l44, y44, z44⟩, st44⟩ := X33.specialBack hx (y := (⟨"java/lang/String", "<init>", "([BB)V"⟩ : MethodName)) rfl hown (mvT hZ (hw _ (List.mem_of_getElem? (i := 19) rfl))) (mvT hZ (hw _ (List.mem_of_getElem? (i := 20) rfl))) (mvT hZ (hw _ (List.mem_of_getElem? (i := 22) rfl))) (by decide) (backOf (W := 1) (c_inbb l Z a0 hw [] b27 t33 _ _ T33.heap n0 f43 f40 f41 f42 g28) hZ (hw _ (List.mem_of_getElem? (i := 22) rfl)) (hw _ (List.mem_of_getElem? (i := 6) rfl)) (by decide) (by decide)) (g := (mkF m 22 #[.val (.int p1)] [(.int (0 : Int32)), (.ref t33), (.ref b27), (.ref b27)])) rfl (by rw [hml]; rfl) (Steps.refl _) (a := b27) (argsL := [(.ref t33), (.int (0 : Int32))]) (rest := [(.ref b27)]) (lenOf pd_45 rfl) rfl (by show 2 * 0 + _ ≤ _; exact Nat.le_of_eq rfl) (hb hby d_jdk_42_method_139_22) (fun _ _ => ⟨rfl, rfl, (by decide : 2 + 0 ≤ _), (by decide : 5 + 0 ≤ _)⟩)
  dsimp only [Pt.U, Pt.locs, Pt.cells, Pt.slots] at X44 l44 y44 z44 st44 hQ44
  subst l44 y44 z44
  obtain ⟨rfl, Nq44, Kq44, Eq44, Vq44, Cq44⟩ := hQ44
  have N46 := Fr.app N39 Nq44
  refine ownSt st44 ?_
  show ownG p.tables e below _ (T44.setTop (mkF m 25 #[.val (.int p1)] [(.ref b27)]))
  have f47 := ((f38.trans Kq33 all0).trans Kq44 (allS (Or.inr z29) all0))
  have f48 := (f40.keep Kq44)
  have f49 := (Aq33.keep Kq44 (ninS (Ne.symm ne35) nin0))
  refine ownRet X44 Bd.notSynchronized (v := some (.ref b27)) (fun h => by rw [Bd.returns] at h; cases h) ?_ (Nat.le_of_ble_eq_true rfl) (Nat.le_of_ble_eq_true rfl) (fun fs hr => retOut X44 hx Bd.returns rfl (Or.inr (Or.inr (Or.inr (Or.inr ⟨rfl, rfl, rfl⟩)))) (hb hby d_jdk_42_method_139_25) hr)
  show (Q_valc Z p1 G1 h0 n0) (some (.ref b27)) T44.heap _
  exact ⟨b27, t33, kb33, rfl, N46, f47, z29, f48, Vq44, Cq44, f49⟩
def Q_ini4 (Z : State) (a1 : Addr) (a2 : Addr) (c0 : Value) (h0 : Heap) (n0 : Nat) (v : Option Value) (h : Heap) (L : List Loc) : Prop := v = none ∧ Fr n0 L ∧ Keep h0 h [a1] ∧ Exa Z h a1 "java/lang/String" ∧ Fld Z h a1 "java/lang/String" "coder" "B" (.int (0 : Int32)) ∧ ∃ (t : Addr) (kb : ClassId), Fld Z h a1 "java/lang/String" "value" "[B" (.ref t) ∧ Arv Z h t kb .byte (0 : Int32) [] (.int (0 : Int32))
theorem ef_ini4 (m : MethodId) (x0 : Addr) (x1 : Addr) (x2 : Int32) (x3 : Int32)  : entryFrame m #[(.ref x0), (.ref x1), (.int x2), (.int x3), .null] 6 = mkF m 0 #[.val (.ref x0), .val (.ref x1), .val (.int x2), .val (.int x3), .val .null, .unset] [] := by first | (simp [entryFrame, mkF, argsToLocals, Value.category]; done) | rfl
set_option maxRecDepth 65536 in
set_option maxHeartbeats 40000000 in
theorem c_ini4 (l : Launch) (Z : State) (a0 : Array Value) (hw : ∀ d ∈ tables_1, d.before a0 Z = true) (ws : List Jvm.Cond) (a1 : Addr) (a2 : Addr) (c0 : Value) (h0 : Heap) (n0 : Nat) (Z0 : n0 ≤ h0.size) (E1 : Exa Z h0 a1 "java/lang/String") (F1 : Fld Z h0 a1 "java/lang/String" "value" "[B" .null) (F2 : Fld Z h0 a1 "java/lang/String" "coder" "B" c0) (g1 : n0 ≤ a1) :
    MetFree l (⟨"java/lang/String", "<init>", "([CIILjava/lang/Void;)V"⟩ : MethodName) (head1 (Jvm.Cond.code (⟨"java/lang/String", "<init>", "([CIILjava/lang/Void;)V"⟩ : MethodName) jdk_42_method_149_code 6 none :: ws) ({ frames := 1, cells := 4, slots := 8, locals := 12 } : Room)) (fun a U => a = #[(.ref a1), (.ref a2), (.int (0 : Int32)), (.int (0 : Int32)), .null] ∧ Z.Warmed39 U.vm ∧ U.heap = h0 ∧ CHv Z ownEL U.vm h0) (fun _ _ _ _ _ => True) (fun _ U o U' => ∃ v L, o = .returned v ∧ (Q_ini4 Z a1 a2 c0 h0 n0) v U'.heap L ∧ CHr Z ownEL U.vm U.heap U'.vm U'.heap ∧ ReturnedEndW U o U' L ({ frames := 1, cells := 4, slots := 8, locals := 12 } : Room).cells ({ frames := 1, cells := 4, slots := 8, locals := 12 } : Room).slots) := by
  refine MetFree.of_bodySF (plainFor_of_name pn_10) hisR ?_
  intro p e s m args below meth c s₁ Bd hml0 hP hK
  obtain ⟨rfl, hZ, hh, hCH⟩ := hP
  have hx := Bd.exec
  have hby := Bd.bytes
  have hml : c.maxLocals = 6 := hml0
  have hown : s.vm.findClass "java/lang/String" = some m.cls := findClass_of_methodNamed Bd.named
  have hnm := (name_of_methodNamed Bd.named Bd.method).1
  have X0 : Stand p l e ({ frames := 1, cells := 4, slots := 8, locals := 12 } : Room) (s.setVm s.vm) m #[(.ref a1), (.ref a2), (.int (0 : Int32)), (.int (0 : Int32)), .null] below meth c s₁ [] 0 0 := Stand.of_body Bd
  have e0 : s₁.heap = h0 := by rw [← hh, Bd.state]; rfl
  have N0 := Fr.nil n0
  refine ownOutH hh (P := (Q_ini4 Z a1 a2 c0 h0 n0)) ?_
  refine ownBy (A := s₁.setTop (mkF m 0 #[.val (.ref a1), .val (.ref a2), .val (.int (0 : Int32)), .val (.int (0 : Int32)), .val .null, .unset] [])) (fun t k => castTop (ef_ini4 m a1 a2 (0 : Int32) (0 : Int32)) k) ?_
  have hS0 : s.Since s.vm h0.size := own_since
  have hEL := own_EW hw
  have R0 := CHr.refl hCH
  have wS := own_wS hw
  have sfa1 : Safe Z ownEL s.vm h0 a1 := own_safe_blank hZ.alike E1 F1
  refine ownBy (A := s₁.setTop (mkF m 1 #[.val (.ref a1), .val (.ref a2), .val (.int (0 : Int32)), .val (.int (0 : Int32)), .val .null, .unset] [(.ref a1)])) (fun t kt => ?_) ?_
  · show Steps p.tables e below (s₁.setTop (mkF m 0 #[.val (.ref a1), .val (.ref a2), .val (.int (0 : Int32)), .val (.int (0 : Int32)), .val .null, .unset] [])) t
    refine XS.aloadN X0.here hx rfl (hb hby d_jdk_42_method_149_0) rfl rfl ?_
    exact kt
  obtain ⟨T50, X50, e50, st50⟩ := initO X0 hx hZ hown (hw _ (List.mem_of_getElem? (i := 23) rfl)) (hw _ (List.mem_of_getElem? (i := 24) rfl)) (hw _ (List.mem_of_getElem? (i := 25) rfl)) e0 (g := (mkF m 1 #[.val (.ref a1), .val (.ref a2), .val (.int (0 : Int32)), .val (.int (0 : Int32)), .val .null, .unset] [(.ref a1)])) rfl (by rw [hml]; rfl) rfl (hb hby d_jdk_42_method_149_1) (by decide) (W := 0) (by show 2 * 0 + _ ≤ _; exact Nat.le_of_eq rfl) (by decide)
  refine ownBy st50 ?_
  show ownG p.tables e below _ (T50.setTop (mkF m 4 #[.val (.ref a1), .val (.ref a2), .val (.int (0 : Int32)), .val (.int (0 : Int32)), .val .null, .unset] []))
  refine ownBy (A := T50.setTop (mkF m 9 #[.val (.ref a1), .val (.ref a2), .val (.int (0 : Int32)), .val (.int (0 : Int32)), .val .null, .unset] [(.ref a1)])) (fun t kt => ?_) ?_
  · show Steps p.tables e below (T50.setTop (mkF m 4 #[.val (.ref a1), .val (.ref a2), .val (.int (0 : Int32)), .val (.int (0 : Int32)), .val .null, .unset] [])) t
    refine XS.iloadN X50.here hx rfl (hb hby d_jdk_42_method_149_4) rfl ?_
    show Steps p.tables e below (T50.setTop (mkF m 5 #[.val (.ref a1), .val (.ref a2), .val (.int (0 : Int32)), .val (.int (0 : Int32)), .val .null, .unset] [(.int (0 : Int32))])) t
    refine XS.ifNo X50.here hx rfl (hb hby d_jdk_42_method_149_5) rfl ((if0 _ _).trans (teq ((by decide) : (0 : Int32) = (0 : Int32))).2) ?_
    show Steps p.tables e below (T50.setTop (mkF m 8 #[.val (.ref a1), .val (.ref a2), .val (.int (0 : Int32)), .val (.int (0 : Int32)), .val .null, .unset] [])) t
    refine XS.aloadN X50.here hx rfl (hb hby d_jdk_42_method_149_8) rfl rfl ?_
    exact kt
  obtain ⟨a51, T51, h51, k51, b51, kb51, X51, e51, E51, hS51, hk51, hZ51, hown51, A51, C51, V51, Ab51, -, -, hC51, Lt51, hne51, st51⟩ := ldcCH (text := "") X50 hx hZ hown (hw _ (List.mem_of_getElem? (i := 81) rfl)) wS e50 hS0 (Nat.le_refl _) hEL (by simp [ownEL]) R0.1 (vs := []) (z := (0 : Int32)) ⟨by decide, by decide⟩ (by decide) rfl (g := (mkF m 9 #[.val (.ref a1), .val (.ref a2), .val (.int (0 : Int32)), .val (.int (0 : Int32)), .val .null, .unset] [(.ref a1)])) rfl (hb hby d_jdk_42_method_149_9) (n := 0) (by decide) (by decide) (by decide) (by decide)
  have R53 := R0.trans hC51
  have sf54 := CHr.safe hC51 E1.lt sfa1
  have ne55 := hne51 a1 sf54
  refine ownBy st51 ?_
  show ownG p.tables e below _ (T51.setTop (mkF m 11 #[.val (.ref a1), .val (.ref a2), .val (.int (0 : Int32)), .val (.int (0 : Int32)), .val .null, .unset] [(.ref a51), (.ref a1)]))
  obtain ⟨T56, X56, e56, st56⟩ := getF X51 hx hZ51 hown51 (host := "") (Or.inl (hw _ (List.mem_of_getElem? (i := 26) rfl))) Via.refl e51 V51 (g := (mkF m 11 #[.val (.ref a1), .val (.ref a2), .val (.int (0 : Int32)), .val (.int (0 : Int32)), .val .null, .unset] [(.ref a51), (.ref a1)])) rfl rfl (hb hby d_jdk_42_method_149_11)
  refine ownBy st56 ?_
  show ownG p.tables e below _ (T56.setTop (mkF m 14 #[.val (.ref a1), .val (.ref a2), .val (.int (0 : Int32)), .val (.int (0 : Int32)), .val .null, .unset] [(.ref b51), (.ref a1)]))
  have f58 := (F1.ext E51)
  have f59 := (E1.ext E51)
  obtain ⟨T57, h57, X57, e57, W57, st57⟩ := putF X56 hx hZ51 hown51 (host := "") (Or.inl (hw _ (List.mem_of_getElem? (i := 26) rfl))) Via.refl e56 f58 f59 (Or.inr ⟨(hw _ (List.mem_of_getElem? (i := 27) rfl)), rfl, hnm⟩) (hw _ (List.mem_of_getElem? (i := 14) rfl)) (ty := (.array .byte)) (by decide) rfl rfl (g := (mkF m 14 #[.val (.ref a1), .val (.ref a2), .val (.int (0 : Int32)), .val (.int (0 : Int32)), .val .null, .unset] [(.ref b51), (.ref a1)])) rfl rfl (hb hby d_jdk_42_method_149_14)
  have F60 := f58.same W57
  have N61 := Fr.snoc X57 N0 g1
  have R62 := R53.trans (CHr.wr W57 sf54 R53.1)
  have sf63 := Safe.wr W57 sf54 R53.1 sf54
  refine ownBy st57 ?_
  show ownG p.tables e below _ (T57.setTop (mkF m 17 #[.val (.ref a1), .val (.ref a2), .val (.int (0 : Int32)), .val (.int (0 : Int32)), .val .null, .unset] []))
  refine ownBy (A := T57.setTop (mkF m 18 #[.val (.ref a1), .val (.ref a2), .val (.int (0 : Int32)), .val (.int (0 : Int32)), .val .null, .unset] [(.ref a1)])) (fun t kt => ?_) ?_
  · show Steps p.tables e below (T57.setTop (mkF m 17 #[.val (.ref a1), .val (.ref a2), .val (.int (0 : Int32)), .val (.int (0 : Int32)), .val .null, .unset] [])) t
    refine XS.aloadN X57.here hx rfl (hb hby d_jdk_42_method_149_17) rfl rfl ?_
    exact kt
  obtain ⟨a64, T64, h64, k64, b64, kb64, X64, e64, E64, hS64, hk64, hZ64, hown64, A64, C64, V64, Ab64, -, -, hC64, Lt64, hne64, st64⟩ := ldcCH (text := "") X57 hx hZ51 hown51 (hw _ (List.mem_of_getElem? (i := 81) rfl)) wS e57 hS51 (Nat.le_trans hk51 (Keep.of_wr W57).1) hEL (by simp [ownEL]) R62.1 (vs := []) (z := (0 : Int32)) ⟨by decide, by decide⟩ (by decide) rfl (g := (mkF m 18 #[.val (.ref a1), .val (.ref a2), .val (.int (0 : Int32)), .val (.int (0 : Int32)), .val .null, .unset] [(.ref a1)])) rfl (hb hby d_jdk_42_method_149_18) (n := 0) (by decide) (by decide) (by decide) (by decide)
  have R66 := R62.trans hC64
  have f68 := (f59.wr W57)
  have sf67 := CHr.safe hC64 f68.lt sf63
  have ne69 := hne64 a1 sf67
  refine ownBy st64 ?_
  show ownG p.tables e below _ (T64.setTop (mkF m 20 #[.val (.ref a1), .val (.ref a2), .val (.int (0 : Int32)), .val (.int (0 : Int32)), .val .null, .unset] [(.ref a64), (.ref a1)]))
  obtain ⟨T70, X70, e70, st70⟩ := getF X64 hx hZ64 hown64 (host := "") (Or.inl (hw _ (List.mem_of_getElem? (i := 28) rfl))) Via.refl e64 C64 (g := (mkF m 20 #[.val (.ref a1), .val (.ref a2), .val (.int (0 : Int32)), .val (.int (0 : Int32)), .val .null, .unset] [(.ref a64), (.ref a1)])) rfl rfl (hb hby d_jdk_42_method_149_20)
  refine ownBy st70 ?_
  show ownG p.tables e below _ (T70.setTop (mkF m 23 #[.val (.ref a1), .val (.ref a2), .val (.int (0 : Int32)), .val (.int (0 : Int32)), .val .null, .unset] [(.int (0 : Int32)), (.ref a1)]))
  have f72 := (((F2.ext E51).other W57 (Or.inr (slot_ne (Or.inr (hw _ (List.mem_of_getElem? (i := 29) rfl))) (Or.inr (hw _ (List.mem_of_getElem? (i := 27) rfl))) (by decide) (t := .byte) (t' := (.array .byte)) (by decide) (by decide)))).ext E64)
  have f73 := (f68.ext E64)
  obtain ⟨T71, h71, X71, e71, W71, st71⟩ := putFN X70 hx hZ64 hown64 (hw _ (List.mem_of_getElem? (i := 28) rfl)) Via.refl e70 f72 f73 (Or.inr ⟨(hw _ (List.mem_of_getElem? (i := 29) rfl)), rfl, hnm⟩) (hw _ (List.mem_of_getElem? (i := 14) rfl)) (ty := .byte) (v' := (.int (0 : Int32))) (by decide) rfl (fits_nar_byte (0 : Int32)) (g := (mkF m 23 #[.val (.ref a1), .val (.ref a2), .val (.int (0 : Int32)), .val (.int (0 : Int32)), .val .null, .unset] [(.int (0 : Int32)), (.ref a1)])) rfl rfl (hb hby d_jdk_42_method_149_23)
  have F74 := f72.same W71
  have N75 := Fr.snoc X71 N61 g1
  have R76 := R66.trans (CHr.wr W71 sf67 R66.1)
  have sf77 := Safe.wr W71 sf67 R66.1 sf67
  refine ownBy st71 ?_
  show ownG p.tables e below _ (T71.setTop (mkF m 26 #[.val (.ref a1), .val (.ref a2), .val (.int (0 : Int32)), .val (.int (0 : Int32)), .val .null, .unset] []))
  have f78 := (((((Keep.refl h0 [a1]).ext E51).wr W57 (Or.inl (List.mem_of_getElem? (i := 0) rfl))).ext E64).wr W71 (Or.inl (List.mem_of_getElem? (i := 0) rfl)))
  have f79 := (f73.wr W71)
  have f80 := ((F60.ext E64).other W71 (Or.inr (slot_ne (Or.inr (hw _ (List.mem_of_getElem? (i := 27) rfl))) (Or.inr (hw _ (List.mem_of_getElem? (i := 29) rfl))) (by decide) (t := (.array .byte)) (t' := .byte) (by decide) (by decide))))
  have f81 := (((Ab51.other W57 (Ne.symm ne55.2)).ext E64).other W71 (Ne.symm ne55.2))
  refine ownRetH X71 hS64 (by rw [e71]; exact (Nat.le_trans hk64 (Keep.of_wr W71).1)) Bd.notSynchronized (v := none) (fun _ => rfl) ?_ (R76.trans ((by rw [e71]; exact CHv.at X71 hZ64 hEL R76.1))) (Nat.le_of_ble_eq_true rfl) (Nat.le_of_ble_eq_true rfl) (fun fs hr => X71.returnOut hx Bd.returns (hb hby d_jdk_42_method_149_26) hr)
  show (Q_ini4 Z a1 a2 c0 h0 n0) (none) T71.heap _
  rw [e71]
  exact ⟨rfl, N75, f78, f79, F74, b51, kb51, f80, f81⟩
def Q_ini0 (Z : State) (a1 : Addr) (a2 : Addr) (c0 : Value) (kC : ClassId) (h0 : Heap) (n0 : Nat) (v : Option Value) (h : Heap) (L : List Loc) : Prop := v = none ∧ Fr n0 L ∧ Keep h0 h [a1] ∧ Exa Z h a1 "java/lang/String" ∧ Fld Z h a1 "java/lang/String" "coder" "B" (.int (0 : Int32)) ∧ ∃ (t : Addr) (kb : ClassId), Fld Z h a1 "java/lang/String" "value" "[B" (.ref t) ∧ Arv Z h t kb .byte (0 : Int32) [] (.int (0 : Int32))
theorem ef_ini0 (m : MethodId) (x0 : Addr) (x1 : Addr)  : entryFrame m #[(.ref x0), (.ref x1)] 2 = mkF m 0 #[.val (.ref x0), .val (.ref x1)] [] := by first | (simp [entryFrame, mkF, argsToLocals, Value.category]; done) | rfl
set_option maxRecDepth 65536 in
set_option maxHeartbeats 40000000 in
theorem c_ini0 (l : Launch) (Z : State) (a0 : Array Value) (hw : ∀ d ∈ tables_1, d.before a0 Z = true) (ws : List Jvm.Cond) (a1 : Addr) (a2 : Addr) (c0 : Value) (kC : ClassId) (h0 : Heap) (n0 : Nat) (Z0 : n0 ≤ h0.size) (E1 : Exa Z h0 a1 "java/lang/String") (F1 : Fld Z h0 a1 "java/lang/String" "value" "[B" .null) (F2 : Fld Z h0 a1 "java/lang/String" "coder" "B" c0) (g1 : n0 ≤ a1) (V1 : Arv Z h0 a2 kC .char (0 : Int32) [] (.int (0 : Int32))) (ne1 : a1 ≠ a2) :
    MetFree l (⟨"java/lang/String", "<init>", "([C)V"⟩ : MethodName) (head1 (Jvm.Cond.code (⟨"java/lang/String", "<init>", "([C)V"⟩ : MethodName) jdk_42_method_3_code 2 none :: ws) ({ frames := 2, cells := 4, slots := 8, locals := 29 } : Room)) (fun a U => a = #[(.ref a1), (.ref a2)] ∧ Z.Warmed39 U.vm ∧ U.heap = h0 ∧ CHv Z ownEL U.vm h0) (fun _ _ _ _ _ => True) (fun _ U o U' => ∃ v L, o = .returned v ∧ (Q_ini0 Z a1 a2 c0 kC h0 n0) v U'.heap L ∧ CHr Z ownEL U.vm U.heap U'.vm U'.heap ∧ ReturnedEndW U o U' L ({ frames := 2, cells := 4, slots := 8, locals := 29 } : Room).cells ({ frames := 2, cells := 4, slots := 8, locals := 29 } : Room).slots) := by
  refine MetFree.of_bodySF (plainFor_of_name pn_10) hisR ?_
  intro p e s m args below meth c s₁ Bd hml0 hP hK
  obtain ⟨rfl, hZ, hh, hCH⟩ := hP
  have hx := Bd.exec
  have hby := Bd.bytes
  have hml : c.maxLocals = 2 := hml0
  have hown : s.vm.findClass "java/lang/String" = some m.cls := findClass_of_methodNamed Bd.named
  have hnm := (name_of_methodNamed Bd.named Bd.method).1
  have X0 : Stand p l e ({ frames := 2, cells := 4, slots := 8, locals := 29 } : Room) (s.setVm s.vm) m #[(.ref a1), (.ref a2)] below meth c s₁ [] 0 0 := Stand.of_body Bd
  have e0 : s₁.heap = h0 := by rw [← hh, Bd.state]; rfl
  have N0 := Fr.nil n0
  refine ownOutH hh (P := (Q_ini0 Z a1 a2 c0 kC h0 n0)) ?_
  refine ownBy (A := s₁.setTop (mkF m 0 #[.val (.ref a1), .val (.ref a2)] [])) (fun t k => castTop (ef_ini0 m a1 a2) k) ?_
  have hS0 : s.Since s.vm h0.size := own_since
  have hEL := own_EW hw
  have R0 := CHr.refl hCH
  have wS := own_wS hw
  have sfa1 : Safe Z ownEL s.vm h0 a1 := own_safe_blank hZ.alike E1 F1
  refine ownBy (A := s₁.setTop (mkF m 4 #[.val (.ref a1), .val (.ref a2)] [(.ref a2), (.int (0 : Int32)), (.ref a2), (.ref a1)])) (fun t kt => ?_) ?_
  · show Steps p.tables e below (s₁.setTop (mkF m 0 #[.val (.ref a1), .val (.ref a2)] [])) t
    refine XS.aloadN X0.here hx rfl (hb hby d_jdk_42_method_3_0) rfl rfl ?_
    show Steps p.tables e below (s₁.setTop (mkF m 1 #[.val (.ref a1), .val (.ref a2)] [(.ref a1)])) t
    refine XS.aloadN X0.here hx rfl (hb hby d_jdk_42_method_3_1) rfl rfl ?_
    show Steps p.tables e below (s₁.setTop (mkF m 2 #[.val (.ref a1), .val (.ref a2)] [(.ref a2), (.ref a1)])) t
    refine XS.iconst X0.here hx rfl (hb hby d_jdk_42_method_3_2) ?_
    show Steps p.tables e below (s₁.setTop (mkF m 3 #[.val (.ref a1), .val (.ref a2)] [(.int (0 : Int32)), (.ref a2), (.ref a1)])) t
    refine XS.aloadN X0.here hx rfl (hb hby d_jdk_42_method_3_3) rfl rfl ?_
    exact kt
  obtain ⟨cl83, Ar83, -, S83, N83, -, -⟩ := id V1
  have st83 := X0.arraylength hx (by rw [e0]; exact Ar83.1) (State.isArrayOf_alike hZ.alike Ar83.2.1) (g := (mkF m 4 #[.val (.ref a1), .val (.ref a2)] [(.ref a2), (.int (0 : Int32)), (.ref a2), (.ref a1)])) rfl rfl (hb hby d_jdk_42_method_3_4)
  rw [len_of S83 N83] at st83
  refine ownBy st83 ?_
  show ownG p.tables e below _ (s₁.setTop (mkF m 5 #[.val (.ref a1), .val (.ref a2)] [(.int (0 : Int32)), (.int (0 : Int32)), (.ref a2), (.ref a1)]))
  refine ownBy (A := s₁.setTop (mkF m 6 #[.val (.ref a1), .val (.ref a2)] [.null, (.int (0 : Int32)), (.int (0 : Int32)), (.ref a2), (.ref a1)])) (fun t kt => ?_) ?_
  · show Steps p.tables e below (s₁.setTop (mkF m 5 #[.val (.ref a1), .val (.ref a2)] [(.int (0 : Int32)), (.int (0 : Int32)), (.ref a2), (.ref a1)])) t
    refine XS.aconstNull X0.here hx rfl (hb hby d_jdk_42_method_3_5) ?_
    exact kt
  obtain ⟨_, _, ⟨T84, L84, k84, n84⟩, -, X84, hS84, hg84, ⟨Lc84, hQ84, l84, y84, z84, hC84⟩, st84⟩ := X0.specialBackS hx (y := (⟨"java/lang/String", "<init>", "([CIILjava/lang/Void;)V"⟩ : MethodName)) rfl hown (mvT hZ (hw _ (List.mem_of_getElem? (i := 68) rfl))) (mvT hZ (hw _ (List.mem_of_getElem? (i := 69) rfl))) (mvT hZ (hw _ (List.mem_of_getElem? (i := 70) rfl))) (by decide) (backOfSH (W := 0) (s := s) (EL := ownEL) (c_ini4 l Z a0 hw [] a1 a2 _ h0 n0 Z0 E1 F1 F2 g1) hZ (hw _ (List.mem_of_getElem? (i := 70) rfl)) (hw _ (List.mem_of_getElem? (i := 6) rfl)) (by decide) (by decide) hEL R0.1) (g := (mkF m 6 #[.val (.ref a1), .val (.ref a2)] [.null, (.int (0 : Int32)), (.int (0 : Int32)), (.ref a2), (.ref a1)])) rfl (by rw [hml]; rfl) (Steps.refl _) (a := a1) (argsL := [(.ref a2), (.int (0 : Int32)), (.int (0 : Int32)), .null]) (rest := []) (lenOf pd_85 rfl) rfl (by show 2 * 0 + _ ≤ _; exact Nat.le_of_eq rfl) (hb hby d_jdk_42_method_3_6) (fun _ _ => ⟨rfl, e0, (by decide : 0 + 4 ≤ _), (by decide : 0 + 8 ≤ _)⟩)
  dsimp only [Pt.U, Pt.locs, Pt.cells, Pt.slots] at X84 l84 y84 z84 st84 hQ84 hS84 hg84 hC84
  subst l84 y84 z84
  obtain ⟨rfl, Nq84, Kq84, Eq84, Cq84, t84, kb84, Vq84, Aq84⟩ := hQ84
  have N86 := Fr.app N0 Nq84
  have R88 := R0.trans hC84
  have sf89 := CHr.safe hC84 E1.lt sfa1
  obtain ⟨XR90, hSR90, hZ90, hown90⟩ := rebS hS0 (by rw [e0]; exact (Nat.le_refl _)) X84 hS84 hg84 hZ hown
  refine ownSt st84 ?_
  show ownG p.tables e below _ (T84.setTop (mkF m 9 #[.val (.ref a1), .val (.ref a2)] []))
  have f91 := ((Keep.refl h0 [a1]).trans Kq84 (allS (Or.inl (List.mem_of_getElem? (i := 0) rfl)) all0))
  have f92 := (E1.keep Kq84)
  refine ownRetH XR90 hSR90 (Nat.le_refl _) Bd.notSynchronized (v := none) (fun _ => rfl) ?_ (R88.trans (CHv.at XR90 hZ90 hEL R88.1)) (Nat.le_of_ble_eq_true rfl) (Nat.le_of_ble_eq_true rfl) (fun fs hr => XR90.returnOut hx Bd.returns (hb hby d_jdk_42_method_3_9) hr)
  show (Q_ini0 Z a1 a2 c0 kC h0 n0) (none) T84.heap _
  exact ⟨rfl, N86, f91, f92, Cq84, t84, kb84, Vq84, Aq84⟩
def Q_pick (Z : State) (p1 : Int32) (p2 : Int32) (G1 : Int32) (h0 : Heap) (n0 : Nat) (v : Option Value) (h : Heap) (L : List Loc) : Prop := ∃ u : Value, v = some u ∧ u.isRef = true ∧ Fr n0 L ∧ Keep h0 h []
theorem ef_pick (m : MethodId) (x0 : Int32) (x1 : Int32)  : entryFrame m #[(.int x0), (.int x1)] 4 = mkF m 0 #[.val (.int x0), .val (.int x1), .unset, .unset] [] := by first | (simp [entryFrame, mkF, argsToLocals, Value.category]; done) | rfl
set_option maxRecDepth 65536 in
set_option maxHeartbeats 40000000 in
theorem c_pick (l : Launch) (Z : State) (a0 : Array Value) (hw : ∀ d ∈ tables_1, d.before a0 Z = true) (ws : List Jvm.Cond) (p1 : Int32) (p2 : Int32) (G1 : Int32) (h0 : Heap) (n0 : Nat) (Z0 : n0 ≤ h0.size) (O2 : Sta Z Z.heap "java/lang/String" "COMPACT_STRINGS" "Z" (.int G1)) (P5 : ¬ (G1 = (0 : Int32))) (X00 : Old Z n0 h0) :
    MetFree l (⟨"com/example/boring_outbox/boringoutbox/EndpointChangeDescriptionPinLaw", "pick", "(II)Ljava/lang/String;"⟩ : MethodName) (head1 (Jvm.Cond.code (⟨"com/example/boring_outbox/boringoutbox/EndpointChangeDescriptionPinLaw", "pick", "(II)Ljava/lang/String;"⟩ : MethodName) method_2_code 4 (some (.object "java/lang/String")) :: ws) ({ frames := 4, cells := 6, slots := 12, locals := 66 } : Room)) (fun a U => a = #[(.int p1), (.int p2)] ∧ Z.Warmed39 U.vm ∧ U.heap = h0 ∧ CHv Z ownEL U.vm h0) (fun _ _ _ _ _ => True) (fun _ U o U' => ∃ v L, o = .returned v ∧ (Q_pick Z p1 p2 G1 h0 n0) v U'.heap L ∧ CHr Z ownEL U.vm U.heap U'.vm U'.heap ∧ ReturnedEndW U o U' L ({ frames := 4, cells := 6, slots := 12, locals := 66 } : Room).cells ({ frames := 4, cells := 6, slots := 12, locals := 66 } : Room).slots) := by
  refine MetFree.of_bodySF (plainFor_of_name pn_94) hisR ?_
  intro p e s m args below meth c s₁ Bd hml0 hP hK
  obtain ⟨rfl, hZ, hh, hCH⟩ := hP
  have hx := Bd.exec
  have hby := Bd.bytes
  have hml : c.maxLocals = 4 := hml0
  have hown : s.vm.findClass "com/example/boring_outbox/boringoutbox/EndpointChangeDescriptionPinLaw" = some m.cls := findClass_of_methodNamed Bd.named
  have hnm := (name_of_methodNamed Bd.named Bd.method).1
  have X0 : Stand p l e ({ frames := 4, cells := 6, slots := 12, locals := 66 } : Room) (s.setVm s.vm) m #[(.int p1), (.int p2)] below meth c s₁ [] 0 0 := Stand.of_body Bd
  have e0 : s₁.heap = h0 := by rw [← hh, Bd.state]; rfl
  have N0 := Fr.nil n0
  refine ownOutH hh (P := (Q_pick Z p1 p2 G1 h0 n0)) ?_
  refine ownBy (A := s₁.setTop (mkF m 0 #[.val (.int p1), .val (.int p2), .unset, .unset] [])) (fun t k => castTop (ef_pick m p1 p2) k) ?_
  have hS0 : s.Since s.vm h0.size := own_since
  have hEL := own_EW hw
  have R0 := CHr.refl hCH
  have wS := own_wS hw
  have hws : ∀ d ∈ StrChars.Road.words, d.before a0 Z = true := fun d hd => hw d ((by decide +kernel : ∀ d ∈ StrChars.Road.words, d ∈ tables_1) d hd)
  refine ownBy (A := s₁.setTop (mkF m 18 #[.val (.int p1), .val (.int p2), .val (.int ((p2 &&& (255 : Int32)).toUInt32.toUInt16.toUInt32.toInt32)), .val (.int ((((p2.toUInt32 >>> ((8 : Int32) &&& 31).toUInt32).toInt32) &&& (255 : Int32)).toUInt32.toUInt16.toUInt32.toInt32))] [(.int p1)])) (fun t kt => ?_) ?_
  · show Steps p.tables e below (s₁.setTop (mkF m 0 #[.val (.int p1), .val (.int p2), .unset, .unset] [])) t
    refine XS.iloadN X0.here hx rfl (hb hby d_method_2_0) rfl ?_
    show Steps p.tables e below (s₁.setTop (mkF m 1 #[.val (.int p1), .val (.int p2), .unset, .unset] [(.int p2)])) t
    refine XS.sipush X0.here hx rfl (hb hby d_method_2_1) ?_
    show Steps p.tables e below (s₁.setTop (mkF m 4 #[.val (.int p1), .val (.int p2), .unset, .unset] [(.int (255 : Int32)), (.int p2)])) t
    refine XS.iand X0.here hx rfl (hb hby d_method_2_4) rfl ?_
    show Steps p.tables e below (s₁.setTop (mkF m 5 #[.val (.int p1), .val (.int p2), .unset, .unset] [(.int (p2 &&& (255 : Int32)))])) t
    refine XS.i2c X0.here hx rfl (hb hby d_method_2_5) rfl ?_
    show Steps p.tables e below (s₁.setTop (mkF m 6 #[.val (.int p1), .val (.int p2), .unset, .unset] [(.int ((p2 &&& (255 : Int32)).toUInt32.toUInt16.toUInt32.toInt32))])) t
    refine XS.istoreN X0.here hx rfl (hb hby d_method_2_6) rfl (l' := #[.val (.int p1), .val (.int p2), .val (.int ((p2 &&& (255 : Int32)).toUInt32.toUInt16.toUInt32.toInt32)), .unset]) rfl ?_
    show Steps p.tables e below (s₁.setTop (mkF m 7 #[.val (.int p1), .val (.int p2), .val (.int ((p2 &&& (255 : Int32)).toUInt32.toUInt16.toUInt32.toInt32)), .unset] [])) t
    refine XS.iloadN X0.here hx rfl (hb hby d_method_2_7) rfl ?_
    show Steps p.tables e below (s₁.setTop (mkF m 8 #[.val (.int p1), .val (.int p2), .val (.int ((p2 &&& (255 : Int32)).toUInt32.toUInt16.toUInt32.toInt32)), .unset] [(.int p2)])) t
    refine XS.bipush X0.here hx rfl (hb hby d_method_2_8) ?_
    show Steps p.tables e below (s₁.setTop (mkF m 10 #[.val (.int p1), .val (.int p2), .val (.int ((p2 &&& (255 : Int32)).toUInt32.toUInt16.toUInt32.toInt32)), .unset] [(.int (8 : Int32)), (.int p2)])) t
    refine XS.iushr X0.here hx rfl (hb hby d_method_2_10) rfl ?_
    show Steps p.tables e below (s₁.setTop (mkF m 11 #[.val (.int p1), .val (.int p2), .val (.int ((p2 &&& (255 : Int32)).toUInt32.toUInt16.toUInt32.toInt32)), .unset] [(.int ((p2.toUInt32 >>> ((8 : Int32) &&& 31).toUInt32).toInt32))])) t
    refine XS.sipush X0.here hx rfl (hb hby d_method_2_11) ?_
    show Steps p.tables e below (s₁.setTop (mkF m 14 #[.val (.int p1), .val (.int p2), .val (.int ((p2 &&& (255 : Int32)).toUInt32.toUInt16.toUInt32.toInt32)), .unset] [(.int (255 : Int32)), (.int ((p2.toUInt32 >>> ((8 : Int32) &&& 31).toUInt32).toInt32))])) t
    refine XS.iand X0.here hx rfl (hb hby d_method_2_14) rfl ?_
    show Steps p.tables e below (s₁.setTop (mkF m 15 #[.val (.int p1), .val (.int p2), .val (.int ((p2 &&& (255 : Int32)).toUInt32.toUInt16.toUInt32.toInt32)), .unset] [(.int (((p2.toUInt32 >>> ((8 : Int32) &&& 31).toUInt32).toInt32) &&& (255 : Int32)))])) t
    refine XS.i2c X0.here hx rfl (hb hby d_method_2_15) rfl ?_
    show Steps p.tables e below (s₁.setTop (mkF m 16 #[.val (.int p1), .val (.int p2), .val (.int ((p2 &&& (255 : Int32)).toUInt32.toUInt16.toUInt32.toInt32)), .unset] [(.int ((((p2.toUInt32 >>> ((8 : Int32) &&& 31).toUInt32).toInt32) &&& (255 : Int32)).toUInt32.toUInt16.toUInt32.toInt32))])) t
    refine XS.istoreN X0.here hx rfl (hb hby d_method_2_16) rfl (l' := #[.val (.int p1), .val (.int p2), .val (.int ((p2 &&& (255 : Int32)).toUInt32.toUInt16.toUInt32.toInt32)), .val (.int ((((p2.toUInt32 >>> ((8 : Int32) &&& 31).toUInt32).toInt32) &&& (255 : Int32)).toUInt32.toUInt16.toUInt32.toInt32))]) rfl ?_
    show Steps p.tables e below (s₁.setTop (mkF m 17 #[.val (.int p1), .val (.int p2), .val (.int ((p2 &&& (255 : Int32)).toUInt32.toUInt16.toUInt32.toInt32)), .val (.int ((((p2.toUInt32 >>> ((8 : Int32) &&& 31).toUInt32).toInt32) &&& (255 : Int32)).toUInt32.toUInt16.toUInt32.toInt32))] [])) t
    refine XS.iloadN X0.here hx rfl (hb hby d_method_2_17) rfl ?_
    exact kt
  by_cases hc95 : p1 = (0 : Int32)
  · skip
    refine ownBy (A := s₁.setTop (mkF m 22 #[.val (.int p1), .val (.int p2), .val (.int ((p2 &&& (255 : Int32)).toUInt32.toUInt16.toUInt32.toInt32)), .val (.int ((((p2.toUInt32 >>> ((8 : Int32) &&& 31).toUInt32).toInt32) &&& (255 : Int32)).toUInt32.toUInt16.toUInt32.toInt32))] [.null])) (fun t kt => ?_) ?_
    · show Steps p.tables e below (s₁.setTop (mkF m 18 #[.val (.int p1), .val (.int p2), .val (.int ((p2 &&& (255 : Int32)).toUInt32.toUInt16.toUInt32.toInt32)), .val (.int ((((p2.toUInt32 >>> ((8 : Int32) &&& 31).toUInt32).toInt32) &&& (255 : Int32)).toUInt32.toUInt16.toUInt32.toInt32))] [(.int p1)])) t
      refine XS.ifNo X0.here hx rfl (hb hby d_method_2_18) rfl ((if0 _ _).trans (teq hc95).2) ?_
      show Steps p.tables e below (s₁.setTop (mkF m 21 #[.val (.int p1), .val (.int p2), .val (.int ((p2 &&& (255 : Int32)).toUInt32.toUInt16.toUInt32.toInt32)), .val (.int ((((p2.toUInt32 >>> ((8 : Int32) &&& 31).toUInt32).toInt32) &&& (255 : Int32)).toUInt32.toUInt16.toUInt32.toInt32))] [])) t
      refine XS.aconstNull X0.here hx rfl (hb hby d_method_2_21) ?_
      exact kt
    refine ownRetH X0 hS0 (by rw [e0]; exact (Nat.le_refl _)) Bd.notSynchronized (v := some .null) (fun h => by rw [Bd.returns] at h; cases h) ?_ (R0.trans ((by rw [e0]; exact CHv.at X0 hZ hEL R0.1))) (Nat.le_of_ble_eq_true rfl) (Nat.le_of_ble_eq_true rfl) (fun fs hr => retOut X0 hx Bd.returns rfl (Or.inr (Or.inr (Or.inr (Or.inr ⟨rfl, rfl, rfl⟩)))) (hb hby d_method_2_22) hr)
    show (Q_pick Z p1 p2 G1 h0 n0) (some .null) s₁.heap _
    rw [e0]
    exact ⟨_, rfl, rfl, N0, (Keep.refl h0 [])⟩
  · skip
    refine ownBy (A := s₁.setTop (mkF m 25 #[.val (.int p1), .val (.int p2), .val (.int ((p2 &&& (255 : Int32)).toUInt32.toUInt16.toUInt32.toInt32)), .val (.int ((((p2.toUInt32 >>> ((8 : Int32) &&& 31).toUInt32).toInt32) &&& (255 : Int32)).toUInt32.toUInt16.toUInt32.toInt32))] [(.int (1 : Int32)), (.int p1)])) (fun t kt => ?_) ?_
    · show Steps p.tables e below (s₁.setTop (mkF m 18 #[.val (.int p1), .val (.int p2), .val (.int ((p2 &&& (255 : Int32)).toUInt32.toUInt16.toUInt32.toInt32)), .val (.int ((((p2.toUInt32 >>> ((8 : Int32) &&& 31).toUInt32).toInt32) &&& (255 : Int32)).toUInt32.toUInt16.toUInt32.toInt32))] [(.int p1)])) t
      refine XS.ifYes X0.here hx rfl (pc0 := 18) (pc' := 23) rfl (hb hby d_method_2_18) rfl ((if0 _ _).trans (feq hc95).2) (by decide) (by decide) ?_
      show Steps p.tables e below (s₁.setTop (mkF m 23 #[.val (.int p1), .val (.int p2), .val (.int ((p2 &&& (255 : Int32)).toUInt32.toUInt16.toUInt32.toInt32)), .val (.int ((((p2.toUInt32 >>> ((8 : Int32) &&& 31).toUInt32).toInt32) &&& (255 : Int32)).toUInt32.toUInt16.toUInt32.toInt32))] [])) t
      refine XS.iloadN X0.here hx rfl (hb hby d_method_2_23) rfl ?_
      show Steps p.tables e below (s₁.setTop (mkF m 24 #[.val (.int p1), .val (.int p2), .val (.int ((p2 &&& (255 : Int32)).toUInt32.toUInt16.toUInt32.toInt32)), .val (.int ((((p2.toUInt32 >>> ((8 : Int32) &&& 31).toUInt32).toInt32) &&& (255 : Int32)).toUInt32.toUInt16.toUInt32.toInt32))] [(.int p1)])) t
      refine XS.iconst X0.here hx rfl (hb hby d_method_2_24) ?_
      exact kt
    by_cases hc97 : p1 = (1 : Int32)
    · skip
      refine ownBy (A := s₁.setTop (mkF m 28 #[.val (.int p1), .val (.int p2), .val (.int ((p2 &&& (255 : Int32)).toUInt32.toUInt16.toUInt32.toInt32)), .val (.int ((((p2.toUInt32 >>> ((8 : Int32) &&& 31).toUInt32).toInt32) &&& (255 : Int32)).toUInt32.toUInt16.toUInt32.toInt32))] [])) (fun t kt => ?_) ?_
      · show Steps p.tables e below (s₁.setTop (mkF m 25 #[.val (.int p1), .val (.int p2), .val (.int ((p2 &&& (255 : Int32)).toUInt32.toUInt16.toUInt32.toInt32)), .val (.int ((((p2.toUInt32 >>> ((8 : Int32) &&& 31).toUInt32).toInt32) &&& (255 : Int32)).toUInt32.toUInt16.toUInt32.toInt32))] [(.int (1 : Int32)), (.int p1)])) t
        refine XS.icmpNo X0.here hx rfl (hb hby d_method_2_25) rfl (teq hc97).2 ?_
        exact kt
      obtain ⟨T98, h98, X98, e98, E98, A98, D98, -, st98⟩ := newO X0 hx hZ hown (hw _ (List.mem_of_getElem? (i := 63) rfl)) (hw _ (List.mem_of_getElem? (i := 14) rfl)) (hw _ (List.mem_of_getElem? (i := 6) rfl)) e0 (g := (mkF m 28 #[.val (.int p1), .val (.int p2), .val (.int ((p2 &&& (255 : Int32)).toUInt32.toUInt16.toUInt32.toInt32)), .val (.int ((((p2.toUInt32 >>> ((8 : Int32) &&& 31).toUInt32).toInt32) &&& (255 : Int32)).toUInt32.toUInt16.toUInt32.toInt32))] [])) rfl (hb hby d_method_2_28) (by decide) (by decide)
      obtain ⟨b98, g98⟩ : ∃ z, z = h0.size := ⟨_, rfl⟩
      rw [← g98] at A98 D98 st98
      have g99 : n0 ≤ b98 := Nat.le_trans Z0 (Nat.le_of_eq g98.symm)
      have sf100 : Safe Z ownEL s.vm h0 b98 := Safe.new (Nat.le_of_eq g98.symm)
      have z101 : h0.size ≤ b98 := Nat.le_trans (Keep.refl h0 []).1 (Nat.le_of_eq g98.symm)
      have R102 := R0.trans (CHr.ext E98 R0.1)
      have sf103 := Safe.ext E98 R0.1 sf100
      have F104 : Fld Z h98 b98 "java/lang/String" "value" "[B" .null := D98 (Or.inr (hw _ (List.mem_of_getElem? (i := 27) rfl))) (ty := (.array .byte)) (by decide)
      have F105 : Fld Z h98 b98 "java/lang/String" "coder" "B" (.int (0 : Int32)) := D98 (Or.inr (hw _ (List.mem_of_getElem? (i := 29) rfl))) (ty := .byte) (by decide)
      refine ownBy st98 ?_
      show ownG p.tables e below _ (T98.setTop (mkF m 31 #[.val (.int p1), .val (.int p2), .val (.int ((p2 &&& (255 : Int32)).toUInt32.toUInt16.toUInt32.toInt32)), .val (.int ((((p2.toUInt32 >>> ((8 : Int32) &&& 31).toUInt32).toInt32) &&& (255 : Int32)).toUInt32.toUInt16.toUInt32.toInt32))] [(.ref b98)]))
      refine ownBy (A := T98.setTop (mkF m 33 #[.val (.int p1), .val (.int p2), .val (.int ((p2 &&& (255 : Int32)).toUInt32.toUInt16.toUInt32.toInt32)), .val (.int ((((p2.toUInt32 >>> ((8 : Int32) &&& 31).toUInt32).toInt32) &&& (255 : Int32)).toUInt32.toUInt16.toUInt32.toInt32))] [(.int (0 : Int32)), (.ref b98), (.ref b98)])) (fun t kt => ?_) ?_
      · show Steps p.tables e below (T98.setTop (mkF m 31 #[.val (.int p1), .val (.int p2), .val (.int ((p2 &&& (255 : Int32)).toUInt32.toUInt16.toUInt32.toInt32)), .val (.int ((((p2.toUInt32 >>> ((8 : Int32) &&& 31).toUInt32).toInt32) &&& (255 : Int32)).toUInt32.toUInt16.toUInt32.toInt32))] [(.ref b98)])) t
        refine XS.dup X98.here hx rfl (hb hby d_method_2_31) rfl rfl ?_
        show Steps p.tables e below (T98.setTop (mkF m 32 #[.val (.int p1), .val (.int p2), .val (.int ((p2 &&& (255 : Int32)).toUInt32.toUInt16.toUInt32.toInt32)), .val (.int ((((p2.toUInt32 >>> ((8 : Int32) &&& 31).toUInt32).toInt32) &&& (255 : Int32)).toUInt32.toUInt16.toUInt32.toInt32))] [(.ref b98), (.ref b98)])) t
        refine XS.iconst X98.here hx rfl (hb hby d_method_2_32) ?_
        exact kt
      obtain ⟨T106, h106, k106, X106, e106, E106, A106, st106⟩ := newP X98 hx hZ (hw _ (List.mem_of_getElem? (i := 64) rfl)) e98 (g := (mkF m 33 #[.val (.int p1), .val (.int p2), .val (.int ((p2 &&& (255 : Int32)).toUInt32.toUInt16.toUInt32.toInt32)), .val (.int ((((p2.toUInt32 >>> ((8 : Int32) &&& 31).toUInt32).toInt32) &&& (255 : Int32)).toUInt32.toUInt16.toUInt32.toInt32))] [(.int (0 : Int32)), (.ref b98), (.ref b98)])) rfl (hb hby d_method_2_33) rfl (by decide : ¬ ((0 : Int32) < (0 : Int32))) (cap := 0) (by decide) (by decide) (by decide) (by decide)
      obtain ⟨b106, g106⟩ : ∃ z, z = h98.size := ⟨_, rfl⟩
      rw [← g106] at A106 st106
      have ne107 : b98 ≠ b106 := Nat.ne_of_lt (Nat.lt_of_lt_of_le A98.lt (Nat.le_of_eq g106.symm))
      have f109 := (Nat.le_trans Z0 E98.1)
      have g108 : n0 ≤ b106 := Nat.le_trans f109 (Nat.le_of_eq g106.symm)
      have sf110 : Safe Z ownEL s.vm h98 b106 := Safe.new (Nat.le_of_eq g106.symm)
      have f112 := ((Keep.refl h0 []).ext E98)
      have z111 : h0.size ≤ b106 := Nat.le_trans f112.1 (Nat.le_of_eq g106.symm)
      have R113 := R102.trans (CHr.ext E106 R102.1)
      have sf114 := Safe.ext E106 R102.1 sf103
      have sf115 := Safe.ext E106 R102.1 sf110
      have V116 : Arv Z h106 b106 k106 .char (0 : Int32) [] (.int (0 : Int32)) := Arv.new A106 (by decide)
      refine ownBy st106 ?_
      show ownG p.tables e below _ (T106.setTop (mkF m 35 #[.val (.int p1), .val (.int p2), .val (.int ((p2 &&& (255 : Int32)).toUInt32.toUInt16.toUInt32.toInt32)), .val (.int ((((p2.toUInt32 >>> ((8 : Int32) &&& 31).toUInt32).toInt32) &&& (255 : Int32)).toUInt32.toUInt16.toUInt32.toInt32))] [(.ref b106), (.ref b98), (.ref b98)]))
      have f117 := (A98.ext E106)
      have f118 := (F104.ext E106)
      have f119 := (F105.ext E106)
      have f120 := (Nat.le_trans f109 E106.1)
      obtain ⟨_, _, ⟨T121, L121, k121, n121⟩, -, X121, hS121, hg121, ⟨Lc121, hQ121, l121, y121, z121, hC121⟩, st121⟩ := X106.specialBackS hx (y := (⟨"java/lang/String", "<init>", "([C)V"⟩ : MethodName)) rfl hown (mvT hZ (hw _ (List.mem_of_getElem? (i := 65) rfl))) (mvT hZ (hw _ (List.mem_of_getElem? (i := 66) rfl))) (mvT hZ (hw _ (List.mem_of_getElem? (i := 67) rfl))) (by decide) (backOfSH (W := 1) (s := s) (EL := ownEL) (c_ini0 l Z a0 hw [] b98 b106 _ k106 h106 n0 f120 f117 f118 f119 g99 V116 ne107) hZ (hw _ (List.mem_of_getElem? (i := 67) rfl)) (hw _ (List.mem_of_getElem? (i := 6) rfl)) (by decide) (by decide) hEL R113.1) (g := (mkF m 35 #[.val (.int p1), .val (.int p2), .val (.int ((p2 &&& (255 : Int32)).toUInt32.toUInt16.toUInt32.toInt32)), .val (.int ((((p2.toUInt32 >>> ((8 : Int32) &&& 31).toUInt32).toInt32) &&& (255 : Int32)).toUInt32.toUInt16.toUInt32.toInt32))] [(.ref b106), (.ref b98), (.ref b98)])) rfl (by rw [hml]; rfl) (Steps.refl _) (a := b98) (argsL := [(.ref b106)]) (rest := [(.ref b98)]) (lenOf pd_122 rfl) rfl (by show 2 * 0 + _ ≤ _; exact Nat.le_of_eq rfl) (hb hby d_method_2_35) (fun _ _ => ⟨rfl, e106, (by decide : 2 + 4 ≤ _), (by decide : 4 + 8 ≤ _)⟩)
      dsimp only [Pt.U, Pt.locs, Pt.cells, Pt.slots] at X121 l121 y121 z121 st121 hQ121 hS121 hg121 hC121
      subst l121 y121 z121
      obtain ⟨rfl, Nq121, Kq121, Eq121, Cq121, t121, kb121, Vq121, Aq121⟩ := hQ121
      have N123 := Fr.app N0 Nq121
      have R125 := R113.trans hC121
      have sf126 := CHr.safe hC121 f117.lt sf114
      have sf127 := CHr.safe hC121 V116.lt sf115
      obtain ⟨XR128, hSR128, hZ128, hown128⟩ := rebS hS0 (by rw [e106]; exact (Nat.le_trans (Nat.le_trans (Nat.le_refl _) E98.1) E106.1)) X121 hS121 hg121 hZ hown
      refine ownSt st121 ?_
      show ownG p.tables e below _ (T121.setTop (mkF m 38 #[.val (.int p1), .val (.int p2), .val (.int ((p2 &&& (255 : Int32)).toUInt32.toUInt16.toUInt32.toInt32)), .val (.int ((((p2.toUInt32 >>> ((8 : Int32) &&& 31).toUInt32).toInt32) &&& (255 : Int32)).toUInt32.toUInt16.toUInt32.toInt32))] [(.ref b98)]))
      have f129 := ((f112.ext E106).trans Kq121 (allS (Or.inr z101) all0))
      refine ownRetH XR128 hSR128 (Nat.le_refl _) Bd.notSynchronized (v := some (.ref b98)) (fun h => by rw [Bd.returns] at h; cases h) ?_ (R125.trans (CHv.at XR128 hZ128 hEL R125.1)) (Nat.le_of_ble_eq_true rfl) (Nat.le_of_ble_eq_true rfl) (fun fs hr => retOut XR128 hx Bd.returns rfl (Or.inr (Or.inr (Or.inr (Or.inr ⟨rfl, rfl, rfl⟩)))) (hb hby d_method_2_38) hr)
      show (Q_pick Z p1 p2 G1 h0 n0) (some (.ref b98)) T121.heap _
      exact ⟨_, rfl, rfl, N123, f129⟩
    · skip
      refine ownBy (A := s₁.setTop (mkF m 41 #[.val (.int p1), .val (.int p2), .val (.int ((p2 &&& (255 : Int32)).toUInt32.toUInt16.toUInt32.toInt32)), .val (.int ((((p2.toUInt32 >>> ((8 : Int32) &&& 31).toUInt32).toInt32) &&& (255 : Int32)).toUInt32.toUInt16.toUInt32.toInt32))] [(.int (2 : Int32)), (.int p1)])) (fun t kt => ?_) ?_
      · show Steps p.tables e below (s₁.setTop (mkF m 25 #[.val (.int p1), .val (.int p2), .val (.int ((p2 &&& (255 : Int32)).toUInt32.toUInt16.toUInt32.toInt32)), .val (.int ((((p2.toUInt32 >>> ((8 : Int32) &&& 31).toUInt32).toInt32) &&& (255 : Int32)).toUInt32.toUInt16.toUInt32.toInt32))] [(.int (1 : Int32)), (.int p1)])) t
        refine XS.icmpYes X0.here hx rfl (pc0 := 25) (pc' := 39) rfl (hb hby d_method_2_25) rfl (feq hc97).2 (by decide) (by decide) ?_
        show Steps p.tables e below (s₁.setTop (mkF m 39 #[.val (.int p1), .val (.int p2), .val (.int ((p2 &&& (255 : Int32)).toUInt32.toUInt16.toUInt32.toInt32)), .val (.int ((((p2.toUInt32 >>> ((8 : Int32) &&& 31).toUInt32).toInt32) &&& (255 : Int32)).toUInt32.toUInt16.toUInt32.toInt32))] [])) t
        refine XS.iloadN X0.here hx rfl (hb hby d_method_2_39) rfl ?_
        show Steps p.tables e below (s₁.setTop (mkF m 40 #[.val (.int p1), .val (.int p2), .val (.int ((p2 &&& (255 : Int32)).toUInt32.toUInt16.toUInt32.toInt32)), .val (.int ((((p2.toUInt32 >>> ((8 : Int32) &&& 31).toUInt32).toInt32) &&& (255 : Int32)).toUInt32.toUInt16.toUInt32.toInt32))] [(.int p1)])) t
        refine XS.iconst X0.here hx rfl (hb hby d_method_2_40) ?_
        exact kt
      by_cases hc131 : p1 = (2 : Int32)
      · skip
        refine ownBy (A := s₁.setTop (mkF m 45 #[.val (.int p1), .val (.int p2), .val (.int ((p2 &&& (255 : Int32)).toUInt32.toUInt16.toUInt32.toInt32)), .val (.int ((((p2.toUInt32 >>> ((8 : Int32) &&& 31).toUInt32).toInt32) &&& (255 : Int32)).toUInt32.toUInt16.toUInt32.toInt32))] [(.int ((p2 &&& (255 : Int32)).toUInt32.toUInt16.toUInt32.toInt32))])) (fun t kt => ?_) ?_
        · show Steps p.tables e below (s₁.setTop (mkF m 41 #[.val (.int p1), .val (.int p2), .val (.int ((p2 &&& (255 : Int32)).toUInt32.toUInt16.toUInt32.toInt32)), .val (.int ((((p2.toUInt32 >>> ((8 : Int32) &&& 31).toUInt32).toInt32) &&& (255 : Int32)).toUInt32.toUInt16.toUInt32.toInt32))] [(.int (2 : Int32)), (.int p1)])) t
          refine XS.icmpNo X0.here hx rfl (hb hby d_method_2_41) rfl (teq hc131).2 ?_
          show Steps p.tables e below (s₁.setTop (mkF m 44 #[.val (.int p1), .val (.int p2), .val (.int ((p2 &&& (255 : Int32)).toUInt32.toUInt16.toUInt32.toInt32)), .val (.int ((((p2.toUInt32 >>> ((8 : Int32) &&& 31).toUInt32).toInt32) &&& (255 : Int32)).toUInt32.toUInt16.toUInt32.toInt32))] [])) t
          refine XS.iloadN X0.here hx rfl (hb hby d_method_2_44) rfl ?_
          exact kt
        obtain ⟨_, _, ⟨T132, L132, k132, n132⟩, -, X132, ⟨Lc132, hQ132, l132, y132, z132⟩, st132⟩ := Jvm.LawKit.callS X0 hx (y := (⟨"java/lang/String", "valueOf", "(C)Ljava/lang/String;"⟩ : MethodName)) hown (mvT hZ (hw _ (List.mem_of_getElem? (i := 4) rfl))) (mvT hZ (hw _ (List.mem_of_getElem? (i := 5) rfl))) (mvT hZ (hw _ (List.mem_of_getElem? (i := 6) rfl))) (mvT hZ (hw _ (List.mem_of_getElem? (i := 7) rfl))) (by decide) (backOf (W := 0) (c_valc l Z a0 hw [] ((p2 &&& (255 : Int32)).toUInt32.toUInt16.toUInt32.toInt32) G1 h0 n0 Z0 (own_and255c p2) O2 P5 X00) hZ (hw _ (List.mem_of_getElem? (i := 7) rfl)) (hw _ (List.mem_of_getElem? (i := 6) rfl)) (by decide) (by decide)) (g := (mkF m 45 #[.val (.int p1), .val (.int p2), .val (.int ((p2 &&& (255 : Int32)).toUInt32.toUInt16.toUInt32.toInt32)), .val (.int ((((p2.toUInt32 >>> ((8 : Int32) &&& 31).toUInt32).toInt32) &&& (255 : Int32)).toUInt32.toUInt16.toUInt32.toInt32))] [(.int ((p2 &&& (255 : Int32)).toUInt32.toUInt16.toUInt32.toInt32))])) rfl (by rw [hml]; rfl) (argsL := [(.int ((p2 &&& (255 : Int32)).toUInt32.toUInt16.toUInt32.toInt32))]) (rest := []) (lenOf pd_133 rfl) rfl (by show 2 * 0 + _ ≤ _; exact Nat.le_of_eq rfl) (hb hby d_method_2_45) (fun _ _ => ⟨rfl, e0, (by decide : 0 + 2 ≤ _), (by decide : 0 + 5 ≤ _)⟩)
        dsimp only [Pt.U, Pt.locs, Pt.cells, Pt.slots] at X132 l132 y132 z132 st132 hQ132
        subst l132 y132 z132
        obtain ⟨x132, t132, kb132, rfl, Nq132, Kq132, zq132, Eq132, Vq132, Cq132, Aq132⟩ := hQ132
        have g134 : n0 ≤ x132 := Nat.le_trans Z0 zq132
        have sf135 : Safe Z ownEL s.vm h0 x132 := Safe.new zq132
        have z136 : h0.size ≤ x132 := Nat.le_trans (Keep.refl h0 []).1 zq132
        have N137 := Fr.app N0 Nq132
        have R138 := R0.trans (CHr.keep Kq132 sf0 R0.1)
        have sf139 := Safe.keep Kq132 sf0 R0.1 sf135
        refine ownBy st132 ?_
        show ownG p.tables e below _ (T132.setTop (mkF m 48 #[.val (.int p1), .val (.int p2), .val (.int ((p2 &&& (255 : Int32)).toUInt32.toUInt16.toUInt32.toInt32)), .val (.int ((((p2.toUInt32 >>> ((8 : Int32) &&& 31).toUInt32).toInt32) &&& (255 : Int32)).toUInt32.toUInt16.toUInt32.toInt32))] [(.ref x132)]))
        have f140 := ((Keep.refl h0 []).trans Kq132 all0)
        refine ownRetH X132 hS0 (Nat.le_trans (Nat.le_refl _) Kq132.1) Bd.notSynchronized (v := some (.ref x132)) (fun h => by rw [Bd.returns] at h; cases h) ?_ (R138.trans (CHv.at X132 hZ hEL R138.1)) (Nat.le_of_ble_eq_true rfl) (Nat.le_of_ble_eq_true rfl) (fun fs hr => retOut X132 hx Bd.returns rfl (Or.inr (Or.inr (Or.inr (Or.inr ⟨rfl, rfl, rfl⟩)))) (hb hby d_method_2_48) hr)
        show (Q_pick Z p1 p2 G1 h0 n0) (some (.ref x132)) T132.heap _
        exact ⟨_, rfl, rfl, N137, f140⟩
      · skip
        refine ownBy (A := s₁.setTop (mkF m 49 #[.val (.int p1), .val (.int p2), .val (.int ((p2 &&& (255 : Int32)).toUInt32.toUInt16.toUInt32.toInt32)), .val (.int ((((p2.toUInt32 >>> ((8 : Int32) &&& 31).toUInt32).toInt32) &&& (255 : Int32)).toUInt32.toUInt16.toUInt32.toInt32))] [])) (fun t kt => ?_) ?_
        · show Steps p.tables e below (s₁.setTop (mkF m 41 #[.val (.int p1), .val (.int p2), .val (.int ((p2 &&& (255 : Int32)).toUInt32.toUInt16.toUInt32.toInt32)), .val (.int ((((p2.toUInt32 >>> ((8 : Int32) &&& 31).toUInt32).toInt32) &&& (255 : Int32)).toUInt32.toUInt16.toUInt32.toInt32))] [(.int (2 : Int32)), (.int p1)])) t
          refine XS.icmpYes X0.here hx rfl (pc0 := 41) (pc' := 49) rfl (hb hby d_method_2_41) rfl (feq hc131).2 (by decide) (by decide) ?_
          exact kt
        obtain ⟨T142, h142, X142, e142, E142, A142, D142, -, st142⟩ := newO X0 hx hZ hown (hw _ (List.mem_of_getElem? (i := 63) rfl)) (hw _ (List.mem_of_getElem? (i := 14) rfl)) (hw _ (List.mem_of_getElem? (i := 6) rfl)) e0 (g := (mkF m 49 #[.val (.int p1), .val (.int p2), .val (.int ((p2 &&& (255 : Int32)).toUInt32.toUInt16.toUInt32.toInt32)), .val (.int ((((p2.toUInt32 >>> ((8 : Int32) &&& 31).toUInt32).toInt32) &&& (255 : Int32)).toUInt32.toUInt16.toUInt32.toInt32))] [])) rfl (hb hby d_method_2_49) (by decide) (by decide)
        obtain ⟨b142, g142⟩ : ∃ z, z = h0.size := ⟨_, rfl⟩
        rw [← g142] at A142 D142 st142
        have g143 : n0 ≤ b142 := Nat.le_trans Z0 (Nat.le_of_eq g142.symm)
        have sf144 : Safe Z ownEL s.vm h0 b142 := Safe.new (Nat.le_of_eq g142.symm)
        have z145 : h0.size ≤ b142 := Nat.le_trans (Keep.refl h0 []).1 (Nat.le_of_eq g142.symm)
        have R146 := R0.trans (CHr.ext E142 R0.1)
        have sf147 := Safe.ext E142 R0.1 sf144
        have F148 : Fld Z h142 b142 "java/lang/String" "value" "[B" .null := D142 (Or.inr (hw _ (List.mem_of_getElem? (i := 27) rfl))) (ty := (.array .byte)) (by decide)
        have F149 : Fld Z h142 b142 "java/lang/String" "coder" "B" (.int (0 : Int32)) := D142 (Or.inr (hw _ (List.mem_of_getElem? (i := 29) rfl))) (ty := .byte) (by decide)
        refine ownBy st142 ?_
        show ownG p.tables e below _ (T142.setTop (mkF m 52 #[.val (.int p1), .val (.int p2), .val (.int ((p2 &&& (255 : Int32)).toUInt32.toUInt16.toUInt32.toInt32)), .val (.int ((((p2.toUInt32 >>> ((8 : Int32) &&& 31).toUInt32).toInt32) &&& (255 : Int32)).toUInt32.toUInt16.toUInt32.toInt32))] [(.ref b142)]))
        refine ownBy (A := T142.setTop (mkF m 54 #[.val (.int p1), .val (.int p2), .val (.int ((p2 &&& (255 : Int32)).toUInt32.toUInt16.toUInt32.toInt32)), .val (.int ((((p2.toUInt32 >>> ((8 : Int32) &&& 31).toUInt32).toInt32) &&& (255 : Int32)).toUInt32.toUInt16.toUInt32.toInt32))] [(.int (2 : Int32)), (.ref b142), (.ref b142)])) (fun t kt => ?_) ?_
        · show Steps p.tables e below (T142.setTop (mkF m 52 #[.val (.int p1), .val (.int p2), .val (.int ((p2 &&& (255 : Int32)).toUInt32.toUInt16.toUInt32.toInt32)), .val (.int ((((p2.toUInt32 >>> ((8 : Int32) &&& 31).toUInt32).toInt32) &&& (255 : Int32)).toUInt32.toUInt16.toUInt32.toInt32))] [(.ref b142)])) t
          refine XS.dup X142.here hx rfl (hb hby d_method_2_52) rfl rfl ?_
          show Steps p.tables e below (T142.setTop (mkF m 53 #[.val (.int p1), .val (.int p2), .val (.int ((p2 &&& (255 : Int32)).toUInt32.toUInt16.toUInt32.toInt32)), .val (.int ((((p2.toUInt32 >>> ((8 : Int32) &&& 31).toUInt32).toInt32) &&& (255 : Int32)).toUInt32.toUInt16.toUInt32.toInt32))] [(.ref b142), (.ref b142)])) t
          refine XS.iconst X142.here hx rfl (hb hby d_method_2_53) ?_
          exact kt
        obtain ⟨T150, h150, k150, X150, e150, E150, A150, st150⟩ := newP X142 hx hZ (hw _ (List.mem_of_getElem? (i := 64) rfl)) e142 (g := (mkF m 54 #[.val (.int p1), .val (.int p2), .val (.int ((p2 &&& (255 : Int32)).toUInt32.toUInt16.toUInt32.toInt32)), .val (.int ((((p2.toUInt32 >>> ((8 : Int32) &&& 31).toUInt32).toInt32) &&& (255 : Int32)).toUInt32.toUInt16.toUInt32.toInt32))] [(.int (2 : Int32)), (.ref b142), (.ref b142)])) rfl (hb hby d_method_2_54) rfl (by decide : ¬ ((2 : Int32) < (0 : Int32))) (cap := 2) (by decide) (by decide) (by decide) (by decide)
        obtain ⟨b150, g150⟩ : ∃ z, z = h142.size := ⟨_, rfl⟩
        rw [← g150] at A150 st150
        have ne151 : b142 ≠ b150 := Nat.ne_of_lt (Nat.lt_of_lt_of_le A142.lt (Nat.le_of_eq g150.symm))
        have f153 := (Nat.le_trans Z0 E142.1)
        have g152 : n0 ≤ b150 := Nat.le_trans f153 (Nat.le_of_eq g150.symm)
        have sf154 : Safe Z ownEL s.vm h142 b150 := Safe.new (Nat.le_of_eq g150.symm)
        have f156 := ((Keep.refl h0 []).ext E142)
        have z155 : h0.size ≤ b150 := Nat.le_trans f156.1 (Nat.le_of_eq g150.symm)
        have R157 := R146.trans (CHr.ext E150 R146.1)
        have sf158 := Safe.ext E150 R146.1 sf147
        have sf159 := Safe.ext E150 R146.1 sf154
        have V160 : Arv Z h150 b150 k150 .char (2 : Int32) [(.int (0 : Int32)), (.int (0 : Int32))] (.int (0 : Int32)) := (Arv.new A150 (by decide)).pad (pad_rep [] (.int (0 : Int32)) 2)
        refine ownBy st150 ?_
        show ownG p.tables e below _ (T150.setTop (mkF m 56 #[.val (.int p1), .val (.int p2), .val (.int ((p2 &&& (255 : Int32)).toUInt32.toUInt16.toUInt32.toInt32)), .val (.int ((((p2.toUInt32 >>> ((8 : Int32) &&& 31).toUInt32).toInt32) &&& (255 : Int32)).toUInt32.toUInt16.toUInt32.toInt32))] [(.ref b150), (.ref b142), (.ref b142)]))
        refine ownBy (A := T150.setTop (mkF m 59 #[.val (.int p1), .val (.int p2), .val (.int ((p2 &&& (255 : Int32)).toUInt32.toUInt16.toUInt32.toInt32)), .val (.int ((((p2.toUInt32 >>> ((8 : Int32) &&& 31).toUInt32).toInt32) &&& (255 : Int32)).toUInt32.toUInt16.toUInt32.toInt32))] [(.int ((p2 &&& (255 : Int32)).toUInt32.toUInt16.toUInt32.toInt32)), (.int (0 : Int32)), (.ref b150), (.ref b150), (.ref b142), (.ref b142)])) (fun t kt => ?_) ?_
        · show Steps p.tables e below (T150.setTop (mkF m 56 #[.val (.int p1), .val (.int p2), .val (.int ((p2 &&& (255 : Int32)).toUInt32.toUInt16.toUInt32.toInt32)), .val (.int ((((p2.toUInt32 >>> ((8 : Int32) &&& 31).toUInt32).toInt32) &&& (255 : Int32)).toUInt32.toUInt16.toUInt32.toInt32))] [(.ref b150), (.ref b142), (.ref b142)])) t
          refine XS.dup X150.here hx rfl (hb hby d_method_2_56) rfl rfl ?_
          show Steps p.tables e below (T150.setTop (mkF m 57 #[.val (.int p1), .val (.int p2), .val (.int ((p2 &&& (255 : Int32)).toUInt32.toUInt16.toUInt32.toInt32)), .val (.int ((((p2.toUInt32 >>> ((8 : Int32) &&& 31).toUInt32).toInt32) &&& (255 : Int32)).toUInt32.toUInt16.toUInt32.toInt32))] [(.ref b150), (.ref b150), (.ref b142), (.ref b142)])) t
          refine XS.iconst X150.here hx rfl (hb hby d_method_2_57) ?_
          show Steps p.tables e below (T150.setTop (mkF m 58 #[.val (.int p1), .val (.int p2), .val (.int ((p2 &&& (255 : Int32)).toUInt32.toUInt16.toUInt32.toInt32)), .val (.int ((((p2.toUInt32 >>> ((8 : Int32) &&& 31).toUInt32).toInt32) &&& (255 : Int32)).toUInt32.toUInt16.toUInt32.toInt32))] [(.int (0 : Int32)), (.ref b150), (.ref b150), (.ref b142), (.ref b142)])) t
          refine XS.iloadN X150.here hx rfl (hb hby d_method_2_58) rfl ?_
          exact kt
        obtain ⟨cl161, Ar161, q161, S161, N161, H161, G161⟩ := id V160
        have hin161 : ¬ ((0 : Int32) < 0 ∨ cl161.slots.size ≤ ((0 : Int32)).toNatClampNeg) := inb_of S161 ⟨by decide, by decide⟩
        obtain ⟨T161, h161, X161, e161, W161, st161⟩ := stC X150 hx hZ e150 Ar161 (j := (0 : Int32)) hin161 (g := (mkF m 59 #[.val (.int p1), .val (.int p2), .val (.int ((p2 &&& (255 : Int32)).toUInt32.toUInt16.toUInt32.toInt32)), .val (.int ((((p2.toUInt32 >>> ((8 : Int32) &&& 31).toUInt32).toInt32) &&& (255 : Int32)).toUInt32.toUInt16.toUInt32.toInt32))] [(.int ((p2 &&& (255 : Int32)).toUInt32.toUInt16.toUInt32.toInt32)), (.int (0 : Int32)), (.ref b150), (.ref b150), (.ref b142), (.ref b142)])) rfl rfl (hb hby d_method_2_59)
        have V162 : Arv Z h161 b150 k150 .char (2 : Int32) [(.int (nar .char ((p2 &&& (255 : Int32)).toUInt32.toUInt16.toUInt32.toInt32))), (.int (0 : Int32))] (.int (0 : Int32)) := Arv.set Ar161 q161 S161 N161 H161 G161 (fits_nar_char _) W161 0 rfl (Nat.le_of_ble_eq_true rfl)
        have N163 := Fr.snoc X161 N0 g152
        have R164 := R157.trans (CHr.wr W161 sf159 R157.1)
        have sf165 := Safe.wr W161 sf159 R157.1 sf158
        have sf166 := Safe.wr W161 sf159 R157.1 sf159
        refine ownBy st161 ?_
        show ownG p.tables e below _ (T161.setTop (mkF m 60 #[.val (.int p1), .val (.int p2), .val (.int ((p2 &&& (255 : Int32)).toUInt32.toUInt16.toUInt32.toInt32)), .val (.int ((((p2.toUInt32 >>> ((8 : Int32) &&& 31).toUInt32).toInt32) &&& (255 : Int32)).toUInt32.toUInt16.toUInt32.toInt32))] [(.ref b150), (.ref b142), (.ref b142)]))
        refine ownBy (A := T161.setTop (mkF m 63 #[.val (.int p1), .val (.int p2), .val (.int ((p2 &&& (255 : Int32)).toUInt32.toUInt16.toUInt32.toInt32)), .val (.int ((((p2.toUInt32 >>> ((8 : Int32) &&& 31).toUInt32).toInt32) &&& (255 : Int32)).toUInt32.toUInt16.toUInt32.toInt32))] [(.int ((((p2.toUInt32 >>> ((8 : Int32) &&& 31).toUInt32).toInt32) &&& (255 : Int32)).toUInt32.toUInt16.toUInt32.toInt32)), (.int (1 : Int32)), (.ref b150), (.ref b150), (.ref b142), (.ref b142)])) (fun t kt => ?_) ?_
        · show Steps p.tables e below (T161.setTop (mkF m 60 #[.val (.int p1), .val (.int p2), .val (.int ((p2 &&& (255 : Int32)).toUInt32.toUInt16.toUInt32.toInt32)), .val (.int ((((p2.toUInt32 >>> ((8 : Int32) &&& 31).toUInt32).toInt32) &&& (255 : Int32)).toUInt32.toUInt16.toUInt32.toInt32))] [(.ref b150), (.ref b142), (.ref b142)])) t
          refine XS.dup X161.here hx rfl (hb hby d_method_2_60) rfl rfl ?_
          show Steps p.tables e below (T161.setTop (mkF m 61 #[.val (.int p1), .val (.int p2), .val (.int ((p2 &&& (255 : Int32)).toUInt32.toUInt16.toUInt32.toInt32)), .val (.int ((((p2.toUInt32 >>> ((8 : Int32) &&& 31).toUInt32).toInt32) &&& (255 : Int32)).toUInt32.toUInt16.toUInt32.toInt32))] [(.ref b150), (.ref b150), (.ref b142), (.ref b142)])) t
          refine XS.iconst X161.here hx rfl (hb hby d_method_2_61) ?_
          show Steps p.tables e below (T161.setTop (mkF m 62 #[.val (.int p1), .val (.int p2), .val (.int ((p2 &&& (255 : Int32)).toUInt32.toUInt16.toUInt32.toInt32)), .val (.int ((((p2.toUInt32 >>> ((8 : Int32) &&& 31).toUInt32).toInt32) &&& (255 : Int32)).toUInt32.toUInt16.toUInt32.toInt32))] [(.int (1 : Int32)), (.ref b150), (.ref b150), (.ref b142), (.ref b142)])) t
          refine XS.iloadN X161.here hx rfl (hb hby d_method_2_62) rfl ?_
          exact kt
        obtain ⟨cl167, Ar167, q167, S167, N167, H167, G167⟩ := id V162
        have hin167 : ¬ ((1 : Int32) < 0 ∨ cl167.slots.size ≤ ((1 : Int32)).toNatClampNeg) := inb_of S167 ⟨by decide, by decide⟩
        obtain ⟨T167, h167, X167, e167, W167, st167⟩ := stC X161 hx hZ e161 Ar167 (j := (1 : Int32)) hin167 (g := (mkF m 63 #[.val (.int p1), .val (.int p2), .val (.int ((p2 &&& (255 : Int32)).toUInt32.toUInt16.toUInt32.toInt32)), .val (.int ((((p2.toUInt32 >>> ((8 : Int32) &&& 31).toUInt32).toInt32) &&& (255 : Int32)).toUInt32.toUInt16.toUInt32.toInt32))] [(.int ((((p2.toUInt32 >>> ((8 : Int32) &&& 31).toUInt32).toInt32) &&& (255 : Int32)).toUInt32.toUInt16.toUInt32.toInt32)), (.int (1 : Int32)), (.ref b150), (.ref b150), (.ref b142), (.ref b142)])) rfl rfl (hb hby d_method_2_63)
        have V168 : Arv Z h167 b150 k150 .char (2 : Int32) [(.int (nar .char ((p2 &&& (255 : Int32)).toUInt32.toUInt16.toUInt32.toInt32))), (.int (nar .char ((((p2.toUInt32 >>> ((8 : Int32) &&& 31).toUInt32).toInt32) &&& (255 : Int32)).toUInt32.toUInt16.toUInt32.toInt32)))] (.int (0 : Int32)) := Arv.set Ar167 q167 S167 N167 H167 G167 (fits_nar_char _) W167 1 rfl (Nat.le_of_ble_eq_true rfl)
        have N169 := Fr.snoc X167 N163 g152
        have R170 := R164.trans (CHr.wr W167 sf166 R164.1)
        have sf171 := Safe.wr W167 sf166 R164.1 sf165
        have sf172 := Safe.wr W167 sf166 R164.1 sf166
        refine ownBy st167 ?_
        show ownG p.tables e below _ (T167.setTop (mkF m 64 #[.val (.int p1), .val (.int p2), .val (.int ((p2 &&& (255 : Int32)).toUInt32.toUInt16.toUInt32.toInt32)), .val (.int ((((p2.toUInt32 >>> ((8 : Int32) &&& 31).toUInt32).toInt32) &&& (255 : Int32)).toUInt32.toUInt16.toUInt32.toInt32))] [(.ref b150), (.ref b142), (.ref b142)]))
        have hp173 : ∀ c ∈ ([(nar .char ((p2 &&& (255 : Int32)).toUInt32.toUInt16.toUInt32.toInt32)), (nar .char ((((p2.toUInt32 >>> ((8 : Int32) &&& 31).toUInt32).toInt32) &&& (255 : Int32)).toUInt32.toUInt16.toUInt32.toInt32))] : List Int32), ¬ c < 0 ∧ ¬ (255 : Int32) < c := by
          intro c hc
          simp only [List.mem_cons, List.not_mem_nil, or_false] at hc
          rcases hc with rfl | rfl
          · exact own_and255 p2
          · exact own_and255 ((p2.toUInt32 >>> ((8 : Int32) &&& 31).toUInt32).toInt32)
        have f174 := (Nat.le_trans (Nat.le_trans (Nat.le_trans f153 E150.1) (Keep.of_wr W161).1) (Keep.of_wr W167).1)
        have f175 := (((A142.ext E150).wr W161).wr W167)
        have f176 := (((F148.ext E150).other W161 (Or.inl ne151)).other W167 (Or.inl ne151))
        have f177 := (((F149.ext E150).other W161 (Or.inl ne151)).other W167 (Or.inl ne151))
        have f178 := ((((X00.ext E142).ext E150).wr W161 g152).wr W167 g152)
        obtain ⟨_, _, ⟨T179, L179, k179, n179⟩, -, X179, ⟨Lc179, hQ179, l179, y179, z179⟩, st179⟩ := X167.specialBack hx (y := (⟨"java/lang/String", "<init>", "([C)V"⟩ : MethodName)) rfl hown (mvT hZ (hw _ (List.mem_of_getElem? (i := 65) rfl))) (mvT hZ (hw _ (List.mem_of_getElem? (i := 66) rfl))) (mvT hZ (hw _ (List.mem_of_getElem? (i := 67) rfl))) (by decide) (StrChars.Road.backV (W := 1) hZ hws (kI := 4) (hw _ (List.mem_of_getElem? (i := 14) rfl)) (cs := ([(nar .char ((p2 &&& (255 : Int32)).toUInt32.toUInt16.toUInt32.toInt32)), (nar .char ((((p2.toUInt32 >>> ((8 : Int32) &&& 31).toUInt32).toInt32) &&& (255 : Int32)).toUInt32.toUInt16.toUInt32.toInt32))] : List Int32)) (bs := (([(nar .char ((p2 &&& (255 : Int32)).toUInt32.toUInt16.toUInt32.toInt32)), (nar .char ((((p2.toUInt32 >>> ((8 : Int32) &&& 31).toUInt32).toInt32) &&& (255 : Int32)).toUInt32.toUInt16.toUInt32.toInt32))] : List Int32)).map (fun c => c.toInt8.toInt32)) (n := 2) g143 f174 f175 f176 f177 V168 (O2.ext f178.2) P5 rfl rfl (by decide) (by decide) hp173 rfl (by decide) (by decide)) (g := (mkF m 64 #[.val (.int p1), .val (.int p2), .val (.int ((p2 &&& (255 : Int32)).toUInt32.toUInt16.toUInt32.toInt32)), .val (.int ((((p2.toUInt32 >>> ((8 : Int32) &&& 31).toUInt32).toInt32) &&& (255 : Int32)).toUInt32.toUInt16.toUInt32.toInt32))] [(.ref b150), (.ref b142), (.ref b142)])) rfl (by rw [hml]; rfl) (Steps.refl _) (a := b142) (argsL := [(.ref b150)]) (rest := [(.ref b142)]) (lenOf pd_122 rfl) rfl (by show 2 * 0 + _ ≤ _; exact Nat.le_of_eq rfl) (hb hby d_method_2_64) (fun _ _ => ⟨rfl, e167, (by decide : 2 + 1 ≤ _), (by decide : 6 + 2 ≤ _)⟩)
        dsimp only [Pt.U, Pt.locs, Pt.cells, Pt.slots] at X179 l179 y179 z179 st179 hQ179
        subst l179 y179 z179
        obtain ⟨rfl, Nq179, Kq179, Eq179, Cq179, t179, kb179, u179, v179, w179, Vq179, Aq179⟩ := hQ179
        have ne180 : b142 ≠ t179 := Nat.ne_of_lt (Nat.lt_of_lt_of_le f175.lt v179)
        have ne181 : b150 ≠ t179 := Nat.ne_of_lt (Nat.lt_of_lt_of_le V168.lt v179)
        have g182 : n0 ≤ t179 := Nat.le_trans f174 v179
        have sf183 : Safe Z ownEL s.vm h167 t179 := Safe.new v179
        have f185 := (((f156.ext E150).wr W161 (Or.inr z155)).wr W167 (Or.inr z155))
        have z184 : h0.size ≤ t179 := Nat.le_trans f185.1 v179
        have N186 := Fr.app N169 Nq179
        have R187 := R170.trans (CHr.keep Kq179 (sfS sf171 sf0) R170.1)
        have sf188 := Safe.keep Kq179 (sfS sf171 sf0) R170.1 sf171
        have sf189 := Safe.keep Kq179 (sfS sf171 sf0) R170.1 sf172
        have sf190 := Safe.keep Kq179 (sfS sf171 sf0) R170.1 sf183
        refine ownSt st179 ?_
        show ownG p.tables e below _ (T179.setTop (mkF m 67 #[.val (.int p1), .val (.int p2), .val (.int ((p2 &&& (255 : Int32)).toUInt32.toUInt16.toUInt32.toInt32)), .val (.int ((((p2.toUInt32 >>> ((8 : Int32) &&& 31).toUInt32).toInt32) &&& (255 : Int32)).toUInt32.toUInt16.toUInt32.toInt32))] [(.ref b142)]))
        have f191 := (f185.trans Kq179 (allS (Or.inr z145) all0))
        refine ownRetH X179 hS0 (Nat.le_trans (Nat.le_trans (Nat.le_trans (Nat.le_trans (Nat.le_trans (Nat.le_refl _) E142.1) E150.1) (Keep.of_wr W161).1) (Keep.of_wr W167).1) Kq179.1) Bd.notSynchronized (v := some (.ref b142)) (fun h => by rw [Bd.returns] at h; cases h) ?_ (R187.trans (CHv.at X179 hZ hEL R187.1)) (Nat.le_of_ble_eq_true rfl) (Nat.le_of_ble_eq_true rfl) (fun fs hr => retOut X179 hx Bd.returns rfl (Or.inr (Or.inr (Or.inr (Or.inr ⟨rfl, rfl, rfl⟩)))) (hb hby d_method_2_67) hr)
        show (Q_pick Z p1 p2 G1 h0 n0) (some (.ref b142)) T179.heap _
        exact ⟨_, rfl, rfl, N186, f191⟩
def Q_ecini (Z : State) (a1 : Addr) (h0 : Heap) (n0 : Nat) (v : Option Value) (h : Heap) (L : List Loc) : Prop := v = none ∧ Fr n0 L ∧ h = h0
theorem ef_ecini (m : MethodId) (x0 : Addr)  : entryFrame m #[(.ref x0)] 1 = mkF m 0 #[.val (.ref x0)] [] := by first | (simp [entryFrame, mkF, argsToLocals, Value.category]; done) | rfl
set_option maxRecDepth 65536 in
set_option maxHeartbeats 40000000 in
theorem c_ecini (l : Launch) (Z : State) (a0 : Array Value) (hw : ∀ d ∈ tables_1, d.before a0 Z = true) (ws : List Jvm.Cond) (a1 : Addr) (h0 : Heap) (n0 : Nat) (Z0 : n0 ≤ h0.size) :
    MetFree l (⟨"com/example/boring_outbox/boringoutbox/EndpointChange", "<init>", "()V"⟩ : MethodName) (head1 (Jvm.Cond.code (⟨"com/example/boring_outbox/boringoutbox/EndpointChange", "<init>", "()V"⟩ : MethodName) prog_12_method_1_code 1 none :: ws) ({ frames := 1, cells := 0, slots := 0, locals := 12 } : Room)) (fun a U => a = #[(.ref a1)] ∧ Z.Warmed39 U.vm ∧ U.heap = h0) (fun _ _ _ _ _ => True) (fun _ U o U' => ∃ v L, o = .returned v ∧ (Q_ecini Z a1 h0 n0) v U'.heap L ∧ FrameEnd U o U' L ({ frames := 1, cells := 0, slots := 0, locals := 12 } : Room).cells ({ frames := 1, cells := 0, slots := 0, locals := 12 } : Room).slots) := by
  refine MetFree.of_bodySF (plainFor_of_name pn_193) hisR ?_
  intro p e s m args below meth c s₁ Bd hml0 hP hK
  obtain ⟨rfl, hZ, hh⟩ := hP
  have hx := Bd.exec
  have hby := Bd.bytes
  have hml : c.maxLocals = 1 := hml0
  have hown : s.vm.findClass "com/example/boring_outbox/boringoutbox/EndpointChange" = some m.cls := findClass_of_methodNamed Bd.named
  have hnm := (name_of_methodNamed Bd.named Bd.method).1
  have X0 : Stand p l e ({ frames := 1, cells := 0, slots := 0, locals := 12 } : Room) s m #[(.ref a1)] below meth c s₁ [] 0 0 := Stand.of_body Bd
  have e0 : s₁.heap = h0 := by rw [← hh, Bd.state]; rfl
  have N0 := Fr.nil n0
  refine ownOut (P := (Q_ecini Z a1 h0 n0)) ?_
  refine ownBy (A := s₁.setTop (mkF m 0 #[.val (.ref a1)] [])) (fun t k => castTop (ef_ecini m a1) k) ?_
  refine ownBy (A := s₁.setTop (mkF m 1 #[.val (.ref a1)] [(.ref a1)])) (fun t kt => ?_) ?_
  · show Steps p.tables e below (s₁.setTop (mkF m 0 #[.val (.ref a1)] [])) t
    refine XS.aloadN X0.here hx rfl (hb hby d_prog_12_method_1_0) rfl rfl ?_
    exact kt
  obtain ⟨T194, X194, e194, st194⟩ := initO X0 hx hZ hown (hw _ (List.mem_of_getElem? (i := 36) rfl)) (hw _ (List.mem_of_getElem? (i := 24) rfl)) (hw _ (List.mem_of_getElem? (i := 25) rfl)) e0 (g := (mkF m 1 #[.val (.ref a1)] [(.ref a1)])) rfl (by rw [hml]; rfl) rfl (hb hby d_prog_12_method_1_1) (by decide) (W := 0) (by show 2 * 0 + _ ≤ _; exact Nat.le_of_eq rfl) (by decide)
  refine ownBy st194 ?_
  show ownG p.tables e below _ (T194.setTop (mkF m 4 #[.val (.ref a1)] []))
  refine ownRet X194 Bd.notSynchronized (v := none) (fun _ => rfl) ?_ (Nat.le_of_ble_eq_true rfl) (Nat.le_of_ble_eq_true rfl) (fun fs hr => X194.returnOut hx Bd.returns (hb hby d_prog_12_method_1_4) hr)
  show (Q_ecini Z a1 h0 n0) (none) T194.heap _
  rw [e194]
  exact ⟨rfl, N0, rfl⟩
def Q_gdes (Z : State) (a1 : Addr) (u : Int32) (h0 : Heap) (n0 : Nat) (v : Option Value) (h : Heap) (L : List Loc) : Prop := v = some (.int (nar .boolean u)) ∧ Fr n0 L ∧ h = h0
theorem ef_gdes (m : MethodId) (x0 : Addr)  : entryFrame m #[(.ref x0)] 1 = mkF m 0 #[.val (.ref x0)] [] := by first | (simp [entryFrame, mkF, argsToLocals, Value.category]; done) | rfl
set_option maxRecDepth 65536 in
set_option maxHeartbeats 40000000 in
theorem c_gdes (l : Launch) (Z : State) (a0 : Array Value) (hw : ∀ d ∈ tables_1, d.before a0 Z = true) (ws : List Jvm.Cond) (a1 : Addr) (u : Int32) (h0 : Heap) (n0 : Nat) (Z0 : n0 ≤ h0.size) (F1 : Fld Z h0 a1 "com/example/boring_outbox/boringoutbox/EndpointChange" "describes" "Z" (.int u)) :
    MetFree l (⟨"com/example/boring_outbox/boringoutbox/EndpointChange", "describes", "()Z"⟩ : MethodName) (head1 (Jvm.Cond.code (⟨"com/example/boring_outbox/boringoutbox/EndpointChange", "describes", "()Z"⟩ : MethodName) prog_12_method_11_code 1 (some .boolean) :: ws) ({ frames := 0, cells := 0, slots := 0, locals := 0 } : Room)) (fun a U => a = #[(.ref a1)] ∧ Z.Warmed39 U.vm ∧ U.heap = h0) (fun _ _ _ _ _ => True) (fun _ U o U' => ∃ v L, o = .returned v ∧ (Q_gdes Z a1 u h0 n0) v U'.heap L ∧ FrameEnd U o U' L ({ frames := 0, cells := 0, slots := 0, locals := 0 } : Room).cells ({ frames := 0, cells := 0, slots := 0, locals := 0 } : Room).slots) := by
  refine MetFree.of_bodySF (plainFor_of_name pn_193) hisR ?_
  intro p e s m args below meth c s₁ Bd hml0 hP hK
  obtain ⟨rfl, hZ, hh⟩ := hP
  have hx := Bd.exec
  have hby := Bd.bytes
  have hml : c.maxLocals = 1 := hml0
  have hown : s.vm.findClass "com/example/boring_outbox/boringoutbox/EndpointChange" = some m.cls := findClass_of_methodNamed Bd.named
  have hnm := (name_of_methodNamed Bd.named Bd.method).1
  have X0 : Stand p l e ({ frames := 0, cells := 0, slots := 0, locals := 0 } : Room) s m #[(.ref a1)] below meth c s₁ [] 0 0 := Stand.of_body Bd
  have e0 : s₁.heap = h0 := by rw [← hh, Bd.state]; rfl
  have N0 := Fr.nil n0
  refine ownOut (P := (Q_gdes Z a1 u h0 n0)) ?_
  refine ownBy (A := s₁.setTop (mkF m 0 #[.val (.ref a1)] [])) (fun t k => castTop (ef_gdes m a1) k) ?_
  refine ownBy (A := s₁.setTop (mkF m 1 #[.val (.ref a1)] [(.ref a1)])) (fun t kt => ?_) ?_
  · show Steps p.tables e below (s₁.setTop (mkF m 0 #[.val (.ref a1)] [])) t
    refine XS.aloadN X0.here hx rfl (hb hby d_prog_12_method_11_0) rfl rfl ?_
    exact kt
  obtain ⟨T195, X195, e195, st195⟩ := getF X0 hx hZ hown (host := "") (Or.inl (hw _ (List.mem_of_getElem? (i := 42) rfl))) Via.refl e0 F1 (g := (mkF m 1 #[.val (.ref a1)] [(.ref a1)])) rfl rfl (hb hby d_prog_12_method_11_1)
  refine ownBy st195 ?_
  show ownG p.tables e below _ (T195.setTop (mkF m 4 #[.val (.ref a1)] [(.int u)]))
  refine ownRet X195 Bd.notSynchronized (v := some (.int (nar .boolean u))) (fun h => by rw [Bd.returns] at h; cases h) ?_ (Nat.le_of_ble_eq_true rfl) (Nat.le_of_ble_eq_true rfl) (fun fs hr => retN X195 hx (t := .boolean) Bd.returns (by simp) (hb hby d_prog_12_method_11_4) hr)
  show (Q_gdes Z a1 u h0 n0) (some (.int (nar .boolean u))) T195.heap _
  rw [e195]
  exact ⟨rfl, N0, rfl⟩
def Q_gdsc (Z : State) (a1 : Addr) (u : Value) (h0 : Heap) (n0 : Nat) (v : Option Value) (h : Heap) (L : List Loc) : Prop := v = some u ∧ Fr n0 L ∧ h = h0
theorem ef_gdsc (m : MethodId) (x0 : Addr)  : entryFrame m #[(.ref x0)] 1 = mkF m 0 #[.val (.ref x0)] [] := by first | (simp [entryFrame, mkF, argsToLocals, Value.category]; done) | rfl
set_option maxRecDepth 65536 in
set_option maxHeartbeats 40000000 in
theorem c_gdsc (l : Launch) (Z : State) (a0 : Array Value) (hw : ∀ d ∈ tables_1, d.before a0 Z = true) (ws : List Jvm.Cond) (a1 : Addr) (u : Value) (h0 : Heap) (n0 : Nat) (Z0 : n0 ≤ h0.size) (F1 : Fld Z h0 a1 "com/example/boring_outbox/boringoutbox/EndpointChange" "description" "Ljava/lang/String;" u) (hu : u.isRef = true) :
    MetFree l (⟨"com/example/boring_outbox/boringoutbox/EndpointChange", "description", "()Ljava/lang/String;"⟩ : MethodName) (head1 (Jvm.Cond.code (⟨"com/example/boring_outbox/boringoutbox/EndpointChange", "description", "()Ljava/lang/String;"⟩ : MethodName) prog_12_method_12_code 1 (some (.object "java/lang/String")) :: ws) ({ frames := 0, cells := 0, slots := 0, locals := 0 } : Room)) (fun a U => a = #[(.ref a1)] ∧ Z.Warmed39 U.vm ∧ U.heap = h0) (fun _ _ _ _ _ => True) (fun _ U o U' => ∃ v L, o = .returned v ∧ (Q_gdsc Z a1 u h0 n0) v U'.heap L ∧ FrameEnd U o U' L ({ frames := 0, cells := 0, slots := 0, locals := 0 } : Room).cells ({ frames := 0, cells := 0, slots := 0, locals := 0 } : Room).slots) := by
  refine MetFree.of_bodySF (plainFor_of_name pn_193) hisR ?_
  intro p e s m args below meth c s₁ Bd hml0 hP hK
  obtain ⟨rfl, hZ, hh⟩ := hP
  have hx := Bd.exec
  have hby := Bd.bytes
  have hml : c.maxLocals = 1 := hml0
  have hown : s.vm.findClass "com/example/boring_outbox/boringoutbox/EndpointChange" = some m.cls := findClass_of_methodNamed Bd.named
  have hnm := (name_of_methodNamed Bd.named Bd.method).1
  have X0 : Stand p l e ({ frames := 0, cells := 0, slots := 0, locals := 0 } : Room) s m #[(.ref a1)] below meth c s₁ [] 0 0 := Stand.of_body Bd
  have e0 : s₁.heap = h0 := by rw [← hh, Bd.state]; rfl
  have N0 := Fr.nil n0
  refine ownOut (P := (Q_gdsc Z a1 u h0 n0)) ?_
  refine ownBy (A := s₁.setTop (mkF m 0 #[.val (.ref a1)] [])) (fun t k => castTop (ef_gdsc m a1) k) ?_
  refine ownBy (A := s₁.setTop (mkF m 1 #[.val (.ref a1)] [(.ref a1)])) (fun t kt => ?_) ?_
  · show Steps p.tables e below (s₁.setTop (mkF m 0 #[.val (.ref a1)] [])) t
    refine XS.aloadN X0.here hx rfl (hb hby d_prog_12_method_12_0) rfl rfl ?_
    exact kt
  obtain ⟨T196, X196, e196, st196⟩ := getF X0 hx hZ hown (host := "") (Or.inl (hw _ (List.mem_of_getElem? (i := 49) rfl))) Via.refl e0 F1 (g := (mkF m 1 #[.val (.ref a1)] [(.ref a1)])) rfl rfl (hb hby d_prog_12_method_12_1)
  refine ownBy st196 ?_
  show ownG p.tables e below _ (T196.setTop (mkF m 4 #[.val (.ref a1)] [u]))
  refine ownRet X196 Bd.notSynchronized (v := some u) (fun h => by rw [Bd.returns] at h; cases h) ?_ (Nat.le_of_ble_eq_true rfl) (Nat.le_of_ble_eq_true rfl) (fun fs hr => retOut X196 hx Bd.returns (own_narrow rfl hu) (Or.inr (Or.inr (Or.inr (Or.inr ⟨rfl, rfl, hu⟩)))) (hb hby d_prog_12_method_12_4) hr)
  show (Q_gdsc Z a1 u h0 n0) (some u) T196.heap _
  rw [e196]
  exact ⟨rfl, N0, rfl⟩
def Q_gurl (Z : State) (a1 : Addr) (u : Value) (h0 : Heap) (n0 : Nat) (v : Option Value) (h : Heap) (L : List Loc) : Prop := v = some u ∧ Fr n0 L ∧ h = h0
theorem ef_gurl (m : MethodId) (x0 : Addr)  : entryFrame m #[(.ref x0)] 1 = mkF m 0 #[.val (.ref x0)] [] := by first | (simp [entryFrame, mkF, argsToLocals, Value.category]; done) | rfl
set_option maxRecDepth 65536 in
set_option maxHeartbeats 40000000 in
theorem c_gurl (l : Launch) (Z : State) (a0 : Array Value) (hw : ∀ d ∈ tables_1, d.before a0 Z = true) (ws : List Jvm.Cond) (a1 : Addr) (u : Value) (h0 : Heap) (n0 : Nat) (Z0 : n0 ≤ h0.size) (F1 : Fld Z h0 a1 "com/example/boring_outbox/boringoutbox/EndpointChange" "url" "Ljava/lang/String;" u) (hu : u.isRef = true) :
    MetFree l (⟨"com/example/boring_outbox/boringoutbox/EndpointChange", "url", "()Ljava/lang/String;"⟩ : MethodName) (head1 (Jvm.Cond.code (⟨"com/example/boring_outbox/boringoutbox/EndpointChange", "url", "()Ljava/lang/String;"⟩ : MethodName) prog_12_method_7_code 1 (some (.object "java/lang/String")) :: ws) ({ frames := 0, cells := 0, slots := 0, locals := 0 } : Room)) (fun a U => a = #[(.ref a1)] ∧ Z.Warmed39 U.vm ∧ U.heap = h0) (fun _ _ _ _ _ => True) (fun _ U o U' => ∃ v L, o = .returned v ∧ (Q_gurl Z a1 u h0 n0) v U'.heap L ∧ FrameEnd U o U' L ({ frames := 0, cells := 0, slots := 0, locals := 0 } : Room).cells ({ frames := 0, cells := 0, slots := 0, locals := 0 } : Room).slots) := by
  refine MetFree.of_bodySF (plainFor_of_name pn_193) hisR ?_
  intro p e s m args below meth c s₁ Bd hml0 hP hK
  obtain ⟨rfl, hZ, hh⟩ := hP
  have hx := Bd.exec
  have hby := Bd.bytes
  have hml : c.maxLocals = 1 := hml0
  have hown : s.vm.findClass "com/example/boring_outbox/boringoutbox/EndpointChange" = some m.cls := findClass_of_methodNamed Bd.named
  have hnm := (name_of_methodNamed Bd.named Bd.method).1
  have X0 : Stand p l e ({ frames := 0, cells := 0, slots := 0, locals := 0 } : Room) s m #[(.ref a1)] below meth c s₁ [] 0 0 := Stand.of_body Bd
  have e0 : s₁.heap = h0 := by rw [← hh, Bd.state]; rfl
  have N0 := Fr.nil n0
  refine ownOut (P := (Q_gurl Z a1 u h0 n0)) ?_
  refine ownBy (A := s₁.setTop (mkF m 0 #[.val (.ref a1)] [])) (fun t k => castTop (ef_gurl m a1) k) ?_
  refine ownBy (A := s₁.setTop (mkF m 1 #[.val (.ref a1)] [(.ref a1)])) (fun t kt => ?_) ?_
  · show Steps p.tables e below (s₁.setTop (mkF m 0 #[.val (.ref a1)] [])) t
    refine XS.aloadN X0.here hx rfl (hb hby d_prog_12_method_7_0) rfl rfl ?_
    exact kt
  obtain ⟨T197, X197, e197, st197⟩ := getF X0 hx hZ hown (host := "") (Or.inl (hw _ (List.mem_of_getElem? (i := 61) rfl))) Via.refl e0 F1 (g := (mkF m 1 #[.val (.ref a1)] [(.ref a1)])) rfl rfl (hb hby d_prog_12_method_7_1)
  refine ownBy st197 ?_
  show ownG p.tables e below _ (T197.setTop (mkF m 4 #[.val (.ref a1)] [u]))
  refine ownRet X197 Bd.notSynchronized (v := some u) (fun h => by rw [Bd.returns] at h; cases h) ?_ (Nat.le_of_ble_eq_true rfl) (Nat.le_of_ble_eq_true rfl) (fun fs hr => retOut X197 hx Bd.returns (own_narrow rfl hu) (Or.inr (Or.inr (Or.inr (Or.inr ⟨rfl, rfl, hu⟩)))) (hb hby d_prog_12_method_7_4) hr)
  show (Q_gurl Z a1 u h0 n0) (some u) T197.heap _
  rw [e197]
  exact ⟨rfl, N0, rfl⟩
def Q_sdsc (Z : State) (a1 : Addr) (u : Value) (d0 : Value) (b0 : Value) (w0 : Value) (h0 : Heap) (n0 : Nat) (v : Option Value) (h : Heap) (L : List Loc) : Prop := v = some (.ref a1) ∧ Fr n0 L ∧ Keep h0 h [a1] ∧ Fld Z h a1 "com/example/boring_outbox/boringoutbox/EndpointChange" "description" "Ljava/lang/String;" u ∧ Fld Z h a1 "com/example/boring_outbox/boringoutbox/EndpointChange" "describes" "Z" (.int (1 : Int32)) ∧ Fld Z h a1 "com/example/boring_outbox/boringoutbox/EndpointChange" "url" "Ljava/lang/String;" w0
theorem ef_sdsc (m : MethodId) (x0 : Addr) (x1 : Value) (r1 : x1.isRef = true) : entryFrame m #[(.ref x0), x1] 2 = mkF m 0 #[.val (.ref x0), .val x1] [] := by
  rcases ref_cases r1 with rfl | ⟨y1, rfl⟩ <;> first | (simp [entryFrame, mkF, argsToLocals, Value.category]; done) | rfl
set_option maxRecDepth 65536 in
set_option maxHeartbeats 40000000 in
theorem c_sdsc (l : Launch) (Z : State) (a0 : Array Value) (hw : ∀ d ∈ tables_1, d.before a0 Z = true) (ws : List Jvm.Cond) (a1 : Addr) (u : Value) (d0 : Value) (b0 : Value) (w0 : Value) (h0 : Heap) (n0 : Nat) (Z0 : n0 ≤ h0.size) (E1 : Exa Z h0 a1 "com/example/boring_outbox/boringoutbox/EndpointChange") (F1 : Fld Z h0 a1 "com/example/boring_outbox/boringoutbox/EndpointChange" "description" "Ljava/lang/String;" d0) (F2 : Fld Z h0 a1 "com/example/boring_outbox/boringoutbox/EndpointChange" "describes" "Z" b0) (F3 : Fld Z h0 a1 "com/example/boring_outbox/boringoutbox/EndpointChange" "url" "Ljava/lang/String;" w0) (g1 : n0 ≤ a1) (ru : u.isRef = true) :
    MetFree l (⟨"com/example/boring_outbox/boringoutbox/EndpointChange", "description", "(Ljava/lang/String;)Lcom/example/boring_outbox/boringoutbox/EndpointChange;"⟩ : MethodName) (head1 (Jvm.Cond.code (⟨"com/example/boring_outbox/boringoutbox/EndpointChange", "description", "(Ljava/lang/String;)Lcom/example/boring_outbox/boringoutbox/EndpointChange;"⟩ : MethodName) prog_12_method_6_code 2 (some (.object "com/example/boring_outbox/boringoutbox/EndpointChange")) :: ws) ({ frames := 0, cells := 0, slots := 0, locals := 0 } : Room)) (fun a U => a = #[(.ref a1), u] ∧ Z.Warmed39 U.vm ∧ U.heap = h0) (fun _ _ _ _ _ => True) (fun _ U o U' => ∃ v L, o = .returned v ∧ (Q_sdsc Z a1 u d0 b0 w0 h0 n0) v U'.heap L ∧ FrameEnd U o U' L ({ frames := 0, cells := 0, slots := 0, locals := 0 } : Room).cells ({ frames := 0, cells := 0, slots := 0, locals := 0 } : Room).slots) := by
  refine MetFree.of_bodySF (plainFor_of_name pn_193) hisR ?_
  intro p e s m args below meth c s₁ Bd hml0 hP hK
  obtain ⟨rfl, hZ, hh⟩ := hP
  have hx := Bd.exec
  have hby := Bd.bytes
  have hml : c.maxLocals = 2 := hml0
  have hown : s.vm.findClass "com/example/boring_outbox/boringoutbox/EndpointChange" = some m.cls := findClass_of_methodNamed Bd.named
  have hnm := (name_of_methodNamed Bd.named Bd.method).1
  have X0 : Stand p l e ({ frames := 0, cells := 0, slots := 0, locals := 0 } : Room) s m #[(.ref a1), u] below meth c s₁ [] 0 0 := Stand.of_body Bd
  have e0 : s₁.heap = h0 := by rw [← hh, Bd.state]; rfl
  have N0 := Fr.nil n0
  refine ownOut (P := (Q_sdsc Z a1 u d0 b0 w0 h0 n0)) ?_
  refine ownBy (A := s₁.setTop (mkF m 0 #[.val (.ref a1), .val u] [])) (fun t k => castTop (ef_sdsc m a1 u ru) k) ?_
  refine ownBy (A := s₁.setTop (mkF m 2 #[.val (.ref a1), .val u] [(.int (1 : Int32)), (.ref a1)])) (fun t kt => ?_) ?_
  · show Steps p.tables e below (s₁.setTop (mkF m 0 #[.val (.ref a1), .val u] [])) t
    refine XS.aloadN X0.here hx rfl (hb hby d_prog_12_method_6_0) rfl rfl ?_
    show Steps p.tables e below (s₁.setTop (mkF m 1 #[.val (.ref a1), .val u] [(.ref a1)])) t
    refine XS.iconst X0.here hx rfl (hb hby d_prog_12_method_6_1) ?_
    exact kt
  obtain ⟨T198, h198, X198, e198, W198, st198⟩ := putFN X0 hx hZ hown (hw _ (List.mem_of_getElem? (i := 42) rfl)) Via.refl e0 F2 E1 (Or.inl (hw _ (List.mem_of_getElem? (i := 43) rfl))) (hw _ (List.mem_of_getElem? (i := 31) rfl)) (ty := .boolean) (v' := (.int (1 : Int32))) (by decide) rfl (fits_nar_bool (1 : Int32)) (g := (mkF m 2 #[.val (.ref a1), .val u] [(.int (1 : Int32)), (.ref a1)])) rfl rfl (hb hby d_prog_12_method_6_2)
  have F199 := F2.same W198
  have N200 := Fr.snoc X198 N0 g1
  refine ownBy st198 ?_
  show ownG p.tables e below _ (T198.setTop (mkF m 5 #[.val (.ref a1), .val u] []))
  refine ownBy (A := T198.setTop (mkF m 7 #[.val (.ref a1), .val u] [u, (.ref a1)])) (fun t kt => ?_) ?_
  · show Steps p.tables e below (T198.setTop (mkF m 5 #[.val (.ref a1), .val u] [])) t
    refine XS.aloadN X198.here hx rfl (hb hby d_prog_12_method_6_5) rfl rfl ?_
    show Steps p.tables e below (T198.setTop (mkF m 6 #[.val (.ref a1), .val u] [(.ref a1)])) t
    refine XS.aloadN X198.here hx rfl (hb hby d_prog_12_method_6_6) rfl ru ?_
    exact kt
  have f202 := (F1.other W198 (Or.inr (slot_ne (Or.inl (hw _ (List.mem_of_getElem? (i := 50) rfl))) (Or.inl (hw _ (List.mem_of_getElem? (i := 43) rfl))) (by decide) (t := (.object "java/lang/String")) (t' := .boolean) (by decide) (by decide))))
  have f203 := (E1.wr W198)
  obtain ⟨T201, h201, X201, e201, W201, st201⟩ := putF X198 hx hZ hown (host := "") (Or.inl (hw _ (List.mem_of_getElem? (i := 49) rfl))) Via.refl e198 f202 f203 (Or.inl (hw _ (List.mem_of_getElem? (i := 50) rfl))) (hw _ (List.mem_of_getElem? (i := 31) rfl)) (ty := (.object "java/lang/String")) (by decide) (own_narrow rfl ru) (own_fits rfl ru) (g := (mkF m 7 #[.val (.ref a1), .val u] [u, (.ref a1)])) rfl rfl (hb hby d_prog_12_method_6_7)
  have F204 := f202.same W201
  have N205 := Fr.snoc X201 N200 g1
  refine ownBy st201 ?_
  show ownG p.tables e below _ (T201.setTop (mkF m 10 #[.val (.ref a1), .val u] []))
  refine ownBy (A := T201.setTop (mkF m 11 #[.val (.ref a1), .val u] [(.ref a1)])) (fun t kt => ?_) ?_
  · show Steps p.tables e below (T201.setTop (mkF m 10 #[.val (.ref a1), .val u] [])) t
    refine XS.aloadN X201.here hx rfl (hb hby d_prog_12_method_6_10) rfl rfl ?_
    exact kt
  have f206 := (((Keep.refl h0 [a1]).wr W198 (Or.inl (List.mem_of_getElem? (i := 0) rfl))).wr W201 (Or.inl (List.mem_of_getElem? (i := 0) rfl)))
  have f207 := (F199.other W201 (Or.inr (slot_ne (Or.inl (hw _ (List.mem_of_getElem? (i := 43) rfl))) (Or.inl (hw _ (List.mem_of_getElem? (i := 50) rfl))) (by decide) (t := .boolean) (t' := (.object "java/lang/String")) (by decide) (by decide))))
  have f208 := ((F3.other W198 (Or.inr (slot_ne (Or.inl (hw _ (List.mem_of_getElem? (i := 62) rfl))) (Or.inl (hw _ (List.mem_of_getElem? (i := 43) rfl))) (by decide) (t := (.object "java/lang/String")) (t' := .boolean) (by decide) (by decide)))).other W201 (Or.inr (slot_ne (Or.inl (hw _ (List.mem_of_getElem? (i := 62) rfl))) (Or.inl (hw _ (List.mem_of_getElem? (i := 50) rfl))) (by decide) (t := (.object "java/lang/String")) (t' := (.object "java/lang/String")) (by decide) (by decide))))
  refine ownRet X201 Bd.notSynchronized (v := some (.ref a1)) (fun h => by rw [Bd.returns] at h; cases h) ?_ (Nat.le_of_ble_eq_true rfl) (Nat.le_of_ble_eq_true rfl) (fun fs hr => retOut X201 hx Bd.returns rfl (Or.inr (Or.inr (Or.inr (Or.inr ⟨rfl, rfl, rfl⟩)))) (hb hby d_prog_12_method_6_11) hr)
  show (Q_sdsc Z a1 u d0 b0 w0 h0 n0) (some (.ref a1)) T201.heap _
  rw [e201]
  exact ⟨rfl, N205, f206, F204, f207, f208⟩
def Q_law (Z : State) (p1 : Int32) (p2 : Int32) (p3 : Int32) (G1 : Int32) (h0 : Heap) (n0 : Nat) (v : Option Value) (h : Heap) (L : List Loc) : Prop := v = some (.int 1) ∧ Fr n0 L
theorem ef_law (m : MethodId) (x0 : Int32) (x1 : Int32) (x2 : Int32)  : entryFrame m #[(.int x0), (.int x1), (.int x2)] maxLocals = mkF m 0 #[.val (.int x0), .val (.int x1), .val (.int x2), .unset, .unset, .unset, .unset, .unset, .unset, .unset, .unset] [] := by first | (simp [entryFrame, mkF, argsToLocals, Value.category, maxLocals]; done) | rfl
set_option maxRecDepth 65536 in
set_option maxHeartbeats 40000000 in
theorem c_law (l : Launch) (Z : State) (a0 : Array Value) (hw : ∀ d ∈ tables_1, d.before a0 Z = true) (ws : List Jvm.Cond) (p1 : Int32) (p2 : Int32) (p3 : Int32) (G1 : Int32) (h0 : Heap) (n0 : Nat) (Z0 : n0 ≤ h0.size) (O2 : Sta Z Z.heap "java/lang/String" "COMPACT_STRINGS" "Z" (.int G1)) (P5 : ¬ (G1 = (0 : Int32))) (X00 : Old Z n0 h0) :
    MetFree l x (head1 (Jvm.Cond.code x code maxLocals ret :: ws) room_1) (fun a U => a = #[(.int p1), (.int p2), (.int p3)] ∧ Z.Warmed39 U.vm ∧ U.heap = h0 ∧ CHv Z ownEL U.vm h0) (fun _ _ _ _ _ => True) (fun _ U o U' => ∃ v L, o = .returned v ∧ (Q_law Z p1 p2 p3 G1 h0 n0) v U'.heap L ∧ CHr Z ownEL U.vm U.heap U'.vm U'.heap ∧ ReturnedEndW U o U' L 24 1152) := by
  refine MetFree.of_bodySF (plainFor_of_name pn_94) hisR ?_
  intro p e s m args below meth c s₁ Bd hml0 hP hK
  obtain ⟨rfl, hZ, hh, hCH⟩ := hP
  have hx := Bd.exec
  have hby := Bd.bytes
  have hml : c.maxLocals = 11 := hml0
  have hown : s.vm.findClass "com/example/boring_outbox/boringoutbox/EndpointChangeDescriptionPinLaw" = some m.cls := findClass_of_methodNamed Bd.named
  have hnm := (name_of_methodNamed Bd.named Bd.method).1
  have X0 : Stand p l e room_1 (s.setVm s.vm) m #[(.int p1), (.int p2), (.int p3)] below meth c s₁ [] 0 0 := Stand.of_body Bd
  have e0 : s₁.heap = h0 := by rw [← hh, Bd.state]; rfl
  have N0 := Fr.nil n0
  refine ownOutH hh (P := (Q_law Z p1 p2 p3 G1 h0 n0)) ?_
  refine ownBy (A := s₁.setTop (mkF m 0 #[.val (.int p1), .val (.int p2), .val (.int p3), .unset, .unset, .unset, .unset, .unset, .unset, .unset, .unset] [])) (fun t k => castTop (ef_law m p1 p2 p3) k) ?_
  have hS0 : s.Since s.vm h0.size := own_since
  have hEL := own_EW hw
  have R0 := CHr.refl hCH
  have wS := own_wS hw
  refine ownBy (A := s₁.setTop (mkF m 4 #[.val (.int p1), .val (.int p2), .val (.int p3), .unset, .unset, .unset, .unset, .unset, .unset, .unset, .unset] [(.int p1), (.int (p3 &&& (3 : Int32)))])) (fun t kt => ?_) ?_
  · show Steps p.tables e below (s₁.setTop (mkF m 0 #[.val (.int p1), .val (.int p2), .val (.int p3), .unset, .unset, .unset, .unset, .unset, .unset, .unset, .unset] [])) t
    refine XS.iloadN X0.here hx rfl (hb hby at_0) rfl ?_
    show Steps p.tables e below (s₁.setTop (mkF m 1 #[.val (.int p1), .val (.int p2), .val (.int p3), .unset, .unset, .unset, .unset, .unset, .unset, .unset, .unset] [(.int p3)])) t
    refine XS.iconst X0.here hx rfl (hb hby at_1) ?_
    show Steps p.tables e below (s₁.setTop (mkF m 2 #[.val (.int p1), .val (.int p2), .val (.int p3), .unset, .unset, .unset, .unset, .unset, .unset, .unset, .unset] [(.int (3 : Int32)), (.int p3)])) t
    refine XS.iand X0.here hx rfl (hb hby at_2) rfl ?_
    show Steps p.tables e below (s₁.setTop (mkF m 3 #[.val (.int p1), .val (.int p2), .val (.int p3), .unset, .unset, .unset, .unset, .unset, .unset, .unset, .unset] [(.int (p3 &&& (3 : Int32)))])) t
    refine XS.iloadN X0.here hx rfl (hb hby at_3) rfl ?_
    exact kt
  obtain ⟨_, _, ⟨T209, L209, k209, n209⟩, -, X209, hS209, hg209, ⟨Lc209, hQ209, l209, y209, z209, hC209⟩, st209⟩ := callSS X0 hx (y := (⟨"com/example/boring_outbox/boringoutbox/EndpointChangeDescriptionPinLaw", "pick", "(II)Ljava/lang/String;"⟩ : MethodName)) hown (mvT hZ (hw _ (List.mem_of_getElem? (i := 0) rfl))) (mvT hZ (hw _ (List.mem_of_getElem? (i := 1) rfl))) (mvT hZ (hw _ (List.mem_of_getElem? (i := 2) rfl))) (mvT hZ (hw _ (List.mem_of_getElem? (i := 3) rfl))) (by decide) (backOfSH (W := 0) (s := s) (EL := ownEL) (c_pick l Z a0 hw [] (p3 &&& (3 : Int32)) p1 G1 h0 n0 Z0 O2 P5 X00) hZ (hw _ (List.mem_of_getElem? (i := 3) rfl)) (hw _ (List.mem_of_getElem? (i := 2) rfl)) (by decide) (by decide) hEL R0.1) (g := (mkF m 4 #[.val (.int p1), .val (.int p2), .val (.int p3), .unset, .unset, .unset, .unset, .unset, .unset, .unset, .unset] [(.int p1), (.int (p3 &&& (3 : Int32)))])) rfl (by rw [hml]; rfl) (argsL := [(.int (p3 &&& (3 : Int32))), (.int p1)]) (rest := []) (lenOf pd_210 rfl) rfl (by show 2 * 0 + _ ≤ _; exact Nat.le_of_eq rfl) (hb hby at_4) (fun _ _ => ⟨rfl, e0, (by decide : 0 + 6 ≤ _), (by decide : 0 + 12 ≤ _)⟩)
  dsimp only [Pt.U, Pt.locs, Pt.cells, Pt.slots] at X209 l209 y209 z209 st209 hQ209 hS209 hg209 hC209
  subst l209 y209 z209
  obtain ⟨u209, rfl, ru209, Nq209, Kq209⟩ := hQ209
  have N211 := Fr.app N0 Nq209
  have R213 := R0.trans hC209
  obtain ⟨XR214, hSR214, hZ214, hown214⟩ := rebS hS0 (by rw [e0]; exact (Nat.le_refl _)) X209 hS209 hg209 hZ hown
  refine ownSt st209 ?_
  show ownG p.tables e below _ (T209.setTop (mkF m 7 #[.val (.int p1), .val (.int p2), .val (.int p3), .unset, .unset, .unset, .unset, .unset, .unset, .unset, .unset] [u209]))
  refine ownBy (A := T209.setTop (mkF m 14 #[.val (.int p1), .val (.int p2), .val (.int p3), .val u209, .unset, .unset, .unset, .unset, .unset, .unset, .unset] [(.int p2), (.int (((p3.toUInt32 >>> ((2 : Int32) &&& 31).toUInt32).toInt32) &&& (3 : Int32)))])) (fun t kt => ?_) ?_
  · show Steps p.tables e below (T209.setTop (mkF m 7 #[.val (.int p1), .val (.int p2), .val (.int p3), .unset, .unset, .unset, .unset, .unset, .unset, .unset, .unset] [u209])) t
    refine XS.astoreN XR214.here hx rfl (hb hby at_7) rfl ru209 (l' := #[.val (.int p1), .val (.int p2), .val (.int p3), .val u209, .unset, .unset, .unset, .unset, .unset, .unset, .unset]) (by rcases ref_cases ru209 with h | ⟨a, h⟩ <;> rw [h] <;> rfl) ?_
    show Steps p.tables e below (T209.setTop (mkF m 8 #[.val (.int p1), .val (.int p2), .val (.int p3), .val u209, .unset, .unset, .unset, .unset, .unset, .unset, .unset] [])) t
    refine XS.iloadN XR214.here hx rfl (hb hby at_8) rfl ?_
    show Steps p.tables e below (T209.setTop (mkF m 9 #[.val (.int p1), .val (.int p2), .val (.int p3), .val u209, .unset, .unset, .unset, .unset, .unset, .unset, .unset] [(.int p3)])) t
    refine XS.iconst XR214.here hx rfl (hb hby at_9) ?_
    show Steps p.tables e below (T209.setTop (mkF m 10 #[.val (.int p1), .val (.int p2), .val (.int p3), .val u209, .unset, .unset, .unset, .unset, .unset, .unset, .unset] [(.int (2 : Int32)), (.int p3)])) t
    refine XS.iushr XR214.here hx rfl (hb hby at_10) rfl ?_
    show Steps p.tables e below (T209.setTop (mkF m 11 #[.val (.int p1), .val (.int p2), .val (.int p3), .val u209, .unset, .unset, .unset, .unset, .unset, .unset, .unset] [(.int ((p3.toUInt32 >>> ((2 : Int32) &&& 31).toUInt32).toInt32))])) t
    refine XS.iconst XR214.here hx rfl (hb hby at_11) ?_
    show Steps p.tables e below (T209.setTop (mkF m 12 #[.val (.int p1), .val (.int p2), .val (.int p3), .val u209, .unset, .unset, .unset, .unset, .unset, .unset, .unset] [(.int (3 : Int32)), (.int ((p3.toUInt32 >>> ((2 : Int32) &&& 31).toUInt32).toInt32))])) t
    refine XS.iand XR214.here hx rfl (hb hby at_12) rfl ?_
    show Steps p.tables e below (T209.setTop (mkF m 13 #[.val (.int p1), .val (.int p2), .val (.int p3), .val u209, .unset, .unset, .unset, .unset, .unset, .unset, .unset] [(.int (((p3.toUInt32 >>> ((2 : Int32) &&& 31).toUInt32).toInt32) &&& (3 : Int32)))])) t
    refine XS.iloadN XR214.here hx rfl (hb hby at_13) rfl ?_
    exact kt
  have f215 := (X00.keep Kq209 all0)
  have f216 := (Nat.le_trans Z0 Kq209.1)
  obtain ⟨_, _, ⟨T217, L217, k217, n217⟩, -, X217, hS217, hg217, ⟨Lc217, hQ217, l217, y217, z217, hC217⟩, st217⟩ := callSS XR214 hx (y := (⟨"com/example/boring_outbox/boringoutbox/EndpointChangeDescriptionPinLaw", "pick", "(II)Ljava/lang/String;"⟩ : MethodName)) hown214 (mvT hZ214 (hw _ (List.mem_of_getElem? (i := 0) rfl))) (mvT hZ214 (hw _ (List.mem_of_getElem? (i := 1) rfl))) (mvT hZ214 (hw _ (List.mem_of_getElem? (i := 2) rfl))) (mvT hZ214 (hw _ (List.mem_of_getElem? (i := 3) rfl))) (by decide) (backOfSH (W := 0) (s := s) (EL := ownEL) (c_pick l Z a0 hw [] (((p3.toUInt32 >>> ((2 : Int32) &&& 31).toUInt32).toInt32) &&& (3 : Int32)) p2 G1 T209.heap n0 f216 O2 P5 f215) hZ214 (hw _ (List.mem_of_getElem? (i := 3) rfl)) (hw _ (List.mem_of_getElem? (i := 2) rfl)) (by decide) (by decide) hEL R213.1) (g := (mkF m 14 #[.val (.int p1), .val (.int p2), .val (.int p3), .val u209, .unset, .unset, .unset, .unset, .unset, .unset, .unset] [(.int p2), (.int (((p3.toUInt32 >>> ((2 : Int32) &&& 31).toUInt32).toInt32) &&& (3 : Int32)))])) rfl (by rw [hml]; rfl) (argsL := [(.int (((p3.toUInt32 >>> ((2 : Int32) &&& 31).toUInt32).toInt32) &&& (3 : Int32))), (.int p2)]) (rest := []) (lenOf pd_210 rfl) rfl (by show 2 * 0 + _ ≤ _; exact Nat.le_of_eq rfl) (hb hby at_14) (fun _ _ => ⟨rfl, rfl, (by decide : 6 + 6 ≤ _), (by decide : 12 + 12 ≤ _)⟩)
  dsimp only [Pt.U, Pt.locs, Pt.cells, Pt.slots] at X217 l217 y217 z217 st217 hQ217 hS217 hg217 hC217
  subst l217 y217 z217
  obtain ⟨u217, rfl, ru217, Nq217, Kq217⟩ := hQ217
  have N218 := Fr.app N211 Nq217
  have R220 := R213.trans hC217
  obtain ⟨XR221, hSR221, hZ221, hown221⟩ := rebS hSR214 (Nat.le_refl _) X217 hS217 hg217 hZ214 hown214
  refine ownSt st217 ?_
  show ownG p.tables e below _ (T217.setTop (mkF m 17 #[.val (.int p1), .val (.int p2), .val (.int p3), .val u209, .unset, .unset, .unset, .unset, .unset, .unset, .unset] [u217]))
  refine ownBy (A := T217.setTop (mkF m 19 #[.val (.int p1), .val (.int p2), .val (.int p3), .val u209, .val u217, .unset, .unset, .unset, .unset, .unset, .unset] [])) (fun t kt => ?_) ?_
  · show Steps p.tables e below (T217.setTop (mkF m 17 #[.val (.int p1), .val (.int p2), .val (.int p3), .val u209, .unset, .unset, .unset, .unset, .unset, .unset, .unset] [u217])) t
    refine XS.astore XR221.here hx rfl (hb hby at_17) rfl ru217 (l' := #[.val (.int p1), .val (.int p2), .val (.int p3), .val u209, .val u217, .unset, .unset, .unset, .unset, .unset, .unset]) (by rcases ref_cases ru217 with h | ⟨a, h⟩ <;> rw [h] <;> rfl) ?_
    exact kt
  obtain ⟨T222, h222, X222, e222, E222, A222, D222, -, st222⟩ := newO XR221 hx hZ221 hown221 (hw _ (List.mem_of_getElem? (i := 30) rfl)) (hw _ (List.mem_of_getElem? (i := 31) rfl)) (hw _ (List.mem_of_getElem? (i := 32) rfl)) rfl (g := (mkF m 19 #[.val (.int p1), .val (.int p2), .val (.int p3), .val u209, .val u217, .unset, .unset, .unset, .unset, .unset, .unset] [])) rfl (hb hby at_19) (by decide) (by decide)
  obtain ⟨b222, g222⟩ : ∃ z, z = T217.heap.size := ⟨_, rfl⟩
  rw [← g222] at A222 D222 st222
  have f224 := (Nat.le_trans f216 Kq217.1)
  have g223 : n0 ≤ b222 := Nat.le_trans f224 (Nat.le_of_eq g222.symm)
  have sf225 : Safe Z ownEL T217.vm T217.heap b222 := Safe.new (Nat.le_of_eq g222.symm)
  have f227 := (((Keep.refl h0 []).trans Kq209 all0).trans Kq217 all0)
  have z226 : h0.size ≤ b222 := Nat.le_trans f227.1 (Nat.le_of_eq g222.symm)
  have R228 := R220.trans (CHr.ext E222 R220.1)
  have sf229 := Safe.ext E222 R220.1 sf225
  have F230 : Fld Z h222 b222 "com/example/boring_outbox/boringoutbox/EndpointChange" "describes" "Z" (.int (0 : Int32)) := D222 (Or.inl (hw _ (List.mem_of_getElem? (i := 43) rfl))) (ty := .boolean) (by decide)
  have F231 : Fld Z h222 b222 "com/example/boring_outbox/boringoutbox/EndpointChange" "description" "Ljava/lang/String;" .null := D222 (Or.inl (hw _ (List.mem_of_getElem? (i := 50) rfl))) (ty := (.object "java/lang/String")) (by decide)
  have F232 : Fld Z h222 b222 "com/example/boring_outbox/boringoutbox/EndpointChange" "url" "Ljava/lang/String;" .null := D222 (Or.inl (hw _ (List.mem_of_getElem? (i := 62) rfl))) (ty := (.object "java/lang/String")) (by decide)
  refine ownBy st222 ?_
  show ownG p.tables e below _ (T222.setTop (mkF m 22 #[.val (.int p1), .val (.int p2), .val (.int p3), .val u209, .val u217, .unset, .unset, .unset, .unset, .unset, .unset] [(.ref b222)]))
  refine ownBy (A := T222.setTop (mkF m 23 #[.val (.int p1), .val (.int p2), .val (.int p3), .val u209, .val u217, .unset, .unset, .unset, .unset, .unset, .unset] [(.ref b222), (.ref b222)])) (fun t kt => ?_) ?_
  · show Steps p.tables e below (T222.setTop (mkF m 22 #[.val (.int p1), .val (.int p2), .val (.int p3), .val u209, .val u217, .unset, .unset, .unset, .unset, .unset, .unset] [(.ref b222)])) t
    refine XS.dup X222.here hx rfl (hb hby at_22) rfl rfl ?_
    exact kt
  have f233 := (Nat.le_trans f224 E222.1)
  obtain ⟨_, _, ⟨T234, L234, k234, n234⟩, -, X234, ⟨Lc234, hQ234, l234, y234, z234⟩, st234⟩ := X222.specialBack hx (y := (⟨"com/example/boring_outbox/boringoutbox/EndpointChange", "<init>", "()V"⟩ : MethodName)) rfl hown221 (mvT hZ221 (hw _ (List.mem_of_getElem? (i := 33) rfl))) (mvT hZ221 (hw _ (List.mem_of_getElem? (i := 34) rfl))) (mvT hZ221 (hw _ (List.mem_of_getElem? (i := 35) rfl))) (by decide) (backOf (W := 1) (c_ecini l Z a0 hw [] b222 h222 n0 f233 ) hZ221 (hw _ (List.mem_of_getElem? (i := 35) rfl)) (hw _ (List.mem_of_getElem? (i := 32) rfl)) (by decide) (by decide)) (g := (mkF m 23 #[.val (.int p1), .val (.int p2), .val (.int p3), .val u209, .val u217, .unset, .unset, .unset, .unset, .unset, .unset] [(.ref b222), (.ref b222)])) rfl (by rw [hml]; rfl) (Steps.refl _) (a := b222) (argsL := []) (rest := [(.ref b222)]) (lenOf pd_235 rfl) rfl (by show 2 * 0 + _ ≤ _; exact Nat.le_of_eq rfl) (hb hby at_23) (fun _ _ => ⟨rfl, e222, (by decide : 13 + 0 ≤ _), (by decide : 30 + 0 ≤ _)⟩)
  dsimp only [Pt.U, Pt.locs, Pt.cells, Pt.slots] at X234 l234 y234 z234 st234 hQ234
  subst l234 y234 z234
  obtain ⟨rfl, Nq234, Eq234⟩ := hQ234
  have N236 := Fr.app N218 Nq234
  refine ownSt st234 ?_
  show ownG p.tables e below _ (T234.setTop (mkF m 26 #[.val (.int p1), .val (.int p2), .val (.int p3), .val u209, .val u217, .unset, .unset, .unset, .unset, .unset, .unset] [(.ref b222)]))
  refine ownBy (A := T234.setTop (mkF m 30 #[.val (.int p1), .val (.int p2), .val (.int p3), .val u209, .val u217, .val (.ref b222), .unset, .unset, .unset, .unset, .unset] [(.ref b222)])) (fun t kt => ?_) ?_
  · show Steps p.tables e below (T234.setTop (mkF m 26 #[.val (.int p1), .val (.int p2), .val (.int p3), .val u209, .val u217, .unset, .unset, .unset, .unset, .unset, .unset] [(.ref b222)])) t
    refine XS.astore X234.here hx rfl (hb hby at_26) rfl rfl (l' := #[.val (.int p1), .val (.int p2), .val (.int p3), .val u209, .val u217, .val (.ref b222), .unset, .unset, .unset, .unset, .unset]) rfl ?_
    show Steps p.tables e below (T234.setTop (mkF m 28 #[.val (.int p1), .val (.int p2), .val (.int p3), .val u209, .val u217, .val (.ref b222), .unset, .unset, .unset, .unset, .unset] [])) t
    refine XS.aload X234.here hx rfl (hb hby at_28) rfl rfl ?_
    exact kt
  obtain ⟨cq237, kq237, q237a, q237b, q237c⟩ := isOf hZ221 Eq234 A222
  obtain ⟨_, _, ⟨T237, L237, k237, n237⟩, -, X237, ⟨Lc237, hQ237, l237, y237, z237⟩, st237⟩ := X234.virtualBack hx (y := (⟨"com/example/boring_outbox/boringoutbox/EndpointChange", "describes", "()Z"⟩ : MethodName)) (z := (⟨"com/example/boring_outbox/boringoutbox/EndpointChange", "describes", "()Z"⟩ : MethodName)) hown221 (mvT hZ221 (hw _ (List.mem_of_getElem? (i := 37) rfl))) (mvT hZ221 (hw _ (List.mem_of_getElem? (i := 38) rfl))) (notFace_of_selects (args := #[]) (mvT hZ221 (hw _ (List.mem_of_getElem? (i := 40) rfl)))) (mvT hZ221 (hw _ (List.mem_of_getElem? (i := 40) rfl))) (mvT hZ221 (hw _ (List.mem_of_getElem? (i := 39) rfl))) (by decide) (backOf (W := 0) (c_gdes l Z a0 hw [] b222 (0 : Int32) h222 n0 f233 F230) hZ221 (hw _ (List.mem_of_getElem? (i := 41) rfl)) (hw _ (List.mem_of_getElem? (i := 32) rfl)) (by decide) (by decide)) q237a q237c (g := (mkF m 30 #[.val (.int p1), .val (.int p2), .val (.int p3), .val u209, .val u217, .val (.ref b222), .unset, .unset, .unset, .unset, .unset] [(.ref b222)])) rfl (by rw [hml]; rfl) (Steps.refl _) (argsL := []) (rest := []) (lenOf pd_238 rfl) rfl (by show 2 * 0 + _ ≤ _; exact Nat.le_of_eq rfl) (hb hby at_30) (fun _ _ => ⟨rfl, Eq234, (by decide : 13 + 0 ≤ _), (by decide : 30 + 0 ≤ _)⟩)
  dsimp only [Pt.U, Pt.locs, Pt.cells, Pt.slots] at X237 l237 y237 z237 st237 hQ237
  subst l237 y237 z237
  obtain ⟨rfl, Nq237, Eq237⟩ := hQ237
  have N239 := Fr.app N236 Nq237
  refine ownSt st237 ?_
  show ownG p.tables e below _ (T237.setTop (mkF m 33 #[.val (.int p1), .val (.int p2), .val (.int p3), .val u209, .val u217, .val (.ref b222), .unset, .unset, .unset, .unset, .unset] [(.int (0 : Int32))]))
  refine ownBy (A := T237.setTop (mkF m 38 #[.val (.int p1), .val (.int p2), .val (.int p3), .val u209, .val u217, .val (.ref b222), .unset, .unset, .unset, .unset, .unset] [(.ref b222)])) (fun t kt => ?_) ?_
  · show Steps p.tables e below (T237.setTop (mkF m 33 #[.val (.int p1), .val (.int p2), .val (.int p3), .val u209, .val u217, .val (.ref b222), .unset, .unset, .unset, .unset, .unset] [(.int (0 : Int32))])) t
    refine XS.ifNo X237.here hx rfl (hb hby at_33) rfl ((if0 _ _).trans (teq ((by decide) : (0 : Int32) = (0 : Int32))).2) ?_
    show Steps p.tables e below (T237.setTop (mkF m 36 #[.val (.int p1), .val (.int p2), .val (.int p3), .val u209, .val u217, .val (.ref b222), .unset, .unset, .unset, .unset, .unset] [])) t
    refine XS.aload X237.here hx rfl (hb hby at_36) rfl rfl ?_
    exact kt
  obtain ⟨cq240, kq240, q240a, q240b, q240c⟩ := isOf hZ221 Eq237 A222
  obtain ⟨_, _, ⟨T240, L240, k240, n240⟩, -, X240, ⟨Lc240, hQ240, l240, y240, z240⟩, st240⟩ := X237.virtualBack hx (y := (⟨"com/example/boring_outbox/boringoutbox/EndpointChange", "description", "()Ljava/lang/String;"⟩ : MethodName)) (z := (⟨"com/example/boring_outbox/boringoutbox/EndpointChange", "description", "()Ljava/lang/String;"⟩ : MethodName)) hown221 (mvT hZ221 (hw _ (List.mem_of_getElem? (i := 44) rfl))) (mvT hZ221 (hw _ (List.mem_of_getElem? (i := 45) rfl))) (notFace_of_selects (args := #[]) (mvT hZ221 (hw _ (List.mem_of_getElem? (i := 47) rfl)))) (mvT hZ221 (hw _ (List.mem_of_getElem? (i := 47) rfl))) (mvT hZ221 (hw _ (List.mem_of_getElem? (i := 46) rfl))) (by decide) (backOf (W := 0) (c_gdsc l Z a0 hw [] b222 .null h222 n0 f233 F231 rfl) hZ221 (hw _ (List.mem_of_getElem? (i := 48) rfl)) (hw _ (List.mem_of_getElem? (i := 32) rfl)) (by decide) (by decide)) q240a q240c (g := (mkF m 38 #[.val (.int p1), .val (.int p2), .val (.int p3), .val u209, .val u217, .val (.ref b222), .unset, .unset, .unset, .unset, .unset] [(.ref b222)])) rfl (by rw [hml]; rfl) (Steps.refl _) (argsL := []) (rest := []) (lenOf pd_241 rfl) rfl (by show 2 * 0 + _ ≤ _; exact Nat.le_of_eq rfl) (hb hby at_38) (fun _ _ => ⟨rfl, Eq237, (by decide : 13 + 0 ≤ _), (by decide : 30 + 0 ≤ _)⟩)
  dsimp only [Pt.U, Pt.locs, Pt.cells, Pt.slots] at X240 l240 y240 z240 st240 hQ240
  subst l240 y240 z240
  obtain ⟨rfl, Nq240, Eq240⟩ := hQ240
  have N242 := Fr.app N239 Nq240
  refine ownSt st240 ?_
  show ownG p.tables e below _ (T240.setTop (mkF m 41 #[.val (.int p1), .val (.int p2), .val (.int p3), .val u209, .val u217, .val (.ref b222), .unset, .unset, .unset, .unset, .unset] [.null]))
  refine ownBy (A := T240.setTop (mkF m 54 #[.val (.int p1), .val (.int p2), .val (.int p3), .val u209, .val u217, .val (.ref b222), .val (.int (1 : Int32)), .unset, .unset, .unset, .unset] [u209, (.ref b222)])) (fun t kt => ?_) ?_
  · show Steps p.tables e below (T240.setTop (mkF m 41 #[.val (.int p1), .val (.int p2), .val (.int p3), .val u209, .val u217, .val (.ref b222), .unset, .unset, .unset, .unset, .unset] [.null])) t
    refine XS.ifnonnullNo X240.here hx rfl (hb hby at_41) rfl ?_
    show Steps p.tables e below (T240.setTop (mkF m 44 #[.val (.int p1), .val (.int p2), .val (.int p3), .val u209, .val u217, .val (.ref b222), .unset, .unset, .unset, .unset, .unset] [])) t
    refine XS.iconst X240.here hx rfl (hb hby at_44) ?_
    show Steps p.tables e below (T240.setTop (mkF m 45 #[.val (.int p1), .val (.int p2), .val (.int p3), .val u209, .val u217, .val (.ref b222), .unset, .unset, .unset, .unset, .unset] [(.int (1 : Int32))])) t
    refine XS.goto X240.here hx rfl (pc0 := 45) (pc' := 49) rfl (hb hby at_45) (by decide) (by decide) ?_
    show Steps p.tables e below (T240.setTop (mkF m 49 #[.val (.int p1), .val (.int p2), .val (.int p3), .val u209, .val u217, .val (.ref b222), .unset, .unset, .unset, .unset, .unset] [(.int (1 : Int32))])) t
    refine XS.istore X240.here hx rfl (hb hby at_49) rfl (l' := #[.val (.int p1), .val (.int p2), .val (.int p3), .val u209, .val u217, .val (.ref b222), .val (.int (1 : Int32)), .unset, .unset, .unset, .unset]) rfl ?_
    show Steps p.tables e below (T240.setTop (mkF m 51 #[.val (.int p1), .val (.int p2), .val (.int p3), .val u209, .val u217, .val (.ref b222), .val (.int (1 : Int32)), .unset, .unset, .unset, .unset] [])) t
    refine XS.aload X240.here hx rfl (hb hby at_51) rfl rfl ?_
    show Steps p.tables e below (T240.setTop (mkF m 53 #[.val (.int p1), .val (.int p2), .val (.int p3), .val u209, .val u217, .val (.ref b222), .val (.int (1 : Int32)), .unset, .unset, .unset, .unset] [(.ref b222)])) t
    refine XS.aloadN X240.here hx rfl (hb hby at_53) rfl ru209 ?_
    exact kt
  obtain ⟨cq243, kq243, q243a, q243b, q243c⟩ := isOf hZ221 Eq240 A222
  obtain ⟨_, _, ⟨T243, L243, k243, n243⟩, -, X243, ⟨Lc243, hQ243, l243, y243, z243⟩, st243⟩ := X240.virtualBack hx (y := (⟨"com/example/boring_outbox/boringoutbox/EndpointChange", "description", "(Ljava/lang/String;)Lcom/example/boring_outbox/boringoutbox/EndpointChange;"⟩ : MethodName)) (z := (⟨"com/example/boring_outbox/boringoutbox/EndpointChange", "description", "(Ljava/lang/String;)Lcom/example/boring_outbox/boringoutbox/EndpointChange;"⟩ : MethodName)) hown221 (mvT hZ221 (hw _ (List.mem_of_getElem? (i := 51) rfl))) (mvT hZ221 (hw _ (List.mem_of_getElem? (i := 52) rfl))) (notFace_of_selects (args := #[]) (mvT hZ221 (hw _ (List.mem_of_getElem? (i := 54) rfl)))) (mvT hZ221 (hw _ (List.mem_of_getElem? (i := 54) rfl))) (mvT hZ221 (hw _ (List.mem_of_getElem? (i := 53) rfl))) (by decide) (backOf (W := 0) (c_sdsc l Z a0 hw [] b222 u209 _ _ _ h222 n0 f233 A222 F231 F230 F232 g223 ru209) hZ221 (hw _ (List.mem_of_getElem? (i := 55) rfl)) (hw _ (List.mem_of_getElem? (i := 32) rfl)) (by decide) (by decide)) q243a q243c (g := (mkF m 54 #[.val (.int p1), .val (.int p2), .val (.int p3), .val u209, .val u217, .val (.ref b222), .val (.int (1 : Int32)), .unset, .unset, .unset, .unset] [u209, (.ref b222)])) rfl (by rw [hml]; rfl) (Steps.refl _) (argsL := [u209]) (rest := []) (lenOf pd_244 rfl) rfl (by show 2 * 0 + _ ≤ _; exact Nat.le_of_eq rfl) (hb hby at_54) (fun _ _ => ⟨rfl, Eq240, (by decide : 13 + 0 ≤ _), (by decide : 30 + 0 ≤ _)⟩)
  dsimp only [Pt.U, Pt.locs, Pt.cells, Pt.slots] at X243 l243 y243 z243 st243 hQ243
  subst l243 y243 z243
  obtain ⟨rfl, Nq243, Kq243, Fa243, Fb243, Fc243⟩ := hQ243
  have N245 := Fr.app N242 Nq243
  have R246 := R228.trans (CHr.keep Kq243 (sfS sf229 sf0) R228.1)
  have sf247 := Safe.keep Kq243 (sfS sf229 sf0) R228.1 sf229
  refine ownSt st243 ?_
  show ownG p.tables e below _ (T243.setTop (mkF m 57 #[.val (.int p1), .val (.int p2), .val (.int p3), .val u209, .val u217, .val (.ref b222), .val (.int (1 : Int32)), .unset, .unset, .unset, .unset] [(.ref b222)]))
  refine ownBy (A := T243.setTop (mkF m 68 #[.val (.int p1), .val (.int p2), .val (.int p3), .val u209, .val u217, .val (.ref b222), .val (.int (1 : Int32)), .val (.ref b222), .unset, .unset, .unset] [(.ref b222)])) (fun t kt => ?_) ?_
  · show Steps p.tables e below (T243.setTop (mkF m 57 #[.val (.int p1), .val (.int p2), .val (.int p3), .val u209, .val u217, .val (.ref b222), .val (.int (1 : Int32)), .unset, .unset, .unset, .unset] [(.ref b222)])) t
    refine XS.astore X243.here hx rfl (hb hby at_57) rfl rfl (l' := #[.val (.int p1), .val (.int p2), .val (.int p3), .val u209, .val u217, .val (.ref b222), .val (.int (1 : Int32)), .val (.ref b222), .unset, .unset, .unset]) rfl ?_
    show Steps p.tables e below (T243.setTop (mkF m 59 #[.val (.int p1), .val (.int p2), .val (.int p3), .val u209, .val u217, .val (.ref b222), .val (.int (1 : Int32)), .val (.ref b222), .unset, .unset, .unset] [])) t
    refine XS.aload X243.here hx rfl (hb hby at_59) rfl rfl ?_
    show Steps p.tables e below (T243.setTop (mkF m 61 #[.val (.int p1), .val (.int p2), .val (.int p3), .val u209, .val u217, .val (.ref b222), .val (.int (1 : Int32)), .val (.ref b222), .unset, .unset, .unset] [(.ref b222)])) t
    refine XS.aload X243.here hx rfl (hb hby at_61) rfl rfl ?_
    show Steps p.tables e below (T243.setTop (mkF m 63 #[.val (.int p1), .val (.int p2), .val (.int p3), .val u209, .val u217, .val (.ref b222), .val (.int (1 : Int32)), .val (.ref b222), .unset, .unset, .unset] [(.ref b222), (.ref b222)])) t
    refine Jvm.RoadKit.acmp (g := (mkF m 63 #[.val (.int p1), .val (.int p2), .val (.int p3), .val u209, .val u217, .val (.ref b222), .val (.int (1 : Int32)), .val (.ref b222), .unset, .unset, .unset] [(.ref b222), (.ref b222)])) X243 hx rfl rfl rfl (pc0 := 63) (pc' := 66) (same := true) rfl (hb hby at_63) rfl (decide_eq_true rfl) (by decide) (by decide) ?_
    show Steps p.tables e below (T243.setTop (mkF m 66 #[.val (.int p1), .val (.int p2), .val (.int p3), .val u209, .val u217, .val (.ref b222), .val (.int (1 : Int32)), .val (.ref b222), .unset, .unset, .unset] [])) t
    refine XS.aload X243.here hx rfl (hb hby at_66) rfl rfl ?_
    exact kt
  have f248 := (Nat.le_trans f233 Kq243.1)
  have f250 := (A222.keep Kq243)
  obtain ⟨cq249, kq249, q249a, q249b, q249c⟩ := isOf hZ221 rfl f250
  obtain ⟨_, _, ⟨T249, L249, k249, n249⟩, -, X249, ⟨Lc249, hQ249, l249, y249, z249⟩, st249⟩ := X243.virtualBack hx (y := (⟨"com/example/boring_outbox/boringoutbox/EndpointChange", "describes", "()Z"⟩ : MethodName)) (z := (⟨"com/example/boring_outbox/boringoutbox/EndpointChange", "describes", "()Z"⟩ : MethodName)) hown221 (mvT hZ221 (hw _ (List.mem_of_getElem? (i := 37) rfl))) (mvT hZ221 (hw _ (List.mem_of_getElem? (i := 38) rfl))) (notFace_of_selects (args := #[]) (mvT hZ221 (hw _ (List.mem_of_getElem? (i := 40) rfl)))) (mvT hZ221 (hw _ (List.mem_of_getElem? (i := 40) rfl))) (mvT hZ221 (hw _ (List.mem_of_getElem? (i := 39) rfl))) (by decide) (backOf (W := 0) (c_gdes l Z a0 hw [] b222 (1 : Int32) T243.heap n0 f248 Fb243) hZ221 (hw _ (List.mem_of_getElem? (i := 41) rfl)) (hw _ (List.mem_of_getElem? (i := 32) rfl)) (by decide) (by decide)) q249a q249c (g := (mkF m 68 #[.val (.int p1), .val (.int p2), .val (.int p3), .val u209, .val u217, .val (.ref b222), .val (.int (1 : Int32)), .val (.ref b222), .unset, .unset, .unset] [(.ref b222)])) rfl (by rw [hml]; rfl) (Steps.refl _) (argsL := []) (rest := []) (lenOf pd_238 rfl) rfl (by show 2 * 0 + _ ≤ _; exact Nat.le_of_eq rfl) (hb hby at_68) (fun _ _ => ⟨rfl, rfl, (by decide : 13 + 0 ≤ _), (by decide : 30 + 0 ≤ _)⟩)
  dsimp only [Pt.U, Pt.locs, Pt.cells, Pt.slots] at X249 l249 y249 z249 st249 hQ249
  subst l249 y249 z249
  obtain ⟨rfl, Nq249, Eq249⟩ := hQ249
  have N251 := Fr.app N245 Nq249
  refine ownSt st249 ?_
  show ownG p.tables e below _ (T249.setTop (mkF m 71 #[.val (.int p1), .val (.int p2), .val (.int p3), .val u209, .val u217, .val (.ref b222), .val (.int (1 : Int32)), .val (.ref b222), .unset, .unset, .unset] [(.int (1 : Int32))]))
  refine ownBy (A := T249.setTop (mkF m 76 #[.val (.int p1), .val (.int p2), .val (.int p3), .val u209, .val u217, .val (.ref b222), .val (.int (1 : Int32)), .val (.ref b222), .unset, .unset, .unset] [(.ref b222)])) (fun t kt => ?_) ?_
  · show Steps p.tables e below (T249.setTop (mkF m 71 #[.val (.int p1), .val (.int p2), .val (.int p3), .val u209, .val u217, .val (.ref b222), .val (.int (1 : Int32)), .val (.ref b222), .unset, .unset, .unset] [(.int (1 : Int32))])) t
    refine XS.ifNo X249.here hx rfl (hb hby at_71) rfl ((if0 _ _).trans (feq ((by decide) : ¬ ((1 : Int32) = (0 : Int32)))).1) ?_
    show Steps p.tables e below (T249.setTop (mkF m 74 #[.val (.int p1), .val (.int p2), .val (.int p3), .val u209, .val u217, .val (.ref b222), .val (.int (1 : Int32)), .val (.ref b222), .unset, .unset, .unset] [])) t
    refine XS.aload X249.here hx rfl (hb hby at_74) rfl rfl ?_
    exact kt
  obtain ⟨cq252, kq252, q252a, q252b, q252c⟩ := isOf hZ221 Eq249 f250
  obtain ⟨_, _, ⟨T252, L252, k252, n252⟩, -, X252, ⟨Lc252, hQ252, l252, y252, z252⟩, st252⟩ := X249.virtualBack hx (y := (⟨"com/example/boring_outbox/boringoutbox/EndpointChange", "description", "()Ljava/lang/String;"⟩ : MethodName)) (z := (⟨"com/example/boring_outbox/boringoutbox/EndpointChange", "description", "()Ljava/lang/String;"⟩ : MethodName)) hown221 (mvT hZ221 (hw _ (List.mem_of_getElem? (i := 44) rfl))) (mvT hZ221 (hw _ (List.mem_of_getElem? (i := 45) rfl))) (notFace_of_selects (args := #[]) (mvT hZ221 (hw _ (List.mem_of_getElem? (i := 47) rfl)))) (mvT hZ221 (hw _ (List.mem_of_getElem? (i := 47) rfl))) (mvT hZ221 (hw _ (List.mem_of_getElem? (i := 46) rfl))) (by decide) (backOf (W := 0) (c_gdsc l Z a0 hw [] b222 u209 T243.heap n0 f248 Fa243 ru209) hZ221 (hw _ (List.mem_of_getElem? (i := 48) rfl)) (hw _ (List.mem_of_getElem? (i := 32) rfl)) (by decide) (by decide)) q252a q252c (g := (mkF m 76 #[.val (.int p1), .val (.int p2), .val (.int p3), .val u209, .val u217, .val (.ref b222), .val (.int (1 : Int32)), .val (.ref b222), .unset, .unset, .unset] [(.ref b222)])) rfl (by rw [hml]; rfl) (Steps.refl _) (argsL := []) (rest := []) (lenOf pd_241 rfl) rfl (by show 2 * 0 + _ ≤ _; exact Nat.le_of_eq rfl) (hb hby at_76) (fun _ _ => ⟨rfl, Eq249, (by decide : 13 + 0 ≤ _), (by decide : 30 + 0 ≤ _)⟩)
  dsimp only [Pt.U, Pt.locs, Pt.cells, Pt.slots] at X252 l252 y252 z252 st252 hQ252
  subst l252 y252 z252
  obtain ⟨rfl, Nq252, Eq252⟩ := hQ252
  have N253 := Fr.app N251 Nq252
  refine ownSt st252 ?_
  show ownG p.tables e below _ (T252.setTop (mkF m 79 #[.val (.int p1), .val (.int p2), .val (.int p3), .val u209, .val u217, .val (.ref b222), .val (.int (1 : Int32)), .val (.ref b222), .unset, .unset, .unset] [u209]))
  refine ownBy (A := T252.setTop (mkF m 85 #[.val (.int p1), .val (.int p2), .val (.int p3), .val u209, .val u217, .val (.ref b222), .val (.int (1 : Int32)), .val (.ref b222), .unset, .unset, .unset] [(.ref b222)])) (fun t kt => ?_) ?_
  · show Steps p.tables e below (T252.setTop (mkF m 79 #[.val (.int p1), .val (.int p2), .val (.int p3), .val u209, .val u217, .val (.ref b222), .val (.int (1 : Int32)), .val (.ref b222), .unset, .unset, .unset] [u209])) t
    refine XS.aloadN X252.here hx rfl (hb hby at_79) rfl ru209 ?_
    show Steps p.tables e below (T252.setTop (mkF m 80 #[.val (.int p1), .val (.int p2), .val (.int p3), .val u209, .val u217, .val (.ref b222), .val (.int (1 : Int32)), .val (.ref b222), .unset, .unset, .unset] [u209, u209])) t
    refine Jvm.RoadKit.acmp (g := (mkF m 80 #[.val (.int p1), .val (.int p2), .val (.int p3), .val u209, .val u217, .val (.ref b222), .val (.int (1 : Int32)), .val (.ref b222), .unset, .unset, .unset] [u209, u209])) X252 hx rfl ru209 ru209 (pc0 := 80) (pc' := 83) (same := true) rfl (hb hby at_80) rfl (decide_eq_true rfl) (by decide) (by decide) ?_
    show Steps p.tables e below (T252.setTop (mkF m 83 #[.val (.int p1), .val (.int p2), .val (.int p3), .val u209, .val u217, .val (.ref b222), .val (.int (1 : Int32)), .val (.ref b222), .unset, .unset, .unset] [])) t
    refine XS.aload X252.here hx rfl (hb hby at_83) rfl rfl ?_
    exact kt
  obtain ⟨cq254, kq254, q254a, q254b, q254c⟩ := isOf hZ221 Eq252 f250
  obtain ⟨_, _, ⟨T254, L254, k254, n254⟩, -, X254, ⟨Lc254, hQ254, l254, y254, z254⟩, st254⟩ := X252.virtualBack hx (y := (⟨"com/example/boring_outbox/boringoutbox/EndpointChange", "url", "()Ljava/lang/String;"⟩ : MethodName)) (z := (⟨"com/example/boring_outbox/boringoutbox/EndpointChange", "url", "()Ljava/lang/String;"⟩ : MethodName)) hown221 (mvT hZ221 (hw _ (List.mem_of_getElem? (i := 56) rfl))) (mvT hZ221 (hw _ (List.mem_of_getElem? (i := 57) rfl))) (notFace_of_selects (args := #[]) (mvT hZ221 (hw _ (List.mem_of_getElem? (i := 59) rfl)))) (mvT hZ221 (hw _ (List.mem_of_getElem? (i := 59) rfl))) (mvT hZ221 (hw _ (List.mem_of_getElem? (i := 58) rfl))) (by decide) (backOf (W := 0) (c_gurl l Z a0 hw [] b222 .null T243.heap n0 f248 Fc243 rfl) hZ221 (hw _ (List.mem_of_getElem? (i := 60) rfl)) (hw _ (List.mem_of_getElem? (i := 32) rfl)) (by decide) (by decide)) q254a q254c (g := (mkF m 85 #[.val (.int p1), .val (.int p2), .val (.int p3), .val u209, .val u217, .val (.ref b222), .val (.int (1 : Int32)), .val (.ref b222), .unset, .unset, .unset] [(.ref b222)])) rfl (by rw [hml]; rfl) (Steps.refl _) (argsL := []) (rest := []) (lenOf pd_241 rfl) rfl (by show 2 * 0 + _ ≤ _; exact Nat.le_of_eq rfl) (hb hby at_85) (fun _ _ => ⟨rfl, Eq252, (by decide : 13 + 0 ≤ _), (by decide : 30 + 0 ≤ _)⟩)
  dsimp only [Pt.U, Pt.locs, Pt.cells, Pt.slots] at X254 l254 y254 z254 st254 hQ254
  subst l254 y254 z254
  obtain ⟨rfl, Nq254, Eq254⟩ := hQ254
  have N255 := Fr.app N253 Nq254
  refine ownSt st254 ?_
  show ownG p.tables e below _ (T254.setTop (mkF m 88 #[.val (.int p1), .val (.int p2), .val (.int p3), .val u209, .val u217, .val (.ref b222), .val (.int (1 : Int32)), .val (.ref b222), .unset, .unset, .unset] [.null]))
  refine ownBy (A := T254.setTop (mkF m 102 #[.val (.int p1), .val (.int p2), .val (.int p3), .val u209, .val u217, .val (.ref b222), .val (.int (1 : Int32)), .val (.ref b222), .val (.int (1 : Int32)), .unset, .unset] [u217, (.ref b222)])) (fun t kt => ?_) ?_
  · show Steps p.tables e below (T254.setTop (mkF m 88 #[.val (.int p1), .val (.int p2), .val (.int p3), .val u209, .val u217, .val (.ref b222), .val (.int (1 : Int32)), .val (.ref b222), .unset, .unset, .unset] [.null])) t
    refine XS.ifnonnullNo X254.here hx rfl (hb hby at_88) rfl ?_
    show Steps p.tables e below (T254.setTop (mkF m 91 #[.val (.int p1), .val (.int p2), .val (.int p3), .val u209, .val u217, .val (.ref b222), .val (.int (1 : Int32)), .val (.ref b222), .unset, .unset, .unset] [])) t
    refine XS.iconst X254.here hx rfl (hb hby at_91) ?_
    show Steps p.tables e below (T254.setTop (mkF m 92 #[.val (.int p1), .val (.int p2), .val (.int p3), .val u209, .val u217, .val (.ref b222), .val (.int (1 : Int32)), .val (.ref b222), .unset, .unset, .unset] [(.int (1 : Int32))])) t
    refine XS.goto X254.here hx rfl (pc0 := 92) (pc' := 96) rfl (hb hby at_92) (by decide) (by decide) ?_
    show Steps p.tables e below (T254.setTop (mkF m 96 #[.val (.int p1), .val (.int p2), .val (.int p3), .val u209, .val u217, .val (.ref b222), .val (.int (1 : Int32)), .val (.ref b222), .unset, .unset, .unset] [(.int (1 : Int32))])) t
    refine XS.istore X254.here hx rfl (hb hby at_96) rfl (l' := #[.val (.int p1), .val (.int p2), .val (.int p3), .val u209, .val u217, .val (.ref b222), .val (.int (1 : Int32)), .val (.ref b222), .val (.int (1 : Int32)), .unset, .unset]) rfl ?_
    show Steps p.tables e below (T254.setTop (mkF m 98 #[.val (.int p1), .val (.int p2), .val (.int p3), .val u209, .val u217, .val (.ref b222), .val (.int (1 : Int32)), .val (.ref b222), .val (.int (1 : Int32)), .unset, .unset] [])) t
    refine XS.aload X254.here hx rfl (hb hby at_98) rfl rfl ?_
    show Steps p.tables e below (T254.setTop (mkF m 100 #[.val (.int p1), .val (.int p2), .val (.int p3), .val u209, .val u217, .val (.ref b222), .val (.int (1 : Int32)), .val (.ref b222), .val (.int (1 : Int32)), .unset, .unset] [(.ref b222)])) t
    refine XS.aload X254.here hx rfl (hb hby at_100) rfl ru217 ?_
    exact kt
  obtain ⟨cq256, kq256, q256a, q256b, q256c⟩ := isOf hZ221 Eq254 f250
  obtain ⟨_, _, ⟨T256, L256, k256, n256⟩, -, X256, ⟨Lc256, hQ256, l256, y256, z256⟩, st256⟩ := X254.virtualBack hx (y := (⟨"com/example/boring_outbox/boringoutbox/EndpointChange", "description", "(Ljava/lang/String;)Lcom/example/boring_outbox/boringoutbox/EndpointChange;"⟩ : MethodName)) (z := (⟨"com/example/boring_outbox/boringoutbox/EndpointChange", "description", "(Ljava/lang/String;)Lcom/example/boring_outbox/boringoutbox/EndpointChange;"⟩ : MethodName)) hown221 (mvT hZ221 (hw _ (List.mem_of_getElem? (i := 51) rfl))) (mvT hZ221 (hw _ (List.mem_of_getElem? (i := 52) rfl))) (notFace_of_selects (args := #[]) (mvT hZ221 (hw _ (List.mem_of_getElem? (i := 54) rfl)))) (mvT hZ221 (hw _ (List.mem_of_getElem? (i := 54) rfl))) (mvT hZ221 (hw _ (List.mem_of_getElem? (i := 53) rfl))) (by decide) (backOf (W := 0) (c_sdsc l Z a0 hw [] b222 u217 _ _ _ T243.heap n0 f248 f250 Fa243 Fb243 Fc243 g223 ru217) hZ221 (hw _ (List.mem_of_getElem? (i := 55) rfl)) (hw _ (List.mem_of_getElem? (i := 32) rfl)) (by decide) (by decide)) q256a q256c (g := (mkF m 102 #[.val (.int p1), .val (.int p2), .val (.int p3), .val u209, .val u217, .val (.ref b222), .val (.int (1 : Int32)), .val (.ref b222), .val (.int (1 : Int32)), .unset, .unset] [u217, (.ref b222)])) rfl (by rw [hml]; rfl) (Steps.refl _) (argsL := [u217]) (rest := []) (lenOf pd_244 rfl) rfl (by show 2 * 0 + _ ≤ _; exact Nat.le_of_eq rfl) (hb hby at_102) (fun _ _ => ⟨rfl, Eq254, (by decide : 13 + 0 ≤ _), (by decide : 30 + 0 ≤ _)⟩)
  dsimp only [Pt.U, Pt.locs, Pt.cells, Pt.slots] at X256 l256 y256 z256 st256 hQ256
  subst l256 y256 z256
  obtain ⟨rfl, Nq256, Kq256, Fa256, Fb256, Fc256⟩ := hQ256
  have N257 := Fr.app N255 Nq256
  have R258 := R246.trans (CHr.keep Kq256 (sfS sf247 sf0) R246.1)
  have sf259 := Safe.keep Kq256 (sfS sf247 sf0) R246.1 sf247
  refine ownSt st256 ?_
  show ownG p.tables e below _ (T256.setTop (mkF m 105 #[.val (.int p1), .val (.int p2), .val (.int p3), .val u209, .val u217, .val (.ref b222), .val (.int (1 : Int32)), .val (.ref b222), .val (.int (1 : Int32)), .unset, .unset] [(.ref b222)]))
  refine ownBy (A := T256.setTop (mkF m 116 #[.val (.int p1), .val (.int p2), .val (.int p3), .val u209, .val u217, .val (.ref b222), .val (.int (1 : Int32)), .val (.ref b222), .val (.int (1 : Int32)), .val (.ref b222), .unset] [(.ref b222)])) (fun t kt => ?_) ?_
  · show Steps p.tables e below (T256.setTop (mkF m 105 #[.val (.int p1), .val (.int p2), .val (.int p3), .val u209, .val u217, .val (.ref b222), .val (.int (1 : Int32)), .val (.ref b222), .val (.int (1 : Int32)), .unset, .unset] [(.ref b222)])) t
    refine XS.astore X256.here hx rfl (hb hby at_105) rfl rfl (l' := #[.val (.int p1), .val (.int p2), .val (.int p3), .val u209, .val u217, .val (.ref b222), .val (.int (1 : Int32)), .val (.ref b222), .val (.int (1 : Int32)), .val (.ref b222), .unset]) rfl ?_
    show Steps p.tables e below (T256.setTop (mkF m 107 #[.val (.int p1), .val (.int p2), .val (.int p3), .val u209, .val u217, .val (.ref b222), .val (.int (1 : Int32)), .val (.ref b222), .val (.int (1 : Int32)), .val (.ref b222), .unset] [])) t
    refine XS.aload X256.here hx rfl (hb hby at_107) rfl rfl ?_
    show Steps p.tables e below (T256.setTop (mkF m 109 #[.val (.int p1), .val (.int p2), .val (.int p3), .val u209, .val u217, .val (.ref b222), .val (.int (1 : Int32)), .val (.ref b222), .val (.int (1 : Int32)), .val (.ref b222), .unset] [(.ref b222)])) t
    refine XS.aload X256.here hx rfl (hb hby at_109) rfl rfl ?_
    show Steps p.tables e below (T256.setTop (mkF m 111 #[.val (.int p1), .val (.int p2), .val (.int p3), .val u209, .val u217, .val (.ref b222), .val (.int (1 : Int32)), .val (.ref b222), .val (.int (1 : Int32)), .val (.ref b222), .unset] [(.ref b222), (.ref b222)])) t
    refine Jvm.RoadKit.acmp (g := (mkF m 111 #[.val (.int p1), .val (.int p2), .val (.int p3), .val u209, .val u217, .val (.ref b222), .val (.int (1 : Int32)), .val (.ref b222), .val (.int (1 : Int32)), .val (.ref b222), .unset] [(.ref b222), (.ref b222)])) X256 hx rfl rfl rfl (pc0 := 111) (pc' := 114) (same := true) rfl (hb hby at_111) rfl (decide_eq_true rfl) (by decide) (by decide) ?_
    show Steps p.tables e below (T256.setTop (mkF m 114 #[.val (.int p1), .val (.int p2), .val (.int p3), .val u209, .val u217, .val (.ref b222), .val (.int (1 : Int32)), .val (.ref b222), .val (.int (1 : Int32)), .val (.ref b222), .unset] [])) t
    refine XS.aload X256.here hx rfl (hb hby at_114) rfl rfl ?_
    exact kt
  have f260 := (Nat.le_trans f248 Kq256.1)
  have f262 := (f250.keep Kq256)
  obtain ⟨cq261, kq261, q261a, q261b, q261c⟩ := isOf hZ221 rfl f262
  obtain ⟨_, _, ⟨T261, L261, k261, n261⟩, -, X261, ⟨Lc261, hQ261, l261, y261, z261⟩, st261⟩ := X256.virtualBack hx (y := (⟨"com/example/boring_outbox/boringoutbox/EndpointChange", "describes", "()Z"⟩ : MethodName)) (z := (⟨"com/example/boring_outbox/boringoutbox/EndpointChange", "describes", "()Z"⟩ : MethodName)) hown221 (mvT hZ221 (hw _ (List.mem_of_getElem? (i := 37) rfl))) (mvT hZ221 (hw _ (List.mem_of_getElem? (i := 38) rfl))) (notFace_of_selects (args := #[]) (mvT hZ221 (hw _ (List.mem_of_getElem? (i := 40) rfl)))) (mvT hZ221 (hw _ (List.mem_of_getElem? (i := 40) rfl))) (mvT hZ221 (hw _ (List.mem_of_getElem? (i := 39) rfl))) (by decide) (backOf (W := 0) (c_gdes l Z a0 hw [] b222 (1 : Int32) T256.heap n0 f260 Fb256) hZ221 (hw _ (List.mem_of_getElem? (i := 41) rfl)) (hw _ (List.mem_of_getElem? (i := 32) rfl)) (by decide) (by decide)) q261a q261c (g := (mkF m 116 #[.val (.int p1), .val (.int p2), .val (.int p3), .val u209, .val u217, .val (.ref b222), .val (.int (1 : Int32)), .val (.ref b222), .val (.int (1 : Int32)), .val (.ref b222), .unset] [(.ref b222)])) rfl (by rw [hml]; rfl) (Steps.refl _) (argsL := []) (rest := []) (lenOf pd_238 rfl) rfl (by show 2 * 0 + _ ≤ _; exact Nat.le_of_eq rfl) (hb hby at_116) (fun _ _ => ⟨rfl, rfl, (by decide : 13 + 0 ≤ _), (by decide : 30 + 0 ≤ _)⟩)
  dsimp only [Pt.U, Pt.locs, Pt.cells, Pt.slots] at X261 l261 y261 z261 st261 hQ261
  subst l261 y261 z261
  obtain ⟨rfl, Nq261, Eq261⟩ := hQ261
  have N263 := Fr.app N257 Nq261
  refine ownSt st261 ?_
  show ownG p.tables e below _ (T261.setTop (mkF m 119 #[.val (.int p1), .val (.int p2), .val (.int p3), .val u209, .val u217, .val (.ref b222), .val (.int (1 : Int32)), .val (.ref b222), .val (.int (1 : Int32)), .val (.ref b222), .unset] [(.int (1 : Int32))]))
  refine ownBy (A := T261.setTop (mkF m 124 #[.val (.int p1), .val (.int p2), .val (.int p3), .val u209, .val u217, .val (.ref b222), .val (.int (1 : Int32)), .val (.ref b222), .val (.int (1 : Int32)), .val (.ref b222), .unset] [(.ref b222)])) (fun t kt => ?_) ?_
  · show Steps p.tables e below (T261.setTop (mkF m 119 #[.val (.int p1), .val (.int p2), .val (.int p3), .val u209, .val u217, .val (.ref b222), .val (.int (1 : Int32)), .val (.ref b222), .val (.int (1 : Int32)), .val (.ref b222), .unset] [(.int (1 : Int32))])) t
    refine XS.ifNo X261.here hx rfl (hb hby at_119) rfl ((if0 _ _).trans (feq ((by decide) : ¬ ((1 : Int32) = (0 : Int32)))).1) ?_
    show Steps p.tables e below (T261.setTop (mkF m 122 #[.val (.int p1), .val (.int p2), .val (.int p3), .val u209, .val u217, .val (.ref b222), .val (.int (1 : Int32)), .val (.ref b222), .val (.int (1 : Int32)), .val (.ref b222), .unset] [])) t
    refine XS.aload X261.here hx rfl (hb hby at_122) rfl rfl ?_
    exact kt
  obtain ⟨cq264, kq264, q264a, q264b, q264c⟩ := isOf hZ221 Eq261 f262
  obtain ⟨_, _, ⟨T264, L264, k264, n264⟩, -, X264, ⟨Lc264, hQ264, l264, y264, z264⟩, st264⟩ := X261.virtualBack hx (y := (⟨"com/example/boring_outbox/boringoutbox/EndpointChange", "description", "()Ljava/lang/String;"⟩ : MethodName)) (z := (⟨"com/example/boring_outbox/boringoutbox/EndpointChange", "description", "()Ljava/lang/String;"⟩ : MethodName)) hown221 (mvT hZ221 (hw _ (List.mem_of_getElem? (i := 44) rfl))) (mvT hZ221 (hw _ (List.mem_of_getElem? (i := 45) rfl))) (notFace_of_selects (args := #[]) (mvT hZ221 (hw _ (List.mem_of_getElem? (i := 47) rfl)))) (mvT hZ221 (hw _ (List.mem_of_getElem? (i := 47) rfl))) (mvT hZ221 (hw _ (List.mem_of_getElem? (i := 46) rfl))) (by decide) (backOf (W := 0) (c_gdsc l Z a0 hw [] b222 u217 T256.heap n0 f260 Fa256 ru217) hZ221 (hw _ (List.mem_of_getElem? (i := 48) rfl)) (hw _ (List.mem_of_getElem? (i := 32) rfl)) (by decide) (by decide)) q264a q264c (g := (mkF m 124 #[.val (.int p1), .val (.int p2), .val (.int p3), .val u209, .val u217, .val (.ref b222), .val (.int (1 : Int32)), .val (.ref b222), .val (.int (1 : Int32)), .val (.ref b222), .unset] [(.ref b222)])) rfl (by rw [hml]; rfl) (Steps.refl _) (argsL := []) (rest := []) (lenOf pd_241 rfl) rfl (by show 2 * 0 + _ ≤ _; exact Nat.le_of_eq rfl) (hb hby at_124) (fun _ _ => ⟨rfl, Eq261, (by decide : 13 + 0 ≤ _), (by decide : 30 + 0 ≤ _)⟩)
  dsimp only [Pt.U, Pt.locs, Pt.cells, Pt.slots] at X264 l264 y264 z264 st264 hQ264
  subst l264 y264 z264
  obtain ⟨rfl, Nq264, Eq264⟩ := hQ264
  have N265 := Fr.app N263 Nq264
  refine ownSt st264 ?_
  show ownG p.tables e below _ (T264.setTop (mkF m 127 #[.val (.int p1), .val (.int p2), .val (.int p3), .val u209, .val u217, .val (.ref b222), .val (.int (1 : Int32)), .val (.ref b222), .val (.int (1 : Int32)), .val (.ref b222), .unset] [u217]))
  refine ownBy (A := T264.setTop (mkF m 159 #[.val (.int p1), .val (.int p2), .val (.int p3), .val u209, .val u217, .val (.ref b222), .val (.int (1 : Int32)), .val (.ref b222), .val (.int (1 : Int32)), .val (.ref b222), .val (.int (1 : Int32))] [(.int (1 : Int32))])) (fun t kt => ?_) ?_
  · show Steps p.tables e below (T264.setTop (mkF m 127 #[.val (.int p1), .val (.int p2), .val (.int p3), .val u209, .val u217, .val (.ref b222), .val (.int (1 : Int32)), .val (.ref b222), .val (.int (1 : Int32)), .val (.ref b222), .unset] [u217])) t
    refine XS.aload X264.here hx rfl (hb hby at_127) rfl ru217 ?_
    show Steps p.tables e below (T264.setTop (mkF m 129 #[.val (.int p1), .val (.int p2), .val (.int p3), .val u209, .val u217, .val (.ref b222), .val (.int (1 : Int32)), .val (.ref b222), .val (.int (1 : Int32)), .val (.ref b222), .unset] [u217, u217])) t
    refine Jvm.RoadKit.acmp (g := (mkF m 129 #[.val (.int p1), .val (.int p2), .val (.int p3), .val u209, .val u217, .val (.ref b222), .val (.int (1 : Int32)), .val (.ref b222), .val (.int (1 : Int32)), .val (.ref b222), .unset] [u217, u217])) X264 hx rfl ru217 ru217 (pc0 := 129) (pc' := 132) (same := true) rfl (hb hby at_129) rfl (decide_eq_true rfl) (by decide) (by decide) ?_
    show Steps p.tables e below (T264.setTop (mkF m 132 #[.val (.int p1), .val (.int p2), .val (.int p3), .val u209, .val u217, .val (.ref b222), .val (.int (1 : Int32)), .val (.ref b222), .val (.int (1 : Int32)), .val (.ref b222), .unset] [])) t
    refine XS.iconst X264.here hx rfl (hb hby at_132) ?_
    show Steps p.tables e below (T264.setTop (mkF m 133 #[.val (.int p1), .val (.int p2), .val (.int p3), .val u209, .val u217, .val (.ref b222), .val (.int (1 : Int32)), .val (.ref b222), .val (.int (1 : Int32)), .val (.ref b222), .unset] [(.int (1 : Int32))])) t
    refine XS.goto X264.here hx rfl (pc0 := 133) (pc' := 137) rfl (hb hby at_133) (by decide) (by decide) ?_
    show Steps p.tables e below (T264.setTop (mkF m 137 #[.val (.int p1), .val (.int p2), .val (.int p3), .val u209, .val u217, .val (.ref b222), .val (.int (1 : Int32)), .val (.ref b222), .val (.int (1 : Int32)), .val (.ref b222), .unset] [(.int (1 : Int32))])) t
    refine XS.istore X264.here hx rfl (hb hby at_137) rfl (l' := #[.val (.int p1), .val (.int p2), .val (.int p3), .val u209, .val u217, .val (.ref b222), .val (.int (1 : Int32)), .val (.ref b222), .val (.int (1 : Int32)), .val (.ref b222), .val (.int (1 : Int32))]) rfl ?_
    show Steps p.tables e below (T264.setTop (mkF m 139 #[.val (.int p1), .val (.int p2), .val (.int p3), .val u209, .val u217, .val (.ref b222), .val (.int (1 : Int32)), .val (.ref b222), .val (.int (1 : Int32)), .val (.ref b222), .val (.int (1 : Int32))] [])) t
    refine XS.iload X264.here hx rfl (hb hby at_139) rfl ?_
    show Steps p.tables e below (T264.setTop (mkF m 141 #[.val (.int p1), .val (.int p2), .val (.int p3), .val u209, .val u217, .val (.ref b222), .val (.int (1 : Int32)), .val (.ref b222), .val (.int (1 : Int32)), .val (.ref b222), .val (.int (1 : Int32))] [(.int (1 : Int32))])) t
    refine XS.ifNo X264.here hx rfl (hb hby at_141) rfl ((if0 _ _).trans (feq ((by decide) : ¬ ((1 : Int32) = (0 : Int32)))).1) ?_
    show Steps p.tables e below (T264.setTop (mkF m 144 #[.val (.int p1), .val (.int p2), .val (.int p3), .val u209, .val u217, .val (.ref b222), .val (.int (1 : Int32)), .val (.ref b222), .val (.int (1 : Int32)), .val (.ref b222), .val (.int (1 : Int32))] [])) t
    refine XS.iload X264.here hx rfl (hb hby at_144) rfl ?_
    show Steps p.tables e below (T264.setTop (mkF m 146 #[.val (.int p1), .val (.int p2), .val (.int p3), .val u209, .val u217, .val (.ref b222), .val (.int (1 : Int32)), .val (.ref b222), .val (.int (1 : Int32)), .val (.ref b222), .val (.int (1 : Int32))] [(.int (1 : Int32))])) t
    refine XS.ifNo X264.here hx rfl (hb hby at_146) rfl ((if0 _ _).trans (feq ((by decide) : ¬ ((1 : Int32) = (0 : Int32)))).1) ?_
    show Steps p.tables e below (T264.setTop (mkF m 149 #[.val (.int p1), .val (.int p2), .val (.int p3), .val u209, .val u217, .val (.ref b222), .val (.int (1 : Int32)), .val (.ref b222), .val (.int (1 : Int32)), .val (.ref b222), .val (.int (1 : Int32))] [])) t
    refine XS.iload X264.here hx rfl (hb hby at_149) rfl ?_
    show Steps p.tables e below (T264.setTop (mkF m 151 #[.val (.int p1), .val (.int p2), .val (.int p3), .val u209, .val u217, .val (.ref b222), .val (.int (1 : Int32)), .val (.ref b222), .val (.int (1 : Int32)), .val (.ref b222), .val (.int (1 : Int32))] [(.int (1 : Int32))])) t
    refine XS.ifNo X264.here hx rfl (hb hby at_151) rfl ((if0 _ _).trans (feq ((by decide) : ¬ ((1 : Int32) = (0 : Int32)))).1) ?_
    show Steps p.tables e below (T264.setTop (mkF m 154 #[.val (.int p1), .val (.int p2), .val (.int p3), .val u209, .val u217, .val (.ref b222), .val (.int (1 : Int32)), .val (.ref b222), .val (.int (1 : Int32)), .val (.ref b222), .val (.int (1 : Int32))] [])) t
    refine XS.iconst X264.here hx rfl (hb hby at_154) ?_
    show Steps p.tables e below (T264.setTop (mkF m 155 #[.val (.int p1), .val (.int p2), .val (.int p3), .val u209, .val u217, .val (.ref b222), .val (.int (1 : Int32)), .val (.ref b222), .val (.int (1 : Int32)), .val (.ref b222), .val (.int (1 : Int32))] [(.int (1 : Int32))])) t
    refine XS.goto X264.here hx rfl (pc0 := 155) (pc' := 159) rfl (hb hby at_155) (by decide) (by decide) ?_
    exact kt
  refine ownRetH X264 hSR221 (by rw [Eq264]; exact (Nat.le_trans (Nat.le_trans (Nat.le_trans (Nat.le_refl _) E222.1) Kq243.1) Kq256.1)) Bd.notSynchronized (v := some (.int (nar .boolean (1 : Int32)))) (fun h => by rw [Bd.returns] at h; cases h) ?_ (R258.trans ((by rw [Eq264]; exact CHv.at X264 hZ221 hEL R258.1))) (Nat.le_of_ble_eq_true rfl) (Nat.le_of_ble_eq_true rfl) (fun fs hr => retN X264 hx (t := .boolean) Bd.returns (by simp) (hb hby at_159) hr)
  show (Q_law Z p1 p2 p3 G1 h0 n0) (some (.int (nar .boolean (1 : Int32)))) T264.heap _
  rw [Eq264]
  exact ⟨rfl, N265⟩
set_option maxRecDepth 65536 in
set_option maxHeartbeats 40000000 in
theorem comes_1 {Post : Tables → Env → Array Value → State → Outcome → State → Prop} (hpost : ∀ tb e args s v u, (limb_1_1.after args s (.returned v) u = true ∧ limb_1_2.after args s (.returned v) u = true ∧ True) → ReturnedEndW s (.returned v) u (Jvm.fieldLocs frame_1_writes args s ++ Jvm.arrayLocs frame_1_arrays args s ++ Jvm.staticLocs frame_1_statics s) 24 1152 → Post tb e args s (.returned v) u) :
    ArmFor flags0 classFile x code maxLocals ret World_1 tables_1 room_1 Calls_1 rest_1 Pre_1 Post := by
  intro l hfl _ _ p e ha hc hk s m args below hf hA hF happ hP
  obtain ⟨hcalls, hrest, hpre⟩ := hP
  obtain ⟨-, -, -, hnamed, -, -, -, hat⟩ := (Spec.applies_iff hf).mp happ
  obtain ⟨hg, hn⟩ := and_e (Cond.before_iff.mp (show (Jvm.Cond.and given_1 narrow_1).before args s = true from hpre))
  obtain ⟨g267, g268⟩ := and_e hg
  obtain ⟨g269, g270⟩ := and_e g268
  obtain ⟨g271, g272⟩ := and_e g270
  obtain ⟨w0, w1, w2, rfl⟩ : ∃ w0 w1 w2 : Value, args = #[w0, w1, w2] := by
    have hs : args.size = 3 := by simpa [Cond.value, given_1] using g267
    obtain ⟨L⟩ := args
    match L, hs with
    | [w0, w1, w2], _ => exact ⟨w0, w1, w2, rfl⟩
  have hw := fun d (hd : d ∈ tables_1) => atoms_spec (ws := Jvm.Cond.code x code maxLocals ret :: tables_1) hat d (List.mem_cons_of_mem _ hd)
  have hfit : Fit s := fun {y c} hc i hi => by
    obtain ⟨ha, rfl⟩ := Array.getElem?_eq_some_iff.mp hc
    have q := List.all_eq_true.mp ((Array.all_eq_true_iff_forall_mem.mp hF) _ (Array.getElem_mem ha)) i (List.mem_range.mpr hi)
    simpa [Array.getElem?_eq_getElem hi] using q
  obtain ⟨hsets, hown0⟩ := atoms_of _ (rest_1_c_eq ▸ (show rest_1_c.before _ s = true from hrest))
  have hr0 := Cond.before_iff.mp hown0
  obtain ⟨i0, ei0⟩ := is_v g269
  obtain rfl : w0 = (.int i0) := Option.some.inj ei0
  obtain ⟨i1, ei1⟩ := is_v g271
  obtain rfl : w1 = (.int i1) := Option.some.inj ei1
  obtain ⟨i2, ei2⟩ := is_v g272
  obtain rfl : w2 = (.int i2) := Option.some.inj ei2
  obtain ⟨G1, eG1⟩ := is_v (Cond.before_iff.mp (hsets _ (List.mem_of_getElem? (i := 1) rfl)))
  have O2 := Sta.start eG1 (Or.inl (hsets _ (List.mem_of_getElem? (i := 0) rfl)))
  have P5 : ¬ (G1 = (0 : Int32)) := own_nz eG1 (Cond.before_iff.mp (hsets _ (List.mem_of_getElem? (i := 2) rfl)))
  have hCH : CHv s ownEL s.vm s.heap := CHv.start (own_EW hw) (fun q hq => hcalls.1 q hq) (hsets _ (List.mem_of_getElem? (i := 2) rfl)) (hw _ (List.mem_of_getElem? (i := 18) rfl)) (hw _ (List.mem_of_getElem? (i := 14) rfl))
  obtain ⟨n, o, h1, h2, h3, _, L, rfl, ⟨rfl, N⟩, -, hq⟩ := c_law l s _ hw tables_1 i0 i1 i2 G1 s.heap s.heap.size (Nat.le_refl _) O2 P5 (Old.start s) p e ha hc hk s m _ below hf ((Spec.applies_iff_loose hf).mp happ).1 ⟨rfl, State.Warmed39.refl s, rfl, hCH⟩ trivial
  refine ⟨n, _, h1, h2, h3, hpost _ _ _ _ _ _ ⟨Cond.after_iff.mpr rfl, Cond.after_iff.mpr (eq_i res_at (Term.int_eval (1)) rfl), trivial⟩ ⟨hq.1, hq.2.1, hq.2.2.1, (hq.2.2.2.sift fun y hy => Or.inr (N y hy)).mono (by decide) (by decide)⟩⟩
theorem main_1_1 : Claimed_1_1 := comes_1 fun _ _ _ _ _ _ h hF => ⟨h.1, hF⟩
theorem main_1_2 : Claimed_1_2 := comes_1 fun _ _ _ _ _ _ h hF => ⟨h.2.1, hF⟩
end Jvm.Pilot.@@N@@
namespace Jvm.Pilot.@@N@@
open Jvm Jvm.ClassFile Sem Op Lib Jvm.Free Jvm.Stand Jvm.Pilot.@@N@@.Jvm.D
/-! MADE BY PROGRAM (witnessworld.py) out of the Statement's table words and the real class files: 20 classes; the members and pool entries that the words name. The judged class is class 1, her method 2. -/
namespace start1
open Jvm.ClassFile
def u (s : String) : CpInfo := .utf8 (stringToUtf16 s)
/-- a pool by its gaps: so many unusable entries, then the entry; so many at the end -/
def gap : Nat → List CpInfo → List CpInfo
  | 0, r => r
  | n + 1, r => .unusable :: gap n r
def poolList (es : List (Nat × CpInfo)) (last : Nat) : List CpInfo := es.foldr (fun e r => gap e.1 (e.2 :: r)) (gap last [])
def pool (es : List (Nat × CpInfo)) (last : Nat) : Array CpInfo := ⟨poolList es last⟩
def fileOf (pool : Array CpInfo) (this : Nat) (attrs : Array Attribute := #[]) (ms : Array MethodInfo := #[]) (fl : Nat := 33) (sup : Nat := 0) (ifs : Array Nat := #[]) (fds : Array FieldInfo := #[]) : ClassFile where
  minorVersion := 0
  majorVersion := 65
  constantPool := pool
  accessFlags := fl
  thisClass := this
  superClass := sup
  interfaces := ifs
  fields := fds
  methods := ms
  attributes := attrs
def plain (name : String) (sup : Option ClassId) : Class where
  name := name
  kind := .ordinary
  loader := none
  accessFlags := 33
  super := sup
  interfaces := #[]
  cf := none
  fields := #[]
  methods := #[]
  instanceTypes := #[]
  staticTypes := #[]
  resolved := #[]
  callSites := []
  init := .initialized
  statics := none
  mirror := none

def pool0 : Array CpInfo := pool [(5, u "<init>"), (0, u "()V"), (1, .class_ 10), (1, u "java/lang/Object")] 113

def k0c0 : Code := { maxStack := 0, maxLocals := 1, code := object_method_1_code, exceptionTable := #[], attributes := #[] }
def k0m0 : Method := { name := "<init>", desc := "()V", sig := { parameters := [], returnType := none }, accessFlags := 1, code := some k0c0 }
/-- java/lang/Object -/
def k0 : Class := { plain "java/lang/Object" none with
  accessFlags := 33
  interfaces := #[]
  cf := some (fileOf pool0 8 #[] #[{ accessFlags := 1, nameIndex := 5, descriptorIndex := 6, attributes := #[] }] 33 0 #[] #[])
  fields := #[]
  methods := #[k0m0]
  instanceTypes := #[]
  staticTypes := #[]
  resolved := Array.replicate 124 none
  statics := none }

def pool1 : Array CpInfo := pool [(2, .class_ 4), (0, .nameAndType 5 6), (0, u "java/lang/Object"), (0, u "<init>"), (0, u "()V"), (0, .class_ 8), (0, u "java/lang/String"), (0, .methodref 7 10), (0, .nameAndType 5 11), (0, u "([C)V"), (0, .methodref 7 13), (0, .nameAndType 14 15), (0, u "valueOf"), (0, u "(C)Ljava/lang/String;"), (0, .methodref 17 18), (0, .class_ 19), (0, .nameAndType 20 21), (0, u "com/example/boring_outbox/boringoutbox/EndpointChangeDescriptionPinLaw"), (0, u "pick"), (0, u "(II)Ljava/lang/String;"), (0, .class_ 23), (0, u "com/example/boring_outbox/boringoutbox/EndpointChange"), (0, .methodref 22 3), (0, .methodref 22 26), (0, .nameAndType 27 28), (0, u "describes"), (0, u "()Z"), (0, .methodref 22 30), (0, .nameAndType 31 32), (0, u "description"), (0, u "()Ljava/lang/String;"), (0, .methodref 22 34), (0, .nameAndType 31 35), (0, u "(Ljava/lang/String;)Lcom/example/boring_outbox/boringoutbox/EndpointChange;"), (0, .methodref 22 37), (0, .nameAndType 38 32), (0, u "url"), (3, u "law"), (0, u "(III)Z")] 2

def k1m0 : Method := { name := "<init>", desc := "()V", sig := { parameters := [], returnType := none }, accessFlags := 2, code := none }
def k1c1 : Code := { maxStack := 6, maxLocals := 4, code := method_2_code, exceptionTable := #[], attributes := #[] }
def k1m1 : Method := { name := "pick", desc := "(II)Ljava/lang/String;", sig := { parameters := [.int, .int], returnType := some (.object "java/lang/String") }, accessFlags := 10, code := some k1c1 }
def k1c2 : Code := { maxStack := 2, maxLocals := 11, code := code, exceptionTable := #[], attributes := #[] }
def k1m2 : Method := { name := "law", desc := "(III)Z", sig := { parameters := [.int, .int, .int], returnType := some .boolean }, accessFlags := 9, code := some k1c2 }
/-- com/example/boring_outbox/boringoutbox/EndpointChangeDescriptionPinLaw -/
def k1 : Class := { plain "com/example/boring_outbox/boringoutbox/EndpointChangeDescriptionPinLaw" (some 0) with
  accessFlags := 49
  interfaces := #[]
  cf := some (fileOf pool1 17 #[] #[{ accessFlags := 2, nameIndex := 5, descriptorIndex := 6, attributes := #[] }, { accessFlags := 10, nameIndex := 20, descriptorIndex := 21, attributes := #[] }, { accessFlags := 9, nameIndex := 42, descriptorIndex := 43, attributes := #[] }] 49 2 #[] #[])
  fields := #[]
  methods := #[k1m0, k1m1, k1m2]
  instanceTypes := #[]
  staticTypes := #[]
  resolved := Array.replicate 46 none
  statics := none }

def pool2 : Array CpInfo := pool [(1, .class_ 2), (0, u "java/io/Serializable"), (0, .class_ 4), (0, u "java/lang/Object")] 2

/-- java/io/Serializable -/
def k2 : Class := { plain "java/io/Serializable" (some 0) with
  accessFlags := 1537
  interfaces := #[]
  cf := some (fileOf pool2 1 #[] #[] 1537 3 #[] #[])
  fields := #[]
  methods := #[]
  instanceTypes := #[]
  staticTypes := #[]
  resolved := Array.replicate 7 none
  statics := none }

def pool3 : Array CpInfo := pool [(1, .class_ 2), (0, u "java/lang/Comparable"), (0, .class_ 4), (0, u "java/lang/Object")] 7

/-- java/lang/Comparable -/
def k3 : Class := { plain "java/lang/Comparable" (some 0) with
  accessFlags := 1537
  interfaces := #[]
  cf := some (fileOf pool3 1 #[] #[] 1537 3 #[] #[])
  fields := #[]
  methods := #[]
  instanceTypes := #[]
  staticTypes := #[]
  resolved := Array.replicate 12 none
  statics := none }

def pool4 : Array CpInfo := pool [(2, .class_ 4), (1, u "java/lang/CharSequence"), (42, .class_ 48), (0, u "java/lang/CharSequence$1CodePointIterator"), (10, .class_ 60), (0, u "java/lang/CharSequence$1CharIterator"), (5, .class_ 67), (0, u "java/lang/Object")] 63

/-- java/lang/CharSequence -/
def k4 : Class := { plain "java/lang/CharSequence" (some 0) with
  accessFlags := 1537
  interfaces := #[]
  cf := some (fileOf pool4 2 #[.nestMembers #[47, 59]] #[] 1537 66 #[] #[])
  fields := #[]
  methods := #[]
  instanceTypes := #[]
  staticTypes := #[]
  resolved := Array.replicate 131 none
  statics := none }

def pool5 : Array CpInfo := pool [(1, .class_ 2), (0, u "java/lang/constant/Constable"), (0, .class_ 4), (0, u "java/lang/Object")] 6

/-- java/lang/constant/Constable -/
def k5 : Class := { plain "java/lang/constant/Constable" (some 0) with
  accessFlags := 1537
  interfaces := #[]
  cf := some (fileOf pool5 1 #[] #[] 1537 3 #[] #[])
  fields := #[]
  methods := #[]
  instanceTypes := #[]
  staticTypes := #[]
  resolved := Array.replicate 11 none
  statics := none }

def pool6 : Array CpInfo := pool [(1, .class_ 2), (0, u "java/lang/constant/ConstantDesc"), (0, .class_ 4), (0, u "java/lang/Object")] 32

/-- java/lang/constant/ConstantDesc -/
def k6 : Class := { plain "java/lang/constant/ConstantDesc" (some 0) with
  accessFlags := 1537
  interfaces := #[]
  cf := some (fileOf pool6 1 #[] #[] 1537 3 #[] #[])
  fields := #[]
  methods := #[]
  instanceTypes := #[]
  staticTypes := #[]
  resolved := Array.replicate 37 none
  statics := none }

def pool7 : Array CpInfo := pool [(1, .methodref 2 3), (0, .class_ 4), (0, .nameAndType 5 6), (0, u "java/lang/Object"), (0, u "<init>"), (0, u "()V"), (0, .string 8), (0, u ""), (0, .fieldref 10 11), (0, .class_ 12), (0, .nameAndType 13 14), (0, u "java/lang/String"), (0, u "value"), (0, u "[B"), (0, .fieldref 10 16), (0, .nameAndType 17 18), (0, u "coder"), (0, u "B"), (2, u "hash"), (0, u "I"), (2, u "hashIsZero"), (0, u "Z"), (0, .methodref 10 28), (0, .nameAndType 5 29), (0, u "([CIILjava/lang/Void;)V"), (8, .fieldref 10 39), (0, .nameAndType 40 26), (0, u "COMPACT_STRINGS"), (1, .class_ 44), (1, u "java/lang/StringUTF16"), (0, u "compress"), (1, .methodref 42 48), (0, .nameAndType 49 50), (0, u "coderFromArrayLen"), (0, u "([BI)B"), (2, u "toBytes"), (53, .class_ 109), (1, u "java/lang/StringLatin1"), (67, .methodref 42 178), (0, .nameAndType 45 179), (0, u "([CII)[B"), (29, .methodref 10 210), (0, .nameAndType 5 211), (0, u "([BB)V"), (157, u "(C)Z"), (205, .class_ 576), (0, u "java/lang/CharSequence"), (22, u "CASE_INSENSITIVE_ORDER"), (0, u "Ljava/util/Comparator;"), (181, u "valueOf"), (0, u "(C)Ljava/lang/String;"), (226, u "([C)V"), (4, .methodref 107 1016), (0, .nameAndType 1017 369), (0, u "canEncode"), (0, .methodref 107 1019), (0, .nameAndType 53 1020), (0, u "(C)[B"), (80, u "serialPersistentFields"), (0, u "[Ljava/io/ObjectStreamField;"), (0, .class_ 1104), (0, u "java/lang/String$CaseInsensitiveComparator"), (1, .class_ 1107), (0, u "java/io/Serializable"), (0, .class_ 1109), (0, u "java/lang/Comparable"), (0, .class_ 1111), (0, u "java/lang/constant/Constable"), (0, .class_ 1113), (0, u "java/lang/constant/ConstantDesc"), (2, u "serialVersionUID"), (0, u "J"), (3, u "REPL"), (0, u "C"), (2, u "LATIN1"), (1, u "UTF16")] 323

def k7m0 : Method := { name := "<init>", desc := "()V", sig := { parameters := [], returnType := none }, accessFlags := 1, code := none }
def k7c1 : Code := { maxStack := 5, maxLocals := 2, code := jdk_42_method_3_code, exceptionTable := #[], attributes := #[] }
def k7m1 : Method := { name := "<init>", desc := "([C)V", sig := { parameters := [(.array .char)], returnType := none }, accessFlags := 1, code := some k7c1 }
def k7c2 : Code := { maxStack := 4, maxLocals := 1, code := jdk_42_method_139_code, exceptionTable := #[], attributes := #[] }
def k7m2 : Method := { name := "valueOf", desc := "(C)Ljava/lang/String;", sig := { parameters := [.char], returnType := some (.object "java/lang/String") }, accessFlags := 9, code := some k7c2 }
def k7c3 : Code := { maxStack := 4, maxLocals := 6, code := jdk_42_method_149_code, exceptionTable := #[], attributes := #[] }
def k7m3 : Method := { name := "<init>", desc := "([CIILjava/lang/Void;)V", sig := { parameters := [(.array .char), .int, .int, (.object "java/lang/Void")], returnType := none }, accessFlags := 2, code := some k7c3 }
def k7c4 : Code := { maxStack := 2, maxLocals := 3, code := jdk_42_method_151_code, exceptionTable := #[], attributes := #[] }
def k7m4 : Method := { name := "<init>", desc := "([BB)V", sig := { parameters := [(.array .byte), .byte], returnType := none }, accessFlags := 0, code := some k7c4 }
/-- java/lang/String -/
def k7 : Class := { plain "java/lang/String" (some 0) with
  accessFlags := 49
  interfaces := #[2, 3, 4, 5, 6]
  cf := some (fileOf pool7 10 #[.nestMembers #[1103]] #[{ accessFlags := 1, nameIndex := 5, descriptorIndex := 6, attributes := #[] }, { accessFlags := 1, nameIndex := 5, descriptorIndex := 1010, attributes := #[] }, { accessFlags := 9, nameIndex := 782, descriptorIndex := 783, attributes := #[] }, { accessFlags := 2, nameIndex := 5, descriptorIndex := 29, attributes := #[] }, { accessFlags := 0, nameIndex := 5, descriptorIndex := 211, attributes := #[] }] 49 2 #[1106, 1108, 575, 1110, 1112] #[{ accessFlags := 18, nameIndex := 13, descriptorIndex := 14, attributes := #[] }, { accessFlags := 18, nameIndex := 17, descriptorIndex := 18, attributes := #[] }, { accessFlags := 2, nameIndex := 21, descriptorIndex := 22, attributes := #[] }, { accessFlags := 2, nameIndex := 25, descriptorIndex := 26, attributes := #[] }, { accessFlags := 26, nameIndex := 1116, descriptorIndex := 1117, attributes := #[] }, { accessFlags := 24, nameIndex := 40, descriptorIndex := 26, attributes := #[] }, { accessFlags := 26, nameIndex := 1101, descriptorIndex := 1102, attributes := #[] }, { accessFlags := 26, nameIndex := 1121, descriptorIndex := 1122, attributes := #[] }, { accessFlags := 25, nameIndex := 599, descriptorIndex := 600, attributes := #[] }, { accessFlags := 24, nameIndex := 1125, descriptorIndex := 18, attributes := #[] }, { accessFlags := 24, nameIndex := 1127, descriptorIndex := 18, attributes := #[] }])
  fields := #[{ name := "value", type := (.array .byte), accessFlags := 18, slot := 0, constantValue := 0 }, { name := "coder", type := .byte, accessFlags := 18, slot := 1, constantValue := 0 }, { name := "hash", type := .int, accessFlags := 2, slot := 2, constantValue := 0 }, { name := "hashIsZero", type := .boolean, accessFlags := 2, slot := 3, constantValue := 0 }, { name := "serialVersionUID", type := .long, accessFlags := 26, slot := 0, constantValue := 0 }, { name := "COMPACT_STRINGS", type := .boolean, accessFlags := 24, slot := 1, constantValue := 0 }, { name := "serialPersistentFields", type := (.array (.object "java/io/ObjectStreamField")), accessFlags := 26, slot := 2, constantValue := 0 }, { name := "REPL", type := .char, accessFlags := 26, slot := 3, constantValue := 0 }, { name := "CASE_INSENSITIVE_ORDER", type := (.object "java/util/Comparator"), accessFlags := 25, slot := 4, constantValue := 0 }, { name := "LATIN1", type := .byte, accessFlags := 24, slot := 5, constantValue := 0 }, { name := "UTF16", type := .byte, accessFlags := 24, slot := 6, constantValue := 0 }]
  methods := #[k7m0, k7m1, k7m2, k7m3, k7m4]
  instanceTypes := #[(.array .byte), .byte, .int, .boolean]
  staticTypes := #[.long, .boolean, (.array (.object "java/io/ObjectStreamField")), .char, (.object "java/util/Comparator"), .byte, .byte]
  resolved := Array.replicate 1451 none
  statics := some 0 }

def pool8 : Array CpInfo := pool [(4, .class_ 6), (1, u "java/lang/Object"), (0, u "<init>"), (0, u "()V"), (5, .class_ 16), (1, u "java/lang/StringLatin1"), (73, u "canEncode"), (14, u "(C)Z"), (15, u "$assertionsDisabled"), (0, u "Z"), (98, .class_ 223), (1, u "java/lang/StringLatin1$LinesSpliterator"), (156, u "toBytes"), (1, u "(C)[B"), (7, .class_ 391), (0, u "java/lang/StringLatin1$CharsSpliterator")] 3

def k8m0 : Method := { name := "<init>", desc := "()V", sig := { parameters := [], returnType := none }, accessFlags := 0, code := none }
def k8c1 : Code := { maxStack := 2, maxLocals := 1, code := jdk_43_method_3_code, exceptionTable := #[], attributes := #[] }
def k8m1 : Method := { name := "canEncode", desc := "(C)Z", sig := { parameters := [.char], returnType := some .boolean }, accessFlags := 9, code := some k8c1 }
def k8c2 : Code := { maxStack := 4, maxLocals := 1, code := jdk_43_method_46_code, exceptionTable := #[], attributes := #[] }
def k8m2 : Method := { name := "toBytes", desc := "(C)[B", sig := { parameters := [.char], returnType := some (.array .byte) }, accessFlags := 9, code := some k8c2 }
/-- java/lang/StringLatin1 -/
def k8 : Class := { plain "java/lang/StringLatin1" (some 0) with
  accessFlags := 48
  interfaces := #[]
  cf := some (fileOf pool8 14 #[.nestMembers #[390, 221]] #[{ accessFlags := 0, nameIndex := 7, descriptorIndex := 8, attributes := #[] }, { accessFlags := 9, nameIndex := 90, descriptorIndex := 105, attributes := #[] }, { accessFlags := 9, nameIndex := 380, descriptorIndex := 382, attributes := #[] }] 48 4 #[] #[{ accessFlags := 4120, nameIndex := 121, descriptorIndex := 122, attributes := #[] }])
  fields := #[{ name := "$assertionsDisabled", type := .boolean, accessFlags := 4120, slot := 0, constantValue := 0 }]
  methods := #[k8m0, k8m1, k8m2]
  instanceTypes := #[]
  staticTypes := #[.boolean]
  resolved := Array.replicate 395 none
  statics := none }

def pool9 : Array CpInfo := pool [(1, .methodref 2 3), (0, .class_ 4), (0, .nameAndType 5 6), (0, u "java/lang/Object"), (0, u "<init>"), (0, u "()V"), (1, .class_ 10), (1, u "com/example/boring_outbox/boringoutbox/EndpointChange"), (2, .fieldref 8 14), (0, .nameAndType 15 16), (0, u "url"), (0, u "Ljava/lang/String;"), (13, u "()Z"), (28, u "eventTypes"), (0, u "Ljava/util/List;"), (8, u "secret"), (0, u "Lcom/example/boring_outbox/boringoutbox/SigningSecret;"), (7, u "headers"), (0, u "Lcom/example/boring_outbox/boringoutbox/EndpointHeaders;"), (0, .fieldref 8 81), (0, .nameAndType 82 83), (0, u "describes"), (0, u "Z"), (0, .fieldref 8 85), (0, .nameAndType 86 16), (0, u "description"), (10, u "()Ljava/lang/String;"), (56, u "(Ljava/lang/String;)Lcom/example/boring_outbox/boringoutbox/EndpointChange;")] 47

def k9c0 : Code := { maxStack := 1, maxLocals := 1, code := prog_12_method_1_code, exceptionTable := #[], attributes := #[] }
def k9m0 : Method := { name := "<init>", desc := "()V", sig := { parameters := [], returnType := none }, accessFlags := 0, code := some k9c0 }
def k9c1 : Code := { maxStack := 2, maxLocals := 2, code := prog_12_method_6_code, exceptionTable := #[], attributes := #[] }
def k9m1 : Method := { name := "description", desc := "(Ljava/lang/String;)Lcom/example/boring_outbox/boringoutbox/EndpointChange;", sig := { parameters := [(.object "java/lang/String")], returnType := some (.object "com/example/boring_outbox/boringoutbox/EndpointChange") }, accessFlags := 0, code := some k9c1 }
def k9c2 : Code := { maxStack := 1, maxLocals := 1, code := prog_12_method_7_code, exceptionTable := #[], attributes := #[] }
def k9m2 : Method := { name := "url", desc := "()Ljava/lang/String;", sig := { parameters := [], returnType := some (.object "java/lang/String") }, accessFlags := 0, code := some k9c2 }
def k9c3 : Code := { maxStack := 1, maxLocals := 1, code := prog_12_method_11_code, exceptionTable := #[], attributes := #[] }
def k9m3 : Method := { name := "describes", desc := "()Z", sig := { parameters := [], returnType := some .boolean }, accessFlags := 0, code := some k9c3 }
def k9c4 : Code := { maxStack := 1, maxLocals := 1, code := prog_12_method_12_code, exceptionTable := #[], attributes := #[] }
def k9m4 : Method := { name := "description", desc := "()Ljava/lang/String;", sig := { parameters := [], returnType := some (.object "java/lang/String") }, accessFlags := 0, code := some k9c4 }
/-- com/example/boring_outbox/boringoutbox/EndpointChange -/
def k9 : Class := { plain "com/example/boring_outbox/boringoutbox/EndpointChange" (some 0) with
  accessFlags := 48
  interfaces := #[]
  cf := some (fileOf pool9 8 #[] #[{ accessFlags := 0, nameIndex := 5, descriptorIndex := 6, attributes := #[] }, { accessFlags := 0, nameIndex := 86, descriptorIndex := 154, attributes := #[] }, { accessFlags := 0, nameIndex := 15, descriptorIndex := 97, attributes := #[] }, { accessFlags := 0, nameIndex := 82, descriptorIndex := 30, attributes := #[] }, { accessFlags := 0, nameIndex := 86, descriptorIndex := 97, attributes := #[] }] 48 2 #[] #[{ accessFlags := 2, nameIndex := 15, descriptorIndex := 16, attributes := #[] }, { accessFlags := 2, nameIndex := 59, descriptorIndex := 60, attributes := #[] }, { accessFlags := 2, nameIndex := 69, descriptorIndex := 70, attributes := #[] }, { accessFlags := 2, nameIndex := 78, descriptorIndex := 79, attributes := #[] }, { accessFlags := 2, nameIndex := 82, descriptorIndex := 83, attributes := #[] }, { accessFlags := 2, nameIndex := 86, descriptorIndex := 16, attributes := #[] }])
  fields := #[{ name := "url", type := (.object "java/lang/String"), accessFlags := 2, slot := 0, constantValue := 0 }, { name := "eventTypes", type := (.object "java/util/List"), accessFlags := 2, slot := 1, constantValue := 0 }, { name := "secret", type := (.object "com/example/boring_outbox/boringoutbox/SigningSecret"), accessFlags := 2, slot := 2, constantValue := 0 }, { name := "headers", type := (.object "com/example/boring_outbox/boringoutbox/EndpointHeaders"), accessFlags := 2, slot := 3, constantValue := 0 }, { name := "describes", type := .boolean, accessFlags := 2, slot := 4, constantValue := 0 }, { name := "description", type := (.object "java/lang/String"), accessFlags := 2, slot := 5, constantValue := 0 }]
  methods := #[k9m0, k9m1, k9m2, k9m3, k9m4]
  instanceTypes := #[(.object "java/lang/String"), (.object "java/util/List"), (.object "com/example/boring_outbox/boringoutbox/SigningSecret"), (.object "com/example/boring_outbox/boringoutbox/EndpointHeaders"), .boolean, (.object "java/lang/String")]
  staticTypes := #[]
  resolved := Array.replicate 202 none
  statics := none }

def pool10 : Array CpInfo := pool [(6, .class_ 8), (1, u "java/lang/Object"), (0, u "<init>"), (0, u "()V"), (1, .class_ 14), (1, u "java/lang/StringUTF16"), (31, u "$assertionsDisabled"), (0, u "Z"), (13, u "HI_BYTE_SHIFT"), (0, u "I"), (2, u "LO_BYTE_SHIFT"), (49, .methodref 12 116), (0, .nameAndType 117 118), (0, u "compress"), (0, u "([CI[BII)I"), (3, u "([CII)[B"), (138, u "coderFromArrayLen"), (0, u "([BI)B"), (106, .class_ 371), (1, u "java/lang/StringUTF16$LinesSpliterator"), (58, u "MAX_LENGTH"), (196, .class_ 628), (0, u "java/lang/StringUTF16$CodePointsSpliterator"), (0, .class_ 630), (0, u "java/lang/StringUTF16$CharsSpliterator")] 4

def k10m0 : Method := { name := "<init>", desc := "()V", sig := { parameters := [], returnType := none }, accessFlags := 0, code := none }
def k10c1 : Code := { maxStack := 2, maxLocals := 2, code := jdk_52_method_15_code, exceptionTable := #[], attributes := #[] }
def k10m1 : Method := { name := "coderFromArrayLen", desc := "([BI)B", sig := { parameters := [(.array .byte), .int], returnType := some .byte }, accessFlags := 8, code := some k10c1 }
def k10c2 : Code := { maxStack := 5, maxLocals := 6, code := jdk_52_method_16_code, exceptionTable := #[], attributes := #[] }
def k10m2 : Method := { name := "compress", desc := "([CII)[B", sig := { parameters := [(.array .char), .int, .int], returnType := some (.array .byte) }, accessFlags := 9, code := some k10c2 }
def k10c3 : Code := { maxStack := 3, maxLocals := 7, code := jdk_52_method_21_code, exceptionTable := #[], attributes := #[] }
def k10m3 : Method := { name := "compress", desc := "([CI[BII)I", sig := { parameters := [(.array .char), .int, (.array .byte), .int, .int], returnType := some .int }, accessFlags := 9, code := some k10c3 }
/-- java/lang/StringUTF16 -/
def k10 : Class := { plain "java/lang/StringUTF16" (some 0) with
  accessFlags := 48
  interfaces := #[]
  cf := some (fileOf pool10 12 #[.nestMembers #[627, 629, 369]] #[{ accessFlags := 0, nameIndex := 9, descriptorIndex := 10, attributes := #[] }, { accessFlags := 8, nameIndex := 261, descriptorIndex := 262, attributes := #[] }, { accessFlags := 9, nameIndex := 117, descriptorIndex := 122, attributes := #[] }, { accessFlags := 9, nameIndex := 117, descriptorIndex := 118, attributes := #[] }] 48 6 #[] #[{ accessFlags := 26, nameIndex := 61, descriptorIndex := 62, attributes := #[] }, { accessFlags := 26, nameIndex := 65, descriptorIndex := 62, attributes := #[] }, { accessFlags := 24, nameIndex := 430, descriptorIndex := 62, attributes := #[] }, { accessFlags := 4120, nameIndex := 46, descriptorIndex := 47, attributes := #[] }])
  fields := #[{ name := "HI_BYTE_SHIFT", type := .int, accessFlags := 26, slot := 0, constantValue := 0 }, { name := "LO_BYTE_SHIFT", type := .int, accessFlags := 26, slot := 1, constantValue := 0 }, { name := "MAX_LENGTH", type := .int, accessFlags := 24, slot := 2, constantValue := 0 }, { name := "$assertionsDisabled", type := .boolean, accessFlags := 4120, slot := 3, constantValue := 0 }]
  methods := #[k10m0, k10m1, k10m2, k10m3]
  instanceTypes := #[]
  staticTypes := #[.int, .int, .int, .boolean]
  resolved := Array.replicate 635 none
  statics := none }

def pool11 : Array CpInfo := pool [(2, .class_ 4), (1, u "java/lang/Object"), (0, u "<init>"), (0, u "()V"), (17, .class_ 26), (1, u "jdk/internal/util/Preconditions"), (28, .class_ 56), (0, u "jdk/internal/util/Preconditions$4"), (57, .class_ 115), (0, u "jdk/internal/util/Preconditions$1"), (7, u "SIOOBE_FORMATTER"), (0, u "Ljava/util/function/BiFunction;"), (0, .class_ 126), (0, u "jdk/internal/util/Preconditions$2"), (3, u "AIOOBE_FORMATTER"), (0, .class_ 132), (0, u "jdk/internal/util/Preconditions$3"), (3, u "IOOBE_FORMATTER")] 57

def k11m0 : Method := { name := "<init>", desc := "()V", sig := { parameters := [], returnType := none }, accessFlags := 1, code := none }
/-- jdk/internal/util/Preconditions -/
def k11 : Class := { plain "jdk/internal/util/Preconditions" (some 0) with
  accessFlags := 33
  interfaces := #[]
  cf := some (fileOf pool11 24 #[.nestMembers #[55, 131, 125, 114]] #[{ accessFlags := 1, nameIndex := 5, descriptorIndex := 6, attributes := #[] }] 33 2 #[] #[{ accessFlags := 25, nameIndex := 123, descriptorIndex := 124, attributes := #[] }, { accessFlags := 25, nameIndex := 130, descriptorIndex := 124, attributes := #[] }, { accessFlags := 25, nameIndex := 136, descriptorIndex := 124, attributes := #[] }])
  fields := #[{ name := "SIOOBE_FORMATTER", type := (.object "java/util/function/BiFunction"), accessFlags := 25, slot := 0, constantValue := 0 }, { name := "AIOOBE_FORMATTER", type := (.object "java/util/function/BiFunction"), accessFlags := 25, slot := 1, constantValue := 0 }, { name := "IOOBE_FORMATTER", type := (.object "java/util/function/BiFunction"), accessFlags := 25, slot := 2, constantValue := 0 }]
  methods := #[k11m0]
  instanceTypes := #[]
  staticTypes := #[(.object "java/util/function/BiFunction"), (.object "java/util/function/BiFunction"), (.object "java/util/function/BiFunction")]
  resolved := Array.replicate 194 none
  statics := some 1 }

def pool12 : Array CpInfo := pool [(9, u "<init>"), (6, .class_ 18), (1, u "java/lang/Object"), (0, u "()V"), (1, .class_ 23), (1, u "jdk/internal/util/ArraysSupport"), (0, u "LOG2_ARRAY_LONG_INDEX_SCALE"), (0, u "I"), (2, u "U"), (0, u "Ljdk/internal/misc/Unsafe;"), (8, u "BIG_ENDIAN"), (0, u "Z"), (8, u "LOG2_BYTE_BIT_SIZE"), (4, u "LOG2_ARRAY_INT_INDEX_SCALE"), (54, u "JLA"), (0, u "Ljdk/internal/access/JavaLangAccess;"), (11, u "LOG2_ARRAY_BOOLEAN_INDEX_SCALE"), (9, u "LOG2_ARRAY_BYTE_INDEX_SCALE"), (5, u "LOG2_ARRAY_CHAR_INDEX_SCALE"), (5, u "LOG2_ARRAY_SHORT_INDEX_SCALE"), (18, u "LOG2_ARRAY_FLOAT_INDEX_SCALE"), (24, u "LOG2_ARRAY_DOUBLE_INDEX_SCALE"), (89, u "T_BOOLEAN"), (2, u "T_CHAR"), (1, u "T_FLOAT"), (1, u "T_DOUBLE"), (1, u "T_BYTE"), (1, u "T_SHORT"), (1, u "T_INT"), (1, u "T_LONG"), (1, u "SOFT_MAX_ARRAY_LENGTH")] 83

def k12m0 : Method := { name := "<init>", desc := "()V", sig := { parameters := [], returnType := none }, accessFlags := 2, code := none }
/-- jdk/internal/util/ArraysSupport -/
def k12 : Class := { plain "jdk/internal/util/ArraysSupport" (some 0) with
  accessFlags := 33
  interfaces := #[]
  cf := some (fileOf pool12 21 #[] #[{ accessFlags := 2, nameIndex := 9, descriptorIndex := 19, attributes := #[] }] 33 16 #[] #[{ accessFlags := 24, nameIndex := 28, descriptorIndex := 29, attributes := #[] }, { accessFlags := 26, nameIndex := 38, descriptorIndex := 39, attributes := #[] }, { accessFlags := 25, nameIndex := 121, descriptorIndex := 25, attributes := #[] }, { accessFlags := 25, nameIndex := 131, descriptorIndex := 25, attributes := #[] }, { accessFlags := 25, nameIndex := 137, descriptorIndex := 25, attributes := #[] }, { accessFlags := 25, nameIndex := 143, descriptorIndex := 25, attributes := #[] }, { accessFlags := 25, nameIndex := 53, descriptorIndex := 25, attributes := #[] }, { accessFlags := 25, nameIndex := 24, descriptorIndex := 25, attributes := #[] }, { accessFlags := 25, nameIndex := 162, descriptorIndex := 25, attributes := #[] }, { accessFlags := 25, nameIndex := 187, descriptorIndex := 25, attributes := #[] }, { accessFlags := 26, nameIndex := 48, descriptorIndex := 25, attributes := #[] }, { accessFlags := 25, nameIndex := 277, descriptorIndex := 25, attributes := #[] }, { accessFlags := 25, nameIndex := 280, descriptorIndex := 25, attributes := #[] }, { accessFlags := 25, nameIndex := 282, descriptorIndex := 25, attributes := #[] }, { accessFlags := 25, nameIndex := 284, descriptorIndex := 25, attributes := #[] }, { accessFlags := 25, nameIndex := 286, descriptorIndex := 25, attributes := #[] }, { accessFlags := 25, nameIndex := 288, descriptorIndex := 25, attributes := #[] }, { accessFlags := 25, nameIndex := 290, descriptorIndex := 25, attributes := #[] }, { accessFlags := 25, nameIndex := 292, descriptorIndex := 25, attributes := #[] }, { accessFlags := 26, nameIndex := 108, descriptorIndex := 109, attributes := #[] }, { accessFlags := 25, nameIndex := 294, descriptorIndex := 25, attributes := #[] }])
  fields := #[{ name := "U", type := (.object "jdk/internal/misc/Unsafe"), accessFlags := 24, slot := 0, constantValue := 0 }, { name := "BIG_ENDIAN", type := .boolean, accessFlags := 26, slot := 1, constantValue := 0 }, { name := "LOG2_ARRAY_BOOLEAN_INDEX_SCALE", type := .int, accessFlags := 25, slot := 2, constantValue := 0 }, { name := "LOG2_ARRAY_BYTE_INDEX_SCALE", type := .int, accessFlags := 25, slot := 3, constantValue := 0 }, { name := "LOG2_ARRAY_CHAR_INDEX_SCALE", type := .int, accessFlags := 25, slot := 4, constantValue := 0 }, { name := "LOG2_ARRAY_SHORT_INDEX_SCALE", type := .int, accessFlags := 25, slot := 5, constantValue := 0 }, { name := "LOG2_ARRAY_INT_INDEX_SCALE", type := .int, accessFlags := 25, slot := 6, constantValue := 0 }, { name := "LOG2_ARRAY_LONG_INDEX_SCALE", type := .int, accessFlags := 25, slot := 7, constantValue := 0 }, { name := "LOG2_ARRAY_FLOAT_INDEX_SCALE", type := .int, accessFlags := 25, slot := 8, constantValue := 0 }, { name := "LOG2_ARRAY_DOUBLE_INDEX_SCALE", type := .int, accessFlags := 25, slot := 9, constantValue := 0 }, { name := "LOG2_BYTE_BIT_SIZE", type := .int, accessFlags := 26, slot := 10, constantValue := 0 }, { name := "T_BOOLEAN", type := .int, accessFlags := 25, slot := 11, constantValue := 0 }, { name := "T_CHAR", type := .int, accessFlags := 25, slot := 12, constantValue := 0 }, { name := "T_FLOAT", type := .int, accessFlags := 25, slot := 13, constantValue := 0 }, { name := "T_DOUBLE", type := .int, accessFlags := 25, slot := 14, constantValue := 0 }, { name := "T_BYTE", type := .int, accessFlags := 25, slot := 15, constantValue := 0 }, { name := "T_SHORT", type := .int, accessFlags := 25, slot := 16, constantValue := 0 }, { name := "T_INT", type := .int, accessFlags := 25, slot := 17, constantValue := 0 }, { name := "T_LONG", type := .int, accessFlags := 25, slot := 18, constantValue := 0 }, { name := "JLA", type := (.object "jdk/internal/access/JavaLangAccess"), accessFlags := 26, slot := 19, constantValue := 0 }, { name := "SOFT_MAX_ARRAY_LENGTH", type := .int, accessFlags := 25, slot := 20, constantValue := 0 }]
  methods := #[k12m0]
  instanceTypes := #[]
  staticTypes := #[(.object "jdk/internal/misc/Unsafe"), .boolean, .int, .int, .int, .int, .int, .int, .int, .int, .int, .int, .int, .int, .int, .int, .int, .int, .int, (.object "jdk/internal/access/JavaLangAccess"), .int]
  resolved := Array.replicate 378 none
  statics := none }

def pool13 : Array CpInfo := pool [(1, u "java/lang/Cloneable"), (0, .class_ 1), (0, u "java/lang/Object"), (0, .class_ 3)] 3

/-- java/lang/Cloneable -/
def k13 : Class := { plain "java/lang/Cloneable" (some 0) with
  accessFlags := 1537
  interfaces := #[]
  cf := some (fileOf pool13 2 #[] #[] 1537 4 #[] #[])
  fields := #[]
  methods := #[]
  instanceTypes := #[]
  staticTypes := #[]
  resolved := Array.replicate 8 none
  statics := none }

/-- the primitive byte -/
def k14 : Class := { plain "byte" none with kind := .primitive 'B', accessFlags := 0x411 }
/-- [B -/
def k15 : Class := { plain "[B" (some 0) with kind := .array 14 .byte, interfaces := #[13, 2], accessFlags := 1041 }

/-- the primitive char -/
def k16 : Class := { plain "char" none with kind := .primitive 'C', accessFlags := 0x411 }
/-- [C -/
def k17 : Class := { plain "[C" (some 0) with kind := .array 16 .char, interfaces := #[13, 2], accessFlags := 1041 }

/-- the primitive int -/
def k18 : Class := { plain "int" none with kind := .primitive 'I', accessFlags := 0x411 }
/-- [I -/
def k19 : Class := { plain "[I" (some 0) with kind := .array 18 .int, interfaces := #[13, 2], accessFlags := 1041 }

def heap : Heap := #[{ cls := 7, slots := #[.long 0, .int 1, .null, .int 0, .null, .int 0, .int 0], vm := .statics 7 },
  { cls := 11, slots := #[.null, .null, .null], vm := .statics 11 }]
def classes : Array Class := #[k0, k1, k2, k3, k4, k5, k6, k7, k8, k9, k10, k11, k12, k13, k14, k15, k16, k17, k18, k19]
def interned : List (Array UInt16 × Addr) := []
def slotsUsed : Nat := 10
def theMethod : MethodId := ⟨1, 2⟩
def args0 : Array Value := #[.int 65600, .int 5, .int 3]
def aboutOver (below : List Frame) : State where
  vm := { classes := classes, interned := interned.toArray }
  heap := heap
  slotsUsed := slotsUsed
  threads := #[{ frames := .invoking theMethod args0 :: below }]
def below0 : List Frame := [.native { method := ⟨0, 0⟩, args := #[] }]
def about1 : State := aboutOver below0
def p0 : Program := .bare "" "" ""
def e0 : Env := launch0.env 0 0 0
theorem w_frames : about1.frames = Frame.invoking theMethod args0 :: below0 := rfl
set_option maxRecDepth 65536 in
theorem w_args : argsFit about1.vm theMethod args0 = true := by decide +kernel
set_option maxRecDepth 65536 in
theorem w_heap : heapFits about1 = true := by decide +kernel
set_option maxRecDepth 65536 in
theorem w_runnable : about1.curStatus? = some .runnable := by decide +kernel
set_option maxRecDepth 65536 in
theorem w_alone : about1.alone = true := by decide +kernel
set_option maxRecDepth 65536 in
theorem w_named : about1.methodNamed? x = some theMethod := by decide +kernel
set_option maxRecDepth 65536 in
theorem w_hears : about1.hears theMethod below0 = true := by decide +kernel
set_option maxRecDepth 65536 in
theorem w_ripe : about1.ripe theMethod args0 below0 = true := by decide +kernel
theorem w_running : about1.status = .running := rfl
set_option maxRecDepth 65536 in
theorem w_room : about1.hasRoom e0.platform room_1 = true :=
  launch0.hasRoom_least _ room_1 (by decide +kernel) (by decide +kernel) (by decide +kernel) (by decide +kernel) (by decide +kernel) (by decide +kernel)
theorem allAtoms_all (ts : List Jvm.Cond) (a : Array Jvm.Value) (st : Jvm.State) : (allAtoms ts).before a st = ts.all (fun c => c.before a st) := by
  induction ts with
  | nil => rfl
  | cons c t ih =>
    show (Jvm.Cond.and c (allAtoms t)).before a st = _
    rw [Jvm.Cond.before_and, ih, List.all_cons]
def words1 : List Jvm.Cond := Jvm.Cond.code x code maxLocals ret :: tables_1
/-- a 'code' word, met by the world's own term for the bytes: nothing is compared byte by byte -/
theorem code_word {y : MethodName} {bytes : ByteArray} {mx : Nat} {rt : Option FieldType} {a : Array Value} {s : State} {m : MethodId} {meth : Method} {c : Code} (h1 : s.methodNamed? y = some m) (h2 : s.vm.method? m = some meth) (h3 : meth.code = some c) (h4 : c.code = bytes)
    (h5 : (c.maxLocals == mx && c.exceptionTable.isEmpty && decide (c.maxStack ≤ mostOperands) && decide (meth.sig.returnType = rt) && !meth.locks && decide (parseMethodDescriptor y.desc = some meth.sig)) = true) : (Jvm.Cond.code y bytes mx rt).before a s = true := by
  simp only [Bool.and_eq_true, beq_iff_eq, Bool.not_eq_true', decide_eq_true_eq] at h5
  obtain ⟨⟨⟨⟨⟨g1, g2⟩, g3⟩, g4⟩, g5⟩, g6⟩ := h5
  simp [Cond.before, Cond.holds, Cond.value, h1, h2, h3, h4, g1, g2, g3, g4, g5, g6]
def isCode : Jvm.Cond → Bool
  | .code _ _ _ _ => true
  | _ => false
theorem all_split {L : List Jvm.Cond} {P : Jvm.Cond → Bool} (h1 : L.all (fun c => isCode c || P c) = true) (h2 : ∀ c ∈ L.filter isCode, P c = true) : L.all P = true := by
  refine List.all_eq_true.mpr fun c hc => ?_
  have h := List.all_eq_true.mp h1 c hc
  rcases Bool.eq_false_or_eq_true (isCode c) with hi | hi
  · exact h2 c (List.mem_filter.mpr ⟨hc, hi⟩)
  · simpa [hi] using h
set_option maxRecDepth 65536 in
theorem w_c0 : (Jvm.Cond.code x code maxLocals ret).before args0 about1 = true := code_word (m := ⟨1, 2⟩) (meth := k1m2) (c := k1c2) (by decide +kernel) rfl rfl rfl (by decide +kernel)
set_option maxRecDepth 65536 in
theorem w_c1 : (Jvm.Cond.code ({ cls := "com/example/boring_outbox/boringoutbox/EndpointChangeDescriptionPinLaw", name := "pick", desc := "(II)Ljava/lang/String;" } : Jvm.MethodName) method_2_code (4 : Nat) (Option.some (Jvm.ClassFile.FieldType.object "java/lang/String"))).before args0 about1 = true := code_word (m := ⟨1, 1⟩) (meth := k1m1) (c := k1c1) (by decide +kernel) rfl rfl rfl (by decide +kernel)
set_option maxRecDepth 65536 in
theorem w_c2 : (Jvm.Cond.code ({ cls := "java/lang/String", name := "valueOf", desc := "(C)Ljava/lang/String;" } : Jvm.MethodName) jdk_42_method_139_code (1 : Nat) (Option.some (Jvm.ClassFile.FieldType.object "java/lang/String"))).before args0 about1 = true := code_word (m := ⟨7, 2⟩) (meth := k7m2) (c := k7c2) (by decide +kernel) rfl rfl rfl (by decide +kernel)
set_option maxRecDepth 65536 in
theorem w_c3 : (Jvm.Cond.code ({ cls := "java/lang/StringLatin1", name := "canEncode", desc := "(C)Z" } : Jvm.MethodName) jdk_43_method_3_code (1 : Nat) (Option.some Jvm.ClassFile.FieldType.boolean)).before args0 about1 = true := code_word (m := ⟨8, 1⟩) (meth := k8m1) (c := k8c1) (by decide +kernel) rfl rfl rfl (by decide +kernel)
set_option maxRecDepth 65536 in
theorem w_c4 : (Jvm.Cond.code ({ cls := "java/lang/StringLatin1", name := "toBytes", desc := "(C)[B" } : Jvm.MethodName) jdk_43_method_46_code (1 : Nat) (Option.some (Jvm.ClassFile.FieldType.array Jvm.ClassFile.FieldType.byte))).before args0 about1 = true := code_word (m := ⟨8, 2⟩) (meth := k8m2) (c := k8c2) (by decide +kernel) rfl rfl rfl (by decide +kernel)
set_option maxRecDepth 65536 in
theorem w_c5 : (Jvm.Cond.code ({ cls := "java/lang/String", name := "<init>", desc := "([BB)V" } : Jvm.MethodName) jdk_42_method_151_code (3 : Nat) (Option.none : Option Jvm.ClassFile.FieldType)).before args0 about1 = true := code_word (m := ⟨7, 4⟩) (meth := k7m4) (c := k7c4) (by decide +kernel) rfl rfl rfl (by decide +kernel)
set_option maxRecDepth 65536 in
theorem w_c6 : (Jvm.Cond.code ({ cls := "java/lang/Object", name := "<init>", desc := "()V" } : Jvm.MethodName) object_method_1_code (1 : Nat) (Option.none : Option Jvm.ClassFile.FieldType)).before args0 about1 = true := code_word (m := ⟨0, 0⟩) (meth := k0m0) (c := k0c0) (by decide +kernel) rfl rfl rfl (by decide +kernel)
set_option maxRecDepth 65536 in
theorem w_c7 : (Jvm.Cond.code ({ cls := "com/example/boring_outbox/boringoutbox/EndpointChange", name := "<init>", desc := "()V" } : Jvm.MethodName) prog_12_method_1_code (1 : Nat) (Option.none : Option Jvm.ClassFile.FieldType)).before args0 about1 = true := code_word (m := ⟨9, 0⟩) (meth := k9m0) (c := k9c0) (by decide +kernel) rfl rfl rfl (by decide +kernel)
set_option maxRecDepth 65536 in
theorem w_c8 : (Jvm.Cond.code ({ cls := "com/example/boring_outbox/boringoutbox/EndpointChange", name := "describes", desc := "()Z" } : Jvm.MethodName) prog_12_method_11_code (1 : Nat) (Option.some Jvm.ClassFile.FieldType.boolean)).before args0 about1 = true := code_word (m := ⟨9, 3⟩) (meth := k9m3) (c := k9c3) (by decide +kernel) rfl rfl rfl (by decide +kernel)
set_option maxRecDepth 65536 in
theorem w_c9 : (Jvm.Cond.code ({ cls := "com/example/boring_outbox/boringoutbox/EndpointChange", name := "description", desc := "()Ljava/lang/String;" } : Jvm.MethodName) prog_12_method_12_code (1 : Nat) (Option.some (Jvm.ClassFile.FieldType.object "java/lang/String"))).before args0 about1 = true := code_word (m := ⟨9, 4⟩) (meth := k9m4) (c := k9c4) (by decide +kernel) rfl rfl rfl (by decide +kernel)
set_option maxRecDepth 65536 in
theorem w_c10 : (Jvm.Cond.code ({ cls := "com/example/boring_outbox/boringoutbox/EndpointChange", name := "description", desc := "(Ljava/lang/String;)Lcom/example/boring_outbox/boringoutbox/EndpointChange;" } : Jvm.MethodName) prog_12_method_6_code (2 : Nat) (Option.some (Jvm.ClassFile.FieldType.object "com/example/boring_outbox/boringoutbox/EndpointChange"))).before args0 about1 = true := code_word (m := ⟨9, 1⟩) (meth := k9m1) (c := k9c1) (by decide +kernel) rfl rfl rfl (by decide +kernel)
set_option maxRecDepth 65536 in
theorem w_c11 : (Jvm.Cond.code ({ cls := "com/example/boring_outbox/boringoutbox/EndpointChange", name := "url", desc := "()Ljava/lang/String;" } : Jvm.MethodName) prog_12_method_7_code (1 : Nat) (Option.some (Jvm.ClassFile.FieldType.object "java/lang/String"))).before args0 about1 = true := code_word (m := ⟨9, 2⟩) (meth := k9m2) (c := k9c2) (by decide +kernel) rfl rfl rfl (by decide +kernel)
set_option maxRecDepth 65536 in
theorem w_c12 : (Jvm.Cond.code ({ cls := "java/lang/String", name := "<init>", desc := "([C)V" } : Jvm.MethodName) jdk_42_method_3_code (2 : Nat) (Option.none : Option Jvm.ClassFile.FieldType)).before args0 about1 = true := code_word (m := ⟨7, 1⟩) (meth := k7m1) (c := k7c1) (by decide +kernel) rfl rfl rfl (by decide +kernel)
set_option maxRecDepth 65536 in
theorem w_c13 : (Jvm.Cond.code ({ cls := "java/lang/String", name := "<init>", desc := "([CIILjava/lang/Void;)V" } : Jvm.MethodName) jdk_42_method_149_code (6 : Nat) (Option.none : Option Jvm.ClassFile.FieldType)).before args0 about1 = true := code_word (m := ⟨7, 3⟩) (meth := k7m3) (c := k7c3) (by decide +kernel) rfl rfl rfl (by decide +kernel)
set_option maxRecDepth 65536 in
theorem w_c14 : (Jvm.Cond.code ({ cls := "java/lang/StringUTF16", name := "compress", desc := "([CII)[B" } : Jvm.MethodName) jdk_52_method_16_code (6 : Nat) (Option.some (Jvm.ClassFile.FieldType.array Jvm.ClassFile.FieldType.byte))).before args0 about1 = true := code_word (m := ⟨10, 2⟩) (meth := k10m2) (c := k10c2) (by decide +kernel) rfl rfl rfl (by decide +kernel)
set_option maxRecDepth 65536 in
theorem w_c15 : (Jvm.Cond.code ({ cls := "java/lang/StringUTF16", name := "compress", desc := "([CI[BII)I" } : Jvm.MethodName) jdk_52_method_21_code (7 : Nat) (Option.some Jvm.ClassFile.FieldType.int)).before args0 about1 = true := code_word (m := ⟨10, 3⟩) (meth := k10m3) (c := k10c3) (by decide +kernel) rfl rfl rfl (by decide +kernel)
set_option maxRecDepth 65536 in
theorem w_c16 : (Jvm.Cond.code ({ cls := "java/lang/StringUTF16", name := "coderFromArrayLen", desc := "([BI)B" } : Jvm.MethodName) jdk_52_method_15_code (2 : Nat) (Option.some Jvm.ClassFile.FieldType.byte)).before args0 about1 = true := code_word (m := ⟨10, 1⟩) (meth := k10m1) (c := k10c1) (by decide +kernel) rfl rfl rfl (by decide +kernel)
def codes1 : List Jvm.Cond := [Jvm.Cond.code x code maxLocals ret, Jvm.Cond.code ({ cls := "com/example/boring_outbox/boringoutbox/EndpointChangeDescriptionPinLaw", name := "pick", desc := "(II)Ljava/lang/String;" } : Jvm.MethodName) method_2_code (4 : Nat) (Option.some (Jvm.ClassFile.FieldType.object "java/lang/String")), Jvm.Cond.code ({ cls := "java/lang/String", name := "valueOf", desc := "(C)Ljava/lang/String;" } : Jvm.MethodName) jdk_42_method_139_code (1 : Nat) (Option.some (Jvm.ClassFile.FieldType.object "java/lang/String")), Jvm.Cond.code ({ cls := "java/lang/StringLatin1", name := "canEncode", desc := "(C)Z" } : Jvm.MethodName) jdk_43_method_3_code (1 : Nat) (Option.some Jvm.ClassFile.FieldType.boolean), Jvm.Cond.code ({ cls := "java/lang/StringLatin1", name := "toBytes", desc := "(C)[B" } : Jvm.MethodName) jdk_43_method_46_code (1 : Nat) (Option.some (Jvm.ClassFile.FieldType.array Jvm.ClassFile.FieldType.byte)), Jvm.Cond.code ({ cls := "java/lang/String", name := "<init>", desc := "([BB)V" } : Jvm.MethodName) jdk_42_method_151_code (3 : Nat) (Option.none : Option Jvm.ClassFile.FieldType), Jvm.Cond.code ({ cls := "java/lang/Object", name := "<init>", desc := "()V" } : Jvm.MethodName) object_method_1_code (1 : Nat) (Option.none : Option Jvm.ClassFile.FieldType), Jvm.Cond.code ({ cls := "com/example/boring_outbox/boringoutbox/EndpointChange", name := "<init>", desc := "()V" } : Jvm.MethodName) prog_12_method_1_code (1 : Nat) (Option.none : Option Jvm.ClassFile.FieldType), Jvm.Cond.code ({ cls := "com/example/boring_outbox/boringoutbox/EndpointChange", name := "describes", desc := "()Z" } : Jvm.MethodName) prog_12_method_11_code (1 : Nat) (Option.some Jvm.ClassFile.FieldType.boolean), Jvm.Cond.code ({ cls := "com/example/boring_outbox/boringoutbox/EndpointChange", name := "description", desc := "()Ljava/lang/String;" } : Jvm.MethodName) prog_12_method_12_code (1 : Nat) (Option.some (Jvm.ClassFile.FieldType.object "java/lang/String")), Jvm.Cond.code ({ cls := "com/example/boring_outbox/boringoutbox/EndpointChange", name := "description", desc := "(Ljava/lang/String;)Lcom/example/boring_outbox/boringoutbox/EndpointChange;" } : Jvm.MethodName) prog_12_method_6_code (2 : Nat) (Option.some (Jvm.ClassFile.FieldType.object "com/example/boring_outbox/boringoutbox/EndpointChange")), Jvm.Cond.code ({ cls := "com/example/boring_outbox/boringoutbox/EndpointChange", name := "url", desc := "()Ljava/lang/String;" } : Jvm.MethodName) prog_12_method_7_code (1 : Nat) (Option.some (Jvm.ClassFile.FieldType.object "java/lang/String")), Jvm.Cond.code ({ cls := "java/lang/String", name := "<init>", desc := "([C)V" } : Jvm.MethodName) jdk_42_method_3_code (2 : Nat) (Option.none : Option Jvm.ClassFile.FieldType), Jvm.Cond.code ({ cls := "java/lang/String", name := "<init>", desc := "([CIILjava/lang/Void;)V" } : Jvm.MethodName) jdk_42_method_149_code (6 : Nat) (Option.none : Option Jvm.ClassFile.FieldType), Jvm.Cond.code ({ cls := "java/lang/StringUTF16", name := "compress", desc := "([CII)[B" } : Jvm.MethodName) jdk_52_method_16_code (6 : Nat) (Option.some (Jvm.ClassFile.FieldType.array Jvm.ClassFile.FieldType.byte)), Jvm.Cond.code ({ cls := "java/lang/StringUTF16", name := "compress", desc := "([CI[BII)I" } : Jvm.MethodName) jdk_52_method_21_code (7 : Nat) (Option.some Jvm.ClassFile.FieldType.int), Jvm.Cond.code ({ cls := "java/lang/StringUTF16", name := "coderFromArrayLen", desc := "([BI)B" } : Jvm.MethodName) jdk_52_method_15_code (2 : Nat) (Option.some Jvm.ClassFile.FieldType.byte)]
set_option maxRecDepth 65536 in
theorem codes_eq : words1.filter isCode = codes1 := rfl
theorem w_codes : ∀ c ∈ words1.filter isCode, c.before args0 about1 = true := by
  rw [codes_eq]
  intro c hc
  simp only [codes1, List.mem_cons, List.not_mem_nil, or_false] at hc
  rcases hc with rfl | rfl | rfl | rfl | rfl | rfl | rfl | rfl | rfl | rfl | rfl | rfl | rfl | rfl | rfl | rfl | rfl
  · exact w_c0
  · exact w_c1
  · exact w_c2
  · exact w_c3
  · exact w_c4
  · exact w_c5
  · exact w_c6
  · exact w_c7
  · exact w_c8
  · exact w_c9
  · exact w_c10
  · exact w_c11
  · exact w_c12
  · exact w_c13
  · exact w_c14
  · exact w_c15
  · exact w_c16
set_option maxRecDepth 65536 in
theorem w_t1 : (words1.take 24).all (fun c => isCode c || c.before args0 about1) = true := by decide +kernel
set_option maxRecDepth 65536 in
theorem w_t2 : ((words1.drop 24).take 24).all (fun c => isCode c || c.before args0 about1) = true := by decide +kernel
set_option maxRecDepth 65536 in
theorem w_t3 : (((words1.drop 24).drop 24).take 24).all (fun c => isCode c || c.before args0 about1) = true := by decide +kernel
set_option maxRecDepth 65536 in
theorem w_t4 : (((words1.drop 24).drop 24).drop 24).all (fun c => isCode c || c.before args0 about1) = true := by decide +kernel
theorem w_tables : (allAtoms (Jvm.Cond.code x code maxLocals ret :: tables_1)).before args0 about1 = true := by
  rw [allAtoms_all]
  show words1.all (fun c => c.before args0 about1) = true
  refine all_split ?_ w_codes
  rw [← List.take_append_drop 24 words1, List.all_append, w_t1, ← List.take_append_drop 24 (words1.drop 24), List.all_append, w_t2, ← List.take_append_drop 24 ((words1.drop 24).drop 24), List.all_append, w_t3, w_t4]
  rfl
set_option maxRecDepth 65536 in
theorem w_rest : rest_1_c.before args0 about1 = true := by decide +kernel
set_option maxRecDepth 65536 in
theorem w_case : (Jvm.Cond.and given_1 narrow_1).before args0 about1 = true := by decide +kernel
set_option maxRecDepth 65536 in
theorem w_consts : constsHeld consts_1 about1 := Jvm.Lit.constsHeldB_iff.mp (by decide +kernel)
theorem w_applies : (headSpec (Jvm.Cond.code x code maxLocals ret :: tables_1) room_1).applies x e0.platform about1 = true :=
  (Spec.applies_iff w_frames).mpr ⟨w_running, w_runnable, w_alone, w_named, w_hears, w_ripe, w_room, w_tables⟩
theorem atStart : AtStart classFile x code maxLocals ret World_1 tables_1 room_1 Calls_1 rest_1 Pre_1 launch0 p0 e0 about1 theMethod args0 below0 :=
  ⟨lists_1, trivial, launch0.admits_env _ _ _, launch0.least_env, fairChoices_fair.cas, fairChoices_fair.clock, w_frames, w_args, w_heap, w_applies, ⟨w_consts, trivial⟩, w_rest, w_case⟩
end start1
theorem witness_1 : WitnessClaimed_1 := ⟨start1.p0, start1.e0, start1.about1, start1.theMethod, start1.args0, start1.below0, start1.atStart⟩
end Jvm.Pilot.@@N@@
