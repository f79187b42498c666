import JvmDerived
import JvmDerived.Pilot.@@N@@Statement
import JvmDerived.Pilot.@@N@@Code
set_option linter.unusedVariables false
set_option linter.unusedSimpArgs false
namespace Jvm.RoadKit
open Sem ClassFile Op Lib Jvm.Stand Jvm.Free Jvm.LawKit
section New
variable {p : Program} {l : Launch} {e : Env} {R : Room} {s : State} {m : MethodId} {args : Array Value} {below : List Frame} {meth : Method} {c : Code} {T : State} {locs : List Loc} {cells slots : Nat}
theorem retI (X : Stand p l e R s m args below meth c T locs cells slots) (hx : p.tables.exec = Jvm.exec) {pc : Nat} {Ls : Array Slot} {z : Int32} {rest : List Value} (hret : meth.sig.returnType = some .int) (hd : decode c.code pc = .ok (.ireturn, 1)) {fs : List Frame}
    (hl : ∀ (f : JFrame) (acts : List Action), f.method = m → f.locked = none → f.entered = [] → (doReturn e (T.setTop f) acts (some (.int z))).1 = T.setFrames fs) : Steps p.tables e below (T.setTop (mkF m pc Ls (.int z :: rest))) (T.setFrames fs) := by
  have hm' : T.vm.method? m = some meth := X.method'
  have hn : narrow .int (.int z) = .int z := rfl
  show Steps p.tables e below (T.setTop { method := m, pc := pc, locals := Ls, stack := _ :: rest, locked := none }) _
  jvm_step X.here [X.here.top, hx, hd, hm', hret, hn]
  first | (intro acts; rw [hl _ acts rfl rfl rfl]) | rw [hl _ _ rfl rfl rfl]
  exact Steps.refl _
end New
end Jvm.RoadKit
/- laws to paste: Road.backV (cut by pick.py; bodies as the Statement names them) -/
namespace Jvm.Pilot.@@N@@
namespace StrChars
open Jvm Sem ClassFile Op Lib Jvm.Stand Jvm.Free.XT Jvm.Free.ALB Jvm.Free.JM Jvm.Free
open Jvm.Lib.Cold (StaticIs)
/-- a char array whose places are chars -/
def Ch (a : Addr) (A : Cell) (U : State) : Prop := Arr .char a A U ∧ Typed .char A
theorem Ch.mv {a : Addr} {A : Cell} {U U' : State} (h : Ch a A U) (hal : U.vm.Alike U'.vm) (hh : U'.heap = U.heap) : Ch a A U' := ⟨h.1.mv hal hh, h.2⟩
theorem Ch.keep {a : Addr} {A : Cell} {U U' : State} (h : Ch a A U) (hal : U.vm.Alike U'.vm) (hk : U'.heap[a]? = some A) : Ch a A U' := ⟨h.1.keep hal hk, h.2⟩
/-- what place i of a char[]'s cell holds -/
def cv (A : Cell) (i : Nat) : Int32 := match A.slots[i]? with | some (.int x) => x | _ => 0
theorem Ch.get {a : Addr} {A : Cell} {U : State} (h : Ch a A U) {i : Nat} (hi : i < A.slots.size) : A.slots[i]? = some (.int (cv A i)) := by
  have e := Array.getElem?_eq_getElem hi
  have f := h.2 i _ e
  unfold cv; rw [e]
  generalize A.slots[i] = v at f
  cases v <;> simp [fits] at f ⊢
/-- the byte that i2b leaves of a char -/
def lo8 (x : Int32) : Int32 := x.toInt8.toInt32
theorem fits_lo8 (y : Int32) : fits .byte (.int (lo8 y)) = true := by
  have h1 := y.toInt8.le_toInt
  have h2 := y.toInt8.toInt_lt
  simp only [lo8, fits, Bool.and_eq_true, decide_eq_true_eq, Int32.le_iff_toInt_le, Int8.toInt_toInt32, show (-128 : Int32).toInt = -128 from by decide, show (127 : Int32).toInt = 127 from by decide]
  omega
/-- A' is A but that each place j of lo .. hi - 1 holds f j -/
def Laid (A A' : Cell) (lo hi : Nat) (f : Nat → Value) : Prop := A'.cls = A.cls ∧ A'.vm = A.vm ∧ A'.slots.size = A.slots.size ∧ ∀ i, A'.slots[i]? = if lo ≤ i ∧ i < hi then some (f i) else A.slots[i]?
theorem Laid.zero (A : Cell) (lo : Nat) (f : Nat → Value) : Laid A A lo (lo + 0) f := ⟨rfl, rfl, rfl, fun i => by rw [if_neg (by omega)]⟩
theorem Laid.step {A Ak : Cell} {lo k : Nat} {f : Nat → Value} {v : Value} (h : Laid A Ak lo k f) (hlo : lo ≤ k) (hk : k < Ak.slots.size) (hv : v = f k) : Laid A (Ak.setSlot k v) lo (k + 1) f := by
  refine ⟨h.1, h.2.1, by simpa [Cell.setSlot] using h.2.2.1, fun i => ?_⟩
  by_cases e : k = i
  · subst e; rw [Cell.slots_setSlot_self v hk, if_pos (by omega), hv]
  · rw [Cell.slots_setSlot_ne v e, h.2.2.2 i]
    by_cases q : lo ≤ i ∧ i < k
    · rw [if_pos q, if_pos (by omega)]
    · rw [if_neg q, if_neg (by omega)]
def U16 : String := "java/lang/StringUTF16"
namespace Cmp5
def yN : MethodName := ⟨"java/lang/StringUTF16", "compress", "([CI[BII)I"⟩
abbrev yB : ByteArray := jdk_52_method_21_code
theorem d0 : decode yB 0 = .ok (.iconst 0, 1) := by decide +kernel
theorem d1 : decode yB 1 = .ok (.istore 5, 2) := by decide +kernel
theorem d3 : decode yB 3 = .ok (.iload 5, 2) := by decide +kernel
theorem d5 : decode yB 5 = .ok (.iload 4, 2) := by decide +kernel
theorem d7 : decode yB 7 = .ok (.if_icmp (.ge) 37, 3) := by decide +kernel
theorem d10 : decode yB 10 = .ok (.aload_n 0, 1) := by decide +kernel
theorem d11 : decode yB 11 = .ok (.iload_n 1, 1) := by decide +kernel
theorem d12 : decode yB 12 = .ok (.caload, 1) := by decide +kernel
theorem d13 : decode yB 13 = .ok (.istore 6, 2) := by decide +kernel
theorem d15 : decode yB 15 = .ok (.iload 6, 2) := by decide +kernel
theorem d17 : decode yB 17 = .ok (.sipush 255, 3) := by decide +kernel
theorem d20 : decode yB 20 = .ok (.if_icmp (.le) 6, 3) := by decide +kernel
theorem d26 : decode yB 26 = .ok (.aload_n 2, 1) := by decide +kernel
theorem d27 : decode yB 27 = .ok (.iload_n 3, 1) := by decide +kernel
theorem d28 : decode yB 28 = .ok (.iload 6, 2) := by decide +kernel
theorem d30 : decode yB 30 = .ok (.i2b, 1) := by decide +kernel
theorem d31 : decode yB 31 = .ok (.bastore, 1) := by decide +kernel
theorem d32 : decode yB 32 = .ok (.iinc 1 1, 3) := by decide +kernel
theorem d35 : decode yB 35 = .ok (.iinc 3 1, 3) := by decide +kernel
theorem d38 : decode yB 38 = .ok (.iinc 5 1, 3) := by decide +kernel
theorem d41 : decode yB 41 = .ok (.goto (-38), 3) := by decide +kernel
theorem d44 : decode yB 44 = .ok (.iload 4, 2) := by decide +kernel
theorem d46 : decode yB 46 = .ok (.ireturn, 1) := by decide +kernel
def site : List Cond := []
def tab : Cond := tabOf yN yB 7 (some .int) site
def P (b : Addr) (A : Cell) (d : Addr) (B : Cell) (o q len : Nat) (args : Array Value) (s : State) : Prop := args = #[.ref b, .int (Int32.ofNat o), .ref d, .int (Int32.ofNat q), .int (Int32.ofNat len)] ∧ Ch b A s ∧ Arr .byte d B s ∧ b ≠ d ∧ o + len ≤ A.slots.size ∧ q + len ≤ B.slots.size ∧ ∀ i, i < len → ¬ 255 < cv A (o + i)
def E (b : Addr) (A : Cell) (d : Addr) (B : Cell) (o q len : Nat) (r : Option Value) (s u : State) : Prop := r = some (.int (Int32.ofNat len)) ∧ ∃ B', Put d B' s u ∧ Laid B B' q (q + len) (fun j => Value.int (lo8 (cv A (o + (j - q)))))
/-- no char of the range above 255: len; the places written hold each char's low byte -/
theorem law (l : Launch) (b : Addr) (A : Cell) (d : Addr) (B : Cell) (o q len : Nat) : Law l yN 5 5 0 0 yB 7 (some .int) site (P b A d B o q len) (E b A d B o q len) (copyLocs d q len) 0 0 := by
  refine Law.of_walk (plainFor_of_name (by decide +kernel)) (by decide +kernel) (by decide +kernel) (by decide) (fun _ _ h => by rw [h.1]; rfl) (fun _ U U' hal hh h => ⟨h.1, h.2.1.mv hal hh, h.2.2.1.mv hal hh, h.2.2.2⟩) (fun r U U' V V' h1 hal h2 h => ⟨h.1, h.2.elim fun B' q => ⟨B', q.1.mv h1 h2, q.2⟩⟩) ?_
  intro p e s m args below meth c s₁ X0 hexec hbytes hml hret hlk hnm hown hh0 W hP
  obtain ⟨rfl, hA, hB, hne, l1, l2, hp⟩ := hP
  have c1 : Steps p.tables e below (s₁.setTop (entryFrame m #[.ref b, .int (Int32.ofNat o), .ref d, .int (Int32.ofNat q), .int (Int32.ofNat len)] 7)) (s₁.setTop (mkF m 0 #[.val (.ref b), .val (.int (Int32.ofNat o)), .val (.ref d), .val (.int (Int32.ofNat q)), .val (.int (Int32.ofNat len)), .unset, .unset] [])) := entry rfl
  have hA0 := hA.1.mv X0.warmed.alike hh0
  have hB0 := hB.mv X0.warmed.alike hh0
  have a31 := hA.1.2.2.2
  have c2 : Steps p.tables e below (s₁.setTop (entryFrame m #[.ref b, .int (Int32.ofNat o), .ref d, .int (Int32.ofNat q), .int (Int32.ofNat len)] 7)) (s₁.setTop (mkF m 3 #[.val (.ref b), .val (.int (Int32.ofNat o)), .val (.ref d), .val (.int (Int32.ofNat q)), .val (.int (Int32.ofNat len)), .val (.int 0), .unset] [])) := c1.trans (by
    refine iconstV X0.here hexec rfl 0 (hb hbytes d0) (by decide) ?_
    refine XS.istore X0.here hexec rfl (hb hbytes d1) rfl rfl ?_
    exact Steps.refl _)
  have loop : ∀ (r i : Nat), i + r = len → ∀ (z : Slot), (z = .unset ∨ ∃ w, z = .val w ∧ w.category = 1) → ∀ (Tl : State) (Bk : Cell), Stand p l e { frames := 0, locals := 0, cells := 0, slots := 0 } s m #[.ref b, .int (Int32.ofNat o), .ref d, .int (Int32.ofNat q), .int (Int32.ofNat len)] below meth c Tl ([] ++ copyLocs d q i) 0 0 → Put d Bk s₁ Tl → Laid B Bk q (q + i) (fun j => Value.int (lo8 (cv A (o + (j - q))))) →
      Steps p.tables e below (s₁.setTop (entryFrame m #[.ref b, .int (Int32.ofNat o), .ref d, .int (Int32.ofNat q), .int (Int32.ofNat len)] 7)) (Tl.setTop (mkF m 3 #[.val (.ref b), .val (.int (Int32.ofNat (o + i))), .val (.ref d), .val (.int (Int32.ofNat (q + i))), .val (.int (Int32.ofNat len)), .val (.int (Int32.ofNat i)), z] [])) → ∃ (T' : State) (B' : Cell) (z' : Slot), Stand p l e { frames := 0, locals := 0, cells := 0, slots := 0 } s m #[.ref b, .int (Int32.ofNat o), .ref d, .int (Int32.ofNat q), .int (Int32.ofNat len)] below meth c T' ([] ++ copyLocs d q len) 0 0 ∧ Put d B' s₁ T' ∧ Laid B B' q (q + len) (fun j => Value.int (lo8 (cv A (o + (j - q))))) ∧
      Steps p.tables e below (s₁.setTop (entryFrame m #[.ref b, .int (Int32.ofNat o), .ref d, .int (Int32.ofNat q), .int (Int32.ofNat len)] 7)) (T'.setTop (mkF m 3 #[.val (.ref b), .val (.int (Int32.ofNat (o + len))), .val (.ref d), .val (.int (Int32.ofNat (q + len))), .val (.int (Int32.ofNat len)), .val (.int (Int32.ofNat len)), z'] [])) := by
    intro r
    induction r with
    | zero =>
      intro i hi z hz Tl Bk Xl pl fl cl
      have hil : i = len := by omega
      rw [hil] at Xl fl cl
      exact ⟨Tl, Bk, z, Xl, pl, fl, cl⟩
    | succ r ih =>
      intro i hi z hz Tl Bk Xl pl fl cl
      have all := X0.warmed.alike.symm.trans Xl.warmed.alike
      have hAl := hA0.keep all (pl.other hne hA0.1)
      have hBk := hB0.like all pl.1 fl.1 fl.2.1 fl.2.2.1
      have hlt : q + i < Bk.slots.size := by rw [fl.2.2.1]; omega
      have c3 : Steps p.tables e below (s₁.setTop (entryFrame m #[.ref b, .int (Int32.ofNat o), .ref d, .int (Int32.ofNat q), .int (Int32.ofNat len)] 7)) (Tl.setTop (mkF m 12 #[.val (.ref b), .val (.int (Int32.ofNat (o + i))), .val (.ref d), .val (.int (Int32.ofNat (q + i))), .val (.int (Int32.ofNat len)), .val (.int (Int32.ofNat i)), z] [.int (Int32.ofNat (o + i)), .ref b])) := cl.trans (by
        refine XS.iload Xl.here hexec rfl (hb hbytes d3) rfl ?_
        refine XS.iload Xl.here hexec rfl (hb hbytes d5) rfl ?_
        refine XS.icmpNo Xl.here hexec rfl (hb hbytes d7) rfl (ii_ge_f (lt32 (by omega) (by omega))) ?_
        refine XS.aloadN Xl.here hexec rfl (hb hbytes d10) rfl rfl ?_
        refine XS.iloadN Xl.here hexec rfl (hb hbytes d11) rfl ?_
        exact Steps.refl _)
      have c4 : Steps p.tables e below (s₁.setTop (entryFrame m #[.ref b, .int (Int32.ofNat o), .ref d, .int (Int32.ofNat q), .int (Int32.ofNat len)] 7)) (Tl.setTop (mkF m 13 #[.val (.ref b), .val (.int (Int32.ofNat (o + i))), .val (.ref d), .val (.int (Int32.ofNat (q + i))), .val (.int (Int32.ofNat len)), .val (.int (Int32.ofNat i)), z] [.int (cv A (o + i))])) := c3.trans (by
        refine Xl.aget hexec hAl rfl (hA.get (i := o + i) (by omega)) rfl rfl (hb hbytes d12) ?_
        exact Steps.refl _)
      have c5 : Steps p.tables e below (s₁.setTop (entryFrame m #[.ref b, .int (Int32.ofNat o), .ref d, .int (Int32.ofNat q), .int (Int32.ofNat len)] 7)) (Tl.setTop (mkF m 15 #[.val (.ref b), .val (.int (Int32.ofNat (o + i))), .val (.ref d), .val (.int (Int32.ofNat (q + i))), .val (.int (Int32.ofNat len)), .val (.int (Int32.ofNat i)), .val (.int (cv A (o + i)))] [])) := c4.trans (by
        refine XS.istoreS Xl.here hexec rfl (hb hbytes d13) rfl rfl hz ?_
        exact Steps.refl _)
      have c6 : Steps p.tables e below (s₁.setTop (entryFrame m #[.ref b, .int (Int32.ofNat o), .ref d, .int (Int32.ofNat q), .int (Int32.ofNat len)] 7)) (Tl.setTop (mkF m 31 #[.val (.ref b), .val (.int (Int32.ofNat (o + i))), .val (.ref d), .val (.int (Int32.ofNat (q + i))), .val (.int (Int32.ofNat len)), .val (.int (Int32.ofNat i)), .val (.int (cv A (o + i)))] [.int (lo8 (cv A (o + i))), .int (Int32.ofNat (q + i)), .ref d])) := c5.trans (by
        refine XS.iload Xl.here hexec rfl (hb hbytes d15) rfl ?_
        refine sipushV Xl.here hexec rfl 255 (hb hbytes d17) (by decide) ?_
        refine XS.icmpYes Xl.here hexec rfl (pc0 := 20) rfl (hb hbytes d20) rfl (ii_le_t (hp i (by omega))) (by decide) rfl ?_
        refine XS.aloadN Xl.here hexec rfl (hb hbytes d26) rfl rfl ?_
        refine XS.iloadN Xl.here hexec rfl (hb hbytes d27) rfl ?_
        refine XS.iload Xl.here hexec rfl (hb hbytes d28) rfl ?_
        refine i2b Xl.here hexec rfl (hb hbytes d30) rfl ?_
        exact Steps.refl _)
      obtain ⟨T7, X7, p7, st7⟩ := Xl.aput hexec hBk rfl hlt rfl (fits_lo8 (cv A (o + i))) (g := (mkF m 31 #[.val (.ref b), .val (.int (Int32.ofNat (o + i))), .val (.ref d), .val (.int (Int32.ofNat (q + i))), .val (.int (Int32.ofNat len)), .val (.int (Int32.ofNat i)), .val (.int (cv A (o + i)))] [.int (lo8 (cv A (o + i))), .int (Int32.ofNat (q + i)), .ref d])) rfl (rest := []) rfl (hb hbytes d31)
      have c8 : Steps p.tables e below (s₁.setTop (entryFrame m #[.ref b, .int (Int32.ofNat o), .ref d, .int (Int32.ofNat q), .int (Int32.ofNat len)] 7)) (T7.setTop (mkF m 32 #[.val (.ref b), .val (.int (Int32.ofNat (o + i))), .val (.ref d), .val (.int (Int32.ofNat (q + i))), .val (.int (Int32.ofNat len)), .val (.int (Int32.ofNat i)), .val (.int (cv A (o + i)))] [])) := c6.trans (st7 _ (Steps.refl _))
      have c9 : Steps p.tables e below (s₁.setTop (entryFrame m #[.ref b, .int (Int32.ofNat o), .ref d, .int (Int32.ofNat q), .int (Int32.ofNat len)] 7)) (T7.setTop (mkF m 3 #[.val (.ref b), .val (.int (Int32.ofNat (o + i) + 1)), .val (.ref d), .val (.int (Int32.ofNat (q + i) + 1)), .val (.int (Int32.ofNat len)), .val (.int (Int32.ofNat i + 1)), .val (.int (cv A (o + i)))] [])) := c8.trans (by
        refine iincV X7.here hexec rfl 1 (hb hbytes d32) (by decide) rfl rfl ?_
        refine iincV X7.here hexec rfl 1 (hb hbytes d35) (by decide) rfl rfl ?_
        refine iincV X7.here hexec rfl 1 (hb hbytes d38) (by decide) rfl rfl ?_
        refine XS.goto X7.here hexec rfl (pc0 := 41) rfl (hb hbytes d41) (by decide) rfl ?_
        exact Steps.refl _)
      have c10 : Steps p.tables e below (s₁.setTop (entryFrame m #[.ref b, .int (Int32.ofNat o), .ref d, .int (Int32.ofNat q), .int (Int32.ofNat len)] 7)) (T7.setTop (mkF m 3 #[.val (.ref b), .val (.int (Int32.ofNat (o + (i + 1)))), .val (.ref d), .val (.int (Int32.ofNat (q + (i + 1)))), .val (.int (Int32.ofNat len)), .val (.int (Int32.ofNat (i + 1))), .val (.int (cv A (o + i)))] [])) := by
        have := c9
        rw [succ32, succ32, succ32] at this
        exact this
      exact ih (i + 1) (by omega) _ (Or.inr ⟨_, rfl, rfl⟩) T7 _ (by rw [copyLocs_step, ← List.append_assoc]; exact X7) (pl.trans p7) (fl.step (by omega) hlt (by simp)) c10
  obtain ⟨T9, B9, z9, X9, p9, f9, g9⟩ := loop len 0 (by omega) .unset (Or.inl rfl) s₁ B (by simpa [copyLocs] using X0) ⟨hB0.1, fun _ _ => rfl, rfl⟩ (Laid.zero _ _ _) c2
  have c11 : Steps p.tables e below (s₁.setTop (entryFrame m #[.ref b, .int (Int32.ofNat o), .ref d, .int (Int32.ofNat q), .int (Int32.ofNat len)] 7)) (T9.setTop (mkF m 46 #[.val (.ref b), .val (.int (Int32.ofNat (o + len))), .val (.ref d), .val (.int (Int32.ofNat (q + len))), .val (.int (Int32.ofNat len)), .val (.int (Int32.ofNat len)), z9] [.int (Int32.ofNat len)])) := g9.trans (by
    refine XS.iload X9.here hexec rfl (hb hbytes d3) rfl ?_
    refine XS.iload X9.here hexec rfl (hb hbytes d5) rfl ?_
    refine XS.icmpYes X9.here hexec rfl (pc0 := 7) rfl (hb hbytes d7) rfl (ii_ge_t (nlt32 (by omega) (Nat.le_refl _))) (by decide) rfl ?_
    refine XS.iload X9.here hexec rfl (hb hbytes d44) rfl ?_
    exact Steps.refl _)
  exact ⟨T9, some (.int (Int32.ofNat len)), _, _, _, X9, by simp, rfl, rfl, (fun h => by cases h), ⟨rfl, B9, p9.from hh0, f9⟩, fun fs hl => c11.trans (X9.ireturnOut hexec hret rfl (Or.inl rfl) (hb hbytes d46) hl)⟩
end Cmp5
namespace Cmp3
def yN : MethodName := ⟨"java/lang/StringUTF16", "compress", "([CII)[B"⟩
abbrev yB : ByteArray := jdk_52_method_16_code
theorem d0 : decode yB 0 = .ok (.iload_n 2, 1) := by decide +kernel
theorem d1 : decode yB 1 = .ok (.newarray .byte, 2) := by decide +kernel
theorem d3 : decode yB 3 = .ok (.astore_n 3, 1) := by decide +kernel
theorem d4 : decode yB 4 = .ok (.aload_n 0, 1) := by decide +kernel
theorem d5 : decode yB 5 = .ok (.iload_n 1, 1) := by decide +kernel
theorem d6 : decode yB 6 = .ok (.aload_n 3, 1) := by decide +kernel
theorem d7 : decode yB 7 = .ok (.iconst 0, 1) := by decide +kernel
theorem d8 : decode yB 8 = .ok (.iload_n 2, 1) := by decide +kernel
theorem d9 : decode yB 9 = .ok (.invokestatic 115, 3) := by decide +kernel
theorem d12 : decode yB 12 = .ok (.istore 4, 2) := by decide +kernel
theorem d14 : decode yB 14 = .ok (.iload 4, 2) := by decide +kernel
theorem d16 : decode yB 16 = .ok (.iload_n 2, 1) := by decide +kernel
theorem d17 : decode yB 17 = .ok (.if_icmp (.eq) 40, 3) := by decide +kernel
theorem d57 : decode yB 57 = .ok (.aload_n 3, 1) := by decide +kernel
theorem d58 : decode yB 58 = .ok (.areturn, 1) := by decide +kernel
def site : List Cond := [.arrayClass .byte, Cmp5.tab] ++ staticW U16 115 Cmp5.yN
def tab : Cond := tabOf yN yB 6 (some (.array .byte)) site
def P (b : Addr) (A : Cell) (o len : Nat) (args : Array Value) (s : State) : Prop := args = #[.ref b, .int (Int32.ofNat o), .int (Int32.ofNat len)] ∧ Ch b A s ∧ o + len ≤ A.slots.size ∧ len ≤ 536870912 ∧ ∀ i, i < len → ¬ 255 < cv A (o + i)
def E (b : Addr) (A : Cell) (o len : Nat) (r : Option Value) (s u : State) : Prop := NewArr .byte "[B" len (fun j => .int (lo8 (cv A (o + j)))) r s u ∧ u.heap.size = s.heap.size + 1
/-- no char of the range above 255: a new byte[] of their low bytes -/
theorem law (l : Launch) (b : Addr) (A : Cell) (o len : Nat) : Law l yN 3 3 1 18 yB 6 (some (.array .byte)) site (P b A o len) (E b A o len) [] 1 len := by
  refine Law.of_walk (plainFor_of_name (by decide +kernel)) (by decide +kernel) (by decide +kernel) (by decide) (fun _ _ h => by rw [h.1]; rfl) (fun _ U U' hal hh h => ⟨h.1, h.2.1.mv hal hh, h.2.2⟩) (fun r U U' V V' h1 hal h2 h => ⟨NewArr.mv r U U' V V' h1 hal h2 h.1, by rw [h1, h2]; exact h.2⟩) ?_
  intro p e s m args below meth c s₁ X0 hexec hbytes hml hret hlk hnm hown hh0 W hP
  obtain ⟨rfl, hA, l1, l2, hp⟩ := hP
  have a31 := hA.1.2.2.2
  have c1 : Steps p.tables e below (s₁.setTop (entryFrame m #[.ref b, .int (Int32.ofNat o), .int (Int32.ofNat len)] 6)) (s₁.setTop (mkF m 0 #[.val (.ref b), .val (.int (Int32.ofNat o)), .val (.int (Int32.ofNat len)), .unset, .unset, .unset] [])) := entry rfl
  have c2 : Steps p.tables e below (s₁.setTop (entryFrame m #[.ref b, .int (Int32.ofNat o), .int (Int32.ofNat len)] 6)) (s₁.setTop (mkF m 1 #[.val (.ref b), .val (.int (Int32.ofNat o)), .val (.int (Int32.ofNat len)), .unset, .unset, .unset] [.int (Int32.ofNat len)])) := c1.trans (by
    refine XS.iloadN X0.here hexec rfl (hb hbytes d0) rfl ?_
    exact Steps.refl _)
  obtain ⟨T3, B3, X3, ba3, bs3, bv3, bh3, bf3, st3⟩ := X0.anew hexec (atype := .byte) (wk W (.arrayClass .byte)) rfl (by show len * 1 ≤ _; omega) (by omega) (g := (mkF m 1 #[.val (.ref b), .val (.int (Int32.ofNat o)), .val (.int (Int32.ofNat len)), .unset, .unset, .unset] [.int (Int32.ofNat len)])) rfl (hb hbytes d1) (rest := []) rfl (Nat.le_refl _) (by show 0 + len ≤ len; omega)
  rw [hh0] at ba3 st3
  have kp3 : XT.Kept s T3 := (XT.Kept.of_eq hh0).push bh3
  have hA3 := hA.keep X3.warmed.alike (kp3 _ _ hA.1.1)
  have hne : b ≠ s.heap.size := hA.1.ne
  have c4 : Steps p.tables e below (s₁.setTop (entryFrame m #[.ref b, .int (Int32.ofNat o), .int (Int32.ofNat len)] 6)) (T3.setTop (mkF m 3 #[.val (.ref b), .val (.int (Int32.ofNat o)), .val (.int (Int32.ofNat len)), .unset, .unset, .unset] [.ref s.heap.size])) := c2.trans (st3 _ (Steps.refl _))
  have c5 : Steps p.tables e below (s₁.setTop (entryFrame m #[.ref b, .int (Int32.ofNat o), .int (Int32.ofNat len)] 6)) (T3.setTop (mkF m 9 #[.val (.ref b), .val (.int (Int32.ofNat o)), .val (.int (Int32.ofNat len)), .val (.ref s.heap.size), .unset, .unset] [.int (Int32.ofNat len), .int 0, .ref s.heap.size, .int (Int32.ofNat o), .ref b])) := c4.trans (by
    refine XS.astoreN X3.here hexec rfl (hb hbytes d3) rfl rfl rfl ?_
    refine XS.aloadN X3.here hexec rfl (hb hbytes d4) rfl rfl ?_
    refine XS.iloadN X3.here hexec rfl (hb hbytes d5) rfl ?_
    refine XS.aloadN X3.here hexec rfl (hb hbytes d6) rfl rfl ?_
    refine iconstV X3.here hexec rfl 0 (hb hbytes d7) (by decide) ?_
    refine XS.iloadN X3.here hexec rfl (hb hbytes d8) rfl ?_
    exact Steps.refl _)
  obtain ⟨v6, T6, X6, E6, g6⟩ := X3.callS hexec (Cmp5.law l b A s.heap.size B3 o 0 len) hown (wks W (staticW U16 115 Cmp5.yN)) (wk W Cmp5.tab) (W := 0) (Nat.le_of_ble_eq_true rfl) (Nat.le_of_ble_eq_true rfl) (Nat.le_refl _) (by show 0 + len + 0 ≤ len; omega) (g := (mkF m 9 #[.val (.ref b), .val (.int (Int32.ofNat o)), .val (.int (Int32.ofNat len)), .val (.ref s.heap.size), .unset, .unset] [.int (Int32.ofNat len), .int (Int32.ofNat 0), .ref s.heap.size, .int (Int32.ofNat o), .ref b])) rfl (by rw [hml]; rfl) c5 (argsL := [.ref b, .int (Int32.ofNat o), .ref s.heap.size, .int (Int32.ofNat 0), .int (Int32.ofNat len)]) (rest := []) rfl rfl (by show 2 * 0 + 0 ≤ _; decide) (hb hbytes d9) (⟨rfl, hA3, ba3, hne, l1, by rw [bs3]; simp, hp⟩)
  obtain ⟨rfl, B6, p6, f6⟩ := E6
  have c7 : Steps p.tables e below (s₁.setTop (entryFrame m #[.ref b, .int (Int32.ofNat o), .int (Int32.ofNat len)] 6)) (T6.setTop (mkF m 12 #[.val (.ref b), .val (.int (Int32.ofNat o)), .val (.int (Int32.ofNat len)), .val (.ref s.heap.size), .unset, .unset] [.int (Int32.ofNat len)])) := g6
  have c8 : Steps p.tables e below (s₁.setTop (entryFrame m #[.ref b, .int (Int32.ofNat o), .int (Int32.ofNat len)] 6)) (T6.setTop (mkF m 58 #[.val (.ref b), .val (.int (Int32.ofNat o)), .val (.int (Int32.ofNat len)), .val (.ref s.heap.size), .val (.int (Int32.ofNat len)), .unset] [.ref s.heap.size])) := c7.trans (by
    refine XS.istore X6.here hexec rfl (hb hbytes d12) rfl rfl ?_
    refine XS.iload X6.here hexec rfl (hb hbytes d14) rfl ?_
    refine XS.iloadN X6.here hexec rfl (hb hbytes d16) rfl ?_
    refine XS.icmpYes X6.here hexec rfl (pc0 := 17) rfl (hb hbytes d17) rfl (ii_eq_t rfl) (by decide) rfl ?_
    refine XS.aloadN X6.here hexec rfl (hb hbytes d57) rfl rfl ?_
    exact Steps.refl _)
  have X8 := X6.wide (L' := []) (cells' := 1) (slots' := len) (fun x hx hlt => by
    simp only [List.nil_append, copyLocs, List.mem_map, List.mem_range] at hx
    obtain ⟨i, -, rfl⟩ := hx
    exact absurd hlt (Nat.lt_irrefl _)) (Nat.le_refl _) (by omega)
  exact ⟨T6, some (.ref s.heap.size), _, _, _, X8, rfl, rfl, rfl, (fun h => by cases h), ⟨⟨rfl, B6, ba3.like (X3.warmed.alike.symm.trans X6.warmed.alike) p6.1 f6.1 f6.2.1 f6.2.2.1, f6.2.1.trans bv3, by rw [X6.warmed.alike.findClass, f6.1]; exact bf3, by rw [f6.2.2.1, bs3]; simp, fun j hj => by rw [f6.2.2.2 j, if_pos (by omega)]; rfl, kp3.put p6 (Nat.le_refl _)⟩, by rw [p6.2.2, bh3, hh0]; simp⟩, fun fs hl => c8.trans (X8.areturnOut hexec rfl hret rfl (hb hbytes d58) hl)⟩
end Cmp3
namespace CodL
def yN : MethodName := ⟨"java/lang/StringUTF16", "coderFromArrayLen", "([BI)B"⟩
abbrev yB : ByteArray := jdk_52_method_15_code
theorem d0 : decode yB 0 = .ok (.iload_n 1, 1) := by decide +kernel
theorem d1 : decode yB 1 = .ok (.aload_n 0, 1) := by decide +kernel
theorem d2 : decode yB 2 = .ok (.arraylength, 1) := by decide +kernel
theorem d3 : decode yB 3 = .ok (.isub, 1) := by decide +kernel
theorem d4 : decode yB 4 = .ok (.bipush 31, 2) := by decide +kernel
theorem d6 : decode yB 6 = .ok (.iushr, 1) := by decide +kernel
theorem d7 : decode yB 7 = .ok (.i2b, 1) := by decide +kernel
theorem d8 : decode yB 8 = .ok (.ireturn, 1) := by decide +kernel
def site : List Cond := []
def tab : Cond := tabOf yN yB 2 (some .byte) site
def P (d : Addr) (B : Cell) (args : Array Value) (s : State) : Prop := args = #[.ref d, .int (Int32.ofNat B.slots.size)] ∧ Arr .byte d B s
def E (r : Option Value) (s u : State) : Prop := XT.PureE (some (.int 0)) r s u
/-- an array as long as the number of chars: LATIN1 -/
theorem law (l : Launch) (d : Addr) (B : Cell) : Law l yN 2 2 0 0 yB 2 (some .byte) site (P d B) E [] 0 0 := by
  refine Law.of_walk (plainFor_of_name (by decide +kernel)) (by decide +kernel) (by decide +kernel) (by decide) (fun _ _ h => by rw [h.1]; rfl) (fun _ U U' hal hh h => ⟨h.1, h.2.mv hal hh⟩) (fun r U U' V V' h1 hal h2 h => XT.PureE.mv r U U' V V' h1 hal h2 h) ?_
  intro p e s m args below meth c s₁ X0 hexec hbytes hml hret hlk hnm hown hh0 W hP
  obtain ⟨rfl, hB⟩ := hP
  have hB0 := hB.mv X0.warmed.alike hh0
  have c1 : Steps p.tables e below (s₁.setTop (entryFrame m #[.ref d, .int (Int32.ofNat B.slots.size)] 2)) (s₁.setTop (mkF m 0 #[.val (.ref d), .val (.int (Int32.ofNat B.slots.size))] [])) := entry rfl
  have c2 : Steps p.tables e below (s₁.setTop (entryFrame m #[.ref d, .int (Int32.ofNat B.slots.size)] 2)) (s₁.setTop (mkF m 2 #[.val (.ref d), .val (.int (Int32.ofNat B.slots.size))] [.ref d, .int (Int32.ofNat B.slots.size)])) := c1.trans (by
    refine XS.iloadN X0.here hexec rfl (hb hbytes d0) rfl ?_
    refine XS.aloadN X0.here hexec rfl (hb hbytes d1) rfl rfl ?_
    exact Steps.refl _)
  have c3 : Steps p.tables e below (s₁.setTop (entryFrame m #[.ref d, .int (Int32.ofNat B.slots.size)] 2)) (s₁.setTop (mkF m 8 #[.val (.ref d), .val (.int (Int32.ofNat B.slots.size))] [.int (lo8 (ushr (Int32.ofNat B.slots.size - Int32.ofNat B.slots.size) 31))])) := c2.trans (by
    refine X0.alen hexec hB0 rfl rfl (hb hbytes d2) ?_
    refine XS.isub X0.here hexec rfl (hb hbytes d3) rfl ?_
    refine bipushV X0.here hexec rfl 31 (hb hbytes d4) (by decide) ?_
    refine iushr X0.here hexec rfl (hb hbytes d6) rfl ?_
    refine i2b X0.here hexec rfl (hb hbytes d7) rfl ?_
    exact Steps.refl _)
  have e0 : lo8 (ushr (Int32.ofNat B.slots.size - Int32.ofNat B.slots.size) 31) = 0 := by rw [Int32.sub_self]; decide
  rw [e0] at c3
  exact ⟨s₁, some (.int 0), _, _, _, X0, rfl, rfl, rfl, (fun h => by cases h), ⟨rfl, hh0⟩, fun fs hl => c3.trans (X0.ireturnOut hexec hret rfl (Or.inr (Or.inr (Or.inl rfl))) (hb hbytes d8) hl)⟩
end CodL
/-- the String at a is Latin-1 over a new byte[] (the heap's one new cell): the low bytes of the len chars of A from o on; every cell but a is kept -/
def Got (a : Addr) (D : Cell) (fV fC : Field) (A : Cell) (o len : Nat) (r : Option Value) (s u : State) : Prop := r = none ∧ ∃ D' V : Cell, Blank "java/lang/String" a D' u ∧ Same D D' [fV.slot, fC.slot] ∧ D'.slots[fV.slot]? = some (.ref s.heap.size) ∧ D'.slots[fC.slot]? = some (.int 0) ∧ Arr .byte s.heap.size V u ∧ V.vm = .none ∧ u.vm.findClass "[B" = some V.cls ∧ V.slots.size = len ∧ (∀ j, j < len → V.slots[j]? = some (.int (lo8 (cv A (o + j))))) ∧ (∀ (y : Addr) (c : Cell), y ≠ a → s.heap[y]? = some c → u.heap[y]? = some c) ∧ u.heap.size = s.heap.size + 1
theorem Got.mv {a : Addr} {D A : Cell} {fV fC : Field} {o len : Nat} : ∀ r (U U' V V' : State), U'.heap = U.heap → V.vm.Alike V'.vm → V'.heap = V.heap → Got a D fV fC A o len r U V → Got a D fV fC A o len r U' V' :=
  fun r U U' V V' h1 hal h2 ⟨e0, D', X, a1, a2, a3, a4, a5, a6, a7, a8, a9, a10, a11⟩ => ⟨e0, D', X, a1.mv hal h2, a2, by rw [h1]; exact a3, a4, by rw [h1]; exact a5.mv hal h2, a6, by rw [hal.findClass]; exact a7, a8, a9, by rw [h1, h2]; exact a10, by rw [h1, h2]; exact a11⟩
namespace New4
def yN : MethodName := ⟨"java/lang/String", "<init>", "([CIILjava/lang/Void;)V"⟩
abbrev yB : ByteArray := jdk_42_method_149_code
theorem d0 : decode yB 0 = .ok (.aload_n 0, 1) := by decide +kernel
theorem d1 : decode yB 1 = .ok (.invokespecial 1, 3) := by decide +kernel
theorem d4 : decode yB 4 = .ok (.iload_n 3, 1) := by decide +kernel
theorem d5 : decode yB 5 = .ok (.ifCond (.ne) 22, 3) := by decide +kernel
theorem d27 : decode yB 27 = .ok (.getstatic 38, 3) := by decide +kernel
theorem d30 : decode yB 30 = .ok (.ifCond (.eq) 28, 3) := by decide +kernel
theorem d33 : decode yB 33 = .ok (.aload_n 1, 1) := by decide +kernel
theorem d34 : decode yB 34 = .ok (.iload_n 2, 1) := by decide +kernel
theorem d35 : decode yB 35 = .ok (.iload_n 3, 1) := by decide +kernel
theorem d36 : decode yB 36 = .ok (.invokestatic 177, 3) := by decide +kernel
theorem d39 : decode yB 39 = .ok (.astore 5, 2) := by decide +kernel
theorem d41 : decode yB 41 = .ok (.aload_n 0, 1) := by decide +kernel
theorem d42 : decode yB 42 = .ok (.aload 5, 2) := by decide +kernel
theorem d44 : decode yB 44 = .ok (.iload_n 3, 1) := by decide +kernel
theorem d45 : decode yB 45 = .ok (.invokestatic 47, 3) := by decide +kernel
theorem d48 : decode yB 48 = .ok (.putfield 15, 3) := by decide +kernel
theorem d51 : decode yB 51 = .ok (.aload_n 0, 1) := by decide +kernel
theorem d52 : decode yB 52 = .ok (.aload 5, 2) := by decide +kernel
theorem d54 : decode yB 54 = .ok (.putfield 9, 3) := by decide +kernel
theorem d57 : decode yB 57 = .ok (.return_, 1) := by decide +kernel
def site : List Cond := [.fieldLink "java/lang/String" 38 "java/lang/String" "COMPACT_STRINGS" "Z", Cmp3.tab, CodL.tab, .laysFinal "java/lang/String" "java/lang/String" "value" "[B", .fieldLink "java/lang/String" 9 "java/lang/String" "value" "[B", .laysFinal "java/lang/String" "java/lang/String" "coder" "B", .fieldLink "java/lang/String" 15 "java/lang/String" "coder" "B"] ++ objW "java/lang/String" 1 ++ staticW "java/lang/String" 177 Cmp3.yN ++ staticW "java/lang/String" 47 CodL.yN
def tab : Cond := tabOf yN yB 6 none site
def P (a : Addr) (D : Cell) (fV fC : Field) (b : Addr) (A : Cell) (z : Int32) (o len : Nat) (args : Array Value) (s : State) : Prop := args = #[.ref a, .ref b, .int (Int32.ofNat o), .int (Int32.ofNat len), .null] ∧ Blank "java/lang/String" a D s ∧ Found "java/lang/String" "value" "[B" fV s ∧ Found "java/lang/String" "coder" "B" fC s ∧ Ch b A s ∧ StaticIs s "java/lang/String" "COMPACT_STRINGS" "Z" (.int z) ∧ ¬ z = 0 ∧ 0 < len ∧ o + len ≤ A.slots.size ∧ len ≤ 536870912 ∧ ∀ i, i < len → ¬ 255 < cv A (o + i)
def E (a : Addr) (D : Cell) (fV fC : Field) (A : Cell) (o len : Nat) (r : Option Value) (s u : State) : Prop := Got a D fV fC A o len r s u
/-- len > 0, no char of the range above 255: a Latin-1 String of their low bytes -/
theorem law (l : Launch) (a : Addr) (D : Cell) (fV fC : Field) (b : Addr) (A : Cell) (z : Int32) (o len : Nat) : Law l yN 5 4 2 35 yB 6 none site (P a D fV fC b A z o len) (E a D fV fC A o len) [⟨a, fC.slot⟩, ⟨a, fV.slot⟩] 1 len := by
  refine Law.of_walk (plainFor_of_name (by decide +kernel)) (by decide +kernel) (by decide +kernel) (by decide) (fun _ _ h => by rw [h.1]; rfl) (fun _ U U' hal hh h => ⟨h.1, h.2.1.mv hal hh, h.2.2.1.al hal, h.2.2.2.1.al hal, h.2.2.2.2.1.mv hal hh, h.2.2.2.2.2.1.there hal hh, h.2.2.2.2.2.2⟩) (fun r U U' V V' h1 hal h2 h => Got.mv r U U' V V' h1 hal h2 h) ?_
  intro p e s m args below meth c s₁ X0 hexec hbytes hml hret hlk hnm hown hh0 W hP
  obtain ⟨rfl, hB, f1, f2, hA, s1, hz, l0, l1, l2, hp⟩ := hP
  have a31 := hA.1.2.2.2
  have c1 : Steps p.tables e below (s₁.setTop (entryFrame m #[.ref a, .ref b, .int (Int32.ofNat o), .int (Int32.ofNat len), .null] 6)) (s₁.setTop (mkF m 0 #[.val (.ref a), .val (.ref b), .val (.int (Int32.ofNat o)), .val (.int (Int32.ofNat len)), .val .null, .unset] [])) := entry rfl
  have c2 : Steps p.tables e below (s₁.setTop (entryFrame m #[.ref a, .ref b, .int (Int32.ofNat o), .int (Int32.ofNat len), .null] 6)) (s₁.setTop (mkF m 1 #[.val (.ref a), .val (.ref b), .val (.int (Int32.ofNat o)), .val (.int (Int32.ofNat len)), .val .null, .unset] [.ref a])) := c1.trans (by
    refine XS.aloadN X0.here hexec rfl (hb hbytes d0) rfl rfl ?_
    exact Steps.refl _)
  obtain ⟨T3, X3, q3, st3⟩ := X0.oinit hexec hown (wks W (objW "java/lang/String" 1)) (g := (mkF m 1 #[.val (.ref a), .val (.ref b), .val (.int (Int32.ofNat o)), .val (.int (Int32.ofNat len)), .val .null, .unset] [.ref a])) rfl (by rw [hml]; rfl) (rest := []) rfl (hb hbytes d1) (W := 0) (by show 2 * 0 + 0 ≤ _; decide) (Nat.le_of_ble_eq_true rfl) (Nat.le_of_ble_eq_true rfl)
  have hh3 := q3.trans hh0
  have c4 : Steps p.tables e below (s₁.setTop (entryFrame m #[.ref a, .ref b, .int (Int32.ofNat o), .int (Int32.ofNat len), .null] 6)) (T3.setTop (mkF m 27 #[.val (.ref a), .val (.ref b), .val (.int (Int32.ofNat o)), .val (.int (Int32.ofNat len)), .val .null, .unset] [])) := (c2.trans (st3 _ (Steps.refl _))).trans (by
    refine XS.iloadN X3.here hexec rfl (hb hbytes d4) rfl ?_
    refine XS.ifYes X3.here hexec rfl (pc0 := 5) rfl (hb hbytes d5) rfl (i0_ne_t (nz32 (by omega) l0)) (by decide) rfl ?_
    exact Steps.refl _)
  obtain ⟨T5, X5, q5, st5⟩ := X3.sget hexec hown (wk W (.fieldLink "java/lang/String" 38 "java/lang/String" "COMPACT_STRINGS" "Z")) s1 (fun _ _ h => by rw [hh3]; exact h) (g := (mkF m 27 #[.val (.ref a), .val (.ref b), .val (.int (Int32.ofNat o)), .val (.int (Int32.ofNat len)), .val .null, .unset] [])) rfl (hb hbytes d27)
  have hh5 := q5.trans hh3
  have c6 : Steps p.tables e below (s₁.setTop (entryFrame m #[.ref a, .ref b, .int (Int32.ofNat o), .int (Int32.ofNat len), .null] 6)) (T5.setTop (mkF m 30 #[.val (.ref a), .val (.ref b), .val (.int (Int32.ofNat o)), .val (.int (Int32.ofNat len)), .val .null, .unset] [.int z])) := c4.trans (st5 _ (Steps.refl _))
  have c7 : Steps p.tables e below (s₁.setTop (entryFrame m #[.ref a, .ref b, .int (Int32.ofNat o), .int (Int32.ofNat len), .null] 6)) (T5.setTop (mkF m 36 #[.val (.ref a), .val (.ref b), .val (.int (Int32.ofNat o)), .val (.int (Int32.ofNat len)), .val .null, .unset] [.int (Int32.ofNat len), .int (Int32.ofNat o), .ref b])) := c6.trans (by
    refine XS.ifNo X5.here hexec rfl (hb hbytes d30) rfl (i0_eq_f hz) ?_
    refine XS.aloadN X5.here hexec rfl (hb hbytes d33) rfl rfl ?_
    refine XS.iloadN X5.here hexec rfl (hb hbytes d34) rfl ?_
    refine XS.iloadN X5.here hexec rfl (hb hbytes d35) rfl ?_
    exact Steps.refl _)
  obtain ⟨v8, T8, X8, E8, g8⟩ := X5.callS hexec (Cmp3.law l b A o len) hown (wks W (staticW "java/lang/String" 177 Cmp3.yN)) (wk W Cmp3.tab) (W := 0) (Nat.le_of_ble_eq_true rfl) (Nat.le_of_ble_eq_true rfl) (Nat.le_refl _) (by show 0 + len ≤ len; omega) (g := (mkF m 36 #[.val (.ref a), .val (.ref b), .val (.int (Int32.ofNat o)), .val (.int (Int32.ofNat len)), .val .null, .unset] [.int (Int32.ofNat len), .int (Int32.ofNat o), .ref b])) rfl (by rw [hml]; rfl) c7 (argsL := [.ref b, .int (Int32.ofNat o), .int (Int32.ofNat len)]) (rest := []) rfl rfl (by show 2 * 0 + 0 ≤ _; decide) (hb hbytes d36) (⟨rfl, hA.mv X5.warmed.alike hh5, l1, l2, hp⟩)
  obtain ⟨e8, z8⟩ := E8
  obtain ⟨rfl, N, n1, n2, n3, n4, n5, n6⟩ := NewArr.mv _ T5 s _ _ hh5.symm (Vm.Alike.refl _) rfl e8
  rw [hh5] at z8
  have hB1 := hB.keep X8.warmed.alike (n6 _ _ hB.1)
  have hne : s.heap.size ≠ a := (Nat.ne_of_lt (Array.getElem?_eq_some_iff.mp hB.1).1).symm
  have c9 : Steps p.tables e below (s₁.setTop (entryFrame m #[.ref a, .ref b, .int (Int32.ofNat o), .int (Int32.ofNat len), .null] 6)) (T8.setTop (mkF m 39 #[.val (.ref a), .val (.ref b), .val (.int (Int32.ofNat o)), .val (.int (Int32.ofNat len)), .val .null, .unset] [.ref s.heap.size])) := g8
  have c10 : Steps p.tables e below (s₁.setTop (entryFrame m #[.ref a, .ref b, .int (Int32.ofNat o), .int (Int32.ofNat len), .null] 6)) (T8.setTop (mkF m 45 #[.val (.ref a), .val (.ref b), .val (.int (Int32.ofNat o)), .val (.int (Int32.ofNat len)), .val .null, .val (.ref s.heap.size)] [.int (Int32.ofNat N.slots.size), .ref s.heap.size, .ref a])) := by
    have hc : Steps p.tables e below (s₁.setTop (entryFrame m #[.ref a, .ref b, .int (Int32.ofNat o), .int (Int32.ofNat len), .null] 6)) (T8.setTop (mkF m 45 #[.val (.ref a), .val (.ref b), .val (.int (Int32.ofNat o)), .val (.int (Int32.ofNat len)), .val .null, .val (.ref s.heap.size)] [.int (Int32.ofNat len), .ref s.heap.size, .ref a])) := c9.trans (by
      refine XS.astore X8.here hexec rfl (hb hbytes d39) rfl rfl rfl ?_
      refine XS.aloadN X8.here hexec rfl (hb hbytes d41) rfl rfl ?_
      refine XS.aload X8.here hexec rfl (hb hbytes d42) rfl rfl ?_
      refine XS.iloadN X8.here hexec rfl (hb hbytes d44) rfl ?_
      exact Steps.refl _)
    rw [n4]; exact hc
  obtain ⟨v11, T11, X11, E11, g11⟩ := X8.callS hexec (CodL.law l s.heap.size N) hown (wks W (staticW "java/lang/String" 47 CodL.yN)) (wk W CodL.tab) (W := 1) (Nat.le_of_ble_eq_true rfl) (Nat.le_of_ble_eq_true rfl) (Nat.le_refl _) (by show 0 + len + 0 ≤ len; omega) (g := (mkF m 45 #[.val (.ref a), .val (.ref b), .val (.int (Int32.ofNat o)), .val (.int (Int32.ofNat len)), .val .null, .val (.ref s.heap.size)] [.int (Int32.ofNat N.slots.size), .ref s.heap.size, .ref a])) rfl (by rw [hml]; rfl) c10 (argsL := [.ref s.heap.size, .int (Int32.ofNat N.slots.size)]) (rest := [.ref a]) rfl rfl (by show 2 * 0 + (1 + 0) ≤ _; decide) (hb hbytes d45) (⟨rfl, n1⟩)
  obtain ⟨rfl, q11⟩ := E11
  have hB11 := hB1.mv (X8.warmed.alike.symm.trans X11.warmed.alike) q11
  have c12 : Steps p.tables e below (s₁.setTop (entryFrame m #[.ref a, .ref b, .int (Int32.ofNat o), .int (Int32.ofNat len), .null] 6)) (T11.setTop (mkF m 48 #[.val (.ref a), .val (.ref b), .val (.int (Int32.ofNat o)), .val (.int (Int32.ofNat len)), .val .null, .val (.ref s.heap.size)] [.int 0, .ref a])) := g11
  obtain ⟨T13, X13, p13, bl13, sl13, st13⟩ := X11.finit hexec hown (wk W (.fieldLink "java/lang/String" 15 "java/lang/String" "coder" "B")) (Or.inr ⟨_, (wk W (.laysFinal "java/lang/String" "java/lang/String" "coder" "B"))⟩) (Or.inl ⟨rfl, hnm⟩) f2 (Or.inl rfl) hB11 (t := .byte) (by decide +kernel) rfl (g := (mkF m 48 #[.val (.ref a), .val (.ref b), .val (.int (Int32.ofNat o)), .val (.int (Int32.ofNat len)), .val .null, .val (.ref s.heap.size)] [.int 0, .ref a])) rfl (rest := []) rfl (hb hbytes d48)
  have c14 : Steps p.tables e below (s₁.setTop (entryFrame m #[.ref a, .ref b, .int (Int32.ofNat o), .int (Int32.ofNat len), .null] 6)) (T13.setTop (mkF m 54 #[.val (.ref a), .val (.ref b), .val (.int (Int32.ofNat o)), .val (.int (Int32.ofNat len)), .val .null, .val (.ref s.heap.size)] [.ref s.heap.size, .ref a])) := (c12.trans (st13 _ (Steps.refl _))).trans (by
    refine XS.aloadN X13.here hexec rfl (hb hbytes d51) rfl rfl ?_
    refine XS.aload X13.here hexec rfl (hb hbytes d52) rfl rfl ?_
    exact Steps.refl _)
  obtain ⟨T15, X15, p15, bl15, sl15, st15⟩ := X13.finit hexec hown (wk W (.fieldLink "java/lang/String" 9 "java/lang/String" "value" "[B")) (Or.inr ⟨_, (wk W (.laysFinal "java/lang/String" "java/lang/String" "value" "[B"))⟩) (Or.inl ⟨rfl, hnm⟩) f1 (Or.inl rfl) bl13 (t := (.array .byte)) (by decide +kernel) rfl (g := (mkF m 54 #[.val (.ref a), .val (.ref b), .val (.int (Int32.ofNat o)), .val (.int (Int32.ofNat len)), .val .null, .val (.ref s.heap.size)] [.ref s.heap.size, .ref a])) rfl (rest := []) rfl (hb hbytes d54)
  have c16 : Steps p.tables e below (s₁.setTop (entryFrame m #[.ref a, .ref b, .int (Int32.ofNat o), .int (Int32.ofNat len), .null] 6)) (T15.setTop (mkF m 57 #[.val (.ref a), .val (.ref b), .val (.int (Int32.ofNat o)), .val (.int (Int32.ofNat len)), .val .null, .val (.ref s.heap.size)] [])) := c14.trans (st15 _ (Steps.refl _))
  have ap := apart (Or.inr ⟨_, (wk W (.laysFinal "java/lang/String" "java/lang/String" "value" "[B"))⟩) (Or.inr ⟨_, (wk W (.laysFinal "java/lang/String" "java/lang/String" "coder" "B"))⟩) f1 f2 (t₁ := .array .byte) (t₂ := .byte) (by decide +kernel) (by decide +kernel) (by decide)
  have al := X8.warmed.alike.symm.trans X15.warmed.alike
  have n7 : T11.heap[s.heap.size]? = some N := by rw [q11]; exact n1.1
  exact ⟨T15, none, _, _, _, X15, by simp, rfl, by omega, (fun _ => rfl), ⟨rfl, _, N, bl15, ((Same.refl D _).set _ (by simp)).set _ (by simp), sl15, (Cell.slots_setSlot_ne _ ap).trans sl13, n1.keep al (p15.other hne (p13.other hne n7)), n2, by rw [al.findClass]; exact n3, n4, n5, fun y c h1 h2 => p15.other h1 (p13.other h1 (by rw [q11]; exact n6 y c h2)), by rw [p15.2.2, p13.2.2, q11]; exact z8⟩, fun fs hl => c16.trans (X15.returnOut hexec hret (hb hbytes d57) hl)⟩
end New4
namespace New1
def yN : MethodName := ⟨"java/lang/String", "<init>", "([C)V"⟩
abbrev yB : ByteArray := jdk_42_method_3_code
theorem d0 : decode yB 0 = .ok (.aload_n 0, 1) := by decide +kernel
theorem d1 : decode yB 1 = .ok (.aload_n 1, 1) := by decide +kernel
theorem d2 : decode yB 2 = .ok (.iconst 0, 1) := by decide +kernel
theorem d3 : decode yB 3 = .ok (.aload_n 1, 1) := by decide +kernel
theorem d4 : decode yB 4 = .ok (.arraylength, 1) := by decide +kernel
theorem d5 : decode yB 5 = .ok (.aconst_null, 1) := by decide +kernel
theorem d6 : decode yB 6 = .ok (.invokespecial 27, 3) := by decide +kernel
theorem d9 : decode yB 9 = .ok (.return_, 1) := by decide +kernel
def site : List Cond := [New4.tab] ++ initW "java/lang/String" 27 New4.yN
def tab : Cond := tabOf yN yB 2 none site
def P (a : Addr) (D : Cell) (fV fC : Field) (b : Addr) (A : Cell) (z : Int32) (args : Array Value) (s : State) : Prop := args = #[.ref a, .ref b] ∧ Blank "java/lang/String" a D s ∧ Found "java/lang/String" "value" "[B" fV s ∧ Found "java/lang/String" "coder" "B" fC s ∧ Ch b A s ∧ StaticIs s "java/lang/String" "COMPACT_STRINGS" "Z" (.int z) ∧ ¬ z = 0 ∧ 0 < A.slots.size ∧ A.slots.size ≤ 536870912 ∧ ∀ i, i < A.slots.size → ¬ 255 < cv A i
def E (a : Addr) (D : Cell) (fV fC : Field) (A : Cell) (r : Option Value) (s u : State) : Prop := Got a D fV fC A 0 A.slots.size r s u
/-- new String(chars), not empty, no char above 255: a Latin-1 String of their low bytes -/
theorem law (l : Launch) (a : Addr) (D : Cell) (fV fC : Field) (b : Addr) (A : Cell) (z : Int32) : Law l yN 2 1 3 52 yB 2 none site (P a D fV fC b A z) (E a D fV fC A) [⟨a, fC.slot⟩, ⟨a, fV.slot⟩] 1 A.slots.size := by
  refine Law.of_walk (plainFor_of_name (by decide +kernel)) (by decide +kernel) (by decide +kernel) (by decide) (fun _ _ h => by rw [h.1]; rfl) (fun _ U U' hal hh h => ⟨h.1, h.2.1.mv hal hh, h.2.2.1.al hal, h.2.2.2.1.al hal, h.2.2.2.2.1.mv hal hh, h.2.2.2.2.2.1.there hal hh, h.2.2.2.2.2.2⟩) (fun r U U' V V' h1 hal h2 h => Got.mv r U U' V V' h1 hal h2 h) ?_
  intro p e s m args below meth c s₁ X0 hexec hbytes hml hret hlk hnm hown hh0 W hP
  obtain ⟨rfl, hB, f1, f2, hA, s1, hz, l0, l2, hp⟩ := hP
  have c1 : Steps p.tables e below (s₁.setTop (entryFrame m #[.ref a, .ref b] 2)) (s₁.setTop (mkF m 0 #[.val (.ref a), .val (.ref b)] [])) := entry rfl
  have c2 : Steps p.tables e below (s₁.setTop (entryFrame m #[.ref a, .ref b] 2)) (s₁.setTop (mkF m 6 #[.val (.ref a), .val (.ref b)] [.null, .int (Int32.ofNat A.slots.size), .int 0, .ref b, .ref a])) := c1.trans (by
    refine XS.aloadN X0.here hexec rfl (hb hbytes d0) rfl rfl ?_
    refine XS.aloadN X0.here hexec rfl (hb hbytes d1) rfl rfl ?_
    refine iconstV X0.here hexec rfl 0 (hb hbytes d2) (by decide) ?_
    refine XS.aloadN X0.here hexec rfl (hb hbytes d3) rfl rfl ?_
    refine X0.alen hexec (hA.1.mv X0.warmed.alike hh0) rfl rfl (hb hbytes d4) ?_
    refine XS.aconstNull X0.here hexec rfl (hb hbytes d5) ?_
    exact Steps.refl _)
  obtain ⟨v3, T3, X3, E3, g3⟩ := X0.callN hexec (New4.law l a D fV fC b A z 0 A.slots.size) rfl hown (wks W (initW "java/lang/String" 27 New4.yN)) (W New4.tab (by simp only [site, List.mem_cons, List.mem_append, true_or, or_true])) (W := 0) (Nat.le_of_ble_eq_true rfl) (Nat.le_of_ble_eq_true rfl) (Nat.le_refl _) (by show 0 + A.slots.size ≤ A.slots.size; omega) (g := (mkF m 6 #[.val (.ref a), .val (.ref b)] [.null, .int (Int32.ofNat A.slots.size), .int (Int32.ofNat 0), .ref b, .ref a])) rfl (by rw [hml]; rfl) c2 (argsL := [.ref b, .int (Int32.ofNat 0), .int (Int32.ofNat A.slots.size), .null]) (rest := []) rfl rfl (by show 2 * 0 + 0 ≤ _; decide) (hb hbytes d6) (⟨rfl, hB.mv X0.warmed.alike hh0, f1.al X0.warmed.alike, f2.al X0.warmed.alike, hA.mv X0.warmed.alike hh0, s1.there X0.warmed.alike hh0, hz, l0, by omega, l2, fun i hi => by rw [Nat.zero_add]; exact hp i hi⟩)
  have e0 := Got.mv _ s₁ s _ _ hh0.symm (Vm.Alike.refl _) rfl E3
  obtain rfl := e0.1
  have c4 : Steps p.tables e below (s₁.setTop (entryFrame m #[.ref a, .ref b] 2)) (T3.setTop (mkF m 9 #[.val (.ref a), .val (.ref b)] [])) := g3
  exact ⟨T3, none, _, _, _, X3, by simp, rfl, by omega, (fun _ => rfl), e0, fun fs hl => c4.trans (X3.returnOut hexec hret (hb hbytes d9) hl)⟩
theorem pays {l : Launch} {R : Room} {p : Program} {e : Env} {below : List Frame} {s : State} {sargs : Array Value} {len W : Nat} (a : Addr) (D : Cell) (fV fC : Field) (b : Addr) (A : Cell) (z : Int32) (htab : tab.before sargs s = true) (hfr : 4 ≤ R.frames) (hlo : W + 65 ≤ R.locals) :
    Back l R p e below s sargs yN len W (fun A₁ a₁ => A₁.cells + 1 ≤ R.cells ∧ A₁.slots + A.slots.size ≤ R.slots ∧ P a D fV fC b A z a₁ A₁.U) (fun A₁ _ v₁ B₁ => E a D fV fC A v₁ A₁.U B₁.U ∧ B₁.locs = A₁.locs ++ [⟨a, fC.slot⟩, ⟨a, fV.slot⟩] ∧ B₁.cells = A₁.cells + 1 ∧ B₁.slots = A₁.slots + A.slots.size) :=
  (law l a D fV fC b A z).pays htab hfr (by omega)
end New1
end StrChars
namespace StrChars.Road
open Jvm Sem ClassFile Op Lib Jvm.Stand Jvm.Free Jvm.Free.XT
open Jvm.Lib.Cold (StaticIs)
abbrev ST : String := "java/lang/String"
/-- every table word that New1's law asks, flat -/
abbrev words : List Jvm.Cond := [.code New1.yN New1.yB 2 none, .initialized ST, .methodLink ST 27 New4.yN, .instanceMethod New4.yN,
  .code New4.yN New4.yB 6 none, .fieldLink ST 38 ST "COMPACT_STRINGS" "Z", .laysFinal ST ST "value" "[B", .fieldLink ST 9 ST "value" "[B", .laysFinal ST ST "coder" "B", .fieldLink ST 15 ST "coder" "B",
  .methodLink ST 1 Lib.objectInit, .instanceMethod Lib.objectInit, .code Lib.objectInit ⟨#[0xb1]⟩ 1 none, .methodLink ST 177 Cmp3.yN, .static Cmp3.yN, .methodLink ST 47 CodL.yN, .static CodL.yN,
  .code Cmp3.yN Cmp3.yB 6 (some (.array .byte)), .initialized U16, .arrayClass .byte, .methodLink U16 115 Cmp5.yN, .static Cmp5.yN, .code Cmp5.yN Cmp5.yB 7 (some .int), .code CodL.yN CodL.yB 2 (some .byte)]
theorem tab_of {a : Array Value} {s : State} (h : ∀ w ∈ words, w.before a s = true) : New1.tab.before a s = true := by
  have h5 : Cmp5.tab.before a s = true := unparts (wk h (.code Cmp5.yN Cmp5.yB 7 (some .int))) (wks h (.initialized Cmp5.yN.cls :: Cmp5.site))
  have hc : CodL.tab.before a s = true := unparts (wk h (.code CodL.yN CodL.yB 2 (some .byte))) (wks h (.initialized CodL.yN.cls :: CodL.site))
  have q5 : ∀ w ∈ Cmp5.tab :: words, w.before a s = true := fun w hw => (List.mem_cons.mp hw).elim (fun e => e ▸ h5) (h w)
  have h3 : Cmp3.tab.before a s = true := unparts (wk q5 (.code Cmp3.yN Cmp3.yB 6 (some (.array .byte)))) (wks q5 (.initialized Cmp3.yN.cls :: Cmp3.site))
  have q3 : ∀ w ∈ Cmp3.tab :: CodL.tab :: words, w.before a s = true := fun w hw => (List.mem_cons.mp hw).elim (fun e => e ▸ h3) fun hw => (List.mem_cons.mp hw).elim (fun e => e ▸ hc) (h w)
  have h4 : New4.tab.before a s = true := unparts (wk q3 (.code New4.yN New4.yB 6 none)) (wks q3 (.initialized New4.yN.cls :: New4.site))
  have q4 : ∀ w ∈ New4.tab :: words, w.before a s = true := fun w hw => (List.mem_cons.mp hw).elim (fun e => e ▸ h4) (h w)
  exact unparts (wk q4 (.code New1.yN New1.yB 2 none)) (wks q4 (.initialized New1.yN.cls :: New1.site))
/-- the words ride from the start Z to the walk's own state -/
theorem moved {Z s : State} {a0 args : Array Value} (hZ : Z.Warmed39 s.vm) (hw : ∀ d ∈ words, d.before a0 Z = true) : ∀ d ∈ words, d.before args s = true := fun d hd => by
  have q := hw d hd
  have t : ∀ d ∈ words, d = .arrayClass .byte ∨ (d.onTables && d.keepsFace) = true := by decide +kernel
  rcases t d hd with rfl | t
  · exact RoadKit.mvA hZ q
  · exact RoadKit.mv hZ q t
/-- WHAT COMES BACK, over the tables of the start Z: h the heap at the call, h' behind it -/
def Q (Z : State) (x : Addr) (A : Cell) (h : Heap) (v : Option Value) (h' : Heap) (L : List Loc) : Prop := v = none ∧ (∀ y ∈ L, y.base = x) ∧ RoadKit.Keep h h' [x] ∧ h'.size = h.size + 1 ∧ RoadKit.Exa Z h' x ST ∧ RoadKit.Fld Z h' x ST "value" "[B" (.ref h.size) ∧ RoadKit.Fld Z h' x ST "coder" "B" (.int 0) ∧
  (∃ V : Cell, RoadKit.Arr Z h' h.size V .byte ∧ V.vm = .none ∧ Z.vm.findClass "[B" = some V.cls ∧ V.slots.size = A.slots.size ∧ ∀ j, j < A.slots.size → V.slots[j]? = some (.int (lo8 (cv A j)))) ∧
  ∀ (O n d : String) (w : Value), RoadKit.Fld Z h x O n d w → RoadKit.slotOf Z O n d ≠ RoadKit.slotOf Z ST "value" "[B" → RoadKit.slotOf Z O n d ≠ RoadKit.slotOf Z ST "coder" "B" → RoadKit.Fld Z h' x O n d w
/-- **new String(chars) AT A CALL, IN THE ROAD'S FORM**: for specialBack behind newO: x the fresh String, b the char[] with the cell A -/
theorem back {p : Program} {l : Launch} {e : Env} {R : Room} {s : State} {args : Array Value} {below : List Frame} {len W : Nat} {Z : State} {a0 : Array Value} {h : Heap} (hZ : Z.Warmed39 s.vm) (hw : ∀ d ∈ words, d.before a0 Z = true) {kI : Nat} (wi : (Jvm.Cond.instantiable ST kI).before a0 Z = true)
    {x b : Addr} {A : Cell} {z : Int32} {v0 c0 : Value} (E : RoadKit.Exa Z h x ST) (V : RoadKit.Fld Z h x ST "value" "[B" v0) (C : RoadKit.Fld Z h x ST "coder" "B" c0) (K : RoadKit.Arr Z h b A .char) (hty : Typed .char A) (S : RoadKit.Sta Z h ST "COMPACT_STRINGS" "Z" (.int z)) (hz : ¬ z = 0)
    (l0 : 0 < A.slots.size) (l2 : A.slots.size ≤ 536870912) (hp : ∀ i, i < A.slots.size → ¬ 255 < cv A i) (hfr : 4 ≤ R.frames) (hlo : W + 65 ≤ R.locals) :
    Back l R p e below s args New1.yN len W (fun P a => a = #[.ref x, .ref b] ∧ P.U.heap = h ∧ P.cells + 1 ≤ R.cells ∧ P.slots + A.slots.size ≤ R.slots)
      (fun P _ v B => ∃ L, Q Z x A h v B.U.heap L ∧ B.locs = P.locs ++ L ∧ B.cells = P.cells + 1 ∧ B.slots = P.slots + A.slots.size) := by
  intro m meth c P g ig mk a X hg hsize hdg hW hn hp'
  obtain ⟨rfl, rfl, r1, r2⟩ := hp'
  have al : Z.vm.Alike P.U.vm := hZ.alike.trans X.warmed.alike
  obtain ⟨D, cfV, kV, iV, fV, hD, gV, stV, knV, obV, asV, slV⟩ := id V
  obtain ⟨D', cfC, kC, iC, fC, hD', gC, stC, -, -, asC, slC⟩ := id C
  cases hD.symm.trans hD'
  obtain ⟨D2, kD, e1, e2, e3, e4, e5⟩ := id E
  cases hD.symm.trans e1
  obtain ⟨c2, k2, i1, i2, i3, -⟩ := Cond.instantiable_spec wi
  cases e2.symm.trans i1
  cases e3.symm.trans i2
  obtain ⟨kU, u1, u2⟩ := al.2.2 _ _ e3
  have hB : Blank ST x D P.U := ⟨hD, ⟨knV, fun q hq => by rw [hq] at obV; cases obV⟩, by rw [al.findClass]; exact e2, kU, u1, by rw [u2]; exact i3, by rw [u2]; exact e5 i3⟩
  have F1 : Found ST "value" "[B" fV P.U := ⟨SBG.found_only al ⟨cfV, kV, iV, gV⟩, stV⟩
  have F2 : Found ST "coder" "B" fC P.U := ⟨SBG.found_only al ⟨cfC, kC, iC, gC⟩, stC⟩
  have hA : Ch b A P.U := ⟨⟨K.1, State.isArrayOf_alike al K.2.1, K.2.2, by omega⟩, hty⟩
  have hS : StaticIs P.U ST "COMPACT_STRINGS" "Z" (.int z) := by
    obtain ⟨cfS, iS, kS, fS, st, cS, t1, t2, t3, t4, t5, t6, t7⟩ := S
    exact StaticIs.there (s := { Z with heap := P.U.heap }) ⟨cfS, iS, kS, fS, st, cS, t1, t2, t3, t4, t5, (fun q => by rw [q] at t6; cases t6), t7⟩ al rfl
  obtain ⟨v, B, X', ⟨⟨hv, E', V', q1, q2, q3, q4, q5, q6, q7, q8, q9, q10, q11⟩, hl, hc, hs⟩, st⟩ := New1.pays x D fV fC b A z (tab_of (moved hZ hw)) hfr hlo m meth c P g ig mk _ X hg hsize hdg hW hn ⟨r1, r2, rfl, hB, F1, F2, hA, hS, hz, l0, l2, hp⟩
  have al' : Z.vm.Alike B.U.vm := hZ.alike.trans X'.warmed.alike
  have hsz : E'.slots.size = D.slots.size := by
    obtain ⟨-, -, -, kB, w1, w2, w3⟩ := q1
    obtain ⟨kB', y1, y2⟩ := al'.2.2 _ _ e3
    rw [q2.2.1] at w1
    cases w1.symm.trans y1
    rw [w3, e5 i3, y2]
  refine ⟨v, B, X', ⟨_, ⟨hv, ?_, ⟨by omega, fun y cy hy hn' => q10 y cy (by simpa using hn') hy, fun y cy hy => ?_⟩, q11, ⟨E', _, q1.1, by rw [q2.2.1]; exact e2, by rw [q2.2.1]; exact e3, by rw [q2.1]; exact obV, fun _ => by rw [hsz]; exact e5 i3⟩,
    ⟨E', cfV, kV, iV, fV, q1.1, gV, stV, by rw [q2.1]; exact knV, by rw [q2.1]; exact obV, by rw [q2.2.1]; exact asV, q3⟩, ⟨E', cfC, kC, iC, fC, q1.1, gC, stC, by rw [q2.1]; exact knV, by rw [q2.1]; exact obV, by rw [q2.2.1]; exact asC, q4⟩,
    ⟨V', ⟨q5.1, State.isArrayOf_alike al'.symm q5.2.1, q5.2.2.1⟩, q6, by rw [← al'.findClass]; exact q7, q8, fun j hj => by have := q9 j hj; rwa [Nat.zero_add] at this⟩, fun O n d w F n1 n2 => ?_⟩, hl, hc, hs⟩, st⟩
  · intro y hy
    simp only [List.mem_cons, List.not_mem_nil, or_false] at hy
    rcases hy with rfl | rfl <;> rfl
  · by_cases q : y = x
    · subst q
      cases hD.symm.trans hy
      exact ⟨E', q1.1, q2.2.1, q2.1, hsz⟩
    · exact ⟨cy, q10 y cy q hy, rfl, rfl, rfl⟩
  · obtain ⟨D3, cf, k, i, f, g1, g2, g3, g4, g5, g6, g7⟩ := F
    cases hD.symm.trans g1
    simp only [RoadKit.slotOf, g2, gV, gC, Option.map_some, Option.getD_some] at n1 n2
    exact ⟨E', cf, k, i, f, q1.1, g2, g3, by rw [q2.1]; exact g4, by rw [q2.1]; exact g5, by rw [q2.2.1]; exact g6, by rw [q2.2.2 f.slot (by simp [n1, n2])]; exact g7⟩
end StrChars.Road
namespace StrChars.Road
open Jvm Sem ClassFile Op Lib Jvm.Stand Jvm.Free Jvm.Free.XT
/-- WHAT COMES BACK, the byte[] as a list of values -/
def QA (Z : State) (x : Addr) (zn : Int32) (cs : List Int32) (h : Heap) (v : Option Value) (h' : Heap) (L : List Loc) : Prop := v = none ∧ (∀ y ∈ L, y.base = x) ∧ RoadKit.Keep h h' [x] ∧ h'.size = h.size + 1 ∧ RoadKit.Exa Z h' x ST ∧ RoadKit.Fld Z h' x ST "value" "[B" (.ref h.size) ∧ RoadKit.Fld Z h' x ST "coder" "B" (.int 0) ∧
  (∃ kb, Z.vm.findClass "[B" = some kb ∧ RoadKit.Arv Z h' h.size kb .byte zn (cs.map fun c => .int (lo8 c)) (.int 0)) ∧
  ∀ (O n d : String) (w : Value), RoadKit.Fld Z h x O n d w → RoadKit.slotOf Z O n d ≠ RoadKit.slotOf Z ST "value" "[B" → RoadKit.slotOf Z O n d ≠ RoadKit.slotOf Z ST "coder" "B" → RoadKit.Fld Z h' x O n d w
/-- **new String(chars) AT A CALL, THE ARRAYS AS LISTS**: the char[] at b holds cs, not empty, no char above 255 -/
theorem backArv {p : Program} {l : Launch} {e : Env} {R : Room} {s : State} {args : Array Value} {below : List Frame} {len W : Nat} {Z : State} {a0 : Array Value} {h : Heap} (hZ : Z.Warmed39 s.vm) (hw : ∀ d ∈ words, d.before a0 Z = true) {kI : Nat} (wi : (Jvm.Cond.instantiable ST kI).before a0 Z = true)
    {x b : Addr} {k : ClassId} {zn z : Int32} {cs : List Int32} {dv v0 c0 : Value} (E : RoadKit.Exa Z h x ST) (V : RoadKit.Fld Z h x ST "value" "[B" v0) (C : RoadKit.Fld Z h x ST "coder" "B" c0) (K : RoadKit.Arv Z h b k .char zn (cs.map Value.int) dv) (S : RoadKit.Sta Z h ST "COMPACT_STRINGS" "Z" (.int z)) (hz : ¬ z = 0)
    (hlen : zn.toNatClampNeg = cs.length) (h0 : 0 < cs.length) (hbig : cs.length ≤ 536870912) (hall : ∀ c ∈ cs, ¬ 255 < c) (hfr : 4 ≤ R.frames) (hlo : W + 65 ≤ R.locals) :
    Back l R p e below s args New1.yN len W (fun P a => a = #[.ref x, .ref b] ∧ P.U.heap = h ∧ P.cells + 1 ≤ R.cells ∧ P.slots + cs.length ≤ R.slots)
      (fun P _ v B => ∃ L, QA Z x zn cs h v B.U.heap L ∧ B.locs = P.locs ++ L ∧ B.cells = P.cells + 1 ∧ B.slots = P.slots + cs.length) := by
  obtain ⟨A, K1, K2, K3, K4, K5, K6⟩ := K
  have e : A.slots.size = cs.length := K3.trans hlen
  have hat : ∀ (i : Nat) (hi : i < cs.length), A.slots[i]? = some (.int cs[i]) := fun i hi => by rw [K5 i (by omega)]; simp [List.getD_eq_getElem?_getD, hi]
  have hcv : ∀ (i : Nat) (hi : i < cs.length), cv A i = cs[i] := fun i hi => by unfold cv; rw [hat i hi]
  have hty : Typed .char A := fun i v hv => by
    have hi : i < A.slots.size := (Array.getElem?_eq_some_iff.mp hv).1
    have q := K5 i hi
    rw [hv] at q
    rw [Option.some.inj q]
    exact K6 i hi
  refine Back.mono (back hZ hw wi E V C K1 hty S hz (by omega) (by omega) (fun i hi => by rw [hcv i (by omega)]; exact hall _ (List.getElem_mem _)) hfr hlo) (fun P a hp => ⟨hp.1, hp.2.1, hp.2.2.1, by rw [e]; exact hp.2.2.2⟩) (fun P a v B hp hq => ?_)
  obtain ⟨L, ⟨q1, q2, q3, q4, q5, q6, q7, ⟨V', v1, v2, v3, v4, v5⟩, q9⟩, hl, hc, hs⟩ := hq
  refine ⟨L, ⟨q1, q2, q3, q4, q5, q6, q7, ⟨V'.cls, v3, V', v1, rfl, by rw [v4, e, hlen], K4, fun i hi => ?_, fun i hi => ?_⟩, q9⟩, hl, hc, by rw [hs, e]⟩
  · have hi' : i < cs.length := by omega
    rw [v5 i (by omega), hcv i hi']; simp [List.getD_eq_getElem?_getD, hi']
  · have hi' : i < cs.length := by omega
    simp only [List.getD_eq_getElem?_getD, List.getElem?_map, List.getElem?_eq_getElem hi', Option.map_some, Option.getD_some]
    exact fits_lo8 _
end StrChars.Road
namespace StrChars.Road
open Jvm Sem ClassFile Op Lib Jvm.Stand Jvm.Free Jvm.Free.XT
/-- WHAT COMES BACK, in the writer's own shape -/
def QV (Z : State) (x : Addr) (N : Int32) (bs : List Int32) (h : Heap) (n0 : Nat) (v : Option Value) (h' : Heap) (L : List Loc) : Prop := v = none ∧ RoadKit.Fr n0 L ∧ RoadKit.Keep h h' [x] ∧ RoadKit.Exa Z h' x ST ∧ RoadKit.Fld Z h' x ST "coder" "B" (.int 0) ∧
  ∃ (t : Addr) (kb : ClassId), n0 ≤ t ∧ h.size ≤ t ∧ ¬ t = x ∧ RoadKit.Fld Z h' x ST "value" "[B" (.ref t) ∧ RoadKit.Arv Z h' t kb .byte N (bs.map Value.int) (.int 0)
/-- **new String(chars) AT A CALL, FOR THE WRITER**: a char[] of n known ints, each 0 to 255 -/
theorem backV {p : Program} {l : Launch} {e : Env} {R : Room} {s : State} {args : Array Value} {below : List Frame} {len W : Nat} {Z : State} {a0 : Array Value} {h : Heap} (hZ : Z.Warmed39 s.vm) (hw : ∀ d ∈ words, d.before a0 Z = true) {kI : Nat} (wi : (Jvm.Cond.instantiable ST kI).before a0 Z = true)
    {x b : Addr} {kC : ClassId} {cs bs : List Int32} {d v0 c0 : Value} {z N : Int32} {n n0 : Nat} (hx0 : n0 ≤ x) (hh0 : n0 ≤ h.size) (E : RoadKit.Exa Z h x ST) (V : RoadKit.Fld Z h x ST "value" "[B" v0) (C : RoadKit.Fld Z h x ST "coder" "B" c0) (K : RoadKit.Arv Z h b kC .char N (cs.map Value.int) d) (S : RoadKit.Sta Z h ST "COMPACT_STRINGS" "Z" (.int z)) (hz : ¬ z = 0)
    (hn : cs.length = n) (hN : N = Int32.ofNat n) (l0 : 0 < n) (l2 : n ≤ 4000) (hp : ∀ c ∈ cs, ¬ c < 0 ∧ ¬ (255 : Int32) < c) (hb : bs = cs.map (fun c => c.toInt8.toInt32)) (hfr : 4 ≤ R.frames) (hlo : W + 65 ≤ R.locals) :
    Back l R p e below s args (⟨"java/lang/String", "<init>", "([C)V"⟩ : MethodName) len W (fun P a => a = #[.ref x, .ref b] ∧ P.U.heap = h ∧ P.cells + 1 ≤ R.cells ∧ P.slots + n ≤ R.slots)
      (fun P _ v B => ∃ L, QV Z x N bs h n0 v B.U.heap L ∧ B.locs = P.locs ++ L ∧ B.cells = P.cells + 1 ∧ B.slots = P.slots + n) := by
  subst hn hN hb
  refine Back.mono (backArv hZ hw wi E V C K S hz (n32 (by omega)) l0 (by omega) (fun c hc => (hp c hc).2) hfr hlo) (fun P a hp => hp) (fun P a v B hp hq => ?_)
  obtain ⟨L, ⟨q1, q2, q3, q4, q5, q6, q7, ⟨kb, v1, v2⟩, q9⟩, hl, hc, hs⟩ := hq
  exact ⟨L, ⟨q1, fun y hy => by rw [q2 y hy]; exact hx0, q3, q5, q7, h.size, kb, hh0, Nat.le_refl _, Nat.ne_of_gt E.lt, q6, by rw [List.map_map]; exact v2⟩, hl, hc, hs⟩
end StrChars.Road
end Jvm.Pilot.@@N@@
namespace Jvm.Pilot.@@N@@
open Jvm Jvm.ClassFile Sem Op Lib Jvm.Free Jvm.Stand Jvm.LawKit Jvm.RoadKit Bundle Jvm.Pilot.@@N@@.Jvm.D
/-- the run comes from A to a state with P -/
def ownG (tb : Tables) (e : Env) (below : List Frame) (P : State → Prop) (A : State) : Prop := ∃ t, Steps tb e below A t ∧ P t
theorem ownBy {tb : Tables} {e : Env} {below : List Frame} {P : State → Prop} {A B : State} (st : ∀ t, Steps tb e below A t → Steps tb e below B t) (k : ownG tb e below P A) : ownG tb e below P B := by
  obtain ⟨t, h, q⟩ := k
  exact ⟨t, st t h, q⟩
theorem ownSt {tb : Tables} {e : Env} {below : List Frame} {P : State → Prop} {A B : State} (st : Steps tb e below B A) (k : ownG tb e below P A) : ownG tb e below P B := by
  obtain ⟨t, h, q⟩ := k
  exact ⟨t, st.trans h, q⟩
def ownE (s : State) (below : List Frame) (Q : Option Value → Heap → List Loc → Prop) (k n : Nat) (t : State) : Prop := t.status = .running ∧ ∃ v L, Ended t below (.returned v) ∧ Q v t.heap L ∧ FrameEnd s (.returned v) t L k n
def ownEH (s : State) (below : List Frame) (Q : Option Value → Heap → List Loc → Prop) (Z : State) (EL : List (String × Nat)) (h0 : Heap) (k n : Nat) (t : State) : Prop := t.status = .running ∧ ∃ v L, Ended t below (.returned v) ∧ Q v t.heap L ∧ CHr Z EL s.vm h0 t.vm t.heap ∧ ReturnedEndW s (.returned v) t L k n
theorem ownOut {tb : Tables} {e : Env} {below : List Frame} {P : Option Value → Heap → List Loc → Prop} {s A : State} {k n : Nat} (g : ownG tb e below (ownE s below P k n) A) :
    ∃ s₂ o, Steps tb e below A s₂ ∧ s₂.status = .running ∧ Ended s₂ below o ∧ ∃ v L, o = .returned v ∧ P v s₂.heap L ∧ FrameEnd s o s₂ L k n := by
  obtain ⟨t, h, r, v, L, e1, q, f⟩ := g
  exact ⟨t, _, h, r, e1, v, L, rfl, q, f⟩
theorem ownOutH {tb : Tables} {e : Env} {below : List Frame} {P : Option Value → Heap → List Loc → Prop} {s A Z : State} {EL : List (String × Nat)} {h0 : Heap} {k n : Nat} (hh : s.heap = h0) (g : ownG tb e below (ownEH s below P Z EL h0 k n) A) :
    ∃ s₂ o, Steps tb e below A s₂ ∧ s₂.status = .running ∧ Ended s₂ below o ∧ ∃ v L, o = .returned v ∧ P v s₂.heap L ∧ CHr Z EL s.vm s.heap s₂.vm s₂.heap ∧ ReturnedEndW s o s₂ L k n := by
  subst hh
  obtain ⟨t, h, r, v, L, e1, q, c, f⟩ := g
  exact ⟨t, _, h, r, e1, v, L, rfl, q, c, f⟩
theorem ownRet {p : Program} {l : Launch} {e : Env} {R : Room} {s : State} {m : MethodId} {args : Array Value} {below : List Frame} {meth : Method} {c : Code} {T A : State} {locs : List Loc} {cells slots k n : Nat} {P : Option Value → Heap → List Loc → Prop}
    (X : Stand p l e R s m args below meth c T locs cells slots) (hlk : meth.locks = false) {v : Option Value} (hv : meth.sig.returnType = none → v = none) (hQ : P v T.heap locs) (hk : cells ≤ k) (hn : slots ≤ n)
    (st : ∀ fs, (∀ (f : JFrame) (acts : List Action), f.method = m → f.locked = none → f.entered = [] → (doReturn e (T.setTop f) acts v).1 = T.setFrames fs) → Steps p.tables e below A (T.setFrames fs)) :
    ownG p.tables e below (ownE s below P k n) A := by
  obtain ⟨fs, hr, hrun, hended, hW, hsame⟩ := X.leave hv hlk
  exact ⟨_, st fs hr, hrun, v, locs, hended, hQ, ⟨_, rfl⟩, hW, hsame.mono hk hn⟩
theorem ownRetH {p : Program} {l : Launch} {e : Env} {R : Room} {s : State} {m : MethodId} {args : Array Value} {below : List Frame} {meth : Method} {c : Code} {T A Z : State} {EL : List (String × Nat)} {h0 : Heap} {locs : List Loc} {cells slots k n k1 : Nat} {vm1 : Vm} {P : Option Value → Heap → List Loc → Prop}
    (X : Stand p l e R (s.setVm vm1) m args below meth c T locs cells slots) (hS : s.Since vm1 k1) (hk1 : k1 ≤ T.heap.size) (hlk : meth.locks = false) {v : Option Value} (hv : meth.sig.returnType = none → v = none) (hQ : P v T.heap locs) (hC : CHr Z EL s.vm h0 T.vm T.heap) (hk : cells ≤ k) (hn : slots ≤ n)
    (st : ∀ fs, (∀ (f : JFrame) (acts : List Action), f.method = m → f.locked = none → f.entered = [] → (doReturn e (T.setTop f) acts v).1 = T.setFrames fs) → Steps p.tables e below A (T.setFrames fs)) :
    ownG p.tables e below (ownEH s below P Z EL h0 k n) A := by
  obtain ⟨fs, hr, hrun, hended, hR⟩ := X.leaveW hS hk1 hv hlk
  exact ⟨_, st fs hr, hrun, v, locs, hended, hQ, hC, hR.1, hR.2.1, hR.2.2.1, hR.2.2.2.mono hk hn⟩
theorem own_since {s : State} {n : Nat} : s.Since s.vm n := (State.WarmedH.refl s).since n
theorem own_cat {v : Value} (h : v.isRef = true) : v.category = 1 := by cases v <;> simp_all [Value.isRef, Value.category]
theorem own_narrow {t : FieldType} {v : Value} (ht : t.isReference = true) (h : v.isRef = true) : narrow t v = v := by
  rcases ref_cases h with rfl | ⟨a, rfl⟩ <;> cases t <;> simp_all [narrow, FieldType.isReference]
theorem own_fits {t : FieldType} {v : Value} (ht : t.isReference = true) (h : v.isRef = true) : fits t v = true := by
  rcases ref_cases h with rfl | ⟨a, rfl⟩ <;> cases t <;> simp_all [fits, FieldType.isReference]
theorem own_and255 (x : Int32) : ¬ nar .char ((x &&& (255 : Int32)).toUInt32.toUInt16.toUInt32.toInt32) < 0 ∧ ¬ (255 : Int32) < nar .char ((x &&& (255 : Int32)).toUInt32.toUInt16.toUInt32.toInt32) := by
  have t : ∀ k : Fin 256, ¬ nar .char ((Int32.ofNat k.val).toUInt32.toUInt16.toUInt32.toInt32) < 0 ∧ ¬ (255 : Int32) < nar .char ((Int32.ofNat k.val).toUInt32.toUInt16.toUInt32.toInt32) := by decide +kernel
  have h : (x &&& 255).toBitVec.toNat < 256 := by
    simp only [Int32.toBitVec_and, BitVec.toNat_and]
    exact Nat.lt_succ_of_le Nat.and_le_right
  have e : (x &&& 255) = Int32.ofNat (x &&& 255).toBitVec.toNat := by
    apply Int32.toBitVec_inj.mp
    show _ = BitVec.ofNat 32 _
    rw [BitVec.ofNat_toNat]; simp
  rw [e]
  exact t ⟨_, h⟩
theorem own_up (cs : List Int32) (h : ∀ c ∈ cs, ¬ c < 0 ∧ ¬ (255 : Int32) < c) : ∀ c ∈ cs, ¬ c < 0 ∧ ¬ (65535 : Int32) < c := fun c hc => ⟨(h c hc).1, fun q => (h c hc).2 (by rw [Int32.lt_iff_toInt_lt] at q ⊢; have e1 : (65535 : Int32).toInt = 65535 := rfl; have e2 : (255 : Int32).toInt = 255 := rfl; omega)⟩
theorem own_nz {args : Array Value} {s : State} {t : Jvm.Term} {g : Int32} (e : t.eval args s none [] s = some (.int g)) (h : (Jvm.Cond.not (Jvm.Cond.eq t (Jvm.Term.int (0 : Int32)))).value args s none s [] = some true) : ¬ (g = (0 : Int32)) := by
  intro q
  subst q
  simp [Jvm.Cond.value, Jvm.Term.eval, e] at h
theorem own_lcmp_self (x : Int64) : lcmpW x x = 0 := by rw [lcW]; exact (lc_eq x x).mpr rfl
theorem own_nar_byte (x : Int32) : nar .byte (x.toInt8.toInt32) = x.toInt8.toInt32 := by simp [nar]
theorem own_nar_char (x : Int32) : nar .char (x.toUInt32.toUInt16.toUInt32.toInt32) = x.toUInt32.toUInt16.toUInt32.toInt32 := by
  have q := c_i2c x
  have q2 := c_i2c (x.toUInt32.toUInt16.toUInt32.toInt32)
  exact Int32.toInt_inj.mp (by show ((x.toUInt32.toUInt16.toUInt32.toInt32).toUInt32.toUInt16.toUInt32.toInt32).toInt = _; omega)
theorem own_and255c (x : Int32) : ¬ ((255 : Int32) < (x &&& (255 : Int32)).toUInt32.toUInt16.toUInt32.toInt32) := by
  have h := (own_and255 x).2
  rwa [own_nar_char] at h
def own_b (p : Prop) [Decidable p] : Int32 := if p then 1 else 0
theorem own_bt0 {p : Prop} [Decidable p] (h : p) : ¬ (own_b p = (0 : Int32)) := by simp [own_b, h]
theorem own_bf0 {p : Prop} [Decidable p] (h : ¬ p) : own_b p = (0 : Int32) := by simp [own_b, h]
theorem own_bt1 {p : Prop} [Decidable p] (h : p) : own_b p = (1 : Int32) := by simp [own_b, h]
theorem own_bf1 {p : Prop} [Decidable p] (h : ¬ p) : ¬ (own_b p = (1 : Int32)) := by simp [own_b, h]
theorem pn_1 : plainName "java/lang/StringLatin1" = true := by first | (simp [plainName, overriddenIn]; done) | decide +kernel
theorem d_jdk_43_method_3_0 : decode jdk_43_method_3_code 0 = .ok (.iload_n 0, 1) := by decide +kernel
theorem d_jdk_43_method_3_1 : decode jdk_43_method_3_code 1 = .ok (.sipush 255, 3) := by decide +kernel
theorem d_jdk_43_method_3_4 : decode jdk_43_method_3_code 4 = .ok (.if_icmp .gt 7, 3) := by decide +kernel
theorem d_jdk_43_method_3_7 : decode jdk_43_method_3_code 7 = .ok (.iconst 1, 1) := by decide +kernel
theorem d_jdk_43_method_3_8 : decode jdk_43_method_3_code 8 = .ok (.goto 4, 3) := by decide +kernel
theorem d_jdk_43_method_3_12 : decode jdk_43_method_3_code 12 = .ok (.ireturn, 1) := by decide +kernel
theorem d_jdk_43_method_46_0 : decode jdk_43_method_46_code 0 = .ok (.iconst 1, 1) := by decide +kernel
theorem d_jdk_43_method_46_1 : decode jdk_43_method_46_code 1 = .ok (.newarray .byte, 2) := by decide +kernel
theorem d_jdk_43_method_46_3 : decode jdk_43_method_46_code 3 = .ok (.dup, 1) := by decide +kernel
theorem d_jdk_43_method_46_4 : decode jdk_43_method_46_code 4 = .ok (.iconst 0, 1) := by decide +kernel
theorem d_jdk_43_method_46_5 : decode jdk_43_method_46_code 5 = .ok (.iload_n 0, 1) := by decide +kernel
theorem d_jdk_43_method_46_6 : decode jdk_43_method_46_code 6 = .ok (.i2b, 1) := by decide +kernel
theorem d_jdk_43_method_46_7 : decode jdk_43_method_46_code 7 = .ok (.bastore, 1) := by decide +kernel
theorem d_jdk_43_method_46_8 : decode jdk_43_method_46_code 8 = .ok (.areturn, 1) := by decide +kernel
theorem pn_10 : plainName "java/lang/String" = true := by first | (simp [plainName, overriddenIn]; done) | decide +kernel
theorem d_jdk_42_method_151_0 : decode jdk_42_method_151_code 0 = .ok (.aload_n 0, 1) := by decide +kernel
theorem d_jdk_42_method_151_1 : decode jdk_42_method_151_code 1 = .ok (.invokespecial 1, 3) := by decide +kernel
theorem d_jdk_42_method_151_4 : decode jdk_42_method_151_code 4 = .ok (.aload_n 0, 1) := by decide +kernel
theorem d_jdk_42_method_151_5 : decode jdk_42_method_151_code 5 = .ok (.aload_n 1, 1) := by decide +kernel
theorem d_jdk_42_method_151_6 : decode jdk_42_method_151_code 6 = .ok (.putfield 9, 3) := by decide +kernel
theorem d_jdk_42_method_151_9 : decode jdk_42_method_151_code 9 = .ok (.aload_n 0, 1) := by decide +kernel
theorem d_jdk_42_method_151_10 : decode jdk_42_method_151_code 10 = .ok (.iload_n 2, 1) := by decide +kernel
theorem d_jdk_42_method_151_11 : decode jdk_42_method_151_code 11 = .ok (.putfield 15, 3) := by decide +kernel
theorem d_jdk_42_method_151_14 : decode jdk_42_method_151_code 14 = .ok (.return_, 1) := by decide +kernel
theorem d_jdk_42_method_139_0 : decode jdk_42_method_139_code 0 = .ok (.getstatic 38, 3) := by decide +kernel
theorem d_jdk_42_method_139_3 : decode jdk_42_method_139_code 3 = .ok (.ifCond .eq 23, 3) := by decide +kernel
theorem d_jdk_42_method_139_6 : decode jdk_42_method_139_code 6 = .ok (.iload_n 0, 1) := by decide +kernel
theorem d_jdk_42_method_139_7 : decode jdk_42_method_139_code 7 = .ok (.invokestatic 1015, 3) := by decide +kernel
theorem pd_25 : parseMethodDescriptor "(C)Z" = some ⟨[.char], some .boolean⟩ := by decide +kernel
theorem d_jdk_42_method_139_10 : decode jdk_42_method_139_code 10 = .ok (.ifCond .eq 16, 3) := by decide +kernel
theorem d_jdk_42_method_139_13 : decode jdk_42_method_139_code 13 = .ok (.new 10, 3) := by decide +kernel
theorem d_jdk_42_method_139_16 : decode jdk_42_method_139_code 16 = .ok (.dup, 1) := by decide +kernel
theorem d_jdk_42_method_139_17 : decode jdk_42_method_139_code 17 = .ok (.iload_n 0, 1) := by decide +kernel
theorem d_jdk_42_method_139_18 : decode jdk_42_method_139_code 18 = .ok (.invokestatic 1018, 3) := by decide +kernel
theorem pd_34 : parseMethodDescriptor "(C)[B" = some ⟨[.char], some (.array .byte)⟩ := by decide +kernel
theorem d_jdk_42_method_139_21 : decode jdk_42_method_139_code 21 = .ok (.iconst 0, 1) := by decide +kernel
theorem d_jdk_42_method_139_22 : decode jdk_42_method_139_code 22 = .ok (.invokespecial 209, 3) := by decide +kernel
theorem pd_45 : parseMethodDescriptor "([BB)V" = some ⟨[(.array .byte), .byte], none⟩ := by decide +kernel
theorem d_jdk_42_method_139_25 : decode jdk_42_method_139_code 25 = .ok (.areturn, 1) := by decide +kernel
theorem d_jdk_42_method_66_0 : decode jdk_42_method_66_code 0 = .ok (.aload_n 0, 1) := by decide +kernel
theorem d_jdk_42_method_66_1 : decode jdk_42_method_66_code 1 = .ok (.aload_n 1, 1) := by decide +kernel
theorem d_jdk_42_method_66_2 : decode jdk_42_method_66_code 2 = .ok (.if_acmp .ne 5, 3) := by decide +kernel
theorem d_jdk_42_method_66_5 : decode jdk_42_method_66_code 5 = .ok (.iconst 1, 1) := by decide +kernel
theorem d_jdk_42_method_66_6 : decode jdk_42_method_66_code 6 = .ok (.ireturn, 1) := by decide +kernel
theorem pn_50 : plainName "com/example/sakuin/sakuin/engine/Operation" = true := by first | (simp [plainName, overriddenIn]; done) | decide +kernel
theorem d_prog_12_method_4_0 : decode prog_12_method_4_code 0 = .ok (.aload_n 0, 1) := by decide +kernel
theorem d_prog_12_method_4_1 : decode prog_12_method_4_code 1 = .ok (.getfield 7, 3) := by decide +kernel
theorem d_prog_12_method_4_4 : decode prog_12_method_4_code 4 = .ok (.ireturn, 1) := by decide +kernel
theorem d_prog_12_method_5_0 : decode prog_12_method_5_code 0 = .ok (.aload_n 0, 1) := by decide +kernel
theorem d_prog_12_method_5_1 : decode prog_12_method_5_code 1 = .ok (.getfield 13, 3) := by decide +kernel
theorem d_prog_12_method_5_4 : decode prog_12_method_5_code 4 = .ok (.areturn, 1) := by decide +kernel
theorem d_prog_12_method_6_0 : decode prog_12_method_6_code 0 = .ok (.aload_n 0, 1) := by decide +kernel
theorem d_prog_12_method_6_1 : decode prog_12_method_6_code 1 = .ok (.getfield 17, 3) := by decide +kernel
theorem d_prog_12_method_6_4 : decode prog_12_method_6_code 4 = .ok (.areturn, 1) := by decide +kernel
theorem d_prog_12_method_7_0 : decode prog_12_method_7_code 0 = .ok (.aload_n 0, 1) := by decide +kernel
theorem d_prog_12_method_7_1 : decode prog_12_method_7_code 1 = .ok (.getfield 21, 3) := by decide +kernel
theorem d_prog_12_method_7_4 : decode prog_12_method_7_code 4 = .ok (.areturn, 1) := by decide +kernel
theorem d_prog_12_method_8_0 : decode prog_12_method_8_code 0 = .ok (.aload_n 0, 1) := by decide +kernel
theorem d_prog_12_method_8_1 : decode prog_12_method_8_code 1 = .ok (.getfield 24, 3) := by decide +kernel
theorem d_prog_12_method_8_4 : decode prog_12_method_8_code 4 = .ok (.lreturn, 1) := by decide +kernel
theorem d_prog_12_method_9_0 : decode prog_12_method_9_code 0 = .ok (.aload_n 0, 1) := by decide +kernel
theorem d_prog_12_method_9_1 : decode prog_12_method_9_code 1 = .ok (.getfield 28, 3) := by decide +kernel
theorem d_prog_12_method_9_4 : decode prog_12_method_9_code 4 = .ok (.lreturn, 1) := by decide +kernel
theorem d_prog_12_method_10_0 : decode prog_12_method_10_code 0 = .ok (.aload_n 0, 1) := by decide +kernel
theorem d_prog_12_method_10_1 : decode prog_12_method_10_code 1 = .ok (.getfield 31, 3) := by decide +kernel
theorem d_prog_12_method_10_4 : decode prog_12_method_10_code 4 = .ok (.lreturn, 1) := by decide +kernel
theorem d_prog_12_method_11_0 : decode prog_12_method_11_code 0 = .ok (.aload_n 0, 1) := by decide +kernel
theorem d_prog_12_method_11_1 : decode prog_12_method_11_code 1 = .ok (.getfield 34, 3) := by decide +kernel
theorem d_prog_12_method_11_4 : decode prog_12_method_11_code 4 = .ok (.lreturn, 1) := by decide +kernel
theorem d_prog_12_method_1_0 : decode prog_12_method_1_code 0 = .ok (.aload_n 0, 1) := by decide +kernel
theorem d_prog_12_method_1_1 : decode prog_12_method_1_code 1 = .ok (.invokespecial 1, 3) := by decide +kernel
theorem d_prog_12_method_1_4 : decode prog_12_method_1_code 4 = .ok (.aload_n 0, 1) := by decide +kernel
theorem d_prog_12_method_1_5 : decode prog_12_method_1_code 5 = .ok (.iload_n 1, 1) := by decide +kernel
theorem d_prog_12_method_1_6 : decode prog_12_method_1_code 6 = .ok (.putfield 7, 3) := by decide +kernel
theorem d_prog_12_method_1_9 : decode prog_12_method_1_code 9 = .ok (.aload_n 0, 1) := by decide +kernel
theorem d_prog_12_method_1_10 : decode prog_12_method_1_code 10 = .ok (.aload_n 2, 1) := by decide +kernel
theorem d_prog_12_method_1_11 : decode prog_12_method_1_code 11 = .ok (.putfield 13, 3) := by decide +kernel
theorem d_prog_12_method_1_14 : decode prog_12_method_1_code 14 = .ok (.aload_n 0, 1) := by decide +kernel
theorem d_prog_12_method_1_15 : decode prog_12_method_1_code 15 = .ok (.aload_n 3, 1) := by decide +kernel
theorem d_prog_12_method_1_16 : decode prog_12_method_1_code 16 = .ok (.putfield 17, 3) := by decide +kernel
theorem d_prog_12_method_1_19 : decode prog_12_method_1_code 19 = .ok (.aload_n 0, 1) := by decide +kernel
theorem d_prog_12_method_1_20 : decode prog_12_method_1_code 20 = .ok (.aload 4, 2) := by decide +kernel
theorem d_prog_12_method_1_22 : decode prog_12_method_1_code 22 = .ok (.putfield 21, 3) := by decide +kernel
theorem d_prog_12_method_1_25 : decode prog_12_method_1_code 25 = .ok (.aload_n 0, 1) := by decide +kernel
theorem d_prog_12_method_1_26 : decode prog_12_method_1_code 26 = .ok (.lload 5, 2) := by decide +kernel
theorem d_prog_12_method_1_28 : decode prog_12_method_1_code 28 = .ok (.putfield 24, 3) := by decide +kernel
theorem d_prog_12_method_1_31 : decode prog_12_method_1_code 31 = .ok (.aload_n 0, 1) := by decide +kernel
theorem d_prog_12_method_1_32 : decode prog_12_method_1_code 32 = .ok (.lload 7, 2) := by decide +kernel
theorem d_prog_12_method_1_34 : decode prog_12_method_1_code 34 = .ok (.putfield 28, 3) := by decide +kernel
theorem d_prog_12_method_1_37 : decode prog_12_method_1_code 37 = .ok (.aload_n 0, 1) := by decide +kernel
theorem d_prog_12_method_1_38 : decode prog_12_method_1_code 38 = .ok (.lload 9, 2) := by decide +kernel
theorem d_prog_12_method_1_40 : decode prog_12_method_1_code 40 = .ok (.putfield 31, 3) := by decide +kernel
theorem d_prog_12_method_1_43 : decode prog_12_method_1_code 43 = .ok (.aload_n 0, 1) := by decide +kernel
theorem d_prog_12_method_1_44 : decode prog_12_method_1_code 44 = .ok (.lload 11, 2) := by decide +kernel
theorem d_prog_12_method_1_46 : decode prog_12_method_1_code 46 = .ok (.putfield 34, 3) := by decide +kernel
theorem d_prog_12_method_1_49 : decode prog_12_method_1_code 49 = .ok (.return_, 1) := by decide +kernel
theorem d_prog_12_method_2_0 : decode prog_12_method_2_code 0 = .ok (.new 8, 3) := by decide +kernel
theorem d_prog_12_method_2_3 : decode prog_12_method_2_code 3 = .ok (.dup, 1) := by decide +kernel
theorem d_prog_12_method_2_4 : decode prog_12_method_2_code 4 = .ok (.iconst 0, 1) := by decide +kernel
theorem d_prog_12_method_2_5 : decode prog_12_method_2_code 5 = .ok (.aload_n 0, 1) := by decide +kernel
theorem d_prog_12_method_2_6 : decode prog_12_method_2_code 6 = .ok (.aload_n 1, 1) := by decide +kernel
theorem d_prog_12_method_2_7 : decode prog_12_method_2_code 7 = .ok (.aload_n 2, 1) := by decide +kernel
theorem d_prog_12_method_2_8 : decode prog_12_method_2_code 8 = .ok (.lload_n 3, 1) := by decide +kernel
theorem d_prog_12_method_2_9 : decode prog_12_method_2_code 9 = .ok (.lload 5, 2) := by decide +kernel
theorem d_prog_12_method_2_11 : decode prog_12_method_2_code 11 = .ok (.lload 7, 2) := by decide +kernel
theorem d_prog_12_method_2_13 : decode prog_12_method_2_code 13 = .ok (.lload 9, 2) := by decide +kernel
theorem d_prog_12_method_2_15 : decode prog_12_method_2_code 15 = .ok (.invokespecial 37, 3) := by decide +kernel
theorem pd_120 : parseMethodDescriptor "(ZLjava/lang/String;[BLjava/lang/String;JJJJ)V" = some ⟨[.boolean, (.object "java/lang/String"), (.array .byte), (.object "java/lang/String"), .long, .long, .long, .long], none⟩ := by decide +kernel
theorem d_prog_12_method_2_18 : decode prog_12_method_2_code 18 = .ok (.areturn, 1) := by decide +kernel
theorem pn_124 : plainName "com/example/sakuin/sakuin/engine/OperationIndexPinLaw" = true := by first | (simp [plainName, overriddenIn]; done) | decide +kernel
theorem pd_148 : parseMethodDescriptor "([C)V" = some ⟨[(.array .char)], none⟩ := by decide +kernel
theorem pd_175 : parseMethodDescriptor "(Ljava/lang/String;[BLjava/lang/String;JJJJ)Lcom/example/sakuin/sakuin/engine/Operation;" = some ⟨[(.object "java/lang/String"), (.array .byte), (.object "java/lang/String"), .long, .long, .long, .long], some (.object "com/example/sakuin/sakuin/engine/Operation")⟩ := by decide +kernel
theorem pd_189 : parseMethodDescriptor "()Z" = some ⟨[], some .boolean⟩ := by decide +kernel
theorem pd_192 : parseMethodDescriptor "()Ljava/lang/String;" = some ⟨[], some (.object "java/lang/String")⟩ := by decide +kernel
theorem pd_195 : parseMethodDescriptor "(Ljava/lang/Object;)Z" = some ⟨[(.object "java/lang/Object")], some .boolean⟩ := by decide +kernel
theorem pd_199 : parseMethodDescriptor "()[B" = some ⟨[], some (.array .byte)⟩ := by decide +kernel
theorem pd_207 : parseMethodDescriptor "()J" = some ⟨[], some .long⟩ := by decide +kernel
theorem pd_218 : parseMethodDescriptor "(C)Ljava/lang/String;" = some ⟨[.char], some (.object "java/lang/String")⟩ := by decide +kernel
def Q_canc (Z : State) (p1 : Int32) (h0 : Heap) (n0 : Nat) (v : Option Value) (h : Heap) (L : List Loc) : Prop := v = some (.int (1 : Int32)) ∧ Fr n0 L ∧ h = h0
theorem ef_canc (m : MethodId) (x0 : Int32)  : entryFrame m #[(.int x0)] 1 = mkF m 0 #[.val (.int x0)] [] := by first | (simp [entryFrame, mkF, argsToLocals, Value.category]; done) | rfl
set_option maxRecDepth 65536 in
set_option maxHeartbeats 40000000 in
theorem c_canc (l : Launch) (Z : State) (a0 : Array Value) (hw : ∀ d ∈ tables_1, d.before a0 Z = true) (ws : List Jvm.Cond) (p1 : Int32) (h0 : Heap) (n0 : Nat) (Z0 : n0 ≤ h0.size) (hle : ¬ ((255 : Int32) < p1)) :
    MetFree l (⟨"java/lang/StringLatin1", "canEncode", "(C)Z"⟩ : MethodName) (head1 (Jvm.Cond.code (⟨"java/lang/StringLatin1", "canEncode", "(C)Z"⟩ : MethodName) jdk_43_method_3_code 1 (some .boolean) :: ws) ({ frames := 0, cells := 0, slots := 0, locals := 0 } : Room)) (fun a U => a = #[(.int p1)] ∧ Z.Warmed39 U.vm ∧ U.heap = h0) (fun _ _ _ _ _ => True) (fun _ U o U' => ∃ v L, o = .returned v ∧ (Q_canc Z p1 h0 n0) v U'.heap L ∧ FrameEnd U o U' L ({ frames := 0, cells := 0, slots := 0, locals := 0 } : Room).cells ({ frames := 0, cells := 0, slots := 0, locals := 0 } : Room).slots) := by
  refine MetFree.of_bodySF (plainFor_of_name pn_1) hisR ?_
  intro p e s m args below meth c s₁ Bd hml0 hP hK
  obtain ⟨rfl, hZ, hh⟩ := hP
  have hx := Bd.exec
  have hby := Bd.bytes
  have hml : c.maxLocals = 1 := hml0
  have hown : s.vm.findClass "java/lang/StringLatin1" = some m.cls := findClass_of_methodNamed Bd.named
  have hnm := (name_of_methodNamed Bd.named Bd.method).1
  have X0 : Stand p l e ({ frames := 0, cells := 0, slots := 0, locals := 0 } : Room) s m #[(.int p1)] below meth c s₁ [] 0 0 := Stand.of_body Bd
  have e0 : s₁.heap = h0 := by rw [← hh, Bd.state]; rfl
  have N0 := Fr.nil n0
  refine ownOut (P := (Q_canc Z p1 h0 n0)) ?_
  refine ownBy (A := s₁.setTop (mkF m 0 #[.val (.int p1)] [])) (fun t k => castTop (ef_canc m p1) k) ?_
  refine ownBy (A := s₁.setTop (mkF m 12 #[.val (.int p1)] [(.int (1 : Int32))])) (fun t kt => ?_) ?_
  · show Steps p.tables e below (s₁.setTop (mkF m 0 #[.val (.int p1)] [])) t
    refine XS.iloadN X0.here hx rfl (hb hby d_jdk_43_method_3_0) rfl ?_
    show Steps p.tables e below (s₁.setTop (mkF m 1 #[.val (.int p1)] [(.int p1)])) t
    refine XS.sipush X0.here hx rfl (hb hby d_jdk_43_method_3_1) ?_
    show Steps p.tables e below (s₁.setTop (mkF m 4 #[.val (.int p1)] [(.int (255 : Int32)), (.int p1)])) t
    refine XS.icmpNo X0.here hx rfl (hb hby d_jdk_43_method_3_4) rfl (flt hle).2.2.1 ?_
    show Steps p.tables e below (s₁.setTop (mkF m 7 #[.val (.int p1)] [])) t
    refine XS.iconst X0.here hx rfl (hb hby d_jdk_43_method_3_7) ?_
    show Steps p.tables e below (s₁.setTop (mkF m 8 #[.val (.int p1)] [(.int (1 : Int32))])) t
    refine XS.goto X0.here hx rfl (pc0 := 8) (pc' := 12) rfl (hb hby d_jdk_43_method_3_8) (by decide) (by decide) ?_
    exact kt
  refine ownRet X0 Bd.notSynchronized (v := some (.int (nar .boolean (1 : Int32)))) (fun h => by rw [Bd.returns] at h; cases h) ?_ (Nat.le_of_ble_eq_true rfl) (Nat.le_of_ble_eq_true rfl) (fun fs hr => retN X0 hx (t := .boolean) Bd.returns (by simp) (hb hby d_jdk_43_method_3_12) hr)
  show (Q_canc Z p1 h0 n0) (some (.int (nar .boolean (1 : Int32)))) s₁.heap _
  rw [e0]
  exact ⟨rfl, N0, rfl⟩
def Q_tobc (Z : State) (p1 : Int32) (h0 : Heap) (n0 : Nat) (v : Option Value) (h : Heap) (L : List Loc) : Prop := ∃ (t : Addr) (kb : ClassId), v = some (.ref t) ∧ Fr n0 L ∧ Keep h0 h [] ∧ h0.size ≤ t ∧ Arv Z h t kb .byte (1 : Int32) [(.int (nar .byte (p1.toInt8.toInt32)))] (.int (0 : Int32))
theorem ef_tobc (m : MethodId) (x0 : Int32)  : entryFrame m #[(.int x0)] 1 = mkF m 0 #[.val (.int x0)] [] := by first | (simp [entryFrame, mkF, argsToLocals, Value.category]; done) | rfl
set_option maxRecDepth 65536 in
set_option maxHeartbeats 40000000 in
theorem c_tobc (l : Launch) (Z : State) (a0 : Array Value) (hw : ∀ d ∈ tables_1, d.before a0 Z = true) (ws : List Jvm.Cond) (p1 : Int32) (h0 : Heap) (n0 : Nat) (Z0 : n0 ≤ h0.size) :
    MetFree l (⟨"java/lang/StringLatin1", "toBytes", "(C)[B"⟩ : MethodName) (head1 (Jvm.Cond.code (⟨"java/lang/StringLatin1", "toBytes", "(C)[B"⟩ : MethodName) jdk_43_method_46_code 1 (some (.array .byte)) :: ws) ({ frames := 0, cells := 1, slots := 1, locals := 0 } : Room)) (fun a U => a = #[(.int p1)] ∧ Z.Warmed39 U.vm ∧ U.heap = h0) (fun _ _ _ _ _ => True) (fun _ U o U' => ∃ v L, o = .returned v ∧ (Q_tobc Z p1 h0 n0) v U'.heap L ∧ FrameEnd U o U' L ({ frames := 0, cells := 1, slots := 1, locals := 0 } : Room).cells ({ frames := 0, cells := 1, slots := 1, locals := 0 } : Room).slots) := by
  refine MetFree.of_bodySF (plainFor_of_name pn_1) hisR ?_
  intro p e s m args below meth c s₁ Bd hml0 hP hK
  obtain ⟨rfl, hZ, hh⟩ := hP
  have hx := Bd.exec
  have hby := Bd.bytes
  have hml : c.maxLocals = 1 := hml0
  have hown : s.vm.findClass "java/lang/StringLatin1" = some m.cls := findClass_of_methodNamed Bd.named
  have hnm := (name_of_methodNamed Bd.named Bd.method).1
  have X0 : Stand p l e ({ frames := 0, cells := 1, slots := 1, locals := 0 } : Room) s m #[(.int p1)] below meth c s₁ [] 0 0 := Stand.of_body Bd
  have e0 : s₁.heap = h0 := by rw [← hh, Bd.state]; rfl
  have N0 := Fr.nil n0
  refine ownOut (P := (Q_tobc Z p1 h0 n0)) ?_
  refine ownBy (A := s₁.setTop (mkF m 0 #[.val (.int p1)] [])) (fun t k => castTop (ef_tobc m p1) k) ?_
  refine ownBy (A := s₁.setTop (mkF m 1 #[.val (.int p1)] [(.int (1 : Int32))])) (fun t kt => ?_) ?_
  · show Steps p.tables e below (s₁.setTop (mkF m 0 #[.val (.int p1)] [])) t
    refine XS.iconst X0.here hx rfl (hb hby d_jdk_43_method_46_0) ?_
    exact kt
  obtain ⟨T2, h2, k2, X2, e2, E2, A2, st2⟩ := newP X0 hx hZ (hw _ (List.mem_of_getElem? (i := 19) rfl)) e0 (g := (mkF m 1 #[.val (.int p1)] [(.int (1 : Int32))])) rfl (hb hby d_jdk_43_method_46_1) rfl (by decide : ¬ ((1 : Int32) < (0 : Int32))) (cap := 1) (by decide) (by decide) (by decide) (by decide)
  obtain ⟨b2, g2⟩ : ∃ z, z = h0.size := ⟨_, rfl⟩
  rw [← g2] at A2 st2
  have g3 : n0 ≤ b2 := Nat.le_trans Z0 (Nat.le_of_eq g2.symm)
  have z4 : h0.size ≤ b2 := Nat.le_trans (Keep.refl h0 []).1 (Nat.le_of_eq g2.symm)
  have V5 : Arv Z h2 b2 k2 .byte (1 : Int32) [(.int (0 : Int32))] (.int (0 : Int32)) := (Arv.new A2 (by decide)).pad (pad_rep [] (.int (0 : Int32)) 1)
  refine ownBy st2 ?_
  show ownG p.tables e below _ (T2.setTop (mkF m 3 #[.val (.int p1)] [(.ref b2)]))
  refine ownBy (A := T2.setTop (mkF m 7 #[.val (.int p1)] [(.int (p1.toInt8.toInt32)), (.int (0 : Int32)), (.ref b2), (.ref b2)])) (fun t kt => ?_) ?_
  · show Steps p.tables e below (T2.setTop (mkF m 3 #[.val (.int p1)] [(.ref b2)])) t
    refine XS.dup X2.here hx rfl (hb hby d_jdk_43_method_46_3) rfl rfl ?_
    show Steps p.tables e below (T2.setTop (mkF m 4 #[.val (.int p1)] [(.ref b2), (.ref b2)])) t
    refine XS.iconst X2.here hx rfl (hb hby d_jdk_43_method_46_4) ?_
    show Steps p.tables e below (T2.setTop (mkF m 5 #[.val (.int p1)] [(.int (0 : Int32)), (.ref b2), (.ref b2)])) t
    refine XS.iloadN X2.here hx rfl (hb hby d_jdk_43_method_46_5) rfl ?_
    show Steps p.tables e below (T2.setTop (mkF m 6 #[.val (.int p1)] [(.int p1), (.int (0 : Int32)), (.ref b2), (.ref b2)])) t
    refine XS.i2b X2.here hx rfl (hb hby d_jdk_43_method_46_6) rfl ?_
    exact kt
  obtain ⟨cl6, Ar6, q6, S6, N6, H6, G6⟩ := id V5
  have hin6 : ¬ ((0 : Int32) < 0 ∨ cl6.slots.size ≤ ((0 : Int32)).toNatClampNeg) := inb_of S6 ⟨by decide, by decide⟩
  obtain ⟨T6, h6, X6, e6, W6, st6⟩ := stB X2 hx hZ e2 Ar6 (j := (0 : Int32)) hin6 (g := (mkF m 7 #[.val (.int p1)] [(.int (p1.toInt8.toInt32)), (.int (0 : Int32)), (.ref b2), (.ref b2)])) rfl rfl (hb hby d_jdk_43_method_46_7)
  have V7 : Arv Z h6 b2 k2 .byte (1 : Int32) [(.int (nar .byte (p1.toInt8.toInt32)))] (.int (0 : Int32)) := Arv.set Ar6 q6 S6 N6 H6 G6 (fits_nar_byte _) W6 0 rfl (Nat.le_of_ble_eq_true rfl)
  have N8 := Fr.snoc X6 N0 g3
  refine ownBy st6 ?_
  show ownG p.tables e below _ (T6.setTop (mkF m 8 #[.val (.int p1)] [(.ref b2)]))
  have f9 := (((Keep.refl h0 []).ext E2).wr W6 (Or.inr z4))
  refine ownRet X6 Bd.notSynchronized (v := some (.ref b2)) (fun h => by rw [Bd.returns] at h; cases h) ?_ (Nat.le_of_ble_eq_true rfl) (Nat.le_of_ble_eq_true rfl) (fun fs hr => retOut X6 hx Bd.returns rfl (Or.inr (Or.inr (Or.inr (Or.inr ⟨rfl, rfl, rfl⟩)))) (hb hby d_jdk_43_method_46_8) hr)
  show (Q_tobc Z p1 h0 n0) (some (.ref b2)) T6.heap _
  rw [e6]
  exact ⟨b2, k2, rfl, N8, f9, z4, V7⟩
def Q_inbb (Z : State) (a1 : Addr) (a2 : Addr) (v0 : Value) (c0 : Value) (h0 : Heap) (n0 : Nat) (v : Option Value) (h : Heap) (L : List Loc) : Prop := v = none ∧ Fr n0 L ∧ Keep h0 h [a1] ∧ Exa Z h a1 "java/lang/String" ∧ Fld Z h a1 "java/lang/String" "value" "[B" (.ref a2) ∧ Fld Z h a1 "java/lang/String" "coder" "B" (.int (0 : Int32))
theorem ef_inbb (m : MethodId) (x0 : Addr) (x1 : Addr) (x2 : Int32)  : entryFrame m #[(.ref x0), (.ref x1), (.int x2)] 3 = mkF m 0 #[.val (.ref x0), .val (.ref x1), .val (.int x2)] [] := by first | (simp [entryFrame, mkF, argsToLocals, Value.category]; done) | rfl
set_option maxRecDepth 65536 in
set_option maxHeartbeats 40000000 in
theorem c_inbb (l : Launch) (Z : State) (a0 : Array Value) (hw : ∀ d ∈ tables_1, d.before a0 Z = true) (ws : List Jvm.Cond) (a1 : Addr) (a2 : Addr) (v0 : Value) (c0 : Value) (h0 : Heap) (n0 : Nat) (Z0 : n0 ≤ h0.size) (E1 : Exa Z h0 a1 "java/lang/String") (F1 : Fld Z h0 a1 "java/lang/String" "value" "[B" v0) (F2 : Fld Z h0 a1 "java/lang/String" "coder" "B" c0) (g1 : n0 ≤ a1) :
    MetFree l (⟨"java/lang/String", "<init>", "([BB)V"⟩ : MethodName) (head1 (Jvm.Cond.code (⟨"java/lang/String", "<init>", "([BB)V"⟩ : MethodName) jdk_42_method_151_code 3 none :: ws) ({ frames := 1, cells := 0, slots := 0, locals := 12 } : Room)) (fun a U => a = #[(.ref a1), (.ref a2), (.int (0 : Int32))] ∧ Z.Warmed39 U.vm ∧ U.heap = h0) (fun _ _ _ _ _ => True) (fun _ U o U' => ∃ v L, o = .returned v ∧ (Q_inbb Z a1 a2 v0 c0 h0 n0) v U'.heap L ∧ FrameEnd U o U' L ({ frames := 1, cells := 0, slots := 0, locals := 12 } : Room).cells ({ frames := 1, cells := 0, slots := 0, locals := 12 } : Room).slots) := by
  refine MetFree.of_bodySF (plainFor_of_name pn_10) hisR ?_
  intro p e s m args below meth c s₁ Bd hml0 hP hK
  obtain ⟨rfl, hZ, hh⟩ := hP
  have hx := Bd.exec
  have hby := Bd.bytes
  have hml : c.maxLocals = 3 := hml0
  have hown : s.vm.findClass "java/lang/String" = some m.cls := findClass_of_methodNamed Bd.named
  have hnm := (name_of_methodNamed Bd.named Bd.method).1
  have X0 : Stand p l e ({ frames := 1, cells := 0, slots := 0, locals := 12 } : Room) s m #[(.ref a1), (.ref a2), (.int (0 : Int32))] below meth c s₁ [] 0 0 := Stand.of_body Bd
  have e0 : s₁.heap = h0 := by rw [← hh, Bd.state]; rfl
  have N0 := Fr.nil n0
  refine ownOut (P := (Q_inbb Z a1 a2 v0 c0 h0 n0)) ?_
  refine ownBy (A := s₁.setTop (mkF m 0 #[.val (.ref a1), .val (.ref a2), .val (.int (0 : Int32))] [])) (fun t k => castTop (ef_inbb m a1 a2 (0 : Int32)) k) ?_
  refine ownBy (A := s₁.setTop (mkF m 1 #[.val (.ref a1), .val (.ref a2), .val (.int (0 : Int32))] [(.ref a1)])) (fun t kt => ?_) ?_
  · show Steps p.tables e below (s₁.setTop (mkF m 0 #[.val (.ref a1), .val (.ref a2), .val (.int (0 : Int32))] [])) t
    refine XS.aloadN X0.here hx rfl (hb hby d_jdk_42_method_151_0) rfl rfl ?_
    exact kt
  obtain ⟨T11, X11, e11, st11⟩ := initO X0 hx hZ hown (hw _ (List.mem_of_getElem? (i := 11) rfl)) (hw _ (List.mem_of_getElem? (i := 12) rfl)) (hw _ (List.mem_of_getElem? (i := 13) rfl)) e0 (g := (mkF m 1 #[.val (.ref a1), .val (.ref a2), .val (.int (0 : Int32))] [(.ref a1)])) rfl (by rw [hml]; rfl) rfl (hb hby d_jdk_42_method_151_1) (by decide) (W := 0) (by show 2 * 0 + _ ≤ _; exact Nat.le_of_eq rfl) (by decide)
  refine ownBy st11 ?_
  show ownG p.tables e below _ (T11.setTop (mkF m 4 #[.val (.ref a1), .val (.ref a2), .val (.int (0 : Int32))] []))
  refine ownBy (A := T11.setTop (mkF m 6 #[.val (.ref a1), .val (.ref a2), .val (.int (0 : Int32))] [(.ref a2), (.ref a1)])) (fun t kt => ?_) ?_
  · show Steps p.tables e below (T11.setTop (mkF m 4 #[.val (.ref a1), .val (.ref a2), .val (.int (0 : Int32))] [])) t
    refine XS.aloadN X11.here hx rfl (hb hby d_jdk_42_method_151_4) rfl rfl ?_
    show Steps p.tables e below (T11.setTop (mkF m 5 #[.val (.ref a1), .val (.ref a2), .val (.int (0 : Int32))] [(.ref a1)])) t
    refine XS.aloadN X11.here hx rfl (hb hby d_jdk_42_method_151_5) rfl rfl ?_
    exact kt
  obtain ⟨T12, h12, X12, e12, W12, st12⟩ := putF X11 hx hZ hown (host := "") (Or.inl (hw _ (List.mem_of_getElem? (i := 28) rfl))) Via.refl e11 F1 E1 (Or.inr ⟨(hw _ (List.mem_of_getElem? (i := 29) rfl)), rfl, hnm⟩) (hw _ (List.mem_of_getElem? (i := 2) rfl)) (ty := (.array .byte)) (by decide) rfl rfl (g := (mkF m 6 #[.val (.ref a1), .val (.ref a2), .val (.int (0 : Int32))] [(.ref a2), (.ref a1)])) rfl rfl (hb hby d_jdk_42_method_151_6)
  have F13 := F1.same W12
  have N14 := Fr.snoc X12 N0 g1
  refine ownBy st12 ?_
  show ownG p.tables e below _ (T12.setTop (mkF m 9 #[.val (.ref a1), .val (.ref a2), .val (.int (0 : Int32))] []))
  refine ownBy (A := T12.setTop (mkF m 11 #[.val (.ref a1), .val (.ref a2), .val (.int (0 : Int32))] [(.int (0 : Int32)), (.ref a1)])) (fun t kt => ?_) ?_
  · show Steps p.tables e below (T12.setTop (mkF m 9 #[.val (.ref a1), .val (.ref a2), .val (.int (0 : Int32))] [])) t
    refine XS.aloadN X12.here hx rfl (hb hby d_jdk_42_method_151_9) rfl rfl ?_
    show Steps p.tables e below (T12.setTop (mkF m 10 #[.val (.ref a1), .val (.ref a2), .val (.int (0 : Int32))] [(.ref a1)])) t
    refine XS.iloadN X12.here hx rfl (hb hby d_jdk_42_method_151_10) rfl ?_
    exact kt
  have f16 := (F2.other W12 (Or.inr (slot_ne (Or.inr (hw _ (List.mem_of_getElem? (i := 27) rfl))) (Or.inr (hw _ (List.mem_of_getElem? (i := 29) rfl))) (by decide) (t := .byte) (t' := (.array .byte)) (by decide) (by decide))))
  have f17 := (E1.wr W12)
  obtain ⟨T15, h15, X15, e15, W15, st15⟩ := putFN X12 hx hZ hown (hw _ (List.mem_of_getElem? (i := 26) rfl)) Via.refl e12 f16 f17 (Or.inr ⟨(hw _ (List.mem_of_getElem? (i := 27) rfl)), rfl, hnm⟩) (hw _ (List.mem_of_getElem? (i := 2) rfl)) (ty := .byte) (v' := (.int (0 : Int32))) (by decide) rfl (fits_nar_byte (0 : Int32)) (g := (mkF m 11 #[.val (.ref a1), .val (.ref a2), .val (.int (0 : Int32))] [(.int (0 : Int32)), (.ref a1)])) rfl rfl (hb hby d_jdk_42_method_151_11)
  have F18 := f16.same W15
  have N19 := Fr.snoc X15 N14 g1
  refine ownBy st15 ?_
  show ownG p.tables e below _ (T15.setTop (mkF m 14 #[.val (.ref a1), .val (.ref a2), .val (.int (0 : Int32))] []))
  have f20 := (((Keep.refl h0 [a1]).wr W12 (Or.inl (List.mem_of_getElem? (i := 0) rfl))).wr W15 (Or.inl (List.mem_of_getElem? (i := 0) rfl)))
  have f21 := (f17.wr W15)
  have f22 := (F13.other W15 (Or.inr (slot_ne (Or.inr (hw _ (List.mem_of_getElem? (i := 29) rfl))) (Or.inr (hw _ (List.mem_of_getElem? (i := 27) rfl))) (by decide) (t := (.array .byte)) (t' := .byte) (by decide) (by decide))))
  refine ownRet X15 Bd.notSynchronized (v := none) (fun _ => rfl) ?_ (Nat.le_of_ble_eq_true rfl) (Nat.le_of_ble_eq_true rfl) (fun fs hr => X15.returnOut hx Bd.returns (hb hby d_jdk_42_method_151_14) hr)
  show (Q_inbb Z a1 a2 v0 c0 h0 n0) (none) T15.heap _
  rw [e15]
  exact ⟨rfl, N19, f20, f21, f22, F18⟩
def Q_valc (Z : State) (p1 : Int32) (G1 : Int32) (h0 : Heap) (n0 : Nat) (v : Option Value) (h : Heap) (L : List Loc) : Prop := ∃ (x t : Addr) (kb : ClassId), v = some (.ref x) ∧ Fr n0 L ∧ Keep h0 h [] ∧ h0.size ≤ x ∧ Exa Z h x "java/lang/String" ∧ Fld Z h x "java/lang/String" "value" "[B" (.ref t) ∧ Fld Z h x "java/lang/String" "coder" "B" (.int (0 : Int32)) ∧ Arv Z h t kb .byte (1 : Int32) [(.int (nar .byte (p1.toInt8.toInt32)))] (.int (0 : Int32))
theorem ef_valc (m : MethodId) (x0 : Int32)  : entryFrame m #[(.int x0)] 1 = mkF m 0 #[.val (.int x0)] [] := by first | (simp [entryFrame, mkF, argsToLocals, Value.category]; done) | rfl
set_option maxRecDepth 65536 in
set_option maxHeartbeats 40000000 in
theorem c_valc (l : Launch) (Z : State) (a0 : Array Value) (hw : ∀ d ∈ tables_1, d.before a0 Z = true) (ws : List Jvm.Cond) (p1 : Int32) (G1 : Int32) (h0 : Heap) (n0 : Nat) (Z0 : n0 ≤ h0.size) (hle : ¬ ((255 : Int32) < p1)) (O2 : Sta Z Z.heap "java/lang/String" "COMPACT_STRINGS" "Z" (.int G1)) (P5 : ¬ (G1 = (0 : Int32))) (X00 : Old Z n0 h0) :
    MetFree l (⟨"java/lang/String", "valueOf", "(C)Ljava/lang/String;"⟩ : MethodName) (head1 (Jvm.Cond.code (⟨"java/lang/String", "valueOf", "(C)Ljava/lang/String;"⟩ : MethodName) jdk_42_method_139_code 1 (some (.object "java/lang/String")) :: ws) ({ frames := 2, cells := 2, slots := 5, locals := 28 } : Room)) (fun a U => a = #[(.int p1)] ∧ Z.Warmed39 U.vm ∧ U.heap = h0) (fun _ _ _ _ _ => True) (fun _ U o U' => ∃ v L, o = .returned v ∧ (Q_valc Z p1 G1 h0 n0) v U'.heap L ∧ FrameEnd U o U' L ({ frames := 2, cells := 2, slots := 5, locals := 28 } : Room).cells ({ frames := 2, cells := 2, slots := 5, locals := 28 } : Room).slots) := by
  refine MetFree.of_bodySF (plainFor_of_name pn_10) hisR ?_
  intro p e s m args below meth c s₁ Bd hml0 hP hK
  obtain ⟨rfl, hZ, hh⟩ := hP
  have hx := Bd.exec
  have hby := Bd.bytes
  have hml : c.maxLocals = 1 := hml0
  have hown : s.vm.findClass "java/lang/String" = some m.cls := findClass_of_methodNamed Bd.named
  have hnm := (name_of_methodNamed Bd.named Bd.method).1
  have X0 : Stand p l e ({ frames := 2, cells := 2, slots := 5, locals := 28 } : Room) s m #[(.int p1)] below meth c s₁ [] 0 0 := Stand.of_body Bd
  have e0 : s₁.heap = h0 := by rw [← hh, Bd.state]; rfl
  have N0 := Fr.nil n0
  refine ownOut (P := (Q_valc Z p1 G1 h0 n0)) ?_
  refine ownBy (A := s₁.setTop (mkF m 0 #[.val (.int p1)] [])) (fun t k => castTop (ef_valc m p1) k) ?_
  obtain ⟨T23, X23, e23, st23⟩ := getS2 X0 hx hZ hown (host := "") (Or.inl (hw _ (List.mem_of_getElem? (i := 14) rfl))) Via.refl e0 (O2.ext X00.2) (g := (mkF m 0 #[.val (.int p1)] [])) rfl (hb hby d_jdk_42_method_139_0)
  refine ownBy st23 ?_
  show ownG p.tables e below _ (T23.setTop (mkF m 3 #[.val (.int p1)] [(.int G1)]))
  refine ownBy (A := T23.setTop (mkF m 7 #[.val (.int p1)] [(.int p1)])) (fun t kt => ?_) ?_
  · show Steps p.tables e below (T23.setTop (mkF m 3 #[.val (.int p1)] [(.int G1)])) t
    refine XS.ifNo X23.here hx rfl (hb hby d_jdk_42_method_139_3) rfl ((if0 _ _).trans (feq P5).1) ?_
    show Steps p.tables e below (T23.setTop (mkF m 6 #[.val (.int p1)] [])) t
    refine XS.iloadN X23.here hx rfl (hb hby d_jdk_42_method_139_6) rfl ?_
    exact kt
  obtain ⟨_, _, ⟨T24, L24, k24, n24⟩, -, X24, ⟨Lc24, hQ24, l24, y24, z24⟩, st24⟩ := Jvm.LawKit.callS X23 hx (y := (⟨"java/lang/StringLatin1", "canEncode", "(C)Z"⟩ : MethodName)) hown (mvT hZ (hw _ (List.mem_of_getElem? (i := 104) rfl))) (mvT hZ (hw _ (List.mem_of_getElem? (i := 105) rfl))) (mvT hZ (hw _ (List.mem_of_getElem? (i := 106) rfl))) (mvT hZ (hw _ (List.mem_of_getElem? (i := 107) rfl))) (by decide) (backOf (W := 0) (c_canc l Z a0 hw [] p1 h0 n0 Z0 hle) hZ (hw _ (List.mem_of_getElem? (i := 107) rfl)) (hw _ (List.mem_of_getElem? (i := 106) rfl)) (by decide) (by decide)) (g := (mkF m 7 #[.val (.int p1)] [(.int p1)])) rfl (by rw [hml]; rfl) (argsL := [(.int p1)]) (rest := []) (lenOf pd_25 rfl) rfl (by show 2 * 0 + _ ≤ _; exact Nat.le_of_eq rfl) (hb hby d_jdk_42_method_139_7) (fun _ _ => ⟨rfl, e23, (by decide : 0 + 0 ≤ _), (by decide : 0 + 0 ≤ _)⟩)
  dsimp only [Pt.U, Pt.locs, Pt.cells, Pt.slots] at X24 l24 y24 z24 st24 hQ24
  subst l24 y24 z24
  obtain ⟨rfl, Nq24, Eq24⟩ := hQ24
  have N26 := Fr.app N0 Nq24
  refine ownBy st24 ?_
  show ownG p.tables e below _ (T24.setTop (mkF m 10 #[.val (.int p1)] [(.int (1 : Int32))]))
  refine ownBy (A := T24.setTop (mkF m 13 #[.val (.int p1)] [])) (fun t kt => ?_) ?_
  · show Steps p.tables e below (T24.setTop (mkF m 10 #[.val (.int p1)] [(.int (1 : Int32))])) t
    refine XS.ifNo X24.here hx rfl (hb hby d_jdk_42_method_139_10) rfl ((if0 _ _).trans (feq ((by decide) : ¬ ((1 : Int32) = (0 : Int32)))).1) ?_
    exact kt
  obtain ⟨T27, h27, X27, e27, E27, A27, D27, -, st27⟩ := newO X24 hx hZ hown (hw _ (List.mem_of_getElem? (i := 108) rfl)) (hw _ (List.mem_of_getElem? (i := 2) rfl)) (hw _ (List.mem_of_getElem? (i := 3) rfl)) Eq24 (g := (mkF m 13 #[.val (.int p1)] [])) rfl (hb hby d_jdk_42_method_139_13) (by decide) (by decide)
  obtain ⟨b27, g27⟩ : ∃ z, z = h0.size := ⟨_, rfl⟩
  rw [← g27] at A27 D27 st27
  have g28 : n0 ≤ b27 := Nat.le_trans Z0 (Nat.le_of_eq g27.symm)
  have z29 : h0.size ≤ b27 := Nat.le_trans (Keep.refl h0 []).1 (Nat.le_of_eq g27.symm)
  have F30 : Fld Z h27 b27 "java/lang/String" "coder" "B" (.int (0 : Int32)) := D27 (Or.inr (hw _ (List.mem_of_getElem? (i := 27) rfl))) (ty := .byte) (by decide)
  have F31 : Fld Z h27 b27 "java/lang/String" "value" "[B" .null := D27 (Or.inr (hw _ (List.mem_of_getElem? (i := 29) rfl))) (ty := (.array .byte)) (by decide)
  refine ownBy st27 ?_
  show ownG p.tables e below _ (T27.setTop (mkF m 16 #[.val (.int p1)] [(.ref b27)]))
  refine ownBy (A := T27.setTop (mkF m 18 #[.val (.int p1)] [(.int p1), (.ref b27), (.ref b27)])) (fun t kt => ?_) ?_
  · show Steps p.tables e below (T27.setTop (mkF m 16 #[.val (.int p1)] [(.ref b27)])) t
    refine XS.dup X27.here hx rfl (hb hby d_jdk_42_method_139_16) rfl rfl ?_
    show Steps p.tables e below (T27.setTop (mkF m 17 #[.val (.int p1)] [(.ref b27), (.ref b27)])) t
    refine XS.iloadN X27.here hx rfl (hb hby d_jdk_42_method_139_17) rfl ?_
    exact kt
  have f32 := (Nat.le_trans Z0 E27.1)
  obtain ⟨_, _, ⟨T33, L33, k33, n33⟩, -, X33, ⟨Lc33, hQ33, l33, y33, z33⟩, st33⟩ := Jvm.LawKit.callS X27 hx (y := (⟨"java/lang/StringLatin1", "toBytes", "(C)[B"⟩ : MethodName)) hown (mvT hZ (hw _ (List.mem_of_getElem? (i := 109) rfl))) (mvT hZ (hw _ (List.mem_of_getElem? (i := 110) rfl))) (mvT hZ (hw _ (List.mem_of_getElem? (i := 106) rfl))) (mvT hZ (hw _ (List.mem_of_getElem? (i := 111) rfl))) (by decide) (backOf (W := 2) (c_tobc l Z a0 hw [] p1 h27 n0 f32 ) hZ (hw _ (List.mem_of_getElem? (i := 111) rfl)) (hw _ (List.mem_of_getElem? (i := 106) rfl)) (by decide) (by decide)) (g := (mkF m 18 #[.val (.int p1)] [(.int p1), (.ref b27), (.ref b27)])) rfl (by rw [hml]; rfl) (argsL := [(.int p1)]) (rest := [(.ref b27), (.ref b27)]) (lenOf pd_34 rfl) rfl (by show 2 * 0 + _ ≤ _; exact Nat.le_of_eq rfl) (hb hby d_jdk_42_method_139_18) (fun _ _ => ⟨rfl, e27, (by decide : 1 + 1 ≤ _), (by decide : 4 + 1 ≤ _)⟩)
  dsimp only [Pt.U, Pt.locs, Pt.cells, Pt.slots] at X33 l33 y33 z33 st33 hQ33
  subst l33 y33 z33
  obtain ⟨t33, kb33, rfl, Nq33, Kq33, zq33, Aq33⟩ := hQ33
  have ne35 : b27 ≠ t33 := Nat.ne_of_lt (Nat.lt_of_lt_of_le A27.lt zq33)
  have g36 : n0 ≤ t33 := Nat.le_trans f32 zq33
  have f38 := ((Keep.refl h0 []).ext E27)
  have z37 : h0.size ≤ t33 := Nat.le_trans f38.1 zq33
  have N39 := Fr.app N26 Nq33
  refine ownBy st33 ?_
  show ownG p.tables e below _ (T33.setTop (mkF m 21 #[.val (.int p1)] [(.ref t33), (.ref b27), (.ref b27)]))
  refine ownBy (A := T33.setTop (mkF m 22 #[.val (.int p1)] [(.int (0 : Int32)), (.ref t33), (.ref b27), (.ref b27)])) (fun t kt => ?_) ?_
  · show Steps p.tables e below (T33.setTop (mkF m 21 #[.val (.int p1)] [(.ref t33), (.ref b27), (.ref b27)])) t
    refine XS.iconst X33.here hx rfl (hb hby d_jdk_42_method_139_21) ?_
    exact kt
  have f40 := (A27.keep Kq33)
  have f41 := (F31.keep Kq33 nin0)
  have f42 := (F30.keep Kq33 nin0)
  have f43 := (Nat.le_trans f32 Kq33.1)
  obtain ⟨_, _, ⟨T44, L44, k44, n44⟩, -, X44, ⟨Lc44, hQ44, l44, y44, z44⟩, st44⟩ := X33.specialBack hx (y := (⟨"java/lang/String", "<init>", "([BB)V"⟩ : MethodName)) rfl hown (mvT hZ (hw _ (List.mem_of_getElem? (i := 112) rfl))) (mvT hZ (hw _ (List.mem_of_getElem? (i := 113) rfl))) (mvT hZ (hw _ (List.mem_of_getElem? (i := 114) rfl))) (by decide) (backOf (W := 1) (c_inbb l Z a0 hw [] b27 t33 _ _ T33.heap n0 f43 f40 f41 f42 g28) hZ (hw _ (List.mem_of_getElem? (i := 114) rfl)) (hw _ (List.mem_of_getElem? (i := 3) rfl)) (by decide) (by decide)) (g := (mkF m 22 #[.val (.int p1)] [(.int (0 : Int32)), (.ref t33), (.ref b27), (.ref b27)])) rfl (by rw [hml]; rfl) (Steps.refl _) (a := b27) (argsL := [(.ref t33), (.int (0 : Int32))]) (rest := [(.ref b27)]) (lenOf pd_45 rfl) rfl (by show 2 * 0 + _ ≤ _; exact Nat.le_of_eq rfl) (hb hby d_jdk_42_method_139_22) (fun _ _ => ⟨rfl, rfl, (by decide : 2 + 0 ≤ _), (by decide : 5 + 0 ≤ _)⟩)
  dsimp only [Pt.U, Pt.locs, Pt.cells, Pt.slots] at X44 l44 y44 z44 st44 hQ44
  subst l44 y44 z44
  obtain ⟨rfl, Nq44, Kq44, Eq44, Vq44, Cq44⟩ := hQ44
  have N46 := Fr.app N39 Nq44
  refine ownSt st44 ?_
  show ownG p.tables e below _ (T44.setTop (mkF m 25 #[.val (.int p1)] [(.ref b27)]))
  have f47 := ((f38.trans Kq33 all0).trans Kq44 (allS (Or.inr z29) all0))
  have f48 := (f40.keep Kq44)
  have f49 := (Aq33.keep Kq44 (ninS (Ne.symm ne35) nin0))
  refine ownRet X44 Bd.notSynchronized (v := some (.ref b27)) (fun h => by rw [Bd.returns] at h; cases h) ?_ (Nat.le_of_ble_eq_true rfl) (Nat.le_of_ble_eq_true rfl) (fun fs hr => retOut X44 hx Bd.returns rfl (Or.inr (Or.inr (Or.inr (Or.inr ⟨rfl, rfl, rfl⟩)))) (hb hby d_jdk_42_method_139_25) hr)
  show (Q_valc Z p1 G1 h0 n0) (some (.ref b27)) T44.heap _
  exact ⟨b27, t33, kb33, rfl, N46, f47, z29, f48, Vq44, Cq44, f49⟩
def Q_eqs (Z : State) (a1 : Addr) (h0 : Heap) (n0 : Nat) (v : Option Value) (h : Heap) (L : List Loc) : Prop := v = some (.int (1 : Int32)) ∧ Fr n0 L ∧ h = h0
theorem ef_eqs (m : MethodId) (x0 : Addr) (x1 : Addr)  : entryFrame m #[(.ref x0), (.ref x1)] 3 = mkF m 0 #[.val (.ref x0), .val (.ref x1), .unset] [] := by first | (simp [entryFrame, mkF, argsToLocals, Value.category]; done) | rfl
set_option maxRecDepth 65536 in
set_option maxHeartbeats 40000000 in
theorem c_eqs (l : Launch) (Z : State) (a0 : Array Value) (hw : ∀ d ∈ tables_1, d.before a0 Z = true) (ws : List Jvm.Cond) (a1 : Addr) (h0 : Heap) (n0 : Nat) (Z0 : n0 ≤ h0.size) :
    MetFree l (⟨"java/lang/String", "equals", "(Ljava/lang/Object;)Z"⟩ : MethodName) (head1 (Jvm.Cond.code (⟨"java/lang/String", "equals", "(Ljava/lang/Object;)Z"⟩ : MethodName) jdk_42_method_66_code 3 (some .boolean) :: ws) ({ frames := 0, cells := 0, slots := 0, locals := 0 } : Room)) (fun a U => a = #[(.ref a1), (.ref a1)] ∧ Z.Warmed39 U.vm ∧ U.heap = h0) (fun _ _ _ _ _ => True) (fun _ U o U' => ∃ v L, o = .returned v ∧ (Q_eqs Z a1 h0 n0) v U'.heap L ∧ FrameEnd U o U' L ({ frames := 0, cells := 0, slots := 0, locals := 0 } : Room).cells ({ frames := 0, cells := 0, slots := 0, locals := 0 } : Room).slots) := by
  refine MetFree.of_bodySF (plainFor_of_name pn_10) hisR ?_
  intro p e s m args below meth c s₁ Bd hml0 hP hK
  obtain ⟨rfl, hZ, hh⟩ := hP
  have hx := Bd.exec
  have hby := Bd.bytes
  have hml : c.maxLocals = 3 := hml0
  have hown : s.vm.findClass "java/lang/String" = some m.cls := findClass_of_methodNamed Bd.named
  have hnm := (name_of_methodNamed Bd.named Bd.method).1
  have X0 : Stand p l e ({ frames := 0, cells := 0, slots := 0, locals := 0 } : Room) s m #[(.ref a1), (.ref a1)] below meth c s₁ [] 0 0 := Stand.of_body Bd
  have e0 : s₁.heap = h0 := by rw [← hh, Bd.state]; rfl
  have N0 := Fr.nil n0
  refine ownOut (P := (Q_eqs Z a1 h0 n0)) ?_
  refine ownBy (A := s₁.setTop (mkF m 0 #[.val (.ref a1), .val (.ref a1), .unset] [])) (fun t k => castTop (ef_eqs m a1 a1) k) ?_
  refine ownBy (A := s₁.setTop (mkF m 6 #[.val (.ref a1), .val (.ref a1), .unset] [(.int (1 : Int32))])) (fun t kt => ?_) ?_
  · show Steps p.tables e below (s₁.setTop (mkF m 0 #[.val (.ref a1), .val (.ref a1), .unset] [])) t
    refine XS.aloadN X0.here hx rfl (hb hby d_jdk_42_method_66_0) rfl rfl ?_
    show Steps p.tables e below (s₁.setTop (mkF m 1 #[.val (.ref a1), .val (.ref a1), .unset] [(.ref a1)])) t
    refine XS.aloadN X0.here hx rfl (hb hby d_jdk_42_method_66_1) rfl rfl ?_
    show Steps p.tables e below (s₁.setTop (mkF m 2 #[.val (.ref a1), .val (.ref a1), .unset] [(.ref a1), (.ref a1)])) t
    refine Jvm.RoadKit.acmp (g := (mkF m 2 #[.val (.ref a1), .val (.ref a1), .unset] [(.ref a1), (.ref a1)])) X0 hx rfl rfl rfl (pc0 := 2) (pc' := 5) (same := true) rfl (hb hby d_jdk_42_method_66_2) rfl (decide_eq_true rfl) (by decide) (by decide) ?_
    show Steps p.tables e below (s₁.setTop (mkF m 5 #[.val (.ref a1), .val (.ref a1), .unset] [])) t
    refine XS.iconst X0.here hx rfl (hb hby d_jdk_42_method_66_5) ?_
    exact kt
  refine ownRet X0 Bd.notSynchronized (v := some (.int (nar .boolean (1 : Int32)))) (fun h => by rw [Bd.returns] at h; cases h) ?_ (Nat.le_of_ble_eq_true rfl) (Nat.le_of_ble_eq_true rfl) (fun fs hr => retN X0 hx (t := .boolean) Bd.returns (by simp) (hb hby d_jdk_42_method_66_6) hr)
  show (Q_eqs Z a1 h0 n0) (some (.int (nar .boolean (1 : Int32)))) s₁.heap _
  rw [e0]
  exact ⟨rfl, N0, rfl⟩
def Q_get0 (Z : State) (a1 : Addr) (u : Int32) (h0 : Heap) (n0 : Nat) (v : Option Value) (h : Heap) (L : List Loc) : Prop := v = some (.int (nar .boolean u)) ∧ Fr n0 L ∧ h = h0
theorem ef_get0 (m : MethodId) (x0 : Addr)  : entryFrame m #[(.ref x0)] 1 = mkF m 0 #[.val (.ref x0)] [] := by first | (simp [entryFrame, mkF, argsToLocals, Value.category]; done) | rfl
set_option maxRecDepth 65536 in
set_option maxHeartbeats 40000000 in
theorem c_get0 (l : Launch) (Z : State) (a0 : Array Value) (hw : ∀ d ∈ tables_1, d.before a0 Z = true) (ws : List Jvm.Cond) (a1 : Addr) (u : Int32) (h0 : Heap) (n0 : Nat) (Z0 : n0 ≤ h0.size) (F1 : Fld Z h0 a1 "com/example/sakuin/sakuin/engine/Operation" "delete" "Z" (.int u)) :
    MetFree l (⟨"com/example/sakuin/sakuin/engine/Operation", "isDelete", "()Z"⟩ : MethodName) (head1 (Jvm.Cond.code (⟨"com/example/sakuin/sakuin/engine/Operation", "isDelete", "()Z"⟩ : MethodName) prog_12_method_4_code 1 (some .boolean) :: ws) ({ frames := 0, cells := 0, slots := 0, locals := 0 } : Room)) (fun a U => a = #[(.ref a1)] ∧ Z.Warmed39 U.vm ∧ U.heap = h0) (fun _ _ _ _ _ => True) (fun _ U o U' => ∃ v L, o = .returned v ∧ (Q_get0 Z a1 u h0 n0) v U'.heap L ∧ FrameEnd U o U' L ({ frames := 0, cells := 0, slots := 0, locals := 0 } : Room).cells ({ frames := 0, cells := 0, slots := 0, locals := 0 } : Room).slots) := by
  refine MetFree.of_bodySF (plainFor_of_name pn_50) hisR ?_
  intro p e s m args below meth c s₁ Bd hml0 hP hK
  obtain ⟨rfl, hZ, hh⟩ := hP
  have hx := Bd.exec
  have hby := Bd.bytes
  have hml : c.maxLocals = 1 := hml0
  have hown : s.vm.findClass "com/example/sakuin/sakuin/engine/Operation" = some m.cls := findClass_of_methodNamed Bd.named
  have hnm := (name_of_methodNamed Bd.named Bd.method).1
  have X0 : Stand p l e ({ frames := 0, cells := 0, slots := 0, locals := 0 } : Room) s m #[(.ref a1)] below meth c s₁ [] 0 0 := Stand.of_body Bd
  have e0 : s₁.heap = h0 := by rw [← hh, Bd.state]; rfl
  have N0 := Fr.nil n0
  refine ownOut (P := (Q_get0 Z a1 u h0 n0)) ?_
  refine ownBy (A := s₁.setTop (mkF m 0 #[.val (.ref a1)] [])) (fun t k => castTop (ef_get0 m a1) k) ?_
  refine ownBy (A := s₁.setTop (mkF m 1 #[.val (.ref a1)] [(.ref a1)])) (fun t kt => ?_) ?_
  · show Steps p.tables e below (s₁.setTop (mkF m 0 #[.val (.ref a1)] [])) t
    refine XS.aloadN X0.here hx rfl (hb hby d_prog_12_method_4_0) rfl rfl ?_
    exact kt
  obtain ⟨T51, X51, e51, st51⟩ := getF X0 hx hZ hown (host := "") (Or.inl (hw _ (List.mem_of_getElem? (i := 40) rfl))) Via.refl e0 F1 (g := (mkF m 1 #[.val (.ref a1)] [(.ref a1)])) rfl rfl (hb hby d_prog_12_method_4_1)
  refine ownBy st51 ?_
  show ownG p.tables e below _ (T51.setTop (mkF m 4 #[.val (.ref a1)] [(.int u)]))
  refine ownRet X51 Bd.notSynchronized (v := some (.int (nar .boolean u))) (fun h => by rw [Bd.returns] at h; cases h) ?_ (Nat.le_of_ble_eq_true rfl) (Nat.le_of_ble_eq_true rfl) (fun fs hr => retN X51 hx (t := .boolean) Bd.returns (by simp) (hb hby d_prog_12_method_4_4) hr)
  show (Q_get0 Z a1 u h0 n0) (some (.int (nar .boolean u))) T51.heap _
  rw [e51]
  exact ⟨rfl, N0, rfl⟩
def Q_get1 (Z : State) (a1 : Addr) (u : Value) (h0 : Heap) (n0 : Nat) (v : Option Value) (h : Heap) (L : List Loc) : Prop := v = some u ∧ Fr n0 L ∧ h = h0
theorem ef_get1 (m : MethodId) (x0 : Addr)  : entryFrame m #[(.ref x0)] 1 = mkF m 0 #[.val (.ref x0)] [] := by first | (simp [entryFrame, mkF, argsToLocals, Value.category]; done) | rfl
set_option maxRecDepth 65536 in
set_option maxHeartbeats 40000000 in
theorem c_get1 (l : Launch) (Z : State) (a0 : Array Value) (hw : ∀ d ∈ tables_1, d.before a0 Z = true) (ws : List Jvm.Cond) (a1 : Addr) (u : Value) (h0 : Heap) (n0 : Nat) (Z0 : n0 ≤ h0.size) (F1 : Fld Z h0 a1 "com/example/sakuin/sakuin/engine/Operation" "id" "Ljava/lang/String;" u) (hu : u.isRef = true) :
    MetFree l (⟨"com/example/sakuin/sakuin/engine/Operation", "id", "()Ljava/lang/String;"⟩ : MethodName) (head1 (Jvm.Cond.code (⟨"com/example/sakuin/sakuin/engine/Operation", "id", "()Ljava/lang/String;"⟩ : MethodName) prog_12_method_5_code 1 (some (.object "java/lang/String")) :: ws) ({ frames := 0, cells := 0, slots := 0, locals := 0 } : Room)) (fun a U => a = #[(.ref a1)] ∧ Z.Warmed39 U.vm ∧ U.heap = h0) (fun _ _ _ _ _ => True) (fun _ U o U' => ∃ v L, o = .returned v ∧ (Q_get1 Z a1 u h0 n0) v U'.heap L ∧ FrameEnd U o U' L ({ frames := 0, cells := 0, slots := 0, locals := 0 } : Room).cells ({ frames := 0, cells := 0, slots := 0, locals := 0 } : Room).slots) := by
  refine MetFree.of_bodySF (plainFor_of_name pn_50) hisR ?_
  intro p e s m args below meth c s₁ Bd hml0 hP hK
  obtain ⟨rfl, hZ, hh⟩ := hP
  have hx := Bd.exec
  have hby := Bd.bytes
  have hml : c.maxLocals = 1 := hml0
  have hown : s.vm.findClass "com/example/sakuin/sakuin/engine/Operation" = some m.cls := findClass_of_methodNamed Bd.named
  have hnm := (name_of_methodNamed Bd.named Bd.method).1
  have X0 : Stand p l e ({ frames := 0, cells := 0, slots := 0, locals := 0 } : Room) s m #[(.ref a1)] below meth c s₁ [] 0 0 := Stand.of_body Bd
  have e0 : s₁.heap = h0 := by rw [← hh, Bd.state]; rfl
  have N0 := Fr.nil n0
  refine ownOut (P := (Q_get1 Z a1 u h0 n0)) ?_
  refine ownBy (A := s₁.setTop (mkF m 0 #[.val (.ref a1)] [])) (fun t k => castTop (ef_get1 m a1) k) ?_
  refine ownBy (A := s₁.setTop (mkF m 1 #[.val (.ref a1)] [(.ref a1)])) (fun t kt => ?_) ?_
  · show Steps p.tables e below (s₁.setTop (mkF m 0 #[.val (.ref a1)] [])) t
    refine XS.aloadN X0.here hx rfl (hb hby d_prog_12_method_5_0) rfl rfl ?_
    exact kt
  obtain ⟨T52, X52, e52, st52⟩ := getF X0 hx hZ hown (host := "") (Or.inl (hw _ (List.mem_of_getElem? (i := 42) rfl))) Via.refl e0 F1 (g := (mkF m 1 #[.val (.ref a1)] [(.ref a1)])) rfl rfl (hb hby d_prog_12_method_5_1)
  refine ownBy st52 ?_
  show ownG p.tables e below _ (T52.setTop (mkF m 4 #[.val (.ref a1)] [u]))
  refine ownRet X52 Bd.notSynchronized (v := some u) (fun h => by rw [Bd.returns] at h; cases h) ?_ (Nat.le_of_ble_eq_true rfl) (Nat.le_of_ble_eq_true rfl) (fun fs hr => retOut X52 hx Bd.returns (own_narrow rfl hu) (Or.inr (Or.inr (Or.inr (Or.inr ⟨rfl, rfl, hu⟩)))) (hb hby d_prog_12_method_5_4) hr)
  show (Q_get1 Z a1 u h0 n0) (some u) T52.heap _
  rw [e52]
  exact ⟨rfl, N0, rfl⟩
def Q_get2 (Z : State) (a1 : Addr) (u : Value) (h0 : Heap) (n0 : Nat) (v : Option Value) (h : Heap) (L : List Loc) : Prop := v = some u ∧ Fr n0 L ∧ h = h0
theorem ef_get2 (m : MethodId) (x0 : Addr)  : entryFrame m #[(.ref x0)] 1 = mkF m 0 #[.val (.ref x0)] [] := by first | (simp [entryFrame, mkF, argsToLocals, Value.category]; done) | rfl
set_option maxRecDepth 65536 in
set_option maxHeartbeats 40000000 in
theorem c_get2 (l : Launch) (Z : State) (a0 : Array Value) (hw : ∀ d ∈ tables_1, d.before a0 Z = true) (ws : List Jvm.Cond) (a1 : Addr) (u : Value) (h0 : Heap) (n0 : Nat) (Z0 : n0 ≤ h0.size) (F1 : Fld Z h0 a1 "com/example/sakuin/sakuin/engine/Operation" "source" "[B" u) (hu : u.isRef = true) :
    MetFree l (⟨"com/example/sakuin/sakuin/engine/Operation", "source", "()[B"⟩ : MethodName) (head1 (Jvm.Cond.code (⟨"com/example/sakuin/sakuin/engine/Operation", "source", "()[B"⟩ : MethodName) prog_12_method_6_code 1 (some (.array .byte)) :: ws) ({ frames := 0, cells := 0, slots := 0, locals := 0 } : Room)) (fun a U => a = #[(.ref a1)] ∧ Z.Warmed39 U.vm ∧ U.heap = h0) (fun _ _ _ _ _ => True) (fun _ U o U' => ∃ v L, o = .returned v ∧ (Q_get2 Z a1 u h0 n0) v U'.heap L ∧ FrameEnd U o U' L ({ frames := 0, cells := 0, slots := 0, locals := 0 } : Room).cells ({ frames := 0, cells := 0, slots := 0, locals := 0 } : Room).slots) := by
  refine MetFree.of_bodySF (plainFor_of_name pn_50) hisR ?_
  intro p e s m args below meth c s₁ Bd hml0 hP hK
  obtain ⟨rfl, hZ, hh⟩ := hP
  have hx := Bd.exec
  have hby := Bd.bytes
  have hml : c.maxLocals = 1 := hml0
  have hown : s.vm.findClass "com/example/sakuin/sakuin/engine/Operation" = some m.cls := findClass_of_methodNamed Bd.named
  have hnm := (name_of_methodNamed Bd.named Bd.method).1
  have X0 : Stand p l e ({ frames := 0, cells := 0, slots := 0, locals := 0 } : Room) s m #[(.ref a1)] below meth c s₁ [] 0 0 := Stand.of_body Bd
  have e0 : s₁.heap = h0 := by rw [← hh, Bd.state]; rfl
  have N0 := Fr.nil n0
  refine ownOut (P := (Q_get2 Z a1 u h0 n0)) ?_
  refine ownBy (A := s₁.setTop (mkF m 0 #[.val (.ref a1)] [])) (fun t k => castTop (ef_get2 m a1) k) ?_
  refine ownBy (A := s₁.setTop (mkF m 1 #[.val (.ref a1)] [(.ref a1)])) (fun t kt => ?_) ?_
  · show Steps p.tables e below (s₁.setTop (mkF m 0 #[.val (.ref a1)] [])) t
    refine XS.aloadN X0.here hx rfl (hb hby d_prog_12_method_6_0) rfl rfl ?_
    exact kt
  obtain ⟨T53, X53, e53, st53⟩ := getF X0 hx hZ hown (host := "") (Or.inl (hw _ (List.mem_of_getElem? (i := 44) rfl))) Via.refl e0 F1 (g := (mkF m 1 #[.val (.ref a1)] [(.ref a1)])) rfl rfl (hb hby d_prog_12_method_6_1)
  refine ownBy st53 ?_
  show ownG p.tables e below _ (T53.setTop (mkF m 4 #[.val (.ref a1)] [u]))
  refine ownRet X53 Bd.notSynchronized (v := some u) (fun h => by rw [Bd.returns] at h; cases h) ?_ (Nat.le_of_ble_eq_true rfl) (Nat.le_of_ble_eq_true rfl) (fun fs hr => retOut X53 hx Bd.returns (own_narrow rfl hu) (Or.inr (Or.inr (Or.inr (Or.inr ⟨rfl, rfl, hu⟩)))) (hb hby d_prog_12_method_6_4) hr)
  show (Q_get2 Z a1 u h0 n0) (some u) T53.heap _
  rw [e53]
  exact ⟨rfl, N0, rfl⟩
def Q_get3 (Z : State) (a1 : Addr) (u : Value) (h0 : Heap) (n0 : Nat) (v : Option Value) (h : Heap) (L : List Loc) : Prop := v = some u ∧ Fr n0 L ∧ h = h0
theorem ef_get3 (m : MethodId) (x0 : Addr)  : entryFrame m #[(.ref x0)] 1 = mkF m 0 #[.val (.ref x0)] [] := by first | (simp [entryFrame, mkF, argsToLocals, Value.category]; done) | rfl
set_option maxRecDepth 65536 in
set_option maxHeartbeats 40000000 in
theorem c_get3 (l : Launch) (Z : State) (a0 : Array Value) (hw : ∀ d ∈ tables_1, d.before a0 Z = true) (ws : List Jvm.Cond) (a1 : Addr) (u : Value) (h0 : Heap) (n0 : Nat) (Z0 : n0 ≤ h0.size) (F1 : Fld Z h0 a1 "com/example/sakuin/sakuin/engine/Operation" "routing" "Ljava/lang/String;" u) (hu : u.isRef = true) :
    MetFree l (⟨"com/example/sakuin/sakuin/engine/Operation", "routing", "()Ljava/lang/String;"⟩ : MethodName) (head1 (Jvm.Cond.code (⟨"com/example/sakuin/sakuin/engine/Operation", "routing", "()Ljava/lang/String;"⟩ : MethodName) prog_12_method_7_code 1 (some (.object "java/lang/String")) :: ws) ({ frames := 0, cells := 0, slots := 0, locals := 0 } : Room)) (fun a U => a = #[(.ref a1)] ∧ Z.Warmed39 U.vm ∧ U.heap = h0) (fun _ _ _ _ _ => True) (fun _ U o U' => ∃ v L, o = .returned v ∧ (Q_get3 Z a1 u h0 n0) v U'.heap L ∧ FrameEnd U o U' L ({ frames := 0, cells := 0, slots := 0, locals := 0 } : Room).cells ({ frames := 0, cells := 0, slots := 0, locals := 0 } : Room).slots) := by
  refine MetFree.of_bodySF (plainFor_of_name pn_50) hisR ?_
  intro p e s m args below meth c s₁ Bd hml0 hP hK
  obtain ⟨rfl, hZ, hh⟩ := hP
  have hx := Bd.exec
  have hby := Bd.bytes
  have hml : c.maxLocals = 1 := hml0
  have hown : s.vm.findClass "com/example/sakuin/sakuin/engine/Operation" = some m.cls := findClass_of_methodNamed Bd.named
  have hnm := (name_of_methodNamed Bd.named Bd.method).1
  have X0 : Stand p l e ({ frames := 0, cells := 0, slots := 0, locals := 0 } : Room) s m #[(.ref a1)] below meth c s₁ [] 0 0 := Stand.of_body Bd
  have e0 : s₁.heap = h0 := by rw [← hh, Bd.state]; rfl
  have N0 := Fr.nil n0
  refine ownOut (P := (Q_get3 Z a1 u h0 n0)) ?_
  refine ownBy (A := s₁.setTop (mkF m 0 #[.val (.ref a1)] [])) (fun t k => castTop (ef_get3 m a1) k) ?_
  refine ownBy (A := s₁.setTop (mkF m 1 #[.val (.ref a1)] [(.ref a1)])) (fun t kt => ?_) ?_
  · show Steps p.tables e below (s₁.setTop (mkF m 0 #[.val (.ref a1)] [])) t
    refine XS.aloadN X0.here hx rfl (hb hby d_prog_12_method_7_0) rfl rfl ?_
    exact kt
  obtain ⟨T54, X54, e54, st54⟩ := getF X0 hx hZ hown (host := "") (Or.inl (hw _ (List.mem_of_getElem? (i := 46) rfl))) Via.refl e0 F1 (g := (mkF m 1 #[.val (.ref a1)] [(.ref a1)])) rfl rfl (hb hby d_prog_12_method_7_1)
  refine ownBy st54 ?_
  show ownG p.tables e below _ (T54.setTop (mkF m 4 #[.val (.ref a1)] [u]))
  refine ownRet X54 Bd.notSynchronized (v := some u) (fun h => by rw [Bd.returns] at h; cases h) ?_ (Nat.le_of_ble_eq_true rfl) (Nat.le_of_ble_eq_true rfl) (fun fs hr => retOut X54 hx Bd.returns (own_narrow rfl hu) (Or.inr (Or.inr (Or.inr (Or.inr ⟨rfl, rfl, hu⟩)))) (hb hby d_prog_12_method_7_4) hr)
  show (Q_get3 Z a1 u h0 n0) (some u) T54.heap _
  rw [e54]
  exact ⟨rfl, N0, rfl⟩
def Q_get4 (Z : State) (a1 : Addr) (u : Int64) (h0 : Heap) (n0 : Nat) (v : Option Value) (h : Heap) (L : List Loc) : Prop := v = some (.long u) ∧ Fr n0 L ∧ h = h0
theorem ef_get4 (m : MethodId) (x0 : Addr)  : entryFrame m #[(.ref x0)] 1 = mkF m 0 #[.val (.ref x0)] [] := by first | (simp [entryFrame, mkF, argsToLocals, Value.category]; done) | rfl
set_option maxRecDepth 65536 in
set_option maxHeartbeats 40000000 in
theorem c_get4 (l : Launch) (Z : State) (a0 : Array Value) (hw : ∀ d ∈ tables_1, d.before a0 Z = true) (ws : List Jvm.Cond) (a1 : Addr) (u : Int64) (h0 : Heap) (n0 : Nat) (Z0 : n0 ≤ h0.size) (F1 : Fld Z h0 a1 "com/example/sakuin/sakuin/engine/Operation" "version" "J" (.long u)) :
    MetFree l (⟨"com/example/sakuin/sakuin/engine/Operation", "version", "()J"⟩ : MethodName) (head1 (Jvm.Cond.code (⟨"com/example/sakuin/sakuin/engine/Operation", "version", "()J"⟩ : MethodName) prog_12_method_8_code 1 (some .long) :: ws) ({ frames := 0, cells := 0, slots := 0, locals := 0 } : Room)) (fun a U => a = #[(.ref a1)] ∧ Z.Warmed39 U.vm ∧ U.heap = h0) (fun _ _ _ _ _ => True) (fun _ U o U' => ∃ v L, o = .returned v ∧ (Q_get4 Z a1 u h0 n0) v U'.heap L ∧ FrameEnd U o U' L ({ frames := 0, cells := 0, slots := 0, locals := 0 } : Room).cells ({ frames := 0, cells := 0, slots := 0, locals := 0 } : Room).slots) := by
  refine MetFree.of_bodySF (plainFor_of_name pn_50) hisR ?_
  intro p e s m args below meth c s₁ Bd hml0 hP hK
  obtain ⟨rfl, hZ, hh⟩ := hP
  have hx := Bd.exec
  have hby := Bd.bytes
  have hml : c.maxLocals = 1 := hml0
  have hown : s.vm.findClass "com/example/sakuin/sakuin/engine/Operation" = some m.cls := findClass_of_methodNamed Bd.named
  have hnm := (name_of_methodNamed Bd.named Bd.method).1
  have X0 : Stand p l e ({ frames := 0, cells := 0, slots := 0, locals := 0 } : Room) s m #[(.ref a1)] below meth c s₁ [] 0 0 := Stand.of_body Bd
  have e0 : s₁.heap = h0 := by rw [← hh, Bd.state]; rfl
  have N0 := Fr.nil n0
  refine ownOut (P := (Q_get4 Z a1 u h0 n0)) ?_
  refine ownBy (A := s₁.setTop (mkF m 0 #[.val (.ref a1)] [])) (fun t k => castTop (ef_get4 m a1) k) ?_
  refine ownBy (A := s₁.setTop (mkF m 1 #[.val (.ref a1)] [(.ref a1)])) (fun t kt => ?_) ?_
  · show Steps p.tables e below (s₁.setTop (mkF m 0 #[.val (.ref a1)] [])) t
    refine XS.aloadN X0.here hx rfl (hb hby d_prog_12_method_8_0) rfl rfl ?_
    exact kt
  obtain ⟨T55, X55, e55, st55⟩ := getF X0 hx hZ hown (host := "") (Or.inl (hw _ (List.mem_of_getElem? (i := 48) rfl))) Via.refl e0 F1 (g := (mkF m 1 #[.val (.ref a1)] [(.ref a1)])) rfl rfl (hb hby d_prog_12_method_8_1)
  refine ownBy st55 ?_
  show ownG p.tables e below _ (T55.setTop (mkF m 4 #[.val (.ref a1)] [(.long u)]))
  refine ownRet X55 Bd.notSynchronized (v := some (.long u)) (fun h => by rw [Bd.returns] at h; cases h) ?_ (Nat.le_of_ble_eq_true rfl) (Nat.le_of_ble_eq_true rfl) (fun fs hr => retOut X55 hx Bd.returns rfl (Or.inr (Or.inl ⟨rfl, rfl, _, rfl⟩)) (hb hby d_prog_12_method_8_4) hr)
  show (Q_get4 Z a1 u h0 n0) (some (.long u)) T55.heap _
  rw [e55]
  exact ⟨rfl, N0, rfl⟩
def Q_get5 (Z : State) (a1 : Addr) (u : Int64) (h0 : Heap) (n0 : Nat) (v : Option Value) (h : Heap) (L : List Loc) : Prop := v = some (.long u) ∧ Fr n0 L ∧ h = h0
theorem ef_get5 (m : MethodId) (x0 : Addr)  : entryFrame m #[(.ref x0)] 1 = mkF m 0 #[.val (.ref x0)] [] := by first | (simp [entryFrame, mkF, argsToLocals, Value.category]; done) | rfl
set_option maxRecDepth 65536 in
set_option maxHeartbeats 40000000 in
theorem c_get5 (l : Launch) (Z : State) (a0 : Array Value) (hw : ∀ d ∈ tables_1, d.before a0 Z = true) (ws : List Jvm.Cond) (a1 : Addr) (u : Int64) (h0 : Heap) (n0 : Nat) (Z0 : n0 ≤ h0.size) (F1 : Fld Z h0 a1 "com/example/sakuin/sakuin/engine/Operation" "seqNo" "J" (.long u)) :
    MetFree l (⟨"com/example/sakuin/sakuin/engine/Operation", "seqNo", "()J"⟩ : MethodName) (head1 (Jvm.Cond.code (⟨"com/example/sakuin/sakuin/engine/Operation", "seqNo", "()J"⟩ : MethodName) prog_12_method_9_code 1 (some .long) :: ws) ({ frames := 0, cells := 0, slots := 0, locals := 0 } : Room)) (fun a U => a = #[(.ref a1)] ∧ Z.Warmed39 U.vm ∧ U.heap = h0) (fun _ _ _ _ _ => True) (fun _ U o U' => ∃ v L, o = .returned v ∧ (Q_get5 Z a1 u h0 n0) v U'.heap L ∧ FrameEnd U o U' L ({ frames := 0, cells := 0, slots := 0, locals := 0 } : Room).cells ({ frames := 0, cells := 0, slots := 0, locals := 0 } : Room).slots) := by
  refine MetFree.of_bodySF (plainFor_of_name pn_50) hisR ?_
  intro p e s m args below meth c s₁ Bd hml0 hP hK
  obtain ⟨rfl, hZ, hh⟩ := hP
  have hx := Bd.exec
  have hby := Bd.bytes
  have hml : c.maxLocals = 1 := hml0
  have hown : s.vm.findClass "com/example/sakuin/sakuin/engine/Operation" = some m.cls := findClass_of_methodNamed Bd.named
  have hnm := (name_of_methodNamed Bd.named Bd.method).1
  have X0 : Stand p l e ({ frames := 0, cells := 0, slots := 0, locals := 0 } : Room) s m #[(.ref a1)] below meth c s₁ [] 0 0 := Stand.of_body Bd
  have e0 : s₁.heap = h0 := by rw [← hh, Bd.state]; rfl
  have N0 := Fr.nil n0
  refine ownOut (P := (Q_get5 Z a1 u h0 n0)) ?_
  refine ownBy (A := s₁.setTop (mkF m 0 #[.val (.ref a1)] [])) (fun t k => castTop (ef_get5 m a1) k) ?_
  refine ownBy (A := s₁.setTop (mkF m 1 #[.val (.ref a1)] [(.ref a1)])) (fun t kt => ?_) ?_
  · show Steps p.tables e below (s₁.setTop (mkF m 0 #[.val (.ref a1)] [])) t
    refine XS.aloadN X0.here hx rfl (hb hby d_prog_12_method_9_0) rfl rfl ?_
    exact kt
  obtain ⟨T56, X56, e56, st56⟩ := getF X0 hx hZ hown (host := "") (Or.inl (hw _ (List.mem_of_getElem? (i := 50) rfl))) Via.refl e0 F1 (g := (mkF m 1 #[.val (.ref a1)] [(.ref a1)])) rfl rfl (hb hby d_prog_12_method_9_1)
  refine ownBy st56 ?_
  show ownG p.tables e below _ (T56.setTop (mkF m 4 #[.val (.ref a1)] [(.long u)]))
  refine ownRet X56 Bd.notSynchronized (v := some (.long u)) (fun h => by rw [Bd.returns] at h; cases h) ?_ (Nat.le_of_ble_eq_true rfl) (Nat.le_of_ble_eq_true rfl) (fun fs hr => retOut X56 hx Bd.returns rfl (Or.inr (Or.inl ⟨rfl, rfl, _, rfl⟩)) (hb hby d_prog_12_method_9_4) hr)
  show (Q_get5 Z a1 u h0 n0) (some (.long u)) T56.heap _
  rw [e56]
  exact ⟨rfl, N0, rfl⟩
def Q_get6 (Z : State) (a1 : Addr) (u : Int64) (h0 : Heap) (n0 : Nat) (v : Option Value) (h : Heap) (L : List Loc) : Prop := v = some (.long u) ∧ Fr n0 L ∧ h = h0
theorem ef_get6 (m : MethodId) (x0 : Addr)  : entryFrame m #[(.ref x0)] 1 = mkF m 0 #[.val (.ref x0)] [] := by first | (simp [entryFrame, mkF, argsToLocals, Value.category]; done) | rfl
set_option maxRecDepth 65536 in
set_option maxHeartbeats 40000000 in
theorem c_get6 (l : Launch) (Z : State) (a0 : Array Value) (hw : ∀ d ∈ tables_1, d.before a0 Z = true) (ws : List Jvm.Cond) (a1 : Addr) (u : Int64) (h0 : Heap) (n0 : Nat) (Z0 : n0 ≤ h0.size) (F1 : Fld Z h0 a1 "com/example/sakuin/sakuin/engine/Operation" "primaryTerm" "J" (.long u)) :
    MetFree l (⟨"com/example/sakuin/sakuin/engine/Operation", "primaryTerm", "()J"⟩ : MethodName) (head1 (Jvm.Cond.code (⟨"com/example/sakuin/sakuin/engine/Operation", "primaryTerm", "()J"⟩ : MethodName) prog_12_method_10_code 1 (some .long) :: ws) ({ frames := 0, cells := 0, slots := 0, locals := 0 } : Room)) (fun a U => a = #[(.ref a1)] ∧ Z.Warmed39 U.vm ∧ U.heap = h0) (fun _ _ _ _ _ => True) (fun _ U o U' => ∃ v L, o = .returned v ∧ (Q_get6 Z a1 u h0 n0) v U'.heap L ∧ FrameEnd U o U' L ({ frames := 0, cells := 0, slots := 0, locals := 0 } : Room).cells ({ frames := 0, cells := 0, slots := 0, locals := 0 } : Room).slots) := by
  refine MetFree.of_bodySF (plainFor_of_name pn_50) hisR ?_
  intro p e s m args below meth c s₁ Bd hml0 hP hK
  obtain ⟨rfl, hZ, hh⟩ := hP
  have hx := Bd.exec
  have hby := Bd.bytes
  have hml : c.maxLocals = 1 := hml0
  have hown : s.vm.findClass "com/example/sakuin/sakuin/engine/Operation" = some m.cls := findClass_of_methodNamed Bd.named
  have hnm := (name_of_methodNamed Bd.named Bd.method).1
  have X0 : Stand p l e ({ frames := 0, cells := 0, slots := 0, locals := 0 } : Room) s m #[(.ref a1)] below meth c s₁ [] 0 0 := Stand.of_body Bd
  have e0 : s₁.heap = h0 := by rw [← hh, Bd.state]; rfl
  have N0 := Fr.nil n0
  refine ownOut (P := (Q_get6 Z a1 u h0 n0)) ?_
  refine ownBy (A := s₁.setTop (mkF m 0 #[.val (.ref a1)] [])) (fun t k => castTop (ef_get6 m a1) k) ?_
  refine ownBy (A := s₁.setTop (mkF m 1 #[.val (.ref a1)] [(.ref a1)])) (fun t kt => ?_) ?_
  · show Steps p.tables e below (s₁.setTop (mkF m 0 #[.val (.ref a1)] [])) t
    refine XS.aloadN X0.here hx rfl (hb hby d_prog_12_method_10_0) rfl rfl ?_
    exact kt
  obtain ⟨T57, X57, e57, st57⟩ := getF X0 hx hZ hown (host := "") (Or.inl (hw _ (List.mem_of_getElem? (i := 52) rfl))) Via.refl e0 F1 (g := (mkF m 1 #[.val (.ref a1)] [(.ref a1)])) rfl rfl (hb hby d_prog_12_method_10_1)
  refine ownBy st57 ?_
  show ownG p.tables e below _ (T57.setTop (mkF m 4 #[.val (.ref a1)] [(.long u)]))
  refine ownRet X57 Bd.notSynchronized (v := some (.long u)) (fun h => by rw [Bd.returns] at h; cases h) ?_ (Nat.le_of_ble_eq_true rfl) (Nat.le_of_ble_eq_true rfl) (fun fs hr => retOut X57 hx Bd.returns rfl (Or.inr (Or.inl ⟨rfl, rfl, _, rfl⟩)) (hb hby d_prog_12_method_10_4) hr)
  show (Q_get6 Z a1 u h0 n0) (some (.long u)) T57.heap _
  rw [e57]
  exact ⟨rfl, N0, rfl⟩
def Q_get7 (Z : State) (a1 : Addr) (u : Int64) (h0 : Heap) (n0 : Nat) (v : Option Value) (h : Heap) (L : List Loc) : Prop := v = some (.long u) ∧ Fr n0 L ∧ h = h0
theorem ef_get7 (m : MethodId) (x0 : Addr)  : entryFrame m #[(.ref x0)] 1 = mkF m 0 #[.val (.ref x0)] [] := by first | (simp [entryFrame, mkF, argsToLocals, Value.category]; done) | rfl
set_option maxRecDepth 65536 in
set_option maxHeartbeats 40000000 in
theorem c_get7 (l : Launch) (Z : State) (a0 : Array Value) (hw : ∀ d ∈ tables_1, d.before a0 Z = true) (ws : List Jvm.Cond) (a1 : Addr) (u : Int64) (h0 : Heap) (n0 : Nat) (Z0 : n0 ≤ h0.size) (F1 : Fld Z h0 a1 "com/example/sakuin/sakuin/engine/Operation" "time" "J" (.long u)) :
    MetFree l (⟨"com/example/sakuin/sakuin/engine/Operation", "time", "()J"⟩ : MethodName) (head1 (Jvm.Cond.code (⟨"com/example/sakuin/sakuin/engine/Operation", "time", "()J"⟩ : MethodName) prog_12_method_11_code 1 (some .long) :: ws) ({ frames := 0, cells := 0, slots := 0, locals := 0 } : Room)) (fun a U => a = #[(.ref a1)] ∧ Z.Warmed39 U.vm ∧ U.heap = h0) (fun _ _ _ _ _ => True) (fun _ U o U' => ∃ v L, o = .returned v ∧ (Q_get7 Z a1 u h0 n0) v U'.heap L ∧ FrameEnd U o U' L ({ frames := 0, cells := 0, slots := 0, locals := 0 } : Room).cells ({ frames := 0, cells := 0, slots := 0, locals := 0 } : Room).slots) := by
  refine MetFree.of_bodySF (plainFor_of_name pn_50) hisR ?_
  intro p e s m args below meth c s₁ Bd hml0 hP hK
  obtain ⟨rfl, hZ, hh⟩ := hP
  have hx := Bd.exec
  have hby := Bd.bytes
  have hml : c.maxLocals = 1 := hml0
  have hown : s.vm.findClass "com/example/sakuin/sakuin/engine/Operation" = some m.cls := findClass_of_methodNamed Bd.named
  have hnm := (name_of_methodNamed Bd.named Bd.method).1
  have X0 : Stand p l e ({ frames := 0, cells := 0, slots := 0, locals := 0 } : Room) s m #[(.ref a1)] below meth c s₁ [] 0 0 := Stand.of_body Bd
  have e0 : s₁.heap = h0 := by rw [← hh, Bd.state]; rfl
  have N0 := Fr.nil n0
  refine ownOut (P := (Q_get7 Z a1 u h0 n0)) ?_
  refine ownBy (A := s₁.setTop (mkF m 0 #[.val (.ref a1)] [])) (fun t k => castTop (ef_get7 m a1) k) ?_
  refine ownBy (A := s₁.setTop (mkF m 1 #[.val (.ref a1)] [(.ref a1)])) (fun t kt => ?_) ?_
  · show Steps p.tables e below (s₁.setTop (mkF m 0 #[.val (.ref a1)] [])) t
    refine XS.aloadN X0.here hx rfl (hb hby d_prog_12_method_11_0) rfl rfl ?_
    exact kt
  obtain ⟨T58, X58, e58, st58⟩ := getF X0 hx hZ hown (host := "") (Or.inl (hw _ (List.mem_of_getElem? (i := 54) rfl))) Via.refl e0 F1 (g := (mkF m 1 #[.val (.ref a1)] [(.ref a1)])) rfl rfl (hb hby d_prog_12_method_11_1)
  refine ownBy st58 ?_
  show ownG p.tables e below _ (T58.setTop (mkF m 4 #[.val (.ref a1)] [(.long u)]))
  refine ownRet X58 Bd.notSynchronized (v := some (.long u)) (fun h => by rw [Bd.returns] at h; cases h) ?_ (Nat.le_of_ble_eq_true rfl) (Nat.le_of_ble_eq_true rfl) (fun fs hr => retOut X58 hx Bd.returns rfl (Or.inr (Or.inl ⟨rfl, rfl, _, rfl⟩)) (hb hby d_prog_12_method_11_4) hr)
  show (Q_get7 Z a1 u h0 n0) (some (.long u)) T58.heap _
  rw [e58]
  exact ⟨rfl, N0, rfl⟩
def Q_opinit (Z : State) (a1 : Addr) (i1 : Value) (s1 : Value) (r1 : Value) (q1 : Int64) (q2 : Int64) (q3 : Int64) (q4 : Int64) (h0 : Heap) (n0 : Nat) (v : Option Value) (h : Heap) (L : List Loc) : Prop := v = none ∧ Fr n0 L ∧ Keep h0 h [a1] ∧ Exa Z h a1 "com/example/sakuin/sakuin/engine/Operation" ∧ Fld Z h a1 "com/example/sakuin/sakuin/engine/Operation" "delete" "Z" (.int (0 : Int32)) ∧ Fld Z h a1 "com/example/sakuin/sakuin/engine/Operation" "id" "Ljava/lang/String;" i1 ∧ Fld Z h a1 "com/example/sakuin/sakuin/engine/Operation" "source" "[B" s1 ∧ Fld Z h a1 "com/example/sakuin/sakuin/engine/Operation" "routing" "Ljava/lang/String;" r1 ∧ Fld Z h a1 "com/example/sakuin/sakuin/engine/Operation" "version" "J" (.long q1) ∧ Fld Z h a1 "com/example/sakuin/sakuin/engine/Operation" "seqNo" "J" (.long q2) ∧ Fld Z h a1 "com/example/sakuin/sakuin/engine/Operation" "primaryTerm" "J" (.long q3) ∧ Fld Z h a1 "com/example/sakuin/sakuin/engine/Operation" "time" "J" (.long q4)
theorem ef_opinit (m : MethodId) (x0 : Addr) (x1 : Int32) (x2 : Value) (x3 : Value) (x4 : Value) (x5 : Int64) (x6 : Int64) (x7 : Int64) (x8 : Int64) (r2 : x2.isRef = true) (r3 : x3.isRef = true) (r4 : x4.isRef = true) : entryFrame m #[(.ref x0), (.int x1), x2, x3, x4, (.long x5), (.long x6), (.long x7), (.long x8)] 13 = mkF m 0 #[.val (.ref x0), .val (.int x1), .val x2, .val x3, .val x4, .val (.long x5), .second, .val (.long x6), .second, .val (.long x7), .second, .val (.long x8), .second] [] := by
  rcases ref_cases r2 with rfl | ⟨y2, rfl⟩ <;>
  rcases ref_cases r3 with rfl | ⟨y3, rfl⟩ <;>
  rcases ref_cases r4 with rfl | ⟨y4, rfl⟩ <;> first | (simp [entryFrame, mkF, argsToLocals, Value.category]; done) | rfl
set_option maxRecDepth 65536 in
set_option maxHeartbeats 40000000 in
theorem c_opinit (l : Launch) (Z : State) (a0 : Array Value) (hw : ∀ d ∈ tables_1, d.before a0 Z = true) (ws : List Jvm.Cond) (a1 : Addr) (i1 : Value) (s1 : Value) (r1 : Value) (q1 : Int64) (q2 : Int64) (q3 : Int64) (q4 : Int64) (h0 : Heap) (n0 : Nat) (Z0 : n0 ≤ h0.size) (E1 : Exa Z h0 a1 "com/example/sakuin/sakuin/engine/Operation") (F_delete : Fld Z h0 a1 "com/example/sakuin/sakuin/engine/Operation" "delete" "Z" (.int (0 : Int32))) (F_id : Fld Z h0 a1 "com/example/sakuin/sakuin/engine/Operation" "id" "Ljava/lang/String;" .null) (F_source : Fld Z h0 a1 "com/example/sakuin/sakuin/engine/Operation" "source" "[B" .null) (F_routing : Fld Z h0 a1 "com/example/sakuin/sakuin/engine/Operation" "routing" "Ljava/lang/String;" .null) (F_version : Fld Z h0 a1 "com/example/sakuin/sakuin/engine/Operation" "version" "J" (.long (0 : Int64))) (F_seqNo : Fld Z h0 a1 "com/example/sakuin/sakuin/engine/Operation" "seqNo" "J" (.long (0 : Int64))) (F_primaryTerm : Fld Z h0 a1 "com/example/sakuin/sakuin/engine/Operation" "primaryTerm" "J" (.long (0 : Int64))) (F_time : Fld Z h0 a1 "com/example/sakuin/sakuin/engine/Operation" "time" "J" (.long (0 : Int64))) (g1 : n0 ≤ a1) (ri1 : i1.isRef = true) (rs1 : s1.isRef = true) (rr1 : r1.isRef = true) :
    MetFree l (⟨"com/example/sakuin/sakuin/engine/Operation", "<init>", "(ZLjava/lang/String;[BLjava/lang/String;JJJJ)V"⟩ : MethodName) (head1 (Jvm.Cond.code (⟨"com/example/sakuin/sakuin/engine/Operation", "<init>", "(ZLjava/lang/String;[BLjava/lang/String;JJJJ)V"⟩ : MethodName) prog_12_method_1_code 13 none :: ws) ({ frames := 1, cells := 0, slots := 0, locals := 12 } : Room)) (fun a U => a = #[(.ref a1), (.int (0 : Int32)), i1, s1, r1, (.long q1), (.long q2), (.long q3), (.long q4)] ∧ Z.Warmed39 U.vm ∧ U.heap = h0) (fun _ _ _ _ _ => True) (fun _ U o U' => ∃ v L, o = .returned v ∧ (Q_opinit Z a1 i1 s1 r1 q1 q2 q3 q4 h0 n0) v U'.heap L ∧ FrameEnd U o U' L ({ frames := 1, cells := 0, slots := 0, locals := 12 } : Room).cells ({ frames := 1, cells := 0, slots := 0, locals := 12 } : Room).slots) := by
  refine MetFree.of_bodySF (plainFor_of_name pn_50) hisR ?_
  intro p e s m args below meth c s₁ Bd hml0 hP hK
  obtain ⟨rfl, hZ, hh⟩ := hP
  have hx := Bd.exec
  have hby := Bd.bytes
  have hml : c.maxLocals = 13 := hml0
  have hown : s.vm.findClass "com/example/sakuin/sakuin/engine/Operation" = some m.cls := findClass_of_methodNamed Bd.named
  have hnm := (name_of_methodNamed Bd.named Bd.method).1
  have X0 : Stand p l e ({ frames := 1, cells := 0, slots := 0, locals := 12 } : Room) s m #[(.ref a1), (.int (0 : Int32)), i1, s1, r1, (.long q1), (.long q2), (.long q3), (.long q4)] below meth c s₁ [] 0 0 := Stand.of_body Bd
  have e0 : s₁.heap = h0 := by rw [← hh, Bd.state]; rfl
  have N0 := Fr.nil n0
  refine ownOut (P := (Q_opinit Z a1 i1 s1 r1 q1 q2 q3 q4 h0 n0)) ?_
  refine ownBy (A := s₁.setTop (mkF m 0 #[.val (.ref a1), .val (.int (0 : Int32)), .val i1, .val s1, .val r1, .val (.long q1), .second, .val (.long q2), .second, .val (.long q3), .second, .val (.long q4), .second] [])) (fun t k => castTop (ef_opinit m a1 (0 : Int32) i1 s1 r1 q1 q2 q3 q4 ri1 rs1 rr1) k) ?_
  refine ownBy (A := s₁.setTop (mkF m 1 #[.val (.ref a1), .val (.int (0 : Int32)), .val i1, .val s1, .val r1, .val (.long q1), .second, .val (.long q2), .second, .val (.long q3), .second, .val (.long q4), .second] [(.ref a1)])) (fun t kt => ?_) ?_
  · show Steps p.tables e below (s₁.setTop (mkF m 0 #[.val (.ref a1), .val (.int (0 : Int32)), .val i1, .val s1, .val r1, .val (.long q1), .second, .val (.long q2), .second, .val (.long q3), .second, .val (.long q4), .second] [])) t
    refine XS.aloadN X0.here hx rfl (hb hby d_prog_12_method_1_0) rfl rfl ?_
    exact kt
  obtain ⟨T59, X59, e59, st59⟩ := initO X0 hx hZ hown (hw _ (List.mem_of_getElem? (i := 39) rfl)) (hw _ (List.mem_of_getElem? (i := 12) rfl)) (hw _ (List.mem_of_getElem? (i := 13) rfl)) e0 (g := (mkF m 1 #[.val (.ref a1), .val (.int (0 : Int32)), .val i1, .val s1, .val r1, .val (.long q1), .second, .val (.long q2), .second, .val (.long q3), .second, .val (.long q4), .second] [(.ref a1)])) rfl (by rw [hml]; rfl) rfl (hb hby d_prog_12_method_1_1) (by decide) (W := 0) (by show 2 * 0 + _ ≤ _; exact Nat.le_of_eq rfl) (by decide)
  refine ownBy st59 ?_
  show ownG p.tables e below _ (T59.setTop (mkF m 4 #[.val (.ref a1), .val (.int (0 : Int32)), .val i1, .val s1, .val r1, .val (.long q1), .second, .val (.long q2), .second, .val (.long q3), .second, .val (.long q4), .second] []))
  refine ownBy (A := T59.setTop (mkF m 6 #[.val (.ref a1), .val (.int (0 : Int32)), .val i1, .val s1, .val r1, .val (.long q1), .second, .val (.long q2), .second, .val (.long q3), .second, .val (.long q4), .second] [(.int (0 : Int32)), (.ref a1)])) (fun t kt => ?_) ?_
  · show Steps p.tables e below (T59.setTop (mkF m 4 #[.val (.ref a1), .val (.int (0 : Int32)), .val i1, .val s1, .val r1, .val (.long q1), .second, .val (.long q2), .second, .val (.long q3), .second, .val (.long q4), .second] [])) t
    refine XS.aloadN X59.here hx rfl (hb hby d_prog_12_method_1_4) rfl rfl ?_
    show Steps p.tables e below (T59.setTop (mkF m 5 #[.val (.ref a1), .val (.int (0 : Int32)), .val i1, .val s1, .val r1, .val (.long q1), .second, .val (.long q2), .second, .val (.long q3), .second, .val (.long q4), .second] [(.ref a1)])) t
    refine XS.iloadN X59.here hx rfl (hb hby d_prog_12_method_1_5) rfl ?_
    exact kt
  obtain ⟨T60, h60, X60, e60, W60, st60⟩ := putFN X59 hx hZ hown (hw _ (List.mem_of_getElem? (i := 40) rfl)) Via.refl e59 F_delete E1 (Or.inr ⟨(hw _ (List.mem_of_getElem? (i := 41) rfl)), rfl, hnm⟩) (hw _ (List.mem_of_getElem? (i := 35) rfl)) (ty := .boolean) (v' := (.int (0 : Int32))) (by decide) rfl (fits_nar_bool (0 : Int32)) (g := (mkF m 6 #[.val (.ref a1), .val (.int (0 : Int32)), .val i1, .val s1, .val r1, .val (.long q1), .second, .val (.long q2), .second, .val (.long q3), .second, .val (.long q4), .second] [(.int (0 : Int32)), (.ref a1)])) rfl rfl (hb hby d_prog_12_method_1_6)
  have F61 := F_delete.same W60
  have N62 := Fr.snoc X60 N0 g1
  refine ownBy st60 ?_
  show ownG p.tables e below _ (T60.setTop (mkF m 9 #[.val (.ref a1), .val (.int (0 : Int32)), .val i1, .val s1, .val r1, .val (.long q1), .second, .val (.long q2), .second, .val (.long q3), .second, .val (.long q4), .second] []))
  refine ownBy (A := T60.setTop (mkF m 11 #[.val (.ref a1), .val (.int (0 : Int32)), .val i1, .val s1, .val r1, .val (.long q1), .second, .val (.long q2), .second, .val (.long q3), .second, .val (.long q4), .second] [i1, (.ref a1)])) (fun t kt => ?_) ?_
  · show Steps p.tables e below (T60.setTop (mkF m 9 #[.val (.ref a1), .val (.int (0 : Int32)), .val i1, .val s1, .val r1, .val (.long q1), .second, .val (.long q2), .second, .val (.long q3), .second, .val (.long q4), .second] [])) t
    refine XS.aloadN X60.here hx rfl (hb hby d_prog_12_method_1_9) rfl rfl ?_
    show Steps p.tables e below (T60.setTop (mkF m 10 #[.val (.ref a1), .val (.int (0 : Int32)), .val i1, .val s1, .val r1, .val (.long q1), .second, .val (.long q2), .second, .val (.long q3), .second, .val (.long q4), .second] [(.ref a1)])) t
    refine XS.aloadN X60.here hx rfl (hb hby d_prog_12_method_1_10) rfl ri1 ?_
    exact kt
  have f64 := (F_id.other W60 (Or.inr (slot_ne (Or.inr (hw _ (List.mem_of_getElem? (i := 43) rfl))) (Or.inr (hw _ (List.mem_of_getElem? (i := 41) rfl))) (by decide) (t := (.object "java/lang/String")) (t' := .boolean) (by decide) (by decide))))
  have f65 := (E1.wr W60)
  obtain ⟨T63, h63, X63, e63, W63, st63⟩ := putF X60 hx hZ hown (host := "") (Or.inl (hw _ (List.mem_of_getElem? (i := 42) rfl))) Via.refl e60 f64 f65 (Or.inr ⟨(hw _ (List.mem_of_getElem? (i := 43) rfl)), rfl, hnm⟩) (hw _ (List.mem_of_getElem? (i := 35) rfl)) (ty := (.object "java/lang/String")) (by decide) (own_narrow rfl ri1) (own_fits rfl ri1) (g := (mkF m 11 #[.val (.ref a1), .val (.int (0 : Int32)), .val i1, .val s1, .val r1, .val (.long q1), .second, .val (.long q2), .second, .val (.long q3), .second, .val (.long q4), .second] [i1, (.ref a1)])) rfl rfl (hb hby d_prog_12_method_1_11)
  have F66 := f64.same W63
  have N67 := Fr.snoc X63 N62 g1
  refine ownBy st63 ?_
  show ownG p.tables e below _ (T63.setTop (mkF m 14 #[.val (.ref a1), .val (.int (0 : Int32)), .val i1, .val s1, .val r1, .val (.long q1), .second, .val (.long q2), .second, .val (.long q3), .second, .val (.long q4), .second] []))
  refine ownBy (A := T63.setTop (mkF m 16 #[.val (.ref a1), .val (.int (0 : Int32)), .val i1, .val s1, .val r1, .val (.long q1), .second, .val (.long q2), .second, .val (.long q3), .second, .val (.long q4), .second] [s1, (.ref a1)])) (fun t kt => ?_) ?_
  · show Steps p.tables e below (T63.setTop (mkF m 14 #[.val (.ref a1), .val (.int (0 : Int32)), .val i1, .val s1, .val r1, .val (.long q1), .second, .val (.long q2), .second, .val (.long q3), .second, .val (.long q4), .second] [])) t
    refine XS.aloadN X63.here hx rfl (hb hby d_prog_12_method_1_14) rfl rfl ?_
    show Steps p.tables e below (T63.setTop (mkF m 15 #[.val (.ref a1), .val (.int (0 : Int32)), .val i1, .val s1, .val r1, .val (.long q1), .second, .val (.long q2), .second, .val (.long q3), .second, .val (.long q4), .second] [(.ref a1)])) t
    refine XS.aloadN X63.here hx rfl (hb hby d_prog_12_method_1_15) rfl rs1 ?_
    exact kt
  have f69 := ((F_source.other W60 (Or.inr (slot_ne (Or.inr (hw _ (List.mem_of_getElem? (i := 45) rfl))) (Or.inr (hw _ (List.mem_of_getElem? (i := 41) rfl))) (by decide) (t := (.array .byte)) (t' := .boolean) (by decide) (by decide)))).other W63 (Or.inr (slot_ne (Or.inr (hw _ (List.mem_of_getElem? (i := 45) rfl))) (Or.inr (hw _ (List.mem_of_getElem? (i := 43) rfl))) (by decide) (t := (.array .byte)) (t' := (.object "java/lang/String")) (by decide) (by decide))))
  have f70 := (f65.wr W63)
  obtain ⟨T68, h68, X68, e68, W68, st68⟩ := putF X63 hx hZ hown (host := "") (Or.inl (hw _ (List.mem_of_getElem? (i := 44) rfl))) Via.refl e63 f69 f70 (Or.inr ⟨(hw _ (List.mem_of_getElem? (i := 45) rfl)), rfl, hnm⟩) (hw _ (List.mem_of_getElem? (i := 35) rfl)) (ty := (.array .byte)) (by decide) (own_narrow rfl rs1) (own_fits rfl rs1) (g := (mkF m 16 #[.val (.ref a1), .val (.int (0 : Int32)), .val i1, .val s1, .val r1, .val (.long q1), .second, .val (.long q2), .second, .val (.long q3), .second, .val (.long q4), .second] [s1, (.ref a1)])) rfl rfl (hb hby d_prog_12_method_1_16)
  have F71 := f69.same W68
  have N72 := Fr.snoc X68 N67 g1
  refine ownBy st68 ?_
  show ownG p.tables e below _ (T68.setTop (mkF m 19 #[.val (.ref a1), .val (.int (0 : Int32)), .val i1, .val s1, .val r1, .val (.long q1), .second, .val (.long q2), .second, .val (.long q3), .second, .val (.long q4), .second] []))
  refine ownBy (A := T68.setTop (mkF m 22 #[.val (.ref a1), .val (.int (0 : Int32)), .val i1, .val s1, .val r1, .val (.long q1), .second, .val (.long q2), .second, .val (.long q3), .second, .val (.long q4), .second] [r1, (.ref a1)])) (fun t kt => ?_) ?_
  · show Steps p.tables e below (T68.setTop (mkF m 19 #[.val (.ref a1), .val (.int (0 : Int32)), .val i1, .val s1, .val r1, .val (.long q1), .second, .val (.long q2), .second, .val (.long q3), .second, .val (.long q4), .second] [])) t
    refine XS.aloadN X68.here hx rfl (hb hby d_prog_12_method_1_19) rfl rfl ?_
    show Steps p.tables e below (T68.setTop (mkF m 20 #[.val (.ref a1), .val (.int (0 : Int32)), .val i1, .val s1, .val r1, .val (.long q1), .second, .val (.long q2), .second, .val (.long q3), .second, .val (.long q4), .second] [(.ref a1)])) t
    refine XS.aload X68.here hx rfl (hb hby d_prog_12_method_1_20) rfl rr1 ?_
    exact kt
  have f74 := (((F_routing.other W60 (Or.inr (slot_ne (Or.inr (hw _ (List.mem_of_getElem? (i := 47) rfl))) (Or.inr (hw _ (List.mem_of_getElem? (i := 41) rfl))) (by decide) (t := (.object "java/lang/String")) (t' := .boolean) (by decide) (by decide)))).other W63 (Or.inr (slot_ne (Or.inr (hw _ (List.mem_of_getElem? (i := 47) rfl))) (Or.inr (hw _ (List.mem_of_getElem? (i := 43) rfl))) (by decide) (t := (.object "java/lang/String")) (t' := (.object "java/lang/String")) (by decide) (by decide)))).other W68 (Or.inr (slot_ne (Or.inr (hw _ (List.mem_of_getElem? (i := 47) rfl))) (Or.inr (hw _ (List.mem_of_getElem? (i := 45) rfl))) (by decide) (t := (.object "java/lang/String")) (t' := (.array .byte)) (by decide) (by decide))))
  have f75 := (f70.wr W68)
  obtain ⟨T73, h73, X73, e73, W73, st73⟩ := putF X68 hx hZ hown (host := "") (Or.inl (hw _ (List.mem_of_getElem? (i := 46) rfl))) Via.refl e68 f74 f75 (Or.inr ⟨(hw _ (List.mem_of_getElem? (i := 47) rfl)), rfl, hnm⟩) (hw _ (List.mem_of_getElem? (i := 35) rfl)) (ty := (.object "java/lang/String")) (by decide) (own_narrow rfl rr1) (own_fits rfl rr1) (g := (mkF m 22 #[.val (.ref a1), .val (.int (0 : Int32)), .val i1, .val s1, .val r1, .val (.long q1), .second, .val (.long q2), .second, .val (.long q3), .second, .val (.long q4), .second] [r1, (.ref a1)])) rfl rfl (hb hby d_prog_12_method_1_22)
  have F76 := f74.same W73
  have N77 := Fr.snoc X73 N72 g1
  refine ownBy st73 ?_
  show ownG p.tables e below _ (T73.setTop (mkF m 25 #[.val (.ref a1), .val (.int (0 : Int32)), .val i1, .val s1, .val r1, .val (.long q1), .second, .val (.long q2), .second, .val (.long q3), .second, .val (.long q4), .second] []))
  refine ownBy (A := T73.setTop (mkF m 28 #[.val (.ref a1), .val (.int (0 : Int32)), .val i1, .val s1, .val r1, .val (.long q1), .second, .val (.long q2), .second, .val (.long q3), .second, .val (.long q4), .second] [(.long q1), (.ref a1)])) (fun t kt => ?_) ?_
  · show Steps p.tables e below (T73.setTop (mkF m 25 #[.val (.ref a1), .val (.int (0 : Int32)), .val i1, .val s1, .val r1, .val (.long q1), .second, .val (.long q2), .second, .val (.long q3), .second, .val (.long q4), .second] [])) t
    refine XS.aloadN X73.here hx rfl (hb hby d_prog_12_method_1_25) rfl rfl ?_
    show Steps p.tables e below (T73.setTop (mkF m 26 #[.val (.ref a1), .val (.int (0 : Int32)), .val i1, .val s1, .val r1, .val (.long q1), .second, .val (.long q2), .second, .val (.long q3), .second, .val (.long q4), .second] [(.ref a1)])) t
    refine XS.lload X73.here hx rfl (hb hby d_prog_12_method_1_26) rfl ?_
    exact kt
  have f79 := ((((F_version.other W60 (Or.inr (slot_ne (Or.inr (hw _ (List.mem_of_getElem? (i := 49) rfl))) (Or.inr (hw _ (List.mem_of_getElem? (i := 41) rfl))) (by decide) (t := .long) (t' := .boolean) (by decide) (by decide)))).other W63 (Or.inr (slot_ne (Or.inr (hw _ (List.mem_of_getElem? (i := 49) rfl))) (Or.inr (hw _ (List.mem_of_getElem? (i := 43) rfl))) (by decide) (t := .long) (t' := (.object "java/lang/String")) (by decide) (by decide)))).other W68 (Or.inr (slot_ne (Or.inr (hw _ (List.mem_of_getElem? (i := 49) rfl))) (Or.inr (hw _ (List.mem_of_getElem? (i := 45) rfl))) (by decide) (t := .long) (t' := (.array .byte)) (by decide) (by decide)))).other W73 (Or.inr (slot_ne (Or.inr (hw _ (List.mem_of_getElem? (i := 49) rfl))) (Or.inr (hw _ (List.mem_of_getElem? (i := 47) rfl))) (by decide) (t := .long) (t' := (.object "java/lang/String")) (by decide) (by decide))))
  have f80 := (f75.wr W73)
  obtain ⟨T78, h78, X78, e78, W78, st78⟩ := putF X73 hx hZ hown (host := "") (Or.inl (hw _ (List.mem_of_getElem? (i := 48) rfl))) Via.refl e73 f79 f80 (Or.inr ⟨(hw _ (List.mem_of_getElem? (i := 49) rfl)), rfl, hnm⟩) (hw _ (List.mem_of_getElem? (i := 35) rfl)) (ty := .long) (by decide) rfl rfl (g := (mkF m 28 #[.val (.ref a1), .val (.int (0 : Int32)), .val i1, .val s1, .val r1, .val (.long q1), .second, .val (.long q2), .second, .val (.long q3), .second, .val (.long q4), .second] [(.long q1), (.ref a1)])) rfl rfl (hb hby d_prog_12_method_1_28)
  have F81 := f79.same W78
  have N82 := Fr.snoc X78 N77 g1
  refine ownBy st78 ?_
  show ownG p.tables e below _ (T78.setTop (mkF m 31 #[.val (.ref a1), .val (.int (0 : Int32)), .val i1, .val s1, .val r1, .val (.long q1), .second, .val (.long q2), .second, .val (.long q3), .second, .val (.long q4), .second] []))
  refine ownBy (A := T78.setTop (mkF m 34 #[.val (.ref a1), .val (.int (0 : Int32)), .val i1, .val s1, .val r1, .val (.long q1), .second, .val (.long q2), .second, .val (.long q3), .second, .val (.long q4), .second] [(.long q2), (.ref a1)])) (fun t kt => ?_) ?_
  · show Steps p.tables e below (T78.setTop (mkF m 31 #[.val (.ref a1), .val (.int (0 : Int32)), .val i1, .val s1, .val r1, .val (.long q1), .second, .val (.long q2), .second, .val (.long q3), .second, .val (.long q4), .second] [])) t
    refine XS.aloadN X78.here hx rfl (hb hby d_prog_12_method_1_31) rfl rfl ?_
    show Steps p.tables e below (T78.setTop (mkF m 32 #[.val (.ref a1), .val (.int (0 : Int32)), .val i1, .val s1, .val r1, .val (.long q1), .second, .val (.long q2), .second, .val (.long q3), .second, .val (.long q4), .second] [(.ref a1)])) t
    refine XS.lload X78.here hx rfl (hb hby d_prog_12_method_1_32) rfl ?_
    exact kt
  have f84 := (((((F_seqNo.other W60 (Or.inr (slot_ne (Or.inr (hw _ (List.mem_of_getElem? (i := 51) rfl))) (Or.inr (hw _ (List.mem_of_getElem? (i := 41) rfl))) (by decide) (t := .long) (t' := .boolean) (by decide) (by decide)))).other W63 (Or.inr (slot_ne (Or.inr (hw _ (List.mem_of_getElem? (i := 51) rfl))) (Or.inr (hw _ (List.mem_of_getElem? (i := 43) rfl))) (by decide) (t := .long) (t' := (.object "java/lang/String")) (by decide) (by decide)))).other W68 (Or.inr (slot_ne (Or.inr (hw _ (List.mem_of_getElem? (i := 51) rfl))) (Or.inr (hw _ (List.mem_of_getElem? (i := 45) rfl))) (by decide) (t := .long) (t' := (.array .byte)) (by decide) (by decide)))).other W73 (Or.inr (slot_ne (Or.inr (hw _ (List.mem_of_getElem? (i := 51) rfl))) (Or.inr (hw _ (List.mem_of_getElem? (i := 47) rfl))) (by decide) (t := .long) (t' := (.object "java/lang/String")) (by decide) (by decide)))).other W78 (Or.inr (slot_ne (Or.inr (hw _ (List.mem_of_getElem? (i := 51) rfl))) (Or.inr (hw _ (List.mem_of_getElem? (i := 49) rfl))) (by decide) (t := .long) (t' := .long) (by decide) (by decide))))
  have f85 := (f80.wr W78)
  obtain ⟨T83, h83, X83, e83, W83, st83⟩ := putF X78 hx hZ hown (host := "") (Or.inl (hw _ (List.mem_of_getElem? (i := 50) rfl))) Via.refl e78 f84 f85 (Or.inr ⟨(hw _ (List.mem_of_getElem? (i := 51) rfl)), rfl, hnm⟩) (hw _ (List.mem_of_getElem? (i := 35) rfl)) (ty := .long) (by decide) rfl rfl (g := (mkF m 34 #[.val (.ref a1), .val (.int (0 : Int32)), .val i1, .val s1, .val r1, .val (.long q1), .second, .val (.long q2), .second, .val (.long q3), .second, .val (.long q4), .second] [(.long q2), (.ref a1)])) rfl rfl (hb hby d_prog_12_method_1_34)
  have F86 := f84.same W83
  have N87 := Fr.snoc X83 N82 g1
  refine ownBy st83 ?_
  show ownG p.tables e below _ (T83.setTop (mkF m 37 #[.val (.ref a1), .val (.int (0 : Int32)), .val i1, .val s1, .val r1, .val (.long q1), .second, .val (.long q2), .second, .val (.long q3), .second, .val (.long q4), .second] []))
  refine ownBy (A := T83.setTop (mkF m 40 #[.val (.ref a1), .val (.int (0 : Int32)), .val i1, .val s1, .val r1, .val (.long q1), .second, .val (.long q2), .second, .val (.long q3), .second, .val (.long q4), .second] [(.long q3), (.ref a1)])) (fun t kt => ?_) ?_
  · show Steps p.tables e below (T83.setTop (mkF m 37 #[.val (.ref a1), .val (.int (0 : Int32)), .val i1, .val s1, .val r1, .val (.long q1), .second, .val (.long q2), .second, .val (.long q3), .second, .val (.long q4), .second] [])) t
    refine XS.aloadN X83.here hx rfl (hb hby d_prog_12_method_1_37) rfl rfl ?_
    show Steps p.tables e below (T83.setTop (mkF m 38 #[.val (.ref a1), .val (.int (0 : Int32)), .val i1, .val s1, .val r1, .val (.long q1), .second, .val (.long q2), .second, .val (.long q3), .second, .val (.long q4), .second] [(.ref a1)])) t
    refine XS.lload X83.here hx rfl (hb hby d_prog_12_method_1_38) rfl ?_
    exact kt
  have f89 := ((((((F_primaryTerm.other W60 (Or.inr (slot_ne (Or.inr (hw _ (List.mem_of_getElem? (i := 53) rfl))) (Or.inr (hw _ (List.mem_of_getElem? (i := 41) rfl))) (by decide) (t := .long) (t' := .boolean) (by decide) (by decide)))).other W63 (Or.inr (slot_ne (Or.inr (hw _ (List.mem_of_getElem? (i := 53) rfl))) (Or.inr (hw _ (List.mem_of_getElem? (i := 43) rfl))) (by decide) (t := .long) (t' := (.object "java/lang/String")) (by decide) (by decide)))).other W68 (Or.inr (slot_ne (Or.inr (hw _ (List.mem_of_getElem? (i := 53) rfl))) (Or.inr (hw _ (List.mem_of_getElem? (i := 45) rfl))) (by decide) (t := .long) (t' := (.array .byte)) (by decide) (by decide)))).other W73 (Or.inr (slot_ne (Or.inr (hw _ (List.mem_of_getElem? (i := 53) rfl))) (Or.inr (hw _ (List.mem_of_getElem? (i := 47) rfl))) (by decide) (t := .long) (t' := (.object "java/lang/String")) (by decide) (by decide)))).other W78 (Or.inr (slot_ne (Or.inr (hw _ (List.mem_of_getElem? (i := 53) rfl))) (Or.inr (hw _ (List.mem_of_getElem? (i := 49) rfl))) (by decide) (t := .long) (t' := .long) (by decide) (by decide)))).other W83 (Or.inr (slot_ne (Or.inr (hw _ (List.mem_of_getElem? (i := 53) rfl))) (Or.inr (hw _ (List.mem_of_getElem? (i := 51) rfl))) (by decide) (t := .long) (t' := .long) (by decide) (by decide))))
  have f90 := (f85.wr W83)
  obtain ⟨T88, h88, X88, e88, W88, st88⟩ := putF X83 hx hZ hown (host := "") (Or.inl (hw _ (List.mem_of_getElem? (i := 52) rfl))) Via.refl e83 f89 f90 (Or.inr ⟨(hw _ (List.mem_of_getElem? (i := 53) rfl)), rfl, hnm⟩) (hw _ (List.mem_of_getElem? (i := 35) rfl)) (ty := .long) (by decide) rfl rfl (g := (mkF m 40 #[.val (.ref a1), .val (.int (0 : Int32)), .val i1, .val s1, .val r1, .val (.long q1), .second, .val (.long q2), .second, .val (.long q3), .second, .val (.long q4), .second] [(.long q3), (.ref a1)])) rfl rfl (hb hby d_prog_12_method_1_40)
  have F91 := f89.same W88
  have N92 := Fr.snoc X88 N87 g1
  refine ownBy st88 ?_
  show ownG p.tables e below _ (T88.setTop (mkF m 43 #[.val (.ref a1), .val (.int (0 : Int32)), .val i1, .val s1, .val r1, .val (.long q1), .second, .val (.long q2), .second, .val (.long q3), .second, .val (.long q4), .second] []))
  refine ownBy (A := T88.setTop (mkF m 46 #[.val (.ref a1), .val (.int (0 : Int32)), .val i1, .val s1, .val r1, .val (.long q1), .second, .val (.long q2), .second, .val (.long q3), .second, .val (.long q4), .second] [(.long q4), (.ref a1)])) (fun t kt => ?_) ?_
  · show Steps p.tables e below (T88.setTop (mkF m 43 #[.val (.ref a1), .val (.int (0 : Int32)), .val i1, .val s1, .val r1, .val (.long q1), .second, .val (.long q2), .second, .val (.long q3), .second, .val (.long q4), .second] [])) t
    refine XS.aloadN X88.here hx rfl (hb hby d_prog_12_method_1_43) rfl rfl ?_
    show Steps p.tables e below (T88.setTop (mkF m 44 #[.val (.ref a1), .val (.int (0 : Int32)), .val i1, .val s1, .val r1, .val (.long q1), .second, .val (.long q2), .second, .val (.long q3), .second, .val (.long q4), .second] [(.ref a1)])) t
    refine XS.lload X88.here hx rfl (hb hby d_prog_12_method_1_44) rfl ?_
    exact kt
  have f94 := (((((((F_time.other W60 (Or.inr (slot_ne (Or.inr (hw _ (List.mem_of_getElem? (i := 55) rfl))) (Or.inr (hw _ (List.mem_of_getElem? (i := 41) rfl))) (by decide) (t := .long) (t' := .boolean) (by decide) (by decide)))).other W63 (Or.inr (slot_ne (Or.inr (hw _ (List.mem_of_getElem? (i := 55) rfl))) (Or.inr (hw _ (List.mem_of_getElem? (i := 43) rfl))) (by decide) (t := .long) (t' := (.object "java/lang/String")) (by decide) (by decide)))).other W68 (Or.inr (slot_ne (Or.inr (hw _ (List.mem_of_getElem? (i := 55) rfl))) (Or.inr (hw _ (List.mem_of_getElem? (i := 45) rfl))) (by decide) (t := .long) (t' := (.array .byte)) (by decide) (by decide)))).other W73 (Or.inr (slot_ne (Or.inr (hw _ (List.mem_of_getElem? (i := 55) rfl))) (Or.inr (hw _ (List.mem_of_getElem? (i := 47) rfl))) (by decide) (t := .long) (t' := (.object "java/lang/String")) (by decide) (by decide)))).other W78 (Or.inr (slot_ne (Or.inr (hw _ (List.mem_of_getElem? (i := 55) rfl))) (Or.inr (hw _ (List.mem_of_getElem? (i := 49) rfl))) (by decide) (t := .long) (t' := .long) (by decide) (by decide)))).other W83 (Or.inr (slot_ne (Or.inr (hw _ (List.mem_of_getElem? (i := 55) rfl))) (Or.inr (hw _ (List.mem_of_getElem? (i := 51) rfl))) (by decide) (t := .long) (t' := .long) (by decide) (by decide)))).other W88 (Or.inr (slot_ne (Or.inr (hw _ (List.mem_of_getElem? (i := 55) rfl))) (Or.inr (hw _ (List.mem_of_getElem? (i := 53) rfl))) (by decide) (t := .long) (t' := .long) (by decide) (by decide))))
  have f95 := (f90.wr W88)
  obtain ⟨T93, h93, X93, e93, W93, st93⟩ := putF X88 hx hZ hown (host := "") (Or.inl (hw _ (List.mem_of_getElem? (i := 54) rfl))) Via.refl e88 f94 f95 (Or.inr ⟨(hw _ (List.mem_of_getElem? (i := 55) rfl)), rfl, hnm⟩) (hw _ (List.mem_of_getElem? (i := 35) rfl)) (ty := .long) (by decide) rfl rfl (g := (mkF m 46 #[.val (.ref a1), .val (.int (0 : Int32)), .val i1, .val s1, .val r1, .val (.long q1), .second, .val (.long q2), .second, .val (.long q3), .second, .val (.long q4), .second] [(.long q4), (.ref a1)])) rfl rfl (hb hby d_prog_12_method_1_46)
  have F96 := f94.same W93
  have N97 := Fr.snoc X93 N92 g1
  refine ownBy st93 ?_
  show ownG p.tables e below _ (T93.setTop (mkF m 49 #[.val (.ref a1), .val (.int (0 : Int32)), .val i1, .val s1, .val r1, .val (.long q1), .second, .val (.long q2), .second, .val (.long q3), .second, .val (.long q4), .second] []))
  have f98 := (((((((((Keep.refl h0 [a1]).wr W60 (Or.inl (List.mem_of_getElem? (i := 0) rfl))).wr W63 (Or.inl (List.mem_of_getElem? (i := 0) rfl))).wr W68 (Or.inl (List.mem_of_getElem? (i := 0) rfl))).wr W73 (Or.inl (List.mem_of_getElem? (i := 0) rfl))).wr W78 (Or.inl (List.mem_of_getElem? (i := 0) rfl))).wr W83 (Or.inl (List.mem_of_getElem? (i := 0) rfl))).wr W88 (Or.inl (List.mem_of_getElem? (i := 0) rfl))).wr W93 (Or.inl (List.mem_of_getElem? (i := 0) rfl)))
  have f99 := (f95.wr W93)
  have f100 := (((((((F61.other W63 (Or.inr (slot_ne (Or.inr (hw _ (List.mem_of_getElem? (i := 41) rfl))) (Or.inr (hw _ (List.mem_of_getElem? (i := 43) rfl))) (by decide) (t := .boolean) (t' := (.object "java/lang/String")) (by decide) (by decide)))).other W68 (Or.inr (slot_ne (Or.inr (hw _ (List.mem_of_getElem? (i := 41) rfl))) (Or.inr (hw _ (List.mem_of_getElem? (i := 45) rfl))) (by decide) (t := .boolean) (t' := (.array .byte)) (by decide) (by decide)))).other W73 (Or.inr (slot_ne (Or.inr (hw _ (List.mem_of_getElem? (i := 41) rfl))) (Or.inr (hw _ (List.mem_of_getElem? (i := 47) rfl))) (by decide) (t := .boolean) (t' := (.object "java/lang/String")) (by decide) (by decide)))).other W78 (Or.inr (slot_ne (Or.inr (hw _ (List.mem_of_getElem? (i := 41) rfl))) (Or.inr (hw _ (List.mem_of_getElem? (i := 49) rfl))) (by decide) (t := .boolean) (t' := .long) (by decide) (by decide)))).other W83 (Or.inr (slot_ne (Or.inr (hw _ (List.mem_of_getElem? (i := 41) rfl))) (Or.inr (hw _ (List.mem_of_getElem? (i := 51) rfl))) (by decide) (t := .boolean) (t' := .long) (by decide) (by decide)))).other W88 (Or.inr (slot_ne (Or.inr (hw _ (List.mem_of_getElem? (i := 41) rfl))) (Or.inr (hw _ (List.mem_of_getElem? (i := 53) rfl))) (by decide) (t := .boolean) (t' := .long) (by decide) (by decide)))).other W93 (Or.inr (slot_ne (Or.inr (hw _ (List.mem_of_getElem? (i := 41) rfl))) (Or.inr (hw _ (List.mem_of_getElem? (i := 55) rfl))) (by decide) (t := .boolean) (t' := .long) (by decide) (by decide))))
  have f101 := ((((((F66.other W68 (Or.inr (slot_ne (Or.inr (hw _ (List.mem_of_getElem? (i := 43) rfl))) (Or.inr (hw _ (List.mem_of_getElem? (i := 45) rfl))) (by decide) (t := (.object "java/lang/String")) (t' := (.array .byte)) (by decide) (by decide)))).other W73 (Or.inr (slot_ne (Or.inr (hw _ (List.mem_of_getElem? (i := 43) rfl))) (Or.inr (hw _ (List.mem_of_getElem? (i := 47) rfl))) (by decide) (t := (.object "java/lang/String")) (t' := (.object "java/lang/String")) (by decide) (by decide)))).other W78 (Or.inr (slot_ne (Or.inr (hw _ (List.mem_of_getElem? (i := 43) rfl))) (Or.inr (hw _ (List.mem_of_getElem? (i := 49) rfl))) (by decide) (t := (.object "java/lang/String")) (t' := .long) (by decide) (by decide)))).other W83 (Or.inr (slot_ne (Or.inr (hw _ (List.mem_of_getElem? (i := 43) rfl))) (Or.inr (hw _ (List.mem_of_getElem? (i := 51) rfl))) (by decide) (t := (.object "java/lang/String")) (t' := .long) (by decide) (by decide)))).other W88 (Or.inr (slot_ne (Or.inr (hw _ (List.mem_of_getElem? (i := 43) rfl))) (Or.inr (hw _ (List.mem_of_getElem? (i := 53) rfl))) (by decide) (t := (.object "java/lang/String")) (t' := .long) (by decide) (by decide)))).other W93 (Or.inr (slot_ne (Or.inr (hw _ (List.mem_of_getElem? (i := 43) rfl))) (Or.inr (hw _ (List.mem_of_getElem? (i := 55) rfl))) (by decide) (t := (.object "java/lang/String")) (t' := .long) (by decide) (by decide))))
  have f102 := (((((F71.other W73 (Or.inr (slot_ne (Or.inr (hw _ (List.mem_of_getElem? (i := 45) rfl))) (Or.inr (hw _ (List.mem_of_getElem? (i := 47) rfl))) (by decide) (t := (.array .byte)) (t' := (.object "java/lang/String")) (by decide) (by decide)))).other W78 (Or.inr (slot_ne (Or.inr (hw _ (List.mem_of_getElem? (i := 45) rfl))) (Or.inr (hw _ (List.mem_of_getElem? (i := 49) rfl))) (by decide) (t := (.array .byte)) (t' := .long) (by decide) (by decide)))).other W83 (Or.inr (slot_ne (Or.inr (hw _ (List.mem_of_getElem? (i := 45) rfl))) (Or.inr (hw _ (List.mem_of_getElem? (i := 51) rfl))) (by decide) (t := (.array .byte)) (t' := .long) (by decide) (by decide)))).other W88 (Or.inr (slot_ne (Or.inr (hw _ (List.mem_of_getElem? (i := 45) rfl))) (Or.inr (hw _ (List.mem_of_getElem? (i := 53) rfl))) (by decide) (t := (.array .byte)) (t' := .long) (by decide) (by decide)))).other W93 (Or.inr (slot_ne (Or.inr (hw _ (List.mem_of_getElem? (i := 45) rfl))) (Or.inr (hw _ (List.mem_of_getElem? (i := 55) rfl))) (by decide) (t := (.array .byte)) (t' := .long) (by decide) (by decide))))
  have f103 := ((((F76.other W78 (Or.inr (slot_ne (Or.inr (hw _ (List.mem_of_getElem? (i := 47) rfl))) (Or.inr (hw _ (List.mem_of_getElem? (i := 49) rfl))) (by decide) (t := (.object "java/lang/String")) (t' := .long) (by decide) (by decide)))).other W83 (Or.inr (slot_ne (Or.inr (hw _ (List.mem_of_getElem? (i := 47) rfl))) (Or.inr (hw _ (List.mem_of_getElem? (i := 51) rfl))) (by decide) (t := (.object "java/lang/String")) (t' := .long) (by decide) (by decide)))).other W88 (Or.inr (slot_ne (Or.inr (hw _ (List.mem_of_getElem? (i := 47) rfl))) (Or.inr (hw _ (List.mem_of_getElem? (i := 53) rfl))) (by decide) (t := (.object "java/lang/String")) (t' := .long) (by decide) (by decide)))).other W93 (Or.inr (slot_ne (Or.inr (hw _ (List.mem_of_getElem? (i := 47) rfl))) (Or.inr (hw _ (List.mem_of_getElem? (i := 55) rfl))) (by decide) (t := (.object "java/lang/String")) (t' := .long) (by decide) (by decide))))
  have f104 := (((F81.other W83 (Or.inr (slot_ne (Or.inr (hw _ (List.mem_of_getElem? (i := 49) rfl))) (Or.inr (hw _ (List.mem_of_getElem? (i := 51) rfl))) (by decide) (t := .long) (t' := .long) (by decide) (by decide)))).other W88 (Or.inr (slot_ne (Or.inr (hw _ (List.mem_of_getElem? (i := 49) rfl))) (Or.inr (hw _ (List.mem_of_getElem? (i := 53) rfl))) (by decide) (t := .long) (t' := .long) (by decide) (by decide)))).other W93 (Or.inr (slot_ne (Or.inr (hw _ (List.mem_of_getElem? (i := 49) rfl))) (Or.inr (hw _ (List.mem_of_getElem? (i := 55) rfl))) (by decide) (t := .long) (t' := .long) (by decide) (by decide))))
  have f105 := ((F86.other W88 (Or.inr (slot_ne (Or.inr (hw _ (List.mem_of_getElem? (i := 51) rfl))) (Or.inr (hw _ (List.mem_of_getElem? (i := 53) rfl))) (by decide) (t := .long) (t' := .long) (by decide) (by decide)))).other W93 (Or.inr (slot_ne (Or.inr (hw _ (List.mem_of_getElem? (i := 51) rfl))) (Or.inr (hw _ (List.mem_of_getElem? (i := 55) rfl))) (by decide) (t := .long) (t' := .long) (by decide) (by decide))))
  have f106 := (F91.other W93 (Or.inr (slot_ne (Or.inr (hw _ (List.mem_of_getElem? (i := 53) rfl))) (Or.inr (hw _ (List.mem_of_getElem? (i := 55) rfl))) (by decide) (t := .long) (t' := .long) (by decide) (by decide))))
  refine ownRet X93 Bd.notSynchronized (v := none) (fun _ => rfl) ?_ (Nat.le_of_ble_eq_true rfl) (Nat.le_of_ble_eq_true rfl) (fun fs hr => X93.returnOut hx Bd.returns (hb hby d_prog_12_method_1_49) hr)
  show (Q_opinit Z a1 i1 s1 r1 q1 q2 q3 q4 h0 n0) (none) T93.heap _
  rw [e93]
  exact ⟨rfl, N97, f98, f99, f100, f101, f102, f103, f104, f105, f106, F96⟩
def Q_mk (Z : State) (i1 : Value) (s1 : Value) (r1 : Value) (q1 : Int64) (q2 : Int64) (q3 : Int64) (q4 : Int64) (h0 : Heap) (n0 : Nat) (v : Option Value) (h : Heap) (L : List Loc) : Prop := ∃ x : Addr, v = some (.ref x) ∧ Fr n0 L ∧ Keep h0 h [] ∧ h0.size ≤ x ∧ Exa Z h x "com/example/sakuin/sakuin/engine/Operation" ∧ Fld Z h x "com/example/sakuin/sakuin/engine/Operation" "delete" "Z" (.int (0 : Int32)) ∧ Fld Z h x "com/example/sakuin/sakuin/engine/Operation" "id" "Ljava/lang/String;" i1 ∧ Fld Z h x "com/example/sakuin/sakuin/engine/Operation" "source" "[B" s1 ∧ Fld Z h x "com/example/sakuin/sakuin/engine/Operation" "routing" "Ljava/lang/String;" r1 ∧ Fld Z h x "com/example/sakuin/sakuin/engine/Operation" "version" "J" (.long q1) ∧ Fld Z h x "com/example/sakuin/sakuin/engine/Operation" "seqNo" "J" (.long q2) ∧ Fld Z h x "com/example/sakuin/sakuin/engine/Operation" "primaryTerm" "J" (.long q3) ∧ Fld Z h x "com/example/sakuin/sakuin/engine/Operation" "time" "J" (.long q4)
theorem ef_mk (m : MethodId) (x0 : Value) (x1 : Value) (x2 : Value) (x3 : Int64) (x4 : Int64) (x5 : Int64) (x6 : Int64) (r0 : x0.isRef = true) (r1 : x1.isRef = true) (r2 : x2.isRef = true) : entryFrame m #[x0, x1, x2, (.long x3), (.long x4), (.long x5), (.long x6)] 11 = mkF m 0 #[.val x0, .val x1, .val x2, .val (.long x3), .second, .val (.long x4), .second, .val (.long x5), .second, .val (.long x6), .second] [] := by
  rcases ref_cases r0 with rfl | ⟨y0, rfl⟩ <;>
  rcases ref_cases r1 with rfl | ⟨y1, rfl⟩ <;>
  rcases ref_cases r2 with rfl | ⟨y2, rfl⟩ <;> first | (simp [entryFrame, mkF, argsToLocals, Value.category]; done) | rfl
set_option maxRecDepth 65536 in
set_option maxHeartbeats 40000000 in
theorem c_mk (l : Launch) (Z : State) (a0 : Array Value) (hw : ∀ d ∈ tables_1, d.before a0 Z = true) (ws : List Jvm.Cond) (i1 : Value) (s1 : Value) (r1 : Value) (q1 : Int64) (q2 : Int64) (q3 : Int64) (q4 : Int64) (h0 : Heap) (n0 : Nat) (Z0 : n0 ≤ h0.size) (ri1 : i1.isRef = true) (rs1 : s1.isRef = true) (rr1 : r1.isRef = true) :
    MetFree l (⟨"com/example/sakuin/sakuin/engine/Operation", "index", "(Ljava/lang/String;[BLjava/lang/String;JJJJ)Lcom/example/sakuin/sakuin/engine/Operation;"⟩ : MethodName) (head1 (Jvm.Cond.code (⟨"com/example/sakuin/sakuin/engine/Operation", "index", "(Ljava/lang/String;[BLjava/lang/String;JJJJ)Lcom/example/sakuin/sakuin/engine/Operation;"⟩ : MethodName) prog_12_method_2_code 11 (some (.object "com/example/sakuin/sakuin/engine/Operation")) :: ws) ({ frames := 2, cells := 1, slots := 8, locals := 52 } : Room)) (fun a U => a = #[i1, s1, r1, (.long q1), (.long q2), (.long q3), (.long q4)] ∧ Z.Warmed39 U.vm ∧ U.heap = h0) (fun _ _ _ _ _ => True) (fun _ U o U' => ∃ v L, o = .returned v ∧ (Q_mk Z i1 s1 r1 q1 q2 q3 q4 h0 n0) v U'.heap L ∧ FrameEnd U o U' L ({ frames := 2, cells := 1, slots := 8, locals := 52 } : Room).cells ({ frames := 2, cells := 1, slots := 8, locals := 52 } : Room).slots) := by
  refine MetFree.of_bodySF (plainFor_of_name pn_50) hisR ?_
  intro p e s m args below meth c s₁ Bd hml0 hP hK
  obtain ⟨rfl, hZ, hh⟩ := hP
  have hx := Bd.exec
  have hby := Bd.bytes
  have hml : c.maxLocals = 11 := hml0
  have hown : s.vm.findClass "com/example/sakuin/sakuin/engine/Operation" = some m.cls := findClass_of_methodNamed Bd.named
  have hnm := (name_of_methodNamed Bd.named Bd.method).1
  have X0 : Stand p l e ({ frames := 2, cells := 1, slots := 8, locals := 52 } : Room) s m #[i1, s1, r1, (.long q1), (.long q2), (.long q3), (.long q4)] below meth c s₁ [] 0 0 := Stand.of_body Bd
  have e0 : s₁.heap = h0 := by rw [← hh, Bd.state]; rfl
  have N0 := Fr.nil n0
  refine ownOut (P := (Q_mk Z i1 s1 r1 q1 q2 q3 q4 h0 n0)) ?_
  refine ownBy (A := s₁.setTop (mkF m 0 #[.val i1, .val s1, .val r1, .val (.long q1), .second, .val (.long q2), .second, .val (.long q3), .second, .val (.long q4), .second] [])) (fun t k => castTop (ef_mk m i1 s1 r1 q1 q2 q3 q4 ri1 rs1 rr1) k) ?_
  obtain ⟨T107, h107, X107, e107, E107, A107, D107, -, st107⟩ := newO X0 hx hZ hown (hw _ (List.mem_of_getElem? (i := 34) rfl)) (hw _ (List.mem_of_getElem? (i := 35) rfl)) (hw _ (List.mem_of_getElem? (i := 32) rfl)) e0 (g := (mkF m 0 #[.val i1, .val s1, .val r1, .val (.long q1), .second, .val (.long q2), .second, .val (.long q3), .second, .val (.long q4), .second] [])) rfl (hb hby d_prog_12_method_2_0) (by decide) (by decide)
  obtain ⟨b107, g107⟩ : ∃ z, z = h0.size := ⟨_, rfl⟩
  rw [← g107] at A107 D107 st107
  have g108 : n0 ≤ b107 := Nat.le_trans Z0 (Nat.le_of_eq g107.symm)
  have z109 : h0.size ≤ b107 := Nat.le_trans (Keep.refl h0 []).1 (Nat.le_of_eq g107.symm)
  have F110 : Fld Z h107 b107 "com/example/sakuin/sakuin/engine/Operation" "delete" "Z" (.int (0 : Int32)) := D107 (Or.inr (hw _ (List.mem_of_getElem? (i := 41) rfl))) (ty := .boolean) (by decide)
  have F111 : Fld Z h107 b107 "com/example/sakuin/sakuin/engine/Operation" "id" "Ljava/lang/String;" .null := D107 (Or.inr (hw _ (List.mem_of_getElem? (i := 43) rfl))) (ty := (.object "java/lang/String")) (by decide)
  have F112 : Fld Z h107 b107 "com/example/sakuin/sakuin/engine/Operation" "source" "[B" .null := D107 (Or.inr (hw _ (List.mem_of_getElem? (i := 45) rfl))) (ty := (.array .byte)) (by decide)
  have F113 : Fld Z h107 b107 "com/example/sakuin/sakuin/engine/Operation" "routing" "Ljava/lang/String;" .null := D107 (Or.inr (hw _ (List.mem_of_getElem? (i := 47) rfl))) (ty := (.object "java/lang/String")) (by decide)
  have F114 : Fld Z h107 b107 "com/example/sakuin/sakuin/engine/Operation" "version" "J" (.long (0 : Int64)) := D107 (Or.inr (hw _ (List.mem_of_getElem? (i := 49) rfl))) (ty := .long) (by decide)
  have F115 : Fld Z h107 b107 "com/example/sakuin/sakuin/engine/Operation" "seqNo" "J" (.long (0 : Int64)) := D107 (Or.inr (hw _ (List.mem_of_getElem? (i := 51) rfl))) (ty := .long) (by decide)
  have F116 : Fld Z h107 b107 "com/example/sakuin/sakuin/engine/Operation" "primaryTerm" "J" (.long (0 : Int64)) := D107 (Or.inr (hw _ (List.mem_of_getElem? (i := 53) rfl))) (ty := .long) (by decide)
  have F117 : Fld Z h107 b107 "com/example/sakuin/sakuin/engine/Operation" "time" "J" (.long (0 : Int64)) := D107 (Or.inr (hw _ (List.mem_of_getElem? (i := 55) rfl))) (ty := .long) (by decide)
  refine ownBy st107 ?_
  show ownG p.tables e below _ (T107.setTop (mkF m 3 #[.val i1, .val s1, .val r1, .val (.long q1), .second, .val (.long q2), .second, .val (.long q3), .second, .val (.long q4), .second] [(.ref b107)]))
  refine ownBy (A := T107.setTop (mkF m 15 #[.val i1, .val s1, .val r1, .val (.long q1), .second, .val (.long q2), .second, .val (.long q3), .second, .val (.long q4), .second] [(.long q4), (.long q3), (.long q2), (.long q1), r1, s1, i1, (.int (0 : Int32)), (.ref b107), (.ref b107)])) (fun t kt => ?_) ?_
  · show Steps p.tables e below (T107.setTop (mkF m 3 #[.val i1, .val s1, .val r1, .val (.long q1), .second, .val (.long q2), .second, .val (.long q3), .second, .val (.long q4), .second] [(.ref b107)])) t
    refine XS.dup X107.here hx rfl (hb hby d_prog_12_method_2_3) rfl rfl ?_
    show Steps p.tables e below (T107.setTop (mkF m 4 #[.val i1, .val s1, .val r1, .val (.long q1), .second, .val (.long q2), .second, .val (.long q3), .second, .val (.long q4), .second] [(.ref b107), (.ref b107)])) t
    refine XS.iconst X107.here hx rfl (hb hby d_prog_12_method_2_4) ?_
    show Steps p.tables e below (T107.setTop (mkF m 5 #[.val i1, .val s1, .val r1, .val (.long q1), .second, .val (.long q2), .second, .val (.long q3), .second, .val (.long q4), .second] [(.int (0 : Int32)), (.ref b107), (.ref b107)])) t
    refine XS.aloadN X107.here hx rfl (hb hby d_prog_12_method_2_5) rfl ri1 ?_
    show Steps p.tables e below (T107.setTop (mkF m 6 #[.val i1, .val s1, .val r1, .val (.long q1), .second, .val (.long q2), .second, .val (.long q3), .second, .val (.long q4), .second] [i1, (.int (0 : Int32)), (.ref b107), (.ref b107)])) t
    refine XS.aloadN X107.here hx rfl (hb hby d_prog_12_method_2_6) rfl rs1 ?_
    show Steps p.tables e below (T107.setTop (mkF m 7 #[.val i1, .val s1, .val r1, .val (.long q1), .second, .val (.long q2), .second, .val (.long q3), .second, .val (.long q4), .second] [s1, i1, (.int (0 : Int32)), (.ref b107), (.ref b107)])) t
    refine XS.aloadN X107.here hx rfl (hb hby d_prog_12_method_2_7) rfl rr1 ?_
    show Steps p.tables e below (T107.setTop (mkF m 8 #[.val i1, .val s1, .val r1, .val (.long q1), .second, .val (.long q2), .second, .val (.long q3), .second, .val (.long q4), .second] [r1, s1, i1, (.int (0 : Int32)), (.ref b107), (.ref b107)])) t
    refine XS.lloadN X107.here hx rfl (hb hby d_prog_12_method_2_8) rfl ?_
    show Steps p.tables e below (T107.setTop (mkF m 9 #[.val i1, .val s1, .val r1, .val (.long q1), .second, .val (.long q2), .second, .val (.long q3), .second, .val (.long q4), .second] [(.long q1), r1, s1, i1, (.int (0 : Int32)), (.ref b107), (.ref b107)])) t
    refine XS.lload X107.here hx rfl (hb hby d_prog_12_method_2_9) rfl ?_
    show Steps p.tables e below (T107.setTop (mkF m 11 #[.val i1, .val s1, .val r1, .val (.long q1), .second, .val (.long q2), .second, .val (.long q3), .second, .val (.long q4), .second] [(.long q2), (.long q1), r1, s1, i1, (.int (0 : Int32)), (.ref b107), (.ref b107)])) t
    refine XS.lload X107.here hx rfl (hb hby d_prog_12_method_2_11) rfl ?_
    show Steps p.tables e below (T107.setTop (mkF m 13 #[.val i1, .val s1, .val r1, .val (.long q1), .second, .val (.long q2), .second, .val (.long q3), .second, .val (.long q4), .second] [(.long q3), (.long q2), (.long q1), r1, s1, i1, (.int (0 : Int32)), (.ref b107), (.ref b107)])) t
    refine XS.lload X107.here hx rfl (hb hby d_prog_12_method_2_13) rfl ?_
    exact kt
  have f118 := (Nat.le_trans Z0 E107.1)
  obtain ⟨_, _, ⟨T119, L119, k119, n119⟩, -, X119, ⟨Lc119, hQ119, l119, y119, z119⟩, st119⟩ := X107.specialBack hx (y := (⟨"com/example/sakuin/sakuin/engine/Operation", "<init>", "(ZLjava/lang/String;[BLjava/lang/String;JJJJ)V"⟩ : MethodName)) rfl hown (mvT hZ (hw _ (List.mem_of_getElem? (i := 36) rfl))) (mvT hZ (hw _ (List.mem_of_getElem? (i := 37) rfl))) (mvT hZ (hw _ (List.mem_of_getElem? (i := 38) rfl))) (by decide) (backOf (W := 1) (c_opinit l Z a0 hw [] b107 i1 s1 r1 q1 q2 q3 q4 h107 n0 f118 A107 F110 F111 F112 F113 F114 F115 F116 F117 g108 ri1 rs1 rr1) hZ (hw _ (List.mem_of_getElem? (i := 38) rfl)) (hw _ (List.mem_of_getElem? (i := 32) rfl)) (by decide) (by decide)) (g := (mkF m 15 #[.val i1, .val s1, .val r1, .val (.long q1), .second, .val (.long q2), .second, .val (.long q3), .second, .val (.long q4), .second] [(.long q4), (.long q3), (.long q2), (.long q1), r1, s1, i1, (.int (0 : Int32)), (.ref b107), (.ref b107)])) rfl (by rw [hml]; rfl) (Steps.refl _) (a := b107) (argsL := [(.int (0 : Int32)), i1, s1, r1, (.long q1), (.long q2), (.long q3), (.long q4)]) (rest := [(.ref b107)]) (lenOf pd_120 rfl) rfl (by show 2 * 0 + _ ≤ _; exact Nat.le_of_eq rfl) (hb hby d_prog_12_method_2_15) (fun _ _ => ⟨rfl, e107, (by decide : 1 + 0 ≤ _), (by decide : 8 + 0 ≤ _)⟩)
  dsimp only [Pt.U, Pt.locs, Pt.cells, Pt.slots] at X119 l119 y119 z119 st119 hQ119
  subst l119 y119 z119
  obtain ⟨rfl, Nq119, Kq119, Eq119, Fq119_0, Fq119_1, Fq119_2, Fq119_3, Fq119_4, Fq119_5, Fq119_6, Fq119_7⟩ := hQ119
  have N121 := Fr.app N0 Nq119
  refine ownSt st119 ?_
  show ownG p.tables e below _ (T119.setTop (mkF m 18 #[.val i1, .val s1, .val r1, .val (.long q1), .second, .val (.long q2), .second, .val (.long q3), .second, .val (.long q4), .second] [(.ref b107)]))
  have f122 := (((Keep.refl h0 []).ext E107).trans Kq119 (allS (Or.inr z109) all0))
  have f123 := (A107.keep Kq119)
  refine ownRet X119 Bd.notSynchronized (v := some (.ref b107)) (fun h => by rw [Bd.returns] at h; cases h) ?_ (Nat.le_of_ble_eq_true rfl) (Nat.le_of_ble_eq_true rfl) (fun fs hr => retOut X119 hx Bd.returns rfl (Or.inr (Or.inr (Or.inr (Or.inr ⟨rfl, rfl, rfl⟩)))) (hb hby d_prog_12_method_2_18) hr)
  show (Q_mk Z i1 s1 r1 q1 q2 q3 q4 h0 n0) (some (.ref b107)) T119.heap _
  exact ⟨b107, rfl, N121, f122, z109, f123, Fq119_0, Fq119_1, Fq119_2, Fq119_3, Fq119_4, Fq119_5, Fq119_6, Fq119_7⟩
def Q_law (Z : State) (q1 : Int64) (q2 : Int64) (q3 : Int64) (q4 : Int64) (p5 : Int32) (p6 : Int32) (G1 : Int32) (h0 : Heap) (n0 : Nat) (v : Option Value) (h : Heap) (L : List Loc) : Prop := v = some (.int 1) ∧ Fr n0 L
theorem ef_law (m : MethodId) (x0 : Int64) (x1 : Int64) (x2 : Int64) (x3 : Int64) (x4 : Int32) (x5 : Int32)  : entryFrame m #[(.long x0), (.long x1), (.long x2), (.long x3), (.int x4), (.int x5)] maxLocals = mkF m 0 #[.val (.long x0), .second, .val (.long x1), .second, .val (.long x2), .second, .val (.long x3), .second, .val (.int x4), .val (.int x5), .unset, .unset, .unset, .unset, .unset, .unset, .unset, .unset, .unset, .unset, .unset] [] := by first | (simp [entryFrame, mkF, argsToLocals, Value.category, maxLocals]; done) | rfl
set_option maxRecDepth 65536 in
set_option maxHeartbeats 40000000 in
theorem c_law (l : Launch) (Z : State) (a0 : Array Value) (hw : ∀ d ∈ tables_1, d.before a0 Z = true) (ws : List Jvm.Cond) (q1 : Int64) (q2 : Int64) (q3 : Int64) (q4 : Int64) (p5 : Int32) (p6 : Int32) (G1 : Int32) (h0 : Heap) (n0 : Nat) (Z0 : n0 ≤ h0.size) (O2 : Sta Z Z.heap "java/lang/String" "COMPACT_STRINGS" "Z" (.int G1)) (P5 : ¬ (G1 = (0 : Int32))) (X00 : Old Z n0 h0) :
    MetFree l x (head1 (Jvm.Cond.code x code maxLocals ret :: ws) room_1) (fun a U => a = #[(.long q1), (.long q2), (.long q3), (.long q4), (.int p5), (.int p6)] ∧ Z.Warmed39 U.vm ∧ U.heap = h0) (fun _ _ _ _ _ => True) (fun _ U o U' => ∃ v L, o = .returned v ∧ (Q_law Z q1 q2 q3 q4 p5 p6 G1 h0 n0) v U'.heap L ∧ FrameEnd U o U' L 24 128) := by
  refine MetFree.of_bodySF (plainFor_of_name pn_124) hisR ?_
  intro p e s m args below meth c s₁ Bd hml0 hP hK
  obtain ⟨rfl, hZ, hh⟩ := hP
  have hx := Bd.exec
  have hby := Bd.bytes
  have hml : c.maxLocals = 21 := hml0
  have hown : s.vm.findClass "com/example/sakuin/sakuin/engine/OperationIndexPinLaw" = some m.cls := findClass_of_methodNamed Bd.named
  have hnm := (name_of_methodNamed Bd.named Bd.method).1
  have X0 : Stand p l e room_1 s m #[(.long q1), (.long q2), (.long q3), (.long q4), (.int p5), (.int p6)] below meth c s₁ [] 0 0 := Stand.of_body Bd
  have e0 : s₁.heap = h0 := by rw [← hh, Bd.state]; rfl
  have N0 := Fr.nil n0
  refine ownOut (P := (Q_law Z q1 q2 q3 q4 p5 p6 G1 h0 n0)) ?_
  refine ownBy (A := s₁.setTop (mkF m 0 #[.val (.long q1), .second, .val (.long q2), .second, .val (.long q3), .second, .val (.long q4), .second, .val (.int p5), .val (.int p6), .unset, .unset, .unset, .unset, .unset, .unset, .unset, .unset, .unset, .unset, .unset] [])) (fun t k => castTop (ef_law m q1 q2 q3 q4 p5 p6) k) ?_
  have hws : ∀ d ∈ StrChars.Road.words, d.before a0 Z = true := fun d hd => hw d ((by decide +kernel : ∀ d ∈ StrChars.Road.words, d ∈ tables_1) d hd)
  refine ownBy (A := s₁.setTop (mkF m 1 #[.val (.long q1), .second, .val (.long q2), .second, .val (.long q3), .second, .val (.long q4), .second, .val (.int p5), .val (.int p6), .unset, .unset, .unset, .unset, .unset, .unset, .unset, .unset, .unset, .unset, .unset] [(.int (2 : Int32))])) (fun t kt => ?_) ?_
  · show Steps p.tables e below (s₁.setTop (mkF m 0 #[.val (.long q1), .second, .val (.long q2), .second, .val (.long q3), .second, .val (.long q4), .second, .val (.int p5), .val (.int p6), .unset, .unset, .unset, .unset, .unset, .unset, .unset, .unset, .unset, .unset, .unset] [])) t
    refine XS.iconst X0.here hx rfl (hb hby at_0) ?_
    exact kt
  obtain ⟨T125, h125, k125, X125, e125, E125, A125, st125⟩ := newP X0 hx hZ (hw _ (List.mem_of_getElem? (i := 0) rfl)) e0 (g := (mkF m 1 #[.val (.long q1), .second, .val (.long q2), .second, .val (.long q3), .second, .val (.long q4), .second, .val (.int p5), .val (.int p6), .unset, .unset, .unset, .unset, .unset, .unset, .unset, .unset, .unset, .unset, .unset] [(.int (2 : Int32))])) rfl (hb hby at_1) rfl (by decide : ¬ ((2 : Int32) < (0 : Int32))) (cap := 2) (by decide) (by decide) (by decide) (by decide)
  obtain ⟨b125, g125⟩ : ∃ z, z = h0.size := ⟨_, rfl⟩
  rw [← g125] at A125 st125
  have g126 : n0 ≤ b125 := Nat.le_trans Z0 (Nat.le_of_eq g125.symm)
  have z127 : h0.size ≤ b125 := Nat.le_trans (Keep.refl h0 []).1 (Nat.le_of_eq g125.symm)
  have V128 : Arv Z h125 b125 k125 .char (2 : Int32) [(.int (0 : Int32)), (.int (0 : Int32))] (.int (0 : Int32)) := (Arv.new A125 (by decide)).pad (pad_rep [] (.int (0 : Int32)) 2)
  refine ownBy st125 ?_
  show ownG p.tables e below _ (T125.setTop (mkF m 3 #[.val (.long q1), .second, .val (.long q2), .second, .val (.long q3), .second, .val (.long q4), .second, .val (.int p5), .val (.int p6), .unset, .unset, .unset, .unset, .unset, .unset, .unset, .unset, .unset, .unset, .unset] [(.ref b125)]))
  refine ownBy (A := T125.setTop (mkF m 12 #[.val (.long q1), .second, .val (.long q2), .second, .val (.long q3), .second, .val (.long q4), .second, .val (.int p5), .val (.int p6), .unset, .unset, .unset, .unset, .unset, .unset, .unset, .unset, .unset, .unset, .unset] [(.int ((p5 &&& (255 : Int32)).toUInt32.toUInt16.toUInt32.toInt32)), (.int (0 : Int32)), (.ref b125), (.ref b125)])) (fun t kt => ?_) ?_
  · show Steps p.tables e below (T125.setTop (mkF m 3 #[.val (.long q1), .second, .val (.long q2), .second, .val (.long q3), .second, .val (.long q4), .second, .val (.int p5), .val (.int p6), .unset, .unset, .unset, .unset, .unset, .unset, .unset, .unset, .unset, .unset, .unset] [(.ref b125)])) t
    refine XS.dup X125.here hx rfl (hb hby at_3) rfl rfl ?_
    show Steps p.tables e below (T125.setTop (mkF m 4 #[.val (.long q1), .second, .val (.long q2), .second, .val (.long q3), .second, .val (.long q4), .second, .val (.int p5), .val (.int p6), .unset, .unset, .unset, .unset, .unset, .unset, .unset, .unset, .unset, .unset, .unset] [(.ref b125), (.ref b125)])) t
    refine XS.iconst X125.here hx rfl (hb hby at_4) ?_
    show Steps p.tables e below (T125.setTop (mkF m 5 #[.val (.long q1), .second, .val (.long q2), .second, .val (.long q3), .second, .val (.long q4), .second, .val (.int p5), .val (.int p6), .unset, .unset, .unset, .unset, .unset, .unset, .unset, .unset, .unset, .unset, .unset] [(.int (0 : Int32)), (.ref b125), (.ref b125)])) t
    refine XS.iload X125.here hx rfl (hb hby at_5) rfl ?_
    show Steps p.tables e below (T125.setTop (mkF m 7 #[.val (.long q1), .second, .val (.long q2), .second, .val (.long q3), .second, .val (.long q4), .second, .val (.int p5), .val (.int p6), .unset, .unset, .unset, .unset, .unset, .unset, .unset, .unset, .unset, .unset, .unset] [(.int p5), (.int (0 : Int32)), (.ref b125), (.ref b125)])) t
    refine XS.sipush X125.here hx rfl (hb hby at_7) ?_
    show Steps p.tables e below (T125.setTop (mkF m 10 #[.val (.long q1), .second, .val (.long q2), .second, .val (.long q3), .second, .val (.long q4), .second, .val (.int p5), .val (.int p6), .unset, .unset, .unset, .unset, .unset, .unset, .unset, .unset, .unset, .unset, .unset] [(.int (255 : Int32)), (.int p5), (.int (0 : Int32)), (.ref b125), (.ref b125)])) t
    refine XS.iand X125.here hx rfl (hb hby at_10) rfl ?_
    show Steps p.tables e below (T125.setTop (mkF m 11 #[.val (.long q1), .second, .val (.long q2), .second, .val (.long q3), .second, .val (.long q4), .second, .val (.int p5), .val (.int p6), .unset, .unset, .unset, .unset, .unset, .unset, .unset, .unset, .unset, .unset, .unset] [(.int (p5 &&& (255 : Int32))), (.int (0 : Int32)), (.ref b125), (.ref b125)])) t
    refine XS.i2c X125.here hx rfl (hb hby at_11) rfl ?_
    exact kt
  obtain ⟨cl129, Ar129, q129, S129, N129, H129, G129⟩ := id V128
  have hin129 : ¬ ((0 : Int32) < 0 ∨ cl129.slots.size ≤ ((0 : Int32)).toNatClampNeg) := inb_of S129 ⟨by decide, by decide⟩
  obtain ⟨T129, h129, X129, e129, W129, st129⟩ := stC X125 hx hZ e125 Ar129 (j := (0 : Int32)) hin129 (g := (mkF m 12 #[.val (.long q1), .second, .val (.long q2), .second, .val (.long q3), .second, .val (.long q4), .second, .val (.int p5), .val (.int p6), .unset, .unset, .unset, .unset, .unset, .unset, .unset, .unset, .unset, .unset, .unset] [(.int ((p5 &&& (255 : Int32)).toUInt32.toUInt16.toUInt32.toInt32)), (.int (0 : Int32)), (.ref b125), (.ref b125)])) rfl rfl (hb hby at_12)
  have V130 : Arv Z h129 b125 k125 .char (2 : Int32) [(.int (nar .char ((p5 &&& (255 : Int32)).toUInt32.toUInt16.toUInt32.toInt32))), (.int (0 : Int32))] (.int (0 : Int32)) := Arv.set Ar129 q129 S129 N129 H129 G129 (fits_nar_char _) W129 0 rfl (Nat.le_of_ble_eq_true rfl)
  have N131 := Fr.snoc X129 N0 g126
  refine ownBy st129 ?_
  show ownG p.tables e below _ (T129.setTop (mkF m 13 #[.val (.long q1), .second, .val (.long q2), .second, .val (.long q3), .second, .val (.long q4), .second, .val (.int p5), .val (.int p6), .unset, .unset, .unset, .unset, .unset, .unset, .unset, .unset, .unset, .unset, .unset] [(.ref b125)]))
  refine ownBy (A := T129.setTop (mkF m 25 #[.val (.long q1), .second, .val (.long q2), .second, .val (.long q3), .second, .val (.long q4), .second, .val (.int p5), .val (.int p6), .unset, .unset, .unset, .unset, .unset, .unset, .unset, .unset, .unset, .unset, .unset] [(.int ((((p5.toUInt32 >>> ((8 : Int32) &&& 31).toUInt32).toInt32) &&& (255 : Int32)).toUInt32.toUInt16.toUInt32.toInt32)), (.int (1 : Int32)), (.ref b125), (.ref b125)])) (fun t kt => ?_) ?_
  · show Steps p.tables e below (T129.setTop (mkF m 13 #[.val (.long q1), .second, .val (.long q2), .second, .val (.long q3), .second, .val (.long q4), .second, .val (.int p5), .val (.int p6), .unset, .unset, .unset, .unset, .unset, .unset, .unset, .unset, .unset, .unset, .unset] [(.ref b125)])) t
    refine XS.dup X129.here hx rfl (hb hby at_13) rfl rfl ?_
    show Steps p.tables e below (T129.setTop (mkF m 14 #[.val (.long q1), .second, .val (.long q2), .second, .val (.long q3), .second, .val (.long q4), .second, .val (.int p5), .val (.int p6), .unset, .unset, .unset, .unset, .unset, .unset, .unset, .unset, .unset, .unset, .unset] [(.ref b125), (.ref b125)])) t
    refine XS.iconst X129.here hx rfl (hb hby at_14) ?_
    show Steps p.tables e below (T129.setTop (mkF m 15 #[.val (.long q1), .second, .val (.long q2), .second, .val (.long q3), .second, .val (.long q4), .second, .val (.int p5), .val (.int p6), .unset, .unset, .unset, .unset, .unset, .unset, .unset, .unset, .unset, .unset, .unset] [(.int (1 : Int32)), (.ref b125), (.ref b125)])) t
    refine XS.iload X129.here hx rfl (hb hby at_15) rfl ?_
    show Steps p.tables e below (T129.setTop (mkF m 17 #[.val (.long q1), .second, .val (.long q2), .second, .val (.long q3), .second, .val (.long q4), .second, .val (.int p5), .val (.int p6), .unset, .unset, .unset, .unset, .unset, .unset, .unset, .unset, .unset, .unset, .unset] [(.int p5), (.int (1 : Int32)), (.ref b125), (.ref b125)])) t
    refine XS.bipush X129.here hx rfl (hb hby at_17) ?_
    show Steps p.tables e below (T129.setTop (mkF m 19 #[.val (.long q1), .second, .val (.long q2), .second, .val (.long q3), .second, .val (.long q4), .second, .val (.int p5), .val (.int p6), .unset, .unset, .unset, .unset, .unset, .unset, .unset, .unset, .unset, .unset, .unset] [(.int (8 : Int32)), (.int p5), (.int (1 : Int32)), (.ref b125), (.ref b125)])) t
    refine XS.iushr X129.here hx rfl (hb hby at_19) rfl ?_
    show Steps p.tables e below (T129.setTop (mkF m 20 #[.val (.long q1), .second, .val (.long q2), .second, .val (.long q3), .second, .val (.long q4), .second, .val (.int p5), .val (.int p6), .unset, .unset, .unset, .unset, .unset, .unset, .unset, .unset, .unset, .unset, .unset] [(.int ((p5.toUInt32 >>> ((8 : Int32) &&& 31).toUInt32).toInt32)), (.int (1 : Int32)), (.ref b125), (.ref b125)])) t
    refine XS.sipush X129.here hx rfl (hb hby at_20) ?_
    show Steps p.tables e below (T129.setTop (mkF m 23 #[.val (.long q1), .second, .val (.long q2), .second, .val (.long q3), .second, .val (.long q4), .second, .val (.int p5), .val (.int p6), .unset, .unset, .unset, .unset, .unset, .unset, .unset, .unset, .unset, .unset, .unset] [(.int (255 : Int32)), (.int ((p5.toUInt32 >>> ((8 : Int32) &&& 31).toUInt32).toInt32)), (.int (1 : Int32)), (.ref b125), (.ref b125)])) t
    refine XS.iand X129.here hx rfl (hb hby at_23) rfl ?_
    show Steps p.tables e below (T129.setTop (mkF m 24 #[.val (.long q1), .second, .val (.long q2), .second, .val (.long q3), .second, .val (.long q4), .second, .val (.int p5), .val (.int p6), .unset, .unset, .unset, .unset, .unset, .unset, .unset, .unset, .unset, .unset, .unset] [(.int (((p5.toUInt32 >>> ((8 : Int32) &&& 31).toUInt32).toInt32) &&& (255 : Int32))), (.int (1 : Int32)), (.ref b125), (.ref b125)])) t
    refine XS.i2c X129.here hx rfl (hb hby at_24) rfl ?_
    exact kt
  obtain ⟨cl132, Ar132, q132, S132, N132, H132, G132⟩ := id V130
  have hin132 : ¬ ((1 : Int32) < 0 ∨ cl132.slots.size ≤ ((1 : Int32)).toNatClampNeg) := inb_of S132 ⟨by decide, by decide⟩
  obtain ⟨T132, h132, X132, e132, W132, st132⟩ := stC X129 hx hZ e129 Ar132 (j := (1 : Int32)) hin132 (g := (mkF m 25 #[.val (.long q1), .second, .val (.long q2), .second, .val (.long q3), .second, .val (.long q4), .second, .val (.int p5), .val (.int p6), .unset, .unset, .unset, .unset, .unset, .unset, .unset, .unset, .unset, .unset, .unset] [(.int ((((p5.toUInt32 >>> ((8 : Int32) &&& 31).toUInt32).toInt32) &&& (255 : Int32)).toUInt32.toUInt16.toUInt32.toInt32)), (.int (1 : Int32)), (.ref b125), (.ref b125)])) rfl rfl (hb hby at_25)
  have V133 : Arv Z h132 b125 k125 .char (2 : Int32) [(.int (nar .char ((p5 &&& (255 : Int32)).toUInt32.toUInt16.toUInt32.toInt32))), (.int (nar .char ((((p5.toUInt32 >>> ((8 : Int32) &&& 31).toUInt32).toInt32) &&& (255 : Int32)).toUInt32.toUInt16.toUInt32.toInt32)))] (.int (0 : Int32)) := Arv.set Ar132 q132 S132 N132 H132 G132 (fits_nar_char _) W132 1 rfl (Nat.le_of_ble_eq_true rfl)
  have N134 := Fr.snoc X132 N131 g126
  refine ownBy st132 ?_
  show ownG p.tables e below _ (T132.setTop (mkF m 26 #[.val (.long q1), .second, .val (.long q2), .second, .val (.long q3), .second, .val (.long q4), .second, .val (.int p5), .val (.int p6), .unset, .unset, .unset, .unset, .unset, .unset, .unset, .unset, .unset, .unset, .unset] [(.ref b125)]))
  refine ownBy (A := T132.setTop (mkF m 28 #[.val (.long q1), .second, .val (.long q2), .second, .val (.long q3), .second, .val (.long q4), .second, .val (.int p5), .val (.int p6), .val (.ref b125), .unset, .unset, .unset, .unset, .unset, .unset, .unset, .unset, .unset, .unset] [])) (fun t kt => ?_) ?_
  · show Steps p.tables e below (T132.setTop (mkF m 26 #[.val (.long q1), .second, .val (.long q2), .second, .val (.long q3), .second, .val (.long q4), .second, .val (.int p5), .val (.int p6), .unset, .unset, .unset, .unset, .unset, .unset, .unset, .unset, .unset, .unset, .unset] [(.ref b125)])) t
    refine XS.astore X132.here hx rfl (hb hby at_26) rfl rfl (l' := #[.val (.long q1), .second, .val (.long q2), .second, .val (.long q3), .second, .val (.long q4), .second, .val (.int p5), .val (.int p6), .val (.ref b125), .unset, .unset, .unset, .unset, .unset, .unset, .unset, .unset, .unset, .unset]) rfl ?_
    exact kt
  obtain ⟨T135, h135, X135, e135, E135, A135, D135, -, st135⟩ := newO X132 hx hZ hown (hw _ (List.mem_of_getElem? (i := 1) rfl)) (hw _ (List.mem_of_getElem? (i := 2) rfl)) (hw _ (List.mem_of_getElem? (i := 3) rfl)) e132 (g := (mkF m 28 #[.val (.long q1), .second, .val (.long q2), .second, .val (.long q3), .second, .val (.long q4), .second, .val (.int p5), .val (.int p6), .val (.ref b125), .unset, .unset, .unset, .unset, .unset, .unset, .unset, .unset, .unset, .unset] [])) rfl (hb hby at_28) (by decide) (by decide)
  obtain ⟨b135, g135⟩ : ∃ z, z = h132.size := ⟨_, rfl⟩
  rw [← g135] at A135 D135 st135
  have ne136 : b125 ≠ b135 := Nat.ne_of_lt (Nat.lt_of_lt_of_le V133.lt (Nat.le_of_eq g135.symm))
  have f138 := (Nat.le_trans (Nat.le_trans (Nat.le_trans Z0 E125.1) (Keep.of_wr W129).1) (Keep.of_wr W132).1)
  have g137 : n0 ≤ b135 := Nat.le_trans f138 (Nat.le_of_eq g135.symm)
  have f140 := ((((Keep.refl h0 []).ext E125).wr W129 (Or.inr z127)).wr W132 (Or.inr z127))
  have z139 : h0.size ≤ b135 := Nat.le_trans f140.1 (Nat.le_of_eq g135.symm)
  have F141 : Fld Z h135 b135 "java/lang/String" "coder" "B" (.int (0 : Int32)) := D135 (Or.inr (hw _ (List.mem_of_getElem? (i := 27) rfl))) (ty := .byte) (by decide)
  have F142 : Fld Z h135 b135 "java/lang/String" "value" "[B" .null := D135 (Or.inr (hw _ (List.mem_of_getElem? (i := 29) rfl))) (ty := (.array .byte)) (by decide)
  refine ownBy st135 ?_
  show ownG p.tables e below _ (T135.setTop (mkF m 31 #[.val (.long q1), .second, .val (.long q2), .second, .val (.long q3), .second, .val (.long q4), .second, .val (.int p5), .val (.int p6), .val (.ref b125), .unset, .unset, .unset, .unset, .unset, .unset, .unset, .unset, .unset, .unset] [(.ref b135)]))
  refine ownBy (A := T135.setTop (mkF m 34 #[.val (.long q1), .second, .val (.long q2), .second, .val (.long q3), .second, .val (.long q4), .second, .val (.int p5), .val (.int p6), .val (.ref b125), .unset, .unset, .unset, .unset, .unset, .unset, .unset, .unset, .unset, .unset] [(.ref b125), (.ref b135), (.ref b135)])) (fun t kt => ?_) ?_
  · show Steps p.tables e below (T135.setTop (mkF m 31 #[.val (.long q1), .second, .val (.long q2), .second, .val (.long q3), .second, .val (.long q4), .second, .val (.int p5), .val (.int p6), .val (.ref b125), .unset, .unset, .unset, .unset, .unset, .unset, .unset, .unset, .unset, .unset] [(.ref b135)])) t
    refine XS.dup X135.here hx rfl (hb hby at_31) rfl rfl ?_
    show Steps p.tables e below (T135.setTop (mkF m 32 #[.val (.long q1), .second, .val (.long q2), .second, .val (.long q3), .second, .val (.long q4), .second, .val (.int p5), .val (.int p6), .val (.ref b125), .unset, .unset, .unset, .unset, .unset, .unset, .unset, .unset, .unset, .unset] [(.ref b135), (.ref b135)])) t
    refine XS.aload X135.here hx rfl (hb hby at_32) rfl rfl ?_
    exact kt
  have hp143 : ∀ c ∈ ([(nar .char ((p5 &&& (255 : Int32)).toUInt32.toUInt16.toUInt32.toInt32)), (nar .char ((((p5.toUInt32 >>> ((8 : Int32) &&& 31).toUInt32).toInt32) &&& (255 : Int32)).toUInt32.toUInt16.toUInt32.toInt32))] : List Int32), ¬ c < 0 ∧ ¬ (255 : Int32) < c := by
    intro c hc
    simp only [List.mem_cons, List.not_mem_nil, or_false] at hc
    rcases hc with rfl | rfl
    · exact own_and255 p5
    · exact own_and255 ((p5.toUInt32 >>> ((8 : Int32) &&& 31).toUInt32).toInt32)
  have f144 := (Nat.le_trans f138 E135.1)
  have f145 := (V133.ext E135)
  have f146 := ((((X00.ext E125).wr W129 g126).wr W132 g126).ext E135)
  obtain ⟨_, _, ⟨T147, L147, k147, n147⟩, -, X147, ⟨Lc147, hQ147, l147, y147, z147⟩, st147⟩ := X135.specialBack hx (y := (⟨"java/lang/String", "<init>", "([C)V"⟩ : MethodName)) rfl hown (mvT hZ (hw _ (List.mem_of_getElem? (i := 4) rfl))) (mvT hZ (hw _ (List.mem_of_getElem? (i := 5) rfl))) (mvT hZ (hw _ (List.mem_of_getElem? (i := 6) rfl))) (by decide) (StrChars.Road.backV (W := 1) hZ hws (kI := 4) (hw _ (List.mem_of_getElem? (i := 2) rfl)) (cs := ([(nar .char ((p5 &&& (255 : Int32)).toUInt32.toUInt16.toUInt32.toInt32)), (nar .char ((((p5.toUInt32 >>> ((8 : Int32) &&& 31).toUInt32).toInt32) &&& (255 : Int32)).toUInt32.toUInt16.toUInt32.toInt32))] : List Int32)) (bs := (([(nar .char ((p5 &&& (255 : Int32)).toUInt32.toUInt16.toUInt32.toInt32)), (nar .char ((((p5.toUInt32 >>> ((8 : Int32) &&& 31).toUInt32).toInt32) &&& (255 : Int32)).toUInt32.toUInt16.toUInt32.toInt32))] : List Int32)).map (fun c => c.toInt8.toInt32)) (n := 2) g137 f144 A135 F142 F141 f145 (O2.ext f146.2) P5 rfl rfl (by decide) (by decide) hp143 rfl (by decide) (by decide)) (g := (mkF m 34 #[.val (.long q1), .second, .val (.long q2), .second, .val (.long q3), .second, .val (.long q4), .second, .val (.int p5), .val (.int p6), .val (.ref b125), .unset, .unset, .unset, .unset, .unset, .unset, .unset, .unset, .unset, .unset] [(.ref b125), (.ref b135), (.ref b135)])) rfl (by rw [hml]; rfl) (Steps.refl _) (a := b135) (argsL := [(.ref b125)]) (rest := [(.ref b135)]) (lenOf pd_148 rfl) rfl (by show 2 * 0 + _ ≤ _; exact Nat.le_of_eq rfl) (hb hby at_34) (fun _ _ => ⟨rfl, e135, (by decide : 2 + 1 ≤ _), (by decide : 6 + 2 ≤ _)⟩)
  dsimp only [Pt.U, Pt.locs, Pt.cells, Pt.slots] at X147 l147 y147 z147 st147 hQ147
  subst l147 y147 z147
  obtain ⟨rfl, Nq147, Kq147, Eq147, Cq147, t147, kb147, u147, v147, w147, Vq147, Aq147⟩ := hQ147
  have ne149 : b125 ≠ t147 := Nat.ne_of_lt (Nat.lt_of_lt_of_le f145.lt v147)
  have ne150 : b135 ≠ t147 := Nat.ne_of_lt (Nat.lt_of_lt_of_le A135.lt v147)
  have g151 : n0 ≤ t147 := Nat.le_trans f144 v147
  have f153 := (f140.ext E135)
  have z152 : h0.size ≤ t147 := Nat.le_trans f153.1 v147
  have N154 := Fr.app N134 Nq147
  refine ownSt st147 ?_
  show ownG p.tables e below _ (T147.setTop (mkF m 37 #[.val (.long q1), .second, .val (.long q2), .second, .val (.long q3), .second, .val (.long q4), .second, .val (.int p5), .val (.int p6), .val (.ref b125), .unset, .unset, .unset, .unset, .unset, .unset, .unset, .unset, .unset, .unset] [(.ref b135)]))
  refine ownBy (A := T147.setTop (mkF m 53 #[.val (.long q1), .second, .val (.long q2), .second, .val (.long q3), .second, .val (.long q4), .second, .val (.int p5), .val (.int p6), .val (.ref b125), .val (.ref b135), .val (.int (p6.toInt8.toInt32)), .val (.int (((p6.toUInt32 >>> ((8 : Int32) &&& 31).toUInt32).toInt32).toInt8.toInt32)), .unset, .unset, .unset, .unset, .unset, .unset, .unset] [(.int (2 : Int32))])) (fun t kt => ?_) ?_
  · show Steps p.tables e below (T147.setTop (mkF m 37 #[.val (.long q1), .second, .val (.long q2), .second, .val (.long q3), .second, .val (.long q4), .second, .val (.int p5), .val (.int p6), .val (.ref b125), .unset, .unset, .unset, .unset, .unset, .unset, .unset, .unset, .unset, .unset] [(.ref b135)])) t
    refine XS.astore X147.here hx rfl (hb hby at_37) rfl rfl (l' := #[.val (.long q1), .second, .val (.long q2), .second, .val (.long q3), .second, .val (.long q4), .second, .val (.int p5), .val (.int p6), .val (.ref b125), .val (.ref b135), .unset, .unset, .unset, .unset, .unset, .unset, .unset, .unset, .unset]) rfl ?_
    show Steps p.tables e below (T147.setTop (mkF m 39 #[.val (.long q1), .second, .val (.long q2), .second, .val (.long q3), .second, .val (.long q4), .second, .val (.int p5), .val (.int p6), .val (.ref b125), .val (.ref b135), .unset, .unset, .unset, .unset, .unset, .unset, .unset, .unset, .unset] [])) t
    refine XS.iload X147.here hx rfl (hb hby at_39) rfl ?_
    show Steps p.tables e below (T147.setTop (mkF m 41 #[.val (.long q1), .second, .val (.long q2), .second, .val (.long q3), .second, .val (.long q4), .second, .val (.int p5), .val (.int p6), .val (.ref b125), .val (.ref b135), .unset, .unset, .unset, .unset, .unset, .unset, .unset, .unset, .unset] [(.int p6)])) t
    refine XS.i2b X147.here hx rfl (hb hby at_41) rfl ?_
    show Steps p.tables e below (T147.setTop (mkF m 42 #[.val (.long q1), .second, .val (.long q2), .second, .val (.long q3), .second, .val (.long q4), .second, .val (.int p5), .val (.int p6), .val (.ref b125), .val (.ref b135), .unset, .unset, .unset, .unset, .unset, .unset, .unset, .unset, .unset] [(.int (p6.toInt8.toInt32))])) t
    refine XS.istore X147.here hx rfl (hb hby at_42) rfl (l' := #[.val (.long q1), .second, .val (.long q2), .second, .val (.long q3), .second, .val (.long q4), .second, .val (.int p5), .val (.int p6), .val (.ref b125), .val (.ref b135), .val (.int (p6.toInt8.toInt32)), .unset, .unset, .unset, .unset, .unset, .unset, .unset, .unset]) rfl ?_
    show Steps p.tables e below (T147.setTop (mkF m 44 #[.val (.long q1), .second, .val (.long q2), .second, .val (.long q3), .second, .val (.long q4), .second, .val (.int p5), .val (.int p6), .val (.ref b125), .val (.ref b135), .val (.int (p6.toInt8.toInt32)), .unset, .unset, .unset, .unset, .unset, .unset, .unset, .unset] [])) t
    refine XS.iload X147.here hx rfl (hb hby at_44) rfl ?_
    show Steps p.tables e below (T147.setTop (mkF m 46 #[.val (.long q1), .second, .val (.long q2), .second, .val (.long q3), .second, .val (.long q4), .second, .val (.int p5), .val (.int p6), .val (.ref b125), .val (.ref b135), .val (.int (p6.toInt8.toInt32)), .unset, .unset, .unset, .unset, .unset, .unset, .unset, .unset] [(.int p6)])) t
    refine XS.bipush X147.here hx rfl (hb hby at_46) ?_
    show Steps p.tables e below (T147.setTop (mkF m 48 #[.val (.long q1), .second, .val (.long q2), .second, .val (.long q3), .second, .val (.long q4), .second, .val (.int p5), .val (.int p6), .val (.ref b125), .val (.ref b135), .val (.int (p6.toInt8.toInt32)), .unset, .unset, .unset, .unset, .unset, .unset, .unset, .unset] [(.int (8 : Int32)), (.int p6)])) t
    refine XS.iushr X147.here hx rfl (hb hby at_48) rfl ?_
    show Steps p.tables e below (T147.setTop (mkF m 49 #[.val (.long q1), .second, .val (.long q2), .second, .val (.long q3), .second, .val (.long q4), .second, .val (.int p5), .val (.int p6), .val (.ref b125), .val (.ref b135), .val (.int (p6.toInt8.toInt32)), .unset, .unset, .unset, .unset, .unset, .unset, .unset, .unset] [(.int ((p6.toUInt32 >>> ((8 : Int32) &&& 31).toUInt32).toInt32))])) t
    refine XS.i2b X147.here hx rfl (hb hby at_49) rfl ?_
    show Steps p.tables e below (T147.setTop (mkF m 50 #[.val (.long q1), .second, .val (.long q2), .second, .val (.long q3), .second, .val (.long q4), .second, .val (.int p5), .val (.int p6), .val (.ref b125), .val (.ref b135), .val (.int (p6.toInt8.toInt32)), .unset, .unset, .unset, .unset, .unset, .unset, .unset, .unset] [(.int (((p6.toUInt32 >>> ((8 : Int32) &&& 31).toUInt32).toInt32).toInt8.toInt32))])) t
    refine XS.istore X147.here hx rfl (hb hby at_50) rfl (l' := #[.val (.long q1), .second, .val (.long q2), .second, .val (.long q3), .second, .val (.long q4), .second, .val (.int p5), .val (.int p6), .val (.ref b125), .val (.ref b135), .val (.int (p6.toInt8.toInt32)), .val (.int (((p6.toUInt32 >>> ((8 : Int32) &&& 31).toUInt32).toInt32).toInt8.toInt32)), .unset, .unset, .unset, .unset, .unset, .unset, .unset]) rfl ?_
    show Steps p.tables e below (T147.setTop (mkF m 52 #[.val (.long q1), .second, .val (.long q2), .second, .val (.long q3), .second, .val (.long q4), .second, .val (.int p5), .val (.int p6), .val (.ref b125), .val (.ref b135), .val (.int (p6.toInt8.toInt32)), .val (.int (((p6.toUInt32 >>> ((8 : Int32) &&& 31).toUInt32).toInt32).toInt8.toInt32)), .unset, .unset, .unset, .unset, .unset, .unset, .unset] [])) t
    refine XS.iconst X147.here hx rfl (hb hby at_52) ?_
    exact kt
  obtain ⟨T155, h155, k155, X155, e155, E155, A155, st155⟩ := newP X147 hx hZ (hw _ (List.mem_of_getElem? (i := 19) rfl)) rfl (g := (mkF m 53 #[.val (.long q1), .second, .val (.long q2), .second, .val (.long q3), .second, .val (.long q4), .second, .val (.int p5), .val (.int p6), .val (.ref b125), .val (.ref b135), .val (.int (p6.toInt8.toInt32)), .val (.int (((p6.toUInt32 >>> ((8 : Int32) &&& 31).toUInt32).toInt32).toInt8.toInt32)), .unset, .unset, .unset, .unset, .unset, .unset, .unset] [(.int (2 : Int32))])) rfl (hb hby at_53) rfl (by decide : ¬ ((2 : Int32) < (0 : Int32))) (cap := 2) (by decide) (by decide) (by decide) (by decide)
  obtain ⟨b155, g155⟩ : ∃ z, z = T147.heap.size := ⟨_, rfl⟩
  rw [← g155] at A155 st155
  have f157 := (f145.keep Kq147 (ninS ne136 nin0))
  have ne156 : b125 ≠ b155 := Nat.ne_of_lt (Nat.lt_of_lt_of_le f157.lt (Nat.le_of_eq g155.symm))
  have f159 := (A135.keep Kq147)
  have ne158 : b135 ≠ b155 := Nat.ne_of_lt (Nat.lt_of_lt_of_le f159.lt (Nat.le_of_eq g155.symm))
  have ne160 : t147 ≠ b155 := Nat.ne_of_lt (Nat.lt_of_lt_of_le Aq147.lt (Nat.le_of_eq g155.symm))
  have f162 := (Nat.le_trans f144 Kq147.1)
  have g161 : n0 ≤ b155 := Nat.le_trans f162 (Nat.le_of_eq g155.symm)
  have f164 := (f153.trans Kq147 (allS (Or.inr z139) all0))
  have z163 : h0.size ≤ b155 := Nat.le_trans f164.1 (Nat.le_of_eq g155.symm)
  have V165 : Arv Z h155 b155 k155 .byte (2 : Int32) [(.int (0 : Int32)), (.int (0 : Int32))] (.int (0 : Int32)) := (Arv.new A155 (by decide)).pad (pad_rep [] (.int (0 : Int32)) 2)
  refine ownBy st155 ?_
  show ownG p.tables e below _ (T155.setTop (mkF m 55 #[.val (.long q1), .second, .val (.long q2), .second, .val (.long q3), .second, .val (.long q4), .second, .val (.int p5), .val (.int p6), .val (.ref b125), .val (.ref b135), .val (.int (p6.toInt8.toInt32)), .val (.int (((p6.toUInt32 >>> ((8 : Int32) &&& 31).toUInt32).toInt32).toInt8.toInt32)), .unset, .unset, .unset, .unset, .unset, .unset, .unset] [(.ref b155)]))
  refine ownBy (A := T155.setTop (mkF m 59 #[.val (.long q1), .second, .val (.long q2), .second, .val (.long q3), .second, .val (.long q4), .second, .val (.int p5), .val (.int p6), .val (.ref b125), .val (.ref b135), .val (.int (p6.toInt8.toInt32)), .val (.int (((p6.toUInt32 >>> ((8 : Int32) &&& 31).toUInt32).toInt32).toInt8.toInt32)), .unset, .unset, .unset, .unset, .unset, .unset, .unset] [(.int (p6.toInt8.toInt32)), (.int (0 : Int32)), (.ref b155), (.ref b155)])) (fun t kt => ?_) ?_
  · show Steps p.tables e below (T155.setTop (mkF m 55 #[.val (.long q1), .second, .val (.long q2), .second, .val (.long q3), .second, .val (.long q4), .second, .val (.int p5), .val (.int p6), .val (.ref b125), .val (.ref b135), .val (.int (p6.toInt8.toInt32)), .val (.int (((p6.toUInt32 >>> ((8 : Int32) &&& 31).toUInt32).toInt32).toInt8.toInt32)), .unset, .unset, .unset, .unset, .unset, .unset, .unset] [(.ref b155)])) t
    refine XS.dup X155.here hx rfl (hb hby at_55) rfl rfl ?_
    show Steps p.tables e below (T155.setTop (mkF m 56 #[.val (.long q1), .second, .val (.long q2), .second, .val (.long q3), .second, .val (.long q4), .second, .val (.int p5), .val (.int p6), .val (.ref b125), .val (.ref b135), .val (.int (p6.toInt8.toInt32)), .val (.int (((p6.toUInt32 >>> ((8 : Int32) &&& 31).toUInt32).toInt32).toInt8.toInt32)), .unset, .unset, .unset, .unset, .unset, .unset, .unset] [(.ref b155), (.ref b155)])) t
    refine XS.iconst X155.here hx rfl (hb hby at_56) ?_
    show Steps p.tables e below (T155.setTop (mkF m 57 #[.val (.long q1), .second, .val (.long q2), .second, .val (.long q3), .second, .val (.long q4), .second, .val (.int p5), .val (.int p6), .val (.ref b125), .val (.ref b135), .val (.int (p6.toInt8.toInt32)), .val (.int (((p6.toUInt32 >>> ((8 : Int32) &&& 31).toUInt32).toInt32).toInt8.toInt32)), .unset, .unset, .unset, .unset, .unset, .unset, .unset] [(.int (0 : Int32)), (.ref b155), (.ref b155)])) t
    refine XS.iload X155.here hx rfl (hb hby at_57) rfl ?_
    exact kt
  obtain ⟨cl166, Ar166, q166, S166, N166, H166, G166⟩ := id V165
  have hin166 : ¬ ((0 : Int32) < 0 ∨ cl166.slots.size ≤ ((0 : Int32)).toNatClampNeg) := inb_of S166 ⟨by decide, by decide⟩
  obtain ⟨T166, h166, X166, e166, W166, st166⟩ := stB X155 hx hZ e155 Ar166 (j := (0 : Int32)) hin166 (g := (mkF m 59 #[.val (.long q1), .second, .val (.long q2), .second, .val (.long q3), .second, .val (.long q4), .second, .val (.int p5), .val (.int p6), .val (.ref b125), .val (.ref b135), .val (.int (p6.toInt8.toInt32)), .val (.int (((p6.toUInt32 >>> ((8 : Int32) &&& 31).toUInt32).toInt32).toInt8.toInt32)), .unset, .unset, .unset, .unset, .unset, .unset, .unset] [(.int (p6.toInt8.toInt32)), (.int (0 : Int32)), (.ref b155), (.ref b155)])) rfl rfl (hb hby at_59)
  have V167 : Arv Z h166 b155 k155 .byte (2 : Int32) [(.int (nar .byte (p6.toInt8.toInt32))), (.int (0 : Int32))] (.int (0 : Int32)) := Arv.set Ar166 q166 S166 N166 H166 G166 (fits_nar_byte _) W166 0 rfl (Nat.le_of_ble_eq_true rfl)
  have N168 := Fr.snoc X166 N154 g161
  refine ownBy st166 ?_
  show ownG p.tables e below _ (T166.setTop (mkF m 60 #[.val (.long q1), .second, .val (.long q2), .second, .val (.long q3), .second, .val (.long q4), .second, .val (.int p5), .val (.int p6), .val (.ref b125), .val (.ref b135), .val (.int (p6.toInt8.toInt32)), .val (.int (((p6.toUInt32 >>> ((8 : Int32) &&& 31).toUInt32).toInt32).toInt8.toInt32)), .unset, .unset, .unset, .unset, .unset, .unset, .unset] [(.ref b155)]))
  refine ownBy (A := T166.setTop (mkF m 64 #[.val (.long q1), .second, .val (.long q2), .second, .val (.long q3), .second, .val (.long q4), .second, .val (.int p5), .val (.int p6), .val (.ref b125), .val (.ref b135), .val (.int (p6.toInt8.toInt32)), .val (.int (((p6.toUInt32 >>> ((8 : Int32) &&& 31).toUInt32).toInt32).toInt8.toInt32)), .unset, .unset, .unset, .unset, .unset, .unset, .unset] [(.int (((p6.toUInt32 >>> ((8 : Int32) &&& 31).toUInt32).toInt32).toInt8.toInt32)), (.int (1 : Int32)), (.ref b155), (.ref b155)])) (fun t kt => ?_) ?_
  · show Steps p.tables e below (T166.setTop (mkF m 60 #[.val (.long q1), .second, .val (.long q2), .second, .val (.long q3), .second, .val (.long q4), .second, .val (.int p5), .val (.int p6), .val (.ref b125), .val (.ref b135), .val (.int (p6.toInt8.toInt32)), .val (.int (((p6.toUInt32 >>> ((8 : Int32) &&& 31).toUInt32).toInt32).toInt8.toInt32)), .unset, .unset, .unset, .unset, .unset, .unset, .unset] [(.ref b155)])) t
    refine XS.dup X166.here hx rfl (hb hby at_60) rfl rfl ?_
    show Steps p.tables e below (T166.setTop (mkF m 61 #[.val (.long q1), .second, .val (.long q2), .second, .val (.long q3), .second, .val (.long q4), .second, .val (.int p5), .val (.int p6), .val (.ref b125), .val (.ref b135), .val (.int (p6.toInt8.toInt32)), .val (.int (((p6.toUInt32 >>> ((8 : Int32) &&& 31).toUInt32).toInt32).toInt8.toInt32)), .unset, .unset, .unset, .unset, .unset, .unset, .unset] [(.ref b155), (.ref b155)])) t
    refine XS.iconst X166.here hx rfl (hb hby at_61) ?_
    show Steps p.tables e below (T166.setTop (mkF m 62 #[.val (.long q1), .second, .val (.long q2), .second, .val (.long q3), .second, .val (.long q4), .second, .val (.int p5), .val (.int p6), .val (.ref b125), .val (.ref b135), .val (.int (p6.toInt8.toInt32)), .val (.int (((p6.toUInt32 >>> ((8 : Int32) &&& 31).toUInt32).toInt32).toInt8.toInt32)), .unset, .unset, .unset, .unset, .unset, .unset, .unset] [(.int (1 : Int32)), (.ref b155), (.ref b155)])) t
    refine XS.iload X166.here hx rfl (hb hby at_62) rfl ?_
    exact kt
  obtain ⟨cl169, Ar169, q169, S169, N169, H169, G169⟩ := id V167
  have hin169 : ¬ ((1 : Int32) < 0 ∨ cl169.slots.size ≤ ((1 : Int32)).toNatClampNeg) := inb_of S169 ⟨by decide, by decide⟩
  obtain ⟨T169, h169, X169, e169, W169, st169⟩ := stB X166 hx hZ e166 Ar169 (j := (1 : Int32)) hin169 (g := (mkF m 64 #[.val (.long q1), .second, .val (.long q2), .second, .val (.long q3), .second, .val (.long q4), .second, .val (.int p5), .val (.int p6), .val (.ref b125), .val (.ref b135), .val (.int (p6.toInt8.toInt32)), .val (.int (((p6.toUInt32 >>> ((8 : Int32) &&& 31).toUInt32).toInt32).toInt8.toInt32)), .unset, .unset, .unset, .unset, .unset, .unset, .unset] [(.int (((p6.toUInt32 >>> ((8 : Int32) &&& 31).toUInt32).toInt32).toInt8.toInt32)), (.int (1 : Int32)), (.ref b155), (.ref b155)])) rfl rfl (hb hby at_64)
  have V170 : Arv Z h169 b155 k155 .byte (2 : Int32) [(.int (nar .byte (p6.toInt8.toInt32))), (.int (nar .byte (((p6.toUInt32 >>> ((8 : Int32) &&& 31).toUInt32).toInt32).toInt8.toInt32)))] (.int (0 : Int32)) := Arv.set Ar169 q169 S169 N169 H169 G169 (fits_nar_byte _) W169 1 rfl (Nat.le_of_ble_eq_true rfl)
  have N171 := Fr.snoc X169 N168 g161
  refine ownBy st169 ?_
  show ownG p.tables e below _ (T169.setTop (mkF m 65 #[.val (.long q1), .second, .val (.long q2), .second, .val (.long q3), .second, .val (.long q4), .second, .val (.int p5), .val (.int p6), .val (.ref b125), .val (.ref b135), .val (.int (p6.toInt8.toInt32)), .val (.int (((p6.toUInt32 >>> ((8 : Int32) &&& 31).toUInt32).toInt32).toInt8.toInt32)), .unset, .unset, .unset, .unset, .unset, .unset, .unset] [(.ref b155)]))
  refine ownBy (A := T169.setTop (mkF m 74 #[.val (.long q1), .second, .val (.long q2), .second, .val (.long q3), .second, .val (.long q4), .second, .val (.int p5), .val (.int p6), .val (.ref b125), .val (.ref b135), .val (.int (p6.toInt8.toInt32)), .val (.int (((p6.toUInt32 >>> ((8 : Int32) &&& 31).toUInt32).toInt32).toInt8.toInt32)), .val (.ref b155), .unset, .unset, .unset, .unset, .unset, .unset] [(.int (((p5.toUInt32 >>> ((16 : Int32) &&& 31).toUInt32).toInt32) &&& (1 : Int32)))])) (fun t kt => ?_) ?_
  · show Steps p.tables e below (T169.setTop (mkF m 65 #[.val (.long q1), .second, .val (.long q2), .second, .val (.long q3), .second, .val (.long q4), .second, .val (.int p5), .val (.int p6), .val (.ref b125), .val (.ref b135), .val (.int (p6.toInt8.toInt32)), .val (.int (((p6.toUInt32 >>> ((8 : Int32) &&& 31).toUInt32).toInt32).toInt8.toInt32)), .unset, .unset, .unset, .unset, .unset, .unset, .unset] [(.ref b155)])) t
    refine XS.astore X169.here hx rfl (hb hby at_65) rfl rfl (l' := #[.val (.long q1), .second, .val (.long q2), .second, .val (.long q3), .second, .val (.long q4), .second, .val (.int p5), .val (.int p6), .val (.ref b125), .val (.ref b135), .val (.int (p6.toInt8.toInt32)), .val (.int (((p6.toUInt32 >>> ((8 : Int32) &&& 31).toUInt32).toInt32).toInt8.toInt32)), .val (.ref b155), .unset, .unset, .unset, .unset, .unset, .unset]) rfl ?_
    show Steps p.tables e below (T169.setTop (mkF m 67 #[.val (.long q1), .second, .val (.long q2), .second, .val (.long q3), .second, .val (.long q4), .second, .val (.int p5), .val (.int p6), .val (.ref b125), .val (.ref b135), .val (.int (p6.toInt8.toInt32)), .val (.int (((p6.toUInt32 >>> ((8 : Int32) &&& 31).toUInt32).toInt32).toInt8.toInt32)), .val (.ref b155), .unset, .unset, .unset, .unset, .unset, .unset] [])) t
    refine XS.iload X169.here hx rfl (hb hby at_67) rfl ?_
    show Steps p.tables e below (T169.setTop (mkF m 69 #[.val (.long q1), .second, .val (.long q2), .second, .val (.long q3), .second, .val (.long q4), .second, .val (.int p5), .val (.int p6), .val (.ref b125), .val (.ref b135), .val (.int (p6.toInt8.toInt32)), .val (.int (((p6.toUInt32 >>> ((8 : Int32) &&& 31).toUInt32).toInt32).toInt8.toInt32)), .val (.ref b155), .unset, .unset, .unset, .unset, .unset, .unset] [(.int p5)])) t
    refine XS.bipush X169.here hx rfl (hb hby at_69) ?_
    show Steps p.tables e below (T169.setTop (mkF m 71 #[.val (.long q1), .second, .val (.long q2), .second, .val (.long q3), .second, .val (.long q4), .second, .val (.int p5), .val (.int p6), .val (.ref b125), .val (.ref b135), .val (.int (p6.toInt8.toInt32)), .val (.int (((p6.toUInt32 >>> ((8 : Int32) &&& 31).toUInt32).toInt32).toInt8.toInt32)), .val (.ref b155), .unset, .unset, .unset, .unset, .unset, .unset] [(.int (16 : Int32)), (.int p5)])) t
    refine XS.iushr X169.here hx rfl (hb hby at_71) rfl ?_
    show Steps p.tables e below (T169.setTop (mkF m 72 #[.val (.long q1), .second, .val (.long q2), .second, .val (.long q3), .second, .val (.long q4), .second, .val (.int p5), .val (.int p6), .val (.ref b125), .val (.ref b135), .val (.int (p6.toInt8.toInt32)), .val (.int (((p6.toUInt32 >>> ((8 : Int32) &&& 31).toUInt32).toInt32).toInt8.toInt32)), .val (.ref b155), .unset, .unset, .unset, .unset, .unset, .unset] [(.int ((p5.toUInt32 >>> ((16 : Int32) &&& 31).toUInt32).toInt32))])) t
    refine XS.iconst X169.here hx rfl (hb hby at_72) ?_
    show Steps p.tables e below (T169.setTop (mkF m 73 #[.val (.long q1), .second, .val (.long q2), .second, .val (.long q3), .second, .val (.long q4), .second, .val (.int p5), .val (.int p6), .val (.ref b125), .val (.ref b135), .val (.int (p6.toInt8.toInt32)), .val (.int (((p6.toUInt32 >>> ((8 : Int32) &&& 31).toUInt32).toInt32).toInt8.toInt32)), .val (.ref b155), .unset, .unset, .unset, .unset, .unset, .unset] [(.int (1 : Int32)), (.int ((p5.toUInt32 >>> ((16 : Int32) &&& 31).toUInt32).toInt32))])) t
    refine XS.iand X169.here hx rfl (hb hby at_73) rfl ?_
    exact kt
  by_cases hc172 : (((p5.toUInt32 >>> ((16 : Int32) &&& 31).toUInt32).toInt32) &&& (1 : Int32)) = (0 : Int32)
  · skip
    refine ownBy (A := T169.setTop (mkF m 119 #[.val (.long q1), .second, .val (.long q2), .second, .val (.long q3), .second, .val (.long q4), .second, .val (.int p5), .val (.int p6), .val (.ref b125), .val (.ref b135), .val (.int (p6.toInt8.toInt32)), .val (.int (((p6.toUInt32 >>> ((8 : Int32) &&& 31).toUInt32).toInt32).toInt8.toInt32)), .val (.ref b155), .val (.int (0 : Int32)), .val .null, .unset, .unset, .unset, .unset] [(.long q4), (.long q3), (.long q2), (.long q1), .null, (.ref b155), (.ref b135)])) (fun t kt => ?_) ?_
    · show Steps p.tables e below (T169.setTop (mkF m 74 #[.val (.long q1), .second, .val (.long q2), .second, .val (.long q3), .second, .val (.long q4), .second, .val (.int p5), .val (.int p6), .val (.ref b125), .val (.ref b135), .val (.int (p6.toInt8.toInt32)), .val (.int (((p6.toUInt32 >>> ((8 : Int32) &&& 31).toUInt32).toInt32).toInt8.toInt32)), .val (.ref b155), .unset, .unset, .unset, .unset, .unset, .unset] [(.int (((p5.toUInt32 >>> ((16 : Int32) &&& 31).toUInt32).toInt32) &&& (1 : Int32)))])) t
      refine XS.ifYes X169.here hx rfl (pc0 := 74) (pc' := 81) rfl (hb hby at_74) rfl ((if0 _ _).trans (teq hc172).1) (by decide) (by decide) ?_
      show Steps p.tables e below (T169.setTop (mkF m 81 #[.val (.long q1), .second, .val (.long q2), .second, .val (.long q3), .second, .val (.long q4), .second, .val (.int p5), .val (.int p6), .val (.ref b125), .val (.ref b135), .val (.int (p6.toInt8.toInt32)), .val (.int (((p6.toUInt32 >>> ((8 : Int32) &&& 31).toUInt32).toInt32).toInt8.toInt32)), .val (.ref b155), .unset, .unset, .unset, .unset, .unset, .unset] [])) t
      refine XS.iconst X169.here hx rfl (hb hby at_81) ?_
      show Steps p.tables e below (T169.setTop (mkF m 82 #[.val (.long q1), .second, .val (.long q2), .second, .val (.long q3), .second, .val (.long q4), .second, .val (.int p5), .val (.int p6), .val (.ref b125), .val (.ref b135), .val (.int (p6.toInt8.toInt32)), .val (.int (((p6.toUInt32 >>> ((8 : Int32) &&& 31).toUInt32).toInt32).toInt8.toInt32)), .val (.ref b155), .unset, .unset, .unset, .unset, .unset, .unset] [(.int (0 : Int32))])) t
      refine XS.istore X169.here hx rfl (hb hby at_82) rfl (l' := #[.val (.long q1), .second, .val (.long q2), .second, .val (.long q3), .second, .val (.long q4), .second, .val (.int p5), .val (.int p6), .val (.ref b125), .val (.ref b135), .val (.int (p6.toInt8.toInt32)), .val (.int (((p6.toUInt32 >>> ((8 : Int32) &&& 31).toUInt32).toInt32).toInt8.toInt32)), .val (.ref b155), .val (.int (0 : Int32)), .unset, .unset, .unset, .unset, .unset]) rfl ?_
      show Steps p.tables e below (T169.setTop (mkF m 84 #[.val (.long q1), .second, .val (.long q2), .second, .val (.long q3), .second, .val (.long q4), .second, .val (.int p5), .val (.int p6), .val (.ref b125), .val (.ref b135), .val (.int (p6.toInt8.toInt32)), .val (.int (((p6.toUInt32 >>> ((8 : Int32) &&& 31).toUInt32).toInt32).toInt8.toInt32)), .val (.ref b155), .val (.int (0 : Int32)), .unset, .unset, .unset, .unset, .unset] [])) t
      refine XS.aconstNull X169.here hx rfl (hb hby at_84) ?_
      show Steps p.tables e below (T169.setTop (mkF m 85 #[.val (.long q1), .second, .val (.long q2), .second, .val (.long q3), .second, .val (.long q4), .second, .val (.int p5), .val (.int p6), .val (.ref b125), .val (.ref b135), .val (.int (p6.toInt8.toInt32)), .val (.int (((p6.toUInt32 >>> ((8 : Int32) &&& 31).toUInt32).toInt32).toInt8.toInt32)), .val (.ref b155), .val (.int (0 : Int32)), .unset, .unset, .unset, .unset, .unset] [.null])) t
      refine XS.astore X169.here hx rfl (hb hby at_85) rfl rfl (l' := #[.val (.long q1), .second, .val (.long q2), .second, .val (.long q3), .second, .val (.long q4), .second, .val (.int p5), .val (.int p6), .val (.ref b125), .val (.ref b135), .val (.int (p6.toInt8.toInt32)), .val (.int (((p6.toUInt32 >>> ((8 : Int32) &&& 31).toUInt32).toInt32).toInt8.toInt32)), .val (.ref b155), .val (.int (0 : Int32)), .val .null, .unset, .unset, .unset, .unset]) rfl ?_
      show Steps p.tables e below (T169.setTop (mkF m 87 #[.val (.long q1), .second, .val (.long q2), .second, .val (.long q3), .second, .val (.long q4), .second, .val (.int p5), .val (.int p6), .val (.ref b125), .val (.ref b135), .val (.int (p6.toInt8.toInt32)), .val (.int (((p6.toUInt32 >>> ((8 : Int32) &&& 31).toUInt32).toInt32).toInt8.toInt32)), .val (.ref b155), .val (.int (0 : Int32)), .val .null, .unset, .unset, .unset, .unset] [])) t
      refine XS.iload X169.here hx rfl (hb hby at_87) rfl ?_
      show Steps p.tables e below (T169.setTop (mkF m 89 #[.val (.long q1), .second, .val (.long q2), .second, .val (.long q3), .second, .val (.long q4), .second, .val (.int p5), .val (.int p6), .val (.ref b125), .val (.ref b135), .val (.int (p6.toInt8.toInt32)), .val (.int (((p6.toUInt32 >>> ((8 : Int32) &&& 31).toUInt32).toInt32).toInt8.toInt32)), .val (.ref b155), .val (.int (0 : Int32)), .val .null, .unset, .unset, .unset, .unset] [(.int (0 : Int32))])) t
      refine XS.ifYes X169.here hx rfl (pc0 := 89) (pc' := 107) rfl (hb hby at_89) rfl ((if0 _ _).trans (teq ((by decide) : (0 : Int32) = (0 : Int32))).1) (by decide) (by decide) ?_
      show Steps p.tables e below (T169.setTop (mkF m 107 #[.val (.long q1), .second, .val (.long q2), .second, .val (.long q3), .second, .val (.long q4), .second, .val (.int p5), .val (.int p6), .val (.ref b125), .val (.ref b135), .val (.int (p6.toInt8.toInt32)), .val (.int (((p6.toUInt32 >>> ((8 : Int32) &&& 31).toUInt32).toInt32).toInt8.toInt32)), .val (.ref b155), .val (.int (0 : Int32)), .val .null, .unset, .unset, .unset, .unset] [])) t
      refine XS.aload X169.here hx rfl (hb hby at_107) rfl rfl ?_
      show Steps p.tables e below (T169.setTop (mkF m 109 #[.val (.long q1), .second, .val (.long q2), .second, .val (.long q3), .second, .val (.long q4), .second, .val (.int p5), .val (.int p6), .val (.ref b125), .val (.ref b135), .val (.int (p6.toInt8.toInt32)), .val (.int (((p6.toUInt32 >>> ((8 : Int32) &&& 31).toUInt32).toInt32).toInt8.toInt32)), .val (.ref b155), .val (.int (0 : Int32)), .val .null, .unset, .unset, .unset, .unset] [(.ref b135)])) t
      refine XS.aload X169.here hx rfl (hb hby at_109) rfl rfl ?_
      show Steps p.tables e below (T169.setTop (mkF m 111 #[.val (.long q1), .second, .val (.long q2), .second, .val (.long q3), .second, .val (.long q4), .second, .val (.int p5), .val (.int p6), .val (.ref b125), .val (.ref b135), .val (.int (p6.toInt8.toInt32)), .val (.int (((p6.toUInt32 >>> ((8 : Int32) &&& 31).toUInt32).toInt32).toInt8.toInt32)), .val (.ref b155), .val (.int (0 : Int32)), .val .null, .unset, .unset, .unset, .unset] [(.ref b155), (.ref b135)])) t
      refine XS.aload X169.here hx rfl (hb hby at_111) rfl rfl ?_
      show Steps p.tables e below (T169.setTop (mkF m 113 #[.val (.long q1), .second, .val (.long q2), .second, .val (.long q3), .second, .val (.long q4), .second, .val (.int p5), .val (.int p6), .val (.ref b125), .val (.ref b135), .val (.int (p6.toInt8.toInt32)), .val (.int (((p6.toUInt32 >>> ((8 : Int32) &&& 31).toUInt32).toInt32).toInt8.toInt32)), .val (.ref b155), .val (.int (0 : Int32)), .val .null, .unset, .unset, .unset, .unset] [.null, (.ref b155), (.ref b135)])) t
      refine XS.lloadN X169.here hx rfl (hb hby at_113) rfl ?_
      show Steps p.tables e below (T169.setTop (mkF m 114 #[.val (.long q1), .second, .val (.long q2), .second, .val (.long q3), .second, .val (.long q4), .second, .val (.int p5), .val (.int p6), .val (.ref b125), .val (.ref b135), .val (.int (p6.toInt8.toInt32)), .val (.int (((p6.toUInt32 >>> ((8 : Int32) &&& 31).toUInt32).toInt32).toInt8.toInt32)), .val (.ref b155), .val (.int (0 : Int32)), .val .null, .unset, .unset, .unset, .unset] [(.long q1), .null, (.ref b155), (.ref b135)])) t
      refine XS.lloadN X169.here hx rfl (hb hby at_114) rfl ?_
      show Steps p.tables e below (T169.setTop (mkF m 115 #[.val (.long q1), .second, .val (.long q2), .second, .val (.long q3), .second, .val (.long q4), .second, .val (.int p5), .val (.int p6), .val (.ref b125), .val (.ref b135), .val (.int (p6.toInt8.toInt32)), .val (.int (((p6.toUInt32 >>> ((8 : Int32) &&& 31).toUInt32).toInt32).toInt8.toInt32)), .val (.ref b155), .val (.int (0 : Int32)), .val .null, .unset, .unset, .unset, .unset] [(.long q2), (.long q1), .null, (.ref b155), (.ref b135)])) t
      refine XS.lload X169.here hx rfl (hb hby at_115) rfl ?_
      show Steps p.tables e below (T169.setTop (mkF m 117 #[.val (.long q1), .second, .val (.long q2), .second, .val (.long q3), .second, .val (.long q4), .second, .val (.int p5), .val (.int p6), .val (.ref b125), .val (.ref b135), .val (.int (p6.toInt8.toInt32)), .val (.int (((p6.toUInt32 >>> ((8 : Int32) &&& 31).toUInt32).toInt32).toInt8.toInt32)), .val (.ref b155), .val (.int (0 : Int32)), .val .null, .unset, .unset, .unset, .unset] [(.long q3), (.long q2), (.long q1), .null, (.ref b155), (.ref b135)])) t
      refine XS.lload X169.here hx rfl (hb hby at_117) rfl ?_
      exact kt
    have f173 := (Nat.le_trans (Nat.le_trans (Nat.le_trans f162 E155.1) (Keep.of_wr W166).1) (Keep.of_wr W169).1)
    obtain ⟨_, _, ⟨T174, L174, k174, n174⟩, -, X174, ⟨Lc174, hQ174, l174, y174, z174⟩, st174⟩ := Jvm.LawKit.callS X169 hx (y := (⟨"com/example/sakuin/sakuin/engine/Operation", "index", "(Ljava/lang/String;[BLjava/lang/String;JJJJ)Lcom/example/sakuin/sakuin/engine/Operation;"⟩ : MethodName)) hown (mvT hZ (hw _ (List.mem_of_getElem? (i := 30) rfl))) (mvT hZ (hw _ (List.mem_of_getElem? (i := 31) rfl))) (mvT hZ (hw _ (List.mem_of_getElem? (i := 32) rfl))) (mvT hZ (hw _ (List.mem_of_getElem? (i := 33) rfl))) (by decide) (backOf (W := 0) (c_mk l Z a0 hw [] (.ref b135) (.ref b155) .null q1 q2 q3 q4 h169 n0 f173 rfl rfl rfl) hZ (hw _ (List.mem_of_getElem? (i := 33) rfl)) (hw _ (List.mem_of_getElem? (i := 32) rfl)) (by decide) (by decide)) (g := (mkF m 119 #[.val (.long q1), .second, .val (.long q2), .second, .val (.long q3), .second, .val (.long q4), .second, .val (.int p5), .val (.int p6), .val (.ref b125), .val (.ref b135), .val (.int (p6.toInt8.toInt32)), .val (.int (((p6.toUInt32 >>> ((8 : Int32) &&& 31).toUInt32).toInt32).toInt8.toInt32)), .val (.ref b155), .val (.int (0 : Int32)), .val .null, .unset, .unset, .unset, .unset] [(.long q4), (.long q3), (.long q2), (.long q1), .null, (.ref b155), (.ref b135)])) rfl (by rw [hml]; rfl) (argsL := [(.ref b135), (.ref b155), .null, (.long q1), (.long q2), (.long q3), (.long q4)]) (rest := []) (lenOf pd_175 rfl) rfl (by show 2 * 0 + _ ≤ _; exact Nat.le_of_eq rfl) (hb hby at_119) (fun _ _ => ⟨rfl, e169, (by decide : 4 + 1 ≤ _), (by decide : 10 + 8 ≤ _)⟩)
    dsimp only [Pt.U, Pt.locs, Pt.cells, Pt.slots] at X174 l174 y174 z174 st174 hQ174
    subst l174 y174 z174
    obtain ⟨x174, rfl, Nq174, Kq174, zq174, Eq174, Fq174_0, Fq174_1, Fq174_2, Fq174_3, Fq174_4, Fq174_5, Fq174_6, Fq174_7⟩ := hQ174
    have f177 := (((f157.ext E155).other W166 ne156).other W169 ne156)
    have ne176 : b125 ≠ x174 := Nat.ne_of_lt (Nat.lt_of_lt_of_le f177.lt zq174)
    have f179 := (((f159.ext E155).wr W166).wr W169)
    have ne178 : b135 ≠ x174 := Nat.ne_of_lt (Nat.lt_of_lt_of_le f179.lt zq174)
    have f181 := (((Aq147.ext E155).other W166 ne160).other W169 ne160)
    have ne180 : t147 ≠ x174 := Nat.ne_of_lt (Nat.lt_of_lt_of_le f181.lt zq174)
    have ne182 : b155 ≠ x174 := Nat.ne_of_lt (Nat.lt_of_lt_of_le V170.lt zq174)
    have g183 : n0 ≤ x174 := Nat.le_trans f173 zq174
    have f185 := (((f164.ext E155).wr W166 (Or.inr z163)).wr W169 (Or.inr z163))
    have z184 : h0.size ≤ x174 := Nat.le_trans f185.1 zq174
    have N186 := Fr.app N171 Nq174
    refine ownBy st174 ?_
    show ownG p.tables e below _ (T174.setTop (mkF m 122 #[.val (.long q1), .second, .val (.long q2), .second, .val (.long q3), .second, .val (.long q4), .second, .val (.int p5), .val (.int p6), .val (.ref b125), .val (.ref b135), .val (.int (p6.toInt8.toInt32)), .val (.int (((p6.toUInt32 >>> ((8 : Int32) &&& 31).toUInt32).toInt32).toInt8.toInt32)), .val (.ref b155), .val (.int (0 : Int32)), .val .null, .unset, .unset, .unset, .unset] [(.ref x174)]))
    refine ownBy (A := T174.setTop (mkF m 126 #[.val (.long q1), .second, .val (.long q2), .second, .val (.long q3), .second, .val (.long q4), .second, .val (.int p5), .val (.int p6), .val (.ref b125), .val (.ref b135), .val (.int (p6.toInt8.toInt32)), .val (.int (((p6.toUInt32 >>> ((8 : Int32) &&& 31).toUInt32).toInt32).toInt8.toInt32)), .val (.ref b155), .val (.int (0 : Int32)), .val .null, .val (.ref x174), .unset, .unset, .unset] [(.ref x174)])) (fun t kt => ?_) ?_
    · show Steps p.tables e below (T174.setTop (mkF m 122 #[.val (.long q1), .second, .val (.long q2), .second, .val (.long q3), .second, .val (.long q4), .second, .val (.int p5), .val (.int p6), .val (.ref b125), .val (.ref b135), .val (.int (p6.toInt8.toInt32)), .val (.int (((p6.toUInt32 >>> ((8 : Int32) &&& 31).toUInt32).toInt32).toInt8.toInt32)), .val (.ref b155), .val (.int (0 : Int32)), .val .null, .unset, .unset, .unset, .unset] [(.ref x174)])) t
      refine XS.astore X174.here hx rfl (hb hby at_122) rfl rfl (l' := #[.val (.long q1), .second, .val (.long q2), .second, .val (.long q3), .second, .val (.long q4), .second, .val (.int p5), .val (.int p6), .val (.ref b125), .val (.ref b135), .val (.int (p6.toInt8.toInt32)), .val (.int (((p6.toUInt32 >>> ((8 : Int32) &&& 31).toUInt32).toInt32).toInt8.toInt32)), .val (.ref b155), .val (.int (0 : Int32)), .val .null, .val (.ref x174), .unset, .unset, .unset]) rfl ?_
      show Steps p.tables e below (T174.setTop (mkF m 124 #[.val (.long q1), .second, .val (.long q2), .second, .val (.long q3), .second, .val (.long q4), .second, .val (.int p5), .val (.int p6), .val (.ref b125), .val (.ref b135), .val (.int (p6.toInt8.toInt32)), .val (.int (((p6.toUInt32 >>> ((8 : Int32) &&& 31).toUInt32).toInt32).toInt8.toInt32)), .val (.ref b155), .val (.int (0 : Int32)), .val .null, .val (.ref x174), .unset, .unset, .unset] [])) t
      refine XS.aload X174.here hx rfl (hb hby at_124) rfl rfl ?_
      exact kt
    have f187 := (Nat.le_trans f173 Kq174.1)
    obtain ⟨cq188, kq188, q188a, q188b, q188c⟩ := isOf hZ rfl Eq174
    obtain ⟨_, _, ⟨T188, L188, k188, n188⟩, -, X188, ⟨Lc188, hQ188, l188, y188, z188⟩, st188⟩ := X174.virtualBack hx (y := (⟨"com/example/sakuin/sakuin/engine/Operation", "isDelete", "()Z"⟩ : MethodName)) (z := (⟨"com/example/sakuin/sakuin/engine/Operation", "isDelete", "()Z"⟩ : MethodName)) hown (mvT hZ (hw _ (List.mem_of_getElem? (i := 56) rfl))) (mvT hZ (hw _ (List.mem_of_getElem? (i := 57) rfl))) (notFace_of_selects (args := #[]) (mvT hZ (hw _ (List.mem_of_getElem? (i := 59) rfl)))) (mvT hZ (hw _ (List.mem_of_getElem? (i := 59) rfl))) (mvT hZ (hw _ (List.mem_of_getElem? (i := 58) rfl))) (by decide) (backOf (W := 0) (c_get0 l Z a0 hw [] x174 (0 : Int32) T174.heap n0 f187 Fq174_0) hZ (hw _ (List.mem_of_getElem? (i := 60) rfl)) (hw _ (List.mem_of_getElem? (i := 32) rfl)) (by decide) (by decide)) q188a q188c (g := (mkF m 126 #[.val (.long q1), .second, .val (.long q2), .second, .val (.long q3), .second, .val (.long q4), .second, .val (.int p5), .val (.int p6), .val (.ref b125), .val (.ref b135), .val (.int (p6.toInt8.toInt32)), .val (.int (((p6.toUInt32 >>> ((8 : Int32) &&& 31).toUInt32).toInt32).toInt8.toInt32)), .val (.ref b155), .val (.int (0 : Int32)), .val .null, .val (.ref x174), .unset, .unset, .unset] [(.ref x174)])) rfl (by rw [hml]; rfl) (Steps.refl _) (argsL := []) (rest := []) (lenOf pd_189 rfl) rfl (by show 2 * 0 + _ ≤ _; exact Nat.le_of_eq rfl) (hb hby at_126) (fun _ _ => ⟨rfl, rfl, (by decide : 5 + 0 ≤ _), (by decide : 18 + 0 ≤ _)⟩)
    dsimp only [Pt.U, Pt.locs, Pt.cells, Pt.slots] at X188 l188 y188 z188 st188 hQ188
    subst l188 y188 z188
    obtain ⟨rfl, Nq188, Eq188⟩ := hQ188
    have N190 := Fr.app N186 Nq188
    refine ownSt st188 ?_
    show ownG p.tables e below _ (T188.setTop (mkF m 129 #[.val (.long q1), .second, .val (.long q2), .second, .val (.long q3), .second, .val (.long q4), .second, .val (.int p5), .val (.int p6), .val (.ref b125), .val (.ref b135), .val (.int (p6.toInt8.toInt32)), .val (.int (((p6.toUInt32 >>> ((8 : Int32) &&& 31).toUInt32).toInt32).toInt8.toInt32)), .val (.ref b155), .val (.int (0 : Int32)), .val .null, .val (.ref x174), .unset, .unset, .unset] [(.int (0 : Int32))]))
    refine ownBy (A := T188.setTop (mkF m 136 #[.val (.long q1), .second, .val (.long q2), .second, .val (.long q3), .second, .val (.long q4), .second, .val (.int p5), .val (.int p6), .val (.ref b125), .val (.ref b135), .val (.int (p6.toInt8.toInt32)), .val (.int (((p6.toUInt32 >>> ((8 : Int32) &&& 31).toUInt32).toInt32).toInt8.toInt32)), .val (.ref b155), .val (.int (0 : Int32)), .val .null, .val (.ref x174), .unset, .unset, .unset] [(.ref x174)])) (fun t kt => ?_) ?_
    · show Steps p.tables e below (T188.setTop (mkF m 129 #[.val (.long q1), .second, .val (.long q2), .second, .val (.long q3), .second, .val (.long q4), .second, .val (.int p5), .val (.int p6), .val (.ref b125), .val (.ref b135), .val (.int (p6.toInt8.toInt32)), .val (.int (((p6.toUInt32 >>> ((8 : Int32) &&& 31).toUInt32).toInt32).toInt8.toInt32)), .val (.ref b155), .val (.int (0 : Int32)), .val .null, .val (.ref x174), .unset, .unset, .unset] [(.int (0 : Int32))])) t
      refine XS.ifYes X188.here hx rfl (pc0 := 129) (pc' := 134) rfl (hb hby at_129) rfl ((if0 _ _).trans (teq ((by decide) : (0 : Int32) = (0 : Int32))).1) (by decide) (by decide) ?_
      show Steps p.tables e below (T188.setTop (mkF m 134 #[.val (.long q1), .second, .val (.long q2), .second, .val (.long q3), .second, .val (.long q4), .second, .val (.int p5), .val (.int p6), .val (.ref b125), .val (.ref b135), .val (.int (p6.toInt8.toInt32)), .val (.int (((p6.toUInt32 >>> ((8 : Int32) &&& 31).toUInt32).toInt32).toInt8.toInt32)), .val (.ref b155), .val (.int (0 : Int32)), .val .null, .val (.ref x174), .unset, .unset, .unset] [])) t
      refine XS.aload X188.here hx rfl (hb hby at_134) rfl rfl ?_
      exact kt
    obtain ⟨cq191, kq191, q191a, q191b, q191c⟩ := isOf hZ Eq188 Eq174
    obtain ⟨_, _, ⟨T191, L191, k191, n191⟩, -, X191, ⟨Lc191, hQ191, l191, y191, z191⟩, st191⟩ := X188.virtualBack hx (y := (⟨"com/example/sakuin/sakuin/engine/Operation", "id", "()Ljava/lang/String;"⟩ : MethodName)) (z := (⟨"com/example/sakuin/sakuin/engine/Operation", "id", "()Ljava/lang/String;"⟩ : MethodName)) hown (mvT hZ (hw _ (List.mem_of_getElem? (i := 61) rfl))) (mvT hZ (hw _ (List.mem_of_getElem? (i := 62) rfl))) (notFace_of_selects (args := #[]) (mvT hZ (hw _ (List.mem_of_getElem? (i := 64) rfl)))) (mvT hZ (hw _ (List.mem_of_getElem? (i := 64) rfl))) (mvT hZ (hw _ (List.mem_of_getElem? (i := 63) rfl))) (by decide) (backOf (W := 0) (c_get1 l Z a0 hw [] x174 (.ref b135) T174.heap n0 f187 Fq174_1 rfl) hZ (hw _ (List.mem_of_getElem? (i := 65) rfl)) (hw _ (List.mem_of_getElem? (i := 32) rfl)) (by decide) (by decide)) q191a q191c (g := (mkF m 136 #[.val (.long q1), .second, .val (.long q2), .second, .val (.long q3), .second, .val (.long q4), .second, .val (.int p5), .val (.int p6), .val (.ref b125), .val (.ref b135), .val (.int (p6.toInt8.toInt32)), .val (.int (((p6.toUInt32 >>> ((8 : Int32) &&& 31).toUInt32).toInt32).toInt8.toInt32)), .val (.ref b155), .val (.int (0 : Int32)), .val .null, .val (.ref x174), .unset, .unset, .unset] [(.ref x174)])) rfl (by rw [hml]; rfl) (Steps.refl _) (argsL := []) (rest := []) (lenOf pd_192 rfl) rfl (by show 2 * 0 + _ ≤ _; exact Nat.le_of_eq rfl) (hb hby at_136) (fun _ _ => ⟨rfl, Eq188, (by decide : 5 + 0 ≤ _), (by decide : 18 + 0 ≤ _)⟩)
    dsimp only [Pt.U, Pt.locs, Pt.cells, Pt.slots] at X191 l191 y191 z191 st191 hQ191
    subst l191 y191 z191
    obtain ⟨rfl, Nq191, Eq191⟩ := hQ191
    have N193 := Fr.app N190 Nq191
    refine ownSt st191 ?_
    show ownG p.tables e below _ (T191.setTop (mkF m 139 #[.val (.long q1), .second, .val (.long q2), .second, .val (.long q3), .second, .val (.long q4), .second, .val (.int p5), .val (.int p6), .val (.ref b125), .val (.ref b135), .val (.int (p6.toInt8.toInt32)), .val (.int (((p6.toUInt32 >>> ((8 : Int32) &&& 31).toUInt32).toInt32).toInt8.toInt32)), .val (.ref b155), .val (.int (0 : Int32)), .val .null, .val (.ref x174), .unset, .unset, .unset] [(.ref b135)]))
    refine ownBy (A := T191.setTop (mkF m 150 #[.val (.long q1), .second, .val (.long q2), .second, .val (.long q3), .second, .val (.long q4), .second, .val (.int p5), .val (.int p6), .val (.ref b125), .val (.ref b135), .val (.int (p6.toInt8.toInt32)), .val (.int (((p6.toUInt32 >>> ((8 : Int32) &&& 31).toUInt32).toInt32).toInt8.toInt32)), .val (.ref b155), .val (.int (0 : Int32)), .val .null, .val (.ref x174), .val (.ref b135), .unset, .unset] [(.ref b135), (.ref b135)])) (fun t kt => ?_) ?_
    · show Steps p.tables e below (T191.setTop (mkF m 139 #[.val (.long q1), .second, .val (.long q2), .second, .val (.long q3), .second, .val (.long q4), .second, .val (.int p5), .val (.int p6), .val (.ref b125), .val (.ref b135), .val (.int (p6.toInt8.toInt32)), .val (.int (((p6.toUInt32 >>> ((8 : Int32) &&& 31).toUInt32).toInt32).toInt8.toInt32)), .val (.ref b155), .val (.int (0 : Int32)), .val .null, .val (.ref x174), .unset, .unset, .unset] [(.ref b135)])) t
      refine XS.astore X191.here hx rfl (hb hby at_139) rfl rfl (l' := #[.val (.long q1), .second, .val (.long q2), .second, .val (.long q3), .second, .val (.long q4), .second, .val (.int p5), .val (.int p6), .val (.ref b125), .val (.ref b135), .val (.int (p6.toInt8.toInt32)), .val (.int (((p6.toUInt32 >>> ((8 : Int32) &&& 31).toUInt32).toInt32).toInt8.toInt32)), .val (.ref b155), .val (.int (0 : Int32)), .val .null, .val (.ref x174), .val (.ref b135), .unset, .unset]) rfl ?_
      show Steps p.tables e below (T191.setTop (mkF m 141 #[.val (.long q1), .second, .val (.long q2), .second, .val (.long q3), .second, .val (.long q4), .second, .val (.int p5), .val (.int p6), .val (.ref b125), .val (.ref b135), .val (.int (p6.toInt8.toInt32)), .val (.int (((p6.toUInt32 >>> ((8 : Int32) &&& 31).toUInt32).toInt32).toInt8.toInt32)), .val (.ref b155), .val (.int (0 : Int32)), .val .null, .val (.ref x174), .val (.ref b135), .unset, .unset] [])) t
      refine XS.aload X191.here hx rfl (hb hby at_141) rfl rfl ?_
      show Steps p.tables e below (T191.setTop (mkF m 143 #[.val (.long q1), .second, .val (.long q2), .second, .val (.long q3), .second, .val (.long q4), .second, .val (.int p5), .val (.int p6), .val (.ref b125), .val (.ref b135), .val (.int (p6.toInt8.toInt32)), .val (.int (((p6.toUInt32 >>> ((8 : Int32) &&& 31).toUInt32).toInt32).toInt8.toInt32)), .val (.ref b155), .val (.int (0 : Int32)), .val .null, .val (.ref x174), .val (.ref b135), .unset, .unset] [(.ref b135)])) t
      refine XS.ifnullNo X191.here hx rfl (hb hby at_143) rfl ?_
      show Steps p.tables e below (T191.setTop (mkF m 146 #[.val (.long q1), .second, .val (.long q2), .second, .val (.long q3), .second, .val (.long q4), .second, .val (.int p5), .val (.int p6), .val (.ref b125), .val (.ref b135), .val (.int (p6.toInt8.toInt32)), .val (.int (((p6.toUInt32 >>> ((8 : Int32) &&& 31).toUInt32).toInt32).toInt8.toInt32)), .val (.ref b155), .val (.int (0 : Int32)), .val .null, .val (.ref x174), .val (.ref b135), .unset, .unset] [])) t
      refine XS.aload X191.here hx rfl (hb hby at_146) rfl rfl ?_
      show Steps p.tables e below (T191.setTop (mkF m 148 #[.val (.long q1), .second, .val (.long q2), .second, .val (.long q3), .second, .val (.long q4), .second, .val (.int p5), .val (.int p6), .val (.ref b125), .val (.ref b135), .val (.int (p6.toInt8.toInt32)), .val (.int (((p6.toUInt32 >>> ((8 : Int32) &&& 31).toUInt32).toInt32).toInt8.toInt32)), .val (.ref b155), .val (.int (0 : Int32)), .val .null, .val (.ref x174), .val (.ref b135), .unset, .unset] [(.ref b135)])) t
      refine XS.aload X191.here hx rfl (hb hby at_148) rfl rfl ?_
      exact kt
    have f196 := (f179.keep Kq174)
    obtain ⟨cq194, kq194, q194a, q194b, q194c⟩ := isOf hZ Eq191 f196
    obtain ⟨_, _, ⟨T194, L194, k194, n194⟩, -, X194, ⟨Lc194, hQ194, l194, y194, z194⟩, st194⟩ := X191.virtualBack hx (y := (⟨"java/lang/String", "equals", "(Ljava/lang/Object;)Z"⟩ : MethodName)) (z := (⟨"java/lang/String", "equals", "(Ljava/lang/Object;)Z"⟩ : MethodName)) hown (mvT hZ (hw _ (List.mem_of_getElem? (i := 66) rfl))) (mvT hZ (hw _ (List.mem_of_getElem? (i := 67) rfl))) (notFace_of_selects (args := #[]) (mvT hZ (hw _ (List.mem_of_getElem? (i := 69) rfl)))) (mvT hZ (hw _ (List.mem_of_getElem? (i := 69) rfl))) (mvT hZ (hw _ (List.mem_of_getElem? (i := 68) rfl))) (by decide) (backOf (W := 0) (c_eqs l Z a0 hw [] b135 T174.heap n0 f187 ) hZ (hw _ (List.mem_of_getElem? (i := 70) rfl)) (hw _ (List.mem_of_getElem? (i := 3) rfl)) (by decide) (by decide)) q194a q194c (g := (mkF m 150 #[.val (.long q1), .second, .val (.long q2), .second, .val (.long q3), .second, .val (.long q4), .second, .val (.int p5), .val (.int p6), .val (.ref b125), .val (.ref b135), .val (.int (p6.toInt8.toInt32)), .val (.int (((p6.toUInt32 >>> ((8 : Int32) &&& 31).toUInt32).toInt32).toInt8.toInt32)), .val (.ref b155), .val (.int (0 : Int32)), .val .null, .val (.ref x174), .val (.ref b135), .unset, .unset] [(.ref b135), (.ref b135)])) rfl (by rw [hml]; rfl) (Steps.refl _) (argsL := [(.ref b135)]) (rest := []) (lenOf pd_195 rfl) rfl (by show 2 * 0 + _ ≤ _; exact Nat.le_of_eq rfl) (hb hby at_150) (fun _ _ => ⟨rfl, Eq191, (by decide : 5 + 0 ≤ _), (by decide : 18 + 0 ≤ _)⟩)
    dsimp only [Pt.U, Pt.locs, Pt.cells, Pt.slots] at X194 l194 y194 z194 st194 hQ194
    subst l194 y194 z194
    obtain ⟨rfl, Nq194, Eq194⟩ := hQ194
    have N197 := Fr.app N193 Nq194
    refine ownSt st194 ?_
    show ownG p.tables e below _ (T194.setTop (mkF m 153 #[.val (.long q1), .second, .val (.long q2), .second, .val (.long q3), .second, .val (.long q4), .second, .val (.int p5), .val (.int p6), .val (.ref b125), .val (.ref b135), .val (.int (p6.toInt8.toInt32)), .val (.int (((p6.toUInt32 >>> ((8 : Int32) &&& 31).toUInt32).toInt32).toInt8.toInt32)), .val (.ref b155), .val (.int (0 : Int32)), .val .null, .val (.ref x174), .val (.ref b135), .unset, .unset] [(.int (1 : Int32))]))
    refine ownBy (A := T194.setTop (mkF m 160 #[.val (.long q1), .second, .val (.long q2), .second, .val (.long q3), .second, .val (.long q4), .second, .val (.int p5), .val (.int p6), .val (.ref b125), .val (.ref b135), .val (.int (p6.toInt8.toInt32)), .val (.int (((p6.toUInt32 >>> ((8 : Int32) &&& 31).toUInt32).toInt32).toInt8.toInt32)), .val (.ref b155), .val (.int (0 : Int32)), .val .null, .val (.ref x174), .val (.ref b135), .unset, .unset] [(.ref x174)])) (fun t kt => ?_) ?_
    · show Steps p.tables e below (T194.setTop (mkF m 153 #[.val (.long q1), .second, .val (.long q2), .second, .val (.long q3), .second, .val (.long q4), .second, .val (.int p5), .val (.int p6), .val (.ref b125), .val (.ref b135), .val (.int (p6.toInt8.toInt32)), .val (.int (((p6.toUInt32 >>> ((8 : Int32) &&& 31).toUInt32).toInt32).toInt8.toInt32)), .val (.ref b155), .val (.int (0 : Int32)), .val .null, .val (.ref x174), .val (.ref b135), .unset, .unset] [(.int (1 : Int32))])) t
      refine XS.ifYes X194.here hx rfl (pc0 := 153) (pc' := 158) rfl (hb hby at_153) rfl ((if0 _ _).trans (feq ((by decide) : ¬ ((1 : Int32) = (0 : Int32)))).2) (by decide) (by decide) ?_
      show Steps p.tables e below (T194.setTop (mkF m 158 #[.val (.long q1), .second, .val (.long q2), .second, .val (.long q3), .second, .val (.long q4), .second, .val (.int p5), .val (.int p6), .val (.ref b125), .val (.ref b135), .val (.int (p6.toInt8.toInt32)), .val (.int (((p6.toUInt32 >>> ((8 : Int32) &&& 31).toUInt32).toInt32).toInt8.toInt32)), .val (.ref b155), .val (.int (0 : Int32)), .val .null, .val (.ref x174), .val (.ref b135), .unset, .unset] [])) t
      refine XS.aload X194.here hx rfl (hb hby at_158) rfl rfl ?_
      exact kt
    obtain ⟨cq198, kq198, q198a, q198b, q198c⟩ := isOf hZ Eq194 Eq174
    obtain ⟨_, _, ⟨T198, L198, k198, n198⟩, -, X198, ⟨Lc198, hQ198, l198, y198, z198⟩, st198⟩ := X194.virtualBack hx (y := (⟨"com/example/sakuin/sakuin/engine/Operation", "source", "()[B"⟩ : MethodName)) (z := (⟨"com/example/sakuin/sakuin/engine/Operation", "source", "()[B"⟩ : MethodName)) hown (mvT hZ (hw _ (List.mem_of_getElem? (i := 71) rfl))) (mvT hZ (hw _ (List.mem_of_getElem? (i := 72) rfl))) (notFace_of_selects (args := #[]) (mvT hZ (hw _ (List.mem_of_getElem? (i := 74) rfl)))) (mvT hZ (hw _ (List.mem_of_getElem? (i := 74) rfl))) (mvT hZ (hw _ (List.mem_of_getElem? (i := 73) rfl))) (by decide) (backOf (W := 0) (c_get2 l Z a0 hw [] x174 (.ref b155) T174.heap n0 f187 Fq174_2 rfl) hZ (hw _ (List.mem_of_getElem? (i := 75) rfl)) (hw _ (List.mem_of_getElem? (i := 32) rfl)) (by decide) (by decide)) q198a q198c (g := (mkF m 160 #[.val (.long q1), .second, .val (.long q2), .second, .val (.long q3), .second, .val (.long q4), .second, .val (.int p5), .val (.int p6), .val (.ref b125), .val (.ref b135), .val (.int (p6.toInt8.toInt32)), .val (.int (((p6.toUInt32 >>> ((8 : Int32) &&& 31).toUInt32).toInt32).toInt8.toInt32)), .val (.ref b155), .val (.int (0 : Int32)), .val .null, .val (.ref x174), .val (.ref b135), .unset, .unset] [(.ref x174)])) rfl (by rw [hml]; rfl) (Steps.refl _) (argsL := []) (rest := []) (lenOf pd_199 rfl) rfl (by show 2 * 0 + _ ≤ _; exact Nat.le_of_eq rfl) (hb hby at_160) (fun _ _ => ⟨rfl, Eq194, (by decide : 5 + 0 ≤ _), (by decide : 18 + 0 ≤ _)⟩)
    dsimp only [Pt.U, Pt.locs, Pt.cells, Pt.slots] at X198 l198 y198 z198 st198 hQ198
    subst l198 y198 z198
    obtain ⟨rfl, Nq198, Eq198⟩ := hQ198
    have N200 := Fr.app N197 Nq198
    refine ownSt st198 ?_
    show ownG p.tables e below _ (T198.setTop (mkF m 163 #[.val (.long q1), .second, .val (.long q2), .second, .val (.long q3), .second, .val (.long q4), .second, .val (.int p5), .val (.int p6), .val (.ref b125), .val (.ref b135), .val (.int (p6.toInt8.toInt32)), .val (.int (((p6.toUInt32 >>> ((8 : Int32) &&& 31).toUInt32).toInt32).toInt8.toInt32)), .val (.ref b155), .val (.int (0 : Int32)), .val .null, .val (.ref x174), .val (.ref b135), .unset, .unset] [(.ref b155)]))
    refine ownBy (A := T198.setTop (mkF m 177 #[.val (.long q1), .second, .val (.long q2), .second, .val (.long q3), .second, .val (.long q4), .second, .val (.int p5), .val (.int p6), .val (.ref b125), .val (.ref b135), .val (.int (p6.toInt8.toInt32)), .val (.int (((p6.toUInt32 >>> ((8 : Int32) &&& 31).toUInt32).toInt32).toInt8.toInt32)), .val (.ref b155), .val (.int (0 : Int32)), .val .null, .val (.ref x174), .val (.ref b135), .val (.ref b155), .unset] [(.int (0 : Int32)), (.ref b155)])) (fun t kt => ?_) ?_
    · show Steps p.tables e below (T198.setTop (mkF m 163 #[.val (.long q1), .second, .val (.long q2), .second, .val (.long q3), .second, .val (.long q4), .second, .val (.int p5), .val (.int p6), .val (.ref b125), .val (.ref b135), .val (.int (p6.toInt8.toInt32)), .val (.int (((p6.toUInt32 >>> ((8 : Int32) &&& 31).toUInt32).toInt32).toInt8.toInt32)), .val (.ref b155), .val (.int (0 : Int32)), .val .null, .val (.ref x174), .val (.ref b135), .unset, .unset] [(.ref b155)])) t
      refine XS.astore X198.here hx rfl (hb hby at_163) rfl rfl (l' := #[.val (.long q1), .second, .val (.long q2), .second, .val (.long q3), .second, .val (.long q4), .second, .val (.int p5), .val (.int p6), .val (.ref b125), .val (.ref b135), .val (.int (p6.toInt8.toInt32)), .val (.int (((p6.toUInt32 >>> ((8 : Int32) &&& 31).toUInt32).toInt32).toInt8.toInt32)), .val (.ref b155), .val (.int (0 : Int32)), .val .null, .val (.ref x174), .val (.ref b135), .val (.ref b155), .unset]) rfl ?_
      show Steps p.tables e below (T198.setTop (mkF m 165 #[.val (.long q1), .second, .val (.long q2), .second, .val (.long q3), .second, .val (.long q4), .second, .val (.int p5), .val (.int p6), .val (.ref b125), .val (.ref b135), .val (.int (p6.toInt8.toInt32)), .val (.int (((p6.toUInt32 >>> ((8 : Int32) &&& 31).toUInt32).toInt32).toInt8.toInt32)), .val (.ref b155), .val (.int (0 : Int32)), .val .null, .val (.ref x174), .val (.ref b135), .val (.ref b155), .unset] [])) t
      refine XS.aload X198.here hx rfl (hb hby at_165) rfl rfl ?_
      show Steps p.tables e below (T198.setTop (mkF m 167 #[.val (.long q1), .second, .val (.long q2), .second, .val (.long q3), .second, .val (.long q4), .second, .val (.int p5), .val (.int p6), .val (.ref b125), .val (.ref b135), .val (.int (p6.toInt8.toInt32)), .val (.int (((p6.toUInt32 >>> ((8 : Int32) &&& 31).toUInt32).toInt32).toInt8.toInt32)), .val (.ref b155), .val (.int (0 : Int32)), .val .null, .val (.ref x174), .val (.ref b135), .val (.ref b155), .unset] [(.ref b155)])) t
      refine XS.aload X198.here hx rfl (hb hby at_167) rfl rfl ?_
      show Steps p.tables e below (T198.setTop (mkF m 169 #[.val (.long q1), .second, .val (.long q2), .second, .val (.long q3), .second, .val (.long q4), .second, .val (.int p5), .val (.int p6), .val (.ref b125), .val (.ref b135), .val (.int (p6.toInt8.toInt32)), .val (.int (((p6.toUInt32 >>> ((8 : Int32) &&& 31).toUInt32).toInt32).toInt8.toInt32)), .val (.ref b155), .val (.int (0 : Int32)), .val .null, .val (.ref x174), .val (.ref b135), .val (.ref b155), .unset] [(.ref b155), (.ref b155)])) t
      refine Jvm.RoadKit.acmp (g := (mkF m 169 #[.val (.long q1), .second, .val (.long q2), .second, .val (.long q3), .second, .val (.long q4), .second, .val (.int p5), .val (.int p6), .val (.ref b125), .val (.ref b135), .val (.int (p6.toInt8.toInt32)), .val (.int (((p6.toUInt32 >>> ((8 : Int32) &&& 31).toUInt32).toInt32).toInt8.toInt32)), .val (.ref b155), .val (.int (0 : Int32)), .val .null, .val (.ref x174), .val (.ref b135), .val (.ref b155), .unset] [(.ref b155), (.ref b155)])) X198 hx rfl rfl rfl (pc0 := 169) (pc' := 174) (same := true) rfl (hb hby at_169) rfl (decide_eq_true rfl) (by decide) (by decide) ?_
      show Steps p.tables e below (T198.setTop (mkF m 174 #[.val (.long q1), .second, .val (.long q2), .second, .val (.long q3), .second, .val (.long q4), .second, .val (.int p5), .val (.int p6), .val (.ref b125), .val (.ref b135), .val (.int (p6.toInt8.toInt32)), .val (.int (((p6.toUInt32 >>> ((8 : Int32) &&& 31).toUInt32).toInt32).toInt8.toInt32)), .val (.ref b155), .val (.int (0 : Int32)), .val .null, .val (.ref x174), .val (.ref b135), .val (.ref b155), .unset] [])) t
      refine XS.aload X198.here hx rfl (hb hby at_174) rfl rfl ?_
      show Steps p.tables e below (T198.setTop (mkF m 176 #[.val (.long q1), .second, .val (.long q2), .second, .val (.long q3), .second, .val (.long q4), .second, .val (.int p5), .val (.int p6), .val (.ref b125), .val (.ref b135), .val (.int (p6.toInt8.toInt32)), .val (.int (((p6.toUInt32 >>> ((8 : Int32) &&& 31).toUInt32).toInt32).toInt8.toInt32)), .val (.ref b155), .val (.int (0 : Int32)), .val .null, .val (.ref x174), .val (.ref b135), .val (.ref b155), .unset] [(.ref b155)])) t
      refine XS.iconst X198.here hx rfl (hb hby at_176) ?_
      exact kt
    have f201 := (V170.keep Kq174 nin0)
    obtain ⟨cl202, Ar202, q202, S202, N202, H202, G202⟩ := id f201
    have hin202 : ¬ ((0 : Int32) < 0 ∨ cl202.slots.size ≤ ((0 : Int32)).toNatClampNeg) := inb_of S202 ⟨by decide, by decide⟩
    have hat202 : cl202.slots[((0 : Int32)).toNatClampNeg]? = some (.int (nar .byte (p6.toInt8.toInt32))) := H202.at hin202 rfl
    have st202 := X198.baloadBytes hx (j := (0 : Int32)) (v := (.int (nar .byte (p6.toInt8.toInt32)))) (by rw [Eq198]; exact Ar202.1) (State.isArrayOf_alike hZ.alike Ar202.2.1) Ar202.2.2 hin202 hat202 (g := (mkF m 177 #[.val (.long q1), .second, .val (.long q2), .second, .val (.long q3), .second, .val (.long q4), .second, .val (.int p5), .val (.int p6), .val (.ref b125), .val (.ref b135), .val (.int (p6.toInt8.toInt32)), .val (.int (((p6.toUInt32 >>> ((8 : Int32) &&& 31).toUInt32).toInt32).toInt8.toInt32)), .val (.ref b155), .val (.int (0 : Int32)), .val .null, .val (.ref x174), .val (.ref b135), .val (.ref b155), .unset] [(.int (0 : Int32)), (.ref b155)])) rfl rfl (hb hby at_177)
    refine ownBy st202 ?_
    show ownG p.tables e below _ (T198.setTop (mkF m 178 #[.val (.long q1), .second, .val (.long q2), .second, .val (.long q3), .second, .val (.long q4), .second, .val (.int p5), .val (.int p6), .val (.ref b125), .val (.ref b135), .val (.int (p6.toInt8.toInt32)), .val (.int (((p6.toUInt32 >>> ((8 : Int32) &&& 31).toUInt32).toInt32).toInt8.toInt32)), .val (.ref b155), .val (.int (0 : Int32)), .val .null, .val (.ref x174), .val (.ref b135), .val (.ref b155), .unset] [(.int (nar .byte (p6.toInt8.toInt32)))]))
    refine ownBy (A := T198.setTop (mkF m 186 #[.val (.long q1), .second, .val (.long q2), .second, .val (.long q3), .second, .val (.long q4), .second, .val (.int p5), .val (.int p6), .val (.ref b125), .val (.ref b135), .val (.int (p6.toInt8.toInt32)), .val (.int (((p6.toUInt32 >>> ((8 : Int32) &&& 31).toUInt32).toInt32).toInt8.toInt32)), .val (.ref b155), .val (.int (0 : Int32)), .val .null, .val (.ref x174), .val (.ref b135), .val (.ref b155), .unset] [(.int (1 : Int32)), (.ref b155)])) (fun t kt => ?_) ?_
    · show Steps p.tables e below (T198.setTop (mkF m 178 #[.val (.long q1), .second, .val (.long q2), .second, .val (.long q3), .second, .val (.long q4), .second, .val (.int p5), .val (.int p6), .val (.ref b125), .val (.ref b135), .val (.int (p6.toInt8.toInt32)), .val (.int (((p6.toUInt32 >>> ((8 : Int32) &&& 31).toUInt32).toInt32).toInt8.toInt32)), .val (.ref b155), .val (.int (0 : Int32)), .val .null, .val (.ref x174), .val (.ref b135), .val (.ref b155), .unset] [(.int (nar .byte (p6.toInt8.toInt32)))])) t
      refine XS.iload X198.here hx rfl (hb hby at_178) rfl ?_
      show Steps p.tables e below (T198.setTop (mkF m 180 #[.val (.long q1), .second, .val (.long q2), .second, .val (.long q3), .second, .val (.long q4), .second, .val (.int p5), .val (.int p6), .val (.ref b125), .val (.ref b135), .val (.int (p6.toInt8.toInt32)), .val (.int (((p6.toUInt32 >>> ((8 : Int32) &&& 31).toUInt32).toInt32).toInt8.toInt32)), .val (.ref b155), .val (.int (0 : Int32)), .val .null, .val (.ref x174), .val (.ref b135), .val (.ref b155), .unset] [(.int (p6.toInt8.toInt32)), (.int (nar .byte (p6.toInt8.toInt32)))])) t
      refine XS.icmpNo X198.here hx rfl (hb hby at_180) rfl (teq (own_nar_byte _)).2 ?_
      show Steps p.tables e below (T198.setTop (mkF m 183 #[.val (.long q1), .second, .val (.long q2), .second, .val (.long q3), .second, .val (.long q4), .second, .val (.int p5), .val (.int p6), .val (.ref b125), .val (.ref b135), .val (.int (p6.toInt8.toInt32)), .val (.int (((p6.toUInt32 >>> ((8 : Int32) &&& 31).toUInt32).toInt32).toInt8.toInt32)), .val (.ref b155), .val (.int (0 : Int32)), .val .null, .val (.ref x174), .val (.ref b135), .val (.ref b155), .unset] [])) t
      refine XS.aload X198.here hx rfl (hb hby at_183) rfl rfl ?_
      show Steps p.tables e below (T198.setTop (mkF m 185 #[.val (.long q1), .second, .val (.long q2), .second, .val (.long q3), .second, .val (.long q4), .second, .val (.int p5), .val (.int p6), .val (.ref b125), .val (.ref b135), .val (.int (p6.toInt8.toInt32)), .val (.int (((p6.toUInt32 >>> ((8 : Int32) &&& 31).toUInt32).toInt32).toInt8.toInt32)), .val (.ref b155), .val (.int (0 : Int32)), .val .null, .val (.ref x174), .val (.ref b135), .val (.ref b155), .unset] [(.ref b155)])) t
      refine XS.iconst X198.here hx rfl (hb hby at_185) ?_
      exact kt
    obtain ⟨cl203, Ar203, q203, S203, N203, H203, G203⟩ := id f201
    have hin203 : ¬ ((1 : Int32) < 0 ∨ cl203.slots.size ≤ ((1 : Int32)).toNatClampNeg) := inb_of S203 ⟨by decide, by decide⟩
    have hat203 : cl203.slots[((1 : Int32)).toNatClampNeg]? = some (.int (nar .byte (((p6.toUInt32 >>> ((8 : Int32) &&& 31).toUInt32).toInt32).toInt8.toInt32))) := H203.at hin203 rfl
    have st203 := X198.baloadBytes hx (j := (1 : Int32)) (v := (.int (nar .byte (((p6.toUInt32 >>> ((8 : Int32) &&& 31).toUInt32).toInt32).toInt8.toInt32)))) (by rw [Eq198]; exact Ar203.1) (State.isArrayOf_alike hZ.alike Ar203.2.1) Ar203.2.2 hin203 hat203 (g := (mkF m 186 #[.val (.long q1), .second, .val (.long q2), .second, .val (.long q3), .second, .val (.long q4), .second, .val (.int p5), .val (.int p6), .val (.ref b125), .val (.ref b135), .val (.int (p6.toInt8.toInt32)), .val (.int (((p6.toUInt32 >>> ((8 : Int32) &&& 31).toUInt32).toInt32).toInt8.toInt32)), .val (.ref b155), .val (.int (0 : Int32)), .val .null, .val (.ref x174), .val (.ref b135), .val (.ref b155), .unset] [(.int (1 : Int32)), (.ref b155)])) rfl rfl (hb hby at_186)
    refine ownBy st203 ?_
    show ownG p.tables e below _ (T198.setTop (mkF m 187 #[.val (.long q1), .second, .val (.long q2), .second, .val (.long q3), .second, .val (.long q4), .second, .val (.int p5), .val (.int p6), .val (.ref b125), .val (.ref b135), .val (.int (p6.toInt8.toInt32)), .val (.int (((p6.toUInt32 >>> ((8 : Int32) &&& 31).toUInt32).toInt32).toInt8.toInt32)), .val (.ref b155), .val (.int (0 : Int32)), .val .null, .val (.ref x174), .val (.ref b135), .val (.ref b155), .unset] [(.int (nar .byte (((p6.toUInt32 >>> ((8 : Int32) &&& 31).toUInt32).toInt32).toInt8.toInt32)))]))
    refine ownBy (A := T198.setTop (mkF m 196 #[.val (.long q1), .second, .val (.long q2), .second, .val (.long q3), .second, .val (.long q4), .second, .val (.int p5), .val (.int p6), .val (.ref b125), .val (.ref b135), .val (.int (p6.toInt8.toInt32)), .val (.int (((p6.toUInt32 >>> ((8 : Int32) &&& 31).toUInt32).toInt32).toInt8.toInt32)), .val (.ref b155), .val (.int (0 : Int32)), .val .null, .val (.ref x174), .val (.ref b135), .val (.ref b155), .unset] [(.ref x174)])) (fun t kt => ?_) ?_
    · show Steps p.tables e below (T198.setTop (mkF m 187 #[.val (.long q1), .second, .val (.long q2), .second, .val (.long q3), .second, .val (.long q4), .second, .val (.int p5), .val (.int p6), .val (.ref b125), .val (.ref b135), .val (.int (p6.toInt8.toInt32)), .val (.int (((p6.toUInt32 >>> ((8 : Int32) &&& 31).toUInt32).toInt32).toInt8.toInt32)), .val (.ref b155), .val (.int (0 : Int32)), .val .null, .val (.ref x174), .val (.ref b135), .val (.ref b155), .unset] [(.int (nar .byte (((p6.toUInt32 >>> ((8 : Int32) &&& 31).toUInt32).toInt32).toInt8.toInt32)))])) t
      refine XS.iload X198.here hx rfl (hb hby at_187) rfl ?_
      show Steps p.tables e below (T198.setTop (mkF m 189 #[.val (.long q1), .second, .val (.long q2), .second, .val (.long q3), .second, .val (.long q4), .second, .val (.int p5), .val (.int p6), .val (.ref b125), .val (.ref b135), .val (.int (p6.toInt8.toInt32)), .val (.int (((p6.toUInt32 >>> ((8 : Int32) &&& 31).toUInt32).toInt32).toInt8.toInt32)), .val (.ref b155), .val (.int (0 : Int32)), .val .null, .val (.ref x174), .val (.ref b135), .val (.ref b155), .unset] [(.int (((p6.toUInt32 >>> ((8 : Int32) &&& 31).toUInt32).toInt32).toInt8.toInt32)), (.int (nar .byte (((p6.toUInt32 >>> ((8 : Int32) &&& 31).toUInt32).toInt32).toInt8.toInt32)))])) t
      refine XS.icmpYes X198.here hx rfl (pc0 := 189) (pc' := 194) rfl (hb hby at_189) rfl (teq (own_nar_byte _)).1 (by decide) (by decide) ?_
      show Steps p.tables e below (T198.setTop (mkF m 194 #[.val (.long q1), .second, .val (.long q2), .second, .val (.long q3), .second, .val (.long q4), .second, .val (.int p5), .val (.int p6), .val (.ref b125), .val (.ref b135), .val (.int (p6.toInt8.toInt32)), .val (.int (((p6.toUInt32 >>> ((8 : Int32) &&& 31).toUInt32).toInt32).toInt8.toInt32)), .val (.ref b155), .val (.int (0 : Int32)), .val .null, .val (.ref x174), .val (.ref b135), .val (.ref b155), .unset] [])) t
      refine XS.aload X198.here hx rfl (hb hby at_194) rfl rfl ?_
      exact kt
    obtain ⟨cq204, kq204, q204a, q204b, q204c⟩ := isOf hZ Eq198 Eq174
    obtain ⟨_, _, ⟨T204, L204, k204, n204⟩, -, X204, ⟨Lc204, hQ204, l204, y204, z204⟩, st204⟩ := X198.virtualBack hx (y := (⟨"com/example/sakuin/sakuin/engine/Operation", "routing", "()Ljava/lang/String;"⟩ : MethodName)) (z := (⟨"com/example/sakuin/sakuin/engine/Operation", "routing", "()Ljava/lang/String;"⟩ : MethodName)) hown (mvT hZ (hw _ (List.mem_of_getElem? (i := 76) rfl))) (mvT hZ (hw _ (List.mem_of_getElem? (i := 77) rfl))) (notFace_of_selects (args := #[]) (mvT hZ (hw _ (List.mem_of_getElem? (i := 79) rfl)))) (mvT hZ (hw _ (List.mem_of_getElem? (i := 79) rfl))) (mvT hZ (hw _ (List.mem_of_getElem? (i := 78) rfl))) (by decide) (backOf (W := 0) (c_get3 l Z a0 hw [] x174 .null T174.heap n0 f187 Fq174_3 rfl) hZ (hw _ (List.mem_of_getElem? (i := 80) rfl)) (hw _ (List.mem_of_getElem? (i := 32) rfl)) (by decide) (by decide)) q204a q204c (g := (mkF m 196 #[.val (.long q1), .second, .val (.long q2), .second, .val (.long q3), .second, .val (.long q4), .second, .val (.int p5), .val (.int p6), .val (.ref b125), .val (.ref b135), .val (.int (p6.toInt8.toInt32)), .val (.int (((p6.toUInt32 >>> ((8 : Int32) &&& 31).toUInt32).toInt32).toInt8.toInt32)), .val (.ref b155), .val (.int (0 : Int32)), .val .null, .val (.ref x174), .val (.ref b135), .val (.ref b155), .unset] [(.ref x174)])) rfl (by rw [hml]; rfl) (Steps.refl _) (argsL := []) (rest := []) (lenOf pd_192 rfl) rfl (by show 2 * 0 + _ ≤ _; exact Nat.le_of_eq rfl) (hb hby at_196) (fun _ _ => ⟨rfl, Eq198, (by decide : 5 + 0 ≤ _), (by decide : 18 + 0 ≤ _)⟩)
    dsimp only [Pt.U, Pt.locs, Pt.cells, Pt.slots] at X204 l204 y204 z204 st204 hQ204
    subst l204 y204 z204
    obtain ⟨rfl, Nq204, Eq204⟩ := hQ204
    have N205 := Fr.app N200 Nq204
    refine ownSt st204 ?_
    show ownG p.tables e below _ (T204.setTop (mkF m 199 #[.val (.long q1), .second, .val (.long q2), .second, .val (.long q3), .second, .val (.long q4), .second, .val (.int p5), .val (.int p6), .val (.ref b125), .val (.ref b135), .val (.int (p6.toInt8.toInt32)), .val (.int (((p6.toUInt32 >>> ((8 : Int32) &&& 31).toUInt32).toInt32).toInt8.toInt32)), .val (.ref b155), .val (.int (0 : Int32)), .val .null, .val (.ref x174), .val (.ref b135), .val (.ref b155), .unset] [.null]))
    refine ownBy (A := T204.setTop (mkF m 232 #[.val (.long q1), .second, .val (.long q2), .second, .val (.long q3), .second, .val (.long q4), .second, .val (.int p5), .val (.int p6), .val (.ref b125), .val (.ref b135), .val (.int (p6.toInt8.toInt32)), .val (.int (((p6.toUInt32 >>> ((8 : Int32) &&& 31).toUInt32).toInt32).toInt8.toInt32)), .val (.ref b155), .val (.int (0 : Int32)), .val .null, .val (.ref x174), .val (.ref b135), .val (.ref b155), .val .null] [(.ref x174)])) (fun t kt => ?_) ?_
    · show Steps p.tables e below (T204.setTop (mkF m 199 #[.val (.long q1), .second, .val (.long q2), .second, .val (.long q3), .second, .val (.long q4), .second, .val (.int p5), .val (.int p6), .val (.ref b125), .val (.ref b135), .val (.int (p6.toInt8.toInt32)), .val (.int (((p6.toUInt32 >>> ((8 : Int32) &&& 31).toUInt32).toInt32).toInt8.toInt32)), .val (.ref b155), .val (.int (0 : Int32)), .val .null, .val (.ref x174), .val (.ref b135), .val (.ref b155), .unset] [.null])) t
      refine XS.astore X204.here hx rfl (hb hby at_199) rfl rfl (l' := #[.val (.long q1), .second, .val (.long q2), .second, .val (.long q3), .second, .val (.long q4), .second, .val (.int p5), .val (.int p6), .val (.ref b125), .val (.ref b135), .val (.int (p6.toInt8.toInt32)), .val (.int (((p6.toUInt32 >>> ((8 : Int32) &&& 31).toUInt32).toInt32).toInt8.toInt32)), .val (.ref b155), .val (.int (0 : Int32)), .val .null, .val (.ref x174), .val (.ref b135), .val (.ref b155), .val .null]) rfl ?_
      show Steps p.tables e below (T204.setTop (mkF m 201 #[.val (.long q1), .second, .val (.long q2), .second, .val (.long q3), .second, .val (.long q4), .second, .val (.int p5), .val (.int p6), .val (.ref b125), .val (.ref b135), .val (.int (p6.toInt8.toInt32)), .val (.int (((p6.toUInt32 >>> ((8 : Int32) &&& 31).toUInt32).toInt32).toInt8.toInt32)), .val (.ref b155), .val (.int (0 : Int32)), .val .null, .val (.ref x174), .val (.ref b135), .val (.ref b155), .val .null] [])) t
      refine XS.iload X204.here hx rfl (hb hby at_201) rfl ?_
      show Steps p.tables e below (T204.setTop (mkF m 203 #[.val (.long q1), .second, .val (.long q2), .second, .val (.long q3), .second, .val (.long q4), .second, .val (.int p5), .val (.int p6), .val (.ref b125), .val (.ref b135), .val (.int (p6.toInt8.toInt32)), .val (.int (((p6.toUInt32 >>> ((8 : Int32) &&& 31).toUInt32).toInt32).toInt8.toInt32)), .val (.ref b155), .val (.int (0 : Int32)), .val .null, .val (.ref x174), .val (.ref b135), .val (.ref b155), .val .null] [(.int (0 : Int32))])) t
      refine XS.ifYes X204.here hx rfl (pc0 := 203) (pc' := 223) rfl (hb hby at_203) rfl ((if0 _ _).trans (teq ((by decide) : (0 : Int32) = (0 : Int32))).1) (by decide) (by decide) ?_
      show Steps p.tables e below (T204.setTop (mkF m 223 #[.val (.long q1), .second, .val (.long q2), .second, .val (.long q3), .second, .val (.long q4), .second, .val (.int p5), .val (.int p6), .val (.ref b125), .val (.ref b135), .val (.int (p6.toInt8.toInt32)), .val (.int (((p6.toUInt32 >>> ((8 : Int32) &&& 31).toUInt32).toInt32).toInt8.toInt32)), .val (.ref b155), .val (.int (0 : Int32)), .val .null, .val (.ref x174), .val (.ref b135), .val (.ref b155), .val .null] [])) t
      refine XS.aload X204.here hx rfl (hb hby at_223) rfl rfl ?_
      show Steps p.tables e below (T204.setTop (mkF m 225 #[.val (.long q1), .second, .val (.long q2), .second, .val (.long q3), .second, .val (.long q4), .second, .val (.int p5), .val (.int p6), .val (.ref b125), .val (.ref b135), .val (.int (p6.toInt8.toInt32)), .val (.int (((p6.toUInt32 >>> ((8 : Int32) &&& 31).toUInt32).toInt32).toInt8.toInt32)), .val (.ref b155), .val (.int (0 : Int32)), .val .null, .val (.ref x174), .val (.ref b135), .val (.ref b155), .val .null] [.null])) t
      refine XS.ifnullYes X204.here hx rfl (pc0 := 225) (pc' := 230) rfl (hb hby at_225) rfl (by decide) (by decide) ?_
      show Steps p.tables e below (T204.setTop (mkF m 230 #[.val (.long q1), .second, .val (.long q2), .second, .val (.long q3), .second, .val (.long q4), .second, .val (.int p5), .val (.int p6), .val (.ref b125), .val (.ref b135), .val (.int (p6.toInt8.toInt32)), .val (.int (((p6.toUInt32 >>> ((8 : Int32) &&& 31).toUInt32).toInt32).toInt8.toInt32)), .val (.ref b155), .val (.int (0 : Int32)), .val .null, .val (.ref x174), .val (.ref b135), .val (.ref b155), .val .null] [])) t
      refine XS.aload X204.here hx rfl (hb hby at_230) rfl rfl ?_
      exact kt
    obtain ⟨cq206, kq206, q206a, q206b, q206c⟩ := isOf hZ Eq204 Eq174
    obtain ⟨_, _, ⟨T206, L206, k206, n206⟩, -, X206, ⟨Lc206, hQ206, l206, y206, z206⟩, st206⟩ := X204.virtualBack hx (y := (⟨"com/example/sakuin/sakuin/engine/Operation", "version", "()J"⟩ : MethodName)) (z := (⟨"com/example/sakuin/sakuin/engine/Operation", "version", "()J"⟩ : MethodName)) hown (mvT hZ (hw _ (List.mem_of_getElem? (i := 81) rfl))) (mvT hZ (hw _ (List.mem_of_getElem? (i := 82) rfl))) (notFace_of_selects (args := #[]) (mvT hZ (hw _ (List.mem_of_getElem? (i := 84) rfl)))) (mvT hZ (hw _ (List.mem_of_getElem? (i := 84) rfl))) (mvT hZ (hw _ (List.mem_of_getElem? (i := 83) rfl))) (by decide) (backOf (W := 0) (c_get4 l Z a0 hw [] x174 q1 T174.heap n0 f187 Fq174_4) hZ (hw _ (List.mem_of_getElem? (i := 85) rfl)) (hw _ (List.mem_of_getElem? (i := 32) rfl)) (by decide) (by decide)) q206a q206c (g := (mkF m 232 #[.val (.long q1), .second, .val (.long q2), .second, .val (.long q3), .second, .val (.long q4), .second, .val (.int p5), .val (.int p6), .val (.ref b125), .val (.ref b135), .val (.int (p6.toInt8.toInt32)), .val (.int (((p6.toUInt32 >>> ((8 : Int32) &&& 31).toUInt32).toInt32).toInt8.toInt32)), .val (.ref b155), .val (.int (0 : Int32)), .val .null, .val (.ref x174), .val (.ref b135), .val (.ref b155), .val .null] [(.ref x174)])) rfl (by rw [hml]; rfl) (Steps.refl _) (argsL := []) (rest := []) (lenOf pd_207 rfl) rfl (by show 2 * 0 + _ ≤ _; exact Nat.le_of_eq rfl) (hb hby at_232) (fun _ _ => ⟨rfl, Eq204, (by decide : 5 + 0 ≤ _), (by decide : 18 + 0 ≤ _)⟩)
    dsimp only [Pt.U, Pt.locs, Pt.cells, Pt.slots] at X206 l206 y206 z206 st206 hQ206
    subst l206 y206 z206
    obtain ⟨rfl, Nq206, Eq206⟩ := hQ206
    have N208 := Fr.app N205 Nq206
    refine ownSt st206 ?_
    show ownG p.tables e below _ (T206.setTop (mkF m 235 #[.val (.long q1), .second, .val (.long q2), .second, .val (.long q3), .second, .val (.long q4), .second, .val (.int p5), .val (.int p6), .val (.ref b125), .val (.ref b135), .val (.int (p6.toInt8.toInt32)), .val (.int (((p6.toUInt32 >>> ((8 : Int32) &&& 31).toUInt32).toInt32).toInt8.toInt32)), .val (.ref b155), .val (.int (0 : Int32)), .val .null, .val (.ref x174), .val (.ref b135), .val (.ref b155), .val .null] [(.long q1)]))
    refine ownBy (A := T206.setTop (mkF m 242 #[.val (.long q1), .second, .val (.long q2), .second, .val (.long q3), .second, .val (.long q4), .second, .val (.int p5), .val (.int p6), .val (.ref b125), .val (.ref b135), .val (.int (p6.toInt8.toInt32)), .val (.int (((p6.toUInt32 >>> ((8 : Int32) &&& 31).toUInt32).toInt32).toInt8.toInt32)), .val (.ref b155), .val (.int (0 : Int32)), .val .null, .val (.ref x174), .val (.ref b135), .val (.ref b155), .val .null] [(.ref x174)])) (fun t kt => ?_) ?_
    · show Steps p.tables e below (T206.setTop (mkF m 235 #[.val (.long q1), .second, .val (.long q2), .second, .val (.long q3), .second, .val (.long q4), .second, .val (.int p5), .val (.int p6), .val (.ref b125), .val (.ref b135), .val (.int (p6.toInt8.toInt32)), .val (.int (((p6.toUInt32 >>> ((8 : Int32) &&& 31).toUInt32).toInt32).toInt8.toInt32)), .val (.ref b155), .val (.int (0 : Int32)), .val .null, .val (.ref x174), .val (.ref b135), .val (.ref b155), .val .null] [(.long q1)])) t
      refine XS.lloadN X206.here hx rfl (hb hby at_235) rfl ?_
      show Steps p.tables e below (T206.setTop (mkF m 236 #[.val (.long q1), .second, .val (.long q2), .second, .val (.long q3), .second, .val (.long q4), .second, .val (.int p5), .val (.int p6), .val (.ref b125), .val (.ref b135), .val (.int (p6.toInt8.toInt32)), .val (.int (((p6.toUInt32 >>> ((8 : Int32) &&& 31).toUInt32).toInt32).toInt8.toInt32)), .val (.ref b155), .val (.int (0 : Int32)), .val .null, .val (.ref x174), .val (.ref b135), .val (.ref b155), .val .null] [(.long q1), (.long q1)])) t
      refine XS.lcmp X206.here hx rfl (hb hby at_236) rfl ?_
      show Steps p.tables e below (T206.setTop (mkF m 237 #[.val (.long q1), .second, .val (.long q2), .second, .val (.long q3), .second, .val (.long q4), .second, .val (.int p5), .val (.int p6), .val (.ref b125), .val (.ref b135), .val (.int (p6.toInt8.toInt32)), .val (.int (((p6.toUInt32 >>> ((8 : Int32) &&& 31).toUInt32).toInt32).toInt8.toInt32)), .val (.ref b155), .val (.int (0 : Int32)), .val .null, .val (.ref x174), .val (.ref b135), .val (.ref b155), .val .null] [(.int (lcmpW q1 q1))])) t
      refine XS.ifNo X206.here hx rfl (hb hby at_237) rfl ((if0 _ _).trans (teq (own_lcmp_self q1)).2) ?_
      show Steps p.tables e below (T206.setTop (mkF m 240 #[.val (.long q1), .second, .val (.long q2), .second, .val (.long q3), .second, .val (.long q4), .second, .val (.int p5), .val (.int p6), .val (.ref b125), .val (.ref b135), .val (.int (p6.toInt8.toInt32)), .val (.int (((p6.toUInt32 >>> ((8 : Int32) &&& 31).toUInt32).toInt32).toInt8.toInt32)), .val (.ref b155), .val (.int (0 : Int32)), .val .null, .val (.ref x174), .val (.ref b135), .val (.ref b155), .val .null] [])) t
      refine XS.aload X206.here hx rfl (hb hby at_240) rfl rfl ?_
      exact kt
    obtain ⟨cq209, kq209, q209a, q209b, q209c⟩ := isOf hZ Eq206 Eq174
    obtain ⟨_, _, ⟨T209, L209, k209, n209⟩, -, X209, ⟨Lc209, hQ209, l209, y209, z209⟩, st209⟩ := X206.virtualBack hx (y := (⟨"com/example/sakuin/sakuin/engine/Operation", "seqNo", "()J"⟩ : MethodName)) (z := (⟨"com/example/sakuin/sakuin/engine/Operation", "seqNo", "()J"⟩ : MethodName)) hown (mvT hZ (hw _ (List.mem_of_getElem? (i := 86) rfl))) (mvT hZ (hw _ (List.mem_of_getElem? (i := 87) rfl))) (notFace_of_selects (args := #[]) (mvT hZ (hw _ (List.mem_of_getElem? (i := 89) rfl)))) (mvT hZ (hw _ (List.mem_of_getElem? (i := 89) rfl))) (mvT hZ (hw _ (List.mem_of_getElem? (i := 88) rfl))) (by decide) (backOf (W := 0) (c_get5 l Z a0 hw [] x174 q2 T174.heap n0 f187 Fq174_5) hZ (hw _ (List.mem_of_getElem? (i := 90) rfl)) (hw _ (List.mem_of_getElem? (i := 32) rfl)) (by decide) (by decide)) q209a q209c (g := (mkF m 242 #[.val (.long q1), .second, .val (.long q2), .second, .val (.long q3), .second, .val (.long q4), .second, .val (.int p5), .val (.int p6), .val (.ref b125), .val (.ref b135), .val (.int (p6.toInt8.toInt32)), .val (.int (((p6.toUInt32 >>> ((8 : Int32) &&& 31).toUInt32).toInt32).toInt8.toInt32)), .val (.ref b155), .val (.int (0 : Int32)), .val .null, .val (.ref x174), .val (.ref b135), .val (.ref b155), .val .null] [(.ref x174)])) rfl (by rw [hml]; rfl) (Steps.refl _) (argsL := []) (rest := []) (lenOf pd_207 rfl) rfl (by show 2 * 0 + _ ≤ _; exact Nat.le_of_eq rfl) (hb hby at_242) (fun _ _ => ⟨rfl, Eq206, (by decide : 5 + 0 ≤ _), (by decide : 18 + 0 ≤ _)⟩)
    dsimp only [Pt.U, Pt.locs, Pt.cells, Pt.slots] at X209 l209 y209 z209 st209 hQ209
    subst l209 y209 z209
    obtain ⟨rfl, Nq209, Eq209⟩ := hQ209
    have N210 := Fr.app N208 Nq209
    refine ownSt st209 ?_
    show ownG p.tables e below _ (T209.setTop (mkF m 245 #[.val (.long q1), .second, .val (.long q2), .second, .val (.long q3), .second, .val (.long q4), .second, .val (.int p5), .val (.int p6), .val (.ref b125), .val (.ref b135), .val (.int (p6.toInt8.toInt32)), .val (.int (((p6.toUInt32 >>> ((8 : Int32) &&& 31).toUInt32).toInt32).toInt8.toInt32)), .val (.ref b155), .val (.int (0 : Int32)), .val .null, .val (.ref x174), .val (.ref b135), .val (.ref b155), .val .null] [(.long q2)]))
    refine ownBy (A := T209.setTop (mkF m 252 #[.val (.long q1), .second, .val (.long q2), .second, .val (.long q3), .second, .val (.long q4), .second, .val (.int p5), .val (.int p6), .val (.ref b125), .val (.ref b135), .val (.int (p6.toInt8.toInt32)), .val (.int (((p6.toUInt32 >>> ((8 : Int32) &&& 31).toUInt32).toInt32).toInt8.toInt32)), .val (.ref b155), .val (.int (0 : Int32)), .val .null, .val (.ref x174), .val (.ref b135), .val (.ref b155), .val .null] [(.ref x174)])) (fun t kt => ?_) ?_
    · show Steps p.tables e below (T209.setTop (mkF m 245 #[.val (.long q1), .second, .val (.long q2), .second, .val (.long q3), .second, .val (.long q4), .second, .val (.int p5), .val (.int p6), .val (.ref b125), .val (.ref b135), .val (.int (p6.toInt8.toInt32)), .val (.int (((p6.toUInt32 >>> ((8 : Int32) &&& 31).toUInt32).toInt32).toInt8.toInt32)), .val (.ref b155), .val (.int (0 : Int32)), .val .null, .val (.ref x174), .val (.ref b135), .val (.ref b155), .val .null] [(.long q2)])) t
      refine XS.lloadN X209.here hx rfl (hb hby at_245) rfl ?_
      show Steps p.tables e below (T209.setTop (mkF m 246 #[.val (.long q1), .second, .val (.long q2), .second, .val (.long q3), .second, .val (.long q4), .second, .val (.int p5), .val (.int p6), .val (.ref b125), .val (.ref b135), .val (.int (p6.toInt8.toInt32)), .val (.int (((p6.toUInt32 >>> ((8 : Int32) &&& 31).toUInt32).toInt32).toInt8.toInt32)), .val (.ref b155), .val (.int (0 : Int32)), .val .null, .val (.ref x174), .val (.ref b135), .val (.ref b155), .val .null] [(.long q2), (.long q2)])) t
      refine XS.lcmp X209.here hx rfl (hb hby at_246) rfl ?_
      show Steps p.tables e below (T209.setTop (mkF m 247 #[.val (.long q1), .second, .val (.long q2), .second, .val (.long q3), .second, .val (.long q4), .second, .val (.int p5), .val (.int p6), .val (.ref b125), .val (.ref b135), .val (.int (p6.toInt8.toInt32)), .val (.int (((p6.toUInt32 >>> ((8 : Int32) &&& 31).toUInt32).toInt32).toInt8.toInt32)), .val (.ref b155), .val (.int (0 : Int32)), .val .null, .val (.ref x174), .val (.ref b135), .val (.ref b155), .val .null] [(.int (lcmpW q2 q2))])) t
      refine XS.ifNo X209.here hx rfl (hb hby at_247) rfl ((if0 _ _).trans (teq (own_lcmp_self q2)).2) ?_
      show Steps p.tables e below (T209.setTop (mkF m 250 #[.val (.long q1), .second, .val (.long q2), .second, .val (.long q3), .second, .val (.long q4), .second, .val (.int p5), .val (.int p6), .val (.ref b125), .val (.ref b135), .val (.int (p6.toInt8.toInt32)), .val (.int (((p6.toUInt32 >>> ((8 : Int32) &&& 31).toUInt32).toInt32).toInt8.toInt32)), .val (.ref b155), .val (.int (0 : Int32)), .val .null, .val (.ref x174), .val (.ref b135), .val (.ref b155), .val .null] [])) t
      refine XS.aload X209.here hx rfl (hb hby at_250) rfl rfl ?_
      exact kt
    obtain ⟨cq211, kq211, q211a, q211b, q211c⟩ := isOf hZ Eq209 Eq174
    obtain ⟨_, _, ⟨T211, L211, k211, n211⟩, -, X211, ⟨Lc211, hQ211, l211, y211, z211⟩, st211⟩ := X209.virtualBack hx (y := (⟨"com/example/sakuin/sakuin/engine/Operation", "primaryTerm", "()J"⟩ : MethodName)) (z := (⟨"com/example/sakuin/sakuin/engine/Operation", "primaryTerm", "()J"⟩ : MethodName)) hown (mvT hZ (hw _ (List.mem_of_getElem? (i := 91) rfl))) (mvT hZ (hw _ (List.mem_of_getElem? (i := 92) rfl))) (notFace_of_selects (args := #[]) (mvT hZ (hw _ (List.mem_of_getElem? (i := 94) rfl)))) (mvT hZ (hw _ (List.mem_of_getElem? (i := 94) rfl))) (mvT hZ (hw _ (List.mem_of_getElem? (i := 93) rfl))) (by decide) (backOf (W := 0) (c_get6 l Z a0 hw [] x174 q3 T174.heap n0 f187 Fq174_6) hZ (hw _ (List.mem_of_getElem? (i := 95) rfl)) (hw _ (List.mem_of_getElem? (i := 32) rfl)) (by decide) (by decide)) q211a q211c (g := (mkF m 252 #[.val (.long q1), .second, .val (.long q2), .second, .val (.long q3), .second, .val (.long q4), .second, .val (.int p5), .val (.int p6), .val (.ref b125), .val (.ref b135), .val (.int (p6.toInt8.toInt32)), .val (.int (((p6.toUInt32 >>> ((8 : Int32) &&& 31).toUInt32).toInt32).toInt8.toInt32)), .val (.ref b155), .val (.int (0 : Int32)), .val .null, .val (.ref x174), .val (.ref b135), .val (.ref b155), .val .null] [(.ref x174)])) rfl (by rw [hml]; rfl) (Steps.refl _) (argsL := []) (rest := []) (lenOf pd_207 rfl) rfl (by show 2 * 0 + _ ≤ _; exact Nat.le_of_eq rfl) (hb hby at_252) (fun _ _ => ⟨rfl, Eq209, (by decide : 5 + 0 ≤ _), (by decide : 18 + 0 ≤ _)⟩)
    dsimp only [Pt.U, Pt.locs, Pt.cells, Pt.slots] at X211 l211 y211 z211 st211 hQ211
    subst l211 y211 z211
    obtain ⟨rfl, Nq211, Eq211⟩ := hQ211
    have N212 := Fr.app N210 Nq211
    refine ownSt st211 ?_
    show ownG p.tables e below _ (T211.setTop (mkF m 255 #[.val (.long q1), .second, .val (.long q2), .second, .val (.long q3), .second, .val (.long q4), .second, .val (.int p5), .val (.int p6), .val (.ref b125), .val (.ref b135), .val (.int (p6.toInt8.toInt32)), .val (.int (((p6.toUInt32 >>> ((8 : Int32) &&& 31).toUInt32).toInt32).toInt8.toInt32)), .val (.ref b155), .val (.int (0 : Int32)), .val .null, .val (.ref x174), .val (.ref b135), .val (.ref b155), .val .null] [(.long q3)]))
    refine ownBy (A := T211.setTop (mkF m 263 #[.val (.long q1), .second, .val (.long q2), .second, .val (.long q3), .second, .val (.long q4), .second, .val (.int p5), .val (.int p6), .val (.ref b125), .val (.ref b135), .val (.int (p6.toInt8.toInt32)), .val (.int (((p6.toUInt32 >>> ((8 : Int32) &&& 31).toUInt32).toInt32).toInt8.toInt32)), .val (.ref b155), .val (.int (0 : Int32)), .val .null, .val (.ref x174), .val (.ref b135), .val (.ref b155), .val .null] [(.ref x174)])) (fun t kt => ?_) ?_
    · show Steps p.tables e below (T211.setTop (mkF m 255 #[.val (.long q1), .second, .val (.long q2), .second, .val (.long q3), .second, .val (.long q4), .second, .val (.int p5), .val (.int p6), .val (.ref b125), .val (.ref b135), .val (.int (p6.toInt8.toInt32)), .val (.int (((p6.toUInt32 >>> ((8 : Int32) &&& 31).toUInt32).toInt32).toInt8.toInt32)), .val (.ref b155), .val (.int (0 : Int32)), .val .null, .val (.ref x174), .val (.ref b135), .val (.ref b155), .val .null] [(.long q3)])) t
      refine XS.lload X211.here hx rfl (hb hby at_255) rfl ?_
      show Steps p.tables e below (T211.setTop (mkF m 257 #[.val (.long q1), .second, .val (.long q2), .second, .val (.long q3), .second, .val (.long q4), .second, .val (.int p5), .val (.int p6), .val (.ref b125), .val (.ref b135), .val (.int (p6.toInt8.toInt32)), .val (.int (((p6.toUInt32 >>> ((8 : Int32) &&& 31).toUInt32).toInt32).toInt8.toInt32)), .val (.ref b155), .val (.int (0 : Int32)), .val .null, .val (.ref x174), .val (.ref b135), .val (.ref b155), .val .null] [(.long q3), (.long q3)])) t
      refine XS.lcmp X211.here hx rfl (hb hby at_257) rfl ?_
      show Steps p.tables e below (T211.setTop (mkF m 258 #[.val (.long q1), .second, .val (.long q2), .second, .val (.long q3), .second, .val (.long q4), .second, .val (.int p5), .val (.int p6), .val (.ref b125), .val (.ref b135), .val (.int (p6.toInt8.toInt32)), .val (.int (((p6.toUInt32 >>> ((8 : Int32) &&& 31).toUInt32).toInt32).toInt8.toInt32)), .val (.ref b155), .val (.int (0 : Int32)), .val .null, .val (.ref x174), .val (.ref b135), .val (.ref b155), .val .null] [(.int (lcmpW q3 q3))])) t
      refine XS.ifNo X211.here hx rfl (hb hby at_258) rfl ((if0 _ _).trans (teq (own_lcmp_self q3)).2) ?_
      show Steps p.tables e below (T211.setTop (mkF m 261 #[.val (.long q1), .second, .val (.long q2), .second, .val (.long q3), .second, .val (.long q4), .second, .val (.int p5), .val (.int p6), .val (.ref b125), .val (.ref b135), .val (.int (p6.toInt8.toInt32)), .val (.int (((p6.toUInt32 >>> ((8 : Int32) &&& 31).toUInt32).toInt32).toInt8.toInt32)), .val (.ref b155), .val (.int (0 : Int32)), .val .null, .val (.ref x174), .val (.ref b135), .val (.ref b155), .val .null] [])) t
      refine XS.aload X211.here hx rfl (hb hby at_261) rfl rfl ?_
      exact kt
    obtain ⟨cq213, kq213, q213a, q213b, q213c⟩ := isOf hZ Eq211 Eq174
    obtain ⟨_, _, ⟨T213, L213, k213, n213⟩, -, X213, ⟨Lc213, hQ213, l213, y213, z213⟩, st213⟩ := X211.virtualBack hx (y := (⟨"com/example/sakuin/sakuin/engine/Operation", "time", "()J"⟩ : MethodName)) (z := (⟨"com/example/sakuin/sakuin/engine/Operation", "time", "()J"⟩ : MethodName)) hown (mvT hZ (hw _ (List.mem_of_getElem? (i := 96) rfl))) (mvT hZ (hw _ (List.mem_of_getElem? (i := 97) rfl))) (notFace_of_selects (args := #[]) (mvT hZ (hw _ (List.mem_of_getElem? (i := 99) rfl)))) (mvT hZ (hw _ (List.mem_of_getElem? (i := 99) rfl))) (mvT hZ (hw _ (List.mem_of_getElem? (i := 98) rfl))) (by decide) (backOf (W := 0) (c_get7 l Z a0 hw [] x174 q4 T174.heap n0 f187 Fq174_7) hZ (hw _ (List.mem_of_getElem? (i := 100) rfl)) (hw _ (List.mem_of_getElem? (i := 32) rfl)) (by decide) (by decide)) q213a q213c (g := (mkF m 263 #[.val (.long q1), .second, .val (.long q2), .second, .val (.long q3), .second, .val (.long q4), .second, .val (.int p5), .val (.int p6), .val (.ref b125), .val (.ref b135), .val (.int (p6.toInt8.toInt32)), .val (.int (((p6.toUInt32 >>> ((8 : Int32) &&& 31).toUInt32).toInt32).toInt8.toInt32)), .val (.ref b155), .val (.int (0 : Int32)), .val .null, .val (.ref x174), .val (.ref b135), .val (.ref b155), .val .null] [(.ref x174)])) rfl (by rw [hml]; rfl) (Steps.refl _) (argsL := []) (rest := []) (lenOf pd_207 rfl) rfl (by show 2 * 0 + _ ≤ _; exact Nat.le_of_eq rfl) (hb hby at_263) (fun _ _ => ⟨rfl, Eq211, (by decide : 5 + 0 ≤ _), (by decide : 18 + 0 ≤ _)⟩)
    dsimp only [Pt.U, Pt.locs, Pt.cells, Pt.slots] at X213 l213 y213 z213 st213 hQ213
    subst l213 y213 z213
    obtain ⟨rfl, Nq213, Eq213⟩ := hQ213
    have N214 := Fr.app N212 Nq213
    refine ownSt st213 ?_
    show ownG p.tables e below _ (T213.setTop (mkF m 266 #[.val (.long q1), .second, .val (.long q2), .second, .val (.long q3), .second, .val (.long q4), .second, .val (.int p5), .val (.int p6), .val (.ref b125), .val (.ref b135), .val (.int (p6.toInt8.toInt32)), .val (.int (((p6.toUInt32 >>> ((8 : Int32) &&& 31).toUInt32).toInt32).toInt8.toInt32)), .val (.ref b155), .val (.int (0 : Int32)), .val .null, .val (.ref x174), .val (.ref b135), .val (.ref b155), .val .null] [(.long q4)]))
    refine ownBy (A := T213.setTop (mkF m 277 #[.val (.long q1), .second, .val (.long q2), .second, .val (.long q3), .second, .val (.long q4), .second, .val (.int p5), .val (.int p6), .val (.ref b125), .val (.ref b135), .val (.int (p6.toInt8.toInt32)), .val (.int (((p6.toUInt32 >>> ((8 : Int32) &&& 31).toUInt32).toInt32).toInt8.toInt32)), .val (.ref b155), .val (.int (0 : Int32)), .val .null, .val (.ref x174), .val (.ref b135), .val (.ref b155), .val .null] [(.int (1 : Int32))])) (fun t kt => ?_) ?_
    · show Steps p.tables e below (T213.setTop (mkF m 266 #[.val (.long q1), .second, .val (.long q2), .second, .val (.long q3), .second, .val (.long q4), .second, .val (.int p5), .val (.int p6), .val (.ref b125), .val (.ref b135), .val (.int (p6.toInt8.toInt32)), .val (.int (((p6.toUInt32 >>> ((8 : Int32) &&& 31).toUInt32).toInt32).toInt8.toInt32)), .val (.ref b155), .val (.int (0 : Int32)), .val .null, .val (.ref x174), .val (.ref b135), .val (.ref b155), .val .null] [(.long q4)])) t
      refine XS.lload X213.here hx rfl (hb hby at_266) rfl ?_
      show Steps p.tables e below (T213.setTop (mkF m 268 #[.val (.long q1), .second, .val (.long q2), .second, .val (.long q3), .second, .val (.long q4), .second, .val (.int p5), .val (.int p6), .val (.ref b125), .val (.ref b135), .val (.int (p6.toInt8.toInt32)), .val (.int (((p6.toUInt32 >>> ((8 : Int32) &&& 31).toUInt32).toInt32).toInt8.toInt32)), .val (.ref b155), .val (.int (0 : Int32)), .val .null, .val (.ref x174), .val (.ref b135), .val (.ref b155), .val .null] [(.long q4), (.long q4)])) t
      refine XS.lcmp X213.here hx rfl (hb hby at_268) rfl ?_
      show Steps p.tables e below (T213.setTop (mkF m 269 #[.val (.long q1), .second, .val (.long q2), .second, .val (.long q3), .second, .val (.long q4), .second, .val (.int p5), .val (.int p6), .val (.ref b125), .val (.ref b135), .val (.int (p6.toInt8.toInt32)), .val (.int (((p6.toUInt32 >>> ((8 : Int32) &&& 31).toUInt32).toInt32).toInt8.toInt32)), .val (.ref b155), .val (.int (0 : Int32)), .val .null, .val (.ref x174), .val (.ref b135), .val (.ref b155), .val .null] [(.int (lcmpW q4 q4))])) t
      refine XS.ifNo X213.here hx rfl (hb hby at_269) rfl ((if0 _ _).trans (teq (own_lcmp_self q4)).2) ?_
      show Steps p.tables e below (T213.setTop (mkF m 272 #[.val (.long q1), .second, .val (.long q2), .second, .val (.long q3), .second, .val (.long q4), .second, .val (.int p5), .val (.int p6), .val (.ref b125), .val (.ref b135), .val (.int (p6.toInt8.toInt32)), .val (.int (((p6.toUInt32 >>> ((8 : Int32) &&& 31).toUInt32).toInt32).toInt8.toInt32)), .val (.ref b155), .val (.int (0 : Int32)), .val .null, .val (.ref x174), .val (.ref b135), .val (.ref b155), .val .null] [])) t
      refine XS.iconst X213.here hx rfl (hb hby at_272) ?_
      show Steps p.tables e below (T213.setTop (mkF m 273 #[.val (.long q1), .second, .val (.long q2), .second, .val (.long q3), .second, .val (.long q4), .second, .val (.int p5), .val (.int p6), .val (.ref b125), .val (.ref b135), .val (.int (p6.toInt8.toInt32)), .val (.int (((p6.toUInt32 >>> ((8 : Int32) &&& 31).toUInt32).toInt32).toInt8.toInt32)), .val (.ref b155), .val (.int (0 : Int32)), .val .null, .val (.ref x174), .val (.ref b135), .val (.ref b155), .val .null] [(.int (1 : Int32))])) t
      refine XS.goto X213.here hx rfl (pc0 := 273) (pc' := 277) rfl (hb hby at_273) (by decide) (by decide) ?_
      exact kt
    refine ownRet X213 Bd.notSynchronized (v := some (.int (nar .boolean (1 : Int32)))) (fun h => by rw [Bd.returns] at h; cases h) ?_ (Nat.le_of_ble_eq_true rfl) (Nat.le_of_ble_eq_true rfl) (fun fs hr => retN X213 hx (t := .boolean) Bd.returns (by simp) (hb hby at_277) hr)
    show (Q_law Z q1 q2 q3 q4 p5 p6 G1 h0 n0) (some (.int (nar .boolean (1 : Int32)))) T213.heap _
    rw [Eq213]
    exact ⟨rfl, N214⟩
  · skip
    refine ownBy (A := T169.setTop (mkF m 102 #[.val (.long q1), .second, .val (.long q2), .second, .val (.long q3), .second, .val (.long q4), .second, .val (.int p5), .val (.int p6), .val (.ref b125), .val (.ref b135), .val (.int (p6.toInt8.toInt32)), .val (.int (((p6.toUInt32 >>> ((8 : Int32) &&& 31).toUInt32).toInt32).toInt8.toInt32)), .val (.ref b155), .val (.int (1 : Int32)), .val .null, .unset, .unset, .unset, .unset] [(.int ((((p6.toUInt32 >>> ((16 : Int32) &&& 31).toUInt32).toInt32) &&& (255 : Int32)).toUInt32.toUInt16.toUInt32.toInt32))])) (fun t kt => ?_) ?_
    · show Steps p.tables e below (T169.setTop (mkF m 74 #[.val (.long q1), .second, .val (.long q2), .second, .val (.long q3), .second, .val (.long q4), .second, .val (.int p5), .val (.int p6), .val (.ref b125), .val (.ref b135), .val (.int (p6.toInt8.toInt32)), .val (.int (((p6.toUInt32 >>> ((8 : Int32) &&& 31).toUInt32).toInt32).toInt8.toInt32)), .val (.ref b155), .unset, .unset, .unset, .unset, .unset, .unset] [(.int (((p5.toUInt32 >>> ((16 : Int32) &&& 31).toUInt32).toInt32) &&& (1 : Int32)))])) t
      refine XS.ifNo X169.here hx rfl (hb hby at_74) rfl ((if0 _ _).trans (feq hc172).1) ?_
      show Steps p.tables e below (T169.setTop (mkF m 77 #[.val (.long q1), .second, .val (.long q2), .second, .val (.long q3), .second, .val (.long q4), .second, .val (.int p5), .val (.int p6), .val (.ref b125), .val (.ref b135), .val (.int (p6.toInt8.toInt32)), .val (.int (((p6.toUInt32 >>> ((8 : Int32) &&& 31).toUInt32).toInt32).toInt8.toInt32)), .val (.ref b155), .unset, .unset, .unset, .unset, .unset, .unset] [])) t
      refine XS.iconst X169.here hx rfl (hb hby at_77) ?_
      show Steps p.tables e below (T169.setTop (mkF m 78 #[.val (.long q1), .second, .val (.long q2), .second, .val (.long q3), .second, .val (.long q4), .second, .val (.int p5), .val (.int p6), .val (.ref b125), .val (.ref b135), .val (.int (p6.toInt8.toInt32)), .val (.int (((p6.toUInt32 >>> ((8 : Int32) &&& 31).toUInt32).toInt32).toInt8.toInt32)), .val (.ref b155), .unset, .unset, .unset, .unset, .unset, .unset] [(.int (1 : Int32))])) t
      refine XS.goto X169.here hx rfl (pc0 := 78) (pc' := 82) rfl (hb hby at_78) (by decide) (by decide) ?_
      show Steps p.tables e below (T169.setTop (mkF m 82 #[.val (.long q1), .second, .val (.long q2), .second, .val (.long q3), .second, .val (.long q4), .second, .val (.int p5), .val (.int p6), .val (.ref b125), .val (.ref b135), .val (.int (p6.toInt8.toInt32)), .val (.int (((p6.toUInt32 >>> ((8 : Int32) &&& 31).toUInt32).toInt32).toInt8.toInt32)), .val (.ref b155), .unset, .unset, .unset, .unset, .unset, .unset] [(.int (1 : Int32))])) t
      refine XS.istore X169.here hx rfl (hb hby at_82) rfl (l' := #[.val (.long q1), .second, .val (.long q2), .second, .val (.long q3), .second, .val (.long q4), .second, .val (.int p5), .val (.int p6), .val (.ref b125), .val (.ref b135), .val (.int (p6.toInt8.toInt32)), .val (.int (((p6.toUInt32 >>> ((8 : Int32) &&& 31).toUInt32).toInt32).toInt8.toInt32)), .val (.ref b155), .val (.int (1 : Int32)), .unset, .unset, .unset, .unset, .unset]) rfl ?_
      show Steps p.tables e below (T169.setTop (mkF m 84 #[.val (.long q1), .second, .val (.long q2), .second, .val (.long q3), .second, .val (.long q4), .second, .val (.int p5), .val (.int p6), .val (.ref b125), .val (.ref b135), .val (.int (p6.toInt8.toInt32)), .val (.int (((p6.toUInt32 >>> ((8 : Int32) &&& 31).toUInt32).toInt32).toInt8.toInt32)), .val (.ref b155), .val (.int (1 : Int32)), .unset, .unset, .unset, .unset, .unset] [])) t
      refine XS.aconstNull X169.here hx rfl (hb hby at_84) ?_
      show Steps p.tables e below (T169.setTop (mkF m 85 #[.val (.long q1), .second, .val (.long q2), .second, .val (.long q3), .second, .val (.long q4), .second, .val (.int p5), .val (.int p6), .val (.ref b125), .val (.ref b135), .val (.int (p6.toInt8.toInt32)), .val (.int (((p6.toUInt32 >>> ((8 : Int32) &&& 31).toUInt32).toInt32).toInt8.toInt32)), .val (.ref b155), .val (.int (1 : Int32)), .unset, .unset, .unset, .unset, .unset] [.null])) t
      refine XS.astore X169.here hx rfl (hb hby at_85) rfl rfl (l' := #[.val (.long q1), .second, .val (.long q2), .second, .val (.long q3), .second, .val (.long q4), .second, .val (.int p5), .val (.int p6), .val (.ref b125), .val (.ref b135), .val (.int (p6.toInt8.toInt32)), .val (.int (((p6.toUInt32 >>> ((8 : Int32) &&& 31).toUInt32).toInt32).toInt8.toInt32)), .val (.ref b155), .val (.int (1 : Int32)), .val .null, .unset, .unset, .unset, .unset]) rfl ?_
      show Steps p.tables e below (T169.setTop (mkF m 87 #[.val (.long q1), .second, .val (.long q2), .second, .val (.long q3), .second, .val (.long q4), .second, .val (.int p5), .val (.int p6), .val (.ref b125), .val (.ref b135), .val (.int (p6.toInt8.toInt32)), .val (.int (((p6.toUInt32 >>> ((8 : Int32) &&& 31).toUInt32).toInt32).toInt8.toInt32)), .val (.ref b155), .val (.int (1 : Int32)), .val .null, .unset, .unset, .unset, .unset] [])) t
      refine XS.iload X169.here hx rfl (hb hby at_87) rfl ?_
      show Steps p.tables e below (T169.setTop (mkF m 89 #[.val (.long q1), .second, .val (.long q2), .second, .val (.long q3), .second, .val (.long q4), .second, .val (.int p5), .val (.int p6), .val (.ref b125), .val (.ref b135), .val (.int (p6.toInt8.toInt32)), .val (.int (((p6.toUInt32 >>> ((8 : Int32) &&& 31).toUInt32).toInt32).toInt8.toInt32)), .val (.ref b155), .val (.int (1 : Int32)), .val .null, .unset, .unset, .unset, .unset] [(.int (1 : Int32))])) t
      refine XS.ifNo X169.here hx rfl (hb hby at_89) rfl ((if0 _ _).trans (feq ((by decide) : ¬ ((1 : Int32) = (0 : Int32)))).1) ?_
      show Steps p.tables e below (T169.setTop (mkF m 92 #[.val (.long q1), .second, .val (.long q2), .second, .val (.long q3), .second, .val (.long q4), .second, .val (.int p5), .val (.int p6), .val (.ref b125), .val (.ref b135), .val (.int (p6.toInt8.toInt32)), .val (.int (((p6.toUInt32 >>> ((8 : Int32) &&& 31).toUInt32).toInt32).toInt8.toInt32)), .val (.ref b155), .val (.int (1 : Int32)), .val .null, .unset, .unset, .unset, .unset] [])) t
      refine XS.iload X169.here hx rfl (hb hby at_92) rfl ?_
      show Steps p.tables e below (T169.setTop (mkF m 94 #[.val (.long q1), .second, .val (.long q2), .second, .val (.long q3), .second, .val (.long q4), .second, .val (.int p5), .val (.int p6), .val (.ref b125), .val (.ref b135), .val (.int (p6.toInt8.toInt32)), .val (.int (((p6.toUInt32 >>> ((8 : Int32) &&& 31).toUInt32).toInt32).toInt8.toInt32)), .val (.ref b155), .val (.int (1 : Int32)), .val .null, .unset, .unset, .unset, .unset] [(.int p6)])) t
      refine XS.bipush X169.here hx rfl (hb hby at_94) ?_
      show Steps p.tables e below (T169.setTop (mkF m 96 #[.val (.long q1), .second, .val (.long q2), .second, .val (.long q3), .second, .val (.long q4), .second, .val (.int p5), .val (.int p6), .val (.ref b125), .val (.ref b135), .val (.int (p6.toInt8.toInt32)), .val (.int (((p6.toUInt32 >>> ((8 : Int32) &&& 31).toUInt32).toInt32).toInt8.toInt32)), .val (.ref b155), .val (.int (1 : Int32)), .val .null, .unset, .unset, .unset, .unset] [(.int (16 : Int32)), (.int p6)])) t
      refine XS.iushr X169.here hx rfl (hb hby at_96) rfl ?_
      show Steps p.tables e below (T169.setTop (mkF m 97 #[.val (.long q1), .second, .val (.long q2), .second, .val (.long q3), .second, .val (.long q4), .second, .val (.int p5), .val (.int p6), .val (.ref b125), .val (.ref b135), .val (.int (p6.toInt8.toInt32)), .val (.int (((p6.toUInt32 >>> ((8 : Int32) &&& 31).toUInt32).toInt32).toInt8.toInt32)), .val (.ref b155), .val (.int (1 : Int32)), .val .null, .unset, .unset, .unset, .unset] [(.int ((p6.toUInt32 >>> ((16 : Int32) &&& 31).toUInt32).toInt32))])) t
      refine XS.sipush X169.here hx rfl (hb hby at_97) ?_
      show Steps p.tables e below (T169.setTop (mkF m 100 #[.val (.long q1), .second, .val (.long q2), .second, .val (.long q3), .second, .val (.long q4), .second, .val (.int p5), .val (.int p6), .val (.ref b125), .val (.ref b135), .val (.int (p6.toInt8.toInt32)), .val (.int (((p6.toUInt32 >>> ((8 : Int32) &&& 31).toUInt32).toInt32).toInt8.toInt32)), .val (.ref b155), .val (.int (1 : Int32)), .val .null, .unset, .unset, .unset, .unset] [(.int (255 : Int32)), (.int ((p6.toUInt32 >>> ((16 : Int32) &&& 31).toUInt32).toInt32))])) t
      refine XS.iand X169.here hx rfl (hb hby at_100) rfl ?_
      show Steps p.tables e below (T169.setTop (mkF m 101 #[.val (.long q1), .second, .val (.long q2), .second, .val (.long q3), .second, .val (.long q4), .second, .val (.int p5), .val (.int p6), .val (.ref b125), .val (.ref b135), .val (.int (p6.toInt8.toInt32)), .val (.int (((p6.toUInt32 >>> ((8 : Int32) &&& 31).toUInt32).toInt32).toInt8.toInt32)), .val (.ref b155), .val (.int (1 : Int32)), .val .null, .unset, .unset, .unset, .unset] [(.int (((p6.toUInt32 >>> ((16 : Int32) &&& 31).toUInt32).toInt32) &&& (255 : Int32)))])) t
      refine XS.i2c X169.here hx rfl (hb hby at_101) rfl ?_
      exact kt
    have f215 := ((((f146.keep Kq147 (allS g137 all0)).ext E155).wr W166 g161).wr W169 g161)
    have f216 := (Nat.le_trans (Nat.le_trans (Nat.le_trans f162 E155.1) (Keep.of_wr W166).1) (Keep.of_wr W169).1)
    obtain ⟨_, _, ⟨T217, L217, k217, n217⟩, -, X217, ⟨Lc217, hQ217, l217, y217, z217⟩, st217⟩ := Jvm.LawKit.callS X169 hx (y := (⟨"java/lang/String", "valueOf", "(C)Ljava/lang/String;"⟩ : MethodName)) hown (mvT hZ (hw _ (List.mem_of_getElem? (i := 101) rfl))) (mvT hZ (hw _ (List.mem_of_getElem? (i := 102) rfl))) (mvT hZ (hw _ (List.mem_of_getElem? (i := 3) rfl))) (mvT hZ (hw _ (List.mem_of_getElem? (i := 103) rfl))) (by decide) (backOf (W := 0) (c_valc l Z a0 hw [] ((((p6.toUInt32 >>> ((16 : Int32) &&& 31).toUInt32).toInt32) &&& (255 : Int32)).toUInt32.toUInt16.toUInt32.toInt32) G1 h169 n0 f216 (own_and255c ((p6.toUInt32 >>> ((16 : Int32) &&& 31).toUInt32).toInt32)) O2 P5 f215) hZ (hw _ (List.mem_of_getElem? (i := 103) rfl)) (hw _ (List.mem_of_getElem? (i := 3) rfl)) (by decide) (by decide)) (g := (mkF m 102 #[.val (.long q1), .second, .val (.long q2), .second, .val (.long q3), .second, .val (.long q4), .second, .val (.int p5), .val (.int p6), .val (.ref b125), .val (.ref b135), .val (.int (p6.toInt8.toInt32)), .val (.int (((p6.toUInt32 >>> ((8 : Int32) &&& 31).toUInt32).toInt32).toInt8.toInt32)), .val (.ref b155), .val (.int (1 : Int32)), .val .null, .unset, .unset, .unset, .unset] [(.int ((((p6.toUInt32 >>> ((16 : Int32) &&& 31).toUInt32).toInt32) &&& (255 : Int32)).toUInt32.toUInt16.toUInt32.toInt32))])) rfl (by rw [hml]; rfl) (argsL := [(.int ((((p6.toUInt32 >>> ((16 : Int32) &&& 31).toUInt32).toInt32) &&& (255 : Int32)).toUInt32.toUInt16.toUInt32.toInt32))]) (rest := []) (lenOf pd_218 rfl) rfl (by show 2 * 0 + _ ≤ _; exact Nat.le_of_eq rfl) (hb hby at_102) (fun _ _ => ⟨rfl, e169, (by decide : 4 + 2 ≤ _), (by decide : 10 + 5 ≤ _)⟩)
    dsimp only [Pt.U, Pt.locs, Pt.cells, Pt.slots] at X217 l217 y217 z217 st217 hQ217
    subst l217 y217 z217
    obtain ⟨x217, t217, kb217, rfl, Nq217, Kq217, zq217, Eq217, Vq217, Cq217, Aq217⟩ := hQ217
    have f220 := (((f157.ext E155).other W166 ne156).other W169 ne156)
    have ne219 : b125 ≠ x217 := Nat.ne_of_lt (Nat.lt_of_lt_of_le f220.lt zq217)
    have f222 := (((f159.ext E155).wr W166).wr W169)
    have ne221 : b135 ≠ x217 := Nat.ne_of_lt (Nat.lt_of_lt_of_le f222.lt zq217)
    have f224 := (((Aq147.ext E155).other W166 ne160).other W169 ne160)
    have ne223 : t147 ≠ x217 := Nat.ne_of_lt (Nat.lt_of_lt_of_le f224.lt zq217)
    have ne225 : b155 ≠ x217 := Nat.ne_of_lt (Nat.lt_of_lt_of_le V170.lt zq217)
    have g226 : n0 ≤ x217 := Nat.le_trans f216 zq217
    have f228 := (((f164.ext E155).wr W166 (Or.inr z163)).wr W169 (Or.inr z163))
    have z227 : h0.size ≤ x217 := Nat.le_trans f228.1 zq217
    have N229 := Fr.app N171 Nq217
    refine ownBy st217 ?_
    show ownG p.tables e below _ (T217.setTop (mkF m 105 #[.val (.long q1), .second, .val (.long q2), .second, .val (.long q3), .second, .val (.long q4), .second, .val (.int p5), .val (.int p6), .val (.ref b125), .val (.ref b135), .val (.int (p6.toInt8.toInt32)), .val (.int (((p6.toUInt32 >>> ((8 : Int32) &&& 31).toUInt32).toInt32).toInt8.toInt32)), .val (.ref b155), .val (.int (1 : Int32)), .val .null, .unset, .unset, .unset, .unset] [(.ref x217)]))
    refine ownBy (A := T217.setTop (mkF m 119 #[.val (.long q1), .second, .val (.long q2), .second, .val (.long q3), .second, .val (.long q4), .second, .val (.int p5), .val (.int p6), .val (.ref b125), .val (.ref b135), .val (.int (p6.toInt8.toInt32)), .val (.int (((p6.toUInt32 >>> ((8 : Int32) &&& 31).toUInt32).toInt32).toInt8.toInt32)), .val (.ref b155), .val (.int (1 : Int32)), .val (.ref x217), .unset, .unset, .unset, .unset] [(.long q4), (.long q3), (.long q2), (.long q1), (.ref x217), (.ref b155), (.ref b135)])) (fun t kt => ?_) ?_
    · show Steps p.tables e below (T217.setTop (mkF m 105 #[.val (.long q1), .second, .val (.long q2), .second, .val (.long q3), .second, .val (.long q4), .second, .val (.int p5), .val (.int p6), .val (.ref b125), .val (.ref b135), .val (.int (p6.toInt8.toInt32)), .val (.int (((p6.toUInt32 >>> ((8 : Int32) &&& 31).toUInt32).toInt32).toInt8.toInt32)), .val (.ref b155), .val (.int (1 : Int32)), .val .null, .unset, .unset, .unset, .unset] [(.ref x217)])) t
      refine XS.astore X217.here hx rfl (hb hby at_105) rfl rfl (l' := #[.val (.long q1), .second, .val (.long q2), .second, .val (.long q3), .second, .val (.long q4), .second, .val (.int p5), .val (.int p6), .val (.ref b125), .val (.ref b135), .val (.int (p6.toInt8.toInt32)), .val (.int (((p6.toUInt32 >>> ((8 : Int32) &&& 31).toUInt32).toInt32).toInt8.toInt32)), .val (.ref b155), .val (.int (1 : Int32)), .val (.ref x217), .unset, .unset, .unset, .unset]) rfl ?_
      show Steps p.tables e below (T217.setTop (mkF m 107 #[.val (.long q1), .second, .val (.long q2), .second, .val (.long q3), .second, .val (.long q4), .second, .val (.int p5), .val (.int p6), .val (.ref b125), .val (.ref b135), .val (.int (p6.toInt8.toInt32)), .val (.int (((p6.toUInt32 >>> ((8 : Int32) &&& 31).toUInt32).toInt32).toInt8.toInt32)), .val (.ref b155), .val (.int (1 : Int32)), .val (.ref x217), .unset, .unset, .unset, .unset] [])) t
      refine XS.aload X217.here hx rfl (hb hby at_107) rfl rfl ?_
      show Steps p.tables e below (T217.setTop (mkF m 109 #[.val (.long q1), .second, .val (.long q2), .second, .val (.long q3), .second, .val (.long q4), .second, .val (.int p5), .val (.int p6), .val (.ref b125), .val (.ref b135), .val (.int (p6.toInt8.toInt32)), .val (.int (((p6.toUInt32 >>> ((8 : Int32) &&& 31).toUInt32).toInt32).toInt8.toInt32)), .val (.ref b155), .val (.int (1 : Int32)), .val (.ref x217), .unset, .unset, .unset, .unset] [(.ref b135)])) t
      refine XS.aload X217.here hx rfl (hb hby at_109) rfl rfl ?_
      show Steps p.tables e below (T217.setTop (mkF m 111 #[.val (.long q1), .second, .val (.long q2), .second, .val (.long q3), .second, .val (.long q4), .second, .val (.int p5), .val (.int p6), .val (.ref b125), .val (.ref b135), .val (.int (p6.toInt8.toInt32)), .val (.int (((p6.toUInt32 >>> ((8 : Int32) &&& 31).toUInt32).toInt32).toInt8.toInt32)), .val (.ref b155), .val (.int (1 : Int32)), .val (.ref x217), .unset, .unset, .unset, .unset] [(.ref b155), (.ref b135)])) t
      refine XS.aload X217.here hx rfl (hb hby at_111) rfl rfl ?_
      show Steps p.tables e below (T217.setTop (mkF m 113 #[.val (.long q1), .second, .val (.long q2), .second, .val (.long q3), .second, .val (.long q4), .second, .val (.int p5), .val (.int p6), .val (.ref b125), .val (.ref b135), .val (.int (p6.toInt8.toInt32)), .val (.int (((p6.toUInt32 >>> ((8 : Int32) &&& 31).toUInt32).toInt32).toInt8.toInt32)), .val (.ref b155), .val (.int (1 : Int32)), .val (.ref x217), .unset, .unset, .unset, .unset] [(.ref x217), (.ref b155), (.ref b135)])) t
      refine XS.lloadN X217.here hx rfl (hb hby at_113) rfl ?_
      show Steps p.tables e below (T217.setTop (mkF m 114 #[.val (.long q1), .second, .val (.long q2), .second, .val (.long q3), .second, .val (.long q4), .second, .val (.int p5), .val (.int p6), .val (.ref b125), .val (.ref b135), .val (.int (p6.toInt8.toInt32)), .val (.int (((p6.toUInt32 >>> ((8 : Int32) &&& 31).toUInt32).toInt32).toInt8.toInt32)), .val (.ref b155), .val (.int (1 : Int32)), .val (.ref x217), .unset, .unset, .unset, .unset] [(.long q1), (.ref x217), (.ref b155), (.ref b135)])) t
      refine XS.lloadN X217.here hx rfl (hb hby at_114) rfl ?_
      show Steps p.tables e below (T217.setTop (mkF m 115 #[.val (.long q1), .second, .val (.long q2), .second, .val (.long q3), .second, .val (.long q4), .second, .val (.int p5), .val (.int p6), .val (.ref b125), .val (.ref b135), .val (.int (p6.toInt8.toInt32)), .val (.int (((p6.toUInt32 >>> ((8 : Int32) &&& 31).toUInt32).toInt32).toInt8.toInt32)), .val (.ref b155), .val (.int (1 : Int32)), .val (.ref x217), .unset, .unset, .unset, .unset] [(.long q2), (.long q1), (.ref x217), (.ref b155), (.ref b135)])) t
      refine XS.lload X217.here hx rfl (hb hby at_115) rfl ?_
      show Steps p.tables e below (T217.setTop (mkF m 117 #[.val (.long q1), .second, .val (.long q2), .second, .val (.long q3), .second, .val (.long q4), .second, .val (.int p5), .val (.int p6), .val (.ref b125), .val (.ref b135), .val (.int (p6.toInt8.toInt32)), .val (.int (((p6.toUInt32 >>> ((8 : Int32) &&& 31).toUInt32).toInt32).toInt8.toInt32)), .val (.ref b155), .val (.int (1 : Int32)), .val (.ref x217), .unset, .unset, .unset, .unset] [(.long q3), (.long q2), (.long q1), (.ref x217), (.ref b155), (.ref b135)])) t
      refine XS.lload X217.here hx rfl (hb hby at_117) rfl ?_
      exact kt
    have f230 := (Nat.le_trans f216 Kq217.1)
    obtain ⟨_, _, ⟨T231, L231, k231, n231⟩, -, X231, ⟨Lc231, hQ231, l231, y231, z231⟩, st231⟩ := Jvm.LawKit.callS X217 hx (y := (⟨"com/example/sakuin/sakuin/engine/Operation", "index", "(Ljava/lang/String;[BLjava/lang/String;JJJJ)Lcom/example/sakuin/sakuin/engine/Operation;"⟩ : MethodName)) hown (mvT hZ (hw _ (List.mem_of_getElem? (i := 30) rfl))) (mvT hZ (hw _ (List.mem_of_getElem? (i := 31) rfl))) (mvT hZ (hw _ (List.mem_of_getElem? (i := 32) rfl))) (mvT hZ (hw _ (List.mem_of_getElem? (i := 33) rfl))) (by decide) (backOf (W := 0) (c_mk l Z a0 hw [] (.ref b135) (.ref b155) (.ref x217) q1 q2 q3 q4 T217.heap n0 f230 rfl rfl rfl) hZ (hw _ (List.mem_of_getElem? (i := 33) rfl)) (hw _ (List.mem_of_getElem? (i := 32) rfl)) (by decide) (by decide)) (g := (mkF m 119 #[.val (.long q1), .second, .val (.long q2), .second, .val (.long q3), .second, .val (.long q4), .second, .val (.int p5), .val (.int p6), .val (.ref b125), .val (.ref b135), .val (.int (p6.toInt8.toInt32)), .val (.int (((p6.toUInt32 >>> ((8 : Int32) &&& 31).toUInt32).toInt32).toInt8.toInt32)), .val (.ref b155), .val (.int (1 : Int32)), .val (.ref x217), .unset, .unset, .unset, .unset] [(.long q4), (.long q3), (.long q2), (.long q1), (.ref x217), (.ref b155), (.ref b135)])) rfl (by rw [hml]; rfl) (argsL := [(.ref b135), (.ref b155), (.ref x217), (.long q1), (.long q2), (.long q3), (.long q4)]) (rest := []) (lenOf pd_175 rfl) rfl (by show 2 * 0 + _ ≤ _; exact Nat.le_of_eq rfl) (hb hby at_119) (fun _ _ => ⟨rfl, rfl, (by decide : 6 + 1 ≤ _), (by decide : 15 + 8 ≤ _)⟩)
    dsimp only [Pt.U, Pt.locs, Pt.cells, Pt.slots] at X231 l231 y231 z231 st231 hQ231
    subst l231 y231 z231
    obtain ⟨x231, rfl, Nq231, Kq231, zq231, Eq231, Fq231_0, Fq231_1, Fq231_2, Fq231_3, Fq231_4, Fq231_5, Fq231_6, Fq231_7⟩ := hQ231
    have f233 := (f220.keep Kq217 nin0)
    have ne232 : b125 ≠ x231 := Nat.ne_of_lt (Nat.lt_of_lt_of_le f233.lt zq231)
    have f235 := (f222.keep Kq217)
    have ne234 : b135 ≠ x231 := Nat.ne_of_lt (Nat.lt_of_lt_of_le f235.lt zq231)
    have f237 := (f224.keep Kq217 nin0)
    have ne236 : t147 ≠ x231 := Nat.ne_of_lt (Nat.lt_of_lt_of_le f237.lt zq231)
    have f239 := (V170.keep Kq217 nin0)
    have ne238 : b155 ≠ x231 := Nat.ne_of_lt (Nat.lt_of_lt_of_le f239.lt zq231)
    have ne240 : x217 ≠ x231 := Nat.ne_of_lt (Nat.lt_of_lt_of_le Eq217.lt zq231)
    have g241 : n0 ≤ x231 := Nat.le_trans f230 zq231
    have f243 := (f228.trans Kq217 all0)
    have z242 : h0.size ≤ x231 := Nat.le_trans f243.1 zq231
    have N244 := Fr.app N229 Nq231
    refine ownBy st231 ?_
    show ownG p.tables e below _ (T231.setTop (mkF m 122 #[.val (.long q1), .second, .val (.long q2), .second, .val (.long q3), .second, .val (.long q4), .second, .val (.int p5), .val (.int p6), .val (.ref b125), .val (.ref b135), .val (.int (p6.toInt8.toInt32)), .val (.int (((p6.toUInt32 >>> ((8 : Int32) &&& 31).toUInt32).toInt32).toInt8.toInt32)), .val (.ref b155), .val (.int (1 : Int32)), .val (.ref x217), .unset, .unset, .unset, .unset] [(.ref x231)]))
    refine ownBy (A := T231.setTop (mkF m 126 #[.val (.long q1), .second, .val (.long q2), .second, .val (.long q3), .second, .val (.long q4), .second, .val (.int p5), .val (.int p6), .val (.ref b125), .val (.ref b135), .val (.int (p6.toInt8.toInt32)), .val (.int (((p6.toUInt32 >>> ((8 : Int32) &&& 31).toUInt32).toInt32).toInt8.toInt32)), .val (.ref b155), .val (.int (1 : Int32)), .val (.ref x217), .val (.ref x231), .unset, .unset, .unset] [(.ref x231)])) (fun t kt => ?_) ?_
    · show Steps p.tables e below (T231.setTop (mkF m 122 #[.val (.long q1), .second, .val (.long q2), .second, .val (.long q3), .second, .val (.long q4), .second, .val (.int p5), .val (.int p6), .val (.ref b125), .val (.ref b135), .val (.int (p6.toInt8.toInt32)), .val (.int (((p6.toUInt32 >>> ((8 : Int32) &&& 31).toUInt32).toInt32).toInt8.toInt32)), .val (.ref b155), .val (.int (1 : Int32)), .val (.ref x217), .unset, .unset, .unset, .unset] [(.ref x231)])) t
      refine XS.astore X231.here hx rfl (hb hby at_122) rfl rfl (l' := #[.val (.long q1), .second, .val (.long q2), .second, .val (.long q3), .second, .val (.long q4), .second, .val (.int p5), .val (.int p6), .val (.ref b125), .val (.ref b135), .val (.int (p6.toInt8.toInt32)), .val (.int (((p6.toUInt32 >>> ((8 : Int32) &&& 31).toUInt32).toInt32).toInt8.toInt32)), .val (.ref b155), .val (.int (1 : Int32)), .val (.ref x217), .val (.ref x231), .unset, .unset, .unset]) rfl ?_
      show Steps p.tables e below (T231.setTop (mkF m 124 #[.val (.long q1), .second, .val (.long q2), .second, .val (.long q3), .second, .val (.long q4), .second, .val (.int p5), .val (.int p6), .val (.ref b125), .val (.ref b135), .val (.int (p6.toInt8.toInt32)), .val (.int (((p6.toUInt32 >>> ((8 : Int32) &&& 31).toUInt32).toInt32).toInt8.toInt32)), .val (.ref b155), .val (.int (1 : Int32)), .val (.ref x217), .val (.ref x231), .unset, .unset, .unset] [])) t
      refine XS.aload X231.here hx rfl (hb hby at_124) rfl rfl ?_
      exact kt
    have f245 := (Nat.le_trans f230 Kq231.1)
    obtain ⟨cq246, kq246, q246a, q246b, q246c⟩ := isOf hZ rfl Eq231
    obtain ⟨_, _, ⟨T246, L246, k246, n246⟩, -, X246, ⟨Lc246, hQ246, l246, y246, z246⟩, st246⟩ := X231.virtualBack hx (y := (⟨"com/example/sakuin/sakuin/engine/Operation", "isDelete", "()Z"⟩ : MethodName)) (z := (⟨"com/example/sakuin/sakuin/engine/Operation", "isDelete", "()Z"⟩ : MethodName)) hown (mvT hZ (hw _ (List.mem_of_getElem? (i := 56) rfl))) (mvT hZ (hw _ (List.mem_of_getElem? (i := 57) rfl))) (notFace_of_selects (args := #[]) (mvT hZ (hw _ (List.mem_of_getElem? (i := 59) rfl)))) (mvT hZ (hw _ (List.mem_of_getElem? (i := 59) rfl))) (mvT hZ (hw _ (List.mem_of_getElem? (i := 58) rfl))) (by decide) (backOf (W := 0) (c_get0 l Z a0 hw [] x231 (0 : Int32) T231.heap n0 f245 Fq231_0) hZ (hw _ (List.mem_of_getElem? (i := 60) rfl)) (hw _ (List.mem_of_getElem? (i := 32) rfl)) (by decide) (by decide)) q246a q246c (g := (mkF m 126 #[.val (.long q1), .second, .val (.long q2), .second, .val (.long q3), .second, .val (.long q4), .second, .val (.int p5), .val (.int p6), .val (.ref b125), .val (.ref b135), .val (.int (p6.toInt8.toInt32)), .val (.int (((p6.toUInt32 >>> ((8 : Int32) &&& 31).toUInt32).toInt32).toInt8.toInt32)), .val (.ref b155), .val (.int (1 : Int32)), .val (.ref x217), .val (.ref x231), .unset, .unset, .unset] [(.ref x231)])) rfl (by rw [hml]; rfl) (Steps.refl _) (argsL := []) (rest := []) (lenOf pd_189 rfl) rfl (by show 2 * 0 + _ ≤ _; exact Nat.le_of_eq rfl) (hb hby at_126) (fun _ _ => ⟨rfl, rfl, (by decide : 7 + 0 ≤ _), (by decide : 23 + 0 ≤ _)⟩)
    dsimp only [Pt.U, Pt.locs, Pt.cells, Pt.slots] at X246 l246 y246 z246 st246 hQ246
    subst l246 y246 z246
    obtain ⟨rfl, Nq246, Eq246⟩ := hQ246
    have N247 := Fr.app N244 Nq246
    refine ownSt st246 ?_
    show ownG p.tables e below _ (T246.setTop (mkF m 129 #[.val (.long q1), .second, .val (.long q2), .second, .val (.long q3), .second, .val (.long q4), .second, .val (.int p5), .val (.int p6), .val (.ref b125), .val (.ref b135), .val (.int (p6.toInt8.toInt32)), .val (.int (((p6.toUInt32 >>> ((8 : Int32) &&& 31).toUInt32).toInt32).toInt8.toInt32)), .val (.ref b155), .val (.int (1 : Int32)), .val (.ref x217), .val (.ref x231), .unset, .unset, .unset] [(.int (0 : Int32))]))
    refine ownBy (A := T246.setTop (mkF m 136 #[.val (.long q1), .second, .val (.long q2), .second, .val (.long q3), .second, .val (.long q4), .second, .val (.int p5), .val (.int p6), .val (.ref b125), .val (.ref b135), .val (.int (p6.toInt8.toInt32)), .val (.int (((p6.toUInt32 >>> ((8 : Int32) &&& 31).toUInt32).toInt32).toInt8.toInt32)), .val (.ref b155), .val (.int (1 : Int32)), .val (.ref x217), .val (.ref x231), .unset, .unset, .unset] [(.ref x231)])) (fun t kt => ?_) ?_
    · show Steps p.tables e below (T246.setTop (mkF m 129 #[.val (.long q1), .second, .val (.long q2), .second, .val (.long q3), .second, .val (.long q4), .second, .val (.int p5), .val (.int p6), .val (.ref b125), .val (.ref b135), .val (.int (p6.toInt8.toInt32)), .val (.int (((p6.toUInt32 >>> ((8 : Int32) &&& 31).toUInt32).toInt32).toInt8.toInt32)), .val (.ref b155), .val (.int (1 : Int32)), .val (.ref x217), .val (.ref x231), .unset, .unset, .unset] [(.int (0 : Int32))])) t
      refine XS.ifYes X246.here hx rfl (pc0 := 129) (pc' := 134) rfl (hb hby at_129) rfl ((if0 _ _).trans (teq ((by decide) : (0 : Int32) = (0 : Int32))).1) (by decide) (by decide) ?_
      show Steps p.tables e below (T246.setTop (mkF m 134 #[.val (.long q1), .second, .val (.long q2), .second, .val (.long q3), .second, .val (.long q4), .second, .val (.int p5), .val (.int p6), .val (.ref b125), .val (.ref b135), .val (.int (p6.toInt8.toInt32)), .val (.int (((p6.toUInt32 >>> ((8 : Int32) &&& 31).toUInt32).toInt32).toInt8.toInt32)), .val (.ref b155), .val (.int (1 : Int32)), .val (.ref x217), .val (.ref x231), .unset, .unset, .unset] [])) t
      refine XS.aload X246.here hx rfl (hb hby at_134) rfl rfl ?_
      exact kt
    obtain ⟨cq248, kq248, q248a, q248b, q248c⟩ := isOf hZ Eq246 Eq231
    obtain ⟨_, _, ⟨T248, L248, k248, n248⟩, -, X248, ⟨Lc248, hQ248, l248, y248, z248⟩, st248⟩ := X246.virtualBack hx (y := (⟨"com/example/sakuin/sakuin/engine/Operation", "id", "()Ljava/lang/String;"⟩ : MethodName)) (z := (⟨"com/example/sakuin/sakuin/engine/Operation", "id", "()Ljava/lang/String;"⟩ : MethodName)) hown (mvT hZ (hw _ (List.mem_of_getElem? (i := 61) rfl))) (mvT hZ (hw _ (List.mem_of_getElem? (i := 62) rfl))) (notFace_of_selects (args := #[]) (mvT hZ (hw _ (List.mem_of_getElem? (i := 64) rfl)))) (mvT hZ (hw _ (List.mem_of_getElem? (i := 64) rfl))) (mvT hZ (hw _ (List.mem_of_getElem? (i := 63) rfl))) (by decide) (backOf (W := 0) (c_get1 l Z a0 hw [] x231 (.ref b135) T231.heap n0 f245 Fq231_1 rfl) hZ (hw _ (List.mem_of_getElem? (i := 65) rfl)) (hw _ (List.mem_of_getElem? (i := 32) rfl)) (by decide) (by decide)) q248a q248c (g := (mkF m 136 #[.val (.long q1), .second, .val (.long q2), .second, .val (.long q3), .second, .val (.long q4), .second, .val (.int p5), .val (.int p6), .val (.ref b125), .val (.ref b135), .val (.int (p6.toInt8.toInt32)), .val (.int (((p6.toUInt32 >>> ((8 : Int32) &&& 31).toUInt32).toInt32).toInt8.toInt32)), .val (.ref b155), .val (.int (1 : Int32)), .val (.ref x217), .val (.ref x231), .unset, .unset, .unset] [(.ref x231)])) rfl (by rw [hml]; rfl) (Steps.refl _) (argsL := []) (rest := []) (lenOf pd_192 rfl) rfl (by show 2 * 0 + _ ≤ _; exact Nat.le_of_eq rfl) (hb hby at_136) (fun _ _ => ⟨rfl, Eq246, (by decide : 7 + 0 ≤ _), (by decide : 23 + 0 ≤ _)⟩)
    dsimp only [Pt.U, Pt.locs, Pt.cells, Pt.slots] at X248 l248 y248 z248 st248 hQ248
    subst l248 y248 z248
    obtain ⟨rfl, Nq248, Eq248⟩ := hQ248
    have N249 := Fr.app N247 Nq248
    refine ownSt st248 ?_
    show ownG p.tables e below _ (T248.setTop (mkF m 139 #[.val (.long q1), .second, .val (.long q2), .second, .val (.long q3), .second, .val (.long q4), .second, .val (.int p5), .val (.int p6), .val (.ref b125), .val (.ref b135), .val (.int (p6.toInt8.toInt32)), .val (.int (((p6.toUInt32 >>> ((8 : Int32) &&& 31).toUInt32).toInt32).toInt8.toInt32)), .val (.ref b155), .val (.int (1 : Int32)), .val (.ref x217), .val (.ref x231), .unset, .unset, .unset] [(.ref b135)]))
    refine ownBy (A := T248.setTop (mkF m 150 #[.val (.long q1), .second, .val (.long q2), .second, .val (.long q3), .second, .val (.long q4), .second, .val (.int p5), .val (.int p6), .val (.ref b125), .val (.ref b135), .val (.int (p6.toInt8.toInt32)), .val (.int (((p6.toUInt32 >>> ((8 : Int32) &&& 31).toUInt32).toInt32).toInt8.toInt32)), .val (.ref b155), .val (.int (1 : Int32)), .val (.ref x217), .val (.ref x231), .val (.ref b135), .unset, .unset] [(.ref b135), (.ref b135)])) (fun t kt => ?_) ?_
    · show Steps p.tables e below (T248.setTop (mkF m 139 #[.val (.long q1), .second, .val (.long q2), .second, .val (.long q3), .second, .val (.long q4), .second, .val (.int p5), .val (.int p6), .val (.ref b125), .val (.ref b135), .val (.int (p6.toInt8.toInt32)), .val (.int (((p6.toUInt32 >>> ((8 : Int32) &&& 31).toUInt32).toInt32).toInt8.toInt32)), .val (.ref b155), .val (.int (1 : Int32)), .val (.ref x217), .val (.ref x231), .unset, .unset, .unset] [(.ref b135)])) t
      refine XS.astore X248.here hx rfl (hb hby at_139) rfl rfl (l' := #[.val (.long q1), .second, .val (.long q2), .second, .val (.long q3), .second, .val (.long q4), .second, .val (.int p5), .val (.int p6), .val (.ref b125), .val (.ref b135), .val (.int (p6.toInt8.toInt32)), .val (.int (((p6.toUInt32 >>> ((8 : Int32) &&& 31).toUInt32).toInt32).toInt8.toInt32)), .val (.ref b155), .val (.int (1 : Int32)), .val (.ref x217), .val (.ref x231), .val (.ref b135), .unset, .unset]) rfl ?_
      show Steps p.tables e below (T248.setTop (mkF m 141 #[.val (.long q1), .second, .val (.long q2), .second, .val (.long q3), .second, .val (.long q4), .second, .val (.int p5), .val (.int p6), .val (.ref b125), .val (.ref b135), .val (.int (p6.toInt8.toInt32)), .val (.int (((p6.toUInt32 >>> ((8 : Int32) &&& 31).toUInt32).toInt32).toInt8.toInt32)), .val (.ref b155), .val (.int (1 : Int32)), .val (.ref x217), .val (.ref x231), .val (.ref b135), .unset, .unset] [])) t
      refine XS.aload X248.here hx rfl (hb hby at_141) rfl rfl ?_
      show Steps p.tables e below (T248.setTop (mkF m 143 #[.val (.long q1), .second, .val (.long q2), .second, .val (.long q3), .second, .val (.long q4), .second, .val (.int p5), .val (.int p6), .val (.ref b125), .val (.ref b135), .val (.int (p6.toInt8.toInt32)), .val (.int (((p6.toUInt32 >>> ((8 : Int32) &&& 31).toUInt32).toInt32).toInt8.toInt32)), .val (.ref b155), .val (.int (1 : Int32)), .val (.ref x217), .val (.ref x231), .val (.ref b135), .unset, .unset] [(.ref b135)])) t
      refine XS.ifnullNo X248.here hx rfl (hb hby at_143) rfl ?_
      show Steps p.tables e below (T248.setTop (mkF m 146 #[.val (.long q1), .second, .val (.long q2), .second, .val (.long q3), .second, .val (.long q4), .second, .val (.int p5), .val (.int p6), .val (.ref b125), .val (.ref b135), .val (.int (p6.toInt8.toInt32)), .val (.int (((p6.toUInt32 >>> ((8 : Int32) &&& 31).toUInt32).toInt32).toInt8.toInt32)), .val (.ref b155), .val (.int (1 : Int32)), .val (.ref x217), .val (.ref x231), .val (.ref b135), .unset, .unset] [])) t
      refine XS.aload X248.here hx rfl (hb hby at_146) rfl rfl ?_
      show Steps p.tables e below (T248.setTop (mkF m 148 #[.val (.long q1), .second, .val (.long q2), .second, .val (.long q3), .second, .val (.long q4), .second, .val (.int p5), .val (.int p6), .val (.ref b125), .val (.ref b135), .val (.int (p6.toInt8.toInt32)), .val (.int (((p6.toUInt32 >>> ((8 : Int32) &&& 31).toUInt32).toInt32).toInt8.toInt32)), .val (.ref b155), .val (.int (1 : Int32)), .val (.ref x217), .val (.ref x231), .val (.ref b135), .unset, .unset] [(.ref b135)])) t
      refine XS.aload X248.here hx rfl (hb hby at_148) rfl rfl ?_
      exact kt
    have f251 := (f235.keep Kq231)
    obtain ⟨cq250, kq250, q250a, q250b, q250c⟩ := isOf hZ Eq248 f251
    obtain ⟨_, _, ⟨T250, L250, k250, n250⟩, -, X250, ⟨Lc250, hQ250, l250, y250, z250⟩, st250⟩ := X248.virtualBack hx (y := (⟨"java/lang/String", "equals", "(Ljava/lang/Object;)Z"⟩ : MethodName)) (z := (⟨"java/lang/String", "equals", "(Ljava/lang/Object;)Z"⟩ : MethodName)) hown (mvT hZ (hw _ (List.mem_of_getElem? (i := 66) rfl))) (mvT hZ (hw _ (List.mem_of_getElem? (i := 67) rfl))) (notFace_of_selects (args := #[]) (mvT hZ (hw _ (List.mem_of_getElem? (i := 69) rfl)))) (mvT hZ (hw _ (List.mem_of_getElem? (i := 69) rfl))) (mvT hZ (hw _ (List.mem_of_getElem? (i := 68) rfl))) (by decide) (backOf (W := 0) (c_eqs l Z a0 hw [] b135 T231.heap n0 f245 ) hZ (hw _ (List.mem_of_getElem? (i := 70) rfl)) (hw _ (List.mem_of_getElem? (i := 3) rfl)) (by decide) (by decide)) q250a q250c (g := (mkF m 150 #[.val (.long q1), .second, .val (.long q2), .second, .val (.long q3), .second, .val (.long q4), .second, .val (.int p5), .val (.int p6), .val (.ref b125), .val (.ref b135), .val (.int (p6.toInt8.toInt32)), .val (.int (((p6.toUInt32 >>> ((8 : Int32) &&& 31).toUInt32).toInt32).toInt8.toInt32)), .val (.ref b155), .val (.int (1 : Int32)), .val (.ref x217), .val (.ref x231), .val (.ref b135), .unset, .unset] [(.ref b135), (.ref b135)])) rfl (by rw [hml]; rfl) (Steps.refl _) (argsL := [(.ref b135)]) (rest := []) (lenOf pd_195 rfl) rfl (by show 2 * 0 + _ ≤ _; exact Nat.le_of_eq rfl) (hb hby at_150) (fun _ _ => ⟨rfl, Eq248, (by decide : 7 + 0 ≤ _), (by decide : 23 + 0 ≤ _)⟩)
    dsimp only [Pt.U, Pt.locs, Pt.cells, Pt.slots] at X250 l250 y250 z250 st250 hQ250
    subst l250 y250 z250
    obtain ⟨rfl, Nq250, Eq250⟩ := hQ250
    have N252 := Fr.app N249 Nq250
    refine ownSt st250 ?_
    show ownG p.tables e below _ (T250.setTop (mkF m 153 #[.val (.long q1), .second, .val (.long q2), .second, .val (.long q3), .second, .val (.long q4), .second, .val (.int p5), .val (.int p6), .val (.ref b125), .val (.ref b135), .val (.int (p6.toInt8.toInt32)), .val (.int (((p6.toUInt32 >>> ((8 : Int32) &&& 31).toUInt32).toInt32).toInt8.toInt32)), .val (.ref b155), .val (.int (1 : Int32)), .val (.ref x217), .val (.ref x231), .val (.ref b135), .unset, .unset] [(.int (1 : Int32))]))
    refine ownBy (A := T250.setTop (mkF m 160 #[.val (.long q1), .second, .val (.long q2), .second, .val (.long q3), .second, .val (.long q4), .second, .val (.int p5), .val (.int p6), .val (.ref b125), .val (.ref b135), .val (.int (p6.toInt8.toInt32)), .val (.int (((p6.toUInt32 >>> ((8 : Int32) &&& 31).toUInt32).toInt32).toInt8.toInt32)), .val (.ref b155), .val (.int (1 : Int32)), .val (.ref x217), .val (.ref x231), .val (.ref b135), .unset, .unset] [(.ref x231)])) (fun t kt => ?_) ?_
    · show Steps p.tables e below (T250.setTop (mkF m 153 #[.val (.long q1), .second, .val (.long q2), .second, .val (.long q3), .second, .val (.long q4), .second, .val (.int p5), .val (.int p6), .val (.ref b125), .val (.ref b135), .val (.int (p6.toInt8.toInt32)), .val (.int (((p6.toUInt32 >>> ((8 : Int32) &&& 31).toUInt32).toInt32).toInt8.toInt32)), .val (.ref b155), .val (.int (1 : Int32)), .val (.ref x217), .val (.ref x231), .val (.ref b135), .unset, .unset] [(.int (1 : Int32))])) t
      refine XS.ifYes X250.here hx rfl (pc0 := 153) (pc' := 158) rfl (hb hby at_153) rfl ((if0 _ _).trans (feq ((by decide) : ¬ ((1 : Int32) = (0 : Int32)))).2) (by decide) (by decide) ?_
      show Steps p.tables e below (T250.setTop (mkF m 158 #[.val (.long q1), .second, .val (.long q2), .second, .val (.long q3), .second, .val (.long q4), .second, .val (.int p5), .val (.int p6), .val (.ref b125), .val (.ref b135), .val (.int (p6.toInt8.toInt32)), .val (.int (((p6.toUInt32 >>> ((8 : Int32) &&& 31).toUInt32).toInt32).toInt8.toInt32)), .val (.ref b155), .val (.int (1 : Int32)), .val (.ref x217), .val (.ref x231), .val (.ref b135), .unset, .unset] [])) t
      refine XS.aload X250.here hx rfl (hb hby at_158) rfl rfl ?_
      exact kt
    obtain ⟨cq253, kq253, q253a, q253b, q253c⟩ := isOf hZ Eq250 Eq231
    obtain ⟨_, _, ⟨T253, L253, k253, n253⟩, -, X253, ⟨Lc253, hQ253, l253, y253, z253⟩, st253⟩ := X250.virtualBack hx (y := (⟨"com/example/sakuin/sakuin/engine/Operation", "source", "()[B"⟩ : MethodName)) (z := (⟨"com/example/sakuin/sakuin/engine/Operation", "source", "()[B"⟩ : MethodName)) hown (mvT hZ (hw _ (List.mem_of_getElem? (i := 71) rfl))) (mvT hZ (hw _ (List.mem_of_getElem? (i := 72) rfl))) (notFace_of_selects (args := #[]) (mvT hZ (hw _ (List.mem_of_getElem? (i := 74) rfl)))) (mvT hZ (hw _ (List.mem_of_getElem? (i := 74) rfl))) (mvT hZ (hw _ (List.mem_of_getElem? (i := 73) rfl))) (by decide) (backOf (W := 0) (c_get2 l Z a0 hw [] x231 (.ref b155) T231.heap n0 f245 Fq231_2 rfl) hZ (hw _ (List.mem_of_getElem? (i := 75) rfl)) (hw _ (List.mem_of_getElem? (i := 32) rfl)) (by decide) (by decide)) q253a q253c (g := (mkF m 160 #[.val (.long q1), .second, .val (.long q2), .second, .val (.long q3), .second, .val (.long q4), .second, .val (.int p5), .val (.int p6), .val (.ref b125), .val (.ref b135), .val (.int (p6.toInt8.toInt32)), .val (.int (((p6.toUInt32 >>> ((8 : Int32) &&& 31).toUInt32).toInt32).toInt8.toInt32)), .val (.ref b155), .val (.int (1 : Int32)), .val (.ref x217), .val (.ref x231), .val (.ref b135), .unset, .unset] [(.ref x231)])) rfl (by rw [hml]; rfl) (Steps.refl _) (argsL := []) (rest := []) (lenOf pd_199 rfl) rfl (by show 2 * 0 + _ ≤ _; exact Nat.le_of_eq rfl) (hb hby at_160) (fun _ _ => ⟨rfl, Eq250, (by decide : 7 + 0 ≤ _), (by decide : 23 + 0 ≤ _)⟩)
    dsimp only [Pt.U, Pt.locs, Pt.cells, Pt.slots] at X253 l253 y253 z253 st253 hQ253
    subst l253 y253 z253
    obtain ⟨rfl, Nq253, Eq253⟩ := hQ253
    have N254 := Fr.app N252 Nq253
    refine ownSt st253 ?_
    show ownG p.tables e below _ (T253.setTop (mkF m 163 #[.val (.long q1), .second, .val (.long q2), .second, .val (.long q3), .second, .val (.long q4), .second, .val (.int p5), .val (.int p6), .val (.ref b125), .val (.ref b135), .val (.int (p6.toInt8.toInt32)), .val (.int (((p6.toUInt32 >>> ((8 : Int32) &&& 31).toUInt32).toInt32).toInt8.toInt32)), .val (.ref b155), .val (.int (1 : Int32)), .val (.ref x217), .val (.ref x231), .val (.ref b135), .unset, .unset] [(.ref b155)]))
    refine ownBy (A := T253.setTop (mkF m 177 #[.val (.long q1), .second, .val (.long q2), .second, .val (.long q3), .second, .val (.long q4), .second, .val (.int p5), .val (.int p6), .val (.ref b125), .val (.ref b135), .val (.int (p6.toInt8.toInt32)), .val (.int (((p6.toUInt32 >>> ((8 : Int32) &&& 31).toUInt32).toInt32).toInt8.toInt32)), .val (.ref b155), .val (.int (1 : Int32)), .val (.ref x217), .val (.ref x231), .val (.ref b135), .val (.ref b155), .unset] [(.int (0 : Int32)), (.ref b155)])) (fun t kt => ?_) ?_
    · show Steps p.tables e below (T253.setTop (mkF m 163 #[.val (.long q1), .second, .val (.long q2), .second, .val (.long q3), .second, .val (.long q4), .second, .val (.int p5), .val (.int p6), .val (.ref b125), .val (.ref b135), .val (.int (p6.toInt8.toInt32)), .val (.int (((p6.toUInt32 >>> ((8 : Int32) &&& 31).toUInt32).toInt32).toInt8.toInt32)), .val (.ref b155), .val (.int (1 : Int32)), .val (.ref x217), .val (.ref x231), .val (.ref b135), .unset, .unset] [(.ref b155)])) t
      refine XS.astore X253.here hx rfl (hb hby at_163) rfl rfl (l' := #[.val (.long q1), .second, .val (.long q2), .second, .val (.long q3), .second, .val (.long q4), .second, .val (.int p5), .val (.int p6), .val (.ref b125), .val (.ref b135), .val (.int (p6.toInt8.toInt32)), .val (.int (((p6.toUInt32 >>> ((8 : Int32) &&& 31).toUInt32).toInt32).toInt8.toInt32)), .val (.ref b155), .val (.int (1 : Int32)), .val (.ref x217), .val (.ref x231), .val (.ref b135), .val (.ref b155), .unset]) rfl ?_
      show Steps p.tables e below (T253.setTop (mkF m 165 #[.val (.long q1), .second, .val (.long q2), .second, .val (.long q3), .second, .val (.long q4), .second, .val (.int p5), .val (.int p6), .val (.ref b125), .val (.ref b135), .val (.int (p6.toInt8.toInt32)), .val (.int (((p6.toUInt32 >>> ((8 : Int32) &&& 31).toUInt32).toInt32).toInt8.toInt32)), .val (.ref b155), .val (.int (1 : Int32)), .val (.ref x217), .val (.ref x231), .val (.ref b135), .val (.ref b155), .unset] [])) t
      refine XS.aload X253.here hx rfl (hb hby at_165) rfl rfl ?_
      show Steps p.tables e below (T253.setTop (mkF m 167 #[.val (.long q1), .second, .val (.long q2), .second, .val (.long q3), .second, .val (.long q4), .second, .val (.int p5), .val (.int p6), .val (.ref b125), .val (.ref b135), .val (.int (p6.toInt8.toInt32)), .val (.int (((p6.toUInt32 >>> ((8 : Int32) &&& 31).toUInt32).toInt32).toInt8.toInt32)), .val (.ref b155), .val (.int (1 : Int32)), .val (.ref x217), .val (.ref x231), .val (.ref b135), .val (.ref b155), .unset] [(.ref b155)])) t
      refine XS.aload X253.here hx rfl (hb hby at_167) rfl rfl ?_
      show Steps p.tables e below (T253.setTop (mkF m 169 #[.val (.long q1), .second, .val (.long q2), .second, .val (.long q3), .second, .val (.long q4), .second, .val (.int p5), .val (.int p6), .val (.ref b125), .val (.ref b135), .val (.int (p6.toInt8.toInt32)), .val (.int (((p6.toUInt32 >>> ((8 : Int32) &&& 31).toUInt32).toInt32).toInt8.toInt32)), .val (.ref b155), .val (.int (1 : Int32)), .val (.ref x217), .val (.ref x231), .val (.ref b135), .val (.ref b155), .unset] [(.ref b155), (.ref b155)])) t
      refine Jvm.RoadKit.acmp (g := (mkF m 169 #[.val (.long q1), .second, .val (.long q2), .second, .val (.long q3), .second, .val (.long q4), .second, .val (.int p5), .val (.int p6), .val (.ref b125), .val (.ref b135), .val (.int (p6.toInt8.toInt32)), .val (.int (((p6.toUInt32 >>> ((8 : Int32) &&& 31).toUInt32).toInt32).toInt8.toInt32)), .val (.ref b155), .val (.int (1 : Int32)), .val (.ref x217), .val (.ref x231), .val (.ref b135), .val (.ref b155), .unset] [(.ref b155), (.ref b155)])) X253 hx rfl rfl rfl (pc0 := 169) (pc' := 174) (same := true) rfl (hb hby at_169) rfl (decide_eq_true rfl) (by decide) (by decide) ?_
      show Steps p.tables e below (T253.setTop (mkF m 174 #[.val (.long q1), .second, .val (.long q2), .second, .val (.long q3), .second, .val (.long q4), .second, .val (.int p5), .val (.int p6), .val (.ref b125), .val (.ref b135), .val (.int (p6.toInt8.toInt32)), .val (.int (((p6.toUInt32 >>> ((8 : Int32) &&& 31).toUInt32).toInt32).toInt8.toInt32)), .val (.ref b155), .val (.int (1 : Int32)), .val (.ref x217), .val (.ref x231), .val (.ref b135), .val (.ref b155), .unset] [])) t
      refine XS.aload X253.here hx rfl (hb hby at_174) rfl rfl ?_
      show Steps p.tables e below (T253.setTop (mkF m 176 #[.val (.long q1), .second, .val (.long q2), .second, .val (.long q3), .second, .val (.long q4), .second, .val (.int p5), .val (.int p6), .val (.ref b125), .val (.ref b135), .val (.int (p6.toInt8.toInt32)), .val (.int (((p6.toUInt32 >>> ((8 : Int32) &&& 31).toUInt32).toInt32).toInt8.toInt32)), .val (.ref b155), .val (.int (1 : Int32)), .val (.ref x217), .val (.ref x231), .val (.ref b135), .val (.ref b155), .unset] [(.ref b155)])) t
      refine XS.iconst X253.here hx rfl (hb hby at_176) ?_
      exact kt
    have f255 := (f239.keep Kq231 nin0)
    obtain ⟨cl256, Ar256, q256, S256, N256, H256, G256⟩ := id f255
    have hin256 : ¬ ((0 : Int32) < 0 ∨ cl256.slots.size ≤ ((0 : Int32)).toNatClampNeg) := inb_of S256 ⟨by decide, by decide⟩
    have hat256 : cl256.slots[((0 : Int32)).toNatClampNeg]? = some (.int (nar .byte (p6.toInt8.toInt32))) := H256.at hin256 rfl
    have st256 := X253.baloadBytes hx (j := (0 : Int32)) (v := (.int (nar .byte (p6.toInt8.toInt32)))) (by rw [Eq253]; exact Ar256.1) (State.isArrayOf_alike hZ.alike Ar256.2.1) Ar256.2.2 hin256 hat256 (g := (mkF m 177 #[.val (.long q1), .second, .val (.long q2), .second, .val (.long q3), .second, .val (.long q4), .second, .val (.int p5), .val (.int p6), .val (.ref b125), .val (.ref b135), .val (.int (p6.toInt8.toInt32)), .val (.int (((p6.toUInt32 >>> ((8 : Int32) &&& 31).toUInt32).toInt32).toInt8.toInt32)), .val (.ref b155), .val (.int (1 : Int32)), .val (.ref x217), .val (.ref x231), .val (.ref b135), .val (.ref b155), .unset] [(.int (0 : Int32)), (.ref b155)])) rfl rfl (hb hby at_177)
    refine ownBy st256 ?_
    show ownG p.tables e below _ (T253.setTop (mkF m 178 #[.val (.long q1), .second, .val (.long q2), .second, .val (.long q3), .second, .val (.long q4), .second, .val (.int p5), .val (.int p6), .val (.ref b125), .val (.ref b135), .val (.int (p6.toInt8.toInt32)), .val (.int (((p6.toUInt32 >>> ((8 : Int32) &&& 31).toUInt32).toInt32).toInt8.toInt32)), .val (.ref b155), .val (.int (1 : Int32)), .val (.ref x217), .val (.ref x231), .val (.ref b135), .val (.ref b155), .unset] [(.int (nar .byte (p6.toInt8.toInt32)))]))
    refine ownBy (A := T253.setTop (mkF m 186 #[.val (.long q1), .second, .val (.long q2), .second, .val (.long q3), .second, .val (.long q4), .second, .val (.int p5), .val (.int p6), .val (.ref b125), .val (.ref b135), .val (.int (p6.toInt8.toInt32)), .val (.int (((p6.toUInt32 >>> ((8 : Int32) &&& 31).toUInt32).toInt32).toInt8.toInt32)), .val (.ref b155), .val (.int (1 : Int32)), .val (.ref x217), .val (.ref x231), .val (.ref b135), .val (.ref b155), .unset] [(.int (1 : Int32)), (.ref b155)])) (fun t kt => ?_) ?_
    · show Steps p.tables e below (T253.setTop (mkF m 178 #[.val (.long q1), .second, .val (.long q2), .second, .val (.long q3), .second, .val (.long q4), .second, .val (.int p5), .val (.int p6), .val (.ref b125), .val (.ref b135), .val (.int (p6.toInt8.toInt32)), .val (.int (((p6.toUInt32 >>> ((8 : Int32) &&& 31).toUInt32).toInt32).toInt8.toInt32)), .val (.ref b155), .val (.int (1 : Int32)), .val (.ref x217), .val (.ref x231), .val (.ref b135), .val (.ref b155), .unset] [(.int (nar .byte (p6.toInt8.toInt32)))])) t
      refine XS.iload X253.here hx rfl (hb hby at_178) rfl ?_
      show Steps p.tables e below (T253.setTop (mkF m 180 #[.val (.long q1), .second, .val (.long q2), .second, .val (.long q3), .second, .val (.long q4), .second, .val (.int p5), .val (.int p6), .val (.ref b125), .val (.ref b135), .val (.int (p6.toInt8.toInt32)), .val (.int (((p6.toUInt32 >>> ((8 : Int32) &&& 31).toUInt32).toInt32).toInt8.toInt32)), .val (.ref b155), .val (.int (1 : Int32)), .val (.ref x217), .val (.ref x231), .val (.ref b135), .val (.ref b155), .unset] [(.int (p6.toInt8.toInt32)), (.int (nar .byte (p6.toInt8.toInt32)))])) t
      refine XS.icmpNo X253.here hx rfl (hb hby at_180) rfl (teq (own_nar_byte _)).2 ?_
      show Steps p.tables e below (T253.setTop (mkF m 183 #[.val (.long q1), .second, .val (.long q2), .second, .val (.long q3), .second, .val (.long q4), .second, .val (.int p5), .val (.int p6), .val (.ref b125), .val (.ref b135), .val (.int (p6.toInt8.toInt32)), .val (.int (((p6.toUInt32 >>> ((8 : Int32) &&& 31).toUInt32).toInt32).toInt8.toInt32)), .val (.ref b155), .val (.int (1 : Int32)), .val (.ref x217), .val (.ref x231), .val (.ref b135), .val (.ref b155), .unset] [])) t
      refine XS.aload X253.here hx rfl (hb hby at_183) rfl rfl ?_
      show Steps p.tables e below (T253.setTop (mkF m 185 #[.val (.long q1), .second, .val (.long q2), .second, .val (.long q3), .second, .val (.long q4), .second, .val (.int p5), .val (.int p6), .val (.ref b125), .val (.ref b135), .val (.int (p6.toInt8.toInt32)), .val (.int (((p6.toUInt32 >>> ((8 : Int32) &&& 31).toUInt32).toInt32).toInt8.toInt32)), .val (.ref b155), .val (.int (1 : Int32)), .val (.ref x217), .val (.ref x231), .val (.ref b135), .val (.ref b155), .unset] [(.ref b155)])) t
      refine XS.iconst X253.here hx rfl (hb hby at_185) ?_
      exact kt
    obtain ⟨cl257, Ar257, q257, S257, N257, H257, G257⟩ := id f255
    have hin257 : ¬ ((1 : Int32) < 0 ∨ cl257.slots.size ≤ ((1 : Int32)).toNatClampNeg) := inb_of S257 ⟨by decide, by decide⟩
    have hat257 : cl257.slots[((1 : Int32)).toNatClampNeg]? = some (.int (nar .byte (((p6.toUInt32 >>> ((8 : Int32) &&& 31).toUInt32).toInt32).toInt8.toInt32))) := H257.at hin257 rfl
    have st257 := X253.baloadBytes hx (j := (1 : Int32)) (v := (.int (nar .byte (((p6.toUInt32 >>> ((8 : Int32) &&& 31).toUInt32).toInt32).toInt8.toInt32)))) (by rw [Eq253]; exact Ar257.1) (State.isArrayOf_alike hZ.alike Ar257.2.1) Ar257.2.2 hin257 hat257 (g := (mkF m 186 #[.val (.long q1), .second, .val (.long q2), .second, .val (.long q3), .second, .val (.long q4), .second, .val (.int p5), .val (.int p6), .val (.ref b125), .val (.ref b135), .val (.int (p6.toInt8.toInt32)), .val (.int (((p6.toUInt32 >>> ((8 : Int32) &&& 31).toUInt32).toInt32).toInt8.toInt32)), .val (.ref b155), .val (.int (1 : Int32)), .val (.ref x217), .val (.ref x231), .val (.ref b135), .val (.ref b155), .unset] [(.int (1 : Int32)), (.ref b155)])) rfl rfl (hb hby at_186)
    refine ownBy st257 ?_
    show ownG p.tables e below _ (T253.setTop (mkF m 187 #[.val (.long q1), .second, .val (.long q2), .second, .val (.long q3), .second, .val (.long q4), .second, .val (.int p5), .val (.int p6), .val (.ref b125), .val (.ref b135), .val (.int (p6.toInt8.toInt32)), .val (.int (((p6.toUInt32 >>> ((8 : Int32) &&& 31).toUInt32).toInt32).toInt8.toInt32)), .val (.ref b155), .val (.int (1 : Int32)), .val (.ref x217), .val (.ref x231), .val (.ref b135), .val (.ref b155), .unset] [(.int (nar .byte (((p6.toUInt32 >>> ((8 : Int32) &&& 31).toUInt32).toInt32).toInt8.toInt32)))]))
    refine ownBy (A := T253.setTop (mkF m 196 #[.val (.long q1), .second, .val (.long q2), .second, .val (.long q3), .second, .val (.long q4), .second, .val (.int p5), .val (.int p6), .val (.ref b125), .val (.ref b135), .val (.int (p6.toInt8.toInt32)), .val (.int (((p6.toUInt32 >>> ((8 : Int32) &&& 31).toUInt32).toInt32).toInt8.toInt32)), .val (.ref b155), .val (.int (1 : Int32)), .val (.ref x217), .val (.ref x231), .val (.ref b135), .val (.ref b155), .unset] [(.ref x231)])) (fun t kt => ?_) ?_
    · show Steps p.tables e below (T253.setTop (mkF m 187 #[.val (.long q1), .second, .val (.long q2), .second, .val (.long q3), .second, .val (.long q4), .second, .val (.int p5), .val (.int p6), .val (.ref b125), .val (.ref b135), .val (.int (p6.toInt8.toInt32)), .val (.int (((p6.toUInt32 >>> ((8 : Int32) &&& 31).toUInt32).toInt32).toInt8.toInt32)), .val (.ref b155), .val (.int (1 : Int32)), .val (.ref x217), .val (.ref x231), .val (.ref b135), .val (.ref b155), .unset] [(.int (nar .byte (((p6.toUInt32 >>> ((8 : Int32) &&& 31).toUInt32).toInt32).toInt8.toInt32)))])) t
      refine XS.iload X253.here hx rfl (hb hby at_187) rfl ?_
      show Steps p.tables e below (T253.setTop (mkF m 189 #[.val (.long q1), .second, .val (.long q2), .second, .val (.long q3), .second, .val (.long q4), .second, .val (.int p5), .val (.int p6), .val (.ref b125), .val (.ref b135), .val (.int (p6.toInt8.toInt32)), .val (.int (((p6.toUInt32 >>> ((8 : Int32) &&& 31).toUInt32).toInt32).toInt8.toInt32)), .val (.ref b155), .val (.int (1 : Int32)), .val (.ref x217), .val (.ref x231), .val (.ref b135), .val (.ref b155), .unset] [(.int (((p6.toUInt32 >>> ((8 : Int32) &&& 31).toUInt32).toInt32).toInt8.toInt32)), (.int (nar .byte (((p6.toUInt32 >>> ((8 : Int32) &&& 31).toUInt32).toInt32).toInt8.toInt32)))])) t
      refine XS.icmpYes X253.here hx rfl (pc0 := 189) (pc' := 194) rfl (hb hby at_189) rfl (teq (own_nar_byte _)).1 (by decide) (by decide) ?_
      show Steps p.tables e below (T253.setTop (mkF m 194 #[.val (.long q1), .second, .val (.long q2), .second, .val (.long q3), .second, .val (.long q4), .second, .val (.int p5), .val (.int p6), .val (.ref b125), .val (.ref b135), .val (.int (p6.toInt8.toInt32)), .val (.int (((p6.toUInt32 >>> ((8 : Int32) &&& 31).toUInt32).toInt32).toInt8.toInt32)), .val (.ref b155), .val (.int (1 : Int32)), .val (.ref x217), .val (.ref x231), .val (.ref b135), .val (.ref b155), .unset] [])) t
      refine XS.aload X253.here hx rfl (hb hby at_194) rfl rfl ?_
      exact kt
    obtain ⟨cq258, kq258, q258a, q258b, q258c⟩ := isOf hZ Eq253 Eq231
    obtain ⟨_, _, ⟨T258, L258, k258, n258⟩, -, X258, ⟨Lc258, hQ258, l258, y258, z258⟩, st258⟩ := X253.virtualBack hx (y := (⟨"com/example/sakuin/sakuin/engine/Operation", "routing", "()Ljava/lang/String;"⟩ : MethodName)) (z := (⟨"com/example/sakuin/sakuin/engine/Operation", "routing", "()Ljava/lang/String;"⟩ : MethodName)) hown (mvT hZ (hw _ (List.mem_of_getElem? (i := 76) rfl))) (mvT hZ (hw _ (List.mem_of_getElem? (i := 77) rfl))) (notFace_of_selects (args := #[]) (mvT hZ (hw _ (List.mem_of_getElem? (i := 79) rfl)))) (mvT hZ (hw _ (List.mem_of_getElem? (i := 79) rfl))) (mvT hZ (hw _ (List.mem_of_getElem? (i := 78) rfl))) (by decide) (backOf (W := 0) (c_get3 l Z a0 hw [] x231 (.ref x217) T231.heap n0 f245 Fq231_3 rfl) hZ (hw _ (List.mem_of_getElem? (i := 80) rfl)) (hw _ (List.mem_of_getElem? (i := 32) rfl)) (by decide) (by decide)) q258a q258c (g := (mkF m 196 #[.val (.long q1), .second, .val (.long q2), .second, .val (.long q3), .second, .val (.long q4), .second, .val (.int p5), .val (.int p6), .val (.ref b125), .val (.ref b135), .val (.int (p6.toInt8.toInt32)), .val (.int (((p6.toUInt32 >>> ((8 : Int32) &&& 31).toUInt32).toInt32).toInt8.toInt32)), .val (.ref b155), .val (.int (1 : Int32)), .val (.ref x217), .val (.ref x231), .val (.ref b135), .val (.ref b155), .unset] [(.ref x231)])) rfl (by rw [hml]; rfl) (Steps.refl _) (argsL := []) (rest := []) (lenOf pd_192 rfl) rfl (by show 2 * 0 + _ ≤ _; exact Nat.le_of_eq rfl) (hb hby at_196) (fun _ _ => ⟨rfl, Eq253, (by decide : 7 + 0 ≤ _), (by decide : 23 + 0 ≤ _)⟩)
    dsimp only [Pt.U, Pt.locs, Pt.cells, Pt.slots] at X258 l258 y258 z258 st258 hQ258
    subst l258 y258 z258
    obtain ⟨rfl, Nq258, Eq258⟩ := hQ258
    have N259 := Fr.app N254 Nq258
    refine ownSt st258 ?_
    show ownG p.tables e below _ (T258.setTop (mkF m 199 #[.val (.long q1), .second, .val (.long q2), .second, .val (.long q3), .second, .val (.long q4), .second, .val (.int p5), .val (.int p6), .val (.ref b125), .val (.ref b135), .val (.int (p6.toInt8.toInt32)), .val (.int (((p6.toUInt32 >>> ((8 : Int32) &&& 31).toUInt32).toInt32).toInt8.toInt32)), .val (.ref b155), .val (.int (1 : Int32)), .val (.ref x217), .val (.ref x231), .val (.ref b135), .val (.ref b155), .unset] [(.ref x217)]))
    refine ownBy (A := T258.setTop (mkF m 215 #[.val (.long q1), .second, .val (.long q2), .second, .val (.long q3), .second, .val (.long q4), .second, .val (.int p5), .val (.int p6), .val (.ref b125), .val (.ref b135), .val (.int (p6.toInt8.toInt32)), .val (.int (((p6.toUInt32 >>> ((8 : Int32) &&& 31).toUInt32).toInt32).toInt8.toInt32)), .val (.ref b155), .val (.int (1 : Int32)), .val (.ref x217), .val (.ref x231), .val (.ref b135), .val (.ref b155), .val (.ref x217)] [(.ref x217), (.ref x217)])) (fun t kt => ?_) ?_
    · show Steps p.tables e below (T258.setTop (mkF m 199 #[.val (.long q1), .second, .val (.long q2), .second, .val (.long q3), .second, .val (.long q4), .second, .val (.int p5), .val (.int p6), .val (.ref b125), .val (.ref b135), .val (.int (p6.toInt8.toInt32)), .val (.int (((p6.toUInt32 >>> ((8 : Int32) &&& 31).toUInt32).toInt32).toInt8.toInt32)), .val (.ref b155), .val (.int (1 : Int32)), .val (.ref x217), .val (.ref x231), .val (.ref b135), .val (.ref b155), .unset] [(.ref x217)])) t
      refine XS.astore X258.here hx rfl (hb hby at_199) rfl rfl (l' := #[.val (.long q1), .second, .val (.long q2), .second, .val (.long q3), .second, .val (.long q4), .second, .val (.int p5), .val (.int p6), .val (.ref b125), .val (.ref b135), .val (.int (p6.toInt8.toInt32)), .val (.int (((p6.toUInt32 >>> ((8 : Int32) &&& 31).toUInt32).toInt32).toInt8.toInt32)), .val (.ref b155), .val (.int (1 : Int32)), .val (.ref x217), .val (.ref x231), .val (.ref b135), .val (.ref b155), .val (.ref x217)]) rfl ?_
      show Steps p.tables e below (T258.setTop (mkF m 201 #[.val (.long q1), .second, .val (.long q2), .second, .val (.long q3), .second, .val (.long q4), .second, .val (.int p5), .val (.int p6), .val (.ref b125), .val (.ref b135), .val (.int (p6.toInt8.toInt32)), .val (.int (((p6.toUInt32 >>> ((8 : Int32) &&& 31).toUInt32).toInt32).toInt8.toInt32)), .val (.ref b155), .val (.int (1 : Int32)), .val (.ref x217), .val (.ref x231), .val (.ref b135), .val (.ref b155), .val (.ref x217)] [])) t
      refine XS.iload X258.here hx rfl (hb hby at_201) rfl ?_
      show Steps p.tables e below (T258.setTop (mkF m 203 #[.val (.long q1), .second, .val (.long q2), .second, .val (.long q3), .second, .val (.long q4), .second, .val (.int p5), .val (.int p6), .val (.ref b125), .val (.ref b135), .val (.int (p6.toInt8.toInt32)), .val (.int (((p6.toUInt32 >>> ((8 : Int32) &&& 31).toUInt32).toInt32).toInt8.toInt32)), .val (.ref b155), .val (.int (1 : Int32)), .val (.ref x217), .val (.ref x231), .val (.ref b135), .val (.ref b155), .val (.ref x217)] [(.int (1 : Int32))])) t
      refine XS.ifNo X258.here hx rfl (hb hby at_203) rfl ((if0 _ _).trans (feq ((by decide) : ¬ ((1 : Int32) = (0 : Int32)))).1) ?_
      show Steps p.tables e below (T258.setTop (mkF m 206 #[.val (.long q1), .second, .val (.long q2), .second, .val (.long q3), .second, .val (.long q4), .second, .val (.int p5), .val (.int p6), .val (.ref b125), .val (.ref b135), .val (.int (p6.toInt8.toInt32)), .val (.int (((p6.toUInt32 >>> ((8 : Int32) &&& 31).toUInt32).toInt32).toInt8.toInt32)), .val (.ref b155), .val (.int (1 : Int32)), .val (.ref x217), .val (.ref x231), .val (.ref b135), .val (.ref b155), .val (.ref x217)] [])) t
      refine XS.aload X258.here hx rfl (hb hby at_206) rfl rfl ?_
      show Steps p.tables e below (T258.setTop (mkF m 208 #[.val (.long q1), .second, .val (.long q2), .second, .val (.long q3), .second, .val (.long q4), .second, .val (.int p5), .val (.int p6), .val (.ref b125), .val (.ref b135), .val (.int (p6.toInt8.toInt32)), .val (.int (((p6.toUInt32 >>> ((8 : Int32) &&& 31).toUInt32).toInt32).toInt8.toInt32)), .val (.ref b155), .val (.int (1 : Int32)), .val (.ref x217), .val (.ref x231), .val (.ref b135), .val (.ref b155), .val (.ref x217)] [(.ref x217)])) t
      refine XS.ifnullNo X258.here hx rfl (hb hby at_208) rfl ?_
      show Steps p.tables e below (T258.setTop (mkF m 211 #[.val (.long q1), .second, .val (.long q2), .second, .val (.long q3), .second, .val (.long q4), .second, .val (.int p5), .val (.int p6), .val (.ref b125), .val (.ref b135), .val (.int (p6.toInt8.toInt32)), .val (.int (((p6.toUInt32 >>> ((8 : Int32) &&& 31).toUInt32).toInt32).toInt8.toInt32)), .val (.ref b155), .val (.int (1 : Int32)), .val (.ref x217), .val (.ref x231), .val (.ref b135), .val (.ref b155), .val (.ref x217)] [])) t
      refine XS.aload X258.here hx rfl (hb hby at_211) rfl rfl ?_
      show Steps p.tables e below (T258.setTop (mkF m 213 #[.val (.long q1), .second, .val (.long q2), .second, .val (.long q3), .second, .val (.long q4), .second, .val (.int p5), .val (.int p6), .val (.ref b125), .val (.ref b135), .val (.int (p6.toInt8.toInt32)), .val (.int (((p6.toUInt32 >>> ((8 : Int32) &&& 31).toUInt32).toInt32).toInt8.toInt32)), .val (.ref b155), .val (.int (1 : Int32)), .val (.ref x217), .val (.ref x231), .val (.ref b135), .val (.ref b155), .val (.ref x217)] [(.ref x217)])) t
      refine XS.aload X258.here hx rfl (hb hby at_213) rfl rfl ?_
      exact kt
    have f261 := (Eq217.keep Kq231)
    obtain ⟨cq260, kq260, q260a, q260b, q260c⟩ := isOf hZ Eq258 f261
    obtain ⟨_, _, ⟨T260, L260, k260, n260⟩, -, X260, ⟨Lc260, hQ260, l260, y260, z260⟩, st260⟩ := X258.virtualBack hx (y := (⟨"java/lang/String", "equals", "(Ljava/lang/Object;)Z"⟩ : MethodName)) (z := (⟨"java/lang/String", "equals", "(Ljava/lang/Object;)Z"⟩ : MethodName)) hown (mvT hZ (hw _ (List.mem_of_getElem? (i := 66) rfl))) (mvT hZ (hw _ (List.mem_of_getElem? (i := 67) rfl))) (notFace_of_selects (args := #[]) (mvT hZ (hw _ (List.mem_of_getElem? (i := 69) rfl)))) (mvT hZ (hw _ (List.mem_of_getElem? (i := 69) rfl))) (mvT hZ (hw _ (List.mem_of_getElem? (i := 68) rfl))) (by decide) (backOf (W := 0) (c_eqs l Z a0 hw [] x217 T231.heap n0 f245 ) hZ (hw _ (List.mem_of_getElem? (i := 70) rfl)) (hw _ (List.mem_of_getElem? (i := 3) rfl)) (by decide) (by decide)) q260a q260c (g := (mkF m 215 #[.val (.long q1), .second, .val (.long q2), .second, .val (.long q3), .second, .val (.long q4), .second, .val (.int p5), .val (.int p6), .val (.ref b125), .val (.ref b135), .val (.int (p6.toInt8.toInt32)), .val (.int (((p6.toUInt32 >>> ((8 : Int32) &&& 31).toUInt32).toInt32).toInt8.toInt32)), .val (.ref b155), .val (.int (1 : Int32)), .val (.ref x217), .val (.ref x231), .val (.ref b135), .val (.ref b155), .val (.ref x217)] [(.ref x217), (.ref x217)])) rfl (by rw [hml]; rfl) (Steps.refl _) (argsL := [(.ref x217)]) (rest := []) (lenOf pd_195 rfl) rfl (by show 2 * 0 + _ ≤ _; exact Nat.le_of_eq rfl) (hb hby at_215) (fun _ _ => ⟨rfl, Eq258, (by decide : 7 + 0 ≤ _), (by decide : 23 + 0 ≤ _)⟩)
    dsimp only [Pt.U, Pt.locs, Pt.cells, Pt.slots] at X260 l260 y260 z260 st260 hQ260
    subst l260 y260 z260
    obtain ⟨rfl, Nq260, Eq260⟩ := hQ260
    have N262 := Fr.app N259 Nq260
    refine ownSt st260 ?_
    show ownG p.tables e below _ (T260.setTop (mkF m 218 #[.val (.long q1), .second, .val (.long q2), .second, .val (.long q3), .second, .val (.long q4), .second, .val (.int p5), .val (.int p6), .val (.ref b125), .val (.ref b135), .val (.int (p6.toInt8.toInt32)), .val (.int (((p6.toUInt32 >>> ((8 : Int32) &&& 31).toUInt32).toInt32).toInt8.toInt32)), .val (.ref b155), .val (.int (1 : Int32)), .val (.ref x217), .val (.ref x231), .val (.ref b135), .val (.ref b155), .val (.ref x217)] [(.int (1 : Int32))]))
    refine ownBy (A := T260.setTop (mkF m 232 #[.val (.long q1), .second, .val (.long q2), .second, .val (.long q3), .second, .val (.long q4), .second, .val (.int p5), .val (.int p6), .val (.ref b125), .val (.ref b135), .val (.int (p6.toInt8.toInt32)), .val (.int (((p6.toUInt32 >>> ((8 : Int32) &&& 31).toUInt32).toInt32).toInt8.toInt32)), .val (.ref b155), .val (.int (1 : Int32)), .val (.ref x217), .val (.ref x231), .val (.ref b135), .val (.ref b155), .val (.ref x217)] [(.ref x231)])) (fun t kt => ?_) ?_
    · show Steps p.tables e below (T260.setTop (mkF m 218 #[.val (.long q1), .second, .val (.long q2), .second, .val (.long q3), .second, .val (.long q4), .second, .val (.int p5), .val (.int p6), .val (.ref b125), .val (.ref b135), .val (.int (p6.toInt8.toInt32)), .val (.int (((p6.toUInt32 >>> ((8 : Int32) &&& 31).toUInt32).toInt32).toInt8.toInt32)), .val (.ref b155), .val (.int (1 : Int32)), .val (.ref x217), .val (.ref x231), .val (.ref b135), .val (.ref b155), .val (.ref x217)] [(.int (1 : Int32))])) t
      refine XS.ifYes X260.here hx rfl (pc0 := 218) (pc' := 230) rfl (hb hby at_218) rfl ((if0 _ _).trans (feq ((by decide) : ¬ ((1 : Int32) = (0 : Int32)))).2) (by decide) (by decide) ?_
      show Steps p.tables e below (T260.setTop (mkF m 230 #[.val (.long q1), .second, .val (.long q2), .second, .val (.long q3), .second, .val (.long q4), .second, .val (.int p5), .val (.int p6), .val (.ref b125), .val (.ref b135), .val (.int (p6.toInt8.toInt32)), .val (.int (((p6.toUInt32 >>> ((8 : Int32) &&& 31).toUInt32).toInt32).toInt8.toInt32)), .val (.ref b155), .val (.int (1 : Int32)), .val (.ref x217), .val (.ref x231), .val (.ref b135), .val (.ref b155), .val (.ref x217)] [])) t
      refine XS.aload X260.here hx rfl (hb hby at_230) rfl rfl ?_
      exact kt
    obtain ⟨cq263, kq263, q263a, q263b, q263c⟩ := isOf hZ Eq260 Eq231
    obtain ⟨_, _, ⟨T263, L263, k263, n263⟩, -, X263, ⟨Lc263, hQ263, l263, y263, z263⟩, st263⟩ := X260.virtualBack hx (y := (⟨"com/example/sakuin/sakuin/engine/Operation", "version", "()J"⟩ : MethodName)) (z := (⟨"com/example/sakuin/sakuin/engine/Operation", "version", "()J"⟩ : MethodName)) hown (mvT hZ (hw _ (List.mem_of_getElem? (i := 81) rfl))) (mvT hZ (hw _ (List.mem_of_getElem? (i := 82) rfl))) (notFace_of_selects (args := #[]) (mvT hZ (hw _ (List.mem_of_getElem? (i := 84) rfl)))) (mvT hZ (hw _ (List.mem_of_getElem? (i := 84) rfl))) (mvT hZ (hw _ (List.mem_of_getElem? (i := 83) rfl))) (by decide) (backOf (W := 0) (c_get4 l Z a0 hw [] x231 q1 T231.heap n0 f245 Fq231_4) hZ (hw _ (List.mem_of_getElem? (i := 85) rfl)) (hw _ (List.mem_of_getElem? (i := 32) rfl)) (by decide) (by decide)) q263a q263c (g := (mkF m 232 #[.val (.long q1), .second, .val (.long q2), .second, .val (.long q3), .second, .val (.long q4), .second, .val (.int p5), .val (.int p6), .val (.ref b125), .val (.ref b135), .val (.int (p6.toInt8.toInt32)), .val (.int (((p6.toUInt32 >>> ((8 : Int32) &&& 31).toUInt32).toInt32).toInt8.toInt32)), .val (.ref b155), .val (.int (1 : Int32)), .val (.ref x217), .val (.ref x231), .val (.ref b135), .val (.ref b155), .val (.ref x217)] [(.ref x231)])) rfl (by rw [hml]; rfl) (Steps.refl _) (argsL := []) (rest := []) (lenOf pd_207 rfl) rfl (by show 2 * 0 + _ ≤ _; exact Nat.le_of_eq rfl) (hb hby at_232) (fun _ _ => ⟨rfl, Eq260, (by decide : 7 + 0 ≤ _), (by decide : 23 + 0 ≤ _)⟩)
    dsimp only [Pt.U, Pt.locs, Pt.cells, Pt.slots] at X263 l263 y263 z263 st263 hQ263
    subst l263 y263 z263
    obtain ⟨rfl, Nq263, Eq263⟩ := hQ263
    have N264 := Fr.app N262 Nq263
    refine ownSt st263 ?_
    show ownG p.tables e below _ (T263.setTop (mkF m 235 #[.val (.long q1), .second, .val (.long q2), .second, .val (.long q3), .second, .val (.long q4), .second, .val (.int p5), .val (.int p6), .val (.ref b125), .val (.ref b135), .val (.int (p6.toInt8.toInt32)), .val (.int (((p6.toUInt32 >>> ((8 : Int32) &&& 31).toUInt32).toInt32).toInt8.toInt32)), .val (.ref b155), .val (.int (1 : Int32)), .val (.ref x217), .val (.ref x231), .val (.ref b135), .val (.ref b155), .val (.ref x217)] [(.long q1)]))
    refine ownBy (A := T263.setTop (mkF m 242 #[.val (.long q1), .second, .val (.long q2), .second, .val (.long q3), .second, .val (.long q4), .second, .val (.int p5), .val (.int p6), .val (.ref b125), .val (.ref b135), .val (.int (p6.toInt8.toInt32)), .val (.int (((p6.toUInt32 >>> ((8 : Int32) &&& 31).toUInt32).toInt32).toInt8.toInt32)), .val (.ref b155), .val (.int (1 : Int32)), .val (.ref x217), .val (.ref x231), .val (.ref b135), .val (.ref b155), .val (.ref x217)] [(.ref x231)])) (fun t kt => ?_) ?_
    · show Steps p.tables e below (T263.setTop (mkF m 235 #[.val (.long q1), .second, .val (.long q2), .second, .val (.long q3), .second, .val (.long q4), .second, .val (.int p5), .val (.int p6), .val (.ref b125), .val (.ref b135), .val (.int (p6.toInt8.toInt32)), .val (.int (((p6.toUInt32 >>> ((8 : Int32) &&& 31).toUInt32).toInt32).toInt8.toInt32)), .val (.ref b155), .val (.int (1 : Int32)), .val (.ref x217), .val (.ref x231), .val (.ref b135), .val (.ref b155), .val (.ref x217)] [(.long q1)])) t
      refine XS.lloadN X263.here hx rfl (hb hby at_235) rfl ?_
      show Steps p.tables e below (T263.setTop (mkF m 236 #[.val (.long q1), .second, .val (.long q2), .second, .val (.long q3), .second, .val (.long q4), .second, .val (.int p5), .val (.int p6), .val (.ref b125), .val (.ref b135), .val (.int (p6.toInt8.toInt32)), .val (.int (((p6.toUInt32 >>> ((8 : Int32) &&& 31).toUInt32).toInt32).toInt8.toInt32)), .val (.ref b155), .val (.int (1 : Int32)), .val (.ref x217), .val (.ref x231), .val (.ref b135), .val (.ref b155), .val (.ref x217)] [(.long q1), (.long q1)])) t
      refine XS.lcmp X263.here hx rfl (hb hby at_236) rfl ?_
      show Steps p.tables e below (T263.setTop (mkF m 237 #[.val (.long q1), .second, .val (.long q2), .second, .val (.long q3), .second, .val (.long q4), .second, .val (.int p5), .val (.int p6), .val (.ref b125), .val (.ref b135), .val (.int (p6.toInt8.toInt32)), .val (.int (((p6.toUInt32 >>> ((8 : Int32) &&& 31).toUInt32).toInt32).toInt8.toInt32)), .val (.ref b155), .val (.int (1 : Int32)), .val (.ref x217), .val (.ref x231), .val (.ref b135), .val (.ref b155), .val (.ref x217)] [(.int (lcmpW q1 q1))])) t
      refine XS.ifNo X263.here hx rfl (hb hby at_237) rfl ((if0 _ _).trans (teq (own_lcmp_self q1)).2) ?_
      show Steps p.tables e below (T263.setTop (mkF m 240 #[.val (.long q1), .second, .val (.long q2), .second, .val (.long q3), .second, .val (.long q4), .second, .val (.int p5), .val (.int p6), .val (.ref b125), .val (.ref b135), .val (.int (p6.toInt8.toInt32)), .val (.int (((p6.toUInt32 >>> ((8 : Int32) &&& 31).toUInt32).toInt32).toInt8.toInt32)), .val (.ref b155), .val (.int (1 : Int32)), .val (.ref x217), .val (.ref x231), .val (.ref b135), .val (.ref b155), .val (.ref x217)] [])) t
      refine XS.aload X263.here hx rfl (hb hby at_240) rfl rfl ?_
      exact kt
    obtain ⟨cq265, kq265, q265a, q265b, q265c⟩ := isOf hZ Eq263 Eq231
    obtain ⟨_, _, ⟨T265, L265, k265, n265⟩, -, X265, ⟨Lc265, hQ265, l265, y265, z265⟩, st265⟩ := X263.virtualBack hx (y := (⟨"com/example/sakuin/sakuin/engine/Operation", "seqNo", "()J"⟩ : MethodName)) (z := (⟨"com/example/sakuin/sakuin/engine/Operation", "seqNo", "()J"⟩ : MethodName)) hown (mvT hZ (hw _ (List.mem_of_getElem? (i := 86) rfl))) (mvT hZ (hw _ (List.mem_of_getElem? (i := 87) rfl))) (notFace_of_selects (args := #[]) (mvT hZ (hw _ (List.mem_of_getElem? (i := 89) rfl)))) (mvT hZ (hw _ (List.mem_of_getElem? (i := 89) rfl))) (mvT hZ (hw _ (List.mem_of_getElem? (i := 88) rfl))) (by decide) (backOf (W := 0) (c_get5 l Z a0 hw [] x231 q2 T231.heap n0 f245 Fq231_5) hZ (hw _ (List.mem_of_getElem? (i := 90) rfl)) (hw _ (List.mem_of_getElem? (i := 32) rfl)) (by decide) (by decide)) q265a q265c (g := (mkF m 242 #[.val (.long q1), .second, .val (.long q2), .second, .val (.long q3), .second, .val (.long q4), .second, .val (.int p5), .val (.int p6), .val (.ref b125), .val (.ref b135), .val (.int (p6.toInt8.toInt32)), .val (.int (((p6.toUInt32 >>> ((8 : Int32) &&& 31).toUInt32).toInt32).toInt8.toInt32)), .val (.ref b155), .val (.int (1 : Int32)), .val (.ref x217), .val (.ref x231), .val (.ref b135), .val (.ref b155), .val (.ref x217)] [(.ref x231)])) rfl (by rw [hml]; rfl) (Steps.refl _) (argsL := []) (rest := []) (lenOf pd_207 rfl) rfl (by show 2 * 0 + _ ≤ _; exact Nat.le_of_eq rfl) (hb hby at_242) (fun _ _ => ⟨rfl, Eq263, (by decide : 7 + 0 ≤ _), (by decide : 23 + 0 ≤ _)⟩)
    dsimp only [Pt.U, Pt.locs, Pt.cells, Pt.slots] at X265 l265 y265 z265 st265 hQ265
    subst l265 y265 z265
    obtain ⟨rfl, Nq265, Eq265⟩ := hQ265
    have N266 := Fr.app N264 Nq265
    refine ownSt st265 ?_
    show ownG p.tables e below _ (T265.setTop (mkF m 245 #[.val (.long q1), .second, .val (.long q2), .second, .val (.long q3), .second, .val (.long q4), .second, .val (.int p5), .val (.int p6), .val (.ref b125), .val (.ref b135), .val (.int (p6.toInt8.toInt32)), .val (.int (((p6.toUInt32 >>> ((8 : Int32) &&& 31).toUInt32).toInt32).toInt8.toInt32)), .val (.ref b155), .val (.int (1 : Int32)), .val (.ref x217), .val (.ref x231), .val (.ref b135), .val (.ref b155), .val (.ref x217)] [(.long q2)]))
    refine ownBy (A := T265.setTop (mkF m 252 #[.val (.long q1), .second, .val (.long q2), .second, .val (.long q3), .second, .val (.long q4), .second, .val (.int p5), .val (.int p6), .val (.ref b125), .val (.ref b135), .val (.int (p6.toInt8.toInt32)), .val (.int (((p6.toUInt32 >>> ((8 : Int32) &&& 31).toUInt32).toInt32).toInt8.toInt32)), .val (.ref b155), .val (.int (1 : Int32)), .val (.ref x217), .val (.ref x231), .val (.ref b135), .val (.ref b155), .val (.ref x217)] [(.ref x231)])) (fun t kt => ?_) ?_
    · show Steps p.tables e below (T265.setTop (mkF m 245 #[.val (.long q1), .second, .val (.long q2), .second, .val (.long q3), .second, .val (.long q4), .second, .val (.int p5), .val (.int p6), .val (.ref b125), .val (.ref b135), .val (.int (p6.toInt8.toInt32)), .val (.int (((p6.toUInt32 >>> ((8 : Int32) &&& 31).toUInt32).toInt32).toInt8.toInt32)), .val (.ref b155), .val (.int (1 : Int32)), .val (.ref x217), .val (.ref x231), .val (.ref b135), .val (.ref b155), .val (.ref x217)] [(.long q2)])) t
      refine XS.lloadN X265.here hx rfl (hb hby at_245) rfl ?_
      show Steps p.tables e below (T265.setTop (mkF m 246 #[.val (.long q1), .second, .val (.long q2), .second, .val (.long q3), .second, .val (.long q4), .second, .val (.int p5), .val (.int p6), .val (.ref b125), .val (.ref b135), .val (.int (p6.toInt8.toInt32)), .val (.int (((p6.toUInt32 >>> ((8 : Int32) &&& 31).toUInt32).toInt32).toInt8.toInt32)), .val (.ref b155), .val (.int (1 : Int32)), .val (.ref x217), .val (.ref x231), .val (.ref b135), .val (.ref b155), .val (.ref x217)] [(.long q2), (.long q2)])) t
      refine XS.lcmp X265.here hx rfl (hb hby at_246) rfl ?_
      show Steps p.tables e below (T265.setTop (mkF m 247 #[.val (.long q1), .second, .val (.long q2), .second, .val (.long q3), .second, .val (.long q4), .second, .val (.int p5), .val (.int p6), .val (.ref b125), .val (.ref b135), .val (.int (p6.toInt8.toInt32)), .val (.int (((p6.toUInt32 >>> ((8 : Int32) &&& 31).toUInt32).toInt32).toInt8.toInt32)), .val (.ref b155), .val (.int (1 : Int32)), .val (.ref x217), .val (.ref x231), .val (.ref b135), .val (.ref b155), .val (.ref x217)] [(.int (lcmpW q2 q2))])) t
      refine XS.ifNo X265.here hx rfl (hb hby at_247) rfl ((if0 _ _).trans (teq (own_lcmp_self q2)).2) ?_
      show Steps p.tables e below (T265.setTop (mkF m 250 #[.val (.long q1), .second, .val (.long q2), .second, .val (.long q3), .second, .val (.long q4), .second, .val (.int p5), .val (.int p6), .val (.ref b125), .val (.ref b135), .val (.int (p6.toInt8.toInt32)), .val (.int (((p6.toUInt32 >>> ((8 : Int32) &&& 31).toUInt32).toInt32).toInt8.toInt32)), .val (.ref b155), .val (.int (1 : Int32)), .val (.ref x217), .val (.ref x231), .val (.ref b135), .val (.ref b155), .val (.ref x217)] [])) t
      refine XS.aload X265.here hx rfl (hb hby at_250) rfl rfl ?_
      exact kt
    obtain ⟨cq267, kq267, q267a, q267b, q267c⟩ := isOf hZ Eq265 Eq231
    obtain ⟨_, _, ⟨T267, L267, k267, n267⟩, -, X267, ⟨Lc267, hQ267, l267, y267, z267⟩, st267⟩ := X265.virtualBack hx (y := (⟨"com/example/sakuin/sakuin/engine/Operation", "primaryTerm", "()J"⟩ : MethodName)) (z := (⟨"com/example/sakuin/sakuin/engine/Operation", "primaryTerm", "()J"⟩ : MethodName)) hown (mvT hZ (hw _ (List.mem_of_getElem? (i := 91) rfl))) (mvT hZ (hw _ (List.mem_of_getElem? (i := 92) rfl))) (notFace_of_selects (args := #[]) (mvT hZ (hw _ (List.mem_of_getElem? (i := 94) rfl)))) (mvT hZ (hw _ (List.mem_of_getElem? (i := 94) rfl))) (mvT hZ (hw _ (List.mem_of_getElem? (i := 93) rfl))) (by decide) (backOf (W := 0) (c_get6 l Z a0 hw [] x231 q3 T231.heap n0 f245 Fq231_6) hZ (hw _ (List.mem_of_getElem? (i := 95) rfl)) (hw _ (List.mem_of_getElem? (i := 32) rfl)) (by decide) (by decide)) q267a q267c (g := (mkF m 252 #[.val (.long q1), .second, .val (.long q2), .second, .val (.long q3), .second, .val (.long q4), .second, .val (.int p5), .val (.int p6), .val (.ref b125), .val (.ref b135), .val (.int (p6.toInt8.toInt32)), .val (.int (((p6.toUInt32 >>> ((8 : Int32) &&& 31).toUInt32).toInt32).toInt8.toInt32)), .val (.ref b155), .val (.int (1 : Int32)), .val (.ref x217), .val (.ref x231), .val (.ref b135), .val (.ref b155), .val (.ref x217)] [(.ref x231)])) rfl (by rw [hml]; rfl) (Steps.refl _) (argsL := []) (rest := []) (lenOf pd_207 rfl) rfl (by show 2 * 0 + _ ≤ _; exact Nat.le_of_eq rfl) (hb hby at_252) (fun _ _ => ⟨rfl, Eq265, (by decide : 7 + 0 ≤ _), (by decide : 23 + 0 ≤ _)⟩)
    dsimp only [Pt.U, Pt.locs, Pt.cells, Pt.slots] at X267 l267 y267 z267 st267 hQ267
    subst l267 y267 z267
    obtain ⟨rfl, Nq267, Eq267⟩ := hQ267
    have N268 := Fr.app N266 Nq267
    refine ownSt st267 ?_
    show ownG p.tables e below _ (T267.setTop (mkF m 255 #[.val (.long q1), .second, .val (.long q2), .second, .val (.long q3), .second, .val (.long q4), .second, .val (.int p5), .val (.int p6), .val (.ref b125), .val (.ref b135), .val (.int (p6.toInt8.toInt32)), .val (.int (((p6.toUInt32 >>> ((8 : Int32) &&& 31).toUInt32).toInt32).toInt8.toInt32)), .val (.ref b155), .val (.int (1 : Int32)), .val (.ref x217), .val (.ref x231), .val (.ref b135), .val (.ref b155), .val (.ref x217)] [(.long q3)]))
    refine ownBy (A := T267.setTop (mkF m 263 #[.val (.long q1), .second, .val (.long q2), .second, .val (.long q3), .second, .val (.long q4), .second, .val (.int p5), .val (.int p6), .val (.ref b125), .val (.ref b135), .val (.int (p6.toInt8.toInt32)), .val (.int (((p6.toUInt32 >>> ((8 : Int32) &&& 31).toUInt32).toInt32).toInt8.toInt32)), .val (.ref b155), .val (.int (1 : Int32)), .val (.ref x217), .val (.ref x231), .val (.ref b135), .val (.ref b155), .val (.ref x217)] [(.ref x231)])) (fun t kt => ?_) ?_
    · show Steps p.tables e below (T267.setTop (mkF m 255 #[.val (.long q1), .second, .val (.long q2), .second, .val (.long q3), .second, .val (.long q4), .second, .val (.int p5), .val (.int p6), .val (.ref b125), .val (.ref b135), .val (.int (p6.toInt8.toInt32)), .val (.int (((p6.toUInt32 >>> ((8 : Int32) &&& 31).toUInt32).toInt32).toInt8.toInt32)), .val (.ref b155), .val (.int (1 : Int32)), .val (.ref x217), .val (.ref x231), .val (.ref b135), .val (.ref b155), .val (.ref x217)] [(.long q3)])) t
      refine XS.lload X267.here hx rfl (hb hby at_255) rfl ?_
      show Steps p.tables e below (T267.setTop (mkF m 257 #[.val (.long q1), .second, .val (.long q2), .second, .val (.long q3), .second, .val (.long q4), .second, .val (.int p5), .val (.int p6), .val (.ref b125), .val (.ref b135), .val (.int (p6.toInt8.toInt32)), .val (.int (((p6.toUInt32 >>> ((8 : Int32) &&& 31).toUInt32).toInt32).toInt8.toInt32)), .val (.ref b155), .val (.int (1 : Int32)), .val (.ref x217), .val (.ref x231), .val (.ref b135), .val (.ref b155), .val (.ref x217)] [(.long q3), (.long q3)])) t
      refine XS.lcmp X267.here hx rfl (hb hby at_257) rfl ?_
      show Steps p.tables e below (T267.setTop (mkF m 258 #[.val (.long q1), .second, .val (.long q2), .second, .val (.long q3), .second, .val (.long q4), .second, .val (.int p5), .val (.int p6), .val (.ref b125), .val (.ref b135), .val (.int (p6.toInt8.toInt32)), .val (.int (((p6.toUInt32 >>> ((8 : Int32) &&& 31).toUInt32).toInt32).toInt8.toInt32)), .val (.ref b155), .val (.int (1 : Int32)), .val (.ref x217), .val (.ref x231), .val (.ref b135), .val (.ref b155), .val (.ref x217)] [(.int (lcmpW q3 q3))])) t
      refine XS.ifNo X267.here hx rfl (hb hby at_258) rfl ((if0 _ _).trans (teq (own_lcmp_self q3)).2) ?_
      show Steps p.tables e below (T267.setTop (mkF m 261 #[.val (.long q1), .second, .val (.long q2), .second, .val (.long q3), .second, .val (.long q4), .second, .val (.int p5), .val (.int p6), .val (.ref b125), .val (.ref b135), .val (.int (p6.toInt8.toInt32)), .val (.int (((p6.toUInt32 >>> ((8 : Int32) &&& 31).toUInt32).toInt32).toInt8.toInt32)), .val (.ref b155), .val (.int (1 : Int32)), .val (.ref x217), .val (.ref x231), .val (.ref b135), .val (.ref b155), .val (.ref x217)] [])) t
      refine XS.aload X267.here hx rfl (hb hby at_261) rfl rfl ?_
      exact kt
    obtain ⟨cq269, kq269, q269a, q269b, q269c⟩ := isOf hZ Eq267 Eq231
    obtain ⟨_, _, ⟨T269, L269, k269, n269⟩, -, X269, ⟨Lc269, hQ269, l269, y269, z269⟩, st269⟩ := X267.virtualBack hx (y := (⟨"com/example/sakuin/sakuin/engine/Operation", "time", "()J"⟩ : MethodName)) (z := (⟨"com/example/sakuin/sakuin/engine/Operation", "time", "()J"⟩ : MethodName)) hown (mvT hZ (hw _ (List.mem_of_getElem? (i := 96) rfl))) (mvT hZ (hw _ (List.mem_of_getElem? (i := 97) rfl))) (notFace_of_selects (args := #[]) (mvT hZ (hw _ (List.mem_of_getElem? (i := 99) rfl)))) (mvT hZ (hw _ (List.mem_of_getElem? (i := 99) rfl))) (mvT hZ (hw _ (List.mem_of_getElem? (i := 98) rfl))) (by decide) (backOf (W := 0) (c_get7 l Z a0 hw [] x231 q4 T231.heap n0 f245 Fq231_7) hZ (hw _ (List.mem_of_getElem? (i := 100) rfl)) (hw _ (List.mem_of_getElem? (i := 32) rfl)) (by decide) (by decide)) q269a q269c (g := (mkF m 263 #[.val (.long q1), .second, .val (.long q2), .second, .val (.long q3), .second, .val (.long q4), .second, .val (.int p5), .val (.int p6), .val (.ref b125), .val (.ref b135), .val (.int (p6.toInt8.toInt32)), .val (.int (((p6.toUInt32 >>> ((8 : Int32) &&& 31).toUInt32).toInt32).toInt8.toInt32)), .val (.ref b155), .val (.int (1 : Int32)), .val (.ref x217), .val (.ref x231), .val (.ref b135), .val (.ref b155), .val (.ref x217)] [(.ref x231)])) rfl (by rw [hml]; rfl) (Steps.refl _) (argsL := []) (rest := []) (lenOf pd_207 rfl) rfl (by show 2 * 0 + _ ≤ _; exact Nat.le_of_eq rfl) (hb hby at_263) (fun _ _ => ⟨rfl, Eq267, (by decide : 7 + 0 ≤ _), (by decide : 23 + 0 ≤ _)⟩)
    dsimp only [Pt.U, Pt.locs, Pt.cells, Pt.slots] at X269 l269 y269 z269 st269 hQ269
    subst l269 y269 z269
    obtain ⟨rfl, Nq269, Eq269⟩ := hQ269
    have N270 := Fr.app N268 Nq269
    refine ownSt st269 ?_
    show ownG p.tables e below _ (T269.setTop (mkF m 266 #[.val (.long q1), .second, .val (.long q2), .second, .val (.long q3), .second, .val (.long q4), .second, .val (.int p5), .val (.int p6), .val (.ref b125), .val (.ref b135), .val (.int (p6.toInt8.toInt32)), .val (.int (((p6.toUInt32 >>> ((8 : Int32) &&& 31).toUInt32).toInt32).toInt8.toInt32)), .val (.ref b155), .val (.int (1 : Int32)), .val (.ref x217), .val (.ref x231), .val (.ref b135), .val (.ref b155), .val (.ref x217)] [(.long q4)]))
    refine ownBy (A := T269.setTop (mkF m 277 #[.val (.long q1), .second, .val (.long q2), .second, .val (.long q3), .second, .val (.long q4), .second, .val (.int p5), .val (.int p6), .val (.ref b125), .val (.ref b135), .val (.int (p6.toInt8.toInt32)), .val (.int (((p6.toUInt32 >>> ((8 : Int32) &&& 31).toUInt32).toInt32).toInt8.toInt32)), .val (.ref b155), .val (.int (1 : Int32)), .val (.ref x217), .val (.ref x231), .val (.ref b135), .val (.ref b155), .val (.ref x217)] [(.int (1 : Int32))])) (fun t kt => ?_) ?_
    · show Steps p.tables e below (T269.setTop (mkF m 266 #[.val (.long q1), .second, .val (.long q2), .second, .val (.long q3), .second, .val (.long q4), .second, .val (.int p5), .val (.int p6), .val (.ref b125), .val (.ref b135), .val (.int (p6.toInt8.toInt32)), .val (.int (((p6.toUInt32 >>> ((8 : Int32) &&& 31).toUInt32).toInt32).toInt8.toInt32)), .val (.ref b155), .val (.int (1 : Int32)), .val (.ref x217), .val (.ref x231), .val (.ref b135), .val (.ref b155), .val (.ref x217)] [(.long q4)])) t
      refine XS.lload X269.here hx rfl (hb hby at_266) rfl ?_
      show Steps p.tables e below (T269.setTop (mkF m 268 #[.val (.long q1), .second, .val (.long q2), .second, .val (.long q3), .second, .val (.long q4), .second, .val (.int p5), .val (.int p6), .val (.ref b125), .val (.ref b135), .val (.int (p6.toInt8.toInt32)), .val (.int (((p6.toUInt32 >>> ((8 : Int32) &&& 31).toUInt32).toInt32).toInt8.toInt32)), .val (.ref b155), .val (.int (1 : Int32)), .val (.ref x217), .val (.ref x231), .val (.ref b135), .val (.ref b155), .val (.ref x217)] [(.long q4), (.long q4)])) t
      refine XS.lcmp X269.here hx rfl (hb hby at_268) rfl ?_
      show Steps p.tables e below (T269.setTop (mkF m 269 #[.val (.long q1), .second, .val (.long q2), .second, .val (.long q3), .second, .val (.long q4), .second, .val (.int p5), .val (.int p6), .val (.ref b125), .val (.ref b135), .val (.int (p6.toInt8.toInt32)), .val (.int (((p6.toUInt32 >>> ((8 : Int32) &&& 31).toUInt32).toInt32).toInt8.toInt32)), .val (.ref b155), .val (.int (1 : Int32)), .val (.ref x217), .val (.ref x231), .val (.ref b135), .val (.ref b155), .val (.ref x217)] [(.int (lcmpW q4 q4))])) t
      refine XS.ifNo X269.here hx rfl (hb hby at_269) rfl ((if0 _ _).trans (teq (own_lcmp_self q4)).2) ?_
      show Steps p.tables e below (T269.setTop (mkF m 272 #[.val (.long q1), .second, .val (.long q2), .second, .val (.long q3), .second, .val (.long q4), .second, .val (.int p5), .val (.int p6), .val (.ref b125), .val (.ref b135), .val (.int (p6.toInt8.toInt32)), .val (.int (((p6.toUInt32 >>> ((8 : Int32) &&& 31).toUInt32).toInt32).toInt8.toInt32)), .val (.ref b155), .val (.int (1 : Int32)), .val (.ref x217), .val (.ref x231), .val (.ref b135), .val (.ref b155), .val (.ref x217)] [])) t
      refine XS.iconst X269.here hx rfl (hb hby at_272) ?_
      show Steps p.tables e below (T269.setTop (mkF m 273 #[.val (.long q1), .second, .val (.long q2), .second, .val (.long q3), .second, .val (.long q4), .second, .val (.int p5), .val (.int p6), .val (.ref b125), .val (.ref b135), .val (.int (p6.toInt8.toInt32)), .val (.int (((p6.toUInt32 >>> ((8 : Int32) &&& 31).toUInt32).toInt32).toInt8.toInt32)), .val (.ref b155), .val (.int (1 : Int32)), .val (.ref x217), .val (.ref x231), .val (.ref b135), .val (.ref b155), .val (.ref x217)] [(.int (1 : Int32))])) t
      refine XS.goto X269.here hx rfl (pc0 := 273) (pc' := 277) rfl (hb hby at_273) (by decide) (by decide) ?_
      exact kt
    refine ownRet X269 Bd.notSynchronized (v := some (.int (nar .boolean (1 : Int32)))) (fun h => by rw [Bd.returns] at h; cases h) ?_ (Nat.le_of_ble_eq_true rfl) (Nat.le_of_ble_eq_true rfl) (fun fs hr => retN X269 hx (t := .boolean) Bd.returns (by simp) (hb hby at_277) hr)
    show (Q_law Z q1 q2 q3 q4 p5 p6 G1 h0 n0) (some (.int (nar .boolean (1 : Int32)))) T269.heap _
    rw [Eq269]
    exact ⟨rfl, N270⟩
set_option maxRecDepth 65536 in
set_option maxHeartbeats 40000000 in
theorem comes_1 {Post : Tables → Env → Array Value → State → Outcome → State → Prop} (hpost : ∀ tb e args s v u, (limb_1_1.after args s (.returned v) u = true ∧ limb_1_2.after args s (.returned v) u = true ∧ True) → FrameEnd s (.returned v) u (Jvm.fieldLocs frame_1_writes args s ++ Jvm.arrayLocs frame_1_arrays args s ++ Jvm.staticLocs frame_1_statics s) 24 128 → Post tb e args s (.returned v) u) :
    ArmFor flags0 classFile x code maxLocals ret World_1 tables_1 room_1 Calls_1 rest_1 Pre_1 Post := by
  intro l hfl _ _ p e ha hc hk s m args below hf hA hF happ hP
  obtain ⟨hcalls, hrest, hpre⟩ := hP
  obtain ⟨-, -, -, hnamed, -, -, -, hat⟩ := (Spec.applies_iff hf).mp happ
  obtain ⟨hg, hn⟩ := and_e (Cond.before_iff.mp (show (Jvm.Cond.and given_1 narrow_1).before args s = true from hpre))
  obtain ⟨g271, g272⟩ := and_e hg
  obtain ⟨g273, g274⟩ := and_e g272
  obtain ⟨g275, g276⟩ := and_e g274
  obtain ⟨g277, g278⟩ := and_e g276
  obtain ⟨g279, g280⟩ := and_e g278
  obtain ⟨g281, g282⟩ := and_e g280
  obtain ⟨w0, w1, w2, w3, w4, w5, rfl⟩ : ∃ w0 w1 w2 w3 w4 w5 : Value, args = #[w0, w1, w2, w3, w4, w5] := by
    have hs : args.size = 6 := by simpa [Cond.value, given_1] using g271
    obtain ⟨L⟩ := args
    match L, hs with
    | [w0, w1, w2, w3, w4, w5], _ => exact ⟨w0, w1, w2, w3, w4, w5, rfl⟩
  have hw := fun d (hd : d ∈ tables_1) => atoms_spec (ws := Jvm.Cond.code x code maxLocals ret :: tables_1) hat d (List.mem_cons_of_mem _ hd)
  have hfit : Fit s := fun {y c} hc i hi => by
    obtain ⟨ha, rfl⟩ := Array.getElem?_eq_some_iff.mp hc
    have q := List.all_eq_true.mp ((Array.all_eq_true_iff_forall_mem.mp hF) _ (Array.getElem_mem ha)) i (List.mem_range.mpr hi)
    simpa [Array.getElem?_eq_getElem hi] using q
  obtain ⟨hsets, hown0⟩ := atoms_of _ (rest_1_c_eq ▸ (show rest_1_c.before _ s = true from hrest))
  have hr0 := Cond.before_iff.mp hown0
  obtain ⟨i0, ei0⟩ := isL_v g273
  obtain rfl : w0 = (.long i0) := Option.some.inj ei0
  obtain ⟨i1, ei1⟩ := isL_v g275
  obtain rfl : w1 = (.long i1) := Option.some.inj ei1
  obtain ⟨i2, ei2⟩ := isL_v g277
  obtain rfl : w2 = (.long i2) := Option.some.inj ei2
  obtain ⟨i3, ei3⟩ := isL_v g279
  obtain rfl : w3 = (.long i3) := Option.some.inj ei3
  obtain ⟨i4, ei4⟩ := is_v g281
  obtain rfl : w4 = (.int i4) := Option.some.inj ei4
  obtain ⟨i5, ei5⟩ := is_v g282
  obtain rfl : w5 = (.int i5) := Option.some.inj ei5
  obtain ⟨G1, eG1⟩ := is_v (Cond.before_iff.mp (hsets _ (List.mem_of_getElem? (i := 1) rfl)))
  have O2 := Sta.start eG1 (Or.inl (hsets _ (List.mem_of_getElem? (i := 0) rfl)))
  have P5 : ¬ (G1 = (0 : Int32)) := own_nz eG1 (Cond.before_iff.mp (hsets _ (List.mem_of_getElem? (i := 2) rfl)))
  obtain ⟨n, o, h1, h2, h3, _, L, rfl, ⟨rfl, N⟩, hq⟩ := c_law l s _ hw tables_1 i0 i1 i2 i3 i4 i5 G1 s.heap s.heap.size (Nat.le_refl _) O2 P5 (Old.start s) p e ha hc hk s m _ below hf ((Spec.applies_iff_loose hf).mp happ).1 ⟨rfl, State.Warmed39.refl s, rfl⟩ trivial
  refine ⟨n, _, h1, h2, h3, hpost _ _ _ _ _ _ ⟨Cond.after_iff.mpr rfl, Cond.after_iff.mpr (eq_i res_at (Term.int_eval (1)) rfl), trivial⟩ ⟨hq.1, hq.2.1, (hq.2.2.sift fun y hy => Or.inr (N y hy)).mono (by decide) (by decide)⟩⟩
theorem main_1_1 : Claimed_1_1 := comes_1 fun _ _ _ _ _ _ h hF => ⟨h.1, hF⟩
theorem main_1_2 : Claimed_1_2 := comes_1 fun _ _ _ _ _ _ h hF => ⟨h.2.1, hF⟩
end Jvm.Pilot.@@N@@
namespace Jvm.Pilot.@@N@@
open Jvm Jvm.ClassFile Sem Op Lib Jvm.Free Jvm.Stand Jvm.Pilot.@@N@@.Jvm.D
/-! MADE BY PROGRAM (witnessworld.py) out of the Statement's table words and the real class files: 20 classes; the members and pool entries that the words name. The judged class is class 1, her method 1. -/
namespace start1
open Jvm.ClassFile
def u (s : String) : CpInfo := .utf8 (stringToUtf16 s)
/-- a pool by its gaps: so many unusable entries, then the entry; so many at the end -/
def gap : Nat → List CpInfo → List CpInfo
  | 0, r => r
  | n + 1, r => .unusable :: gap n r
def poolList (es : List (Nat × CpInfo)) (last : Nat) : List CpInfo := es.foldr (fun e r => gap e.1 (e.2 :: r)) (gap last [])
def pool (es : List (Nat × CpInfo)) (last : Nat) : Array CpInfo := ⟨poolList es last⟩
def fileOf (pool : Array CpInfo) (this : Nat) (attrs : Array Attribute := #[]) (ms : Array MethodInfo := #[]) (fl : Nat := 33) (sup : Nat := 0) (ifs : Array Nat := #[]) (fds : Array FieldInfo := #[]) : ClassFile where
  minorVersion := 0
  majorVersion := 65
  constantPool := pool
  accessFlags := fl
  thisClass := this
  superClass := sup
  interfaces := ifs
  fields := fds
  methods := ms
  attributes := attrs
def plain (name : String) (sup : Option ClassId) : Class where
  name := name
  kind := .ordinary
  loader := none
  accessFlags := 33
  super := sup
  interfaces := #[]
  cf := none
  fields := #[]
  methods := #[]
  instanceTypes := #[]
  staticTypes := #[]
  resolved := #[]
  callSites := []
  init := .initialized
  statics := none
  mirror := none

def pool0 : Array CpInfo := pool [(5, u "<init>"), (0, u "()V"), (1, .class_ 10), (1, u "java/lang/Object")] 113

def k0c0 : Code := { maxStack := 0, maxLocals := 1, code := object_method_1_code, exceptionTable := #[], attributes := #[] }
def k0m0 : Method := { name := "<init>", desc := "()V", sig := { parameters := [], returnType := none }, accessFlags := 1, code := some k0c0 }
/-- java/lang/Object -/
def k0 : Class := { plain "java/lang/Object" none with
  accessFlags := 33
  interfaces := #[]
  cf := some (fileOf pool0 8 #[] #[{ accessFlags := 1, nameIndex := 5, descriptorIndex := 6, attributes := #[] }] 33 0 #[] #[])
  fields := #[]
  methods := #[k0m0]
  instanceTypes := #[]
  staticTypes := #[]
  resolved := Array.replicate 124 none
  statics := none }

def pool1 : Array CpInfo := pool [(2, .class_ 4), (1, u "java/lang/Object"), (0, u "<init>"), (0, u "()V"), (0, .class_ 8), (0, u "java/lang/String"), (0, .methodref 7 10), (0, .nameAndType 5 11), (0, u "([C)V"), (0, .methodref 7 13), (0, .nameAndType 14 15), (0, u "valueOf"), (0, u "(C)Ljava/lang/String;"), (0, .methodref 17 18), (0, .class_ 19), (0, .nameAndType 20 21), (0, u "com/example/sakuin/sakuin/engine/Operation"), (0, u "index"), (0, u "(Ljava/lang/String;[BLjava/lang/String;JJJJ)Lcom/example/sakuin/sakuin/engine/Operation;"), (0, .methodref 17 23), (0, .nameAndType 24 25), (0, u "isDelete"), (0, u "()Z"), (0, .methodref 17 27), (0, .nameAndType 28 29), (0, u "id"), (0, u "()Ljava/lang/String;"), (0, .methodref 7 31), (0, .nameAndType 32 33), (0, u "equals"), (0, u "(Ljava/lang/Object;)Z"), (0, .methodref 17 35), (0, .nameAndType 36 37), (0, u "source"), (0, u "()[B"), (0, .methodref 17 39), (0, .nameAndType 40 29), (0, u "routing"), (0, .methodref 17 42), (0, .nameAndType 43 44), (0, u "version"), (0, u "()J"), (0, .methodref 17 46), (0, .nameAndType 47 44), (0, u "seqNo"), (0, .methodref 17 49), (0, .nameAndType 50 44), (0, u "primaryTerm"), (0, .methodref 17 52), (0, .nameAndType 53 44), (0, u "time"), (0, .class_ 55), (0, u "com/example/sakuin/sakuin/engine/OperationIndexPinLaw"), (2, u "law"), (0, u "(JJJJII)Z")] 7

def k1m0 : Method := { name := "<init>", desc := "()V", sig := { parameters := [], returnType := none }, accessFlags := 1, code := none }
def k1c1 : Code := { maxStack := 11, maxLocals := 21, code := code, exceptionTable := #[], attributes := #[] }
def k1m1 : Method := { name := "law", desc := "(JJJJII)Z", sig := { parameters := [.long, .long, .long, .long, .int, .int], returnType := some .boolean }, accessFlags := 9, code := some k1c1 }
/-- com/example/sakuin/sakuin/engine/OperationIndexPinLaw -/
def k1 : Class := { plain "com/example/sakuin/sakuin/engine/OperationIndexPinLaw" (some 0) with
  accessFlags := 49
  interfaces := #[]
  cf := some (fileOf pool1 54 #[] #[{ accessFlags := 1, nameIndex := 5, descriptorIndex := 6, attributes := #[] }, { accessFlags := 9, nameIndex := 58, descriptorIndex := 59, attributes := #[] }] 49 2 #[] #[])
  fields := #[]
  methods := #[k1m0, k1m1]
  instanceTypes := #[]
  staticTypes := #[]
  resolved := Array.replicate 67 none
  statics := none }

def pool2 : Array CpInfo := pool [(1, .class_ 2), (0, u "java/io/Serializable"), (0, .class_ 4), (0, u "java/lang/Object")] 2

/-- java/io/Serializable -/
def k2 : Class := { plain "java/io/Serializable" (some 0) with
  accessFlags := 1537
  interfaces := #[]
  cf := some (fileOf pool2 1 #[] #[] 1537 3 #[] #[])
  fields := #[]
  methods := #[]
  instanceTypes := #[]
  staticTypes := #[]
  resolved := Array.replicate 7 none
  statics := none }

def pool3 : Array CpInfo := pool [(1, .class_ 2), (0, u "java/lang/Comparable"), (0, .class_ 4), (0, u "java/lang/Object")] 7

/-- java/lang/Comparable -/
def k3 : Class := { plain "java/lang/Comparable" (some 0) with
  accessFlags := 1537
  interfaces := #[]
  cf := some (fileOf pool3 1 #[] #[] 1537 3 #[] #[])
  fields := #[]
  methods := #[]
  instanceTypes := #[]
  staticTypes := #[]
  resolved := Array.replicate 12 none
  statics := none }

def pool4 : Array CpInfo := pool [(2, .class_ 4), (1, u "java/lang/CharSequence"), (42, .class_ 48), (0, u "java/lang/CharSequence$1CodePointIterator"), (10, .class_ 60), (0, u "java/lang/CharSequence$1CharIterator"), (5, .class_ 67), (0, u "java/lang/Object")] 63

/-- java/lang/CharSequence -/
def k4 : Class := { plain "java/lang/CharSequence" (some 0) with
  accessFlags := 1537
  interfaces := #[]
  cf := some (fileOf pool4 2 #[.nestMembers #[47, 59]] #[] 1537 66 #[] #[])
  fields := #[]
  methods := #[]
  instanceTypes := #[]
  staticTypes := #[]
  resolved := Array.replicate 131 none
  statics := none }

def pool5 : Array CpInfo := pool [(1, .class_ 2), (0, u "java/lang/constant/Constable"), (0, .class_ 4), (0, u "java/lang/Object")] 6

/-- java/lang/constant/Constable -/
def k5 : Class := { plain "java/lang/constant/Constable" (some 0) with
  accessFlags := 1537
  interfaces := #[]
  cf := some (fileOf pool5 1 #[] #[] 1537 3 #[] #[])
  fields := #[]
  methods := #[]
  instanceTypes := #[]
  staticTypes := #[]
  resolved := Array.replicate 11 none
  statics := none }

def pool6 : Array CpInfo := pool [(1, .class_ 2), (0, u "java/lang/constant/ConstantDesc"), (0, .class_ 4), (0, u "java/lang/Object")] 32

/-- java/lang/constant/ConstantDesc -/
def k6 : Class := { plain "java/lang/constant/ConstantDesc" (some 0) with
  accessFlags := 1537
  interfaces := #[]
  cf := some (fileOf pool6 1 #[] #[] 1537 3 #[] #[])
  fields := #[]
  methods := #[]
  instanceTypes := #[]
  staticTypes := #[]
  resolved := Array.replicate 37 none
  statics := none }

def pool7 : Array CpInfo := pool [(1, .methodref 2 3), (0, .class_ 4), (0, .nameAndType 5 6), (0, u "java/lang/Object"), (0, u "<init>"), (0, u "()V"), (2, .fieldref 10 11), (0, .class_ 12), (0, .nameAndType 13 14), (0, u "java/lang/String"), (0, u "value"), (0, u "[B"), (0, .fieldref 10 16), (0, .nameAndType 17 18), (0, u "coder"), (0, u "B"), (2, u "hash"), (0, u "I"), (2, u "hashIsZero"), (0, u "Z"), (0, .methodref 10 28), (0, .nameAndType 5 29), (0, u "([CIILjava/lang/Void;)V"), (8, .fieldref 10 39), (0, .nameAndType 40 26), (0, u "COMPACT_STRINGS"), (1, .class_ 44), (1, u "java/lang/StringUTF16"), (0, u "compress"), (1, .methodref 42 48), (0, .nameAndType 49 50), (0, u "coderFromArrayLen"), (0, u "([BI)B"), (2, u "toBytes"), (53, .class_ 109), (1, u "java/lang/StringLatin1"), (67, .methodref 42 178), (0, .nameAndType 45 179), (0, u "([CII)[B"), (29, .methodref 10 210), (0, .nameAndType 5 211), (0, u "([BB)V"), (157, u "(C)Z"), (173, u "equals"), (29, u "(Ljava/lang/Object;)Z"), (1, .class_ 576), (0, u "java/lang/CharSequence"), (22, u "CASE_INSENSITIVE_ORDER"), (0, u "Ljava/util/Comparator;"), (181, u "valueOf"), (0, u "(C)Ljava/lang/String;"), (226, u "([C)V"), (4, .methodref 107 1016), (0, .nameAndType 1017 369), (0, u "canEncode"), (0, .methodref 107 1019), (0, .nameAndType 53 1020), (0, u "(C)[B"), (80, u "serialPersistentFields"), (0, u "[Ljava/io/ObjectStreamField;"), (0, .class_ 1104), (0, u "java/lang/String$CaseInsensitiveComparator"), (1, .class_ 1107), (0, u "java/io/Serializable"), (0, .class_ 1109), (0, u "java/lang/Comparable"), (0, .class_ 1111), (0, u "java/lang/constant/Constable"), (0, .class_ 1113), (0, u "java/lang/constant/ConstantDesc"), (2, u "serialVersionUID"), (0, u "J"), (3, u "REPL"), (0, u "C"), (2, u "LATIN1"), (1, u "UTF16")] 323

def k7m0 : Method := { name := "<init>", desc := "()V", sig := { parameters := [], returnType := none }, accessFlags := 1, code := none }
def k7c1 : Code := { maxStack := 5, maxLocals := 2, code := jdk_42_method_3_code, exceptionTable := #[], attributes := #[] }
def k7m1 : Method := { name := "<init>", desc := "([C)V", sig := { parameters := [(.array .char)], returnType := none }, accessFlags := 1, code := some k7c1 }
def k7c2 : Code := { maxStack := 2, maxLocals := 3, code := jdk_42_method_66_code, exceptionTable := #[], attributes := #[] }
def k7m2 : Method := { name := "equals", desc := "(Ljava/lang/Object;)Z", sig := { parameters := [(.object "java/lang/Object")], returnType := some .boolean }, accessFlags := 1, code := some k7c2 }
def k7c3 : Code := { maxStack := 4, maxLocals := 1, code := jdk_42_method_139_code, exceptionTable := #[], attributes := #[] }
def k7m3 : Method := { name := "valueOf", desc := "(C)Ljava/lang/String;", sig := { parameters := [.char], returnType := some (.object "java/lang/String") }, accessFlags := 9, code := some k7c3 }
def k7c4 : Code := { maxStack := 4, maxLocals := 6, code := jdk_42_method_149_code, exceptionTable := #[], attributes := #[] }
def k7m4 : Method := { name := "<init>", desc := "([CIILjava/lang/Void;)V", sig := { parameters := [(.array .char), .int, .int, (.object "java/lang/Void")], returnType := none }, accessFlags := 2, code := some k7c4 }
def k7c5 : Code := { maxStack := 2, maxLocals := 3, code := jdk_42_method_151_code, exceptionTable := #[], attributes := #[] }
def k7m5 : Method := { name := "<init>", desc := "([BB)V", sig := { parameters := [(.array .byte), .byte], returnType := none }, accessFlags := 0, code := some k7c5 }
/-- java/lang/String -/
def k7 : Class := { plain "java/lang/String" (some 0) with
  accessFlags := 49
  interfaces := #[2, 3, 4, 5, 6]
  cf := some (fileOf pool7 10 #[.nestMembers #[1103]] #[{ accessFlags := 1, nameIndex := 5, descriptorIndex := 6, attributes := #[] }, { accessFlags := 1, nameIndex := 5, descriptorIndex := 1010, attributes := #[] }, { accessFlags := 1, nameIndex := 543, descriptorIndex := 573, attributes := #[] }, { accessFlags := 9, nameIndex := 782, descriptorIndex := 783, attributes := #[] }, { accessFlags := 2, nameIndex := 5, descriptorIndex := 29, attributes := #[] }, { accessFlags := 0, nameIndex := 5, descriptorIndex := 211, attributes := #[] }] 49 2 #[1106, 1108, 575, 1110, 1112] #[{ accessFlags := 18, nameIndex := 13, descriptorIndex := 14, attributes := #[] }, { accessFlags := 18, nameIndex := 17, descriptorIndex := 18, attributes := #[] }, { accessFlags := 2, nameIndex := 21, descriptorIndex := 22, attributes := #[] }, { accessFlags := 2, nameIndex := 25, descriptorIndex := 26, attributes := #[] }, { accessFlags := 26, nameIndex := 1116, descriptorIndex := 1117, attributes := #[] }, { accessFlags := 24, nameIndex := 40, descriptorIndex := 26, attributes := #[] }, { accessFlags := 26, nameIndex := 1101, descriptorIndex := 1102, attributes := #[] }, { accessFlags := 26, nameIndex := 1121, descriptorIndex := 1122, attributes := #[] }, { accessFlags := 25, nameIndex := 599, descriptorIndex := 600, attributes := #[] }, { accessFlags := 24, nameIndex := 1125, descriptorIndex := 18, attributes := #[] }, { accessFlags := 24, nameIndex := 1127, descriptorIndex := 18, attributes := #[] }])
  fields := #[{ name := "value", type := (.array .byte), accessFlags := 18, slot := 0, constantValue := 0 }, { name := "coder", type := .byte, accessFlags := 18, slot := 1, constantValue := 0 }, { name := "hash", type := .int, accessFlags := 2, slot := 2, constantValue := 0 }, { name := "hashIsZero", type := .boolean, accessFlags := 2, slot := 3, constantValue := 0 }, { name := "serialVersionUID", type := .long, accessFlags := 26, slot := 0, constantValue := 0 }, { name := "COMPACT_STRINGS", type := .boolean, accessFlags := 24, slot := 1, constantValue := 0 }, { name := "serialPersistentFields", type := (.array (.object "java/io/ObjectStreamField")), accessFlags := 26, slot := 2, constantValue := 0 }, { name := "REPL", type := .char, accessFlags := 26, slot := 3, constantValue := 0 }, { name := "CASE_INSENSITIVE_ORDER", type := (.object "java/util/Comparator"), accessFlags := 25, slot := 4, constantValue := 0 }, { name := "LATIN1", type := .byte, accessFlags := 24, slot := 5, constantValue := 0 }, { name := "UTF16", type := .byte, accessFlags := 24, slot := 6, constantValue := 0 }]
  methods := #[k7m0, k7m1, k7m2, k7m3, k7m4, k7m5]
  instanceTypes := #[(.array .byte), .byte, .int, .boolean]
  staticTypes := #[.long, .boolean, (.array (.object "java/io/ObjectStreamField")), .char, (.object "java/util/Comparator"), .byte, .byte]
  resolved := Array.replicate 1451 none
  statics := some 0 }

def pool8 : Array CpInfo := pool [(6, .class_ 8), (1, u "java/lang/Object"), (0, u "<init>"), (0, u "()V"), (1, .class_ 14), (1, u "java/lang/StringUTF16"), (31, u "$assertionsDisabled"), (0, u "Z"), (13, u "HI_BYTE_SHIFT"), (0, u "I"), (2, u "LO_BYTE_SHIFT"), (49, .methodref 12 116), (0, .nameAndType 117 118), (0, u "compress"), (0, u "([CI[BII)I"), (3, u "([CII)[B"), (138, u "coderFromArrayLen"), (0, u "([BI)B"), (106, .class_ 371), (1, u "java/lang/StringUTF16$LinesSpliterator"), (58, u "MAX_LENGTH"), (196, .class_ 628), (0, u "java/lang/StringUTF16$CodePointsSpliterator"), (0, .class_ 630), (0, u "java/lang/StringUTF16$CharsSpliterator")] 4

def k8m0 : Method := { name := "<init>", desc := "()V", sig := { parameters := [], returnType := none }, accessFlags := 0, code := none }
def k8c1 : Code := { maxStack := 2, maxLocals := 2, code := jdk_52_method_15_code, exceptionTable := #[], attributes := #[] }
def k8m1 : Method := { name := "coderFromArrayLen", desc := "([BI)B", sig := { parameters := [(.array .byte), .int], returnType := some .byte }, accessFlags := 8, code := some k8c1 }
def k8c2 : Code := { maxStack := 5, maxLocals := 6, code := jdk_52_method_16_code, exceptionTable := #[], attributes := #[] }
def k8m2 : Method := { name := "compress", desc := "([CII)[B", sig := { parameters := [(.array .char), .int, .int], returnType := some (.array .byte) }, accessFlags := 9, code := some k8c2 }
def k8c3 : Code := { maxStack := 3, maxLocals := 7, code := jdk_52_method_21_code, exceptionTable := #[], attributes := #[] }
def k8m3 : Method := { name := "compress", desc := "([CI[BII)I", sig := { parameters := [(.array .char), .int, (.array .byte), .int, .int], returnType := some .int }, accessFlags := 9, code := some k8c3 }
/-- java/lang/StringUTF16 -/
def k8 : Class := { plain "java/lang/StringUTF16" (some 0) with
  accessFlags := 48
  interfaces := #[]
  cf := some (fileOf pool8 12 #[.nestMembers #[627, 629, 369]] #[{ accessFlags := 0, nameIndex := 9, descriptorIndex := 10, attributes := #[] }, { accessFlags := 8, nameIndex := 261, descriptorIndex := 262, attributes := #[] }, { accessFlags := 9, nameIndex := 117, descriptorIndex := 122, attributes := #[] }, { accessFlags := 9, nameIndex := 117, descriptorIndex := 118, attributes := #[] }] 48 6 #[] #[{ accessFlags := 26, nameIndex := 61, descriptorIndex := 62, attributes := #[] }, { accessFlags := 26, nameIndex := 65, descriptorIndex := 62, attributes := #[] }, { accessFlags := 24, nameIndex := 430, descriptorIndex := 62, attributes := #[] }, { accessFlags := 4120, nameIndex := 46, descriptorIndex := 47, attributes := #[] }])
  fields := #[{ name := "HI_BYTE_SHIFT", type := .int, accessFlags := 26, slot := 0, constantValue := 0 }, { name := "LO_BYTE_SHIFT", type := .int, accessFlags := 26, slot := 1, constantValue := 0 }, { name := "MAX_LENGTH", type := .int, accessFlags := 24, slot := 2, constantValue := 0 }, { name := "$assertionsDisabled", type := .boolean, accessFlags := 4120, slot := 3, constantValue := 0 }]
  methods := #[k8m0, k8m1, k8m2, k8m3]
  instanceTypes := #[]
  staticTypes := #[.int, .int, .int, .boolean]
  resolved := Array.replicate 635 none
  statics := none }

def pool9 : Array CpInfo := pool [(1, .methodref 2 3), (0, .class_ 4), (0, .nameAndType 5 6), (0, u "java/lang/Object"), (0, u "<init>"), (0, u "()V"), (0, .fieldref 8 9), (0, .class_ 10), (0, .nameAndType 11 12), (0, u "com/example/sakuin/sakuin/engine/Operation"), (0, u "delete"), (0, u "Z"), (0, .fieldref 8 14), (0, .nameAndType 15 16), (0, u "id"), (0, u "Ljava/lang/String;"), (0, .fieldref 8 18), (0, .nameAndType 19 20), (0, u "source"), (0, u "[B"), (0, .fieldref 8 22), (0, .nameAndType 23 16), (0, u "routing"), (0, .fieldref 8 25), (0, .nameAndType 26 27), (0, u "version"), (0, u "J"), (0, .fieldref 8 29), (0, .nameAndType 30 27), (0, u "seqNo"), (0, .fieldref 8 32), (0, .nameAndType 33 27), (0, u "primaryTerm"), (0, .fieldref 8 35), (0, .nameAndType 36 27), (0, u "time"), (0, .methodref 8 38), (0, .nameAndType 5 39), (0, u "(ZLjava/lang/String;[BLjava/lang/String;JJJJ)V"), (2, u "index"), (0, u "(Ljava/lang/String;[BLjava/lang/String;JJJJ)Lcom/example/sakuin/sakuin/engine/Operation;"), (1, u "isDelete"), (0, u "()Z"), (0, u "()Ljava/lang/String;"), (0, u "()[B"), (0, u "()J")] 2

def k9c0 : Code := { maxStack := 3, maxLocals := 13, code := prog_12_method_1_code, exceptionTable := #[], attributes := #[] }
def k9m0 : Method := { name := "<init>", desc := "(ZLjava/lang/String;[BLjava/lang/String;JJJJ)V", sig := { parameters := [.boolean, (.object "java/lang/String"), (.array .byte), (.object "java/lang/String"), .long, .long, .long, .long], returnType := none }, accessFlags := 2, code := some k9c0 }
def k9c1 : Code := { maxStack := 14, maxLocals := 11, code := prog_12_method_2_code, exceptionTable := #[], attributes := #[] }
def k9m1 : Method := { name := "index", desc := "(Ljava/lang/String;[BLjava/lang/String;JJJJ)Lcom/example/sakuin/sakuin/engine/Operation;", sig := { parameters := [(.object "java/lang/String"), (.array .byte), (.object "java/lang/String"), .long, .long, .long, .long], returnType := some (.object "com/example/sakuin/sakuin/engine/Operation") }, accessFlags := 8, code := some k9c1 }
def k9c2 : Code := { maxStack := 1, maxLocals := 1, code := prog_12_method_4_code, exceptionTable := #[], attributes := #[] }
def k9m2 : Method := { name := "isDelete", desc := "()Z", sig := { parameters := [], returnType := some .boolean }, accessFlags := 0, code := some k9c2 }
def k9c3 : Code := { maxStack := 1, maxLocals := 1, code := prog_12_method_5_code, exceptionTable := #[], attributes := #[] }
def k9m3 : Method := { name := "id", desc := "()Ljava/lang/String;", sig := { parameters := [], returnType := some (.object "java/lang/String") }, accessFlags := 0, code := some k9c3 }
def k9c4 : Code := { maxStack := 1, maxLocals := 1, code := prog_12_method_6_code, exceptionTable := #[], attributes := #[] }
def k9m4 : Method := { name := "source", desc := "()[B", sig := { parameters := [], returnType := some (.array .byte) }, accessFlags := 0, code := some k9c4 }
def k9c5 : Code := { maxStack := 1, maxLocals := 1, code := prog_12_method_7_code, exceptionTable := #[], attributes := #[] }
def k9m5 : Method := { name := "routing", desc := "()Ljava/lang/String;", sig := { parameters := [], returnType := some (.object "java/lang/String") }, accessFlags := 0, code := some k9c5 }
def k9c6 : Code := { maxStack := 2, maxLocals := 1, code := prog_12_method_8_code, exceptionTable := #[], attributes := #[] }
def k9m6 : Method := { name := "version", desc := "()J", sig := { parameters := [], returnType := some .long }, accessFlags := 0, code := some k9c6 }
def k9c7 : Code := { maxStack := 2, maxLocals := 1, code := prog_12_method_9_code, exceptionTable := #[], attributes := #[] }
def k9m7 : Method := { name := "seqNo", desc := "()J", sig := { parameters := [], returnType := some .long }, accessFlags := 0, code := some k9c7 }
def k9c8 : Code := { maxStack := 2, maxLocals := 1, code := prog_12_method_10_code, exceptionTable := #[], attributes := #[] }
def k9m8 : Method := { name := "primaryTerm", desc := "()J", sig := { parameters := [], returnType := some .long }, accessFlags := 0, code := some k9c8 }
def k9c9 : Code := { maxStack := 2, maxLocals := 1, code := prog_12_method_11_code, exceptionTable := #[], attributes := #[] }
def k9m9 : Method := { name := "time", desc := "()J", sig := { parameters := [], returnType := some .long }, accessFlags := 0, code := some k9c9 }
/-- com/example/sakuin/sakuin/engine/Operation -/
def k9 : Class := { plain "com/example/sakuin/sakuin/engine/Operation" (some 0) with
  accessFlags := 48
  interfaces := #[]
  cf := some (fileOf pool9 8 #[] #[{ accessFlags := 2, nameIndex := 5, descriptorIndex := 39, attributes := #[] }, { accessFlags := 8, nameIndex := 42, descriptorIndex := 43, attributes := #[] }, { accessFlags := 0, nameIndex := 45, descriptorIndex := 46, attributes := #[] }, { accessFlags := 0, nameIndex := 15, descriptorIndex := 47, attributes := #[] }, { accessFlags := 0, nameIndex := 19, descriptorIndex := 48, attributes := #[] }, { accessFlags := 0, nameIndex := 23, descriptorIndex := 47, attributes := #[] }, { accessFlags := 0, nameIndex := 26, descriptorIndex := 49, attributes := #[] }, { accessFlags := 0, nameIndex := 30, descriptorIndex := 49, attributes := #[] }, { accessFlags := 0, nameIndex := 33, descriptorIndex := 49, attributes := #[] }, { accessFlags := 0, nameIndex := 36, descriptorIndex := 49, attributes := #[] }] 48 2 #[] #[{ accessFlags := 18, nameIndex := 11, descriptorIndex := 12, attributes := #[] }, { accessFlags := 18, nameIndex := 15, descriptorIndex := 16, attributes := #[] }, { accessFlags := 18, nameIndex := 19, descriptorIndex := 20, attributes := #[] }, { accessFlags := 18, nameIndex := 23, descriptorIndex := 16, attributes := #[] }, { accessFlags := 18, nameIndex := 26, descriptorIndex := 27, attributes := #[] }, { accessFlags := 18, nameIndex := 30, descriptorIndex := 27, attributes := #[] }, { accessFlags := 18, nameIndex := 33, descriptorIndex := 27, attributes := #[] }, { accessFlags := 18, nameIndex := 36, descriptorIndex := 27, attributes := #[] }])
  fields := #[{ name := "delete", type := .boolean, accessFlags := 18, slot := 0, constantValue := 0 }, { name := "id", type := (.object "java/lang/String"), accessFlags := 18, slot := 1, constantValue := 0 }, { name := "source", type := (.array .byte), accessFlags := 18, slot := 2, constantValue := 0 }, { name := "routing", type := (.object "java/lang/String"), accessFlags := 18, slot := 3, constantValue := 0 }, { name := "version", type := .long, accessFlags := 18, slot := 4, constantValue := 0 }, { name := "seqNo", type := .long, accessFlags := 18, slot := 5, constantValue := 0 }, { name := "primaryTerm", type := .long, accessFlags := 18, slot := 6, constantValue := 0 }, { name := "time", type := .long, accessFlags := 18, slot := 7, constantValue := 0 }]
  methods := #[k9m0, k9m1, k9m2, k9m3, k9m4, k9m5, k9m6, k9m7, k9m8, k9m9]
  instanceTypes := #[.boolean, (.object "java/lang/String"), (.array .byte), (.object "java/lang/String"), .long, .long, .long, .long]
  staticTypes := #[]
  resolved := Array.replicate 52 none
  statics := none }

def pool10 : Array CpInfo := pool [(4, .class_ 6), (1, u "java/lang/Object"), (0, u "<init>"), (0, u "()V"), (5, .class_ 16), (1, u "java/lang/StringLatin1"), (73, u "canEncode"), (14, u "(C)Z"), (15, u "$assertionsDisabled"), (0, u "Z"), (98, .class_ 223), (1, u "java/lang/StringLatin1$LinesSpliterator"), (156, u "toBytes"), (1, u "(C)[B"), (7, .class_ 391), (0, u "java/lang/StringLatin1$CharsSpliterator")] 3

def k10m0 : Method := { name := "<init>", desc := "()V", sig := { parameters := [], returnType := none }, accessFlags := 0, code := none }
def k10c1 : Code := { maxStack := 2, maxLocals := 1, code := jdk_43_method_3_code, exceptionTable := #[], attributes := #[] }
def k10m1 : Method := { name := "canEncode", desc := "(C)Z", sig := { parameters := [.char], returnType := some .boolean }, accessFlags := 9, code := some k10c1 }
def k10c2 : Code := { maxStack := 4, maxLocals := 1, code := jdk_43_method_46_code, exceptionTable := #[], attributes := #[] }
def k10m2 : Method := { name := "toBytes", desc := "(C)[B", sig := { parameters := [.char], returnType := some (.array .byte) }, accessFlags := 9, code := some k10c2 }
/-- java/lang/StringLatin1 -/
def k10 : Class := { plain "java/lang/StringLatin1" (some 0) with
  accessFlags := 48
  interfaces := #[]
  cf := some (fileOf pool10 14 #[.nestMembers #[390, 221]] #[{ accessFlags := 0, nameIndex := 7, descriptorIndex := 8, attributes := #[] }, { accessFlags := 9, nameIndex := 90, descriptorIndex := 105, attributes := #[] }, { accessFlags := 9, nameIndex := 380, descriptorIndex := 382, attributes := #[] }] 48 4 #[] #[{ accessFlags := 4120, nameIndex := 121, descriptorIndex := 122, attributes := #[] }])
  fields := #[{ name := "$assertionsDisabled", type := .boolean, accessFlags := 4120, slot := 0, constantValue := 0 }]
  methods := #[k10m0, k10m1, k10m2]
  instanceTypes := #[]
  staticTypes := #[.boolean]
  resolved := Array.replicate 395 none
  statics := none }

def pool11 : Array CpInfo := pool [(2, .class_ 4), (1, u "java/lang/Object"), (0, u "<init>"), (0, u "()V"), (17, .class_ 26), (1, u "jdk/internal/util/Preconditions"), (28, .class_ 56), (0, u "jdk/internal/util/Preconditions$4"), (57, .class_ 115), (0, u "jdk/internal/util/Preconditions$1"), (7, u "SIOOBE_FORMATTER"), (0, u "Ljava/util/function/BiFunction;"), (0, .class_ 126), (0, u "jdk/internal/util/Preconditions$2"), (3, u "AIOOBE_FORMATTER"), (0, .class_ 132), (0, u "jdk/internal/util/Preconditions$3"), (3, u "IOOBE_FORMATTER")] 57

def k11m0 : Method := { name := "<init>", desc := "()V", sig := { parameters := [], returnType := none }, accessFlags := 1, code := none }
/-- jdk/internal/util/Preconditions -/
def k11 : Class := { plain "jdk/internal/util/Preconditions" (some 0) with
  accessFlags := 33
  interfaces := #[]
  cf := some (fileOf pool11 24 #[.nestMembers #[55, 131, 125, 114]] #[{ accessFlags := 1, nameIndex := 5, descriptorIndex := 6, attributes := #[] }] 33 2 #[] #[{ accessFlags := 25, nameIndex := 123, descriptorIndex := 124, attributes := #[] }, { accessFlags := 25, nameIndex := 130, descriptorIndex := 124, attributes := #[] }, { accessFlags := 25, nameIndex := 136, descriptorIndex := 124, attributes := #[] }])
  fields := #[{ name := "SIOOBE_FORMATTER", type := (.object "java/util/function/BiFunction"), accessFlags := 25, slot := 0, constantValue := 0 }, { name := "AIOOBE_FORMATTER", type := (.object "java/util/function/BiFunction"), accessFlags := 25, slot := 1, constantValue := 0 }, { name := "IOOBE_FORMATTER", type := (.object "java/util/function/BiFunction"), accessFlags := 25, slot := 2, constantValue := 0 }]
  methods := #[k11m0]
  instanceTypes := #[]
  staticTypes := #[(.object "java/util/function/BiFunction"), (.object "java/util/function/BiFunction"), (.object "java/util/function/BiFunction")]
  resolved := Array.replicate 194 none
  statics := some 1 }

def pool12 : Array CpInfo := pool [(9, u "<init>"), (6, .class_ 18), (1, u "java/lang/Object"), (0, u "()V"), (1, .class_ 23), (1, u "jdk/internal/util/ArraysSupport"), (0, u "LOG2_ARRAY_LONG_INDEX_SCALE"), (0, u "I"), (2, u "U"), (0, u "Ljdk/internal/misc/Unsafe;"), (8, u "BIG_ENDIAN"), (0, u "Z"), (8, u "LOG2_BYTE_BIT_SIZE"), (4, u "LOG2_ARRAY_INT_INDEX_SCALE"), (54, u "JLA"), (0, u "Ljdk/internal/access/JavaLangAccess;"), (11, u "LOG2_ARRAY_BOOLEAN_INDEX_SCALE"), (9, u "LOG2_ARRAY_BYTE_INDEX_SCALE"), (5, u "LOG2_ARRAY_CHAR_INDEX_SCALE"), (5, u "LOG2_ARRAY_SHORT_INDEX_SCALE"), (18, u "LOG2_ARRAY_FLOAT_INDEX_SCALE"), (24, u "LOG2_ARRAY_DOUBLE_INDEX_SCALE"), (89, u "T_BOOLEAN"), (2, u "T_CHAR"), (1, u "T_FLOAT"), (1, u "T_DOUBLE"), (1, u "T_BYTE"), (1, u "T_SHORT"), (1, u "T_INT"), (1, u "T_LONG"), (1, u "SOFT_MAX_ARRAY_LENGTH")] 83

def k12m0 : Method := { name := "<init>", desc := "()V", sig := { parameters := [], returnType := none }, accessFlags := 2, code := none }
/-- jdk/internal/util/ArraysSupport -/
def k12 : Class := { plain "jdk/internal/util/ArraysSupport" (some 0) with
  accessFlags := 33
  interfaces := #[]
  cf := some (fileOf pool12 21 #[] #[{ accessFlags := 2, nameIndex := 9, descriptorIndex := 19, attributes := #[] }] 33 16 #[] #[{ accessFlags := 24, nameIndex := 28, descriptorIndex := 29, attributes := #[] }, { accessFlags := 26, nameIndex := 38, descriptorIndex := 39, attributes := #[] }, { accessFlags := 25, nameIndex := 121, descriptorIndex := 25, attributes := #[] }, { accessFlags := 25, nameIndex := 131, descriptorIndex := 25, attributes := #[] }, { accessFlags := 25, nameIndex := 137, descriptorIndex := 25, attributes := #[] }, { accessFlags := 25, nameIndex := 143, descriptorIndex := 25, attributes := #[] }, { accessFlags := 25, nameIndex := 53, descriptorIndex := 25, attributes := #[] }, { accessFlags := 25, nameIndex := 24, descriptorIndex := 25, attributes := #[] }, { accessFlags := 25, nameIndex := 162, descriptorIndex := 25, attributes := #[] }, { accessFlags := 25, nameIndex := 187, descriptorIndex := 25, attributes := #[] }, { accessFlags := 26, nameIndex := 48, descriptorIndex := 25, attributes := #[] }, { accessFlags := 25, nameIndex := 277, descriptorIndex := 25, attributes := #[] }, { accessFlags := 25, nameIndex := 280, descriptorIndex := 25, attributes := #[] }, { accessFlags := 25, nameIndex := 282, descriptorIndex := 25, attributes := #[] }, { accessFlags := 25, nameIndex := 284, descriptorIndex := 25, attributes := #[] }, { accessFlags := 25, nameIndex := 286, descriptorIndex := 25, attributes := #[] }, { accessFlags := 25, nameIndex := 288, descriptorIndex := 25, attributes := #[] }, { accessFlags := 25, nameIndex := 290, descriptorIndex := 25, attributes := #[] }, { accessFlags := 25, nameIndex := 292, descriptorIndex := 25, attributes := #[] }, { accessFlags := 26, nameIndex := 108, descriptorIndex := 109, attributes := #[] }, { accessFlags := 25, nameIndex := 294, descriptorIndex := 25, attributes := #[] }])
  fields := #[{ name := "U", type := (.object "jdk/internal/misc/Unsafe"), accessFlags := 24, slot := 0, constantValue := 0 }, { name := "BIG_ENDIAN", type := .boolean, accessFlags := 26, slot := 1, constantValue := 0 }, { name := "LOG2_ARRAY_BOOLEAN_INDEX_SCALE", type := .int, accessFlags := 25, slot := 2, constantValue := 0 }, { name := "LOG2_ARRAY_BYTE_INDEX_SCALE", type := .int, accessFlags := 25, slot := 3, constantValue := 0 }, { name := "LOG2_ARRAY_CHAR_INDEX_SCALE", type := .int, accessFlags := 25, slot := 4, constantValue := 0 }, { name := "LOG2_ARRAY_SHORT_INDEX_SCALE", type := .int, accessFlags := 25, slot := 5, constantValue := 0 }, { name := "LOG2_ARRAY_INT_INDEX_SCALE", type := .int, accessFlags := 25, slot := 6, constantValue := 0 }, { name := "LOG2_ARRAY_LONG_INDEX_SCALE", type := .int, accessFlags := 25, slot := 7, constantValue := 0 }, { name := "LOG2_ARRAY_FLOAT_INDEX_SCALE", type := .int, accessFlags := 25, slot := 8, constantValue := 0 }, { name := "LOG2_ARRAY_DOUBLE_INDEX_SCALE", type := .int, accessFlags := 25, slot := 9, constantValue := 0 }, { name := "LOG2_BYTE_BIT_SIZE", type := .int, accessFlags := 26, slot := 10, constantValue := 0 }, { name := "T_BOOLEAN", type := .int, accessFlags := 25, slot := 11, constantValue := 0 }, { name := "T_CHAR", type := .int, accessFlags := 25, slot := 12, constantValue := 0 }, { name := "T_FLOAT", type := .int, accessFlags := 25, slot := 13, constantValue := 0 }, { name := "T_DOUBLE", type := .int, accessFlags := 25, slot := 14, constantValue := 0 }, { name := "T_BYTE", type := .int, accessFlags := 25, slot := 15, constantValue := 0 }, { name := "T_SHORT", type := .int, accessFlags := 25, slot := 16, constantValue := 0 }, { name := "T_INT", type := .int, accessFlags := 25, slot := 17, constantValue := 0 }, { name := "T_LONG", type := .int, accessFlags := 25, slot := 18, constantValue := 0 }, { name := "JLA", type := (.object "jdk/internal/access/JavaLangAccess"), accessFlags := 26, slot := 19, constantValue := 0 }, { name := "SOFT_MAX_ARRAY_LENGTH", type := .int, accessFlags := 25, slot := 20, constantValue := 0 }]
  methods := #[k12m0]
  instanceTypes := #[]
  staticTypes := #[(.object "jdk/internal/misc/Unsafe"), .boolean, .int, .int, .int, .int, .int, .int, .int, .int, .int, .int, .int, .int, .int, .int, .int, .int, .int, (.object "jdk/internal/access/JavaLangAccess"), .int]
  resolved := Array.replicate 378 none
  statics := none }

def pool13 : Array CpInfo := pool [(1, u "java/lang/Cloneable"), (0, .class_ 1), (0, u "java/lang/Object"), (0, .class_ 3)] 3

/-- java/lang/Cloneable -/
def k13 : Class := { plain "java/lang/Cloneable" (some 0) with
  accessFlags := 1537
  interfaces := #[]
  cf := some (fileOf pool13 2 #[] #[] 1537 4 #[] #[])
  fields := #[]
  methods := #[]
  instanceTypes := #[]
  staticTypes := #[]
  resolved := Array.replicate 8 none
  statics := none }

/-- the primitive byte -/
def k14 : Class := { plain "byte" none with kind := .primitive 'B', accessFlags := 0x411 }
/-- [B -/
def k15 : Class := { plain "[B" (some 0) with kind := .array 14 .byte, interfaces := #[13, 2], accessFlags := 1041 }

/-- the primitive char -/
def k16 : Class := { plain "char" none with kind := .primitive 'C', accessFlags := 0x411 }
/-- [C -/
def k17 : Class := { plain "[C" (some 0) with kind := .array 16 .char, interfaces := #[13, 2], accessFlags := 1041 }

/-- the primitive int -/
def k18 : Class := { plain "int" none with kind := .primitive 'I', accessFlags := 0x411 }
/-- [I -/
def k19 : Class := { plain "[I" (some 0) with kind := .array 18 .int, interfaces := #[13, 2], accessFlags := 1041 }

def heap : Heap := #[{ cls := 7, slots := #[.long 0, .int 1, .null, .int 0, .null, .int 0, .int 0], vm := .statics 7 },
  { cls := 11, slots := #[.null, .null, .null], vm := .statics 11 }]
def classes : Array Class := #[k0, k1, k2, k3, k4, k5, k6, k7, k8, k9, k10, k11, k12, k13, k14, k15, k16, k17, k18, k19]
def interned : List (Array UInt16 × Addr) := []
def slotsUsed : Nat := 10
def theMethod : MethodId := ⟨1, 1⟩
def args0 : Array Value := #[.long 5, .long 3, .long 0, .long 7, .int 65600, .int 70000]
def aboutOver (below : List Frame) : State where
  vm := { classes := classes, interned := interned.toArray }
  heap := heap
  slotsUsed := slotsUsed
  threads := #[{ frames := .invoking theMethod args0 :: below }]
def below0 : List Frame := [.native { method := ⟨0, 0⟩, args := #[] }]
def about1 : State := aboutOver below0
def p0 : Program := .bare "" "" ""
def e0 : Env := launch0.env 0 0 0
theorem w_frames : about1.frames = Frame.invoking theMethod args0 :: below0 := rfl
set_option maxRecDepth 65536 in
theorem w_args : argsFit about1.vm theMethod args0 = true := by decide +kernel
set_option maxRecDepth 65536 in
theorem w_heap : heapFits about1 = true := by decide +kernel
set_option maxRecDepth 65536 in
theorem w_runnable : about1.curStatus? = some .runnable := by decide +kernel
set_option maxRecDepth 65536 in
theorem w_alone : about1.alone = true := by decide +kernel
set_option maxRecDepth 65536 in
theorem w_named : about1.methodNamed? x = some theMethod := by decide +kernel
set_option maxRecDepth 65536 in
theorem w_hears : about1.hears theMethod below0 = true := by decide +kernel
set_option maxRecDepth 65536 in
theorem w_ripe : about1.ripe theMethod args0 below0 = true := by decide +kernel
theorem w_running : about1.status = .running := rfl
set_option maxRecDepth 65536 in
theorem w_room : about1.hasRoom e0.platform room_1 = true :=
  launch0.hasRoom_least _ room_1 (by decide +kernel) (by decide +kernel) (by decide +kernel) (by decide +kernel) (by decide +kernel) (by decide +kernel)
theorem allAtoms_all (ts : List Jvm.Cond) (a : Array Jvm.Value) (st : Jvm.State) : (allAtoms ts).before a st = ts.all (fun c => c.before a st) := by
  induction ts with
  | nil => rfl
  | cons c t ih =>
    show (Jvm.Cond.and c (allAtoms t)).before a st = _
    rw [Jvm.Cond.before_and, ih, List.all_cons]
def words1 : List Jvm.Cond := Jvm.Cond.code x code maxLocals ret :: tables_1
/-- a 'code' word, met by the world's own term for the bytes: nothing is compared byte by byte -/
theorem code_word {y : MethodName} {bytes : ByteArray} {mx : Nat} {rt : Option FieldType} {a : Array Value} {s : State} {m : MethodId} {meth : Method} {c : Code} (h1 : s.methodNamed? y = some m) (h2 : s.vm.method? m = some meth) (h3 : meth.code = some c) (h4 : c.code = bytes)
    (h5 : (c.maxLocals == mx && c.exceptionTable.isEmpty && decide (c.maxStack ≤ mostOperands) && decide (meth.sig.returnType = rt) && !meth.locks && decide (parseMethodDescriptor y.desc = some meth.sig)) = true) : (Jvm.Cond.code y bytes mx rt).before a s = true := by
  simp only [Bool.and_eq_true, beq_iff_eq, Bool.not_eq_true', decide_eq_true_eq] at h5
  obtain ⟨⟨⟨⟨⟨g1, g2⟩, g3⟩, g4⟩, g5⟩, g6⟩ := h5
  simp [Cond.before, Cond.holds, Cond.value, h1, h2, h3, h4, g1, g2, g3, g4, g5, g6]
def isCode : Jvm.Cond → Bool
  | .code _ _ _ _ => true
  | _ => false
theorem all_split {L : List Jvm.Cond} {P : Jvm.Cond → Bool} (h1 : L.all (fun c => isCode c || P c) = true) (h2 : ∀ c ∈ L.filter isCode, P c = true) : L.all P = true := by
  refine List.all_eq_true.mpr fun c hc => ?_
  have h := List.all_eq_true.mp h1 c hc
  rcases Bool.eq_false_or_eq_true (isCode c) with hi | hi
  · exact h2 c (List.mem_filter.mpr ⟨hc, hi⟩)
  · simpa [hi] using h
set_option maxRecDepth 65536 in
theorem w_c0 : (Jvm.Cond.code x code maxLocals ret).before args0 about1 = true := code_word (m := ⟨1, 1⟩) (meth := k1m1) (c := k1c1) (by decide +kernel) rfl rfl rfl (by decide +kernel)
set_option maxRecDepth 65536 in
theorem w_c1 : (Jvm.Cond.code ({ cls := "java/lang/String", name := "<init>", desc := "([C)V" } : Jvm.MethodName) jdk_42_method_3_code (2 : Nat) (Option.none : Option Jvm.ClassFile.FieldType)).before args0 about1 = true := code_word (m := ⟨7, 1⟩) (meth := k7m1) (c := k7c1) (by decide +kernel) rfl rfl rfl (by decide +kernel)
set_option maxRecDepth 65536 in
theorem w_c2 : (Jvm.Cond.code ({ cls := "java/lang/String", name := "<init>", desc := "([CIILjava/lang/Void;)V" } : Jvm.MethodName) jdk_42_method_149_code (6 : Nat) (Option.none : Option Jvm.ClassFile.FieldType)).before args0 about1 = true := code_word (m := ⟨7, 4⟩) (meth := k7m4) (c := k7c4) (by decide +kernel) rfl rfl rfl (by decide +kernel)
set_option maxRecDepth 65536 in
theorem w_c3 : (Jvm.Cond.code ({ cls := "java/lang/Object", name := "<init>", desc := "()V" } : Jvm.MethodName) object_method_1_code (1 : Nat) (Option.none : Option Jvm.ClassFile.FieldType)).before args0 about1 = true := code_word (m := ⟨0, 0⟩) (meth := k0m0) (c := k0c0) (by decide +kernel) rfl rfl rfl (by decide +kernel)
set_option maxRecDepth 65536 in
theorem w_c4 : (Jvm.Cond.code ({ cls := "java/lang/StringUTF16", name := "compress", desc := "([CII)[B" } : Jvm.MethodName) jdk_52_method_16_code (6 : Nat) (Option.some (Jvm.ClassFile.FieldType.array Jvm.ClassFile.FieldType.byte))).before args0 about1 = true := code_word (m := ⟨8, 2⟩) (meth := k8m2) (c := k8c2) (by decide +kernel) rfl rfl rfl (by decide +kernel)
set_option maxRecDepth 65536 in
theorem w_c5 : (Jvm.Cond.code ({ cls := "java/lang/StringUTF16", name := "compress", desc := "([CI[BII)I" } : Jvm.MethodName) jdk_52_method_21_code (7 : Nat) (Option.some Jvm.ClassFile.FieldType.int)).before args0 about1 = true := code_word (m := ⟨8, 3⟩) (meth := k8m3) (c := k8c3) (by decide +kernel) rfl rfl rfl (by decide +kernel)
set_option maxRecDepth 65536 in
theorem w_c6 : (Jvm.Cond.code ({ cls := "java/lang/StringUTF16", name := "coderFromArrayLen", desc := "([BI)B" } : Jvm.MethodName) jdk_52_method_15_code (2 : Nat) (Option.some Jvm.ClassFile.FieldType.byte)).before args0 about1 = true := code_word (m := ⟨8, 1⟩) (meth := k8m1) (c := k8c1) (by decide +kernel) rfl rfl rfl (by decide +kernel)
set_option maxRecDepth 65536 in
theorem w_c7 : (Jvm.Cond.code ({ cls := "com/example/sakuin/sakuin/engine/Operation", name := "index", desc := "(Ljava/lang/String;[BLjava/lang/String;JJJJ)Lcom/example/sakuin/sakuin/engine/Operation;" } : Jvm.MethodName) prog_12_method_2_code (11 : Nat) (Option.some (Jvm.ClassFile.FieldType.object "com/example/sakuin/sakuin/engine/Operation"))).before args0 about1 = true := code_word (m := ⟨9, 1⟩) (meth := k9m1) (c := k9c1) (by decide +kernel) rfl rfl rfl (by decide +kernel)
set_option maxRecDepth 65536 in
theorem w_c8 : (Jvm.Cond.code ({ cls := "com/example/sakuin/sakuin/engine/Operation", name := "<init>", desc := "(ZLjava/lang/String;[BLjava/lang/String;JJJJ)V" } : Jvm.MethodName) prog_12_method_1_code (13 : Nat) (Option.none : Option Jvm.ClassFile.FieldType)).before args0 about1 = true := code_word (m := ⟨9, 0⟩) (meth := k9m0) (c := k9c0) (by decide +kernel) rfl rfl rfl (by decide +kernel)
set_option maxRecDepth 65536 in
theorem w_c9 : (Jvm.Cond.code ({ cls := "com/example/sakuin/sakuin/engine/Operation", name := "isDelete", desc := "()Z" } : Jvm.MethodName) prog_12_method_4_code (1 : Nat) (Option.some Jvm.ClassFile.FieldType.boolean)).before args0 about1 = true := code_word (m := ⟨9, 2⟩) (meth := k9m2) (c := k9c2) (by decide +kernel) rfl rfl rfl (by decide +kernel)
set_option maxRecDepth 65536 in
theorem w_c10 : (Jvm.Cond.code ({ cls := "com/example/sakuin/sakuin/engine/Operation", name := "id", desc := "()Ljava/lang/String;" } : Jvm.MethodName) prog_12_method_5_code (1 : Nat) (Option.some (Jvm.ClassFile.FieldType.object "java/lang/String"))).before args0 about1 = true := code_word (m := ⟨9, 3⟩) (meth := k9m3) (c := k9c3) (by decide +kernel) rfl rfl rfl (by decide +kernel)
set_option maxRecDepth 65536 in
theorem w_c11 : (Jvm.Cond.code ({ cls := "java/lang/String", name := "equals", desc := "(Ljava/lang/Object;)Z" } : Jvm.MethodName) jdk_42_method_66_code (3 : Nat) (Option.some Jvm.ClassFile.FieldType.boolean)).before args0 about1 = true := code_word (m := ⟨7, 2⟩) (meth := k7m2) (c := k7c2) (by decide +kernel) rfl rfl rfl (by decide +kernel)
set_option maxRecDepth 65536 in
theorem w_c12 : (Jvm.Cond.code ({ cls := "com/example/sakuin/sakuin/engine/Operation", name := "source", desc := "()[B" } : Jvm.MethodName) prog_12_method_6_code (1 : Nat) (Option.some (Jvm.ClassFile.FieldType.array Jvm.ClassFile.FieldType.byte))).before args0 about1 = true := code_word (m := ⟨9, 4⟩) (meth := k9m4) (c := k9c4) (by decide +kernel) rfl rfl rfl (by decide +kernel)
set_option maxRecDepth 65536 in
theorem w_c13 : (Jvm.Cond.code ({ cls := "com/example/sakuin/sakuin/engine/Operation", name := "routing", desc := "()Ljava/lang/String;" } : Jvm.MethodName) prog_12_method_7_code (1 : Nat) (Option.some (Jvm.ClassFile.FieldType.object "java/lang/String"))).before args0 about1 = true := code_word (m := ⟨9, 5⟩) (meth := k9m5) (c := k9c5) (by decide +kernel) rfl rfl rfl (by decide +kernel)
set_option maxRecDepth 65536 in
theorem w_c14 : (Jvm.Cond.code ({ cls := "com/example/sakuin/sakuin/engine/Operation", name := "version", desc := "()J" } : Jvm.MethodName) prog_12_method_8_code (1 : Nat) (Option.some Jvm.ClassFile.FieldType.long)).before args0 about1 = true := code_word (m := ⟨9, 6⟩) (meth := k9m6) (c := k9c6) (by decide +kernel) rfl rfl rfl (by decide +kernel)
set_option maxRecDepth 65536 in
theorem w_c15 : (Jvm.Cond.code ({ cls := "com/example/sakuin/sakuin/engine/Operation", name := "seqNo", desc := "()J" } : Jvm.MethodName) prog_12_method_9_code (1 : Nat) (Option.some Jvm.ClassFile.FieldType.long)).before args0 about1 = true := code_word (m := ⟨9, 7⟩) (meth := k9m7) (c := k9c7) (by decide +kernel) rfl rfl rfl (by decide +kernel)
set_option maxRecDepth 65536 in
theorem w_c16 : (Jvm.Cond.code ({ cls := "com/example/sakuin/sakuin/engine/Operation", name := "primaryTerm", desc := "()J" } : Jvm.MethodName) prog_12_method_10_code (1 : Nat) (Option.some Jvm.ClassFile.FieldType.long)).before args0 about1 = true := code_word (m := ⟨9, 8⟩) (meth := k9m8) (c := k9c8) (by decide +kernel) rfl rfl rfl (by decide +kernel)
set_option maxRecDepth 65536 in
theorem w_c17 : (Jvm.Cond.code ({ cls := "com/example/sakuin/sakuin/engine/Operation", name := "time", desc := "()J" } : Jvm.MethodName) prog_12_method_11_code (1 : Nat) (Option.some Jvm.ClassFile.FieldType.long)).before args0 about1 = true := code_word (m := ⟨9, 9⟩) (meth := k9m9) (c := k9c9) (by decide +kernel) rfl rfl rfl (by decide +kernel)
set_option maxRecDepth 65536 in
theorem w_c18 : (Jvm.Cond.code ({ cls := "java/lang/String", name := "valueOf", desc := "(C)Ljava/lang/String;" } : Jvm.MethodName) jdk_42_method_139_code (1 : Nat) (Option.some (Jvm.ClassFile.FieldType.object "java/lang/String"))).before args0 about1 = true := code_word (m := ⟨7, 3⟩) (meth := k7m3) (c := k7c3) (by decide +kernel) rfl rfl rfl (by decide +kernel)
set_option maxRecDepth 65536 in
theorem w_c19 : (Jvm.Cond.code ({ cls := "java/lang/StringLatin1", name := "canEncode", desc := "(C)Z" } : Jvm.MethodName) jdk_43_method_3_code (1 : Nat) (Option.some Jvm.ClassFile.FieldType.boolean)).before args0 about1 = true := code_word (m := ⟨10, 1⟩) (meth := k10m1) (c := k10c1) (by decide +kernel) rfl rfl rfl (by decide +kernel)
set_option maxRecDepth 65536 in
theorem w_c20 : (Jvm.Cond.code ({ cls := "java/lang/StringLatin1", name := "toBytes", desc := "(C)[B" } : Jvm.MethodName) jdk_43_method_46_code (1 : Nat) (Option.some (Jvm.ClassFile.FieldType.array Jvm.ClassFile.FieldType.byte))).before args0 about1 = true := code_word (m := ⟨10, 2⟩) (meth := k10m2) (c := k10c2) (by decide +kernel) rfl rfl rfl (by decide +kernel)
set_option maxRecDepth 65536 in
theorem w_c21 : (Jvm.Cond.code ({ cls := "java/lang/String", name := "<init>", desc := "([BB)V" } : Jvm.MethodName) jdk_42_method_151_code (3 : Nat) (Option.none : Option Jvm.ClassFile.FieldType)).before args0 about1 = true := code_word (m := ⟨7, 5⟩) (meth := k7m5) (c := k7c5) (by decide +kernel) rfl rfl rfl (by decide +kernel)
def codes1 : List Jvm.Cond := [Jvm.Cond.code x code maxLocals ret, Jvm.Cond.code ({ cls := "java/lang/String", name := "<init>", desc := "([C)V" } : Jvm.MethodName) jdk_42_method_3_code (2 : Nat) (Option.none : Option Jvm.ClassFile.FieldType), Jvm.Cond.code ({ cls := "java/lang/String", name := "<init>", desc := "([CIILjava/lang/Void;)V" } : Jvm.MethodName) jdk_42_method_149_code (6 : Nat) (Option.none : Option Jvm.ClassFile.FieldType), Jvm.Cond.code ({ cls := "java/lang/Object", name := "<init>", desc := "()V" } : Jvm.MethodName) object_method_1_code (1 : Nat) (Option.none : Option Jvm.ClassFile.FieldType), Jvm.Cond.code ({ cls := "java/lang/StringUTF16", name := "compress", desc := "([CII)[B" } : Jvm.MethodName) jdk_52_method_16_code (6 : Nat) (Option.some (Jvm.ClassFile.FieldType.array Jvm.ClassFile.FieldType.byte)), Jvm.Cond.code ({ cls := "java/lang/StringUTF16", name := "compress", desc := "([CI[BII)I" } : Jvm.MethodName) jdk_52_method_21_code (7 : Nat) (Option.some Jvm.ClassFile.FieldType.int), Jvm.Cond.code ({ cls := "java/lang/StringUTF16", name := "coderFromArrayLen", desc := "([BI)B" } : Jvm.MethodName) jdk_52_method_15_code (2 : Nat) (Option.some Jvm.ClassFile.FieldType.byte), Jvm.Cond.code ({ cls := "com/example/sakuin/sakuin/engine/Operation", name := "index", desc := "(Ljava/lang/String;[BLjava/lang/String;JJJJ)Lcom/example/sakuin/sakuin/engine/Operation;" } : Jvm.MethodName) prog_12_method_2_code (11 : Nat) (Option.some (Jvm.ClassFile.FieldType.object "com/example/sakuin/sakuin/engine/Operation")), Jvm.Cond.code ({ cls := "com/example/sakuin/sakuin/engine/Operation", name := "<init>", desc := "(ZLjava/lang/String;[BLjava/lang/String;JJJJ)V" } : Jvm.MethodName) prog_12_method_1_code (13 : Nat) (Option.none : Option Jvm.ClassFile.FieldType), Jvm.Cond.code ({ cls := "com/example/sakuin/sakuin/engine/Operation", name := "isDelete", desc := "()Z" } : Jvm.MethodName) prog_12_method_4_code (1 : Nat) (Option.some Jvm.ClassFile.FieldType.boolean), Jvm.Cond.code ({ cls := "com/example/sakuin/sakuin/engine/Operation", name := "id", desc := "()Ljava/lang/String;" } : Jvm.MethodName) prog_12_method_5_code (1 : Nat) (Option.some (Jvm.ClassFile.FieldType.object "java/lang/String")), Jvm.Cond.code ({ cls := "java/lang/String", name := "equals", desc := "(Ljava/lang/Object;)Z" } : Jvm.MethodName) jdk_42_method_66_code (3 : Nat) (Option.some Jvm.ClassFile.FieldType.boolean), Jvm.Cond.code ({ cls := "com/example/sakuin/sakuin/engine/Operation", name := "source", desc := "()[B" } : Jvm.MethodName) prog_12_method_6_code (1 : Nat) (Option.some (Jvm.ClassFile.FieldType.array Jvm.ClassFile.FieldType.byte)), Jvm.Cond.code ({ cls := "com/example/sakuin/sakuin/engine/Operation", name := "routing", desc := "()Ljava/lang/String;" } : Jvm.MethodName) prog_12_method_7_code (1 : Nat) (Option.some (Jvm.ClassFile.FieldType.object "java/lang/String")), Jvm.Cond.code ({ cls := "com/example/sakuin/sakuin/engine/Operation", name := "version", desc := "()J" } : Jvm.MethodName) prog_12_method_8_code (1 : Nat) (Option.some Jvm.ClassFile.FieldType.long), Jvm.Cond.code ({ cls := "com/example/sakuin/sakuin/engine/Operation", name := "seqNo", desc := "()J" } : Jvm.MethodName) prog_12_method_9_code (1 : Nat) (Option.some Jvm.ClassFile.FieldType.long), Jvm.Cond.code ({ cls := "com/example/sakuin/sakuin/engine/Operation", name := "primaryTerm", desc := "()J" } : Jvm.MethodName) prog_12_method_10_code (1 : Nat) (Option.some Jvm.ClassFile.FieldType.long), Jvm.Cond.code ({ cls := "com/example/sakuin/sakuin/engine/Operation", name := "time", desc := "()J" } : Jvm.MethodName) prog_12_method_11_code (1 : Nat) (Option.some Jvm.ClassFile.FieldType.long), Jvm.Cond.code ({ cls := "java/lang/String", name := "valueOf", desc := "(C)Ljava/lang/String;" } : Jvm.MethodName) jdk_42_method_139_code (1 : Nat) (Option.some (Jvm.ClassFile.FieldType.object "java/lang/String")), Jvm.Cond.code ({ cls := "java/lang/StringLatin1", name := "canEncode", desc := "(C)Z" } : Jvm.MethodName) jdk_43_method_3_code (1 : Nat) (Option.some Jvm.ClassFile.FieldType.boolean), Jvm.Cond.code ({ cls := "java/lang/StringLatin1", name := "toBytes", desc := "(C)[B" } : Jvm.MethodName) jdk_43_method_46_code (1 : Nat) (Option.some (Jvm.ClassFile.FieldType.array Jvm.ClassFile.FieldType.byte)), Jvm.Cond.code ({ cls := "java/lang/String", name := "<init>", desc := "([BB)V" } : Jvm.MethodName) jdk_42_method_151_code (3 : Nat) (Option.none : Option Jvm.ClassFile.FieldType)]
set_option maxRecDepth 65536 in
theorem codes_eq : words1.filter isCode = codes1 := rfl
theorem w_codes : ∀ c ∈ words1.filter isCode, c.before args0 about1 = true := by
  rw [codes_eq]
  intro c hc
  simp only [codes1, List.mem_cons, List.not_mem_nil, or_false] at hc
  rcases hc with rfl | rfl | rfl | rfl | rfl | rfl | rfl | rfl | rfl | rfl | rfl | rfl | rfl | rfl | rfl | rfl | rfl | rfl | rfl | rfl | rfl | rfl
  · exact w_c0
  · exact w_c1
  · exact w_c2
  · exact w_c3
  · exact w_c4
  · exact w_c5
  · exact w_c6
  · exact w_c7
  · exact w_c8
  · exact w_c9
  · exact w_c10
  · exact w_c11
  · exact w_c12
  · exact w_c13
  · exact w_c14
  · exact w_c15
  · exact w_c16
  · exact w_c17
  · exact w_c18
  · exact w_c19
  · exact w_c20
  · exact w_c21
set_option maxRecDepth 65536 in
theorem w_t1 : (words1.take 24).all (fun c => isCode c || c.before args0 about1) = true := by decide +kernel
set_option maxRecDepth 65536 in
theorem w_t2 : ((words1.drop 24).take 24).all (fun c => isCode c || c.before args0 about1) = true := by decide +kernel
set_option maxRecDepth 65536 in
theorem w_t3 : (((words1.drop 24).drop 24).take 24).all (fun c => isCode c || c.before args0 about1) = true := by decide +kernel
set_option maxRecDepth 65536 in
theorem w_t4 : ((((words1.drop 24).drop 24).drop 24).take 24).all (fun c => isCode c || c.before args0 about1) = true := by decide +kernel
set_option maxRecDepth 65536 in
theorem w_t5 : ((((words1.drop 24).drop 24).drop 24).drop 24).all (fun c => isCode c || c.before args0 about1) = true := by decide +kernel
theorem w_tables : (allAtoms (Jvm.Cond.code x code maxLocals ret :: tables_1)).before args0 about1 = true := by
  rw [allAtoms_all]
  show words1.all (fun c => c.before args0 about1) = true
  refine all_split ?_ w_codes
  rw [← List.take_append_drop 24 words1, List.all_append, w_t1, ← List.take_append_drop 24 (words1.drop 24), List.all_append, w_t2, ← List.take_append_drop 24 ((words1.drop 24).drop 24), List.all_append, w_t3, ← List.take_append_drop 24 (((words1.drop 24).drop 24).drop 24), List.all_append, w_t4, w_t5]
  rfl
set_option maxRecDepth 65536 in
theorem w_rest : rest_1_c.before args0 about1 = true := by decide +kernel
set_option maxRecDepth 65536 in
theorem w_case : (Jvm.Cond.and given_1 narrow_1).before args0 about1 = true := by decide +kernel
theorem w_applies : (headSpec (Jvm.Cond.code x code maxLocals ret :: tables_1) room_1).applies x e0.platform about1 = true :=
  (Spec.applies_iff w_frames).mpr ⟨w_running, w_runnable, w_alone, w_named, w_hears, w_ripe, w_room, w_tables⟩
theorem atStart : AtStart classFile x code maxLocals ret World_1 tables_1 room_1 Calls_1 rest_1 Pre_1 launch0 p0 e0 about1 theMethod args0 below0 :=
  ⟨lists_1, trivial, launch0.admits_env _ _ _, launch0.least_env, fairChoices_fair.cas, fairChoices_fair.clock, w_frames, w_args, w_heap, w_applies, trivial, w_rest, w_case⟩
end start1
theorem witness_1 : WitnessClaimed_1 := ⟨start1.p0, start1.e0, start1.about1, start1.theMethod, start1.args0, start1.below0, start1.atStart⟩
end Jvm.Pilot.@@N@@
