import JvmDerived
import JvmDerived.Pilot.@@N@@Statement
import JvmDerived.Pilot.@@N@@Code
set_option linter.unusedVariables false
set_option linter.unusedSimpArgs false
namespace Jvm.RoadKit
open Sem ClassFile Op Lib Jvm.Stand Jvm.Free Jvm.LawKit
section New
variable {p : Program} {l : Launch} {e : Env} {R : Room} {s : State} {m : MethodId} {args : Array Value} {below : List Frame} {meth : Method} {c : Code} {T : State} {locs : List Loc} {cells slots : Nat}
theorem retI (X : Stand p l e R s m args below meth c T locs cells slots) (hx : p.tables.exec = Jvm.exec) {pc : Nat} {Ls : Array Slot} {z : Int32} {rest : List Value} (hret : meth.sig.returnType = some .int) (hd : decode c.code pc = .ok (.ireturn, 1)) {fs : List Frame}
    (hl : ∀ (f : JFrame) (acts : List Action), f.method = m → f.locked = none → f.entered = [] → (doReturn e (T.setTop f) acts (some (.int z))).1 = T.setFrames fs) : Steps p.tables e below (T.setTop (mkF m pc Ls (.int z :: rest))) (T.setFrames fs) := by
  have hm' : T.vm.method? m = some meth := X.method'
  have hn : narrow .int (.int z) = .int z := rfl
  show Steps p.tables e below (T.setTop { method := m, pc := pc, locals := Ls, stack := _ :: rest, locked := none }) _
  jvm_step X.here [X.here.top, hx, hd, hm', hret, hn]
  first | (intro acts; rw [hl _ acts rfl rfl rfl]) | rw [hl _ _ rfl rfl rfl]
  exact Steps.refl _
end New
end Jvm.RoadKit
/- laws to paste: Road.backV, Road.eqW, Road.codOf (cut by pick.py; bodies as the Statement names them) -/
namespace Jvm.Pilot.@@N@@
namespace StrChars
open Jvm Sem ClassFile Op Lib Jvm.Stand Jvm.Free.XT Jvm.Free.ALB Jvm.Free.JM Jvm.Free
open Jvm.Lib.Cold (StaticIs)
/-- a char array whose places are chars -/
def Ch (a : Addr) (A : Cell) (U : State) : Prop := Arr .char a A U ∧ Typed .char A
theorem Ch.mv {a : Addr} {A : Cell} {U U' : State} (h : Ch a A U) (hal : U.vm.Alike U'.vm) (hh : U'.heap = U.heap) : Ch a A U' := ⟨h.1.mv hal hh, h.2⟩
theorem Ch.keep {a : Addr} {A : Cell} {U U' : State} (h : Ch a A U) (hal : U.vm.Alike U'.vm) (hk : U'.heap[a]? = some A) : Ch a A U' := ⟨h.1.keep hal hk, h.2⟩
/-- what place i of a char[]'s cell holds -/
def cv (A : Cell) (i : Nat) : Int32 := match A.slots[i]? with | some (.int x) => x | _ => 0
theorem Ch.get {a : Addr} {A : Cell} {U : State} (h : Ch a A U) {i : Nat} (hi : i < A.slots.size) : A.slots[i]? = some (.int (cv A i)) := by
  have e := Array.getElem?_eq_getElem hi
  have f := h.2 i _ e
  unfold cv; rw [e]
  generalize A.slots[i] = v at f
  cases v <;> simp [fits] at f ⊢
/-- the byte that i2b leaves of a char -/
def lo8 (x : Int32) : Int32 := x.toInt8.toInt32
theorem fits_lo8 (y : Int32) : fits .byte (.int (lo8 y)) = true := by
  have h1 := y.toInt8.le_toInt
  have h2 := y.toInt8.toInt_lt
  simp only [lo8, fits, Bool.and_eq_true, decide_eq_true_eq, Int32.le_iff_toInt_le, Int8.toInt_toInt32, show (-128 : Int32).toInt = -128 from by decide, show (127 : Int32).toInt = 127 from by decide]
  omega
/-- A' is A but that each place j of lo .. hi - 1 holds f j -/
def Laid (A A' : Cell) (lo hi : Nat) (f : Nat → Value) : Prop := A'.cls = A.cls ∧ A'.vm = A.vm ∧ A'.slots.size = A.slots.size ∧ ∀ i, A'.slots[i]? = if lo ≤ i ∧ i < hi then some (f i) else A.slots[i]?
theorem Laid.zero (A : Cell) (lo : Nat) (f : Nat → Value) : Laid A A lo (lo + 0) f := ⟨rfl, rfl, rfl, fun i => by rw [if_neg (by omega)]⟩
theorem Laid.step {A Ak : Cell} {lo k : Nat} {f : Nat → Value} {v : Value} (h : Laid A Ak lo k f) (hlo : lo ≤ k) (hk : k < Ak.slots.size) (hv : v = f k) : Laid A (Ak.setSlot k v) lo (k + 1) f := by
  refine ⟨h.1, h.2.1, by simpa [Cell.setSlot] using h.2.2.1, fun i => ?_⟩
  by_cases e : k = i
  · subst e; rw [Cell.slots_setSlot_self v hk, if_pos (by omega), hv]
  · rw [Cell.slots_setSlot_ne v e, h.2.2.2 i]
    by_cases q : lo ≤ i ∧ i < k
    · rw [if_pos q, if_pos (by omega)]
    · rw [if_neg q, if_neg (by omega)]
def U16 : String := "java/lang/StringUTF16"
namespace Cmp5
def yN : MethodName := ⟨"java/lang/StringUTF16", "compress", "([CI[BII)I"⟩
abbrev yB : ByteArray := jdk_52_method_21_code
theorem d0 : decode yB 0 = .ok (.iconst 0, 1) := by decide +kernel
theorem d1 : decode yB 1 = .ok (.istore 5, 2) := by decide +kernel
theorem d3 : decode yB 3 = .ok (.iload 5, 2) := by decide +kernel
theorem d5 : decode yB 5 = .ok (.iload 4, 2) := by decide +kernel
theorem d7 : decode yB 7 = .ok (.if_icmp (.ge) 37, 3) := by decide +kernel
theorem d10 : decode yB 10 = .ok (.aload_n 0, 1) := by decide +kernel
theorem d11 : decode yB 11 = .ok (.iload_n 1, 1) := by decide +kernel
theorem d12 : decode yB 12 = .ok (.caload, 1) := by decide +kernel
theorem d13 : decode yB 13 = .ok (.istore 6, 2) := by decide +kernel
theorem d15 : decode yB 15 = .ok (.iload 6, 2) := by decide +kernel
theorem d17 : decode yB 17 = .ok (.sipush 255, 3) := by decide +kernel
theorem d20 : decode yB 20 = .ok (.if_icmp (.le) 6, 3) := by decide +kernel
theorem d26 : decode yB 26 = .ok (.aload_n 2, 1) := by decide +kernel
theorem d27 : decode yB 27 = .ok (.iload_n 3, 1) := by decide +kernel
theorem d28 : decode yB 28 = .ok (.iload 6, 2) := by decide +kernel
theorem d30 : decode yB 30 = .ok (.i2b, 1) := by decide +kernel
theorem d31 : decode yB 31 = .ok (.bastore, 1) := by decide +kernel
theorem d32 : decode yB 32 = .ok (.iinc 1 1, 3) := by decide +kernel
theorem d35 : decode yB 35 = .ok (.iinc 3 1, 3) := by decide +kernel
theorem d38 : decode yB 38 = .ok (.iinc 5 1, 3) := by decide +kernel
theorem d41 : decode yB 41 = .ok (.goto (-38), 3) := by decide +kernel
theorem d44 : decode yB 44 = .ok (.iload 4, 2) := by decide +kernel
theorem d46 : decode yB 46 = .ok (.ireturn, 1) := by decide +kernel
def site : List Cond := []
def tab : Cond := tabOf yN yB 7 (some .int) site
def P (b : Addr) (A : Cell) (d : Addr) (B : Cell) (o q len : Nat) (args : Array Value) (s : State) : Prop := args = #[.ref b, .int (Int32.ofNat o), .ref d, .int (Int32.ofNat q), .int (Int32.ofNat len)] ∧ Ch b A s ∧ Arr .byte d B s ∧ b ≠ d ∧ o + len ≤ A.slots.size ∧ q + len ≤ B.slots.size ∧ ∀ i, i < len → ¬ 255 < cv A (o + i)
def E (b : Addr) (A : Cell) (d : Addr) (B : Cell) (o q len : Nat) (r : Option Value) (s u : State) : Prop := r = some (.int (Int32.ofNat len)) ∧ ∃ B', Put d B' s u ∧ Laid B B' q (q + len) (fun j => Value.int (lo8 (cv A (o + (j - q)))))
/-- no char of the range above 255: len; the places written hold each char's low byte -/
theorem law (l : Launch) (b : Addr) (A : Cell) (d : Addr) (B : Cell) (o q len : Nat) : Law l yN 5 5 0 0 yB 7 (some .int) site (P b A d B o q len) (E b A d B o q len) (copyLocs d q len) 0 0 := by
  refine Law.of_walk (plainFor_of_name (by decide +kernel)) (by decide +kernel) (by decide +kernel) (by decide) (fun _ _ h => by rw [h.1]; rfl) (fun _ U U' hal hh h => ⟨h.1, h.2.1.mv hal hh, h.2.2.1.mv hal hh, h.2.2.2⟩) (fun r U U' V V' h1 hal h2 h => ⟨h.1, h.2.elim fun B' q => ⟨B', q.1.mv h1 h2, q.2⟩⟩) ?_
  intro p e s m args below meth c s₁ X0 hexec hbytes hml hret hlk hnm hown hh0 W hP
  obtain ⟨rfl, hA, hB, hne, l1, l2, hp⟩ := hP
  have c1 : Steps p.tables e below (s₁.setTop (entryFrame m #[.ref b, .int (Int32.ofNat o), .ref d, .int (Int32.ofNat q), .int (Int32.ofNat len)] 7)) (s₁.setTop (mkF m 0 #[.val (.ref b), .val (.int (Int32.ofNat o)), .val (.ref d), .val (.int (Int32.ofNat q)), .val (.int (Int32.ofNat len)), .unset, .unset] [])) := entry rfl
  have hA0 := hA.1.mv X0.warmed.alike hh0
  have hB0 := hB.mv X0.warmed.alike hh0
  have a31 := hA.1.2.2.2
  have c2 : Steps p.tables e below (s₁.setTop (entryFrame m #[.ref b, .int (Int32.ofNat o), .ref d, .int (Int32.ofNat q), .int (Int32.ofNat len)] 7)) (s₁.setTop (mkF m 3 #[.val (.ref b), .val (.int (Int32.ofNat o)), .val (.ref d), .val (.int (Int32.ofNat q)), .val (.int (Int32.ofNat len)), .val (.int 0), .unset] [])) := c1.trans (by
    refine iconstV X0.here hexec rfl 0 (hb hbytes d0) (by decide) ?_
    refine XS.istore X0.here hexec rfl (hb hbytes d1) rfl rfl ?_
    exact Steps.refl _)
  have loop : ∀ (r i : Nat), i + r = len → ∀ (z : Slot), (z = .unset ∨ ∃ w, z = .val w ∧ w.category = 1) → ∀ (Tl : State) (Bk : Cell), Stand p l e { frames := 0, locals := 0, cells := 0, slots := 0 } s m #[.ref b, .int (Int32.ofNat o), .ref d, .int (Int32.ofNat q), .int (Int32.ofNat len)] below meth c Tl ([] ++ copyLocs d q i) 0 0 → Put d Bk s₁ Tl → Laid B Bk q (q + i) (fun j => Value.int (lo8 (cv A (o + (j - q))))) →
      Steps p.tables e below (s₁.setTop (entryFrame m #[.ref b, .int (Int32.ofNat o), .ref d, .int (Int32.ofNat q), .int (Int32.ofNat len)] 7)) (Tl.setTop (mkF m 3 #[.val (.ref b), .val (.int (Int32.ofNat (o + i))), .val (.ref d), .val (.int (Int32.ofNat (q + i))), .val (.int (Int32.ofNat len)), .val (.int (Int32.ofNat i)), z] [])) → ∃ (T' : State) (B' : Cell) (z' : Slot), Stand p l e { frames := 0, locals := 0, cells := 0, slots := 0 } s m #[.ref b, .int (Int32.ofNat o), .ref d, .int (Int32.ofNat q), .int (Int32.ofNat len)] below meth c T' ([] ++ copyLocs d q len) 0 0 ∧ Put d B' s₁ T' ∧ Laid B B' q (q + len) (fun j => Value.int (lo8 (cv A (o + (j - q))))) ∧
      Steps p.tables e below (s₁.setTop (entryFrame m #[.ref b, .int (Int32.ofNat o), .ref d, .int (Int32.ofNat q), .int (Int32.ofNat len)] 7)) (T'.setTop (mkF m 3 #[.val (.ref b), .val (.int (Int32.ofNat (o + len))), .val (.ref d), .val (.int (Int32.ofNat (q + len))), .val (.int (Int32.ofNat len)), .val (.int (Int32.ofNat len)), z'] [])) := by
    intro r
    induction r with
    | zero =>
      intro i hi z hz Tl Bk Xl pl fl cl
      have hil : i = len := by omega
      rw [hil] at Xl fl cl
      exact ⟨Tl, Bk, z, Xl, pl, fl, cl⟩
    | succ r ih =>
      intro i hi z hz Tl Bk Xl pl fl cl
      have all := X0.warmed.alike.symm.trans Xl.warmed.alike
      have hAl := hA0.keep all (pl.other hne hA0.1)
      have hBk := hB0.like all pl.1 fl.1 fl.2.1 fl.2.2.1
      have hlt : q + i < Bk.slots.size := by rw [fl.2.2.1]; omega
      have c3 : Steps p.tables e below (s₁.setTop (entryFrame m #[.ref b, .int (Int32.ofNat o), .ref d, .int (Int32.ofNat q), .int (Int32.ofNat len)] 7)) (Tl.setTop (mkF m 12 #[.val (.ref b), .val (.int (Int32.ofNat (o + i))), .val (.ref d), .val (.int (Int32.ofNat (q + i))), .val (.int (Int32.ofNat len)), .val (.int (Int32.ofNat i)), z] [.int (Int32.ofNat (o + i)), .ref b])) := cl.trans (by
        refine XS.iload Xl.here hexec rfl (hb hbytes d3) rfl ?_
        refine XS.iload Xl.here hexec rfl (hb hbytes d5) rfl ?_
        refine XS.icmpNo Xl.here hexec rfl (hb hbytes d7) rfl (ii_ge_f (lt32 (by omega) (by omega))) ?_
        refine XS.aloadN Xl.here hexec rfl (hb hbytes d10) rfl rfl ?_
        refine XS.iloadN Xl.here hexec rfl (hb hbytes d11) rfl ?_
        exact Steps.refl _)
      have c4 : Steps p.tables e below (s₁.setTop (entryFrame m #[.ref b, .int (Int32.ofNat o), .ref d, .int (Int32.ofNat q), .int (Int32.ofNat len)] 7)) (Tl.setTop (mkF m 13 #[.val (.ref b), .val (.int (Int32.ofNat (o + i))), .val (.ref d), .val (.int (Int32.ofNat (q + i))), .val (.int (Int32.ofNat len)), .val (.int (Int32.ofNat i)), z] [.int (cv A (o + i))])) := c3.trans (by
        refine Xl.aget hexec hAl rfl (hA.get (i := o + i) (by omega)) rfl rfl (hb hbytes d12) ?_
        exact Steps.refl _)
      have c5 : Steps p.tables e below (s₁.setTop (entryFrame m #[.ref b, .int (Int32.ofNat o), .ref d, .int (Int32.ofNat q), .int (Int32.ofNat len)] 7)) (Tl.setTop (mkF m 15 #[.val (.ref b), .val (.int (Int32.ofNat (o + i))), .val (.ref d), .val (.int (Int32.ofNat (q + i))), .val (.int (Int32.ofNat len)), .val (.int (Int32.ofNat i)), .val (.int (cv A (o + i)))] [])) := c4.trans (by
        refine XS.istoreS Xl.here hexec rfl (hb hbytes d13) rfl rfl hz ?_
        exact Steps.refl _)
      have c6 : Steps p.tables e below (s₁.setTop (entryFrame m #[.ref b, .int (Int32.ofNat o), .ref d, .int (Int32.ofNat q), .int (Int32.ofNat len)] 7)) (Tl.setTop (mkF m 31 #[.val (.ref b), .val (.int (Int32.ofNat (o + i))), .val (.ref d), .val (.int (Int32.ofNat (q + i))), .val (.int (Int32.ofNat len)), .val (.int (Int32.ofNat i)), .val (.int (cv A (o + i)))] [.int (lo8 (cv A (o + i))), .int (Int32.ofNat (q + i)), .ref d])) := c5.trans (by
        refine XS.iload Xl.here hexec rfl (hb hbytes d15) rfl ?_
        refine sipushV Xl.here hexec rfl 255 (hb hbytes d17) (by decide) ?_
        refine XS.icmpYes Xl.here hexec rfl (pc0 := 20) rfl (hb hbytes d20) rfl (ii_le_t (hp i (by omega))) (by decide) rfl ?_
        refine XS.aloadN Xl.here hexec rfl (hb hbytes d26) rfl rfl ?_
        refine XS.iloadN Xl.here hexec rfl (hb hbytes d27) rfl ?_
        refine XS.iload Xl.here hexec rfl (hb hbytes d28) rfl ?_
        refine i2b Xl.here hexec rfl (hb hbytes d30) rfl ?_
        exact Steps.refl _)
      obtain ⟨T7, X7, p7, st7⟩ := Xl.aput hexec hBk rfl hlt rfl (fits_lo8 (cv A (o + i))) (g := (mkF m 31 #[.val (.ref b), .val (.int (Int32.ofNat (o + i))), .val (.ref d), .val (.int (Int32.ofNat (q + i))), .val (.int (Int32.ofNat len)), .val (.int (Int32.ofNat i)), .val (.int (cv A (o + i)))] [.int (lo8 (cv A (o + i))), .int (Int32.ofNat (q + i)), .ref d])) rfl (rest := []) rfl (hb hbytes d31)
      have c8 : Steps p.tables e below (s₁.setTop (entryFrame m #[.ref b, .int (Int32.ofNat o), .ref d, .int (Int32.ofNat q), .int (Int32.ofNat len)] 7)) (T7.setTop (mkF m 32 #[.val (.ref b), .val (.int (Int32.ofNat (o + i))), .val (.ref d), .val (.int (Int32.ofNat (q + i))), .val (.int (Int32.ofNat len)), .val (.int (Int32.ofNat i)), .val (.int (cv A (o + i)))] [])) := c6.trans (st7 _ (Steps.refl _))
      have c9 : Steps p.tables e below (s₁.setTop (entryFrame m #[.ref b, .int (Int32.ofNat o), .ref d, .int (Int32.ofNat q), .int (Int32.ofNat len)] 7)) (T7.setTop (mkF m 3 #[.val (.ref b), .val (.int (Int32.ofNat (o + i) + 1)), .val (.ref d), .val (.int (Int32.ofNat (q + i) + 1)), .val (.int (Int32.ofNat len)), .val (.int (Int32.ofNat i + 1)), .val (.int (cv A (o + i)))] [])) := c8.trans (by
        refine iincV X7.here hexec rfl 1 (hb hbytes d32) (by decide) rfl rfl ?_
        refine iincV X7.here hexec rfl 1 (hb hbytes d35) (by decide) rfl rfl ?_
        refine iincV X7.here hexec rfl 1 (hb hbytes d38) (by decide) rfl rfl ?_
        refine XS.goto X7.here hexec rfl (pc0 := 41) rfl (hb hbytes d41) (by decide) rfl ?_
        exact Steps.refl _)
      have c10 : Steps p.tables e below (s₁.setTop (entryFrame m #[.ref b, .int (Int32.ofNat o), .ref d, .int (Int32.ofNat q), .int (Int32.ofNat len)] 7)) (T7.setTop (mkF m 3 #[.val (.ref b), .val (.int (Int32.ofNat (o + (i + 1)))), .val (.ref d), .val (.int (Int32.ofNat (q + (i + 1)))), .val (.int (Int32.ofNat len)), .val (.int (Int32.ofNat (i + 1))), .val (.int (cv A (o + i)))] [])) := by
        have := c9
        rw [succ32, succ32, succ32] at this
        exact this
      exact ih (i + 1) (by omega) _ (Or.inr ⟨_, rfl, rfl⟩) T7 _ (by rw [copyLocs_step, ← List.append_assoc]; exact X7) (pl.trans p7) (fl.step (by omega) hlt (by simp)) c10
  obtain ⟨T9, B9, z9, X9, p9, f9, g9⟩ := loop len 0 (by omega) .unset (Or.inl rfl) s₁ B (by simpa [copyLocs] using X0) ⟨hB0.1, fun _ _ => rfl, rfl⟩ (Laid.zero _ _ _) c2
  have c11 : Steps p.tables e below (s₁.setTop (entryFrame m #[.ref b, .int (Int32.ofNat o), .ref d, .int (Int32.ofNat q), .int (Int32.ofNat len)] 7)) (T9.setTop (mkF m 46 #[.val (.ref b), .val (.int (Int32.ofNat (o + len))), .val (.ref d), .val (.int (Int32.ofNat (q + len))), .val (.int (Int32.ofNat len)), .val (.int (Int32.ofNat len)), z9] [.int (Int32.ofNat len)])) := g9.trans (by
    refine XS.iload X9.here hexec rfl (hb hbytes d3) rfl ?_
    refine XS.iload X9.here hexec rfl (hb hbytes d5) rfl ?_
    refine XS.icmpYes X9.here hexec rfl (pc0 := 7) rfl (hb hbytes d7) rfl (ii_ge_t (nlt32 (by omega) (Nat.le_refl _))) (by decide) rfl ?_
    refine XS.iload X9.here hexec rfl (hb hbytes d44) rfl ?_
    exact Steps.refl _)
  exact ⟨T9, some (.int (Int32.ofNat len)), _, _, _, X9, by simp, rfl, rfl, (fun h => by cases h), ⟨rfl, B9, p9.from hh0, f9⟩, fun fs hl => c11.trans (X9.ireturnOut hexec hret rfl (Or.inl rfl) (hb hbytes d46) hl)⟩
end Cmp5
namespace Cmp3
def yN : MethodName := ⟨"java/lang/StringUTF16", "compress", "([CII)[B"⟩
abbrev yB : ByteArray := jdk_52_method_16_code
theorem d0 : decode yB 0 = .ok (.iload_n 2, 1) := by decide +kernel
theorem d1 : decode yB 1 = .ok (.newarray .byte, 2) := by decide +kernel
theorem d3 : decode yB 3 = .ok (.astore_n 3, 1) := by decide +kernel
theorem d4 : decode yB 4 = .ok (.aload_n 0, 1) := by decide +kernel
theorem d5 : decode yB 5 = .ok (.iload_n 1, 1) := by decide +kernel
theorem d6 : decode yB 6 = .ok (.aload_n 3, 1) := by decide +kernel
theorem d7 : decode yB 7 = .ok (.iconst 0, 1) := by decide +kernel
theorem d8 : decode yB 8 = .ok (.iload_n 2, 1) := by decide +kernel
theorem d9 : decode yB 9 = .ok (.invokestatic 115, 3) := by decide +kernel
theorem d12 : decode yB 12 = .ok (.istore 4, 2) := by decide +kernel
theorem d14 : decode yB 14 = .ok (.iload 4, 2) := by decide +kernel
theorem d16 : decode yB 16 = .ok (.iload_n 2, 1) := by decide +kernel
theorem d17 : decode yB 17 = .ok (.if_icmp (.eq) 40, 3) := by decide +kernel
theorem d57 : decode yB 57 = .ok (.aload_n 3, 1) := by decide +kernel
theorem d58 : decode yB 58 = .ok (.areturn, 1) := by decide +kernel
def site : List Cond := [.arrayClass .byte, Cmp5.tab] ++ staticW U16 115 Cmp5.yN
def tab : Cond := tabOf yN yB 6 (some (.array .byte)) site
def P (b : Addr) (A : Cell) (o len : Nat) (args : Array Value) (s : State) : Prop := args = #[.ref b, .int (Int32.ofNat o), .int (Int32.ofNat len)] ∧ Ch b A s ∧ o + len ≤ A.slots.size ∧ len ≤ 536870912 ∧ ∀ i, i < len → ¬ 255 < cv A (o + i)
def E (b : Addr) (A : Cell) (o len : Nat) (r : Option Value) (s u : State) : Prop := NewArr .byte "[B" len (fun j => .int (lo8 (cv A (o + j)))) r s u ∧ u.heap.size = s.heap.size + 1
/-- no char of the range above 255: a new byte[] of their low bytes -/
theorem law (l : Launch) (b : Addr) (A : Cell) (o len : Nat) : Law l yN 3 3 1 18 yB 6 (some (.array .byte)) site (P b A o len) (E b A o len) [] 1 len := by
  refine Law.of_walk (plainFor_of_name (by decide +kernel)) (by decide +kernel) (by decide +kernel) (by decide) (fun _ _ h => by rw [h.1]; rfl) (fun _ U U' hal hh h => ⟨h.1, h.2.1.mv hal hh, h.2.2⟩) (fun r U U' V V' h1 hal h2 h => ⟨NewArr.mv r U U' V V' h1 hal h2 h.1, by rw [h1, h2]; exact h.2⟩) ?_
  intro p e s m args below meth c s₁ X0 hexec hbytes hml hret hlk hnm hown hh0 W hP
  obtain ⟨rfl, hA, l1, l2, hp⟩ := hP
  have a31 := hA.1.2.2.2
  have c1 : Steps p.tables e below (s₁.setTop (entryFrame m #[.ref b, .int (Int32.ofNat o), .int (Int32.ofNat len)] 6)) (s₁.setTop (mkF m 0 #[.val (.ref b), .val (.int (Int32.ofNat o)), .val (.int (Int32.ofNat len)), .unset, .unset, .unset] [])) := entry rfl
  have c2 : Steps p.tables e below (s₁.setTop (entryFrame m #[.ref b, .int (Int32.ofNat o), .int (Int32.ofNat len)] 6)) (s₁.setTop (mkF m 1 #[.val (.ref b), .val (.int (Int32.ofNat o)), .val (.int (Int32.ofNat len)), .unset, .unset, .unset] [.int (Int32.ofNat len)])) := c1.trans (by
    refine XS.iloadN X0.here hexec rfl (hb hbytes d0) rfl ?_
    exact Steps.refl _)
  obtain ⟨T3, B3, X3, ba3, bs3, bv3, bh3, bf3, st3⟩ := X0.anew hexec (atype := .byte) (wk W (.arrayClass .byte)) rfl (by show len * 1 ≤ _; omega) (by omega) (g := (mkF m 1 #[.val (.ref b), .val (.int (Int32.ofNat o)), .val (.int (Int32.ofNat len)), .unset, .unset, .unset] [.int (Int32.ofNat len)])) rfl (hb hbytes d1) (rest := []) rfl (Nat.le_refl _) (by show 0 + len ≤ len; omega)
  rw [hh0] at ba3 st3
  have kp3 : XT.Kept s T3 := (XT.Kept.of_eq hh0).push bh3
  have hA3 := hA.keep X3.warmed.alike (kp3 _ _ hA.1.1)
  have hne : b ≠ s.heap.size := hA.1.ne
  have c4 : Steps p.tables e below (s₁.setTop (entryFrame m #[.ref b, .int (Int32.ofNat o), .int (Int32.ofNat len)] 6)) (T3.setTop (mkF m 3 #[.val (.ref b), .val (.int (Int32.ofNat o)), .val (.int (Int32.ofNat len)), .unset, .unset, .unset] [.ref s.heap.size])) := c2.trans (st3 _ (Steps.refl _))
  have c5 : Steps p.tables e below (s₁.setTop (entryFrame m #[.ref b, .int (Int32.ofNat o), .int (Int32.ofNat len)] 6)) (T3.setTop (mkF m 9 #[.val (.ref b), .val (.int (Int32.ofNat o)), .val (.int (Int32.ofNat len)), .val (.ref s.heap.size), .unset, .unset] [.int (Int32.ofNat len), .int 0, .ref s.heap.size, .int (Int32.ofNat o), .ref b])) := c4.trans (by
    refine XS.astoreN X3.here hexec rfl (hb hbytes d3) rfl rfl rfl ?_
    refine XS.aloadN X3.here hexec rfl (hb hbytes d4) rfl rfl ?_
    refine XS.iloadN X3.here hexec rfl (hb hbytes d5) rfl ?_
    refine XS.aloadN X3.here hexec rfl (hb hbytes d6) rfl rfl ?_
    refine iconstV X3.here hexec rfl 0 (hb hbytes d7) (by decide) ?_
    refine XS.iloadN X3.here hexec rfl (hb hbytes d8) rfl ?_
    exact Steps.refl _)
  obtain ⟨v6, T6, X6, E6, g6⟩ := X3.callS hexec (Cmp5.law l b A s.heap.size B3 o 0 len) hown (wks W (staticW U16 115 Cmp5.yN)) (wk W Cmp5.tab) (W := 0) (Nat.le_of_ble_eq_true rfl) (Nat.le_of_ble_eq_true rfl) (Nat.le_refl _) (by show 0 + len + 0 ≤ len; omega) (g := (mkF m 9 #[.val (.ref b), .val (.int (Int32.ofNat o)), .val (.int (Int32.ofNat len)), .val (.ref s.heap.size), .unset, .unset] [.int (Int32.ofNat len), .int (Int32.ofNat 0), .ref s.heap.size, .int (Int32.ofNat o), .ref b])) rfl (by rw [hml]; rfl) c5 (argsL := [.ref b, .int (Int32.ofNat o), .ref s.heap.size, .int (Int32.ofNat 0), .int (Int32.ofNat len)]) (rest := []) rfl rfl (by show 2 * 0 + 0 ≤ _; decide) (hb hbytes d9) (⟨rfl, hA3, ba3, hne, l1, by rw [bs3]; simp, hp⟩)
  obtain ⟨rfl, B6, p6, f6⟩ := E6
  have c7 : Steps p.tables e below (s₁.setTop (entryFrame m #[.ref b, .int (Int32.ofNat o), .int (Int32.ofNat len)] 6)) (T6.setTop (mkF m 12 #[.val (.ref b), .val (.int (Int32.ofNat o)), .val (.int (Int32.ofNat len)), .val (.ref s.heap.size), .unset, .unset] [.int (Int32.ofNat len)])) := g6
  have c8 : Steps p.tables e below (s₁.setTop (entryFrame m #[.ref b, .int (Int32.ofNat o), .int (Int32.ofNat len)] 6)) (T6.setTop (mkF m 58 #[.val (.ref b), .val (.int (Int32.ofNat o)), .val (.int (Int32.ofNat len)), .val (.ref s.heap.size), .val (.int (Int32.ofNat len)), .unset] [.ref s.heap.size])) := c7.trans (by
    refine XS.istore X6.here hexec rfl (hb hbytes d12) rfl rfl ?_
    refine XS.iload X6.here hexec rfl (hb hbytes d14) rfl ?_
    refine XS.iloadN X6.here hexec rfl (hb hbytes d16) rfl ?_
    refine XS.icmpYes X6.here hexec rfl (pc0 := 17) rfl (hb hbytes d17) rfl (ii_eq_t rfl) (by decide) rfl ?_
    refine XS.aloadN X6.here hexec rfl (hb hbytes d57) rfl rfl ?_
    exact Steps.refl _)
  have X8 := X6.wide (L' := []) (cells' := 1) (slots' := len) (fun x hx hlt => by
    simp only [List.nil_append, copyLocs, List.mem_map, List.mem_range] at hx
    obtain ⟨i, -, rfl⟩ := hx
    exact absurd hlt (Nat.lt_irrefl _)) (Nat.le_refl _) (by omega)
  exact ⟨T6, some (.ref s.heap.size), _, _, _, X8, rfl, rfl, rfl, (fun h => by cases h), ⟨⟨rfl, B6, ba3.like (X3.warmed.alike.symm.trans X6.warmed.alike) p6.1 f6.1 f6.2.1 f6.2.2.1, f6.2.1.trans bv3, by rw [X6.warmed.alike.findClass, f6.1]; exact bf3, by rw [f6.2.2.1, bs3]; simp, fun j hj => by rw [f6.2.2.2 j, if_pos (by omega)]; rfl, kp3.put p6 (Nat.le_refl _)⟩, by rw [p6.2.2, bh3, hh0]; simp⟩, fun fs hl => c8.trans (X8.areturnOut hexec rfl hret rfl (hb hbytes d58) hl)⟩
end Cmp3
namespace CodL
def yN : MethodName := ⟨"java/lang/StringUTF16", "coderFromArrayLen", "([BI)B"⟩
abbrev yB : ByteArray := jdk_52_method_15_code
theorem d0 : decode yB 0 = .ok (.iload_n 1, 1) := by decide +kernel
theorem d1 : decode yB 1 = .ok (.aload_n 0, 1) := by decide +kernel
theorem d2 : decode yB 2 = .ok (.arraylength, 1) := by decide +kernel
theorem d3 : decode yB 3 = .ok (.isub, 1) := by decide +kernel
theorem d4 : decode yB 4 = .ok (.bipush 31, 2) := by decide +kernel
theorem d6 : decode yB 6 = .ok (.iushr, 1) := by decide +kernel
theorem d7 : decode yB 7 = .ok (.i2b, 1) := by decide +kernel
theorem d8 : decode yB 8 = .ok (.ireturn, 1) := by decide +kernel
def site : List Cond := []
def tab : Cond := tabOf yN yB 2 (some .byte) site
def P (d : Addr) (B : Cell) (args : Array Value) (s : State) : Prop := args = #[.ref d, .int (Int32.ofNat B.slots.size)] ∧ Arr .byte d B s
def E (r : Option Value) (s u : State) : Prop := XT.PureE (some (.int 0)) r s u
/-- an array as long as the number of chars: LATIN1 -/
theorem law (l : Launch) (d : Addr) (B : Cell) : Law l yN 2 2 0 0 yB 2 (some .byte) site (P d B) E [] 0 0 := by
  refine Law.of_walk (plainFor_of_name (by decide +kernel)) (by decide +kernel) (by decide +kernel) (by decide) (fun _ _ h => by rw [h.1]; rfl) (fun _ U U' hal hh h => ⟨h.1, h.2.mv hal hh⟩) (fun r U U' V V' h1 hal h2 h => XT.PureE.mv r U U' V V' h1 hal h2 h) ?_
  intro p e s m args below meth c s₁ X0 hexec hbytes hml hret hlk hnm hown hh0 W hP
  obtain ⟨rfl, hB⟩ := hP
  have hB0 := hB.mv X0.warmed.alike hh0
  have c1 : Steps p.tables e below (s₁.setTop (entryFrame m #[.ref d, .int (Int32.ofNat B.slots.size)] 2)) (s₁.setTop (mkF m 0 #[.val (.ref d), .val (.int (Int32.ofNat B.slots.size))] [])) := entry rfl
  have c2 : Steps p.tables e below (s₁.setTop (entryFrame m #[.ref d, .int (Int32.ofNat B.slots.size)] 2)) (s₁.setTop (mkF m 2 #[.val (.ref d), .val (.int (Int32.ofNat B.slots.size))] [.ref d, .int (Int32.ofNat B.slots.size)])) := c1.trans (by
    refine XS.iloadN X0.here hexec rfl (hb hbytes d0) rfl ?_
    refine XS.aloadN X0.here hexec rfl (hb hbytes d1) rfl rfl ?_
    exact Steps.refl _)
  have c3 : Steps p.tables e below (s₁.setTop (entryFrame m #[.ref d, .int (Int32.ofNat B.slots.size)] 2)) (s₁.setTop (mkF m 8 #[.val (.ref d), .val (.int (Int32.ofNat B.slots.size))] [.int (lo8 (ushr (Int32.ofNat B.slots.size - Int32.ofNat B.slots.size) 31))])) := c2.trans (by
    refine X0.alen hexec hB0 rfl rfl (hb hbytes d2) ?_
    refine XS.isub X0.here hexec rfl (hb hbytes d3) rfl ?_
    refine bipushV X0.here hexec rfl 31 (hb hbytes d4) (by decide) ?_
    refine iushr X0.here hexec rfl (hb hbytes d6) rfl ?_
    refine i2b X0.here hexec rfl (hb hbytes d7) rfl ?_
    exact Steps.refl _)
  have e0 : lo8 (ushr (Int32.ofNat B.slots.size - Int32.ofNat B.slots.size) 31) = 0 := by rw [Int32.sub_self]; decide
  rw [e0] at c3
  exact ⟨s₁, some (.int 0), _, _, _, X0, rfl, rfl, rfl, (fun h => by cases h), ⟨rfl, hh0⟩, fun fs hl => c3.trans (X0.ireturnOut hexec hret rfl (Or.inr (Or.inr (Or.inl rfl))) (hb hbytes d8) hl)⟩
end CodL
/-- the String at a is Latin-1 over a new byte[] (the heap's one new cell): the low bytes of the len chars of A from o on; every cell but a is kept -/
def Got (a : Addr) (D : Cell) (fV fC : Field) (A : Cell) (o len : Nat) (r : Option Value) (s u : State) : Prop := r = none ∧ ∃ D' V : Cell, Blank "java/lang/String" a D' u ∧ Same D D' [fV.slot, fC.slot] ∧ D'.slots[fV.slot]? = some (.ref s.heap.size) ∧ D'.slots[fC.slot]? = some (.int 0) ∧ Arr .byte s.heap.size V u ∧ V.vm = .none ∧ u.vm.findClass "[B" = some V.cls ∧ V.slots.size = len ∧ (∀ j, j < len → V.slots[j]? = some (.int (lo8 (cv A (o + j))))) ∧ (∀ (y : Addr) (c : Cell), y ≠ a → s.heap[y]? = some c → u.heap[y]? = some c) ∧ u.heap.size = s.heap.size + 1
theorem Got.mv {a : Addr} {D A : Cell} {fV fC : Field} {o len : Nat} : ∀ r (U U' V V' : State), U'.heap = U.heap → V.vm.Alike V'.vm → V'.heap = V.heap → Got a D fV fC A o len r U V → Got a D fV fC A o len r U' V' :=
  fun r U U' V V' h1 hal h2 ⟨e0, D', X, a1, a2, a3, a4, a5, a6, a7, a8, a9, a10, a11⟩ => ⟨e0, D', X, a1.mv hal h2, a2, by rw [h1]; exact a3, a4, by rw [h1]; exact a5.mv hal h2, a6, by rw [hal.findClass]; exact a7, a8, a9, by rw [h1, h2]; exact a10, by rw [h1, h2]; exact a11⟩
namespace New4
def yN : MethodName := ⟨"java/lang/String", "<init>", "([CIILjava/lang/Void;)V"⟩
abbrev yB : ByteArray := jdk_42_method_149_code
theorem d0 : decode yB 0 = .ok (.aload_n 0, 1) := by decide +kernel
theorem d1 : decode yB 1 = .ok (.invokespecial 1, 3) := by decide +kernel
theorem d4 : decode yB 4 = .ok (.iload_n 3, 1) := by decide +kernel
theorem d5 : decode yB 5 = .ok (.ifCond (.ne) 22, 3) := by decide +kernel
theorem d27 : decode yB 27 = .ok (.getstatic 38, 3) := by decide +kernel
theorem d30 : decode yB 30 = .ok (.ifCond (.eq) 28, 3) := by decide +kernel
theorem d33 : decode yB 33 = .ok (.aload_n 1, 1) := by decide +kernel
theorem d34 : decode yB 34 = .ok (.iload_n 2, 1) := by decide +kernel
theorem d35 : decode yB 35 = .ok (.iload_n 3, 1) := by decide +kernel
theorem d36 : decode yB 36 = .ok (.invokestatic 177, 3) := by decide +kernel
theorem d39 : decode yB 39 = .ok (.astore 5, 2) := by decide +kernel
theorem d41 : decode yB 41 = .ok (.aload_n 0, 1) := by decide +kernel
theorem d42 : decode yB 42 = .ok (.aload 5, 2) := by decide +kernel
theorem d44 : decode yB 44 = .ok (.iload_n 3, 1) := by decide +kernel
theorem d45 : decode yB 45 = .ok (.invokestatic 47, 3) := by decide +kernel
theorem d48 : decode yB 48 = .ok (.putfield 15, 3) := by decide +kernel
theorem d51 : decode yB 51 = .ok (.aload_n 0, 1) := by decide +kernel
theorem d52 : decode yB 52 = .ok (.aload 5, 2) := by decide +kernel
theorem d54 : decode yB 54 = .ok (.putfield 9, 3) := by decide +kernel
theorem d57 : decode yB 57 = .ok (.return_, 1) := by decide +kernel
def site : List Cond := [.fieldLink "java/lang/String" 38 "java/lang/String" "COMPACT_STRINGS" "Z", Cmp3.tab, CodL.tab, .laysFinal "java/lang/String" "java/lang/String" "value" "[B", .fieldLink "java/lang/String" 9 "java/lang/String" "value" "[B", .laysFinal "java/lang/String" "java/lang/String" "coder" "B", .fieldLink "java/lang/String" 15 "java/lang/String" "coder" "B"] ++ objW "java/lang/String" 1 ++ staticW "java/lang/String" 177 Cmp3.yN ++ staticW "java/lang/String" 47 CodL.yN
def tab : Cond := tabOf yN yB 6 none site
def P (a : Addr) (D : Cell) (fV fC : Field) (b : Addr) (A : Cell) (z : Int32) (o len : Nat) (args : Array Value) (s : State) : Prop := args = #[.ref a, .ref b, .int (Int32.ofNat o), .int (Int32.ofNat len), .null] ∧ Blank "java/lang/String" a D s ∧ Found "java/lang/String" "value" "[B" fV s ∧ Found "java/lang/String" "coder" "B" fC s ∧ Ch b A s ∧ StaticIs s "java/lang/String" "COMPACT_STRINGS" "Z" (.int z) ∧ ¬ z = 0 ∧ 0 < len ∧ o + len ≤ A.slots.size ∧ len ≤ 536870912 ∧ ∀ i, i < len → ¬ 255 < cv A (o + i)
def E (a : Addr) (D : Cell) (fV fC : Field) (A : Cell) (o len : Nat) (r : Option Value) (s u : State) : Prop := Got a D fV fC A o len r s u
/-- len > 0, no char of the range above 255: a Latin-1 String of their low bytes -/
theorem law (l : Launch) (a : Addr) (D : Cell) (fV fC : Field) (b : Addr) (A : Cell) (z : Int32) (o len : Nat) : Law l yN 5 4 2 35 yB 6 none site (P a D fV fC b A z o len) (E a D fV fC A o len) [⟨a, fC.slot⟩, ⟨a, fV.slot⟩] 1 len := by
  refine Law.of_walk (plainFor_of_name (by decide +kernel)) (by decide +kernel) (by decide +kernel) (by decide) (fun _ _ h => by rw [h.1]; rfl) (fun _ U U' hal hh h => ⟨h.1, h.2.1.mv hal hh, h.2.2.1.al hal, h.2.2.2.1.al hal, h.2.2.2.2.1.mv hal hh, h.2.2.2.2.2.1.there hal hh, h.2.2.2.2.2.2⟩) (fun r U U' V V' h1 hal h2 h => Got.mv r U U' V V' h1 hal h2 h) ?_
  intro p e s m args below meth c s₁ X0 hexec hbytes hml hret hlk hnm hown hh0 W hP
  obtain ⟨rfl, hB, f1, f2, hA, s1, hz, l0, l1, l2, hp⟩ := hP
  have a31 := hA.1.2.2.2
  have c1 : Steps p.tables e below (s₁.setTop (entryFrame m #[.ref a, .ref b, .int (Int32.ofNat o), .int (Int32.ofNat len), .null] 6)) (s₁.setTop (mkF m 0 #[.val (.ref a), .val (.ref b), .val (.int (Int32.ofNat o)), .val (.int (Int32.ofNat len)), .val .null, .unset] [])) := entry rfl
  have c2 : Steps p.tables e below (s₁.setTop (entryFrame m #[.ref a, .ref b, .int (Int32.ofNat o), .int (Int32.ofNat len), .null] 6)) (s₁.setTop (mkF m 1 #[.val (.ref a), .val (.ref b), .val (.int (Int32.ofNat o)), .val (.int (Int32.ofNat len)), .val .null, .unset] [.ref a])) := c1.trans (by
    refine XS.aloadN X0.here hexec rfl (hb hbytes d0) rfl rfl ?_
    exact Steps.refl _)
  obtain ⟨T3, X3, q3, st3⟩ := X0.oinit hexec hown (wks W (objW "java/lang/String" 1)) (g := (mkF m 1 #[.val (.ref a), .val (.ref b), .val (.int (Int32.ofNat o)), .val (.int (Int32.ofNat len)), .val .null, .unset] [.ref a])) rfl (by rw [hml]; rfl) (rest := []) rfl (hb hbytes d1) (W := 0) (by show 2 * 0 + 0 ≤ _; decide) (Nat.le_of_ble_eq_true rfl) (Nat.le_of_ble_eq_true rfl)
  have hh3 := q3.trans hh0
  have c4 : Steps p.tables e below (s₁.setTop (entryFrame m #[.ref a, .ref b, .int (Int32.ofNat o), .int (Int32.ofNat len), .null] 6)) (T3.setTop (mkF m 27 #[.val (.ref a), .val (.ref b), .val (.int (Int32.ofNat o)), .val (.int (Int32.ofNat len)), .val .null, .unset] [])) := (c2.trans (st3 _ (Steps.refl _))).trans (by
    refine XS.iloadN X3.here hexec rfl (hb hbytes d4) rfl ?_
    refine XS.ifYes X3.here hexec rfl (pc0 := 5) rfl (hb hbytes d5) rfl (i0_ne_t (nz32 (by omega) l0)) (by decide) rfl ?_
    exact Steps.refl _)
  obtain ⟨T5, X5, q5, st5⟩ := X3.sget hexec hown (wk W (.fieldLink "java/lang/String" 38 "java/lang/String" "COMPACT_STRINGS" "Z")) s1 (fun _ _ h => by rw [hh3]; exact h) (g := (mkF m 27 #[.val (.ref a), .val (.ref b), .val (.int (Int32.ofNat o)), .val (.int (Int32.ofNat len)), .val .null, .unset] [])) rfl (hb hbytes d27)
  have hh5 := q5.trans hh3
  have c6 : Steps p.tables e below (s₁.setTop (entryFrame m #[.ref a, .ref b, .int (Int32.ofNat o), .int (Int32.ofNat len), .null] 6)) (T5.setTop (mkF m 30 #[.val (.ref a), .val (.ref b), .val (.int (Int32.ofNat o)), .val (.int (Int32.ofNat len)), .val .null, .unset] [.int z])) := c4.trans (st5 _ (Steps.refl _))
  have c7 : Steps p.tables e below (s₁.setTop (entryFrame m #[.ref a, .ref b, .int (Int32.ofNat o), .int (Int32.ofNat len), .null] 6)) (T5.setTop (mkF m 36 #[.val (.ref a), .val (.ref b), .val (.int (Int32.ofNat o)), .val (.int (Int32.ofNat len)), .val .null, .unset] [.int (Int32.ofNat len), .int (Int32.ofNat o), .ref b])) := c6.trans (by
    refine XS.ifNo X5.here hexec rfl (hb hbytes d30) rfl (i0_eq_f hz) ?_
    refine XS.aloadN X5.here hexec rfl (hb hbytes d33) rfl rfl ?_
    refine XS.iloadN X5.here hexec rfl (hb hbytes d34) rfl ?_
    refine XS.iloadN X5.here hexec rfl (hb hbytes d35) rfl ?_
    exact Steps.refl _)
  obtain ⟨v8, T8, X8, E8, g8⟩ := X5.callS hexec (Cmp3.law l b A o len) hown (wks W (staticW "java/lang/String" 177 Cmp3.yN)) (wk W Cmp3.tab) (W := 0) (Nat.le_of_ble_eq_true rfl) (Nat.le_of_ble_eq_true rfl) (Nat.le_refl _) (by show 0 + len ≤ len; omega) (g := (mkF m 36 #[.val (.ref a), .val (.ref b), .val (.int (Int32.ofNat o)), .val (.int (Int32.ofNat len)), .val .null, .unset] [.int (Int32.ofNat len), .int (Int32.ofNat o), .ref b])) rfl (by rw [hml]; rfl) c7 (argsL := [.ref b, .int (Int32.ofNat o), .int (Int32.ofNat len)]) (rest := []) rfl rfl (by show 2 * 0 + 0 ≤ _; decide) (hb hbytes d36) (⟨rfl, hA.mv X5.warmed.alike hh5, l1, l2, hp⟩)
  obtain ⟨e8, z8⟩ := E8
  obtain ⟨rfl, N, n1, n2, n3, n4, n5, n6⟩ := NewArr.mv _ T5 s _ _ hh5.symm (Vm.Alike.refl _) rfl e8
  rw [hh5] at z8
  have hB1 := hB.keep X8.warmed.alike (n6 _ _ hB.1)
  have hne : s.heap.size ≠ a := (Nat.ne_of_lt (Array.getElem?_eq_some_iff.mp hB.1).1).symm
  have c9 : Steps p.tables e below (s₁.setTop (entryFrame m #[.ref a, .ref b, .int (Int32.ofNat o), .int (Int32.ofNat len), .null] 6)) (T8.setTop (mkF m 39 #[.val (.ref a), .val (.ref b), .val (.int (Int32.ofNat o)), .val (.int (Int32.ofNat len)), .val .null, .unset] [.ref s.heap.size])) := g8
  have c10 : Steps p.tables e below (s₁.setTop (entryFrame m #[.ref a, .ref b, .int (Int32.ofNat o), .int (Int32.ofNat len), .null] 6)) (T8.setTop (mkF m 45 #[.val (.ref a), .val (.ref b), .val (.int (Int32.ofNat o)), .val (.int (Int32.ofNat len)), .val .null, .val (.ref s.heap.size)] [.int (Int32.ofNat N.slots.size), .ref s.heap.size, .ref a])) := by
    have hc : Steps p.tables e below (s₁.setTop (entryFrame m #[.ref a, .ref b, .int (Int32.ofNat o), .int (Int32.ofNat len), .null] 6)) (T8.setTop (mkF m 45 #[.val (.ref a), .val (.ref b), .val (.int (Int32.ofNat o)), .val (.int (Int32.ofNat len)), .val .null, .val (.ref s.heap.size)] [.int (Int32.ofNat len), .ref s.heap.size, .ref a])) := c9.trans (by
      refine XS.astore X8.here hexec rfl (hb hbytes d39) rfl rfl rfl ?_
      refine XS.aloadN X8.here hexec rfl (hb hbytes d41) rfl rfl ?_
      refine XS.aload X8.here hexec rfl (hb hbytes d42) rfl rfl ?_
      refine XS.iloadN X8.here hexec rfl (hb hbytes d44) rfl ?_
      exact Steps.refl _)
    rw [n4]; exact hc
  obtain ⟨v11, T11, X11, E11, g11⟩ := X8.callS hexec (CodL.law l s.heap.size N) hown (wks W (staticW "java/lang/String" 47 CodL.yN)) (wk W CodL.tab) (W := 1) (Nat.le_of_ble_eq_true rfl) (Nat.le_of_ble_eq_true rfl) (Nat.le_refl _) (by show 0 + len + 0 ≤ len; omega) (g := (mkF m 45 #[.val (.ref a), .val (.ref b), .val (.int (Int32.ofNat o)), .val (.int (Int32.ofNat len)), .val .null, .val (.ref s.heap.size)] [.int (Int32.ofNat N.slots.size), .ref s.heap.size, .ref a])) rfl (by rw [hml]; rfl) c10 (argsL := [.ref s.heap.size, .int (Int32.ofNat N.slots.size)]) (rest := [.ref a]) rfl rfl (by show 2 * 0 + (1 + 0) ≤ _; decide) (hb hbytes d45) (⟨rfl, n1⟩)
  obtain ⟨rfl, q11⟩ := E11
  have hB11 := hB1.mv (X8.warmed.alike.symm.trans X11.warmed.alike) q11
  have c12 : Steps p.tables e below (s₁.setTop (entryFrame m #[.ref a, .ref b, .int (Int32.ofNat o), .int (Int32.ofNat len), .null] 6)) (T11.setTop (mkF m 48 #[.val (.ref a), .val (.ref b), .val (.int (Int32.ofNat o)), .val (.int (Int32.ofNat len)), .val .null, .val (.ref s.heap.size)] [.int 0, .ref a])) := g11
  obtain ⟨T13, X13, p13, bl13, sl13, st13⟩ := X11.finit hexec hown (wk W (.fieldLink "java/lang/String" 15 "java/lang/String" "coder" "B")) (Or.inr ⟨_, (wk W (.laysFinal "java/lang/String" "java/lang/String" "coder" "B"))⟩) (Or.inl ⟨rfl, hnm⟩) f2 (Or.inl rfl) hB11 (t := .byte) (by decide +kernel) rfl (g := (mkF m 48 #[.val (.ref a), .val (.ref b), .val (.int (Int32.ofNat o)), .val (.int (Int32.ofNat len)), .val .null, .val (.ref s.heap.size)] [.int 0, .ref a])) rfl (rest := []) rfl (hb hbytes d48)
  have c14 : Steps p.tables e below (s₁.setTop (entryFrame m #[.ref a, .ref b, .int (Int32.ofNat o), .int (Int32.ofNat len), .null] 6)) (T13.setTop (mkF m 54 #[.val (.ref a), .val (.ref b), .val (.int (Int32.ofNat o)), .val (.int (Int32.ofNat len)), .val .null, .val (.ref s.heap.size)] [.ref s.heap.size, .ref a])) := (c12.trans (st13 _ (Steps.refl _))).trans (by
    refine XS.aloadN X13.here hexec rfl (hb hbytes d51) rfl rfl ?_
    refine XS.aload X13.here hexec rfl (hb hbytes d52) rfl rfl ?_
    exact Steps.refl _)
  obtain ⟨T15, X15, p15, bl15, sl15, st15⟩ := X13.finit hexec hown (wk W (.fieldLink "java/lang/String" 9 "java/lang/String" "value" "[B")) (Or.inr ⟨_, (wk W (.laysFinal "java/lang/String" "java/lang/String" "value" "[B"))⟩) (Or.inl ⟨rfl, hnm⟩) f1 (Or.inl rfl) bl13 (t := (.array .byte)) (by decide +kernel) rfl (g := (mkF m 54 #[.val (.ref a), .val (.ref b), .val (.int (Int32.ofNat o)), .val (.int (Int32.ofNat len)), .val .null, .val (.ref s.heap.size)] [.ref s.heap.size, .ref a])) rfl (rest := []) rfl (hb hbytes d54)
  have c16 : Steps p.tables e below (s₁.setTop (entryFrame m #[.ref a, .ref b, .int (Int32.ofNat o), .int (Int32.ofNat len), .null] 6)) (T15.setTop (mkF m 57 #[.val (.ref a), .val (.ref b), .val (.int (Int32.ofNat o)), .val (.int (Int32.ofNat len)), .val .null, .val (.ref s.heap.size)] [])) := c14.trans (st15 _ (Steps.refl _))
  have ap := apart (Or.inr ⟨_, (wk W (.laysFinal "java/lang/String" "java/lang/String" "value" "[B"))⟩) (Or.inr ⟨_, (wk W (.laysFinal "java/lang/String" "java/lang/String" "coder" "B"))⟩) f1 f2 (t₁ := .array .byte) (t₂ := .byte) (by decide +kernel) (by decide +kernel) (by decide)
  have al := X8.warmed.alike.symm.trans X15.warmed.alike
  have n7 : T11.heap[s.heap.size]? = some N := by rw [q11]; exact n1.1
  exact ⟨T15, none, _, _, _, X15, by simp, rfl, by omega, (fun _ => rfl), ⟨rfl, _, N, bl15, ((Same.refl D _).set _ (by simp)).set _ (by simp), sl15, (Cell.slots_setSlot_ne _ ap).trans sl13, n1.keep al (p15.other hne (p13.other hne n7)), n2, by rw [al.findClass]; exact n3, n4, n5, fun y c h1 h2 => p15.other h1 (p13.other h1 (by rw [q11]; exact n6 y c h2)), by rw [p15.2.2, p13.2.2, q11]; exact z8⟩, fun fs hl => c16.trans (X15.returnOut hexec hret (hb hbytes d57) hl)⟩
end New4
namespace New1
def yN : MethodName := ⟨"java/lang/String", "<init>", "([C)V"⟩
abbrev yB : ByteArray := jdk_42_method_3_code
theorem d0 : decode yB 0 = .ok (.aload_n 0, 1) := by decide +kernel
theorem d1 : decode yB 1 = .ok (.aload_n 1, 1) := by decide +kernel
theorem d2 : decode yB 2 = .ok (.iconst 0, 1) := by decide +kernel
theorem d3 : decode yB 3 = .ok (.aload_n 1, 1) := by decide +kernel
theorem d4 : decode yB 4 = .ok (.arraylength, 1) := by decide +kernel
theorem d5 : decode yB 5 = .ok (.aconst_null, 1) := by decide +kernel
theorem d6 : decode yB 6 = .ok (.invokespecial 27, 3) := by decide +kernel
theorem d9 : decode yB 9 = .ok (.return_, 1) := by decide +kernel
def site : List Cond := [New4.tab] ++ initW "java/lang/String" 27 New4.yN
def tab : Cond := tabOf yN yB 2 none site
def P (a : Addr) (D : Cell) (fV fC : Field) (b : Addr) (A : Cell) (z : Int32) (args : Array Value) (s : State) : Prop := args = #[.ref a, .ref b] ∧ Blank "java/lang/String" a D s ∧ Found "java/lang/String" "value" "[B" fV s ∧ Found "java/lang/String" "coder" "B" fC s ∧ Ch b A s ∧ StaticIs s "java/lang/String" "COMPACT_STRINGS" "Z" (.int z) ∧ ¬ z = 0 ∧ 0 < A.slots.size ∧ A.slots.size ≤ 536870912 ∧ ∀ i, i < A.slots.size → ¬ 255 < cv A i
def E (a : Addr) (D : Cell) (fV fC : Field) (A : Cell) (r : Option Value) (s u : State) : Prop := Got a D fV fC A 0 A.slots.size r s u
/-- new String(chars), not empty, no char above 255: a Latin-1 String of their low bytes -/
theorem law (l : Launch) (a : Addr) (D : Cell) (fV fC : Field) (b : Addr) (A : Cell) (z : Int32) : Law l yN 2 1 3 52 yB 2 none site (P a D fV fC b A z) (E a D fV fC A) [⟨a, fC.slot⟩, ⟨a, fV.slot⟩] 1 A.slots.size := by
  refine Law.of_walk (plainFor_of_name (by decide +kernel)) (by decide +kernel) (by decide +kernel) (by decide) (fun _ _ h => by rw [h.1]; rfl) (fun _ U U' hal hh h => ⟨h.1, h.2.1.mv hal hh, h.2.2.1.al hal, h.2.2.2.1.al hal, h.2.2.2.2.1.mv hal hh, h.2.2.2.2.2.1.there hal hh, h.2.2.2.2.2.2⟩) (fun r U U' V V' h1 hal h2 h => Got.mv r U U' V V' h1 hal h2 h) ?_
  intro p e s m args below meth c s₁ X0 hexec hbytes hml hret hlk hnm hown hh0 W hP
  obtain ⟨rfl, hB, f1, f2, hA, s1, hz, l0, l2, hp⟩ := hP
  have c1 : Steps p.tables e below (s₁.setTop (entryFrame m #[.ref a, .ref b] 2)) (s₁.setTop (mkF m 0 #[.val (.ref a), .val (.ref b)] [])) := entry rfl
  have c2 : Steps p.tables e below (s₁.setTop (entryFrame m #[.ref a, .ref b] 2)) (s₁.setTop (mkF m 6 #[.val (.ref a), .val (.ref b)] [.null, .int (Int32.ofNat A.slots.size), .int 0, .ref b, .ref a])) := c1.trans (by
    refine XS.aloadN X0.here hexec rfl (hb hbytes d0) rfl rfl ?_
    refine XS.aloadN X0.here hexec rfl (hb hbytes d1) rfl rfl ?_
    refine iconstV X0.here hexec rfl 0 (hb hbytes d2) (by decide) ?_
    refine XS.aloadN X0.here hexec rfl (hb hbytes d3) rfl rfl ?_
    refine X0.alen hexec (hA.1.mv X0.warmed.alike hh0) rfl rfl (hb hbytes d4) ?_
    refine XS.aconstNull X0.here hexec rfl (hb hbytes d5) ?_
    exact Steps.refl _)
  obtain ⟨v3, T3, X3, E3, g3⟩ := X0.callN hexec (New4.law l a D fV fC b A z 0 A.slots.size) rfl hown (wks W (initW "java/lang/String" 27 New4.yN)) (W New4.tab (by simp only [site, List.mem_cons, List.mem_append, true_or, or_true])) (W := 0) (Nat.le_of_ble_eq_true rfl) (Nat.le_of_ble_eq_true rfl) (Nat.le_refl _) (by show 0 + A.slots.size ≤ A.slots.size; omega) (g := (mkF m 6 #[.val (.ref a), .val (.ref b)] [.null, .int (Int32.ofNat A.slots.size), .int (Int32.ofNat 0), .ref b, .ref a])) rfl (by rw [hml]; rfl) c2 (argsL := [.ref b, .int (Int32.ofNat 0), .int (Int32.ofNat A.slots.size), .null]) (rest := []) rfl rfl (by show 2 * 0 + 0 ≤ _; decide) (hb hbytes d6) (⟨rfl, hB.mv X0.warmed.alike hh0, f1.al X0.warmed.alike, f2.al X0.warmed.alike, hA.mv X0.warmed.alike hh0, s1.there X0.warmed.alike hh0, hz, l0, by omega, l2, fun i hi => by rw [Nat.zero_add]; exact hp i hi⟩)
  have e0 := Got.mv _ s₁ s _ _ hh0.symm (Vm.Alike.refl _) rfl E3
  obtain rfl := e0.1
  have c4 : Steps p.tables e below (s₁.setTop (entryFrame m #[.ref a, .ref b] 2)) (T3.setTop (mkF m 9 #[.val (.ref a), .val (.ref b)] [])) := g3
  exact ⟨T3, none, _, _, _, X3, by simp, rfl, by omega, (fun _ => rfl), e0, fun fs hl => c4.trans (X3.returnOut hexec hret (hb hbytes d9) hl)⟩
theorem pays {l : Launch} {R : Room} {p : Program} {e : Env} {below : List Frame} {s : State} {sargs : Array Value} {len W : Nat} (a : Addr) (D : Cell) (fV fC : Field) (b : Addr) (A : Cell) (z : Int32) (htab : tab.before sargs s = true) (hfr : 4 ≤ R.frames) (hlo : W + 65 ≤ R.locals) :
    Back l R p e below s sargs yN len W (fun A₁ a₁ => A₁.cells + 1 ≤ R.cells ∧ A₁.slots + A.slots.size ≤ R.slots ∧ P a D fV fC b A z a₁ A₁.U) (fun A₁ _ v₁ B₁ => E a D fV fC A v₁ A₁.U B₁.U ∧ B₁.locs = A₁.locs ++ [⟨a, fC.slot⟩, ⟨a, fV.slot⟩] ∧ B₁.cells = A₁.cells + 1 ∧ B₁.slots = A₁.slots + A.slots.size) :=
  (law l a D fV fC b A z).pays htab hfr (by omega)
end New1
/-- the byte, read back as charAt reads it, is the char -/
theorem lo8_mask {x : Int32} (h0 : ¬ x < 0) (h1 : ¬ 255 < x) : lo8 x &&& 255 = x := by
  have t : ∀ k : Fin 256, lo8 (Int32.ofNat k.val) &&& 255 = Int32.ofNat k.val := by decide +kernel
  rw [Int32.lt_iff_toInt_lt] at h0 h1
  have e0 : (0 : Int32).toInt = 0 := rfl
  have e1 : (255 : Int32).toInt = 255 := rfl
  obtain ⟨k, hk⟩ : ∃ k : Nat, x.toInt = k := ⟨x.toInt.toNat, by omega⟩
  have hx : x = Int32.ofNat k := Int32.toInt_inj.mp (by rw [hk, Int32.toInt_ofNat_small (by omega)])
  rw [hx]
  exact t ⟨k, by omega⟩
end StrChars
namespace StrChars.Road
open Jvm Sem ClassFile Op Lib Jvm.Stand Jvm.Free Jvm.Free.XT
open Jvm.Lib.Cold (StaticIs)
abbrev ST : String := "java/lang/String"
/-- every table word that New1's law asks, flat -/
abbrev words : List Jvm.Cond := [.code New1.yN New1.yB 2 none, .initialized ST, .methodLink ST 27 New4.yN, .instanceMethod New4.yN,
  .code New4.yN New4.yB 6 none, .fieldLink ST 38 ST "COMPACT_STRINGS" "Z", .laysFinal ST ST "value" "[B", .fieldLink ST 9 ST "value" "[B", .laysFinal ST ST "coder" "B", .fieldLink ST 15 ST "coder" "B",
  .methodLink ST 1 Lib.objectInit, .instanceMethod Lib.objectInit, .code Lib.objectInit ⟨#[0xb1]⟩ 1 none, .methodLink ST 177 Cmp3.yN, .static Cmp3.yN, .methodLink ST 47 CodL.yN, .static CodL.yN,
  .code Cmp3.yN Cmp3.yB 6 (some (.array .byte)), .initialized U16, .arrayClass .byte, .methodLink U16 115 Cmp5.yN, .static Cmp5.yN, .code Cmp5.yN Cmp5.yB 7 (some .int), .code CodL.yN CodL.yB 2 (some .byte)]
theorem tab_of {a : Array Value} {s : State} (h : ∀ w ∈ words, w.before a s = true) : New1.tab.before a s = true := by
  have h5 : Cmp5.tab.before a s = true := unparts (wk h (.code Cmp5.yN Cmp5.yB 7 (some .int))) (wks h (.initialized Cmp5.yN.cls :: Cmp5.site))
  have hc : CodL.tab.before a s = true := unparts (wk h (.code CodL.yN CodL.yB 2 (some .byte))) (wks h (.initialized CodL.yN.cls :: CodL.site))
  have q5 : ∀ w ∈ Cmp5.tab :: words, w.before a s = true := fun w hw => (List.mem_cons.mp hw).elim (fun e => e ▸ h5) (h w)
  have h3 : Cmp3.tab.before a s = true := unparts (wk q5 (.code Cmp3.yN Cmp3.yB 6 (some (.array .byte)))) (wks q5 (.initialized Cmp3.yN.cls :: Cmp3.site))
  have q3 : ∀ w ∈ Cmp3.tab :: CodL.tab :: words, w.before a s = true := fun w hw => (List.mem_cons.mp hw).elim (fun e => e ▸ h3) fun hw => (List.mem_cons.mp hw).elim (fun e => e ▸ hc) (h w)
  have h4 : New4.tab.before a s = true := unparts (wk q3 (.code New4.yN New4.yB 6 none)) (wks q3 (.initialized New4.yN.cls :: New4.site))
  have q4 : ∀ w ∈ New4.tab :: words, w.before a s = true := fun w hw => (List.mem_cons.mp hw).elim (fun e => e ▸ h4) (h w)
  exact unparts (wk q4 (.code New1.yN New1.yB 2 none)) (wks q4 (.initialized New1.yN.cls :: New1.site))
/-- the words ride from the start Z to the walk's own state -/
theorem moved {Z s : State} {a0 args : Array Value} (hZ : Z.Warmed39 s.vm) (hw : ∀ d ∈ words, d.before a0 Z = true) : ∀ d ∈ words, d.before args s = true := fun d hd => by
  have q := hw d hd
  have t : ∀ d ∈ words, d = .arrayClass .byte ∨ (d.onTables && d.keepsFace) = true := by decide +kernel
  rcases t d hd with rfl | t
  · exact RoadKit.mvA hZ q
  · exact RoadKit.mv hZ q t
/-- WHAT COMES BACK, over the tables of the start Z: h the heap at the call, h' behind it -/
def Q (Z : State) (x : Addr) (A : Cell) (h : Heap) (v : Option Value) (h' : Heap) (L : List Loc) : Prop := v = none ∧ (∀ y ∈ L, y.base = x) ∧ RoadKit.Keep h h' [x] ∧ h'.size = h.size + 1 ∧ RoadKit.Exa Z h' x ST ∧ RoadKit.Fld Z h' x ST "value" "[B" (.ref h.size) ∧ RoadKit.Fld Z h' x ST "coder" "B" (.int 0) ∧
  (∃ V : Cell, RoadKit.Arr Z h' h.size V .byte ∧ V.vm = .none ∧ Z.vm.findClass "[B" = some V.cls ∧ V.slots.size = A.slots.size ∧ ∀ j, j < A.slots.size → V.slots[j]? = some (.int (lo8 (cv A j)))) ∧
  ∀ (O n d : String) (w : Value), RoadKit.Fld Z h x O n d w → RoadKit.slotOf Z O n d ≠ RoadKit.slotOf Z ST "value" "[B" → RoadKit.slotOf Z O n d ≠ RoadKit.slotOf Z ST "coder" "B" → RoadKit.Fld Z h' x O n d w
/-- **new String(chars) AT A CALL, IN THE ROAD'S FORM**: for specialBack behind newO: x the fresh String, b the char[] with the cell A -/
theorem back {p : Program} {l : Launch} {e : Env} {R : Room} {s : State} {args : Array Value} {below : List Frame} {len W : Nat} {Z : State} {a0 : Array Value} {h : Heap} (hZ : Z.Warmed39 s.vm) (hw : ∀ d ∈ words, d.before a0 Z = true) {kI : Nat} (wi : (Jvm.Cond.instantiable ST kI).before a0 Z = true)
    {x b : Addr} {A : Cell} {z : Int32} {v0 c0 : Value} (E : RoadKit.Exa Z h x ST) (V : RoadKit.Fld Z h x ST "value" "[B" v0) (C : RoadKit.Fld Z h x ST "coder" "B" c0) (K : RoadKit.Arr Z h b A .char) (hty : Typed .char A) (S : RoadKit.Sta Z h ST "COMPACT_STRINGS" "Z" (.int z)) (hz : ¬ z = 0)
    (l0 : 0 < A.slots.size) (l2 : A.slots.size ≤ 536870912) (hp : ∀ i, i < A.slots.size → ¬ 255 < cv A i) (hfr : 4 ≤ R.frames) (hlo : W + 65 ≤ R.locals) :
    Back l R p e below s args New1.yN len W (fun P a => a = #[.ref x, .ref b] ∧ P.U.heap = h ∧ P.cells + 1 ≤ R.cells ∧ P.slots + A.slots.size ≤ R.slots)
      (fun P _ v B => ∃ L, Q Z x A h v B.U.heap L ∧ B.locs = P.locs ++ L ∧ B.cells = P.cells + 1 ∧ B.slots = P.slots + A.slots.size) := by
  intro m meth c P g ig mk a X hg hsize hdg hW hn hp'
  obtain ⟨rfl, rfl, r1, r2⟩ := hp'
  have al : Z.vm.Alike P.U.vm := hZ.alike.trans X.warmed.alike
  obtain ⟨D, cfV, kV, iV, fV, hD, gV, stV, knV, obV, asV, slV⟩ := id V
  obtain ⟨D', cfC, kC, iC, fC, hD', gC, stC, -, -, asC, slC⟩ := id C
  cases hD.symm.trans hD'
  obtain ⟨D2, kD, e1, e2, e3, e4, e5⟩ := id E
  cases hD.symm.trans e1
  obtain ⟨c2, k2, i1, i2, i3, -⟩ := Cond.instantiable_spec wi
  cases e2.symm.trans i1
  cases e3.symm.trans i2
  obtain ⟨kU, u1, u2⟩ := al.2.2 _ _ e3
  have hB : Blank ST x D P.U := ⟨hD, ⟨knV, fun q hq => by rw [hq] at obV; cases obV⟩, by rw [al.findClass]; exact e2, kU, u1, by rw [u2]; exact i3, by rw [u2]; exact e5 i3⟩
  have F1 : Found ST "value" "[B" fV P.U := ⟨SBG.found_only al ⟨cfV, kV, iV, gV⟩, stV⟩
  have F2 : Found ST "coder" "B" fC P.U := ⟨SBG.found_only al ⟨cfC, kC, iC, gC⟩, stC⟩
  have hA : Ch b A P.U := ⟨⟨K.1, State.isArrayOf_alike al K.2.1, K.2.2, by omega⟩, hty⟩
  have hS : StaticIs P.U ST "COMPACT_STRINGS" "Z" (.int z) := by
    obtain ⟨cfS, iS, kS, fS, st, cS, t1, t2, t3, t4, t5, t6, t7⟩ := S
    exact StaticIs.there (s := { Z with heap := P.U.heap }) ⟨cfS, iS, kS, fS, st, cS, t1, t2, t3, t4, t5, (fun q => by rw [q] at t6; cases t6), t7⟩ al rfl
  obtain ⟨v, B, X', ⟨⟨hv, E', V', q1, q2, q3, q4, q5, q6, q7, q8, q9, q10, q11⟩, hl, hc, hs⟩, st⟩ := New1.pays x D fV fC b A z (tab_of (moved hZ hw)) hfr hlo m meth c P g ig mk _ X hg hsize hdg hW hn ⟨r1, r2, rfl, hB, F1, F2, hA, hS, hz, l0, l2, hp⟩
  have al' : Z.vm.Alike B.U.vm := hZ.alike.trans X'.warmed.alike
  have hsz : E'.slots.size = D.slots.size := by
    obtain ⟨-, -, -, kB, w1, w2, w3⟩ := q1
    obtain ⟨kB', y1, y2⟩ := al'.2.2 _ _ e3
    rw [q2.2.1] at w1
    cases w1.symm.trans y1
    rw [w3, e5 i3, y2]
  refine ⟨v, B, X', ⟨_, ⟨hv, ?_, ⟨by omega, fun y cy hy hn' => q10 y cy (by simpa using hn') hy, fun y cy hy => ?_⟩, q11, ⟨E', _, q1.1, by rw [q2.2.1]; exact e2, by rw [q2.2.1]; exact e3, by rw [q2.1]; exact obV, fun _ => by rw [hsz]; exact e5 i3⟩,
    ⟨E', cfV, kV, iV, fV, q1.1, gV, stV, by rw [q2.1]; exact knV, by rw [q2.1]; exact obV, by rw [q2.2.1]; exact asV, q3⟩, ⟨E', cfC, kC, iC, fC, q1.1, gC, stC, by rw [q2.1]; exact knV, by rw [q2.1]; exact obV, by rw [q2.2.1]; exact asC, q4⟩,
    ⟨V', ⟨q5.1, State.isArrayOf_alike al'.symm q5.2.1, q5.2.2.1⟩, q6, by rw [← al'.findClass]; exact q7, q8, fun j hj => by have := q9 j hj; rwa [Nat.zero_add] at this⟩, fun O n d w F n1 n2 => ?_⟩, hl, hc, hs⟩, st⟩
  · intro y hy
    simp only [List.mem_cons, List.not_mem_nil, or_false] at hy
    rcases hy with rfl | rfl <;> rfl
  · by_cases q : y = x
    · subst q
      cases hD.symm.trans hy
      exact ⟨E', q1.1, q2.2.1, q2.1, hsz⟩
    · exact ⟨cy, q10 y cy q hy, rfl, rfl, rfl⟩
  · obtain ⟨D3, cf, k, i, f, g1, g2, g3, g4, g5, g6, g7⟩ := F
    cases hD.symm.trans g1
    simp only [RoadKit.slotOf, g2, gV, gC, Option.map_some, Option.getD_some] at n1 n2
    exact ⟨E', cf, k, i, f, q1.1, g2, g3, by rw [q2.1]; exact g4, by rw [q2.1]; exact g5, by rw [q2.2.1]; exact g6, by rw [q2.2.2 f.slot (by simp [n1, n2])]; exact g7⟩
end StrChars.Road
namespace StrChars.Road
open Jvm Sem ClassFile Op Lib Jvm.Stand Jvm.Free Jvm.Free.XT
/-- WHAT COMES BACK, the byte[] as a list of values -/
def QA (Z : State) (x : Addr) (zn : Int32) (cs : List Int32) (h : Heap) (v : Option Value) (h' : Heap) (L : List Loc) : Prop := v = none ∧ (∀ y ∈ L, y.base = x) ∧ RoadKit.Keep h h' [x] ∧ h'.size = h.size + 1 ∧ RoadKit.Exa Z h' x ST ∧ RoadKit.Fld Z h' x ST "value" "[B" (.ref h.size) ∧ RoadKit.Fld Z h' x ST "coder" "B" (.int 0) ∧
  (∃ kb, Z.vm.findClass "[B" = some kb ∧ RoadKit.Arv Z h' h.size kb .byte zn (cs.map fun c => .int (lo8 c)) (.int 0)) ∧
  ∀ (O n d : String) (w : Value), RoadKit.Fld Z h x O n d w → RoadKit.slotOf Z O n d ≠ RoadKit.slotOf Z ST "value" "[B" → RoadKit.slotOf Z O n d ≠ RoadKit.slotOf Z ST "coder" "B" → RoadKit.Fld Z h' x O n d w
/-- **new String(chars) AT A CALL, THE ARRAYS AS LISTS**: the char[] at b holds cs, not empty, no char above 255 -/
theorem backArv {p : Program} {l : Launch} {e : Env} {R : Room} {s : State} {args : Array Value} {below : List Frame} {len W : Nat} {Z : State} {a0 : Array Value} {h : Heap} (hZ : Z.Warmed39 s.vm) (hw : ∀ d ∈ words, d.before a0 Z = true) {kI : Nat} (wi : (Jvm.Cond.instantiable ST kI).before a0 Z = true)
    {x b : Addr} {k : ClassId} {zn z : Int32} {cs : List Int32} {dv v0 c0 : Value} (E : RoadKit.Exa Z h x ST) (V : RoadKit.Fld Z h x ST "value" "[B" v0) (C : RoadKit.Fld Z h x ST "coder" "B" c0) (K : RoadKit.Arv Z h b k .char zn (cs.map Value.int) dv) (S : RoadKit.Sta Z h ST "COMPACT_STRINGS" "Z" (.int z)) (hz : ¬ z = 0)
    (hlen : zn.toNatClampNeg = cs.length) (h0 : 0 < cs.length) (hbig : cs.length ≤ 536870912) (hall : ∀ c ∈ cs, ¬ 255 < c) (hfr : 4 ≤ R.frames) (hlo : W + 65 ≤ R.locals) :
    Back l R p e below s args New1.yN len W (fun P a => a = #[.ref x, .ref b] ∧ P.U.heap = h ∧ P.cells + 1 ≤ R.cells ∧ P.slots + cs.length ≤ R.slots)
      (fun P _ v B => ∃ L, QA Z x zn cs h v B.U.heap L ∧ B.locs = P.locs ++ L ∧ B.cells = P.cells + 1 ∧ B.slots = P.slots + cs.length) := by
  obtain ⟨A, K1, K2, K3, K4, K5, K6⟩ := K
  have e : A.slots.size = cs.length := K3.trans hlen
  have hat : ∀ (i : Nat) (hi : i < cs.length), A.slots[i]? = some (.int cs[i]) := fun i hi => by rw [K5 i (by omega)]; simp [List.getD_eq_getElem?_getD, hi]
  have hcv : ∀ (i : Nat) (hi : i < cs.length), cv A i = cs[i] := fun i hi => by unfold cv; rw [hat i hi]
  have hty : Typed .char A := fun i v hv => by
    have hi : i < A.slots.size := (Array.getElem?_eq_some_iff.mp hv).1
    have q := K5 i hi
    rw [hv] at q
    rw [Option.some.inj q]
    exact K6 i hi
  refine Back.mono (back hZ hw wi E V C K1 hty S hz (by omega) (by omega) (fun i hi => by rw [hcv i (by omega)]; exact hall _ (List.getElem_mem _)) hfr hlo) (fun P a hp => ⟨hp.1, hp.2.1, hp.2.2.1, by rw [e]; exact hp.2.2.2⟩) (fun P a v B hp hq => ?_)
  obtain ⟨L, ⟨q1, q2, q3, q4, q5, q6, q7, ⟨V', v1, v2, v3, v4, v5⟩, q9⟩, hl, hc, hs⟩ := hq
  refine ⟨L, ⟨q1, q2, q3, q4, q5, q6, q7, ⟨V'.cls, v3, V', v1, rfl, by rw [v4, e, hlen], K4, fun i hi => ?_, fun i hi => ?_⟩, q9⟩, hl, hc, by rw [hs, e]⟩
  · have hi' : i < cs.length := by omega
    rw [v5 i (by omega), hcv i hi']; simp [List.getD_eq_getElem?_getD, hi']
  · have hi' : i < cs.length := by omega
    simp only [List.getD_eq_getElem?_getD, List.getElem?_map, List.getElem?_eq_getElem hi', Option.map_some, Option.getD_some]
    exact fits_lo8 _
end StrChars.Road
namespace StrChars.Road
open Jvm Sem ClassFile Op Lib Jvm.Stand Jvm.Free Jvm.Free.XT
/-- WHAT COMES BACK, in the writer's own shape -/
def QV (Z : State) (x : Addr) (N : Int32) (bs : List Int32) (h : Heap) (n0 : Nat) (v : Option Value) (h' : Heap) (L : List Loc) : Prop := v = none ∧ RoadKit.Fr n0 L ∧ RoadKit.Keep h h' [x] ∧ RoadKit.Exa Z h' x ST ∧ RoadKit.Fld Z h' x ST "coder" "B" (.int 0) ∧
  ∃ (t : Addr) (kb : ClassId), n0 ≤ t ∧ h.size ≤ t ∧ ¬ t = x ∧ RoadKit.Fld Z h' x ST "value" "[B" (.ref t) ∧ RoadKit.Arv Z h' t kb .byte N (bs.map Value.int) (.int 0)
/-- **new String(chars) AT A CALL, FOR THE WRITER**: a char[] of n known ints, each 0 to 255 -/
theorem backV {p : Program} {l : Launch} {e : Env} {R : Room} {s : State} {args : Array Value} {below : List Frame} {len W : Nat} {Z : State} {a0 : Array Value} {h : Heap} (hZ : Z.Warmed39 s.vm) (hw : ∀ d ∈ words, d.before a0 Z = true) {kI : Nat} (wi : (Jvm.Cond.instantiable ST kI).before a0 Z = true)
    {x b : Addr} {kC : ClassId} {cs bs : List Int32} {d v0 c0 : Value} {z N : Int32} {n n0 : Nat} (hx0 : n0 ≤ x) (hh0 : n0 ≤ h.size) (E : RoadKit.Exa Z h x ST) (V : RoadKit.Fld Z h x ST "value" "[B" v0) (C : RoadKit.Fld Z h x ST "coder" "B" c0) (K : RoadKit.Arv Z h b kC .char N (cs.map Value.int) d) (S : RoadKit.Sta Z h ST "COMPACT_STRINGS" "Z" (.int z)) (hz : ¬ z = 0)
    (hn : cs.length = n) (hN : N = Int32.ofNat n) (l0 : 0 < n) (l2 : n ≤ 4000) (hp : ∀ c ∈ cs, ¬ c < 0 ∧ ¬ (255 : Int32) < c) (hb : bs = cs.map (fun c => c.toInt8.toInt32)) (hfr : 4 ≤ R.frames) (hlo : W + 65 ≤ R.locals) :
    Back l R p e below s args (⟨"java/lang/String", "<init>", "([C)V"⟩ : MethodName) len W (fun P a => a = #[.ref x, .ref b] ∧ P.U.heap = h ∧ P.cells + 1 ≤ R.cells ∧ P.slots + n ≤ R.slots)
      (fun P _ v B => ∃ L, QV Z x N bs h n0 v B.U.heap L ∧ B.locs = P.locs ++ L ∧ B.cells = P.cells + 1 ∧ B.slots = P.slots + n) := by
  subst hn hN hb
  refine Back.mono (backArv hZ hw wi E V C K S hz (n32 (by omega)) l0 (by omega) (fun c hc => (hp c hc).2) hfr hlo) (fun P a hp => hp) (fun P a v B hp hq => ?_)
  obtain ⟨L, ⟨q1, q2, q3, q4, q5, q6, q7, ⟨kb, v1, v2⟩, q9⟩, hl, hc, hs⟩ := hq
  exact ⟨L, ⟨q1, fun y hy => by rw [q2 y hy]; exact hx0, q3, q5, q7, h.size, kb, hh0, Nat.le_refl _, Nat.ne_of_gt E.lt, q6, by rw [List.map_map]; exact v2⟩, hl, hc, hs⟩
end StrChars.Road
namespace StrChars
open Jvm Sem ClassFile Op Lib Jvm.Stand Jvm.Free.XT Jvm.Free.ALB Jvm.Free.JM Jvm.Free
open Jvm.Lib.Cold (StaticIs)
def hi8 (x : Int32) : Int32 := lo8 (x >>> ((8 : Int32) &&& 31))
/-- what StringUTF16.getChar makes of two bytes -/
def pairCh (u v : Int32) : Int32 := (((u &&& 255) <<< ((0 : Int32) &&& 31)) ||| ((v &&& 255) <<< ((8 : Int32) &&& 31))).toUInt32.toUInt16.toUInt32.toInt32
theorem lo8_and (x : Int32) : (lo8 x &&& 255).toBitVec.toNat = x.toBitVec.toNat % 256 := by
  have h : (lo8 x).toBitVec = (x.toBitVec.signExtend 8).signExtend 32 := by rw [lo8, Int8.toBitVec_toInt32, Int32.toBitVec_toInt8]
  rw [Int32.toBitVec_and, BitVec.toNat_and, h]
  have e : ((x.toBitVec.signExtend 8).signExtend 32).toNat % 256 = x.toBitVec.toNat % 256 := by
    rw [BitVec.toNat_signExtend]
    have hlt := x.toBitVec.isLt
    simp only [BitVec.toNat_setWidth, BitVec.toNat_signExtend]
    split <;> split <;> omega
  rw [← e]
  exact Nat.and_two_pow_sub_one_eq_mod _ 8
theorem pair_says {c : Int32} (h0 : ¬ c < 0) (h1 : ¬ 65535 < c) : pairCh (lo8 c) (hi8 c) = c := by
  rw [Int32.lt_iff_toInt_lt] at h0 h1
  have e0 : (0 : Int32).toInt = 0 := rfl
  have e1 : (65535 : Int32).toInt = 65535 := rfl
  have hc : c.toInt = c.toBitVec.toNat := by
    have := c.toBitVec.isLt
    have e : c.toInt = c.toBitVec.toInt := rfl
    rw [e] at h0 h1
    rw [e]
    rw [BitVec.toInt_eq_toNat_cond] at h0 h1 ⊢
    split at h0 <;> split <;> omega
  have hn : c.toBitVec.toNat < 65536 := by omega
  have a1 := lo8_and c
  have a2 : (hi8 c &&& 255).toBitVec.toNat = c.toBitVec.toNat / 256 := by
    rw [hi8, lo8_and]
    have e : ((8 : Int32) &&& 31) = 8 := by decide
    rw [e, Int32.toBitVec_shiftRight]
    have e2 : ((8 : Int32).toBitVec.smod 32) = 8#32 := by decide
    rw [e2, BitVec.sshiftRight_eq', BitVec.toNat_sshiftRight_of_msb_false (by rw [BitVec.msb_eq_false_iff_two_mul_lt]; omega)]
    show c.toBitVec.toNat >>> 8 % 256 = _
    rw [Nat.shiftRight_eq_div_pow]
    omega
  unfold pairCh
  apply Int32.toBitVec_inj.mp
  apply BitVec.eq_of_toNat_eq
  have f0 : ((0 : Int32) &&& 31) = 0 := by decide
  have f8 : ((8 : Int32) &&& 31) = 8 := by decide
  rw [f0, f8]
  have g : (((lo8 c &&& 255) <<< (0 : Int32)) ||| ((hi8 c &&& 255) <<< (8 : Int32))).toBitVec.toNat = c.toBitVec.toNat := by
    rw [Int32.toBitVec_or, Int32.toBitVec_shiftLeft, Int32.toBitVec_shiftLeft]
    have s0 : ((0 : Int32).toBitVec.smod 32) = 0#32 := by decide
    have s8 : ((8 : Int32).toBitVec.smod 32) = 8#32 := by decide
    rw [s0, s8, BitVec.toNat_or]
    simp only [BitVec.shiftLeft_eq', BitVec.toNat_shiftLeft, a1, a2]
    show (c.toBitVec.toNat % 256) <<< 0 % 2 ^ 32 ||| (c.toBitVec.toNat / 256) <<< 8 % 2 ^ 32 = _
    rw [Nat.shiftLeft_zero, Nat.mod_eq_of_lt (show c.toBitVec.toNat % 256 < 2 ^ 32 by omega), Nat.mod_eq_of_lt (show (c.toBitVec.toNat / 256) <<< 8 < 2 ^ 32 by rw [Nat.shiftLeft_eq]; omega), Nat.or_comm, ← Nat.shiftLeft_add_eq_or_of_lt (by omega), Nat.shiftLeft_eq]
    omega
  show BitVec.toNat (((((lo8 c &&& 255) <<< (0 : Int32)) ||| ((hi8 c &&& 255) <<< (8 : Int32))).toBitVec.setWidth 16).setWidth 32) = _
  rw [BitVec.toNat_setWidth, BitVec.toNat_setWidth, g]
  omega
end StrChars
namespace StrChars
open Jvm Sem ClassFile Op Lib Jvm.Stand Jvm.Free.XT Jvm.Free.ALB Jvm.Free.JM Jvm.Free
open Jvm.Lib.Cold (StaticIs)
/-- the array's cell V codes the n chars f 0 .. f (n - 1) by the coder cd, as the JDK does: coder 1 just where some char is above 255 -/
def Cod (cd : Int32) (n : Nat) (f : Nat → Int32) (V : Cell) : Prop := (cd = 0 ∧ V.slots.size = n ∧ ∀ j, j < n → V.slots[j]? = some (.int (lo8 (f j))) ∧ ¬ 255 < f j) ∨ (cd = 1 ∧ V.slots.size = 2 * n ∧ (∀ j, j < n → V.slots[2 * j]? = some (.int (lo8 (f j))) ∧ V.slots[2 * j + 1]? = some (.int (hi8 (f j)))) ∧ ∃ j, j < n ∧ 255 < f j)
/-- **x is a String of the n chars f 0 .. f (n - 1)**, Latin-1 or UTF-16; its array at t has the cell V -/
def Txt (x t : Addr) (V : Cell) (cd : Int32) (n : Nat) (f : Nat → Int32) (U : State) : Prop := Exact "java/lang/String" x U ∧ Has x "java/lang/String" "value" "[B" (.ref t) U ∧ Has x "java/lang/String" "coder" "B" (.int cd) U ∧ XT.Arr .byte t V U ∧ Cod cd n f V ∧ ∀ j, j < n → ¬ f j < 0 ∧ ¬ 65535 < f j
theorem Txt.mv {x t : Addr} {V : Cell} {cd : Int32} {n : Nat} {f : Nat → Int32} {U U' : State} (h : Txt x t V cd n f U) (hal : U.vm.Alike U'.vm) (hh : U'.heap = U.heap) : Txt x t V cd n f U' := ⟨h.1.mv hal hh, h.2.1.mv hal hh, h.2.2.1.mv hal hh, h.2.2.2.1.mv hal hh, h.2.2.2.2⟩
end StrChars
namespace StrChars.Road
open Jvm Sem ClassFile Op Lib Jvm.Stand Jvm.Free Jvm.Free.XT
open Jvm.Lib.Cold (StaticIs)
theorem consq {a : Array Value} {s : State} {c : Jvm.Cond} {L : List Jvm.Cond} (h0 : c.before a s = true) (h : ∀ w ∈ L, w.before a s = true) : ∀ w ∈ c :: L, w.before a s = true := fun w hw => (List.mem_cons.mp hw).elim (fun e => e ▸ h0) (h w)
/-- the bytes of the chars cs, low before high -/
def wideBytes : List Int32 → List Value
  | [] => []
  | c :: cs => .int (lo8 c) :: .int (hi8 c) :: wideBytes cs
theorem wide_lo (d : Value) : ∀ (cs : List Int32) (j : Nat), j < cs.length → (wideBytes cs).getD (2 * j) d = .int (lo8 (cs.getD j 0))
  | [], j, h => absurd h (Nat.not_lt_zero j)
  | c :: cs, 0, _ => rfl
  | c :: cs, j + 1, h => by
    have q := wide_lo d cs j (by simpa using h)
    rw [show 2 * (j + 1) = 2 * j + 1 + 1 from by omega]
    simpa [wideBytes] using q
theorem wide_hi (d : Value) : ∀ (cs : List Int32) (j : Nat), j < cs.length → (wideBytes cs).getD (2 * j + 1) d = .int (hi8 (cs.getD j 0))
  | [], j, h => absurd h (Nat.not_lt_zero j)
  | c :: cs, 0, _ => rfl
  | c :: cs, j + 1, h => by
    have q := wide_hi d cs j (by simpa using h)
    rw [show 2 * (j + 1) + 1 = 2 * j + 1 + 1 + 1 from by omega]
    simpa [wideBytes] using q
theorem low_at (d : Value) (cs : List Int32) (j : Nat) (h : j < cs.length) : (cs.map fun c => Value.int (lo8 c)).getD j d = .int (lo8 (cs.getD j 0)) := by
  simp [List.getD_eq_getElem?_getD, h]
/-- an array of N2 bytes vs codes the chars cs by the coder cd -/
def CodA (cs : List Int32) (cd N2 : Int32) (vs : List Value) : Prop := (cd = 0 ∧ N2 = Int32.ofNat cs.length ∧ vs = (cs.map fun c => Value.int (lo8 c)) ∧ ∀ c ∈ cs, ¬ 255 < c) ∨ (cd = 1 ∧ N2 = Int32.ofNat (2 * cs.length) ∧ vs = wideBytes cs ∧ ∃ c ∈ cs, 255 < c)
theorem CodA.cod {cs : List Int32} {cd N2 : Int32} {vs : List Value} {V : Cell} (h : CodA cs cd N2 vs) (hn : 2 * cs.length < 2 ^ 31) (hs : V.slots.size = N2.toNatClampNeg) (hv : RoadKit.Has V vs (.int 0)) : Cod cd cs.length (fun j => cs.getD j 0) V := by
  rcases h with ⟨rfl, rfl, rfl, h⟩ | ⟨rfl, rfl, rfl, c, hc, hw⟩
  · rw [n32 (by omega)] at hs
    exact Or.inl ⟨rfl, hs, fun j hj => ⟨by rw [hv j (by omega), low_at _ _ _ hj], by
      have e : cs.getD j 0 = cs[j] := by simp [List.getD_eq_getElem?_getD, hj]
      show ¬ 255 < cs.getD j 0
      rw [e]; exact h _ (List.getElem_mem _)⟩⟩
  · rw [n32 (by omega)] at hs
    obtain ⟨j, hj, rfl⟩ := List.getElem_of_mem hc
    exact Or.inr ⟨rfl, hs, fun j hj => ⟨by rw [hv _ (by omega), wide_lo _ _ _ hj], by rw [hv _ (by omega), wide_hi _ _ _ hj]⟩, j, hj, by
      have e : cs.getD j 0 = cs[j] := by simp [List.getD_eq_getElem?_getD, hj]
      show 255 < cs.getD j 0
      rw [e]; exact hw⟩
/-- an object of exactly java/lang/String, its two fields found: as the laws ask it -/
theorem strObj {Z U : State} {a0 : Array Value} {kI : Nat} (wi : (Jvm.Cond.instantiable ST kI).before a0 Z = true) (al : Z.vm.Alike U.vm) {x : Addr} {v0 c0 : Value} (E : RoadKit.Exa Z U.heap x ST) (V : RoadKit.Fld Z U.heap x ST "value" "[B" v0) (C : RoadKit.Fld Z U.heap x ST "coder" "B" c0) :
    ∃ (D : Cell) (fV fC : Field), Blank ST x D U ∧ Found ST "value" "[B" fV U ∧ Found ST "coder" "B" fC U ∧ D.slots[fV.slot]? = some v0 ∧ D.slots[fC.slot]? = some c0 ∧ RoadKit.slotOf Z ST "value" "[B" = fV.slot ∧ RoadKit.slotOf Z ST "coder" "B" = fC.slot := by
  obtain ⟨D, cfV, kV, iV, fV, hD, gV, stV, knV, obV, asV, slV⟩ := V
  obtain ⟨D', cfC, kC, iC, fC, hD', gC, stC, -, -, asC, slC⟩ := C
  cases hD.symm.trans hD'
  obtain ⟨D2, kD, e1, e2, e3, e4, e5⟩ := E
  cases hD.symm.trans e1
  obtain ⟨c2, k2, i1, i2, i3, -⟩ := Cond.instantiable_spec wi
  cases e2.symm.trans i1
  cases e3.symm.trans i2
  obtain ⟨kU, u1, u2⟩ := al.2.2 _ _ e3
  exact ⟨D, fV, fC, ⟨hD, ⟨knV, fun q hq => by rw [hq] at obV; cases obV⟩, by rw [al.findClass]; exact e2, kU, u1, by rw [u2]; exact i3, by rw [u2]; exact e5 i3⟩, ⟨SBG.found_only al ⟨cfV, kV, iV, gV⟩, stV⟩, ⟨SBG.found_only al ⟨cfC, kC, iC, gC⟩, stC⟩, slV, slC, by simp [RoadKit.slotOf, gV], by simp [RoadKit.slotOf, gC]⟩
theorem sta_is {Z U : State} (al : Z.vm.Alike U.vm) {C n d : String} {v : Value} (S : RoadKit.Sta Z U.heap C n d v) : StaticIs U C n d v := by
  obtain ⟨cfS, iS, kS, fS, st, cS, t1, t2, t3, t4, t5, t6, t7⟩ := S
  exact StaticIs.there (s := { Z with heap := U.heap }) ⟨cfS, iS, kS, fS, st, cS, t1, t2, t3, t4, t5, (fun q => by rw [q] at t6; cases t6), t7⟩ al rfl
end StrChars.Road
namespace StrChars
open Jvm Sem ClassFile Op Lib Jvm.Stand Jvm.Free.XT Jvm.Free.ALB Jvm.Free.JM Jvm.Free
open Jvm.Lib.Cold (StaticIs)
/-- what place i of a byte[]'s cell holds -/
def yv (A : Cell) (i : Nat) : Int32 := match A.slots[i]? with | some (.int x) => x | _ => 0
theorem yv_get {a : Addr} {A : Cell} {U : State} (h : XT.Arr .byte a A U) (ht : Typed .byte A) {i : Nat} (hi : i < A.slots.size) : A.slots[i]? = some (.int (yv A i)) := by
  have e := Array.getElem?_eq_getElem hi
  have f := ht i _ e
  unfold yv; rw [e]
  generalize A.slots[i] = v at f
  cases v <;> simp [fits] at f ⊢
/-- the two arrays are equal, place for place -/
def EqC (A B : Cell) : Prop := A.slots.size = B.slots.size ∧ ∀ i, i < A.slots.size → yv A i = yv B i
/-- a boolean that says whether p -/
def Says01 (q : Prop) (r : Option Value) (s u : State) : Prop := ∃ v : Int32, r = some (.int v) ∧ u.heap = s.heap ∧ ((v = 1 ∧ q) ∨ (v = 0 ∧ ¬ q))
theorem Says01.mv {q : Prop} : ∀ r (U U' V V' : State), U'.heap = U.heap → V.vm.Alike V'.vm → V'.heap = V.heap → Says01 q r U V → Says01 q r U' V' :=
  fun r U U' V V' h1 _ h2 ⟨v, a, b, c⟩ => ⟨v, a, by rw [h1, h2]; exact b, c⟩
namespace LEq
def yN : MethodName := ⟨"java/lang/StringLatin1", "equals", "([B[B)Z"⟩
abbrev yB : ByteArray := jdk_43_method_13_code
theorem d0 : decode yB 0 = .ok (.aload_n 0, 1) := by decide +kernel
theorem d1 : decode yB 1 = .ok (.arraylength, 1) := by decide +kernel
theorem d2 : decode yB 2 = .ok (.aload_n 1, 1) := by decide +kernel
theorem d3 : decode yB 3 = .ok (.arraylength, 1) := by decide +kernel
theorem d4 : decode yB 4 = .ok (.if_icmp (.ne) 30, 3) := by decide +kernel
theorem d7 : decode yB 7 = .ok (.iconst 0, 1) := by decide +kernel
theorem d8 : decode yB 8 = .ok (.istore_n 2, 1) := by decide +kernel
theorem d9 : decode yB 9 = .ok (.iload_n 2, 1) := by decide +kernel
theorem d10 : decode yB 10 = .ok (.aload_n 0, 1) := by decide +kernel
theorem d11 : decode yB 11 = .ok (.arraylength, 1) := by decide +kernel
theorem d12 : decode yB 12 = .ok (.if_icmp (.ge) 20, 3) := by decide +kernel
theorem d15 : decode yB 15 = .ok (.aload_n 0, 1) := by decide +kernel
theorem d16 : decode yB 16 = .ok (.iload_n 2, 1) := by decide +kernel
theorem d17 : decode yB 17 = .ok (.baload, 1) := by decide +kernel
theorem d18 : decode yB 18 = .ok (.aload_n 1, 1) := by decide +kernel
theorem d19 : decode yB 19 = .ok (.iload_n 2, 1) := by decide +kernel
theorem d20 : decode yB 20 = .ok (.baload, 1) := by decide +kernel
theorem d21 : decode yB 21 = .ok (.if_icmp (.eq) 5, 3) := by decide +kernel
theorem d24 : decode yB 24 = .ok (.iconst 0, 1) := by decide +kernel
theorem d25 : decode yB 25 = .ok (.ireturn, 1) := by decide +kernel
theorem d26 : decode yB 26 = .ok (.iinc 2 1, 3) := by decide +kernel
theorem d29 : decode yB 29 = .ok (.goto (-20), 3) := by decide +kernel
theorem d32 : decode yB 32 = .ok (.iconst 1, 1) := by decide +kernel
theorem d33 : decode yB 33 = .ok (.ireturn, 1) := by decide +kernel
theorem d34 : decode yB 34 = .ok (.iconst 0, 1) := by decide +kernel
theorem d35 : decode yB 35 = .ok (.ireturn, 1) := by decide +kernel
def site : List Cond := []
def tab : Cond := tabOf yN yB 3 (some .boolean) site
def P (a : Addr) (A : Cell) (b : Addr) (B : Cell) (args : Array Value) (s : State) : Prop := args = #[.ref a, .ref b] ∧ XT.Arr .byte a A s ∧ Typed .byte A ∧ XT.Arr .byte b B s ∧ Typed .byte B
/-- whether two byte[] are equal, place for place -/
theorem law (l : Launch) (a : Addr) (A : Cell) (b : Addr) (B : Cell) : Law l yN 2 2 0 0 yB 3 (some .boolean) site (P a A b B) (Says01 (EqC A B)) [] 0 0 := by
  refine Law.of_walk (plainFor_of_name (by decide +kernel)) (by decide +kernel) (by decide +kernel) (by decide) (fun _ _ h => by rw [h.1]; rfl) (fun _ U U' hal hh h => ⟨h.1, h.2.1.mv hal hh, h.2.2.1, h.2.2.2.1.mv hal hh, h.2.2.2.2⟩) (fun r U U' V V' h1 hal h2 h => Says01.mv r U U' V V' h1 hal h2 h) ?_
  intro p e s m args below meth c s₁ X0 hexec hbytes hml hret hlk hnm hown hh0 W hP
  obtain ⟨rfl, hA, tA, hB, tB⟩ := hP
  have a31 := hA.2.2.2
  have b31 := hB.2.2.2
  have hA0 := hA.mv X0.warmed.alike hh0
  have hB0 := hB.mv X0.warmed.alike hh0
  have c1 : Steps p.tables e below (s₁.setTop (entryFrame m #[.ref a, .ref b] 3)) (s₁.setTop (mkF m 0 #[.val (.ref a), .val (.ref b), .unset] [])) := entry rfl
  have c2 : Steps p.tables e below (s₁.setTop (entryFrame m #[.ref a, .ref b] 3)) (s₁.setTop (mkF m 4 #[.val (.ref a), .val (.ref b), .unset] [.int (Int32.ofNat B.slots.size), .int (Int32.ofNat A.slots.size)])) := c1.trans (by
    refine XS.aloadN X0.here hexec rfl (hb hbytes d0) rfl rfl ?_
    refine X0.alen hexec hA0 rfl rfl (hb hbytes d1) ?_
    refine XS.aloadN X0.here hexec rfl (hb hbytes d2) rfl rfl ?_
    refine X0.alen hexec hB0 rfl rfl (hb hbytes d3) ?_
    exact Steps.refl _)
  by_cases hs : A.slots.size = B.slots.size
  · have c3 : Steps p.tables e below (s₁.setTop (entryFrame m #[.ref a, .ref b] 3)) (s₁.setTop (mkF m 9 #[.val (.ref a), .val (.ref b), .val (.int 0)] [])) := c2.trans (by
      refine XS.icmpNo X0.here hexec rfl (hb hbytes d4) rfl (ii_ne_f (by rw [hs])) ?_
      refine iconstV X0.here hexec rfl 0 (hb hbytes d7) (by decide) ?_
      refine XS.istoreN X0.here hexec rfl (hb hbytes d8) rfl rfl ?_
      exact Steps.refl _)
    have loop : ∀ (r i : Nat), i + r = A.slots.size → (∀ j, j < i → yv A j = yv B j) → Steps p.tables e below (s₁.setTop (entryFrame m #[.ref a, .ref b] 3)) (s₁.setTop (mkF m 9 #[.val (.ref a), .val (.ref b), .val (.int (Int32.ofNat i))] [])) → ∃ (pc : Nat) (Ls : Array Slot) (v : Int32), (pc = 25 ∨ pc = 33) ∧ ((v = 1 ∧ EqC A B) ∨ (v = 0 ∧ ¬ EqC A B)) ∧ Steps p.tables e below (s₁.setTop (entryFrame m #[.ref a, .ref b] 3)) (s₁.setTop (mkF m pc Ls [.int v])) := by
      intro r
      induction r with
      | zero =>
        intro i hi he cl
        exact ⟨33, _, 1, Or.inr rfl, Or.inl ⟨rfl, hs, fun j hj => he j (by omega)⟩, cl.trans (by
          refine XS.iloadN X0.here hexec rfl (hb hbytes d9) rfl ?_
          refine XS.aloadN X0.here hexec rfl (hb hbytes d10) rfl rfl ?_
          refine X0.alen hexec hA0 rfl rfl (hb hbytes d11) ?_
          refine XS.icmpYes X0.here hexec rfl (pc0 := 12) rfl (hb hbytes d12) rfl (ii_ge_t (nlt32 (by omega) (by omega))) (by decide) rfl ?_
          refine iconstV X0.here hexec rfl 1 (hb hbytes d32) (by decide) ?_
          exact Steps.refl _)⟩
      | succ r ih =>
        intro i hi he cl
        have c4 : Steps p.tables e below (s₁.setTop (entryFrame m #[.ref a, .ref b] 3)) (s₁.setTop (mkF m 21 #[.val (.ref a), .val (.ref b), .val (.int (Int32.ofNat i))] [.int (yv B i), .int (yv A i)])) := cl.trans (by
          refine XS.iloadN X0.here hexec rfl (hb hbytes d9) rfl ?_
          refine XS.aloadN X0.here hexec rfl (hb hbytes d10) rfl rfl ?_
          refine X0.alen hexec hA0 rfl rfl (hb hbytes d11) ?_
          refine XS.icmpNo X0.here hexec rfl (hb hbytes d12) rfl (ii_ge_f (lt32 (by omega) (by omega))) ?_
          refine XS.aloadN X0.here hexec rfl (hb hbytes d15) rfl rfl ?_
          refine XS.iloadN X0.here hexec rfl (hb hbytes d16) rfl ?_
          refine X0.aget hexec hA0 rfl (yv_get hA tA (i := i) (by omega)) rfl rfl (hb hbytes d17) ?_
          refine XS.aloadN X0.here hexec rfl (hb hbytes d18) rfl rfl ?_
          refine XS.iloadN X0.here hexec rfl (hb hbytes d19) rfl ?_
          refine X0.aget hexec hB0 rfl (yv_get hB tB (i := i) (by omega)) rfl rfl (hb hbytes d20) ?_
          exact Steps.refl _)
        by_cases hv : yv A i = yv B i
        · have c5 : Steps p.tables e below (s₁.setTop (entryFrame m #[.ref a, .ref b] 3)) (s₁.setTop (mkF m 9 #[.val (.ref a), .val (.ref b), .val (.int (Int32.ofNat i + 1))] [])) := c4.trans (by
            refine XS.icmpYes X0.here hexec rfl (pc0 := 21) rfl (hb hbytes d21) rfl (ii_eq_t hv) (by decide) rfl ?_
            refine iincV X0.here hexec rfl 1 (hb hbytes d26) (by decide) rfl rfl ?_
            refine XS.goto X0.here hexec rfl (pc0 := 29) rfl (hb hbytes d29) (by decide) rfl ?_
            exact Steps.refl _)
          rw [succ32] at c5
          exact ih (i + 1) (by omega) (fun j hj => by
            by_cases e : j = i
            · rw [e]; exact hv
            · exact he j (by omega)) c5
        · exact ⟨25, _, 0, Or.inl rfl, Or.inr ⟨rfl, fun q => hv (q.2 i (by omega))⟩, c4.trans (by
            refine XS.icmpNo X0.here hexec rfl (hb hbytes d21) rfl (ii_eq_f hv) ?_
            refine iconstV X0.here hexec rfl 0 (hb hbytes d24) (by decide) ?_
            exact Steps.refl _)⟩
    obtain ⟨pc, Ls, v, hpc, hv, cz⟩ := loop A.slots.size 0 (by omega) (fun j hj => absurd hj (Nat.not_lt_zero j)) c3
    have nv : narrow .boolean (.int v) = .int v := by rcases hv with ⟨rfl, -⟩ | ⟨rfl, -⟩ <;> rfl
    rcases hpc with rfl | rfl
    · exact ⟨s₁, some (.int v), _, _, _, X0, rfl, rfl, rfl, (fun h => by cases h), ⟨v, rfl, hh0, hv⟩, fun fs hl => cz.trans (X0.ireturnOut hexec hret nv (Or.inr (Or.inl rfl)) (hb hbytes d25) hl)⟩
    · exact ⟨s₁, some (.int v), _, _, _, X0, rfl, rfl, rfl, (fun h => by cases h), ⟨v, rfl, hh0, hv⟩, fun fs hl => cz.trans (X0.ireturnOut hexec hret nv (Or.inr (Or.inl rfl)) (hb hbytes d33) hl)⟩
  · have c3 : Steps p.tables e below (s₁.setTop (entryFrame m #[.ref a, .ref b] 3)) (s₁.setTop (mkF m 35 #[.val (.ref a), .val (.ref b), .unset] [.int 0])) := c2.trans (by
      refine XS.icmpYes X0.here hexec rfl (pc0 := 4) rfl (hb hbytes d4) rfl (ii_ne_t (ne32 a31 b31 hs)) (by decide) rfl ?_
      refine iconstV X0.here hexec rfl 0 (hb hbytes d34) (by decide) ?_
      exact Steps.refl _)
    exact ⟨s₁, some (.int 0), _, _, _, X0, rfl, rfl, rfl, (fun h => by cases h), ⟨0, rfl, hh0, Or.inr ⟨rfl, fun q => hs q.1⟩⟩, fun fs hl => c3.trans (X0.ireturnOut hexec hret rfl (Or.inr (Or.inl rfl)) (hb hbytes d35) hl)⟩
end LEq
theorem Cod.ty {cd : Int32} {n : Nat} {f : Nat → Int32} {V : Cell} (h : Cod cd n f V) : Typed .byte V := fun i v hv => by
  have hi : i < V.slots.size := (Array.getElem?_eq_some_iff.mp hv).1
  rcases h with ⟨-, k1, k2⟩ | ⟨-, k1, k2, -⟩
  · rw [(k2 i (by omega)).1] at hv; cases hv; exact fits_lo8 _
  · rcases Nat.mod_two_eq_zero_or_one i with e | e
    · obtain ⟨j, rfl⟩ : ∃ j, i = 2 * j := ⟨i / 2, by omega⟩
      rw [(k2 j (by omega)).1] at hv; cases hv; exact fits_lo8 _
    · obtain ⟨j, rfl⟩ : ∃ j, i = 2 * j + 1 := ⟨i / 2, by omega⟩
      rw [(k2 j (by omega)).2] at hv; cases hv; exact fits_lo8 _
/-- the same text -/
def SameT (n : Nat) (f : Nat → Int32) (k : Nat) (g : Nat → Int32) : Prop := n = k ∧ ∀ j, j < n → f j = g j
theorem lo8_inj {x y : Int32} (h0 : ¬ x < 0) (h1 : ¬ 255 < x) (k0 : ¬ y < 0) (k1 : ¬ 255 < y) (h : lo8 x = lo8 y) : x = y := by
  rw [← lo8_mask h0 h1, ← lo8_mask k0 k1, h]
/-- arrays coded by one coder are equal just where the texts are -/
theorem Cod.eqv {cd : Int32} {n k : Nat} {f g : Nat → Int32} {V V' : Cell} (h : Cod cd n f V) (h' : Cod cd k g V') (hf : ∀ j, j < n → ¬ f j < 0 ∧ ¬ 65535 < f j) (hg : ∀ j, j < k → ¬ g j < 0 ∧ ¬ 65535 < g j) : EqC V V' ↔ SameT n f k g := by
  have yvv : ∀ {W : Cell} {i : Nat} {x : Int32}, W.slots[i]? = some (.int x) → yv W i = x := fun q => by unfold yv; rw [q]
  rcases h with ⟨rfl, k1, k2⟩ | ⟨rfl, k1, k2, -⟩
  · rcases h' with ⟨-, m1, m2⟩ | ⟨e, -⟩
    · constructor
      · rintro ⟨e1, e2⟩
        refine ⟨by omega, fun j hj => ?_⟩
        have q := e2 j (by omega)
        rw [yvv (k2 j hj).1, yvv (m2 j (by omega)).1] at q
        exact lo8_inj (hf j hj).1 (k2 j hj).2 (hg j (by omega)).1 (m2 j (by omega)).2 q
      · rintro ⟨rfl, e2⟩
        refine ⟨by omega, fun j hj => ?_⟩
        rw [yvv (k2 j (by omega)).1, yvv (m2 j (by omega)).1, e2 j (by omega)]
    · exact absurd e (by decide)
  · rcases h' with ⟨e, -⟩ | ⟨-, m1, m2, -⟩
    · exact absurd e (by decide)
    · constructor
      · rintro ⟨e1, e2⟩
        refine ⟨by omega, fun j hj => ?_⟩
        have q1 := e2 (2 * j) (by omega)
        have q2 := e2 (2 * j + 1) (by omega)
        rw [yvv (k2 j hj).1, yvv (m2 j (by omega)).1] at q1
        rw [yvv (k2 j hj).2, yvv (m2 j (by omega)).2] at q2
        rw [← pair_says (hf j hj).1 (hf j hj).2, ← pair_says (hg j (by omega)).1 (hg j (by omega)).2, q1, q2]
      · rintro ⟨rfl, e2⟩
        refine ⟨by omega, fun i hi => ?_⟩
        rcases Nat.mod_two_eq_zero_or_one i with e | e
        · obtain ⟨j, rfl⟩ : ∃ j, i = 2 * j := ⟨i / 2, by omega⟩
          rw [yvv (k2 j (by omega)).1, yvv (m2 j (by omega)).1, e2 j (by omega)]
        · obtain ⟨j, rfl⟩ : ∃ j, i = 2 * j + 1 := ⟨i / 2, by omega⟩
          rw [yvv (k2 j (by omega)).2, yvv (m2 j (by omega)).2, e2 j (by omega)]
/-- two codings differ: so do the texts -/
theorem Cod.dif {cd cd' : Int32} {n k : Nat} {f g : Nat → Int32} {V V' : Cell} (h : Cod cd n f V) (h' : Cod cd' k g V') (hne : ¬ cd = cd') : ¬ SameT n f k g := by
  rintro ⟨rfl, e⟩
  rcases h with ⟨rfl, -, k2⟩ | ⟨rfl, -, -, j, hj, hw⟩
  · rcases h' with ⟨rfl, -⟩ | ⟨-, -, -, j, hj, hw⟩
    · exact hne rfl
    · exact (k2 j hj).2 (by rw [e j hj]; exact hw)
  · rcases h' with ⟨-, -, m2⟩ | ⟨rfl, -⟩
    · exact (m2 j hj).2 (by rw [← e j hj]; exact hw)
    · exact hne rfl
/-- an object of exactly C is an instance of C -/
theorem cinst {p : Program} {l : Launch} {e : Env} {R : Room} {s : State} {m : MethodId} {args : Array Value} {below : List Frame} {meth : Method} {c : Code} {T : State} {locs : List Loc} {cells slots : Nat} (X : Stand p l e R s m args below meth c T locs cells slots) (hexec : p.tables.exec = Jvm.exec) {own C : String} {index : Nat} (hown : s.vm.findClass own = some m.cls) (hlink : (Cond.classLink own index C).before args s = true) {a : Addr} (hE : Exact C a T)
    {g : JFrame} (hg : g.method = m) {rest : List Value} (hstack : g.stack = .ref a :: rest) (hdg : decode c.code g.pc = .ok (.instanceof index, 3)) :
    ∃ T', Stand p l e R s m args below meth c T' locs cells slots ∧ T'.heap = T.heap ∧ ∀ target, Steps p.tables e below (T'.setTop { g with pc := g.pc + 3, stack := .int 1 :: rest }) target → Steps p.tables e below (T.setTop g) target := by
  obtain ⟨cB, h1, D, h2, h3, h4⟩ := hE
  have h1' : s.vm.findClass C = some cB := by rw [← X.warmed.alike.findClass]; exact h1
  obtain ⟨vm', X', st⟩ := X.instanceofYes hexec hown hlink h2 h4 h1' (by rw [h3]; exact Jvm.Free.SB.assignable_self _ _) hg hstack hdg
  exact ⟨_, X', rfl, st⟩
theorem cself {p : Program} {l : Launch} {e : Env} {R : Room} {s : State} {m : MethodId} {args : Array Value} {below : List Frame} {meth : Method} {c : Code} {T : State} {locs : List Loc} {cells slots : Nat} (X : Stand p l e R s m args below meth c T locs cells slots) (hexec : p.tables.exec = Jvm.exec) {own C : String} {index : Nat} (hown : s.vm.findClass own = some m.cls) (hlink : (Cond.classLink own index C).before args s = true) {a : Addr} (hE : Exact C a T)
    {g : JFrame} (hg : g.method = m) {rest : List Value} (hstack : g.stack = .ref a :: rest) (hdg : decode c.code g.pc = .ok (.checkcast index, 3)) :
    ∃ T', Stand p l e R s m args below meth c T' locs cells slots ∧ T'.heap = T.heap ∧ ∀ target, Steps p.tables e below (T'.setTop { g with pc := g.pc + 3, stack := .ref a :: rest }) target → Steps p.tables e below (T.setTop g) target := by
  obtain ⟨cB, h1, D, h2, h3, h4⟩ := hE
  have h1' : s.vm.findClass C = some cB := by rw [← X.warmed.alike.findClass]; exact h1
  obtain ⟨vm', X', st⟩ := X.checkcastYes hexec hown hlink h2 h4 h1' (by rw [h3]; exact Jvm.Free.SB.assignable_self _ _) hg hstack hdg
  exact ⟨_, X', rfl, fun t h => st t (by rw [← hstack] at h; exact h)⟩
namespace SEq
def yN : MethodName := ⟨"java/lang/String", "equals", "(Ljava/lang/Object;)Z"⟩
abbrev yB : ByteArray := jdk_42_method_66_code
theorem d0 : decode yB 0 = .ok (.aload_n 0, 1) := by decide +kernel
theorem d1 : decode yB 1 = .ok (.aload_n 1, 1) := by decide +kernel
theorem d2 : decode yB 2 = .ok (.if_acmp (.ne) 5, 3) := by decide +kernel
theorem d5 : decode yB 5 = .ok (.iconst 1, 1) := by decide +kernel
theorem d6 : decode yB 6 = .ok (.ireturn, 1) := by decide +kernel
theorem d7 : decode yB 7 = .ok (.aload_n 1, 1) := by decide +kernel
theorem d8 : decode yB 8 = .ok (.instanceof 10, 3) := by decide +kernel
theorem d11 : decode yB 11 = .ok (.ifCond (.eq) 43, 3) := by decide +kernel
theorem d14 : decode yB 14 = .ok (.aload_n 1, 1) := by decide +kernel
theorem d15 : decode yB 15 = .ok (.checkcast 10, 3) := by decide +kernel
theorem d18 : decode yB 18 = .ok (.astore_n 2, 1) := by decide +kernel
theorem d19 : decode yB 19 = .ok (.getstatic 38, 3) := by decide +kernel
theorem d22 : decode yB 22 = .ok (.ifCond (.eq) 14, 3) := by decide +kernel
theorem d25 : decode yB 25 = .ok (.aload_n 0, 1) := by decide +kernel
theorem d26 : decode yB 26 = .ok (.getfield 15, 3) := by decide +kernel
theorem d29 : decode yB 29 = .ok (.aload_n 2, 1) := by decide +kernel
theorem d30 : decode yB 30 = .ok (.getfield 15, 3) := by decide +kernel
theorem d33 : decode yB 33 = .ok (.if_icmp (.ne) 21, 3) := by decide +kernel
theorem d36 : decode yB 36 = .ok (.aload_n 0, 1) := by decide +kernel
theorem d37 : decode yB 37 = .ok (.getfield 9, 3) := by decide +kernel
theorem d40 : decode yB 40 = .ok (.aload_n 2, 1) := by decide +kernel
theorem d41 : decode yB 41 = .ok (.getfield 9, 3) := by decide +kernel
theorem d44 : decode yB 44 = .ok (.invokestatic 541, 3) := by decide +kernel
theorem d47 : decode yB 47 = .ok (.ifCond (.eq) 7, 3) := by decide +kernel
theorem d50 : decode yB 50 = .ok (.iconst 1, 1) := by decide +kernel
theorem d51 : decode yB 51 = .ok (.goto 4, 3) := by decide +kernel
theorem d54 : decode yB 54 = .ok (.iconst 0, 1) := by decide +kernel
theorem d55 : decode yB 55 = .ok (.ireturn, 1) := by decide +kernel
def site : List Cond := [.classLink "java/lang/String" 10 "java/lang/String", .fieldLink "java/lang/String" 38 "java/lang/String" "COMPACT_STRINGS" "Z", .fieldLink "java/lang/String" 15 "java/lang/String" "coder" "B", .fieldLink "java/lang/String" 9 "java/lang/String" "value" "[B", LEq.tab] ++ staticW "java/lang/String" 541 LEq.yN
def tab : Cond := tabOf yN yB 3 (some .boolean) site
def P (x t : Addr) (V : Cell) (cd : Int32) (n : Nat) (f : Nat → Int32) (y t' : Addr) (V' : Cell) (cd' : Int32) (k : Nat) (g : Nat → Int32) (z : Int32) (args : Array Value) (s : State) : Prop := args = #[.ref x, .ref y] ∧ Txt x t V cd n f s ∧ Txt y t' V' cd' k g s ∧ StaticIs s "java/lang/String" "COMPACT_STRINGS" "Z" (.int z) ∧ ¬ z = 0
/-- equals(Object) of two Strings: whether the texts are the same -/
theorem law (l : Launch) (x t : Addr) (V : Cell) (cd : Int32) (n : Nat) (f : Nat → Int32) (y t' : Addr) (V' : Cell) (cd' : Int32) (k : Nat) (g : Nat → Int32) (z : Int32) : Law l yN 2 1 1 14 yB 3 (some .boolean) site (P x t V cd n f y t' V' cd' k g z) (Says01 (SameT n f k g)) [] 0 0 := by
  refine Law.of_walk (plainFor_of_name (by decide +kernel)) (by decide +kernel) (by decide +kernel) (by decide) (fun _ _ h => by rw [h.1]; rfl) (fun _ U U' hal hh h => ⟨h.1, h.2.1.mv hal hh, h.2.2.1.mv hal hh, h.2.2.2.1.there hal hh, h.2.2.2.2⟩) (fun r U U' V V' h1 hal h2 h => Says01.mv r U U' V V' h1 hal h2 h) ?_
  intro p e s m args below meth c s₁ X0 hexec hbytes hml hret hlk hnm hown hh0 W hP
  obtain ⟨rfl, hx, hy, s1, hz⟩ := hP
  have c1 : Steps p.tables e below (s₁.setTop (entryFrame m #[.ref x, .ref y] 3)) (s₁.setTop (mkF m 2 #[.val (.ref x), .val (.ref y), .unset] [.ref y, .ref x])) := Steps.trans (entry rfl) (by
    show Steps p.tables e below (s₁.setTop (mkF m 0 #[.val (.ref x), .val (.ref y), .unset] [])) _
    refine XS.aloadN X0.here hexec rfl (hb hbytes d0) rfl rfl ?_
    refine XS.aloadN X0.here hexec rfl (hb hbytes d1) rfl rfl ?_
    exact Steps.refl _)
  by_cases hxy : x = y
  · have c2 : Steps p.tables e below (s₁.setTop (entryFrame m #[.ref x, .ref y] 3)) (s₁.setTop (mkF m 6 #[.val (.ref x), .val (.ref y), .unset] [.int 1])) := c1.trans (by
      refine acmpNo X0.here hexec rfl (hb hbytes d2) rfl rfl rfl (by simp [acmp, hxy]) ?_
      refine iconstV X0.here hexec rfl 1 (hb hbytes d5) (by decide) ?_
      exact Steps.refl _)
    subst hxy
    have ec : cd = cd' := by
      obtain ⟨D, fd, a1, a2, a3⟩ := hx.2.2.1
      obtain ⟨D', fd', b1, b2, b3⟩ := hy.2.2.1
      cases a1.symm.trans b1
      obtain ⟨q1, q2, q3, q4⟩ := a2.1
      obtain ⟨r1, r2, r3, r4⟩ := b2.1
      cases q4.symm.trans r4
      cases a3.symm.trans b3; rfl
    have et : t = t' := by
      obtain ⟨D, fd, a1, a2, a3⟩ := hx.2.1
      obtain ⟨D', fd', b1, b2, b3⟩ := hy.2.1
      cases a1.symm.trans b1
      obtain ⟨q1, q2, q3, q4⟩ := a2.1
      obtain ⟨r1, r2, r3, r4⟩ := b2.1
      cases q4.symm.trans r4
      cases a3.symm.trans b3; rfl
    subst ec et
    have ev : V = V' := by cases hx.2.2.2.1.1.symm.trans hy.2.2.2.1.1; rfl
    subst ev
    have hs : SameT n f k g := (Cod.eqv hx.2.2.2.2.1 hy.2.2.2.2.1 hx.2.2.2.2.2 hy.2.2.2.2.2).mp ⟨rfl, fun _ _ => rfl⟩
    exact ⟨s₁, some (.int 1), _, _, _, X0, rfl, rfl, rfl, (fun h => by cases h), ⟨1, rfl, hh0, Or.inl ⟨rfl, hs⟩⟩, fun fs hl => c2.trans (X0.ireturnOut hexec hret rfl (Or.inr (Or.inl rfl)) (hb hbytes d6) hl)⟩
  · have c2 : Steps p.tables e below (s₁.setTop (entryFrame m #[.ref x, .ref y] 3)) (s₁.setTop (mkF m 8 #[.val (.ref x), .val (.ref y), .unset] [.ref y])) := c1.trans (by
      refine acmpYes X0.here hexec rfl (pc0 := 2) rfl (hb hbytes d2) rfl rfl rfl (by simp [acmp, hxy]) (by decide) rfl ?_
      refine XS.aloadN X0.here hexec rfl (hb hbytes d7) rfl rfl ?_
      exact Steps.refl _)
    obtain ⟨T3, X3, q3, st3⟩ := cinst X0 hexec hown (wk W (.classLink "java/lang/String" 10 "java/lang/String")) (hy.mv X0.warmed.alike hh0).1 (g := (mkF m 8 #[.val (.ref x), .val (.ref y), .unset] [.ref y])) rfl (rest := []) rfl (hb hbytes d8)
    have hh3 := q3.trans hh0
    have c4 : Steps p.tables e below (s₁.setTop (entryFrame m #[.ref x, .ref y] 3)) (T3.setTop (mkF m 15 #[.val (.ref x), .val (.ref y), .unset] [.ref y])) := (c2.trans (st3 _ (Steps.refl _))).trans (by
      refine XS.ifNo X3.here hexec rfl (hb hbytes d11) rfl (i0_eq_f (by decide)) ?_
      refine XS.aloadN X3.here hexec rfl (hb hbytes d14) rfl rfl ?_
      exact Steps.refl _)
    obtain ⟨T5, X5, q5, st5⟩ := cself X3 hexec hown (wk W (.classLink "java/lang/String" 10 "java/lang/String")) (hy.mv X3.warmed.alike hh3).1 (g := (mkF m 15 #[.val (.ref x), .val (.ref y), .unset] [.ref y])) rfl (rest := []) rfl (hb hbytes d15)
    have hh5 := q5.trans hh3
    have c6 : Steps p.tables e below (s₁.setTop (entryFrame m #[.ref x, .ref y] 3)) (T5.setTop (mkF m 19 #[.val (.ref x), .val (.ref y), .val (.ref y)] [])) := (c4.trans (st5 _ (Steps.refl _))).trans (by
      refine XS.astoreN X5.here hexec rfl (hb hbytes d18) rfl rfl rfl ?_
      exact Steps.refl _)
    obtain ⟨T7, X7, q7, st7⟩ := X5.sget hexec hown (wk W (.fieldLink "java/lang/String" 38 "java/lang/String" "COMPACT_STRINGS" "Z")) s1 (fun _ _ h => by rw [hh5]; exact h) (g := (mkF m 19 #[.val (.ref x), .val (.ref y), .val (.ref y)] [])) rfl (hb hbytes d19)
    have hh7 := q7.trans hh5
    have c8 : Steps p.tables e below (s₁.setTop (entryFrame m #[.ref x, .ref y] 3)) (T7.setTop (mkF m 26 #[.val (.ref x), .val (.ref y), .val (.ref y)] [.ref x])) := (c6.trans (st7 _ (Steps.refl _))).trans (by
      refine XS.ifNo X7.here hexec rfl (hb hbytes d22) rfl (i0_eq_f hz) ?_
      refine XS.aloadN X7.here hexec rfl (hb hbytes d25) rfl rfl ?_
      exact Steps.refl _)
    obtain ⟨T9, X9, q9, st9⟩ := X7.hget hexec hown (wk W (.fieldLink "java/lang/String" 15 "java/lang/String" "coder" "B")) (hx.mv X7.warmed.alike hh7).2.2.1 (g := (mkF m 26 #[.val (.ref x), .val (.ref y), .val (.ref y)] [.ref x])) rfl (rest := []) rfl (hb hbytes d26)
    have hh9 := q9.trans hh7
    have c10 : Steps p.tables e below (s₁.setTop (entryFrame m #[.ref x, .ref y] 3)) (T9.setTop (mkF m 30 #[.val (.ref x), .val (.ref y), .val (.ref y)] [.ref y, .int cd])) := (c8.trans (st9 _ (Steps.refl _))).trans (by
      refine XS.aloadN X9.here hexec rfl (hb hbytes d29) rfl rfl ?_
      exact Steps.refl _)
    obtain ⟨T11, X11, q11, st11⟩ := X9.hget hexec hown (wk W (.fieldLink "java/lang/String" 15 "java/lang/String" "coder" "B")) (hy.mv X9.warmed.alike hh9).2.2.1 (g := (mkF m 30 #[.val (.ref x), .val (.ref y), .val (.ref y)] [.ref y, .int cd])) rfl (rest := [.int cd]) rfl (hb hbytes d30)
    have hh11 := q11.trans hh9
    have c12 : Steps p.tables e below (s₁.setTop (entryFrame m #[.ref x, .ref y] 3)) (T11.setTop (mkF m 33 #[.val (.ref x), .val (.ref y), .val (.ref y)] [.int cd', .int cd])) := c10.trans (st11 _ (Steps.refl _))
    by_cases hcd : cd = cd'
    · subst hcd
      have c13 : Steps p.tables e below (s₁.setTop (entryFrame m #[.ref x, .ref y] 3)) (T11.setTop (mkF m 37 #[.val (.ref x), .val (.ref y), .val (.ref y)] [.ref x])) := c12.trans (by
        refine XS.icmpNo X11.here hexec rfl (hb hbytes d33) rfl (ii_ne_f rfl) ?_
        refine XS.aloadN X11.here hexec rfl (hb hbytes d36) rfl rfl ?_
        exact Steps.refl _)
      obtain ⟨T14, X14, q14, st14⟩ := X11.hget hexec hown (wk W (.fieldLink "java/lang/String" 9 "java/lang/String" "value" "[B")) (hx.mv X11.warmed.alike hh11).2.1 (g := (mkF m 37 #[.val (.ref x), .val (.ref y), .val (.ref y)] [.ref x])) rfl (rest := []) rfl (hb hbytes d37)
      have hh14 := q14.trans hh11
      have c15 : Steps p.tables e below (s₁.setTop (entryFrame m #[.ref x, .ref y] 3)) (T14.setTop (mkF m 41 #[.val (.ref x), .val (.ref y), .val (.ref y)] [.ref y, .ref t])) := (c13.trans (st14 _ (Steps.refl _))).trans (by
        refine XS.aloadN X14.here hexec rfl (hb hbytes d40) rfl rfl ?_
        exact Steps.refl _)
      obtain ⟨T16, X16, q16, st16⟩ := X14.hget hexec hown (wk W (.fieldLink "java/lang/String" 9 "java/lang/String" "value" "[B")) (hy.mv X14.warmed.alike hh14).2.1 (g := (mkF m 41 #[.val (.ref x), .val (.ref y), .val (.ref y)] [.ref y, .ref t])) rfl (rest := [.ref t]) rfl (hb hbytes d41)
      have hh16 := q16.trans hh14
      have c17 : Steps p.tables e below (s₁.setTop (entryFrame m #[.ref x, .ref y] 3)) (T16.setTop (mkF m 44 #[.val (.ref x), .val (.ref y), .val (.ref y)] [.ref t', .ref t])) := c15.trans (st16 _ (Steps.refl _))
      obtain ⟨v18, T18, X18, E18, g18⟩ := X16.callS hexec (LEq.law l t V t' V') hown (wks W (staticW "java/lang/String" 541 LEq.yN)) (wk W LEq.tab) (W := 0) (Nat.le_of_ble_eq_true rfl) (Nat.le_of_ble_eq_true rfl) (Nat.le_refl _) (Nat.le_refl _) (g := (mkF m 44 #[.val (.ref x), .val (.ref y), .val (.ref y)] [.ref t', .ref t])) rfl (by rw [hml]; rfl) c17 (argsL := [.ref t, .ref t']) (rest := []) rfl rfl (by show 2 * 0 + 0 ≤ _; decide) (hb hbytes d44) (⟨rfl, hx.2.2.2.1.mv X16.warmed.alike hh16, hx.2.2.2.2.1.ty, hy.2.2.2.1.mv X16.warmed.alike hh16, hy.2.2.2.2.1.ty⟩)
      obtain ⟨v, rfl, q18, hv⟩ := E18
      have iff := Cod.eqv hx.2.2.2.2.1 hy.2.2.2.2.1 hx.2.2.2.2.2 hy.2.2.2.2.2
      rcases hv with ⟨rfl, he⟩ | ⟨rfl, he⟩
      · have c19 : Steps p.tables e below (s₁.setTop (entryFrame m #[.ref x, .ref y] 3)) (T18.setTop (mkF m 55 #[.val (.ref x), .val (.ref y), .val (.ref y)] [.int 1])) := Steps.trans g18 (by
          refine XS.ifNo X18.here hexec rfl (hb hbytes d47) rfl (i0_eq_f (by decide)) ?_
          refine iconstV X18.here hexec rfl 1 (hb hbytes d50) (by decide) ?_
          refine XS.goto X18.here hexec rfl (pc0 := 51) rfl (hb hbytes d51) (by decide) rfl ?_
          exact Steps.refl _)
        exact ⟨T18, some (.int 1), _, _, _, X18, rfl, rfl, rfl, (fun h => by cases h), ⟨1, rfl, q18.trans hh16, Or.inl ⟨rfl, iff.mp he⟩⟩, fun fs hl => c19.trans (X18.ireturnOut hexec hret rfl (Or.inr (Or.inl rfl)) (hb hbytes d55) hl)⟩
      · have c19 : Steps p.tables e below (s₁.setTop (entryFrame m #[.ref x, .ref y] 3)) (T18.setTop (mkF m 55 #[.val (.ref x), .val (.ref y), .val (.ref y)] [.int 0])) := Steps.trans g18 (by
          refine XS.ifYes X18.here hexec rfl (pc0 := 47) rfl (hb hbytes d47) rfl (i0_eq_t rfl) (by decide) rfl ?_
          refine iconstV X18.here hexec rfl 0 (hb hbytes d54) (by decide) ?_
          exact Steps.refl _)
        exact ⟨T18, some (.int 0), _, _, _, X18, rfl, rfl, rfl, (fun h => by cases h), ⟨0, rfl, q18.trans hh16, Or.inr ⟨rfl, fun q => he (iff.mpr q)⟩⟩, fun fs hl => c19.trans (X18.ireturnOut hexec hret rfl (Or.inr (Or.inl rfl)) (hb hbytes d55) hl)⟩
    · have c13 : Steps p.tables e below (s₁.setTop (entryFrame m #[.ref x, .ref y] 3)) (T11.setTop (mkF m 55 #[.val (.ref x), .val (.ref y), .val (.ref y)] [.int 0])) := c12.trans (by
        refine XS.icmpYes X11.here hexec rfl (pc0 := 33) rfl (hb hbytes d33) rfl (ii_ne_t hcd) (by decide) rfl ?_
        refine iconstV X11.here hexec rfl 0 (hb hbytes d54) (by decide) ?_
        exact Steps.refl _)
      exact ⟨T11, some (.int 0), _, _, _, X11, rfl, rfl, rfl, (fun h => by cases h), ⟨0, rfl, hh11, Or.inr ⟨rfl, Cod.dif hx.2.2.2.2.1 hy.2.2.2.2.1 hcd⟩⟩, fun fs hl => c13.trans (X11.ireturnOut hexec hret rfl (Or.inr (Or.inl rfl)) (hb hbytes d55) hl)⟩
theorem pays {l : Launch} {R : Room} {p : Program} {e : Env} {below : List Frame} {s : State} {sargs : Array Value} {len W : Nat} (x t : Addr) (V : Cell) (cd : Int32) (n : Nat) (f : Nat → Int32) (y t' : Addr) (V' : Cell) (cd' : Int32) (k : Nat) (g : Nat → Int32) (z : Int32) (htab : tab.before sargs s = true) (hfr : 2 ≤ R.frames) (hlo : W + 28 ≤ R.locals) :
    Back l R p e below s sargs yN len W (fun A₁ a₁ => A₁.cells + 0 ≤ R.cells ∧ A₁.slots + 0 ≤ R.slots ∧ P x t V cd n f y t' V' cd' k g z a₁ A₁.U) (fun A₁ _ v₁ B₁ => Says01 (SameT n f k g) v₁ A₁.U B₁.U ∧ B₁.locs = A₁.locs ++ [] ∧ B₁.cells = A₁.cells + 0 ∧ B₁.slots = A₁.slots + 0) :=
  (law l x t V cd n f y t' V' cd' k g z).pays htab hfr (by omega)
end SEq
end StrChars
namespace StrChars.Road
open Jvm Sem ClassFile Op Lib Jvm.Stand Jvm.Free Jvm.Free.XT
open Jvm.Lib.Cold (StaticIs)
/-- the words of String.equals(Object) -/
abbrev wordsEq : List Jvm.Cond := [.code SEq.yN SEq.yB 3 (some .boolean), .initialized ST, .classLink ST 10 ST, .fieldLink ST 38 ST "COMPACT_STRINGS" "Z", .fieldLink ST 15 ST "coder" "B", .fieldLink ST 9 ST "value" "[B", .methodLink ST 541 LEq.yN, .static LEq.yN, .code LEq.yN LEq.yB 3 (some .boolean), .initialized "java/lang/StringLatin1"]
theorem tabEq_of {a : Array Value} {s : State} (h : ∀ w ∈ wordsEq, w.before a s = true) : SEq.tab.before a s = true := by
  have hl : LEq.tab.before a s = true := unparts (wk h (.code LEq.yN LEq.yB 3 (some .boolean))) (wks h (.initialized LEq.yN.cls :: LEq.site))
  have q := consq hl h
  exact unparts (wk q (.code SEq.yN SEq.yB 3 (some .boolean))) (wks q (.initialized SEq.yN.cls :: SEq.site))
theorem movedEq {Z s : State} {a0 args : Array Value} (hZ : Z.Warmed39 s.vm) (hw : ∀ d ∈ wordsEq, d.before a0 Z = true) : ∀ d ∈ wordsEq, d.before args s = true := fun d hd => by
  have t : ∀ d ∈ wordsEq, (d.onTables && d.keepsFace) = true := by decide +kernel
  exact RoadKit.mv hZ (hw d hd) (t d hd)
/-- the road's facts of a String, as the laws ask it -/
theorem txt_of {Z U : State} {a0 : Array Value} {kI : Nat} (wi : (Jvm.Cond.instantiable ST kI).before a0 Z = true) (al : Z.vm.Alike U.vm) {x t : Addr} {kb : ClassId} {cs : List Int32} {cd N2 : Int32} {vs : List Value} (E : RoadKit.Exa Z U.heap x ST) (V : RoadKit.Fld Z U.heap x ST "value" "[B" (.ref t)) (C : RoadKit.Fld Z U.heap x ST "coder" "B" (.int cd)) (K : RoadKit.Arv Z U.heap t kb .byte N2 vs (.int 0)) (hc : CodA cs cd N2 vs) (hb : ∀ c ∈ cs, ¬ c < 0 ∧ ¬ (65535 : Int32) < c) (l2 : cs.length ≤ 4000) :
    ∃ A, Txt x t A cd cs.length (fun j => cs.getD j 0) U := by
  obtain ⟨A, K1, K2, K3, K4, K5, K6⟩ := K
  have hcod := hc.cod (by omega) K3 K5
  obtain ⟨D, fV, fC, hB, F1, F2, g1, g2, -, -⟩ := strObj wi al E V C
  exact ⟨A, ⟨_, hB.2.2.1, D, hB.1, rfl, by cases q : D.vm <;> first | rfl | exact absurd q (hB.2.1.2 _)⟩, Has.of hB F1 g1, Has.of hB F2 g2, ⟨K1.1, State.isArrayOf_alike al K1.2.1, K1.2.2, by rcases hcod with ⟨-, q, -⟩ | ⟨-, q, -⟩ <;> omega⟩, hcod, fun j hj => by
    have e : cs.getD j 0 = cs[j] := by simp [List.getD_eq_getElem?_getD, hj]
    show ¬ cs.getD j 0 < 0 ∧ ¬ 65535 < cs.getD j 0
    rw [e]; exact hb _ (List.getElem_mem _)⟩
theorem same_list (cs ds : List Int32) : SameT cs.length (fun j => cs.getD j 0) ds.length (fun j => ds.getD j 0) ↔ cs = ds := by
  constructor
  · rintro ⟨e, q⟩
    refine List.ext_getElem e fun j h1 h2 => ?_
    have := q j h1
    simpa [List.getD_eq_getElem?_getD, h1, h2] using this
  · rintro rfl
    exact ⟨rfl, fun _ _ => rfl⟩
/-- **equals(Object) OF TWO SUCH STRINGS**: 1 just where the chars are the same -/
theorem eqW {p : Program} {l : Launch} {e : Env} {R : Room} {s : State} {args : Array Value} {below : List Frame} {len W : Nat} {Z : State} {a0 : Array Value} {h : Heap} (hZ : Z.Warmed39 s.vm) (hw : ∀ d ∈ wordsEq, d.before a0 Z = true) {kI : Nat} (wi : (Jvm.Cond.instantiable ST kI).before a0 Z = true)
    {x t : Addr} {kb : ClassId} {cs : List Int32} {cd N2 : Int32} {vs : List Value} (E : RoadKit.Exa Z h x ST) (V : RoadKit.Fld Z h x ST "value" "[B" (.ref t)) (C : RoadKit.Fld Z h x ST "coder" "B" (.int cd)) (K : RoadKit.Arv Z h t kb .byte N2 vs (.int 0)) (hc : CodA cs cd N2 vs) (hb : ∀ c ∈ cs, ¬ c < 0 ∧ ¬ (65535 : Int32) < c) (l2 : cs.length ≤ 4000)
    {y t' : Addr} {kb' : ClassId} {ds : List Int32} {cd' N2' : Int32} {vs' : List Value} (E' : RoadKit.Exa Z h y ST) (V' : RoadKit.Fld Z h y ST "value" "[B" (.ref t')) (C' : RoadKit.Fld Z h y ST "coder" "B" (.int cd')) (K' : RoadKit.Arv Z h t' kb' .byte N2' vs' (.int 0)) (hc' : CodA ds cd' N2' vs') (hb' : ∀ c ∈ ds, ¬ c < 0 ∧ ¬ (65535 : Int32) < c) (l2' : ds.length ≤ 4000)
    {z : Int32} (S : RoadKit.Sta Z h ST "COMPACT_STRINGS" "Z" (.int z)) (hz : ¬ z = 0) (hfr : 2 ≤ R.frames) (hlo : W + 28 ≤ R.locals) :
    Back l R p e below s args (⟨"java/lang/String", "equals", "(Ljava/lang/Object;)Z"⟩ : MethodName) len W (fun P a => a = #[.ref x, .ref y] ∧ P.U.heap = h ∧ P.cells + 0 ≤ R.cells ∧ P.slots + 0 ≤ R.slots)
      (fun P _ v B => ∃ L, (((v = some (.int 1) ∧ cs = ds) ∨ (v = some (.int 0) ∧ ¬ cs = ds)) ∧ L = [] ∧ B.U.heap = h) ∧ B.locs = P.locs ++ L ∧ B.cells = P.cells + 0 ∧ B.slots = P.slots + 0) := by
  intro m meth c P g ig mk a X hg hsize hdg hW hn hp'
  obtain ⟨rfl, rfl, r1, r2⟩ := hp'
  have al : Z.vm.Alike P.U.vm := hZ.alike.trans X.warmed.alike
  obtain ⟨A, hx⟩ := txt_of wi al E V C K hc hb l2
  obtain ⟨A', hy⟩ := txt_of wi al E' V' C' K' hc' hb' l2'
  obtain ⟨v, B, X', ⟨⟨w, hv, hh, hq⟩, hl, hk, hs⟩, st⟩ := SEq.pays x t A cd cs.length (fun j => cs.getD j 0) y t' A' cd' ds.length (fun j => ds.getD j 0) z (tabEq_of (movedEq hZ hw)) hfr hlo m meth c P g ig mk _ X hg hsize hdg hW hn ⟨r1, r2, rfl, hx, hy, sta_is al S, hz⟩
  refine ⟨v, B, X', ⟨[], ⟨?_, rfl, hh⟩, hl, hk, hs⟩, st⟩
  rcases hq with ⟨rfl, q⟩ | ⟨rfl, q⟩
  · exact Or.inl ⟨hv, (same_list cs ds).mp q⟩
  · exact Or.inr ⟨hv, fun e => q ((same_list cs ds).mpr e)⟩
end StrChars.Road
namespace StrChars.Road
open Jvm Sem ClassFile Op Lib Jvm.Stand Jvm.Free Jvm.Free.XT
open Jvm.Lib.Cold (StaticIs)
/-- what backV says of its String, as the contracts of this text ask it: cs's low bytes, coder 0 -/
theorem codOf {cs : List Int32} {n : Nat} (hn : cs.length = n) (hb : ∀ c ∈ cs, ¬ 255 < c) : CodA cs 0 (Int32.ofNat n) ((cs.map lo8).map Value.int) := Or.inl ⟨rfl, by rw [hn], by simp [List.map_map, Function.comp_def], hb⟩
end StrChars.Road
end Jvm.Pilot.@@N@@
namespace Jvm.Pilot.@@N@@
open Jvm Jvm.ClassFile Sem Op Lib Jvm.Free Jvm.Stand Jvm.LawKit Jvm.RoadKit Bundle Jvm.Pilot.@@N@@.Jvm.D
theorem Wd0 {Z : State} {a0 : Array Value} (hw : ∀ d ∈ tables_1, d.before a0 Z = true) : (Jvm.Cond.constant "com/example/quayside/quayside/model/OrderStatusOfWordPinLaw" (7 : Nat) (2147483647 : Int32)).before a0 Z = true := hw _ (List.mem_of_getElem? (i := 0) rfl)
theorem Wd1 {Z : State} {a0 : Array Value} (hw : ∀ d ∈ tables_1, d.before a0 Z = true) : (Jvm.Cond.fieldLink "com/example/quayside/quayside/model/OrderStatusOfWordPinLaw" (8 : Nat) "com/example/quayside/quayside/model/OrderStatus" "PENDING" "Lcom/example/quayside/quayside/model/OrderStatus;").before a0 Z = true := hw _ (List.mem_of_getElem? (i := 1) rfl)
theorem Wd2 {Z : State} {a0 : Array Value} (hw : ∀ d ∈ tables_1, d.before a0 Z = true) : (Jvm.Cond.initialized "com/example/quayside/quayside/model/OrderStatus").before a0 Z = true := hw _ (List.mem_of_getElem? (i := 2) rfl)
theorem Wd3 {Z : State} {a0 : Array Value} (hw : ∀ d ∈ tables_1, d.before a0 Z = true) : (Jvm.Cond.laysStatic "com/example/quayside/quayside/model/OrderStatus" "PENDING" "Lcom/example/quayside/quayside/model/OrderStatus;").before a0 Z = true := hw _ (List.mem_of_getElem? (i := 3) rfl)
theorem Wd4 {Z : State} {a0 : Array Value} (hw : ∀ d ∈ tables_1, d.before a0 Z = true) : (Jvm.Cond.arrayClass Jvm.ClassFile.FieldType.char).before a0 Z = true := hw _ (List.mem_of_getElem? (i := 4) rfl)
theorem Wd5 {Z : State} {a0 : Array Value} (hw : ∀ d ∈ tables_1, d.before a0 Z = true) : (Jvm.Cond.classLink "com/example/quayside/quayside/model/OrderStatusOfWordPinLaw" (20 : Nat) "java/lang/String").before a0 Z = true := hw _ (List.mem_of_getElem? (i := 5) rfl)
theorem Wd6 {Z : State} {a0 : Array Value} (hw : ∀ d ∈ tables_1, d.before a0 Z = true) : (Jvm.Cond.instantiable "java/lang/String" (4 : Nat)).before a0 Z = true := hw _ (List.mem_of_getElem? (i := 6) rfl)
theorem Wd7 {Z : State} {a0 : Array Value} (hw : ∀ d ∈ tables_1, d.before a0 Z = true) : (Jvm.Cond.initialized "java/lang/String").before a0 Z = true := hw _ (List.mem_of_getElem? (i := 7) rfl)
theorem Wd8 {Z : State} {a0 : Array Value} (hw : ∀ d ∈ tables_1, d.before a0 Z = true) : (Jvm.Cond.methodLink "com/example/quayside/quayside/model/OrderStatusOfWordPinLaw" (22 : Nat) ({ cls := "java/lang/String", name := "<init>", desc := "([C)V" } : Jvm.MethodName)).before a0 Z = true := hw _ (List.mem_of_getElem? (i := 8) rfl)
theorem Wd9 {Z : State} {a0 : Array Value} (hw : ∀ d ∈ tables_1, d.before a0 Z = true) : (Jvm.Cond.instanceMethod ({ cls := "java/lang/String", name := "<init>", desc := "([C)V" } : Jvm.MethodName)).before a0 Z = true := hw _ (List.mem_of_getElem? (i := 9) rfl)
theorem Wd10 {Z : State} {a0 : Array Value} (hw : ∀ d ∈ tables_1, d.before a0 Z = true) : (Jvm.Cond.code ({ cls := "java/lang/String", name := "<init>", desc := "([C)V" } : Jvm.MethodName) jdk_42_method_3_code (2 : Nat) (Option.none : Option Jvm.ClassFile.FieldType)).before a0 Z = true := hw _ (List.mem_of_getElem? (i := 10) rfl)
theorem Wd31 {Z : State} {a0 : Array Value} (hw : ∀ d ∈ tables_1, d.before a0 Z = true) : (Jvm.Cond.laysFinal "java/lang/String" "java/lang/String" "coder" "B").before a0 Z = true := hw _ (List.mem_of_getElem? (i := 31) rfl)
theorem Wd33 {Z : State} {a0 : Array Value} (hw : ∀ d ∈ tables_1, d.before a0 Z = true) : (Jvm.Cond.laysFinal "java/lang/String" "java/lang/String" "value" "[B").before a0 Z = true := hw _ (List.mem_of_getElem? (i := 33) rfl)
theorem Wd34 {Z : State} {a0 : Array Value} (hw : ∀ d ∈ tables_1, d.before a0 Z = true) : (Jvm.Cond.methodLink "com/example/quayside/quayside/model/OrderStatusOfWordPinLaw" (25 : Nat) ({ cls := "com/example/quayside/quayside/model/OrderStatus", name := "ofWord", desc := "(Ljava/lang/String;)Lcom/example/quayside/quayside/model/OrderStatus;" } : Jvm.MethodName)).before a0 Z = true := hw _ (List.mem_of_getElem? (i := 34) rfl)
theorem Wd35 {Z : State} {a0 : Array Value} (hw : ∀ d ∈ tables_1, d.before a0 Z = true) : (Jvm.Cond.static ({ cls := "com/example/quayside/quayside/model/OrderStatus", name := "ofWord", desc := "(Ljava/lang/String;)Lcom/example/quayside/quayside/model/OrderStatus;" } : Jvm.MethodName)).before a0 Z = true := hw _ (List.mem_of_getElem? (i := 35) rfl)
theorem Wd36 {Z : State} {a0 : Array Value} (hw : ∀ d ∈ tables_1, d.before a0 Z = true) : (Jvm.Cond.code ({ cls := "com/example/quayside/quayside/model/OrderStatus", name := "ofWord", desc := "(Ljava/lang/String;)Lcom/example/quayside/quayside/model/OrderStatus;" } : Jvm.MethodName) prog_22_method_5_code (5 : Nat) (Option.some (Jvm.ClassFile.FieldType.object "com/example/quayside/quayside/model/OrderStatus"))).before a0 Z = true := hw _ (List.mem_of_getElem? (i := 36) rfl)
theorem Wd37 {Z : State} {a0 : Array Value} (hw : ∀ d ∈ tables_1, d.before a0 Z = true) : (Jvm.Cond.methodLink "com/example/quayside/quayside/model/OrderStatus" (36 : Nat) ({ cls := "com/example/quayside/quayside/model/OrderStatus", name := "values", desc := "()[Lcom/example/quayside/quayside/model/OrderStatus;" } : Jvm.MethodName)).before a0 Z = true := hw _ (List.mem_of_getElem? (i := 37) rfl)
theorem Wd38 {Z : State} {a0 : Array Value} (hw : ∀ d ∈ tables_1, d.before a0 Z = true) : (Jvm.Cond.static ({ cls := "com/example/quayside/quayside/model/OrderStatus", name := "values", desc := "()[Lcom/example/quayside/quayside/model/OrderStatus;" } : Jvm.MethodName)).before a0 Z = true := hw _ (List.mem_of_getElem? (i := 38) rfl)
theorem Wd39 {Z : State} {a0 : Array Value} (hw : ∀ d ∈ tables_1, d.before a0 Z = true) : (Jvm.Cond.code ({ cls := "com/example/quayside/quayside/model/OrderStatus", name := "values", desc := "()[Lcom/example/quayside/quayside/model/OrderStatus;" } : Jvm.MethodName) prog_22_method_1_code (0 : Nat) (Option.some (Jvm.ClassFile.FieldType.array (Jvm.ClassFile.FieldType.object "com/example/quayside/quayside/model/OrderStatus")))).before a0 Z = true := hw _ (List.mem_of_getElem? (i := 39) rfl)
theorem Wd40 {Z : State} {a0 : Array Value} (hw : ∀ d ∈ tables_1, d.before a0 Z = true) : (Jvm.Cond.fieldLink "com/example/quayside/quayside/model/OrderStatus" (13 : Nat) "com/example/quayside/quayside/model/OrderStatus" "$VALUES" "[Lcom/example/quayside/quayside/model/OrderStatus;").before a0 Z = true := hw _ (List.mem_of_getElem? (i := 40) rfl)
theorem Wd41 {Z : State} {a0 : Array Value} (hw : ∀ d ∈ tables_1, d.before a0 Z = true) : (Jvm.Cond.laysStatic "com/example/quayside/quayside/model/OrderStatus" "$VALUES" "[Lcom/example/quayside/quayside/model/OrderStatus;").before a0 Z = true := hw _ (List.mem_of_getElem? (i := 41) rfl)
theorem Wd42 {Z : State} {a0 : Array Value} (hw : ∀ d ∈ tables_1, d.before a0 Z = true) : (Jvm.Cond.methodLink "com/example/quayside/quayside/model/OrderStatus" (17 : Nat) ({ cls := "[Lcom/example/quayside/quayside/model/OrderStatus;", name := "clone", desc := "()Ljava/lang/Object;" } : Jvm.MethodName)).before a0 Z = true := hw _ (List.mem_of_getElem? (i := 42) rfl)
theorem Wd43 {Z : State} {a0 : Array Value} (hw : ∀ d ∈ tables_1, d.before a0 Z = true) : (Jvm.Cond.sameMethod "[Lcom/example/quayside/quayside/model/OrderStatus;" "java/lang/Object" "clone" "()Ljava/lang/Object;").before a0 Z = true := hw _ (List.mem_of_getElem? (i := 43) rfl)
theorem Wd45 {Z : State} {a0 : Array Value} (hw : ∀ d ∈ tables_1, d.before a0 Z = true) : (Jvm.Cond.instanceMethod ({ cls := "java/lang/Object", name := "clone", desc := "()Ljava/lang/Object;" } : Jvm.MethodName)).before a0 Z = true := hw _ (List.mem_of_getElem? (i := 45) rfl)
theorem Wd46 {Z : State} {a0 : Array Value} (hw : ∀ d ∈ tables_1, d.before a0 Z = true) : (Jvm.Cond.selects "[Lcom/example/quayside/quayside/model/OrderStatus;" ({ cls := "[Lcom/example/quayside/quayside/model/OrderStatus;", name := "clone", desc := "()Ljava/lang/Object;" } : Jvm.MethodName) ({ cls := "java/lang/Object", name := "clone", desc := "()Ljava/lang/Object;" } : Jvm.MethodName)).before a0 Z = true := hw _ (List.mem_of_getElem? (i := 46) rfl)
theorem Wd47 {Z : State} {a0 : Array Value} (hw : ∀ d ∈ tables_1, d.before a0 Z = true) : (Jvm.Cond.native ({ cls := "java/lang/Object", name := "clone", desc := "()Ljava/lang/Object;" } : Jvm.MethodName)).before a0 Z = true := hw _ (List.mem_of_getElem? (i := 47) rfl)
theorem Wd48 {Z : State} {a0 : Array Value} (hw : ∀ d ∈ tables_1, d.before a0 Z = true) : (Jvm.Cond.castable "[Lcom/example/quayside/quayside/model/OrderStatus;" "java/lang/Cloneable").before a0 Z = true := hw _ (List.mem_of_getElem? (i := 48) rfl)
theorem Wd49 {Z : State} {a0 : Array Value} (hw : ∀ d ∈ tables_1, d.before a0 Z = true) : (Jvm.Cond.laysStatic "com/example/quayside/quayside/model/OrderStatus" "READY_FOR_SHIPPING" "Lcom/example/quayside/quayside/model/OrderStatus;").before a0 Z = true := hw _ (List.mem_of_getElem? (i := 49) rfl)
theorem Wd50 {Z : State} {a0 : Array Value} (hw : ∀ d ∈ tables_1, d.before a0 Z = true) : (Jvm.Cond.laysStatic "com/example/quayside/quayside/model/OrderStatus" "SHIPPED" "Lcom/example/quayside/quayside/model/OrderStatus;").before a0 Z = true := hw _ (List.mem_of_getElem? (i := 50) rfl)
theorem Wd52 {Z : State} {a0 : Array Value} (hw : ∀ d ∈ tables_1, d.before a0 Z = true) : (Jvm.Cond.classLink "com/example/quayside/quayside/model/OrderStatus" (18 : Nat) "[Lcom/example/quayside/quayside/model/OrderStatus;").before a0 Z = true := hw _ (List.mem_of_getElem? (i := 52) rfl)
theorem Wd54 {Z : State} {a0 : Array Value} (hw : ∀ d ∈ tables_1, d.before a0 Z = true) : (Jvm.Cond.fieldLink "com/example/quayside/quayside/model/OrderStatus" (32 : Nat) "com/example/quayside/quayside/model/OrderStatus" "word" "Ljava/lang/String;").before a0 Z = true := hw _ (List.mem_of_getElem? (i := 54) rfl)
theorem Wd56 {Z : State} {a0 : Array Value} (hw : ∀ d ∈ tables_1, d.before a0 Z = true) : (Jvm.Cond.methodLink "com/example/quayside/quayside/model/OrderStatus" (40 : Nat) ({ cls := "java/lang/String", name := "equals", desc := "(Ljava/lang/Object;)Z" } : Jvm.MethodName)).before a0 Z = true := hw _ (List.mem_of_getElem? (i := 56) rfl)
theorem Wd57 {Z : State} {a0 : Array Value} (hw : ∀ d ∈ tables_1, d.before a0 Z = true) : (Jvm.Cond.declares ({ cls := "java/lang/String", name := "equals", desc := "(Ljava/lang/Object;)Z" } : Jvm.MethodName)).before a0 Z = true := hw _ (List.mem_of_getElem? (i := 57) rfl)
theorem Wd58 {Z : State} {a0 : Array Value} (hw : ∀ d ∈ tables_1, d.before a0 Z = true) : (Jvm.Cond.instanceMethod ({ cls := "java/lang/String", name := "equals", desc := "(Ljava/lang/Object;)Z" } : Jvm.MethodName)).before a0 Z = true := hw _ (List.mem_of_getElem? (i := 58) rfl)
theorem Wd59 {Z : State} {a0 : Array Value} (hw : ∀ d ∈ tables_1, d.before a0 Z = true) : (Jvm.Cond.selects "java/lang/String" ({ cls := "java/lang/String", name := "equals", desc := "(Ljava/lang/Object;)Z" } : Jvm.MethodName) ({ cls := "java/lang/String", name := "equals", desc := "(Ljava/lang/Object;)Z" } : Jvm.MethodName)).before a0 Z = true := hw _ (List.mem_of_getElem? (i := 59) rfl)
theorem Wd66 {Z : State} {a0 : Array Value} (hw : ∀ d ∈ tables_1, d.before a0 Z = true) : (Jvm.Cond.methodLink "com/example/quayside/quayside/model/OrderStatusOfWordPinLaw" (29 : Nat) ({ cls := "com/example/quayside/quayside/model/OrderStatus", name := "getWord", desc := "()Ljava/lang/String;" } : Jvm.MethodName)).before a0 Z = true := hw _ (List.mem_of_getElem? (i := 66) rfl)
theorem Wd67 {Z : State} {a0 : Array Value} (hw : ∀ d ∈ tables_1, d.before a0 Z = true) : (Jvm.Cond.declares ({ cls := "com/example/quayside/quayside/model/OrderStatus", name := "getWord", desc := "()Ljava/lang/String;" } : Jvm.MethodName)).before a0 Z = true := hw _ (List.mem_of_getElem? (i := 67) rfl)
theorem Wd68 {Z : State} {a0 : Array Value} (hw : ∀ d ∈ tables_1, d.before a0 Z = true) : (Jvm.Cond.instanceMethod ({ cls := "com/example/quayside/quayside/model/OrderStatus", name := "getWord", desc := "()Ljava/lang/String;" } : Jvm.MethodName)).before a0 Z = true := hw _ (List.mem_of_getElem? (i := 68) rfl)
theorem Wd69 {Z : State} {a0 : Array Value} (hw : ∀ d ∈ tables_1, d.before a0 Z = true) : (Jvm.Cond.selects "com/example/quayside/quayside/model/OrderStatus" ({ cls := "com/example/quayside/quayside/model/OrderStatus", name := "getWord", desc := "()Ljava/lang/String;" } : Jvm.MethodName) ({ cls := "com/example/quayside/quayside/model/OrderStatus", name := "getWord", desc := "()Ljava/lang/String;" } : Jvm.MethodName)).before a0 Z = true := hw _ (List.mem_of_getElem? (i := 69) rfl)
theorem Wd70 {Z : State} {a0 : Array Value} (hw : ∀ d ∈ tables_1, d.before a0 Z = true) : (Jvm.Cond.code ({ cls := "com/example/quayside/quayside/model/OrderStatus", name := "getWord", desc := "()Ljava/lang/String;" } : Jvm.MethodName) prog_22_method_4_code (1 : Nat) (Option.some (Jvm.ClassFile.FieldType.object "java/lang/String"))).before a0 Z = true := hw _ (List.mem_of_getElem? (i := 70) rfl)
theorem Wd71 {Z : State} {a0 : Array Value} (hw : ∀ d ∈ tables_1, d.before a0 Z = true) : (Jvm.Cond.methodLink "com/example/quayside/quayside/model/OrderStatusOfWordPinLaw" (33 : Nat) ({ cls := "java/lang/String", name := "equals", desc := "(Ljava/lang/Object;)Z" } : Jvm.MethodName)).before a0 Z = true := hw _ (List.mem_of_getElem? (i := 71) rfl)
theorem Wd72 {Z : State} {a0 : Array Value} (hw : ∀ d ∈ tables_1, d.before a0 Z = true) : (Jvm.Cond.fieldLink "com/example/quayside/quayside/model/OrderStatusOfWordPinLaw" (17 : Nat) "com/example/quayside/quayside/model/OrderStatus" "SHIPPED" "Lcom/example/quayside/quayside/model/OrderStatus;").before a0 Z = true := hw _ (List.mem_of_getElem? (i := 72) rfl)
theorem Wd73 {Z : State} {a0 : Array Value} (hw : ∀ d ∈ tables_1, d.before a0 Z = true) : (Jvm.Cond.fieldLink "com/example/quayside/quayside/model/OrderStatusOfWordPinLaw" (14 : Nat) "com/example/quayside/quayside/model/OrderStatus" "READY_FOR_SHIPPING" "Lcom/example/quayside/quayside/model/OrderStatus;").before a0 Z = true := hw _ (List.mem_of_getElem? (i := 73) rfl)
/-- the run comes from A to a state with P -/
def ownG (tb : Tables) (e : Env) (below : List Frame) (P : State → Prop) (A : State) : Prop := ∃ t, Steps tb e below A t ∧ P t
theorem ownBy {tb : Tables} {e : Env} {below : List Frame} {P : State → Prop} {A B : State} (st : ∀ t, Steps tb e below A t → Steps tb e below B t) (k : ownG tb e below P A) : ownG tb e below P B := by
  obtain ⟨t, h, q⟩ := k
  exact ⟨t, st t h, q⟩
theorem ownSt {tb : Tables} {e : Env} {below : List Frame} {P : State → Prop} {A B : State} (st : Steps tb e below B A) (k : ownG tb e below P A) : ownG tb e below P B := by
  obtain ⟨t, h, q⟩ := k
  exact ⟨t, st.trans h, q⟩
def ownE (s : State) (below : List Frame) (Q : Option Value → Heap → List Loc → Prop) (k n : Nat) (t : State) : Prop := t.status = .running ∧ ∃ v L, Ended t below (.returned v) ∧ Q v t.heap L ∧ FrameEnd s (.returned v) t L k n
def ownEH (s : State) (below : List Frame) (Q : Option Value → Heap → List Loc → Prop) (Z : State) (EL : List (String × Nat)) (h0 : Heap) (k n : Nat) (t : State) : Prop := t.status = .running ∧ ∃ v L, Ended t below (.returned v) ∧ Q v t.heap L ∧ CHr Z EL s.vm h0 t.vm t.heap ∧ ReturnedEndW s (.returned v) t L k n
theorem ownOut {tb : Tables} {e : Env} {below : List Frame} {P : Option Value → Heap → List Loc → Prop} {s A : State} {k n : Nat} (g : ownG tb e below (ownE s below P k n) A) :
    ∃ s₂ o, Steps tb e below A s₂ ∧ s₂.status = .running ∧ Ended s₂ below o ∧ ∃ v L, o = .returned v ∧ P v s₂.heap L ∧ FrameEnd s o s₂ L k n := by
  obtain ⟨t, h, r, v, L, e1, q, f⟩ := g
  exact ⟨t, _, h, r, e1, v, L, rfl, q, f⟩
theorem ownOutH {tb : Tables} {e : Env} {below : List Frame} {P : Option Value → Heap → List Loc → Prop} {s A Z : State} {EL : List (String × Nat)} {h0 : Heap} {k n : Nat} (hh : s.heap = h0) (g : ownG tb e below (ownEH s below P Z EL h0 k n) A) :
    ∃ s₂ o, Steps tb e below A s₂ ∧ s₂.status = .running ∧ Ended s₂ below o ∧ ∃ v L, o = .returned v ∧ P v s₂.heap L ∧ CHr Z EL s.vm s.heap s₂.vm s₂.heap ∧ ReturnedEndW s o s₂ L k n := by
  subst hh
  obtain ⟨t, h, r, v, L, e1, q, c, f⟩ := g
  exact ⟨t, _, h, r, e1, v, L, rfl, q, c, f⟩
theorem ownRet {p : Program} {l : Launch} {e : Env} {R : Room} {s : State} {m : MethodId} {args : Array Value} {below : List Frame} {meth : Method} {c : Code} {T A : State} {locs : List Loc} {cells slots k n : Nat} {P : Option Value → Heap → List Loc → Prop}
    (X : Stand p l e R s m args below meth c T locs cells slots) (hlk : meth.locks = false) {v : Option Value} (hv : meth.sig.returnType = none → v = none) (hQ : P v T.heap locs) (hk : cells ≤ k) (hn : slots ≤ n)
    (st : ∀ fs, (∀ (f : JFrame) (acts : List Action), f.method = m → f.locked = none → f.entered = [] → (doReturn e (T.setTop f) acts v).1 = T.setFrames fs) → Steps p.tables e below A (T.setFrames fs)) :
    ownG p.tables e below (ownE s below P k n) A := by
  obtain ⟨fs, hr, hrun, hended, hW, hsame⟩ := X.leave hv hlk
  exact ⟨_, st fs hr, hrun, v, locs, hended, hQ, ⟨_, rfl⟩, hW, hsame.mono hk hn⟩
theorem ownRetH {p : Program} {l : Launch} {e : Env} {R : Room} {s : State} {m : MethodId} {args : Array Value} {below : List Frame} {meth : Method} {c : Code} {T A Z : State} {EL : List (String × Nat)} {h0 : Heap} {locs : List Loc} {cells slots k n k1 : Nat} {vm1 : Vm} {P : Option Value → Heap → List Loc → Prop}
    (X : Stand p l e R (s.setVm vm1) m args below meth c T locs cells slots) (hS : s.Since vm1 k1) (hk1 : k1 ≤ T.heap.size) (hlk : meth.locks = false) {v : Option Value} (hv : meth.sig.returnType = none → v = none) (hQ : P v T.heap locs) (hC : CHr Z EL s.vm h0 T.vm T.heap) (hk : cells ≤ k) (hn : slots ≤ n)
    (st : ∀ fs, (∀ (f : JFrame) (acts : List Action), f.method = m → f.locked = none → f.entered = [] → (doReturn e (T.setTop f) acts v).1 = T.setFrames fs) → Steps p.tables e below A (T.setFrames fs)) :
    ownG p.tables e below (ownEH s below P Z EL h0 k n) A := by
  obtain ⟨fs, hr, hrun, hended, hR⟩ := X.leaveW hS hk1 hv hlk
  exact ⟨_, st fs hr, hrun, v, locs, hended, hQ, hC, hR.1, hR.2.1, hR.2.2.1, hR.2.2.2.mono hk hn⟩
theorem own_since {s : State} {n : Nat} : s.Since s.vm n := (State.WarmedH.refl s).since n
theorem own_cat {v : Value} (h : v.isRef = true) : v.category = 1 := by cases v <;> simp_all [Value.isRef, Value.category]
theorem own_narrow {t : FieldType} {v : Value} (ht : t.isReference = true) (h : v.isRef = true) : narrow t v = v := by
  rcases ref_cases h with rfl | ⟨a, rfl⟩ <;> cases t <;> simp_all [narrow, FieldType.isReference]
theorem own_fits {t : FieldType} {v : Value} (ht : t.isReference = true) (h : v.isRef = true) : fits t v = true := by
  rcases ref_cases h with rfl | ⟨a, rfl⟩ <;> cases t <;> simp_all [fits, FieldType.isReference]
theorem own_and255 (x : Int32) : ¬ nar .char ((x &&& (255 : Int32)).toUInt32.toUInt16.toUInt32.toInt32) < 0 ∧ ¬ (255 : Int32) < nar .char ((x &&& (255 : Int32)).toUInt32.toUInt16.toUInt32.toInt32) := by
  have t : ∀ k : Fin 256, ¬ nar .char ((Int32.ofNat k.val).toUInt32.toUInt16.toUInt32.toInt32) < 0 ∧ ¬ (255 : Int32) < nar .char ((Int32.ofNat k.val).toUInt32.toUInt16.toUInt32.toInt32) := by decide +kernel
  have h : (x &&& 255).toBitVec.toNat < 256 := by
    simp only [Int32.toBitVec_and, BitVec.toNat_and]
    exact Nat.lt_succ_of_le Nat.and_le_right
  have e : (x &&& 255) = Int32.ofNat (x &&& 255).toBitVec.toNat := by
    apply Int32.toBitVec_inj.mp
    show _ = BitVec.ofNat 32 _
    rw [BitVec.ofNat_toNat]; simp
  rw [e]
  exact t ⟨_, h⟩
theorem own_up (cs : List Int32) (h : ∀ c ∈ cs, ¬ c < 0 ∧ ¬ (255 : Int32) < c) : ∀ c ∈ cs, ¬ c < 0 ∧ ¬ (65535 : Int32) < c := fun c hc => ⟨(h c hc).1, fun q => (h c hc).2 (by rw [Int32.lt_iff_toInt_lt] at q ⊢; have e1 : (65535 : Int32).toInt = 65535 := rfl; have e2 : (255 : Int32).toInt = 255 := rfl; omega)⟩
theorem own_nz {args : Array Value} {s : State} {t : Jvm.Term} {g : Int32} (e : t.eval args s none [] s = some (.int g)) (h : (Jvm.Cond.not (Jvm.Cond.eq t (Jvm.Term.int (0 : Int32)))).value args s none s [] = some true) : ¬ (g = (0 : Int32)) := by
  intro q
  subst q
  simp [Jvm.Cond.value, Jvm.Term.eval, e] at h
theorem own_lcmp_self (x : Int64) : lcmpW x x = 0 := by rw [lcW]; exact (lc_eq x x).mpr rfl
theorem own_nar_byte (x : Int32) : nar .byte (x.toInt8.toInt32) = x.toInt8.toInt32 := by simp [nar]
theorem own_nar_char (x : Int32) : nar .char (x.toUInt32.toUInt16.toUInt32.toInt32) = x.toUInt32.toUInt16.toUInt32.toInt32 := by
  have q := c_i2c x
  have q2 := c_i2c (x.toUInt32.toUInt16.toUInt32.toInt32)
  exact Int32.toInt_inj.mp (by show ((x.toUInt32.toUInt16.toUInt32.toInt32).toUInt32.toUInt16.toUInt32.toInt32).toInt = _; omega)
theorem own_and255c (x : Int32) : ¬ ((255 : Int32) < (x &&& (255 : Int32)).toUInt32.toUInt16.toUInt32.toInt32) := by
  have h := (own_and255 x).2
  rwa [own_nar_char] at h
def own_b (p : Prop) [Decidable p] : Int32 := if p then 1 else 0
theorem own_bt0 {p : Prop} [Decidable p] (h : p) : ¬ (own_b p = (0 : Int32)) := by simp [own_b, h]
theorem own_bf0 {p : Prop} [Decidable p] (h : ¬ p) : own_b p = (0 : Int32) := by simp [own_b, h]
theorem own_bt1 {p : Prop} [Decidable p] (h : p) : own_b p = (1 : Int32) := by simp [own_b, h]
theorem own_bf1 {p : Prop} [Decidable p] (h : ¬ p) : ¬ (own_b p = (1 : Int32)) := by simp [own_b, h]
theorem own_eqv {s : State} {args : Array Value} {t u : Jvm.Term} {w : Addr} (eu : u.eval args s none [] s = some (.ref w)) (h : (Jvm.Cond.eq t u).value args s none s [] = some true) : t.eval args s none [] s = some (.ref w) := by
  obtain ⟨x, y, ex, ey, kx, -⟩ := cmp_v (Or.inl h)
  cases eu.symm.trans ey
  have hr : x.isRef = true := by cases x <;> simp_all [Kin, Value.isRef]
  have q := gotT (eq_R ex ey hr rfl) h
  rw [ex, q]
theorem own_len {s : State} {args : Array Value} {t : Jvm.Term} {a : Addr} {c : Cell} {ty : FieldType} {n : Int32} (ev : t.eval args s none [] s = some (.ref a)) (A : Arr s s.heap a c ty) (h : (Jvm.Cond.eq (Jvm.Term.length t) (Jvm.Term.int n)).value args s none s [] = some true) : c.slots.size < 2 ^ 31 ∧ c.slots.size.toInt32 = n := by
  have q := eqv_i (y := n) rfl h
  have ha := A.fin (Vm.Alike.refl _)
  simp only [Jvm.Term.eval, ev, ha, Option.bind_eq_bind, Option.bind_some] at q
  split at q
  · rename_i hl
    exact ⟨hl, by simpa using q⟩
  · simp at q
theorem own_elem {s : State} {args : Array Value} {t : Jvm.Term} {a : Addr} {c : Cell} {ty : FieldType} {j : Int32} {v : Value} (ev : t.eval args s none [] s = some (.ref a)) (A : Arr s s.heap a c ty) (h : (Jvm.Term.elem t (Jvm.Term.int j)).eval args s none [] s = some v) : c.slots[j.toNatClampNeg]? = some v :=
  (elem_in h ev rfl A.1).2
theorem own_nar_rng {c : Int32} (h0 : ¬ c < 0) (h1 : ¬ (255 : Int32) < c) : nar .char c = c := by
  have e0 : (0 : Int32).toInt = 0 := rfl
  have e1 : (255 : Int32).toInt = 255 := rfl
  simp only [Int32.lt_iff_toInt_lt] at h0 h1
  have q := c_i2c c
  exact Int32.toInt_inj.mp (by show (c.toUInt32.toUInt16.toUInt32.toInt32).toInt = _; omega)
theorem own_idx {p : Int32} {n : Nat} (h0 : ¬ p < 0) (h : p < Int32.ofNat n) (hn : n ≤ 4000) : p.toNatClampNeg < n := by
  have e0 : (0 : Int32).toInt = 0 := rfl
  simp only [Int32.lt_iff_toInt_lt] at h0 h
  rw [Int32.toInt_ofNat_of_lt (by omega)] at h
  show p.toInt.toNat < n
  omega
theorem own_set_rng {cs : List Int32} {i : Nat} {x : Int32} (h : ∀ c ∈ cs, ¬ c < 0 ∧ ¬ (255 : Int32) < c) (hx : ¬ x < 0 ∧ ¬ (255 : Int32) < x) : ∀ c ∈ cs.set i x, ¬ c < 0 ∧ ¬ (255 : Int32) < c := fun c hc =>
  (List.mem_or_eq_of_mem_set hc).elim (h c) (fun e => e ▸ hx)
theorem own_rem_nn (x y : Int32) (hy : 0 < y.toInt) : ¬ ((x &&& (2147483647 : Int32)) % y < 0) := by
  have h0 : 0 ≤ (x &&& (2147483647 : Int32)).toInt := (c_and x 2147483647 (by decide)).1
  have q := (c_iremV (x &&& 2147483647) y).1 h0 hy
  have e0 : (0 : Int32).toInt = 0 := rfl
  simp only [Int32.lt_iff_toInt_lt]
  omega
theorem own_and255p (x : Int32) : ¬ (x &&& (255 : Int32)).toUInt32.toUInt16.toUInt32.toInt32 < 0 ∧ ¬ ((255 : Int32) < (x &&& (255 : Int32)).toUInt32.toUInt16.toUInt32.toInt32) := by
  have h := own_and255 x
  rwa [own_nar_char] at h
theorem own_ty_ne {Z : State} {h : Heap} {a b : Addr} {k1 k2 : ClassId} {t1 t2 : FieldType} {z1 z2 : Int32} {v1 v2 : List Value} {d1 d2 : Value} (A : Arv Z h a k1 t1 z1 v1 d1) (B : Arv Z h b k2 t2 z2 v2 d2) (q : t1 ≠ t2) : a ≠ b := fun e => by
  subst e
  obtain ⟨c1, A1, -⟩ := A
  obtain ⟨c2, B1, -⟩ := B
  cases A1.1.symm.trans B1.1
  obtain ⟨-, k, hk, comp, hkind⟩ := A1.2.1
  obtain ⟨-, k', hk', comp', hkind'⟩ := B1.2.1
  cases hk.symm.trans hk'
  rw [hkind] at hkind'
  injection hkind' with _ e2
  exact q e2
theorem own_hide {p : Program} {l : Launch} {e : Env} {R : Room} {s : State} {m : MethodId} {args : Array Value} {below : List Frame} {meth : Method} {c : Code} {T : State} {locs : List Loc} {cells slots cells' slots' n0 : Nat} (X : Stand p l e R s m args below meth c T locs cells slots) (N : Fr n0 locs) (hc : cells ≤ cells') (hs : slots ≤ slots') : ∃ L, Stand p l e R s m args below meth c T L cells' slots' ∧ Fr n0 L := ⟨_, X.more hc hs, N⟩
theorem own_getF {p : Program} {l : Launch} {e : Env} {R : Room} {s : State} {m : MethodId} {args : Array Value} {below : List Frame} {meth : Method} {c : Code} {T Z : State} {locs : List Loc} {cells slots : Nat} {a0 : Array Value} {h : Heap} {P : State → Prop} (X : Stand p l e R s m args below meth c T locs cells slots) (hx : p.tables.exec = Jvm.exec) (hZ : Z.Warmed39 s.vm) {own R0 O n d host : String} {index : Nat} (hown : s.vm.findClass own = some m.cls) (w : (Jvm.Cond.fieldLink own index R0 n d).before a0 Z = true ∨ (Jvm.Cond.fieldLinkNest own index R0 n d host).before a0 Z = true) (via : Via Z R0 O n d)
    (eT : T.heap = h) {a : Addr} {v : Value} (F : Fld Z h a O n d v) {pc : Nat} {Ls : Array Slot} {rest : List Value} (hd : decode c.code pc = .ok (.getfield index, 3)) (k : ∀ T', Stand p l e R s m args below meth c T' locs cells slots → T'.heap = h → ownG p.tables e below P (T'.setTop (mkF m (pc + 3) Ls (v :: rest)))) : ownG p.tables e below P (T.setTop (mkF m pc Ls (.ref a :: rest))) := by
  obtain ⟨T', X', e', st⟩ := getF X hx hZ hown w via eT F (g := mkF m pc Ls (.ref a :: rest)) rfl rfl hd
  exact ownBy st (k T' X' e')
theorem pn_1 : plainName "com/example/quayside/quayside/model/OrderStatus" = true := by first | (simp [plainName, overriddenIn]; done) | decide +kernel
theorem d8_0 : decode prog_22_method_1_code 0 = .ok (.getstatic 13, 3) := by decide +kernel
theorem d8_3 : decode prog_22_method_1_code 3 = .ok (.invokevirtual 17, 3) := by decide +kernel
theorem d8_6 : decode prog_22_method_1_code 6 = .ok (.checkcast 18, 3) := by decide +kernel
theorem d8_9 : decode prog_22_method_1_code 9 = .ok (.areturn, 1) := by decide +kernel
theorem d11_0 : decode prog_22_method_4_code 0 = .ok (.aload_n 0, 1) := by decide +kernel
theorem d11_1 : decode prog_22_method_4_code 1 = .ok (.getfield 32, 3) := by decide +kernel
theorem d11_4 : decode prog_22_method_4_code 4 = .ok (.areturn, 1) := by decide +kernel
theorem d7_0 : decode prog_22_method_5_code 0 = .ok (.invokestatic 36, 3) := by decide +kernel
theorem pd_12 : parseMethodDescriptor "()[Lcom/example/quayside/quayside/model/OrderStatus;" = some ⟨[], some (.array (.object "com/example/quayside/quayside/model/OrderStatus"))⟩ := by decide +kernel
theorem d7_3 : decode prog_22_method_5_code 3 = .ok (.astore_n 1, 1) := by decide +kernel
theorem d7_4 : decode prog_22_method_5_code 4 = .ok (.aload_n 1, 1) := by decide +kernel
theorem d7_5 : decode prog_22_method_5_code 5 = .ok (.arraylength, 1) := by decide +kernel
theorem d7_6 : decode prog_22_method_5_code 6 = .ok (.istore_n 2, 1) := by decide +kernel
theorem d7_7 : decode prog_22_method_5_code 7 = .ok (.iconst 0, 1) := by decide +kernel
theorem d7_8 : decode prog_22_method_5_code 8 = .ok (.istore_n 3, 1) := by decide +kernel
theorem d7_9 : decode prog_22_method_5_code 9 = .ok (.iload_n 3, 1) := by decide +kernel
theorem d7_10 : decode prog_22_method_5_code 10 = .ok (.iload_n 2, 1) := by decide +kernel
theorem d7_11 : decode prog_22_method_5_code 11 = .ok (.if_icmp .ge 29, 3) := by decide +kernel
theorem d7_14 : decode prog_22_method_5_code 14 = .ok (.aload_n 1, 1) := by decide +kernel
theorem d7_15 : decode prog_22_method_5_code 15 = .ok (.iload_n 3, 1) := by decide +kernel
theorem d7_16 : decode prog_22_method_5_code 16 = .ok (.aaload, 1) := by decide +kernel
theorem d7_17 : decode prog_22_method_5_code 17 = .ok (.astore 4, 2) := by decide +kernel
theorem d7_19 : decode prog_22_method_5_code 19 = .ok (.aload 4, 2) := by decide +kernel
theorem d7_21 : decode prog_22_method_5_code 21 = .ok (.getfield 32, 3) := by decide +kernel
theorem d7_24 : decode prog_22_method_5_code 24 = .ok (.aload_n 0, 1) := by decide +kernel
theorem d7_25 : decode prog_22_method_5_code 25 = .ok (.invokevirtual 40, 3) := by decide +kernel
theorem pd_35 : parseMethodDescriptor "(Ljava/lang/Object;)Z" = some ⟨[(.object "java/lang/Object")], some .boolean⟩ := by decide +kernel
theorem d7_28 : decode prog_22_method_5_code 28 = .ok (.ifCond .eq 6, 3) := by decide +kernel
theorem d7_31 : decode prog_22_method_5_code 31 = .ok (.aload 4, 2) := by decide +kernel
theorem d7_33 : decode prog_22_method_5_code 33 = .ok (.areturn, 1) := by decide +kernel
theorem d7_34 : decode prog_22_method_5_code 34 = .ok (.iinc 3 1, 3) := by decide +kernel
theorem d7_37 : decode prog_22_method_5_code 37 = .ok (.goto (-28), 3) := by decide +kernel
theorem pn_124 : plainName "com/example/quayside/quayside/model/OrderStatusOfWordPinLaw" = true := by first | (simp [plainName, overriddenIn]; done) | decide +kernel
theorem own_nl_char_80 : nar .char (80 : Int32) = (80 : Int32) := by decide
theorem own_nl_char_101 : nar .char (101 : Int32) = (101 : Int32) := by decide
theorem own_nl_char_110 : nar .char (110 : Int32) = (110 : Int32) := by decide
theorem own_nl_char_100 : nar .char (100 : Int32) = (100 : Int32) := by decide
theorem own_nl_char_105 : nar .char (105 : Int32) = (105 : Int32) := by decide
theorem own_nl_char_103 : nar .char (103 : Int32) = (103 : Int32) := by decide
theorem pd_173 : parseMethodDescriptor "([C)V" = some ⟨[(.array .char)], none⟩ := by decide +kernel
theorem pd_185 : parseMethodDescriptor "(Ljava/lang/String;)Lcom/example/quayside/quayside/model/OrderStatus;" = some ⟨[(.object "java/lang/String")], some (.object "com/example/quayside/quayside/model/OrderStatus")⟩ := by decide +kernel
theorem pd_192 : parseMethodDescriptor "()Ljava/lang/String;" = some ⟨[], some (.object "java/lang/String")⟩ := by decide +kernel
theorem own_nl_char_82 : nar .char (82 : Int32) = (82 : Int32) := by decide
theorem own_nl_char_97 : nar .char (97 : Int32) = (97 : Int32) := by decide
theorem own_nl_char_121 : nar .char (121 : Int32) = (121 : Int32) := by decide
theorem own_nl_char_32 : nar .char (32 : Int32) = (32 : Int32) := by decide
theorem own_nl_char_102 : nar .char (102 : Int32) = (102 : Int32) := by decide
theorem own_nl_char_111 : nar .char (111 : Int32) = (111 : Int32) := by decide
theorem own_nl_char_114 : nar .char (114 : Int32) = (114 : Int32) := by decide
theorem own_nl_char_83 : nar .char (83 : Int32) = (83 : Int32) := by decide
theorem own_nl_char_104 : nar .char (104 : Int32) = (104 : Int32) := by decide
theorem own_nl_char_112 : nar .char (112 : Int32) = (112 : Int32) := by decide
abbrev fr_vals (m : MethodId)  (pc : Nat)  (st : List Value) : JFrame := mkF m pc #[] st
def Q_vals (Z : State) (A : Addr) (kA : ClassId) (P0 : Addr) (P1 : Addr) (P2 : Addr) (h0 : Heap) (n0 : Nat) (v : Option Value) (h : Heap) (L : List Loc) : Prop := ∃ x : Addr, v = some (.ref x) ∧ Fr n0 L ∧ Keep h0 h [] ∧ h0.size ≤ x ∧ Arv Z h x kA (.object "com/example/quayside/quayside/model/OrderStatus") (3 : Int32) [(.ref P0), (.ref P1), (.ref P2)] .null
theorem ef_vals (m : MethodId)   : entryFrame m #[] 0 = mkF m 0 #[] [] := by first | (simp [entryFrame, mkF, argsToLocals, Value.category]; done) | rfl
set_option maxRecDepth 65536 in
set_option maxHeartbeats 40000000 in
theorem c_vals (l : Launch) (Z : State) (a0 : Array Value) (hw : ∀ d ∈ tables_1, d.before a0 Z = true) (ws : List Jvm.Cond) (A : Addr) (kA : ClassId) (P0 : Addr) (P1 : Addr) (P2 : Addr) (h0 : Heap) (n0 : Nat) (Z0 : n0 ≤ h0.size) (SV : Sta Z Z.heap "com/example/quayside/quayside/model/OrderStatus" "$VALUES" "[Lcom/example/quayside/quayside/model/OrderStatus;" (.ref A)) (KV : Arv Z Z.heap A kA (.object "com/example/quayside/quayside/model/OrderStatus") (3 : Int32) [(.ref P0), (.ref P1), (.ref P2)] .null) (EV : Exa Z Z.heap A "[Lcom/example/quayside/quayside/model/OrderStatus;") (X00 : Old Z n0 h0) :
    MetFree l (⟨"com/example/quayside/quayside/model/OrderStatus", "values", "()[Lcom/example/quayside/quayside/model/OrderStatus;"⟩ : MethodName) (head1 (Jvm.Cond.code (⟨"com/example/quayside/quayside/model/OrderStatus", "values", "()[Lcom/example/quayside/quayside/model/OrderStatus;"⟩ : MethodName) prog_22_method_1_code 0 (some (.array (.object "com/example/quayside/quayside/model/OrderStatus"))) :: ws) ({ frames := 1, cells := 1, slots := 3, locals := 14 } : Room)) (fun a U => a = #[] ∧ Z.Warmed39 U.vm ∧ U.heap = h0) (fun _ _ _ _ _ => True) (fun _ U o U' => ∃ v L, o = .returned v ∧ (Q_vals Z A kA P0 P1 P2 h0 n0) v U'.heap L ∧ FrameEnd U o U' L ({ frames := 1, cells := 1, slots := 3, locals := 14 } : Room).cells ({ frames := 1, cells := 1, slots := 3, locals := 14 } : Room).slots) := by
  refine MetFree.of_bodySF (plainFor_of_name pn_1) hisR ?_
  intro p e s m args below meth c s₁ Bd hml0 hP hK
  obtain ⟨rfl, hZ, hh⟩ := hP
  have hx := Bd.exec
  have hby := Bd.bytes
  have hml : c.maxLocals = 0 := hml0
  have hown : s.vm.findClass "com/example/quayside/quayside/model/OrderStatus" = some m.cls := findClass_of_methodNamed Bd.named
  have hnm := (name_of_methodNamed Bd.named Bd.method).1
  have X0 : Stand p l e ({ frames := 1, cells := 1, slots := 3, locals := 14 } : Room) s m #[] below meth c s₁ [] 0 0 := Stand.of_body Bd
  have e0 : s₁.heap = h0 := by rw [← hh, Bd.state]; rfl
  have N0 := Fr.nil n0
  refine ownOut (P := (Q_vals Z A kA P0 P1 P2 h0 n0)) ?_
  refine ownBy (A := s₁.setTop (mkF m 0 #[] [])) (fun t k => castTop (ef_vals m ) k) ?_
  obtain ⟨T2, X2, e2, st2⟩ := getS2 X0 hx hZ hown (host := "") (Or.inl (Wd40 hw)) Via.refl e0 (SV.ext X00.2) (g := (fr_vals m  0  [])) rfl (hb hby d8_0)
  refine ownBy st2 ?_
  clear st2
  show ownG p.tables e below _ (T2.setTop (fr_vals m  3  [(.ref A)]))
  have f4 := KV.ext X00.2
  have f5 := EV.ext X00.2
  obtain ⟨T3, h3, X3, e3, E3, A3, Ex3, st3⟩ := cloneH X2 hx hZ hown (Wd42 hw) (Wd43 hw) (Wd47 hw) (Wd45 hw) (Wd46 hw) (Wd48 hw) e2 (Arv.arh f4) f5 (g := (fr_vals m  3  [(.ref A)])) rfl (by rw [hml]; rfl) rfl (hb hby d8_3) (by decide) (W := 0) (by show 2 * 0 + _ ≤ _; exact Nat.le_of_eq rfl) (by decide) (cap := 3) (by decide) (by decide) (by decide)
  obtain ⟨b3, g3⟩ : ∃ z, z = h0.size := ⟨_, rfl⟩
  rw [← g3] at A3 Ex3 st3
  have g6 : n0 ≤ b3 := Nat.le_trans Z0 (Nat.le_of_eq g3.symm)
  have z7 : h0.size ≤ b3 := Nat.le_trans (Keep.refl h0 []).1 (Nat.le_of_eq g3.symm)
  have V3 : Arv Z h3 b3 kA (.object "com/example/quayside/quayside/model/OrderStatus") (3 : Int32) [(.ref P0), (.ref P1), (.ref P2)] .null := A3
  refine ownBy st3 ?_
  clear st3
  show ownG p.tables e below _ (T3.setTop (fr_vals m  6  [(.ref b3)]))
  obtain ⟨T8, X8, e8, st8⟩ := castY X3 hx hZ hown (Wd52 hw) e3 (Ins.self Ex3) (g := (fr_vals m  6  [(.ref b3)])) rfl rfl (hb hby d8_6)
  refine ownBy st8 ?_
  clear st8
  show ownG p.tables e below _ (T8.setTop (fr_vals m  9  [(.ref b3)]))
  have f9 := ((Keep.refl h0 []).ext E3)
  refine ownRet X8 Bd.notSynchronized (v := some (.ref b3)) (fun h => by rw [Bd.returns] at h; cases h) ?_ (Nat.le_of_ble_eq_true rfl) (Nat.le_of_ble_eq_true rfl) (fun fs hr => retOut X8 hx Bd.returns rfl (Or.inr (Or.inr (Or.inr (Or.inr ⟨rfl, rfl, rfl⟩)))) (hb hby d8_9) hr)
  show (Q_vals Z A kA P0 P1 P2 h0 n0) (some (.ref b3)) T8.heap _
  rw [e8]
  exact ⟨b3, rfl, N0, f9, z7, V3⟩
def Q_gword (Z : State) (a1 : Addr) (u : Value) (h0 : Heap) (n0 : Nat) (v : Option Value) (h : Heap) (L : List Loc) : Prop := v = some u ∧ Fr n0 L ∧ h = h0
theorem ef_gword (m : MethodId) (x0 : Addr)  : entryFrame m #[(.ref x0)] 1 = mkF m 0 #[.val (.ref x0)] [] := by first | (simp [entryFrame, mkF, argsToLocals, Value.category]; done) | rfl
set_option maxRecDepth 65536 in
set_option maxHeartbeats 40000000 in
theorem c_gword (l : Launch) (Z : State) (a0 : Array Value) (hw : ∀ d ∈ tables_1, d.before a0 Z = true) (ws : List Jvm.Cond) (a1 : Addr) (u : Value) (h0 : Heap) (n0 : Nat) (Z0 : n0 ≤ h0.size) (F1 : Fld Z h0 a1 "com/example/quayside/quayside/model/OrderStatus" "word" "Ljava/lang/String;" u) (hu : u.isRef = true) :
    MetFree l (⟨"com/example/quayside/quayside/model/OrderStatus", "getWord", "()Ljava/lang/String;"⟩ : MethodName) (head1 (Jvm.Cond.code (⟨"com/example/quayside/quayside/model/OrderStatus", "getWord", "()Ljava/lang/String;"⟩ : MethodName) prog_22_method_4_code 1 (some (.object "java/lang/String")) :: ws) ({ frames := 0, cells := 0, slots := 0, locals := 0 } : Room)) (fun a U => a = #[(.ref a1)] ∧ Z.Warmed39 U.vm ∧ U.heap = h0) (fun _ _ _ _ _ => True) (fun _ U o U' => ∃ v L, o = .returned v ∧ (Q_gword Z a1 u h0 n0) v U'.heap L ∧ FrameEnd U o U' L ({ frames := 0, cells := 0, slots := 0, locals := 0 } : Room).cells ({ frames := 0, cells := 0, slots := 0, locals := 0 } : Room).slots) := by
  refine MetFree.of_bodySF (plainFor_of_name pn_1) hisR ?_
  intro p e s m args below meth c s₁ Bd hml0 hP hK
  obtain ⟨rfl, hZ, hh⟩ := hP
  have hx := Bd.exec
  have hby := Bd.bytes
  have hml : c.maxLocals = 1 := hml0
  have hown : s.vm.findClass "com/example/quayside/quayside/model/OrderStatus" = some m.cls := findClass_of_methodNamed Bd.named
  have hnm := (name_of_methodNamed Bd.named Bd.method).1
  have X0 : Stand p l e ({ frames := 0, cells := 0, slots := 0, locals := 0 } : Room) s m #[(.ref a1)] below meth c s₁ [] 0 0 := Stand.of_body Bd
  have e0 : s₁.heap = h0 := by rw [← hh, Bd.state]; rfl
  have N0 := Fr.nil n0
  refine ownOut (P := (Q_gword Z a1 u h0 n0)) ?_
  refine ownBy (A := s₁.setTop (mkF m 0 #[.val (.ref a1)] [])) (fun t k => castTop (ef_gword m a1) k) ?_
  refine ownBy (A := s₁.setTop (mkF m 1 #[.val (.ref a1)] [(.ref a1)])) (fun t kt => ?_) ?_
  · refine XS.aloadN X0.here hx rfl (hb hby d11_0) rfl rfl ?_
    exact kt
  refine own_getF X0 hx hZ hown (host := "") (Or.inl (Wd54 hw)) Via.refl e0 F1 (hb hby d11_1) (fun T10 X10 e10 => ?_)
  refine ownRet X10 Bd.notSynchronized (v := some u) (fun h => by rw [Bd.returns] at h; cases h) ?_ (Nat.le_of_ble_eq_true rfl) (Nat.le_of_ble_eq_true rfl) (fun fs hr => retOut X10 hx Bd.returns (own_narrow rfl hu) (Or.inr (Or.inr (Or.inr (Or.inr ⟨rfl, rfl, hu⟩)))) (hb hby d11_4) hr)
  show (Q_gword Z a1 u h0 n0) (some u) T10.heap _
  rw [e10]
  exact ⟨rfl, N0, rfl⟩
abbrev fr_of0 (m : MethodId) (a1 : Addr) (pc : Nat) (x1_ x2_ x3_ x4_ : Slot) (st : List Value) : JFrame := mkF m pc #[.val (.ref a1), x1_, x2_, x3_, x4_] st
def Q_of0 (Z : State) (a1 : Addr) (t1 : Addr) (kb9 : ClassId) (A : Addr) (kA : ClassId) (P0 : Addr) (P1 : Addr) (P2 : Addr) (W0 : Addr) (W1 : Addr) (W2 : Addr) (B0 : Addr) (B1 : Addr) (B2 : Addr) (kb0 : ClassId) (kb1 : ClassId) (kb2 : ClassId) (G1 : Int32) (h0 : Heap) (n0 : Nat) (v : Option Value) (h : Heap) (L : List Loc) : Prop := v = some (.ref P0) ∧ Fr n0 L ∧ Keep h0 h []
theorem ef_of0 (m : MethodId) (x0 : Addr)  : entryFrame m #[(.ref x0)] 5 = mkF m 0 #[.val (.ref x0), .unset, .unset, .unset, .unset] [] := by first | (simp [entryFrame, mkF, argsToLocals, Value.category]; done) | rfl
set_option maxRecDepth 65536 in
set_option maxHeartbeats 40000000 in
theorem c_of0 (l : Launch) (Z : State) (a0 : Array Value) (hw : ∀ d ∈ tables_1, d.before a0 Z = true) (ws : List Jvm.Cond) (a1 : Addr) (t1 : Addr) (kb9 : ClassId) (A : Addr) (kA : ClassId) (P0 : Addr) (P1 : Addr) (P2 : Addr) (W0 : Addr) (W1 : Addr) (W2 : Addr) (B0 : Addr) (B1 : Addr) (B2 : Addr) (kb0 : ClassId) (kb1 : ClassId) (kb2 : ClassId) (G1 : Int32) (h0 : Heap) (n0 : Nat) (Z0 : n0 ≤ h0.size) (Es : Exa Z h0 a1 "java/lang/String") (Vs : Fld Z h0 a1 "java/lang/String" "value" "[B" (.ref t1)) (Cs : Fld Z h0 a1 "java/lang/String" "coder" "B" (.int (0 : Int32))) (Ks : Arv Z h0 t1 kb9 .byte (7 : Int32) ((([(80 : Int32), (101 : Int32), (110 : Int32), (100 : Int32), (105 : Int32), (110 : Int32), (103 : Int32)] : List Int32).map (fun c => c.toInt8.toInt32)).map Value.int) (.int (0 : Int32))) (hp : ∀ c ∈ ([(80 : Int32), (101 : Int32), (110 : Int32), (100 : Int32), (105 : Int32), (110 : Int32), (103 : Int32)] : List Int32), ¬ c < 0 ∧ ¬ (255 : Int32) < c) (SV : Sta Z Z.heap "com/example/quayside/quayside/model/OrderStatus" "$VALUES" "[Lcom/example/quayside/quayside/model/OrderStatus;" (.ref A)) (KV : Arv Z Z.heap A kA (.object "com/example/quayside/quayside/model/OrderStatus") (3 : Int32) [(.ref P0), (.ref P1), (.ref P2)] .null) (EV : Exa Z Z.heap A "[Lcom/example/quayside/quayside/model/OrderStatus;") (EP0 : Exa Z Z.heap P0 "com/example/quayside/quayside/model/OrderStatus") (FP0 : Fld Z Z.heap P0 "com/example/quayside/quayside/model/OrderStatus" "word" "Ljava/lang/String;" (.ref W0)) (EW0 : Exa Z Z.heap W0 "java/lang/String") (FV0 : Fld Z Z.heap W0 "java/lang/String" "value" "[B" (.ref B0)) (FC0 : Fld Z Z.heap W0 "java/lang/String" "coder" "B" (.int (0 : Int32))) (KB0 : Arv Z Z.heap B0 kb0 .byte (7 : Int32) ((([(80 : Int32), (101 : Int32), (110 : Int32), (100 : Int32), (105 : Int32), (110 : Int32), (103 : Int32)] : List Int32).map (fun c => c.toInt8.toInt32)).map Value.int) (.int (0 : Int32))) (EP1 : Exa Z Z.heap P1 "com/example/quayside/quayside/model/OrderStatus") (FP1 : Fld Z Z.heap P1 "com/example/quayside/quayside/model/OrderStatus" "word" "Ljava/lang/String;" (.ref W1)) (EW1 : Exa Z Z.heap W1 "java/lang/String") (FV1 : Fld Z Z.heap W1 "java/lang/String" "value" "[B" (.ref B1)) (FC1 : Fld Z Z.heap W1 "java/lang/String" "coder" "B" (.int (0 : Int32))) (KB1 : Arv Z Z.heap B1 kb1 .byte (18 : Int32) ((([(82 : Int32), (101 : Int32), (97 : Int32), (100 : Int32), (121 : Int32), (32 : Int32), (102 : Int32), (111 : Int32), (114 : Int32), (32 : Int32), (83 : Int32), (104 : Int32), (105 : Int32), (112 : Int32), (112 : Int32), (105 : Int32), (110 : Int32), (103 : Int32)] : List Int32).map (fun c => c.toInt8.toInt32)).map Value.int) (.int (0 : Int32))) (EP2 : Exa Z Z.heap P2 "com/example/quayside/quayside/model/OrderStatus") (FP2 : Fld Z Z.heap P2 "com/example/quayside/quayside/model/OrderStatus" "word" "Ljava/lang/String;" (.ref W2)) (EW2 : Exa Z Z.heap W2 "java/lang/String") (FV2 : Fld Z Z.heap W2 "java/lang/String" "value" "[B" (.ref B2)) (FC2 : Fld Z Z.heap W2 "java/lang/String" "coder" "B" (.int (0 : Int32))) (KB2 : Arv Z Z.heap B2 kb2 .byte (7 : Int32) ((([(83 : Int32), (104 : Int32), (105 : Int32), (112 : Int32), (112 : Int32), (101 : Int32), (100 : Int32)] : List Int32).map (fun c => c.toInt8.toInt32)).map Value.int) (.int (0 : Int32))) (O2 : Sta Z Z.heap "java/lang/String" "COMPACT_STRINGS" "Z" (.int G1)) (P5 : ¬ (G1 = (0 : Int32))) (X00 : Old Z n0 h0) :
    MetFree l (⟨"com/example/quayside/quayside/model/OrderStatus", "ofWord", "(Ljava/lang/String;)Lcom/example/quayside/quayside/model/OrderStatus;"⟩ : MethodName) (head1 (Jvm.Cond.code (⟨"com/example/quayside/quayside/model/OrderStatus", "ofWord", "(Ljava/lang/String;)Lcom/example/quayside/quayside/model/OrderStatus;"⟩ : MethodName) prog_22_method_5_code 5 (some (.object "com/example/quayside/quayside/model/OrderStatus")) :: ws) ({ frames := 2, cells := 1, slots := 3, locals := 28 } : Room)) (fun a U => a = #[(.ref a1)] ∧ Z.Warmed39 U.vm ∧ U.heap = h0) (fun _ _ _ _ _ => True) (fun _ U o U' => ∃ v L, o = .returned v ∧ (Q_of0 Z a1 t1 kb9 A kA P0 P1 P2 W0 W1 W2 B0 B1 B2 kb0 kb1 kb2 G1 h0 n0) v U'.heap L ∧ FrameEnd U o U' L ({ frames := 2, cells := 1, slots := 3, locals := 28 } : Room).cells ({ frames := 2, cells := 1, slots := 3, locals := 28 } : Room).slots) := by
  refine MetFree.of_bodySF (plainFor_of_name pn_1) hisR ?_
  intro p e s m args below meth c s₁ Bd hml0 hP hK
  obtain ⟨rfl, hZ, hh⟩ := hP
  have hx := Bd.exec
  have hby := Bd.bytes
  have hml : c.maxLocals = 5 := hml0
  have hown : s.vm.findClass "com/example/quayside/quayside/model/OrderStatus" = some m.cls := findClass_of_methodNamed Bd.named
  have hnm := (name_of_methodNamed Bd.named Bd.method).1
  have X0 : Stand p l e ({ frames := 2, cells := 1, slots := 3, locals := 28 } : Room) s m #[(.ref a1)] below meth c s₁ [] 0 0 := Stand.of_body Bd
  have e0 : s₁.heap = h0 := by rw [← hh, Bd.state]; rfl
  have N0 := Fr.nil n0
  refine ownOut (P := (Q_of0 Z a1 t1 kb9 A kA P0 P1 P2 W0 W1 W2 B0 B1 B2 kb0 kb1 kb2 G1 h0 n0)) ?_
  refine ownBy (A := s₁.setTop (mkF m 0 #[.val (.ref a1), .unset, .unset, .unset, .unset] [])) (fun t k => castTop (ef_of0 m a1) k) ?_
  have heq : ∀ d ∈ StrChars.Road.wordsEq, d.before a0 Z = true := fun d hd => hw d ((by decide +kernel : ∀ d ∈ StrChars.Road.wordsEq, d ∈ tables_1) d hd)
  have hpw0 : ∀ c ∈ ([(80 : Int32), (101 : Int32), (110 : Int32), (100 : Int32), (105 : Int32), (110 : Int32), (103 : Int32)] : List Int32), ¬ c < 0 ∧ ¬ (255 : Int32) < c := by decide +kernel
  have hpw1 : ∀ c ∈ ([(82 : Int32), (101 : Int32), (97 : Int32), (100 : Int32), (121 : Int32), (32 : Int32), (102 : Int32), (111 : Int32), (114 : Int32), (32 : Int32), (83 : Int32), (104 : Int32), (105 : Int32), (112 : Int32), (112 : Int32), (105 : Int32), (110 : Int32), (103 : Int32)] : List Int32), ¬ c < 0 ∧ ¬ (255 : Int32) < c := by decide +kernel
  have hpw2 : ∀ c ∈ ([(83 : Int32), (104 : Int32), (105 : Int32), (112 : Int32), (112 : Int32), (101 : Int32), (100 : Int32)] : List Int32), ¬ c < 0 ∧ ¬ (255 : Int32) < c := by decide +kernel
  obtain ⟨vv11, _, ⟨T11, L11, k11, n11⟩, -, X11, ⟨Lc11, hQ11, l11, y11, z11⟩, st11⟩ := Jvm.LawKit.callS X0 hx (y := (⟨"com/example/quayside/quayside/model/OrderStatus", "values", "()[Lcom/example/quayside/quayside/model/OrderStatus;"⟩ : MethodName)) hown (mvT hZ (Wd37 hw)) (mvT hZ (Wd38 hw)) (mvT hZ (Wd2 hw)) (mvT hZ (Wd39 hw)) (by decide) (backOf (W := 0) (c_vals l Z a0 hw [] A kA P0 P1 P2 h0 n0 Z0 SV KV EV X00) hZ (Wd39 hw) (Wd2 hw) (by decide) (by decide)) (g := (fr_of0 m a1 0 .unset .unset .unset .unset [])) rfl (by rw [hml]; rfl) (argsL := []) (rest := []) (lenOf pd_12 rfl) rfl (by show 2 * 0 + _ ≤ _; exact Nat.le_of_eq rfl) (hb hby d7_0) (fun _ _ => ⟨rfl, e0, (by decide : 0 + 1 ≤ _), (by decide : 0 + 3 ≤ _)⟩)
  dsimp only [Pt.U, Pt.locs, Pt.cells, Pt.slots] at X11 l11 y11 z11 st11 hQ11
  subst l11 y11 z11
  obtain ⟨x11, rfl, Nq11, Kq11, zq11, Aq11⟩ := hQ11
  have ne13 : a1 ≠ x11 := Nat.ne_of_lt (Nat.lt_of_lt_of_le Es.lt zq11)
  have ne14 : t1 ≠ x11 := Nat.ne_of_lt (Nat.lt_of_lt_of_le Ks.lt zq11)
  have g15 : n0 ≤ x11 := Nat.le_trans Z0 zq11
  have z16 : h0.size ≤ x11 := Nat.le_trans (Keep.refl h0 []).1 zq11
  have N17 := Fr.app N0 Nq11
  obtain ⟨Lh18, Xh18, Nh18⟩ := own_hide (cells' := 1) (slots' := 3) X11 N17 (Nat.le_of_ble_eq_true rfl) (Nat.le_of_ble_eq_true rfl)
  refine ownBy st11 ?_
  clear st11
  show ownG p.tables e below _ (T11.setTop (fr_of0 m a1 3 .unset .unset .unset .unset [(.ref x11)]))
  refine ownBy (A := T11.setTop (fr_of0 m a1 5 (.val (.ref x11)) .unset .unset .unset [(.ref x11)])) (fun t kt => ?_) ?_
  · refine XS.astoreN Xh18.here hx rfl (hb hby d7_3) rfl rfl (l' := #[.val (.ref a1), .val (.ref x11), .unset, .unset, .unset]) rfl ?_
    show Steps p.tables e below (T11.setTop (fr_of0 m a1 4 (.val (.ref x11)) .unset .unset .unset [])) t
    refine XS.aloadN Xh18.here hx rfl (hb hby d7_4) rfl rfl ?_
    exact kt
  obtain ⟨cl19, Ar19, -, S19, N19, -, -⟩ := id Aq11
  have st19 := Xh18.arraylength hx Ar19.1 (State.isArrayOf_alike hZ.alike Ar19.2.1) (g := (fr_of0 m a1 5 (.val (.ref x11)) .unset .unset .unset [(.ref x11)])) rfl rfl (hb hby d7_5)
  rw [len_of S19 N19] at st19
  refine ownBy st19 ?_
  show ownG p.tables e below _ (T11.setTop (fr_of0 m a1 6 (.val (.ref x11)) .unset .unset .unset [(.int (3 : Int32))]))
  refine ownBy (A := T11.setTop (fr_of0 m a1 16 (.val (.ref x11)) (.val (.int (3 : Int32))) (.val (.int (0 : Int32))) .unset [(.int (0 : Int32)), (.ref x11)])) (fun t kt => ?_) ?_
  · refine XS.istoreN Xh18.here hx rfl (hb hby d7_6) rfl (l' := #[.val (.ref a1), .val (.ref x11), .val (.int (3 : Int32)), .unset, .unset]) rfl ?_
    show Steps p.tables e below (T11.setTop (fr_of0 m a1 7 (.val (.ref x11)) (.val (.int (3 : Int32))) .unset .unset [])) t
    refine XS.iconst Xh18.here hx rfl (hb hby d7_7) ?_
    show Steps p.tables e below (T11.setTop (fr_of0 m a1 8 (.val (.ref x11)) (.val (.int (3 : Int32))) .unset .unset [(.int (0 : Int32))])) t
    refine XS.istoreN Xh18.here hx rfl (hb hby d7_8) rfl (l' := #[.val (.ref a1), .val (.ref x11), .val (.int (3 : Int32)), .val (.int (0 : Int32)), .unset]) rfl ?_
    show Steps p.tables e below (T11.setTop (fr_of0 m a1 9 (.val (.ref x11)) (.val (.int (3 : Int32))) (.val (.int (0 : Int32))) .unset [])) t
    refine XS.iloadN Xh18.here hx rfl (hb hby d7_9) rfl ?_
    show Steps p.tables e below (T11.setTop (fr_of0 m a1 10 (.val (.ref x11)) (.val (.int (3 : Int32))) (.val (.int (0 : Int32))) .unset [(.int (0 : Int32))])) t
    refine XS.iloadN Xh18.here hx rfl (hb hby d7_10) rfl ?_
    show Steps p.tables e below (T11.setTop (fr_of0 m a1 11 (.val (.ref x11)) (.val (.int (3 : Int32))) (.val (.int (0 : Int32))) .unset [(.int (3 : Int32)), (.int (0 : Int32))])) t
    refine XS.icmpNo Xh18.here hx rfl (hb hby d7_11) rfl (tlt ((by decide) : (0 : Int32) < (3 : Int32))).2.1 ?_
    show Steps p.tables e below (T11.setTop (fr_of0 m a1 14 (.val (.ref x11)) (.val (.int (3 : Int32))) (.val (.int (0 : Int32))) .unset [])) t
    refine XS.aloadN Xh18.here hx rfl (hb hby d7_14) rfl rfl ?_
    show Steps p.tables e below (T11.setTop (fr_of0 m a1 15 (.val (.ref x11)) (.val (.int (3 : Int32))) (.val (.int (0 : Int32))) .unset [(.ref x11)])) t
    refine XS.iloadN Xh18.here hx rfl (hb hby d7_15) rfl ?_
    exact kt
  obtain ⟨cl20, Ar20, q20, S20, N20, H20, G20⟩ := id Aq11
  have hin20 : ¬ ((0 : Int32) < 0 ∨ cl20.slots.size ≤ ((0 : Int32)).toNatClampNeg) := inb_of S20 ⟨by decide, by decide⟩
  have hat20 : cl20.slots[((0 : Int32)).toNatClampNeg]? = some (.ref P0) := H20.at hin20 rfl
  have st20 := Xh18.aaload hx (j := (0 : Int32)) (v := (.ref P0)) Ar20.1 (State.isArrayOf_alike hZ.alike Ar20.2.1) rfl Ar20.2.2 hin20 hat20 (g := (fr_of0 m a1 16 (.val (.ref x11)) (.val (.int (3 : Int32))) (.val (.int (0 : Int32))) .unset [(.int (0 : Int32)), (.ref x11)])) rfl rfl (hb hby d7_16)
  refine ownBy st20 ?_
  show ownG p.tables e below _ (T11.setTop (fr_of0 m a1 17 (.val (.ref x11)) (.val (.int (3 : Int32))) (.val (.int (0 : Int32))) .unset [(.ref P0)]))
  refine ownBy (A := T11.setTop (fr_of0 m a1 21 (.val (.ref x11)) (.val (.int (3 : Int32))) (.val (.int (0 : Int32))) (.val (.ref P0)) [(.ref P0)])) (fun t kt => ?_) ?_
  · refine XS.astore Xh18.here hx rfl (hb hby d7_17) rfl rfl (l' := #[.val (.ref a1), .val (.ref x11), .val (.int (3 : Int32)), .val (.int (0 : Int32)), .val (.ref P0)]) rfl ?_
    show Steps p.tables e below (T11.setTop (fr_of0 m a1 19 (.val (.ref x11)) (.val (.int (3 : Int32))) (.val (.int (0 : Int32))) (.val (.ref P0)) [])) t
    refine XS.aload Xh18.here hx rfl (hb hby d7_19) rfl rfl ?_
    exact kt
  have f22 := (X00.keep Kq11 all0)
  have f23 := FP0.ext f22.2
  refine own_getF Xh18 hx hZ hown (host := "") (Or.inl (Wd54 hw)) Via.refl rfl f23 (hb hby d7_21) (fun T21 X21 e21 => ?_)
  refine ownBy (A := T21.setTop (fr_of0 m a1 25 (.val (.ref x11)) (.val (.int (3 : Int32))) (.val (.int (0 : Int32))) (.val (.ref P0)) [(.ref a1), (.ref W0)])) (fun t kt => ?_) ?_
  · refine XS.aloadN X21.here hx rfl (hb hby d7_24) rfl rfl ?_
    exact kt
  have hcd24 : StrChars.Road.CodA ([(80 : Int32), (101 : Int32), (110 : Int32), (100 : Int32), (105 : Int32), (110 : Int32), (103 : Int32)] : List Int32) 0 (7 : Int32) ((([(80 : Int32), (101 : Int32), (110 : Int32), (100 : Int32), (105 : Int32), (110 : Int32), (103 : Int32)] : List Int32).map (fun c => c.toInt8.toInt32)).map Value.int) := StrChars.Road.codOf (n := 7) rfl (fun x hx => (hpw0 x hx).2)
  have hbd24 : ∀ x ∈ ([(80 : Int32), (101 : Int32), (110 : Int32), (100 : Int32), (105 : Int32), (110 : Int32), (103 : Int32)] : List Int32), ¬ x < 0 ∧ ¬ (65535 : Int32) < x := own_up _ hpw0
  have f25 := EW0.ext f22.2
  have f26 := FV0.ext f22.2
  have f27 := FC0.ext f22.2
  have f28 := KB0.ext f22.2
  have hcd29 : StrChars.Road.CodA ([(80 : Int32), (101 : Int32), (110 : Int32), (100 : Int32), (105 : Int32), (110 : Int32), (103 : Int32)] : List Int32) 0 (7 : Int32) ((([(80 : Int32), (101 : Int32), (110 : Int32), (100 : Int32), (105 : Int32), (110 : Int32), (103 : Int32)] : List Int32).map (fun c => c.toInt8.toInt32)).map Value.int) := StrChars.Road.codOf (n := 7) rfl (fun x hx => (hp x hx).2)
  have hbd29 : ∀ x ∈ ([(80 : Int32), (101 : Int32), (110 : Int32), (100 : Int32), (105 : Int32), (110 : Int32), (103 : Int32)] : List Int32), ¬ x < 0 ∧ ¬ (65535 : Int32) < x := own_up _ hp
  have f30 := (Es.keep Kq11)
  have f31 := (Vs.keep Kq11 nin0)
  have f32 := (Cs.keep Kq11 nin0)
  have f33 := (Ks.keep Kq11 nin0)
  obtain ⟨cq34, kq34, q34a, q34b, q34c⟩ := isOf hZ e21 f25
  obtain ⟨vv34, _, ⟨T34, L34, k34, n34⟩, -, X34, ⟨Lc34, hQ34, l34, y34, z34⟩, st34⟩ := X21.virtualBack hx (y := (⟨"java/lang/String", "equals", "(Ljava/lang/Object;)Z"⟩ : MethodName)) (z := (⟨"java/lang/String", "equals", "(Ljava/lang/Object;)Z"⟩ : MethodName)) hown (mvT hZ (Wd56 hw)) (mvT hZ (Wd57 hw)) (notFace_of_selects (args := #[]) (mvT hZ (Wd59 hw))) (mvT hZ (Wd59 hw)) (mvT hZ (Wd58 hw)) (by decide) (StrChars.Road.eqW (W := 0) hZ heq (kI := 4) (Wd6 hw) f25 f26 f27 f28 hcd24 hbd24 (Nat.le_of_ble_eq_true rfl) f30 f31 f32 f33 hcd29 hbd29 (Nat.le_of_ble_eq_true rfl) (O2.ext f22.2) P5 (by decide) (by decide)) q34a q34c (g := (fr_of0 m a1 25 (.val (.ref x11)) (.val (.int (3 : Int32))) (.val (.int (0 : Int32))) (.val (.ref P0)) [(.ref a1), (.ref W0)])) rfl (by rw [hml]; rfl) (Steps.refl _) (argsL := [(.ref a1)]) (rest := []) (lenOf pd_35 rfl) rfl (by show 2 * 0 + _ ≤ _; exact Nat.le_of_eq rfl) (hb hby d7_25) (fun _ _ => ⟨rfl, e21, (by decide : 1 + 0 ≤ _), (by decide : 3 + 0 ≤ _)⟩)
  dsimp only [Pt.U, Pt.locs, Pt.cells, Pt.slots] at X34 l34 y34 z34 st34 hQ34
  subst l34 y34 z34
  obtain ⟨hE34, rfl, Eq34⟩ := hQ34
  have Nq34 : Fr n0 ([] : List Loc) := Fr.nil n0
  obtain rfl : vv34 = some (.int 1) := hE34.elim (fun q => q.1) (fun q => absurd rfl q.2)
  have N36 := Fr.app Nh18 Nq34
  obtain ⟨Lh37, Xh37, Nh37⟩ := own_hide (cells' := 1) (slots' := 3) X34 N36 (Nat.le_of_ble_eq_true rfl) (Nat.le_of_ble_eq_true rfl)
  refine ownSt st34 ?_
  clear st34
  show ownG p.tables e below _ (T34.setTop (fr_of0 m a1 28 (.val (.ref x11)) (.val (.int (3 : Int32))) (.val (.int (0 : Int32))) (.val (.ref P0)) [(.int (1 : Int32))]))
  refine ownBy (A := T34.setTop (fr_of0 m a1 33 (.val (.ref x11)) (.val (.int (3 : Int32))) (.val (.int (0 : Int32))) (.val (.ref P0)) [(.ref P0)])) (fun t kt => ?_) ?_
  · refine XS.ifNo Xh37.here hx rfl (hb hby d7_28) rfl ((if0 _ _).trans (feq ((by decide) : ¬ ((1 : Int32) = (0 : Int32)))).1) ?_
    show Steps p.tables e below (T34.setTop (fr_of0 m a1 31 (.val (.ref x11)) (.val (.int (3 : Int32))) (.val (.int (0 : Int32))) (.val (.ref P0)) [])) t
    refine XS.aload Xh37.here hx rfl (hb hby d7_31) rfl rfl ?_
    exact kt
  have f38 := ((Keep.refl h0 []).trans Kq11 all0)
  refine ownRet Xh37 Bd.notSynchronized (v := some (.ref P0)) (fun h => by rw [Bd.returns] at h; cases h) ?_ (Nat.le_of_ble_eq_true rfl) (Nat.le_of_ble_eq_true rfl) (fun fs hr => retOut Xh37 hx Bd.returns rfl (Or.inr (Or.inr (Or.inr (Or.inr ⟨rfl, rfl, rfl⟩)))) (hb hby d7_33) hr)
  show (Q_of0 Z a1 t1 kb9 A kA P0 P1 P2 W0 W1 W2 B0 B1 B2 kb0 kb1 kb2 G1 h0 n0) (some (.ref P0)) T34.heap _
  rw [Eq34]
  exact ⟨rfl, Nh37, f38⟩
abbrev fr_of1 (m : MethodId) (a1 : Addr) (pc : Nat) (x1_ x2_ x3_ x4_ : Slot) (st : List Value) : JFrame := mkF m pc #[.val (.ref a1), x1_, x2_, x3_, x4_] st
def Q_of1 (Z : State) (a1 : Addr) (t1 : Addr) (kb9 : ClassId) (A : Addr) (kA : ClassId) (P0 : Addr) (P1 : Addr) (P2 : Addr) (W0 : Addr) (W1 : Addr) (W2 : Addr) (B0 : Addr) (B1 : Addr) (B2 : Addr) (kb0 : ClassId) (kb1 : ClassId) (kb2 : ClassId) (G1 : Int32) (h0 : Heap) (n0 : Nat) (v : Option Value) (h : Heap) (L : List Loc) : Prop := v = some (.ref P1) ∧ Fr n0 L ∧ Keep h0 h []
theorem ef_of1 (m : MethodId) (x0 : Addr)  : entryFrame m #[(.ref x0)] 5 = mkF m 0 #[.val (.ref x0), .unset, .unset, .unset, .unset] [] := by first | (simp [entryFrame, mkF, argsToLocals, Value.category]; done) | rfl
set_option maxRecDepth 65536 in
set_option maxHeartbeats 40000000 in
theorem c_of1 (l : Launch) (Z : State) (a0 : Array Value) (hw : ∀ d ∈ tables_1, d.before a0 Z = true) (ws : List Jvm.Cond) (a1 : Addr) (t1 : Addr) (kb9 : ClassId) (A : Addr) (kA : ClassId) (P0 : Addr) (P1 : Addr) (P2 : Addr) (W0 : Addr) (W1 : Addr) (W2 : Addr) (B0 : Addr) (B1 : Addr) (B2 : Addr) (kb0 : ClassId) (kb1 : ClassId) (kb2 : ClassId) (G1 : Int32) (h0 : Heap) (n0 : Nat) (Z0 : n0 ≤ h0.size) (Es : Exa Z h0 a1 "java/lang/String") (Vs : Fld Z h0 a1 "java/lang/String" "value" "[B" (.ref t1)) (Cs : Fld Z h0 a1 "java/lang/String" "coder" "B" (.int (0 : Int32))) (Ks : Arv Z h0 t1 kb9 .byte (18 : Int32) ((([(82 : Int32), (101 : Int32), (97 : Int32), (100 : Int32), (121 : Int32), (32 : Int32), (102 : Int32), (111 : Int32), (114 : Int32), (32 : Int32), (83 : Int32), (104 : Int32), (105 : Int32), (112 : Int32), (112 : Int32), (105 : Int32), (110 : Int32), (103 : Int32)] : List Int32).map (fun c => c.toInt8.toInt32)).map Value.int) (.int (0 : Int32))) (hp : ∀ c ∈ ([(82 : Int32), (101 : Int32), (97 : Int32), (100 : Int32), (121 : Int32), (32 : Int32), (102 : Int32), (111 : Int32), (114 : Int32), (32 : Int32), (83 : Int32), (104 : Int32), (105 : Int32), (112 : Int32), (112 : Int32), (105 : Int32), (110 : Int32), (103 : Int32)] : List Int32), ¬ c < 0 ∧ ¬ (255 : Int32) < c) (SV : Sta Z Z.heap "com/example/quayside/quayside/model/OrderStatus" "$VALUES" "[Lcom/example/quayside/quayside/model/OrderStatus;" (.ref A)) (KV : Arv Z Z.heap A kA (.object "com/example/quayside/quayside/model/OrderStatus") (3 : Int32) [(.ref P0), (.ref P1), (.ref P2)] .null) (EV : Exa Z Z.heap A "[Lcom/example/quayside/quayside/model/OrderStatus;") (EP0 : Exa Z Z.heap P0 "com/example/quayside/quayside/model/OrderStatus") (FP0 : Fld Z Z.heap P0 "com/example/quayside/quayside/model/OrderStatus" "word" "Ljava/lang/String;" (.ref W0)) (EW0 : Exa Z Z.heap W0 "java/lang/String") (FV0 : Fld Z Z.heap W0 "java/lang/String" "value" "[B" (.ref B0)) (FC0 : Fld Z Z.heap W0 "java/lang/String" "coder" "B" (.int (0 : Int32))) (KB0 : Arv Z Z.heap B0 kb0 .byte (7 : Int32) ((([(80 : Int32), (101 : Int32), (110 : Int32), (100 : Int32), (105 : Int32), (110 : Int32), (103 : Int32)] : List Int32).map (fun c => c.toInt8.toInt32)).map Value.int) (.int (0 : Int32))) (EP1 : Exa Z Z.heap P1 "com/example/quayside/quayside/model/OrderStatus") (FP1 : Fld Z Z.heap P1 "com/example/quayside/quayside/model/OrderStatus" "word" "Ljava/lang/String;" (.ref W1)) (EW1 : Exa Z Z.heap W1 "java/lang/String") (FV1 : Fld Z Z.heap W1 "java/lang/String" "value" "[B" (.ref B1)) (FC1 : Fld Z Z.heap W1 "java/lang/String" "coder" "B" (.int (0 : Int32))) (KB1 : Arv Z Z.heap B1 kb1 .byte (18 : Int32) ((([(82 : Int32), (101 : Int32), (97 : Int32), (100 : Int32), (121 : Int32), (32 : Int32), (102 : Int32), (111 : Int32), (114 : Int32), (32 : Int32), (83 : Int32), (104 : Int32), (105 : Int32), (112 : Int32), (112 : Int32), (105 : Int32), (110 : Int32), (103 : Int32)] : List Int32).map (fun c => c.toInt8.toInt32)).map Value.int) (.int (0 : Int32))) (EP2 : Exa Z Z.heap P2 "com/example/quayside/quayside/model/OrderStatus") (FP2 : Fld Z Z.heap P2 "com/example/quayside/quayside/model/OrderStatus" "word" "Ljava/lang/String;" (.ref W2)) (EW2 : Exa Z Z.heap W2 "java/lang/String") (FV2 : Fld Z Z.heap W2 "java/lang/String" "value" "[B" (.ref B2)) (FC2 : Fld Z Z.heap W2 "java/lang/String" "coder" "B" (.int (0 : Int32))) (KB2 : Arv Z Z.heap B2 kb2 .byte (7 : Int32) ((([(83 : Int32), (104 : Int32), (105 : Int32), (112 : Int32), (112 : Int32), (101 : Int32), (100 : Int32)] : List Int32).map (fun c => c.toInt8.toInt32)).map Value.int) (.int (0 : Int32))) (O2 : Sta Z Z.heap "java/lang/String" "COMPACT_STRINGS" "Z" (.int G1)) (P5 : ¬ (G1 = (0 : Int32))) (X00 : Old Z n0 h0) :
    MetFree l (⟨"com/example/quayside/quayside/model/OrderStatus", "ofWord", "(Ljava/lang/String;)Lcom/example/quayside/quayside/model/OrderStatus;"⟩ : MethodName) (head1 (Jvm.Cond.code (⟨"com/example/quayside/quayside/model/OrderStatus", "ofWord", "(Ljava/lang/String;)Lcom/example/quayside/quayside/model/OrderStatus;"⟩ : MethodName) prog_22_method_5_code 5 (some (.object "com/example/quayside/quayside/model/OrderStatus")) :: ws) ({ frames := 2, cells := 1, slots := 3, locals := 28 } : Room)) (fun a U => a = #[(.ref a1)] ∧ Z.Warmed39 U.vm ∧ U.heap = h0) (fun _ _ _ _ _ => True) (fun _ U o U' => ∃ v L, o = .returned v ∧ (Q_of1 Z a1 t1 kb9 A kA P0 P1 P2 W0 W1 W2 B0 B1 B2 kb0 kb1 kb2 G1 h0 n0) v U'.heap L ∧ FrameEnd U o U' L ({ frames := 2, cells := 1, slots := 3, locals := 28 } : Room).cells ({ frames := 2, cells := 1, slots := 3, locals := 28 } : Room).slots) := by
  refine MetFree.of_bodySF (plainFor_of_name pn_1) hisR ?_
  intro p e s m args below meth c s₁ Bd hml0 hP hK
  obtain ⟨rfl, hZ, hh⟩ := hP
  have hx := Bd.exec
  have hby := Bd.bytes
  have hml : c.maxLocals = 5 := hml0
  have hown : s.vm.findClass "com/example/quayside/quayside/model/OrderStatus" = some m.cls := findClass_of_methodNamed Bd.named
  have hnm := (name_of_methodNamed Bd.named Bd.method).1
  have X0 : Stand p l e ({ frames := 2, cells := 1, slots := 3, locals := 28 } : Room) s m #[(.ref a1)] below meth c s₁ [] 0 0 := Stand.of_body Bd
  have e0 : s₁.heap = h0 := by rw [← hh, Bd.state]; rfl
  have N0 := Fr.nil n0
  refine ownOut (P := (Q_of1 Z a1 t1 kb9 A kA P0 P1 P2 W0 W1 W2 B0 B1 B2 kb0 kb1 kb2 G1 h0 n0)) ?_
  refine ownBy (A := s₁.setTop (mkF m 0 #[.val (.ref a1), .unset, .unset, .unset, .unset] [])) (fun t k => castTop (ef_of1 m a1) k) ?_
  have heq : ∀ d ∈ StrChars.Road.wordsEq, d.before a0 Z = true := fun d hd => hw d ((by decide +kernel : ∀ d ∈ StrChars.Road.wordsEq, d ∈ tables_1) d hd)
  have hpw0 : ∀ c ∈ ([(80 : Int32), (101 : Int32), (110 : Int32), (100 : Int32), (105 : Int32), (110 : Int32), (103 : Int32)] : List Int32), ¬ c < 0 ∧ ¬ (255 : Int32) < c := by decide +kernel
  have hpw1 : ∀ c ∈ ([(82 : Int32), (101 : Int32), (97 : Int32), (100 : Int32), (121 : Int32), (32 : Int32), (102 : Int32), (111 : Int32), (114 : Int32), (32 : Int32), (83 : Int32), (104 : Int32), (105 : Int32), (112 : Int32), (112 : Int32), (105 : Int32), (110 : Int32), (103 : Int32)] : List Int32), ¬ c < 0 ∧ ¬ (255 : Int32) < c := by decide +kernel
  have hpw2 : ∀ c ∈ ([(83 : Int32), (104 : Int32), (105 : Int32), (112 : Int32), (112 : Int32), (101 : Int32), (100 : Int32)] : List Int32), ¬ c < 0 ∧ ¬ (255 : Int32) < c := by decide +kernel
  obtain ⟨vv39, _, ⟨T39, L39, k39, n39⟩, -, X39, ⟨Lc39, hQ39, l39, y39, z39⟩, st39⟩ := Jvm.LawKit.callS X0 hx (y := (⟨"com/example/quayside/quayside/model/OrderStatus", "values", "()[Lcom/example/quayside/quayside/model/OrderStatus;"⟩ : MethodName)) hown (mvT hZ (Wd37 hw)) (mvT hZ (Wd38 hw)) (mvT hZ (Wd2 hw)) (mvT hZ (Wd39 hw)) (by decide) (backOf (W := 0) (c_vals l Z a0 hw [] A kA P0 P1 P2 h0 n0 Z0 SV KV EV X00) hZ (Wd39 hw) (Wd2 hw) (by decide) (by decide)) (g := (fr_of1 m a1 0 .unset .unset .unset .unset [])) rfl (by rw [hml]; rfl) (argsL := []) (rest := []) (lenOf pd_12 rfl) rfl (by show 2 * 0 + _ ≤ _; exact Nat.le_of_eq rfl) (hb hby d7_0) (fun _ _ => ⟨rfl, e0, (by decide : 0 + 1 ≤ _), (by decide : 0 + 3 ≤ _)⟩)
  dsimp only [Pt.U, Pt.locs, Pt.cells, Pt.slots] at X39 l39 y39 z39 st39 hQ39
  subst l39 y39 z39
  obtain ⟨x39, rfl, Nq39, Kq39, zq39, Aq39⟩ := hQ39
  have ne40 : a1 ≠ x39 := Nat.ne_of_lt (Nat.lt_of_lt_of_le Es.lt zq39)
  have ne41 : t1 ≠ x39 := Nat.ne_of_lt (Nat.lt_of_lt_of_le Ks.lt zq39)
  have g42 : n0 ≤ x39 := Nat.le_trans Z0 zq39
  have z43 : h0.size ≤ x39 := Nat.le_trans (Keep.refl h0 []).1 zq39
  have N44 := Fr.app N0 Nq39
  obtain ⟨Lh45, Xh45, Nh45⟩ := own_hide (cells' := 1) (slots' := 3) X39 N44 (Nat.le_of_ble_eq_true rfl) (Nat.le_of_ble_eq_true rfl)
  refine ownBy st39 ?_
  clear st39
  show ownG p.tables e below _ (T39.setTop (fr_of1 m a1 3 .unset .unset .unset .unset [(.ref x39)]))
  refine ownBy (A := T39.setTop (fr_of1 m a1 5 (.val (.ref x39)) .unset .unset .unset [(.ref x39)])) (fun t kt => ?_) ?_
  · refine XS.astoreN Xh45.here hx rfl (hb hby d7_3) rfl rfl (l' := #[.val (.ref a1), .val (.ref x39), .unset, .unset, .unset]) rfl ?_
    show Steps p.tables e below (T39.setTop (fr_of1 m a1 4 (.val (.ref x39)) .unset .unset .unset [])) t
    refine XS.aloadN Xh45.here hx rfl (hb hby d7_4) rfl rfl ?_
    exact kt
  obtain ⟨cl46, Ar46, -, S46, N46, -, -⟩ := id Aq39
  have st46 := Xh45.arraylength hx Ar46.1 (State.isArrayOf_alike hZ.alike Ar46.2.1) (g := (fr_of1 m a1 5 (.val (.ref x39)) .unset .unset .unset [(.ref x39)])) rfl rfl (hb hby d7_5)
  rw [len_of S46 N46] at st46
  refine ownBy st46 ?_
  show ownG p.tables e below _ (T39.setTop (fr_of1 m a1 6 (.val (.ref x39)) .unset .unset .unset [(.int (3 : Int32))]))
  refine ownBy (A := T39.setTop (fr_of1 m a1 16 (.val (.ref x39)) (.val (.int (3 : Int32))) (.val (.int (0 : Int32))) .unset [(.int (0 : Int32)), (.ref x39)])) (fun t kt => ?_) ?_
  · refine XS.istoreN Xh45.here hx rfl (hb hby d7_6) rfl (l' := #[.val (.ref a1), .val (.ref x39), .val (.int (3 : Int32)), .unset, .unset]) rfl ?_
    show Steps p.tables e below (T39.setTop (fr_of1 m a1 7 (.val (.ref x39)) (.val (.int (3 : Int32))) .unset .unset [])) t
    refine XS.iconst Xh45.here hx rfl (hb hby d7_7) ?_
    show Steps p.tables e below (T39.setTop (fr_of1 m a1 8 (.val (.ref x39)) (.val (.int (3 : Int32))) .unset .unset [(.int (0 : Int32))])) t
    refine XS.istoreN Xh45.here hx rfl (hb hby d7_8) rfl (l' := #[.val (.ref a1), .val (.ref x39), .val (.int (3 : Int32)), .val (.int (0 : Int32)), .unset]) rfl ?_
    show Steps p.tables e below (T39.setTop (fr_of1 m a1 9 (.val (.ref x39)) (.val (.int (3 : Int32))) (.val (.int (0 : Int32))) .unset [])) t
    refine XS.iloadN Xh45.here hx rfl (hb hby d7_9) rfl ?_
    show Steps p.tables e below (T39.setTop (fr_of1 m a1 10 (.val (.ref x39)) (.val (.int (3 : Int32))) (.val (.int (0 : Int32))) .unset [(.int (0 : Int32))])) t
    refine XS.iloadN Xh45.here hx rfl (hb hby d7_10) rfl ?_
    show Steps p.tables e below (T39.setTop (fr_of1 m a1 11 (.val (.ref x39)) (.val (.int (3 : Int32))) (.val (.int (0 : Int32))) .unset [(.int (3 : Int32)), (.int (0 : Int32))])) t
    refine XS.icmpNo Xh45.here hx rfl (hb hby d7_11) rfl (tlt ((by decide) : (0 : Int32) < (3 : Int32))).2.1 ?_
    show Steps p.tables e below (T39.setTop (fr_of1 m a1 14 (.val (.ref x39)) (.val (.int (3 : Int32))) (.val (.int (0 : Int32))) .unset [])) t
    refine XS.aloadN Xh45.here hx rfl (hb hby d7_14) rfl rfl ?_
    show Steps p.tables e below (T39.setTop (fr_of1 m a1 15 (.val (.ref x39)) (.val (.int (3 : Int32))) (.val (.int (0 : Int32))) .unset [(.ref x39)])) t
    refine XS.iloadN Xh45.here hx rfl (hb hby d7_15) rfl ?_
    exact kt
  obtain ⟨cl47, Ar47, q47, S47, N47, H47, G47⟩ := id Aq39
  have hin47 : ¬ ((0 : Int32) < 0 ∨ cl47.slots.size ≤ ((0 : Int32)).toNatClampNeg) := inb_of S47 ⟨by decide, by decide⟩
  have hat47 : cl47.slots[((0 : Int32)).toNatClampNeg]? = some (.ref P0) := H47.at hin47 rfl
  have st47 := Xh45.aaload hx (j := (0 : Int32)) (v := (.ref P0)) Ar47.1 (State.isArrayOf_alike hZ.alike Ar47.2.1) rfl Ar47.2.2 hin47 hat47 (g := (fr_of1 m a1 16 (.val (.ref x39)) (.val (.int (3 : Int32))) (.val (.int (0 : Int32))) .unset [(.int (0 : Int32)), (.ref x39)])) rfl rfl (hb hby d7_16)
  refine ownBy st47 ?_
  show ownG p.tables e below _ (T39.setTop (fr_of1 m a1 17 (.val (.ref x39)) (.val (.int (3 : Int32))) (.val (.int (0 : Int32))) .unset [(.ref P0)]))
  refine ownBy (A := T39.setTop (fr_of1 m a1 21 (.val (.ref x39)) (.val (.int (3 : Int32))) (.val (.int (0 : Int32))) (.val (.ref P0)) [(.ref P0)])) (fun t kt => ?_) ?_
  · refine XS.astore Xh45.here hx rfl (hb hby d7_17) rfl rfl (l' := #[.val (.ref a1), .val (.ref x39), .val (.int (3 : Int32)), .val (.int (0 : Int32)), .val (.ref P0)]) rfl ?_
    show Steps p.tables e below (T39.setTop (fr_of1 m a1 19 (.val (.ref x39)) (.val (.int (3 : Int32))) (.val (.int (0 : Int32))) (.val (.ref P0)) [])) t
    refine XS.aload Xh45.here hx rfl (hb hby d7_19) rfl rfl ?_
    exact kt
  have f49 := (X00.keep Kq39 all0)
  have f50 := FP0.ext f49.2
  refine own_getF Xh45 hx hZ hown (host := "") (Or.inl (Wd54 hw)) Via.refl rfl f50 (hb hby d7_21) (fun T48 X48 e48 => ?_)
  refine ownBy (A := T48.setTop (fr_of1 m a1 25 (.val (.ref x39)) (.val (.int (3 : Int32))) (.val (.int (0 : Int32))) (.val (.ref P0)) [(.ref a1), (.ref W0)])) (fun t kt => ?_) ?_
  · refine XS.aloadN X48.here hx rfl (hb hby d7_24) rfl rfl ?_
    exact kt
  have hcd51 : StrChars.Road.CodA ([(80 : Int32), (101 : Int32), (110 : Int32), (100 : Int32), (105 : Int32), (110 : Int32), (103 : Int32)] : List Int32) 0 (7 : Int32) ((([(80 : Int32), (101 : Int32), (110 : Int32), (100 : Int32), (105 : Int32), (110 : Int32), (103 : Int32)] : List Int32).map (fun c => c.toInt8.toInt32)).map Value.int) := StrChars.Road.codOf (n := 7) rfl (fun x hx => (hpw0 x hx).2)
  have hbd51 : ∀ x ∈ ([(80 : Int32), (101 : Int32), (110 : Int32), (100 : Int32), (105 : Int32), (110 : Int32), (103 : Int32)] : List Int32), ¬ x < 0 ∧ ¬ (65535 : Int32) < x := own_up _ hpw0
  have f52 := EW0.ext f49.2
  have f53 := FV0.ext f49.2
  have f54 := FC0.ext f49.2
  have f55 := KB0.ext f49.2
  have hcd56 : StrChars.Road.CodA ([(82 : Int32), (101 : Int32), (97 : Int32), (100 : Int32), (121 : Int32), (32 : Int32), (102 : Int32), (111 : Int32), (114 : Int32), (32 : Int32), (83 : Int32), (104 : Int32), (105 : Int32), (112 : Int32), (112 : Int32), (105 : Int32), (110 : Int32), (103 : Int32)] : List Int32) 0 (18 : Int32) ((([(82 : Int32), (101 : Int32), (97 : Int32), (100 : Int32), (121 : Int32), (32 : Int32), (102 : Int32), (111 : Int32), (114 : Int32), (32 : Int32), (83 : Int32), (104 : Int32), (105 : Int32), (112 : Int32), (112 : Int32), (105 : Int32), (110 : Int32), (103 : Int32)] : List Int32).map (fun c => c.toInt8.toInt32)).map Value.int) := StrChars.Road.codOf (n := 18) rfl (fun x hx => (hp x hx).2)
  have hbd56 : ∀ x ∈ ([(82 : Int32), (101 : Int32), (97 : Int32), (100 : Int32), (121 : Int32), (32 : Int32), (102 : Int32), (111 : Int32), (114 : Int32), (32 : Int32), (83 : Int32), (104 : Int32), (105 : Int32), (112 : Int32), (112 : Int32), (105 : Int32), (110 : Int32), (103 : Int32)] : List Int32), ¬ x < 0 ∧ ¬ (65535 : Int32) < x := own_up _ hp
  have f57 := (Es.keep Kq39)
  have f58 := (Vs.keep Kq39 nin0)
  have f59 := (Cs.keep Kq39 nin0)
  have f60 := (Ks.keep Kq39 nin0)
  obtain ⟨cq61, kq61, q61a, q61b, q61c⟩ := isOf hZ e48 f52
  obtain ⟨vv61, _, ⟨T61, L61, k61, n61⟩, -, X61, ⟨Lc61, hQ61, l61, y61, z61⟩, st61⟩ := X48.virtualBack hx (y := (⟨"java/lang/String", "equals", "(Ljava/lang/Object;)Z"⟩ : MethodName)) (z := (⟨"java/lang/String", "equals", "(Ljava/lang/Object;)Z"⟩ : MethodName)) hown (mvT hZ (Wd56 hw)) (mvT hZ (Wd57 hw)) (notFace_of_selects (args := #[]) (mvT hZ (Wd59 hw))) (mvT hZ (Wd59 hw)) (mvT hZ (Wd58 hw)) (by decide) (StrChars.Road.eqW (W := 0) hZ heq (kI := 4) (Wd6 hw) f52 f53 f54 f55 hcd51 hbd51 (Nat.le_of_ble_eq_true rfl) f57 f58 f59 f60 hcd56 hbd56 (Nat.le_of_ble_eq_true rfl) (O2.ext f49.2) P5 (by decide) (by decide)) q61a q61c (g := (fr_of1 m a1 25 (.val (.ref x39)) (.val (.int (3 : Int32))) (.val (.int (0 : Int32))) (.val (.ref P0)) [(.ref a1), (.ref W0)])) rfl (by rw [hml]; rfl) (Steps.refl _) (argsL := [(.ref a1)]) (rest := []) (lenOf pd_35 rfl) rfl (by show 2 * 0 + _ ≤ _; exact Nat.le_of_eq rfl) (hb hby d7_25) (fun _ _ => ⟨rfl, e48, (by decide : 1 + 0 ≤ _), (by decide : 3 + 0 ≤ _)⟩)
  dsimp only [Pt.U, Pt.locs, Pt.cells, Pt.slots] at X61 l61 y61 z61 st61 hQ61
  subst l61 y61 z61
  obtain ⟨hE61, rfl, Eq61⟩ := hQ61
  have Nq61 : Fr n0 ([] : List Loc) := Fr.nil n0
  obtain rfl : vv61 = some (.int 0) := hE61.elim (fun q => absurd q.2 (by simp)) (fun q => q.1)
  have N62 := Fr.app Nh45 Nq61
  obtain ⟨Lh63, Xh63, Nh63⟩ := own_hide (cells' := 1) (slots' := 3) X61 N62 (Nat.le_of_ble_eq_true rfl) (Nat.le_of_ble_eq_true rfl)
  refine ownSt st61 ?_
  clear st61
  show ownG p.tables e below _ (T61.setTop (fr_of1 m a1 28 (.val (.ref x39)) (.val (.int (3 : Int32))) (.val (.int (0 : Int32))) (.val (.ref P0)) [(.int (0 : Int32))]))
  refine ownBy (A := T61.setTop (fr_of1 m a1 16 (.val (.ref x39)) (.val (.int (3 : Int32))) (.val (.int (1 : Int32))) (.val (.ref P0)) [(.int (1 : Int32)), (.ref x39)])) (fun t kt => ?_) ?_
  · refine XS.ifYes Xh63.here hx rfl (pc0 := 28) (pc' := 34) rfl (hb hby d7_28) rfl ((if0 _ _).trans (teq ((by decide) : (0 : Int32) = (0 : Int32))).1) (by decide) (by decide) ?_
    show Steps p.tables e below (T61.setTop (fr_of1 m a1 34 (.val (.ref x39)) (.val (.int (3 : Int32))) (.val (.int (0 : Int32))) (.val (.ref P0)) [])) t
    refine XS.iinc Xh63.here hx rfl (hb hby d7_34) rfl (l' := #[.val (.ref a1), .val (.ref x39), .val (.int (3 : Int32)), .val (.int (1 : Int32)), .val (.ref P0)]) rfl ?_
    show Steps p.tables e below (T61.setTop (fr_of1 m a1 37 (.val (.ref x39)) (.val (.int (3 : Int32))) (.val (.int (1 : Int32))) (.val (.ref P0)) [])) t
    refine XS.goto Xh63.here hx rfl (pc0 := 37) (pc' := 9) rfl (hb hby d7_37) (by decide) (by decide) ?_
    show Steps p.tables e below (T61.setTop (fr_of1 m a1 9 (.val (.ref x39)) (.val (.int (3 : Int32))) (.val (.int (1 : Int32))) (.val (.ref P0)) [])) t
    refine XS.iloadN Xh63.here hx rfl (hb hby d7_9) rfl ?_
    show Steps p.tables e below (T61.setTop (fr_of1 m a1 10 (.val (.ref x39)) (.val (.int (3 : Int32))) (.val (.int (1 : Int32))) (.val (.ref P0)) [(.int (1 : Int32))])) t
    refine XS.iloadN Xh63.here hx rfl (hb hby d7_10) rfl ?_
    show Steps p.tables e below (T61.setTop (fr_of1 m a1 11 (.val (.ref x39)) (.val (.int (3 : Int32))) (.val (.int (1 : Int32))) (.val (.ref P0)) [(.int (3 : Int32)), (.int (1 : Int32))])) t
    refine XS.icmpNo Xh63.here hx rfl (hb hby d7_11) rfl (tlt ((by decide) : (1 : Int32) < (3 : Int32))).2.1 ?_
    show Steps p.tables e below (T61.setTop (fr_of1 m a1 14 (.val (.ref x39)) (.val (.int (3 : Int32))) (.val (.int (1 : Int32))) (.val (.ref P0)) [])) t
    refine XS.aloadN Xh63.here hx rfl (hb hby d7_14) rfl rfl ?_
    show Steps p.tables e below (T61.setTop (fr_of1 m a1 15 (.val (.ref x39)) (.val (.int (3 : Int32))) (.val (.int (1 : Int32))) (.val (.ref P0)) [(.ref x39)])) t
    refine XS.iloadN Xh63.here hx rfl (hb hby d7_15) rfl ?_
    exact kt
  obtain ⟨cl64, Ar64, q64, S64, N64, H64, G64⟩ := id Aq39
  have hin64 : ¬ ((1 : Int32) < 0 ∨ cl64.slots.size ≤ ((1 : Int32)).toNatClampNeg) := inb_of S64 ⟨by decide, by decide⟩
  have hat64 : cl64.slots[((1 : Int32)).toNatClampNeg]? = some (.ref P1) := H64.at hin64 rfl
  have st64 := Xh63.aaload hx (j := (1 : Int32)) (v := (.ref P1)) (by rw [Eq61]; exact Ar64.1) (State.isArrayOf_alike hZ.alike Ar64.2.1) rfl Ar64.2.2 hin64 hat64 (g := (fr_of1 m a1 16 (.val (.ref x39)) (.val (.int (3 : Int32))) (.val (.int (1 : Int32))) (.val (.ref P0)) [(.int (1 : Int32)), (.ref x39)])) rfl rfl (hb hby d7_16)
  refine ownBy st64 ?_
  show ownG p.tables e below _ (T61.setTop (fr_of1 m a1 17 (.val (.ref x39)) (.val (.int (3 : Int32))) (.val (.int (1 : Int32))) (.val (.ref P0)) [(.ref P1)]))
  refine ownBy (A := T61.setTop (fr_of1 m a1 21 (.val (.ref x39)) (.val (.int (3 : Int32))) (.val (.int (1 : Int32))) (.val (.ref P1)) [(.ref P1)])) (fun t kt => ?_) ?_
  · refine XS.astore Xh63.here hx rfl (hb hby d7_17) rfl rfl (l' := #[.val (.ref a1), .val (.ref x39), .val (.int (3 : Int32)), .val (.int (1 : Int32)), .val (.ref P1)]) rfl ?_
    show Steps p.tables e below (T61.setTop (fr_of1 m a1 19 (.val (.ref x39)) (.val (.int (3 : Int32))) (.val (.int (1 : Int32))) (.val (.ref P1)) [])) t
    refine XS.aload Xh63.here hx rfl (hb hby d7_19) rfl rfl ?_
    exact kt
  have f66 := FP1.ext f49.2
  refine own_getF Xh63 hx hZ hown (host := "") (Or.inl (Wd54 hw)) Via.refl Eq61 f66 (hb hby d7_21) (fun T65 X65 e65 => ?_)
  refine ownBy (A := T65.setTop (fr_of1 m a1 25 (.val (.ref x39)) (.val (.int (3 : Int32))) (.val (.int (1 : Int32))) (.val (.ref P1)) [(.ref a1), (.ref W1)])) (fun t kt => ?_) ?_
  · refine XS.aloadN X65.here hx rfl (hb hby d7_24) rfl rfl ?_
    exact kt
  have hcd67 : StrChars.Road.CodA ([(82 : Int32), (101 : Int32), (97 : Int32), (100 : Int32), (121 : Int32), (32 : Int32), (102 : Int32), (111 : Int32), (114 : Int32), (32 : Int32), (83 : Int32), (104 : Int32), (105 : Int32), (112 : Int32), (112 : Int32), (105 : Int32), (110 : Int32), (103 : Int32)] : List Int32) 0 (18 : Int32) ((([(82 : Int32), (101 : Int32), (97 : Int32), (100 : Int32), (121 : Int32), (32 : Int32), (102 : Int32), (111 : Int32), (114 : Int32), (32 : Int32), (83 : Int32), (104 : Int32), (105 : Int32), (112 : Int32), (112 : Int32), (105 : Int32), (110 : Int32), (103 : Int32)] : List Int32).map (fun c => c.toInt8.toInt32)).map Value.int) := StrChars.Road.codOf (n := 18) rfl (fun x hx => (hpw1 x hx).2)
  have hbd67 : ∀ x ∈ ([(82 : Int32), (101 : Int32), (97 : Int32), (100 : Int32), (121 : Int32), (32 : Int32), (102 : Int32), (111 : Int32), (114 : Int32), (32 : Int32), (83 : Int32), (104 : Int32), (105 : Int32), (112 : Int32), (112 : Int32), (105 : Int32), (110 : Int32), (103 : Int32)] : List Int32), ¬ x < 0 ∧ ¬ (65535 : Int32) < x := own_up _ hpw1
  have f68 := EW1.ext f49.2
  have f69 := FV1.ext f49.2
  have f70 := FC1.ext f49.2
  have f71 := KB1.ext f49.2
  obtain ⟨cq72, kq72, q72a, q72b, q72c⟩ := isOf hZ e65 f68
  obtain ⟨vv72, _, ⟨T72, L72, k72, n72⟩, -, X72, ⟨Lc72, hQ72, l72, y72, z72⟩, st72⟩ := X65.virtualBack hx (y := (⟨"java/lang/String", "equals", "(Ljava/lang/Object;)Z"⟩ : MethodName)) (z := (⟨"java/lang/String", "equals", "(Ljava/lang/Object;)Z"⟩ : MethodName)) hown (mvT hZ (Wd56 hw)) (mvT hZ (Wd57 hw)) (notFace_of_selects (args := #[]) (mvT hZ (Wd59 hw))) (mvT hZ (Wd59 hw)) (mvT hZ (Wd58 hw)) (by decide) (StrChars.Road.eqW (W := 0) hZ heq (kI := 4) (Wd6 hw) f68 f69 f70 f71 hcd67 hbd67 (Nat.le_of_ble_eq_true rfl) f57 f58 f59 f60 hcd56 hbd56 (Nat.le_of_ble_eq_true rfl) (O2.ext f49.2) P5 (by decide) (by decide)) q72a q72c (g := (fr_of1 m a1 25 (.val (.ref x39)) (.val (.int (3 : Int32))) (.val (.int (1 : Int32))) (.val (.ref P1)) [(.ref a1), (.ref W1)])) rfl (by rw [hml]; rfl) (Steps.refl _) (argsL := [(.ref a1)]) (rest := []) (lenOf pd_35 rfl) rfl (by show 2 * 0 + _ ≤ _; exact Nat.le_of_eq rfl) (hb hby d7_25) (fun _ _ => ⟨rfl, e65, (by decide : 1 + 0 ≤ _), (by decide : 3 + 0 ≤ _)⟩)
  dsimp only [Pt.U, Pt.locs, Pt.cells, Pt.slots] at X72 l72 y72 z72 st72 hQ72
  subst l72 y72 z72
  obtain ⟨hE72, rfl, Eq72⟩ := hQ72
  have Nq72 : Fr n0 ([] : List Loc) := Fr.nil n0
  obtain rfl : vv72 = some (.int 1) := hE72.elim (fun q => q.1) (fun q => absurd rfl q.2)
  have N73 := Fr.app Nh63 Nq72
  obtain ⟨Lh74, Xh74, Nh74⟩ := own_hide (cells' := 1) (slots' := 3) X72 N73 (Nat.le_of_ble_eq_true rfl) (Nat.le_of_ble_eq_true rfl)
  refine ownSt st72 ?_
  clear st72
  show ownG p.tables e below _ (T72.setTop (fr_of1 m a1 28 (.val (.ref x39)) (.val (.int (3 : Int32))) (.val (.int (1 : Int32))) (.val (.ref P1)) [(.int (1 : Int32))]))
  refine ownBy (A := T72.setTop (fr_of1 m a1 33 (.val (.ref x39)) (.val (.int (3 : Int32))) (.val (.int (1 : Int32))) (.val (.ref P1)) [(.ref P1)])) (fun t kt => ?_) ?_
  · refine XS.ifNo Xh74.here hx rfl (hb hby d7_28) rfl ((if0 _ _).trans (feq ((by decide) : ¬ ((1 : Int32) = (0 : Int32)))).1) ?_
    show Steps p.tables e below (T72.setTop (fr_of1 m a1 31 (.val (.ref x39)) (.val (.int (3 : Int32))) (.val (.int (1 : Int32))) (.val (.ref P1)) [])) t
    refine XS.aload Xh74.here hx rfl (hb hby d7_31) rfl rfl ?_
    exact kt
  have f75 := ((Keep.refl h0 []).trans Kq39 all0)
  refine ownRet Xh74 Bd.notSynchronized (v := some (.ref P1)) (fun h => by rw [Bd.returns] at h; cases h) ?_ (Nat.le_of_ble_eq_true rfl) (Nat.le_of_ble_eq_true rfl) (fun fs hr => retOut Xh74 hx Bd.returns rfl (Or.inr (Or.inr (Or.inr (Or.inr ⟨rfl, rfl, rfl⟩)))) (hb hby d7_33) hr)
  show (Q_of1 Z a1 t1 kb9 A kA P0 P1 P2 W0 W1 W2 B0 B1 B2 kb0 kb1 kb2 G1 h0 n0) (some (.ref P1)) T72.heap _
  rw [Eq72]
  exact ⟨rfl, Nh74, f75⟩
abbrev fr_of2 (m : MethodId) (a1 : Addr) (pc : Nat) (x1_ x2_ x3_ x4_ : Slot) (st : List Value) : JFrame := mkF m pc #[.val (.ref a1), x1_, x2_, x3_, x4_] st
def Q_of2 (Z : State) (a1 : Addr) (t1 : Addr) (kb9 : ClassId) (A : Addr) (kA : ClassId) (P0 : Addr) (P1 : Addr) (P2 : Addr) (W0 : Addr) (W1 : Addr) (W2 : Addr) (B0 : Addr) (B1 : Addr) (B2 : Addr) (kb0 : ClassId) (kb1 : ClassId) (kb2 : ClassId) (G1 : Int32) (h0 : Heap) (n0 : Nat) (v : Option Value) (h : Heap) (L : List Loc) : Prop := v = some (.ref P2) ∧ Fr n0 L ∧ Keep h0 h []
theorem ef_of2 (m : MethodId) (x0 : Addr)  : entryFrame m #[(.ref x0)] 5 = mkF m 0 #[.val (.ref x0), .unset, .unset, .unset, .unset] [] := by first | (simp [entryFrame, mkF, argsToLocals, Value.category]; done) | rfl
set_option maxRecDepth 65536 in
set_option maxHeartbeats 40000000 in
theorem c_of2 (l : Launch) (Z : State) (a0 : Array Value) (hw : ∀ d ∈ tables_1, d.before a0 Z = true) (ws : List Jvm.Cond) (a1 : Addr) (t1 : Addr) (kb9 : ClassId) (A : Addr) (kA : ClassId) (P0 : Addr) (P1 : Addr) (P2 : Addr) (W0 : Addr) (W1 : Addr) (W2 : Addr) (B0 : Addr) (B1 : Addr) (B2 : Addr) (kb0 : ClassId) (kb1 : ClassId) (kb2 : ClassId) (G1 : Int32) (h0 : Heap) (n0 : Nat) (Z0 : n0 ≤ h0.size) (Es : Exa Z h0 a1 "java/lang/String") (Vs : Fld Z h0 a1 "java/lang/String" "value" "[B" (.ref t1)) (Cs : Fld Z h0 a1 "java/lang/String" "coder" "B" (.int (0 : Int32))) (Ks : Arv Z h0 t1 kb9 .byte (7 : Int32) ((([(83 : Int32), (104 : Int32), (105 : Int32), (112 : Int32), (112 : Int32), (101 : Int32), (100 : Int32)] : List Int32).map (fun c => c.toInt8.toInt32)).map Value.int) (.int (0 : Int32))) (hp : ∀ c ∈ ([(83 : Int32), (104 : Int32), (105 : Int32), (112 : Int32), (112 : Int32), (101 : Int32), (100 : Int32)] : List Int32), ¬ c < 0 ∧ ¬ (255 : Int32) < c) (SV : Sta Z Z.heap "com/example/quayside/quayside/model/OrderStatus" "$VALUES" "[Lcom/example/quayside/quayside/model/OrderStatus;" (.ref A)) (KV : Arv Z Z.heap A kA (.object "com/example/quayside/quayside/model/OrderStatus") (3 : Int32) [(.ref P0), (.ref P1), (.ref P2)] .null) (EV : Exa Z Z.heap A "[Lcom/example/quayside/quayside/model/OrderStatus;") (EP0 : Exa Z Z.heap P0 "com/example/quayside/quayside/model/OrderStatus") (FP0 : Fld Z Z.heap P0 "com/example/quayside/quayside/model/OrderStatus" "word" "Ljava/lang/String;" (.ref W0)) (EW0 : Exa Z Z.heap W0 "java/lang/String") (FV0 : Fld Z Z.heap W0 "java/lang/String" "value" "[B" (.ref B0)) (FC0 : Fld Z Z.heap W0 "java/lang/String" "coder" "B" (.int (0 : Int32))) (KB0 : Arv Z Z.heap B0 kb0 .byte (7 : Int32) ((([(80 : Int32), (101 : Int32), (110 : Int32), (100 : Int32), (105 : Int32), (110 : Int32), (103 : Int32)] : List Int32).map (fun c => c.toInt8.toInt32)).map Value.int) (.int (0 : Int32))) (EP1 : Exa Z Z.heap P1 "com/example/quayside/quayside/model/OrderStatus") (FP1 : Fld Z Z.heap P1 "com/example/quayside/quayside/model/OrderStatus" "word" "Ljava/lang/String;" (.ref W1)) (EW1 : Exa Z Z.heap W1 "java/lang/String") (FV1 : Fld Z Z.heap W1 "java/lang/String" "value" "[B" (.ref B1)) (FC1 : Fld Z Z.heap W1 "java/lang/String" "coder" "B" (.int (0 : Int32))) (KB1 : Arv Z Z.heap B1 kb1 .byte (18 : Int32) ((([(82 : Int32), (101 : Int32), (97 : Int32), (100 : Int32), (121 : Int32), (32 : Int32), (102 : Int32), (111 : Int32), (114 : Int32), (32 : Int32), (83 : Int32), (104 : Int32), (105 : Int32), (112 : Int32), (112 : Int32), (105 : Int32), (110 : Int32), (103 : Int32)] : List Int32).map (fun c => c.toInt8.toInt32)).map Value.int) (.int (0 : Int32))) (EP2 : Exa Z Z.heap P2 "com/example/quayside/quayside/model/OrderStatus") (FP2 : Fld Z Z.heap P2 "com/example/quayside/quayside/model/OrderStatus" "word" "Ljava/lang/String;" (.ref W2)) (EW2 : Exa Z Z.heap W2 "java/lang/String") (FV2 : Fld Z Z.heap W2 "java/lang/String" "value" "[B" (.ref B2)) (FC2 : Fld Z Z.heap W2 "java/lang/String" "coder" "B" (.int (0 : Int32))) (KB2 : Arv Z Z.heap B2 kb2 .byte (7 : Int32) ((([(83 : Int32), (104 : Int32), (105 : Int32), (112 : Int32), (112 : Int32), (101 : Int32), (100 : Int32)] : List Int32).map (fun c => c.toInt8.toInt32)).map Value.int) (.int (0 : Int32))) (O2 : Sta Z Z.heap "java/lang/String" "COMPACT_STRINGS" "Z" (.int G1)) (P5 : ¬ (G1 = (0 : Int32))) (X00 : Old Z n0 h0) :
    MetFree l (⟨"com/example/quayside/quayside/model/OrderStatus", "ofWord", "(Ljava/lang/String;)Lcom/example/quayside/quayside/model/OrderStatus;"⟩ : MethodName) (head1 (Jvm.Cond.code (⟨"com/example/quayside/quayside/model/OrderStatus", "ofWord", "(Ljava/lang/String;)Lcom/example/quayside/quayside/model/OrderStatus;"⟩ : MethodName) prog_22_method_5_code 5 (some (.object "com/example/quayside/quayside/model/OrderStatus")) :: ws) ({ frames := 2, cells := 1, slots := 3, locals := 28 } : Room)) (fun a U => a = #[(.ref a1)] ∧ Z.Warmed39 U.vm ∧ U.heap = h0) (fun _ _ _ _ _ => True) (fun _ U o U' => ∃ v L, o = .returned v ∧ (Q_of2 Z a1 t1 kb9 A kA P0 P1 P2 W0 W1 W2 B0 B1 B2 kb0 kb1 kb2 G1 h0 n0) v U'.heap L ∧ FrameEnd U o U' L ({ frames := 2, cells := 1, slots := 3, locals := 28 } : Room).cells ({ frames := 2, cells := 1, slots := 3, locals := 28 } : Room).slots) := by
  refine MetFree.of_bodySF (plainFor_of_name pn_1) hisR ?_
  intro p e s m args below meth c s₁ Bd hml0 hP hK
  obtain ⟨rfl, hZ, hh⟩ := hP
  have hx := Bd.exec
  have hby := Bd.bytes
  have hml : c.maxLocals = 5 := hml0
  have hown : s.vm.findClass "com/example/quayside/quayside/model/OrderStatus" = some m.cls := findClass_of_methodNamed Bd.named
  have hnm := (name_of_methodNamed Bd.named Bd.method).1
  have X0 : Stand p l e ({ frames := 2, cells := 1, slots := 3, locals := 28 } : Room) s m #[(.ref a1)] below meth c s₁ [] 0 0 := Stand.of_body Bd
  have e0 : s₁.heap = h0 := by rw [← hh, Bd.state]; rfl
  have N0 := Fr.nil n0
  refine ownOut (P := (Q_of2 Z a1 t1 kb9 A kA P0 P1 P2 W0 W1 W2 B0 B1 B2 kb0 kb1 kb2 G1 h0 n0)) ?_
  refine ownBy (A := s₁.setTop (mkF m 0 #[.val (.ref a1), .unset, .unset, .unset, .unset] [])) (fun t k => castTop (ef_of2 m a1) k) ?_
  have heq : ∀ d ∈ StrChars.Road.wordsEq, d.before a0 Z = true := fun d hd => hw d ((by decide +kernel : ∀ d ∈ StrChars.Road.wordsEq, d ∈ tables_1) d hd)
  have hpw0 : ∀ c ∈ ([(80 : Int32), (101 : Int32), (110 : Int32), (100 : Int32), (105 : Int32), (110 : Int32), (103 : Int32)] : List Int32), ¬ c < 0 ∧ ¬ (255 : Int32) < c := by decide +kernel
  have hpw1 : ∀ c ∈ ([(82 : Int32), (101 : Int32), (97 : Int32), (100 : Int32), (121 : Int32), (32 : Int32), (102 : Int32), (111 : Int32), (114 : Int32), (32 : Int32), (83 : Int32), (104 : Int32), (105 : Int32), (112 : Int32), (112 : Int32), (105 : Int32), (110 : Int32), (103 : Int32)] : List Int32), ¬ c < 0 ∧ ¬ (255 : Int32) < c := by decide +kernel
  have hpw2 : ∀ c ∈ ([(83 : Int32), (104 : Int32), (105 : Int32), (112 : Int32), (112 : Int32), (101 : Int32), (100 : Int32)] : List Int32), ¬ c < 0 ∧ ¬ (255 : Int32) < c := by decide +kernel
  obtain ⟨vv76, _, ⟨T76, L76, k76, n76⟩, -, X76, ⟨Lc76, hQ76, l76, y76, z76⟩, st76⟩ := Jvm.LawKit.callS X0 hx (y := (⟨"com/example/quayside/quayside/model/OrderStatus", "values", "()[Lcom/example/quayside/quayside/model/OrderStatus;"⟩ : MethodName)) hown (mvT hZ (Wd37 hw)) (mvT hZ (Wd38 hw)) (mvT hZ (Wd2 hw)) (mvT hZ (Wd39 hw)) (by decide) (backOf (W := 0) (c_vals l Z a0 hw [] A kA P0 P1 P2 h0 n0 Z0 SV KV EV X00) hZ (Wd39 hw) (Wd2 hw) (by decide) (by decide)) (g := (fr_of2 m a1 0 .unset .unset .unset .unset [])) rfl (by rw [hml]; rfl) (argsL := []) (rest := []) (lenOf pd_12 rfl) rfl (by show 2 * 0 + _ ≤ _; exact Nat.le_of_eq rfl) (hb hby d7_0) (fun _ _ => ⟨rfl, e0, (by decide : 0 + 1 ≤ _), (by decide : 0 + 3 ≤ _)⟩)
  dsimp only [Pt.U, Pt.locs, Pt.cells, Pt.slots] at X76 l76 y76 z76 st76 hQ76
  subst l76 y76 z76
  obtain ⟨x76, rfl, Nq76, Kq76, zq76, Aq76⟩ := hQ76
  have ne77 : a1 ≠ x76 := Nat.ne_of_lt (Nat.lt_of_lt_of_le Es.lt zq76)
  have ne78 : t1 ≠ x76 := Nat.ne_of_lt (Nat.lt_of_lt_of_le Ks.lt zq76)
  have g79 : n0 ≤ x76 := Nat.le_trans Z0 zq76
  have z80 : h0.size ≤ x76 := Nat.le_trans (Keep.refl h0 []).1 zq76
  have N81 := Fr.app N0 Nq76
  obtain ⟨Lh82, Xh82, Nh82⟩ := own_hide (cells' := 1) (slots' := 3) X76 N81 (Nat.le_of_ble_eq_true rfl) (Nat.le_of_ble_eq_true rfl)
  refine ownBy st76 ?_
  clear st76
  show ownG p.tables e below _ (T76.setTop (fr_of2 m a1 3 .unset .unset .unset .unset [(.ref x76)]))
  refine ownBy (A := T76.setTop (fr_of2 m a1 5 (.val (.ref x76)) .unset .unset .unset [(.ref x76)])) (fun t kt => ?_) ?_
  · refine XS.astoreN Xh82.here hx rfl (hb hby d7_3) rfl rfl (l' := #[.val (.ref a1), .val (.ref x76), .unset, .unset, .unset]) rfl ?_
    show Steps p.tables e below (T76.setTop (fr_of2 m a1 4 (.val (.ref x76)) .unset .unset .unset [])) t
    refine XS.aloadN Xh82.here hx rfl (hb hby d7_4) rfl rfl ?_
    exact kt
  obtain ⟨cl83, Ar83, -, S83, N83, -, -⟩ := id Aq76
  have st83 := Xh82.arraylength hx Ar83.1 (State.isArrayOf_alike hZ.alike Ar83.2.1) (g := (fr_of2 m a1 5 (.val (.ref x76)) .unset .unset .unset [(.ref x76)])) rfl rfl (hb hby d7_5)
  rw [len_of S83 N83] at st83
  refine ownBy st83 ?_
  show ownG p.tables e below _ (T76.setTop (fr_of2 m a1 6 (.val (.ref x76)) .unset .unset .unset [(.int (3 : Int32))]))
  refine ownBy (A := T76.setTop (fr_of2 m a1 16 (.val (.ref x76)) (.val (.int (3 : Int32))) (.val (.int (0 : Int32))) .unset [(.int (0 : Int32)), (.ref x76)])) (fun t kt => ?_) ?_
  · refine XS.istoreN Xh82.here hx rfl (hb hby d7_6) rfl (l' := #[.val (.ref a1), .val (.ref x76), .val (.int (3 : Int32)), .unset, .unset]) rfl ?_
    show Steps p.tables e below (T76.setTop (fr_of2 m a1 7 (.val (.ref x76)) (.val (.int (3 : Int32))) .unset .unset [])) t
    refine XS.iconst Xh82.here hx rfl (hb hby d7_7) ?_
    show Steps p.tables e below (T76.setTop (fr_of2 m a1 8 (.val (.ref x76)) (.val (.int (3 : Int32))) .unset .unset [(.int (0 : Int32))])) t
    refine XS.istoreN Xh82.here hx rfl (hb hby d7_8) rfl (l' := #[.val (.ref a1), .val (.ref x76), .val (.int (3 : Int32)), .val (.int (0 : Int32)), .unset]) rfl ?_
    show Steps p.tables e below (T76.setTop (fr_of2 m a1 9 (.val (.ref x76)) (.val (.int (3 : Int32))) (.val (.int (0 : Int32))) .unset [])) t
    refine XS.iloadN Xh82.here hx rfl (hb hby d7_9) rfl ?_
    show Steps p.tables e below (T76.setTop (fr_of2 m a1 10 (.val (.ref x76)) (.val (.int (3 : Int32))) (.val (.int (0 : Int32))) .unset [(.int (0 : Int32))])) t
    refine XS.iloadN Xh82.here hx rfl (hb hby d7_10) rfl ?_
    show Steps p.tables e below (T76.setTop (fr_of2 m a1 11 (.val (.ref x76)) (.val (.int (3 : Int32))) (.val (.int (0 : Int32))) .unset [(.int (3 : Int32)), (.int (0 : Int32))])) t
    refine XS.icmpNo Xh82.here hx rfl (hb hby d7_11) rfl (tlt ((by decide) : (0 : Int32) < (3 : Int32))).2.1 ?_
    show Steps p.tables e below (T76.setTop (fr_of2 m a1 14 (.val (.ref x76)) (.val (.int (3 : Int32))) (.val (.int (0 : Int32))) .unset [])) t
    refine XS.aloadN Xh82.here hx rfl (hb hby d7_14) rfl rfl ?_
    show Steps p.tables e below (T76.setTop (fr_of2 m a1 15 (.val (.ref x76)) (.val (.int (3 : Int32))) (.val (.int (0 : Int32))) .unset [(.ref x76)])) t
    refine XS.iloadN Xh82.here hx rfl (hb hby d7_15) rfl ?_
    exact kt
  obtain ⟨cl84, Ar84, q84, S84, N84, H84, G84⟩ := id Aq76
  have hin84 : ¬ ((0 : Int32) < 0 ∨ cl84.slots.size ≤ ((0 : Int32)).toNatClampNeg) := inb_of S84 ⟨by decide, by decide⟩
  have hat84 : cl84.slots[((0 : Int32)).toNatClampNeg]? = some (.ref P0) := H84.at hin84 rfl
  have st84 := Xh82.aaload hx (j := (0 : Int32)) (v := (.ref P0)) Ar84.1 (State.isArrayOf_alike hZ.alike Ar84.2.1) rfl Ar84.2.2 hin84 hat84 (g := (fr_of2 m a1 16 (.val (.ref x76)) (.val (.int (3 : Int32))) (.val (.int (0 : Int32))) .unset [(.int (0 : Int32)), (.ref x76)])) rfl rfl (hb hby d7_16)
  refine ownBy st84 ?_
  show ownG p.tables e below _ (T76.setTop (fr_of2 m a1 17 (.val (.ref x76)) (.val (.int (3 : Int32))) (.val (.int (0 : Int32))) .unset [(.ref P0)]))
  refine ownBy (A := T76.setTop (fr_of2 m a1 21 (.val (.ref x76)) (.val (.int (3 : Int32))) (.val (.int (0 : Int32))) (.val (.ref P0)) [(.ref P0)])) (fun t kt => ?_) ?_
  · refine XS.astore Xh82.here hx rfl (hb hby d7_17) rfl rfl (l' := #[.val (.ref a1), .val (.ref x76), .val (.int (3 : Int32)), .val (.int (0 : Int32)), .val (.ref P0)]) rfl ?_
    show Steps p.tables e below (T76.setTop (fr_of2 m a1 19 (.val (.ref x76)) (.val (.int (3 : Int32))) (.val (.int (0 : Int32))) (.val (.ref P0)) [])) t
    refine XS.aload Xh82.here hx rfl (hb hby d7_19) rfl rfl ?_
    exact kt
  have f86 := (X00.keep Kq76 all0)
  have f87 := FP0.ext f86.2
  refine own_getF Xh82 hx hZ hown (host := "") (Or.inl (Wd54 hw)) Via.refl rfl f87 (hb hby d7_21) (fun T85 X85 e85 => ?_)
  refine ownBy (A := T85.setTop (fr_of2 m a1 25 (.val (.ref x76)) (.val (.int (3 : Int32))) (.val (.int (0 : Int32))) (.val (.ref P0)) [(.ref a1), (.ref W0)])) (fun t kt => ?_) ?_
  · refine XS.aloadN X85.here hx rfl (hb hby d7_24) rfl rfl ?_
    exact kt
  have hcd88 : StrChars.Road.CodA ([(80 : Int32), (101 : Int32), (110 : Int32), (100 : Int32), (105 : Int32), (110 : Int32), (103 : Int32)] : List Int32) 0 (7 : Int32) ((([(80 : Int32), (101 : Int32), (110 : Int32), (100 : Int32), (105 : Int32), (110 : Int32), (103 : Int32)] : List Int32).map (fun c => c.toInt8.toInt32)).map Value.int) := StrChars.Road.codOf (n := 7) rfl (fun x hx => (hpw0 x hx).2)
  have hbd88 : ∀ x ∈ ([(80 : Int32), (101 : Int32), (110 : Int32), (100 : Int32), (105 : Int32), (110 : Int32), (103 : Int32)] : List Int32), ¬ x < 0 ∧ ¬ (65535 : Int32) < x := own_up _ hpw0
  have f89 := EW0.ext f86.2
  have f90 := FV0.ext f86.2
  have f91 := FC0.ext f86.2
  have f92 := KB0.ext f86.2
  have hcd93 : StrChars.Road.CodA ([(83 : Int32), (104 : Int32), (105 : Int32), (112 : Int32), (112 : Int32), (101 : Int32), (100 : Int32)] : List Int32) 0 (7 : Int32) ((([(83 : Int32), (104 : Int32), (105 : Int32), (112 : Int32), (112 : Int32), (101 : Int32), (100 : Int32)] : List Int32).map (fun c => c.toInt8.toInt32)).map Value.int) := StrChars.Road.codOf (n := 7) rfl (fun x hx => (hp x hx).2)
  have hbd93 : ∀ x ∈ ([(83 : Int32), (104 : Int32), (105 : Int32), (112 : Int32), (112 : Int32), (101 : Int32), (100 : Int32)] : List Int32), ¬ x < 0 ∧ ¬ (65535 : Int32) < x := own_up _ hp
  have f94 := (Es.keep Kq76)
  have f95 := (Vs.keep Kq76 nin0)
  have f96 := (Cs.keep Kq76 nin0)
  have f97 := (Ks.keep Kq76 nin0)
  obtain ⟨cq98, kq98, q98a, q98b, q98c⟩ := isOf hZ e85 f89
  obtain ⟨vv98, _, ⟨T98, L98, k98, n98⟩, -, X98, ⟨Lc98, hQ98, l98, y98, z98⟩, st98⟩ := X85.virtualBack hx (y := (⟨"java/lang/String", "equals", "(Ljava/lang/Object;)Z"⟩ : MethodName)) (z := (⟨"java/lang/String", "equals", "(Ljava/lang/Object;)Z"⟩ : MethodName)) hown (mvT hZ (Wd56 hw)) (mvT hZ (Wd57 hw)) (notFace_of_selects (args := #[]) (mvT hZ (Wd59 hw))) (mvT hZ (Wd59 hw)) (mvT hZ (Wd58 hw)) (by decide) (StrChars.Road.eqW (W := 0) hZ heq (kI := 4) (Wd6 hw) f89 f90 f91 f92 hcd88 hbd88 (Nat.le_of_ble_eq_true rfl) f94 f95 f96 f97 hcd93 hbd93 (Nat.le_of_ble_eq_true rfl) (O2.ext f86.2) P5 (by decide) (by decide)) q98a q98c (g := (fr_of2 m a1 25 (.val (.ref x76)) (.val (.int (3 : Int32))) (.val (.int (0 : Int32))) (.val (.ref P0)) [(.ref a1), (.ref W0)])) rfl (by rw [hml]; rfl) (Steps.refl _) (argsL := [(.ref a1)]) (rest := []) (lenOf pd_35 rfl) rfl (by show 2 * 0 + _ ≤ _; exact Nat.le_of_eq rfl) (hb hby d7_25) (fun _ _ => ⟨rfl, e85, (by decide : 1 + 0 ≤ _), (by decide : 3 + 0 ≤ _)⟩)
  dsimp only [Pt.U, Pt.locs, Pt.cells, Pt.slots] at X98 l98 y98 z98 st98 hQ98
  subst l98 y98 z98
  obtain ⟨hE98, rfl, Eq98⟩ := hQ98
  have Nq98 : Fr n0 ([] : List Loc) := Fr.nil n0
  obtain rfl : vv98 = some (.int 0) := hE98.elim (fun q => absurd q.2 (by simp)) (fun q => q.1)
  have N99 := Fr.app Nh82 Nq98
  obtain ⟨Lh100, Xh100, Nh100⟩ := own_hide (cells' := 1) (slots' := 3) X98 N99 (Nat.le_of_ble_eq_true rfl) (Nat.le_of_ble_eq_true rfl)
  refine ownSt st98 ?_
  clear st98
  show ownG p.tables e below _ (T98.setTop (fr_of2 m a1 28 (.val (.ref x76)) (.val (.int (3 : Int32))) (.val (.int (0 : Int32))) (.val (.ref P0)) [(.int (0 : Int32))]))
  refine ownBy (A := T98.setTop (fr_of2 m a1 16 (.val (.ref x76)) (.val (.int (3 : Int32))) (.val (.int (1 : Int32))) (.val (.ref P0)) [(.int (1 : Int32)), (.ref x76)])) (fun t kt => ?_) ?_
  · refine XS.ifYes Xh100.here hx rfl (pc0 := 28) (pc' := 34) rfl (hb hby d7_28) rfl ((if0 _ _).trans (teq ((by decide) : (0 : Int32) = (0 : Int32))).1) (by decide) (by decide) ?_
    show Steps p.tables e below (T98.setTop (fr_of2 m a1 34 (.val (.ref x76)) (.val (.int (3 : Int32))) (.val (.int (0 : Int32))) (.val (.ref P0)) [])) t
    refine XS.iinc Xh100.here hx rfl (hb hby d7_34) rfl (l' := #[.val (.ref a1), .val (.ref x76), .val (.int (3 : Int32)), .val (.int (1 : Int32)), .val (.ref P0)]) rfl ?_
    show Steps p.tables e below (T98.setTop (fr_of2 m a1 37 (.val (.ref x76)) (.val (.int (3 : Int32))) (.val (.int (1 : Int32))) (.val (.ref P0)) [])) t
    refine XS.goto Xh100.here hx rfl (pc0 := 37) (pc' := 9) rfl (hb hby d7_37) (by decide) (by decide) ?_
    show Steps p.tables e below (T98.setTop (fr_of2 m a1 9 (.val (.ref x76)) (.val (.int (3 : Int32))) (.val (.int (1 : Int32))) (.val (.ref P0)) [])) t
    refine XS.iloadN Xh100.here hx rfl (hb hby d7_9) rfl ?_
    show Steps p.tables e below (T98.setTop (fr_of2 m a1 10 (.val (.ref x76)) (.val (.int (3 : Int32))) (.val (.int (1 : Int32))) (.val (.ref P0)) [(.int (1 : Int32))])) t
    refine XS.iloadN Xh100.here hx rfl (hb hby d7_10) rfl ?_
    show Steps p.tables e below (T98.setTop (fr_of2 m a1 11 (.val (.ref x76)) (.val (.int (3 : Int32))) (.val (.int (1 : Int32))) (.val (.ref P0)) [(.int (3 : Int32)), (.int (1 : Int32))])) t
    refine XS.icmpNo Xh100.here hx rfl (hb hby d7_11) rfl (tlt ((by decide) : (1 : Int32) < (3 : Int32))).2.1 ?_
    show Steps p.tables e below (T98.setTop (fr_of2 m a1 14 (.val (.ref x76)) (.val (.int (3 : Int32))) (.val (.int (1 : Int32))) (.val (.ref P0)) [])) t
    refine XS.aloadN Xh100.here hx rfl (hb hby d7_14) rfl rfl ?_
    show Steps p.tables e below (T98.setTop (fr_of2 m a1 15 (.val (.ref x76)) (.val (.int (3 : Int32))) (.val (.int (1 : Int32))) (.val (.ref P0)) [(.ref x76)])) t
    refine XS.iloadN Xh100.here hx rfl (hb hby d7_15) rfl ?_
    exact kt
  obtain ⟨cl101, Ar101, q101, S101, N101, H101, G101⟩ := id Aq76
  have hin101 : ¬ ((1 : Int32) < 0 ∨ cl101.slots.size ≤ ((1 : Int32)).toNatClampNeg) := inb_of S101 ⟨by decide, by decide⟩
  have hat101 : cl101.slots[((1 : Int32)).toNatClampNeg]? = some (.ref P1) := H101.at hin101 rfl
  have st101 := Xh100.aaload hx (j := (1 : Int32)) (v := (.ref P1)) (by rw [Eq98]; exact Ar101.1) (State.isArrayOf_alike hZ.alike Ar101.2.1) rfl Ar101.2.2 hin101 hat101 (g := (fr_of2 m a1 16 (.val (.ref x76)) (.val (.int (3 : Int32))) (.val (.int (1 : Int32))) (.val (.ref P0)) [(.int (1 : Int32)), (.ref x76)])) rfl rfl (hb hby d7_16)
  refine ownBy st101 ?_
  show ownG p.tables e below _ (T98.setTop (fr_of2 m a1 17 (.val (.ref x76)) (.val (.int (3 : Int32))) (.val (.int (1 : Int32))) (.val (.ref P0)) [(.ref P1)]))
  refine ownBy (A := T98.setTop (fr_of2 m a1 21 (.val (.ref x76)) (.val (.int (3 : Int32))) (.val (.int (1 : Int32))) (.val (.ref P1)) [(.ref P1)])) (fun t kt => ?_) ?_
  · refine XS.astore Xh100.here hx rfl (hb hby d7_17) rfl rfl (l' := #[.val (.ref a1), .val (.ref x76), .val (.int (3 : Int32)), .val (.int (1 : Int32)), .val (.ref P1)]) rfl ?_
    show Steps p.tables e below (T98.setTop (fr_of2 m a1 19 (.val (.ref x76)) (.val (.int (3 : Int32))) (.val (.int (1 : Int32))) (.val (.ref P1)) [])) t
    refine XS.aload Xh100.here hx rfl (hb hby d7_19) rfl rfl ?_
    exact kt
  have f103 := FP1.ext f86.2
  refine own_getF Xh100 hx hZ hown (host := "") (Or.inl (Wd54 hw)) Via.refl Eq98 f103 (hb hby d7_21) (fun T102 X102 e102 => ?_)
  refine ownBy (A := T102.setTop (fr_of2 m a1 25 (.val (.ref x76)) (.val (.int (3 : Int32))) (.val (.int (1 : Int32))) (.val (.ref P1)) [(.ref a1), (.ref W1)])) (fun t kt => ?_) ?_
  · refine XS.aloadN X102.here hx rfl (hb hby d7_24) rfl rfl ?_
    exact kt
  have hcd104 : StrChars.Road.CodA ([(82 : Int32), (101 : Int32), (97 : Int32), (100 : Int32), (121 : Int32), (32 : Int32), (102 : Int32), (111 : Int32), (114 : Int32), (32 : Int32), (83 : Int32), (104 : Int32), (105 : Int32), (112 : Int32), (112 : Int32), (105 : Int32), (110 : Int32), (103 : Int32)] : List Int32) 0 (18 : Int32) ((([(82 : Int32), (101 : Int32), (97 : Int32), (100 : Int32), (121 : Int32), (32 : Int32), (102 : Int32), (111 : Int32), (114 : Int32), (32 : Int32), (83 : Int32), (104 : Int32), (105 : Int32), (112 : Int32), (112 : Int32), (105 : Int32), (110 : Int32), (103 : Int32)] : List Int32).map (fun c => c.toInt8.toInt32)).map Value.int) := StrChars.Road.codOf (n := 18) rfl (fun x hx => (hpw1 x hx).2)
  have hbd104 : ∀ x ∈ ([(82 : Int32), (101 : Int32), (97 : Int32), (100 : Int32), (121 : Int32), (32 : Int32), (102 : Int32), (111 : Int32), (114 : Int32), (32 : Int32), (83 : Int32), (104 : Int32), (105 : Int32), (112 : Int32), (112 : Int32), (105 : Int32), (110 : Int32), (103 : Int32)] : List Int32), ¬ x < 0 ∧ ¬ (65535 : Int32) < x := own_up _ hpw1
  have f105 := EW1.ext f86.2
  have f106 := FV1.ext f86.2
  have f107 := FC1.ext f86.2
  have f108 := KB1.ext f86.2
  obtain ⟨cq109, kq109, q109a, q109b, q109c⟩ := isOf hZ e102 f105
  obtain ⟨vv109, _, ⟨T109, L109, k109, n109⟩, -, X109, ⟨Lc109, hQ109, l109, y109, z109⟩, st109⟩ := X102.virtualBack hx (y := (⟨"java/lang/String", "equals", "(Ljava/lang/Object;)Z"⟩ : MethodName)) (z := (⟨"java/lang/String", "equals", "(Ljava/lang/Object;)Z"⟩ : MethodName)) hown (mvT hZ (Wd56 hw)) (mvT hZ (Wd57 hw)) (notFace_of_selects (args := #[]) (mvT hZ (Wd59 hw))) (mvT hZ (Wd59 hw)) (mvT hZ (Wd58 hw)) (by decide) (StrChars.Road.eqW (W := 0) hZ heq (kI := 4) (Wd6 hw) f105 f106 f107 f108 hcd104 hbd104 (Nat.le_of_ble_eq_true rfl) f94 f95 f96 f97 hcd93 hbd93 (Nat.le_of_ble_eq_true rfl) (O2.ext f86.2) P5 (by decide) (by decide)) q109a q109c (g := (fr_of2 m a1 25 (.val (.ref x76)) (.val (.int (3 : Int32))) (.val (.int (1 : Int32))) (.val (.ref P1)) [(.ref a1), (.ref W1)])) rfl (by rw [hml]; rfl) (Steps.refl _) (argsL := [(.ref a1)]) (rest := []) (lenOf pd_35 rfl) rfl (by show 2 * 0 + _ ≤ _; exact Nat.le_of_eq rfl) (hb hby d7_25) (fun _ _ => ⟨rfl, e102, (by decide : 1 + 0 ≤ _), (by decide : 3 + 0 ≤ _)⟩)
  dsimp only [Pt.U, Pt.locs, Pt.cells, Pt.slots] at X109 l109 y109 z109 st109 hQ109
  subst l109 y109 z109
  obtain ⟨hE109, rfl, Eq109⟩ := hQ109
  have Nq109 : Fr n0 ([] : List Loc) := Fr.nil n0
  obtain rfl : vv109 = some (.int 0) := hE109.elim (fun q => absurd q.2 (by simp)) (fun q => q.1)
  have N110 := Fr.app Nh100 Nq109
  obtain ⟨Lh111, Xh111, Nh111⟩ := own_hide (cells' := 1) (slots' := 3) X109 N110 (Nat.le_of_ble_eq_true rfl) (Nat.le_of_ble_eq_true rfl)
  refine ownSt st109 ?_
  clear st109
  show ownG p.tables e below _ (T109.setTop (fr_of2 m a1 28 (.val (.ref x76)) (.val (.int (3 : Int32))) (.val (.int (1 : Int32))) (.val (.ref P1)) [(.int (0 : Int32))]))
  refine ownBy (A := T109.setTop (fr_of2 m a1 16 (.val (.ref x76)) (.val (.int (3 : Int32))) (.val (.int (2 : Int32))) (.val (.ref P1)) [(.int (2 : Int32)), (.ref x76)])) (fun t kt => ?_) ?_
  · refine XS.ifYes Xh111.here hx rfl (pc0 := 28) (pc' := 34) rfl (hb hby d7_28) rfl ((if0 _ _).trans (teq ((by decide) : (0 : Int32) = (0 : Int32))).1) (by decide) (by decide) ?_
    show Steps p.tables e below (T109.setTop (fr_of2 m a1 34 (.val (.ref x76)) (.val (.int (3 : Int32))) (.val (.int (1 : Int32))) (.val (.ref P1)) [])) t
    refine XS.iinc Xh111.here hx rfl (hb hby d7_34) rfl (l' := #[.val (.ref a1), .val (.ref x76), .val (.int (3 : Int32)), .val (.int (2 : Int32)), .val (.ref P1)]) rfl ?_
    show Steps p.tables e below (T109.setTop (fr_of2 m a1 37 (.val (.ref x76)) (.val (.int (3 : Int32))) (.val (.int (2 : Int32))) (.val (.ref P1)) [])) t
    refine XS.goto Xh111.here hx rfl (pc0 := 37) (pc' := 9) rfl (hb hby d7_37) (by decide) (by decide) ?_
    show Steps p.tables e below (T109.setTop (fr_of2 m a1 9 (.val (.ref x76)) (.val (.int (3 : Int32))) (.val (.int (2 : Int32))) (.val (.ref P1)) [])) t
    refine XS.iloadN Xh111.here hx rfl (hb hby d7_9) rfl ?_
    show Steps p.tables e below (T109.setTop (fr_of2 m a1 10 (.val (.ref x76)) (.val (.int (3 : Int32))) (.val (.int (2 : Int32))) (.val (.ref P1)) [(.int (2 : Int32))])) t
    refine XS.iloadN Xh111.here hx rfl (hb hby d7_10) rfl ?_
    show Steps p.tables e below (T109.setTop (fr_of2 m a1 11 (.val (.ref x76)) (.val (.int (3 : Int32))) (.val (.int (2 : Int32))) (.val (.ref P1)) [(.int (3 : Int32)), (.int (2 : Int32))])) t
    refine XS.icmpNo Xh111.here hx rfl (hb hby d7_11) rfl (tlt ((by decide) : (2 : Int32) < (3 : Int32))).2.1 ?_
    show Steps p.tables e below (T109.setTop (fr_of2 m a1 14 (.val (.ref x76)) (.val (.int (3 : Int32))) (.val (.int (2 : Int32))) (.val (.ref P1)) [])) t
    refine XS.aloadN Xh111.here hx rfl (hb hby d7_14) rfl rfl ?_
    show Steps p.tables e below (T109.setTop (fr_of2 m a1 15 (.val (.ref x76)) (.val (.int (3 : Int32))) (.val (.int (2 : Int32))) (.val (.ref P1)) [(.ref x76)])) t
    refine XS.iloadN Xh111.here hx rfl (hb hby d7_15) rfl ?_
    exact kt
  obtain ⟨cl112, Ar112, q112, S112, N112, H112, G112⟩ := id Aq76
  have hin112 : ¬ ((2 : Int32) < 0 ∨ cl112.slots.size ≤ ((2 : Int32)).toNatClampNeg) := inb_of S112 ⟨by decide, by decide⟩
  have hat112 : cl112.slots[((2 : Int32)).toNatClampNeg]? = some (.ref P2) := H112.at hin112 rfl
  have st112 := Xh111.aaload hx (j := (2 : Int32)) (v := (.ref P2)) (by rw [Eq109]; exact Ar112.1) (State.isArrayOf_alike hZ.alike Ar112.2.1) rfl Ar112.2.2 hin112 hat112 (g := (fr_of2 m a1 16 (.val (.ref x76)) (.val (.int (3 : Int32))) (.val (.int (2 : Int32))) (.val (.ref P1)) [(.int (2 : Int32)), (.ref x76)])) rfl rfl (hb hby d7_16)
  refine ownBy st112 ?_
  show ownG p.tables e below _ (T109.setTop (fr_of2 m a1 17 (.val (.ref x76)) (.val (.int (3 : Int32))) (.val (.int (2 : Int32))) (.val (.ref P1)) [(.ref P2)]))
  refine ownBy (A := T109.setTop (fr_of2 m a1 21 (.val (.ref x76)) (.val (.int (3 : Int32))) (.val (.int (2 : Int32))) (.val (.ref P2)) [(.ref P2)])) (fun t kt => ?_) ?_
  · refine XS.astore Xh111.here hx rfl (hb hby d7_17) rfl rfl (l' := #[.val (.ref a1), .val (.ref x76), .val (.int (3 : Int32)), .val (.int (2 : Int32)), .val (.ref P2)]) rfl ?_
    show Steps p.tables e below (T109.setTop (fr_of2 m a1 19 (.val (.ref x76)) (.val (.int (3 : Int32))) (.val (.int (2 : Int32))) (.val (.ref P2)) [])) t
    refine XS.aload Xh111.here hx rfl (hb hby d7_19) rfl rfl ?_
    exact kt
  have f114 := FP2.ext f86.2
  refine own_getF Xh111 hx hZ hown (host := "") (Or.inl (Wd54 hw)) Via.refl Eq109 f114 (hb hby d7_21) (fun T113 X113 e113 => ?_)
  refine ownBy (A := T113.setTop (fr_of2 m a1 25 (.val (.ref x76)) (.val (.int (3 : Int32))) (.val (.int (2 : Int32))) (.val (.ref P2)) [(.ref a1), (.ref W2)])) (fun t kt => ?_) ?_
  · refine XS.aloadN X113.here hx rfl (hb hby d7_24) rfl rfl ?_
    exact kt
  have hcd115 : StrChars.Road.CodA ([(83 : Int32), (104 : Int32), (105 : Int32), (112 : Int32), (112 : Int32), (101 : Int32), (100 : Int32)] : List Int32) 0 (7 : Int32) ((([(83 : Int32), (104 : Int32), (105 : Int32), (112 : Int32), (112 : Int32), (101 : Int32), (100 : Int32)] : List Int32).map (fun c => c.toInt8.toInt32)).map Value.int) := StrChars.Road.codOf (n := 7) rfl (fun x hx => (hpw2 x hx).2)
  have hbd115 : ∀ x ∈ ([(83 : Int32), (104 : Int32), (105 : Int32), (112 : Int32), (112 : Int32), (101 : Int32), (100 : Int32)] : List Int32), ¬ x < 0 ∧ ¬ (65535 : Int32) < x := own_up _ hpw2
  have f116 := EW2.ext f86.2
  have f117 := FV2.ext f86.2
  have f118 := FC2.ext f86.2
  have f119 := KB2.ext f86.2
  obtain ⟨cq120, kq120, q120a, q120b, q120c⟩ := isOf hZ e113 f116
  obtain ⟨vv120, _, ⟨T120, L120, k120, n120⟩, -, X120, ⟨Lc120, hQ120, l120, y120, z120⟩, st120⟩ := X113.virtualBack hx (y := (⟨"java/lang/String", "equals", "(Ljava/lang/Object;)Z"⟩ : MethodName)) (z := (⟨"java/lang/String", "equals", "(Ljava/lang/Object;)Z"⟩ : MethodName)) hown (mvT hZ (Wd56 hw)) (mvT hZ (Wd57 hw)) (notFace_of_selects (args := #[]) (mvT hZ (Wd59 hw))) (mvT hZ (Wd59 hw)) (mvT hZ (Wd58 hw)) (by decide) (StrChars.Road.eqW (W := 0) hZ heq (kI := 4) (Wd6 hw) f116 f117 f118 f119 hcd115 hbd115 (Nat.le_of_ble_eq_true rfl) f94 f95 f96 f97 hcd93 hbd93 (Nat.le_of_ble_eq_true rfl) (O2.ext f86.2) P5 (by decide) (by decide)) q120a q120c (g := (fr_of2 m a1 25 (.val (.ref x76)) (.val (.int (3 : Int32))) (.val (.int (2 : Int32))) (.val (.ref P2)) [(.ref a1), (.ref W2)])) rfl (by rw [hml]; rfl) (Steps.refl _) (argsL := [(.ref a1)]) (rest := []) (lenOf pd_35 rfl) rfl (by show 2 * 0 + _ ≤ _; exact Nat.le_of_eq rfl) (hb hby d7_25) (fun _ _ => ⟨rfl, e113, (by decide : 1 + 0 ≤ _), (by decide : 3 + 0 ≤ _)⟩)
  dsimp only [Pt.U, Pt.locs, Pt.cells, Pt.slots] at X120 l120 y120 z120 st120 hQ120
  subst l120 y120 z120
  obtain ⟨hE120, rfl, Eq120⟩ := hQ120
  have Nq120 : Fr n0 ([] : List Loc) := Fr.nil n0
  obtain rfl : vv120 = some (.int 1) := hE120.elim (fun q => q.1) (fun q => absurd rfl q.2)
  have N121 := Fr.app Nh111 Nq120
  obtain ⟨Lh122, Xh122, Nh122⟩ := own_hide (cells' := 1) (slots' := 3) X120 N121 (Nat.le_of_ble_eq_true rfl) (Nat.le_of_ble_eq_true rfl)
  refine ownSt st120 ?_
  clear st120
  show ownG p.tables e below _ (T120.setTop (fr_of2 m a1 28 (.val (.ref x76)) (.val (.int (3 : Int32))) (.val (.int (2 : Int32))) (.val (.ref P2)) [(.int (1 : Int32))]))
  refine ownBy (A := T120.setTop (fr_of2 m a1 33 (.val (.ref x76)) (.val (.int (3 : Int32))) (.val (.int (2 : Int32))) (.val (.ref P2)) [(.ref P2)])) (fun t kt => ?_) ?_
  · refine XS.ifNo Xh122.here hx rfl (hb hby d7_28) rfl ((if0 _ _).trans (feq ((by decide) : ¬ ((1 : Int32) = (0 : Int32)))).1) ?_
    show Steps p.tables e below (T120.setTop (fr_of2 m a1 31 (.val (.ref x76)) (.val (.int (3 : Int32))) (.val (.int (2 : Int32))) (.val (.ref P2)) [])) t
    refine XS.aload Xh122.here hx rfl (hb hby d7_31) rfl rfl ?_
    exact kt
  have f123 := ((Keep.refl h0 []).trans Kq76 all0)
  refine ownRet Xh122 Bd.notSynchronized (v := some (.ref P2)) (fun h => by rw [Bd.returns] at h; cases h) ?_ (Nat.le_of_ble_eq_true rfl) (Nat.le_of_ble_eq_true rfl) (fun fs hr => retOut Xh122 hx Bd.returns rfl (Or.inr (Or.inr (Or.inr (Or.inr ⟨rfl, rfl, rfl⟩)))) (hb hby d7_33) hr)
  show (Q_of2 Z a1 t1 kb9 A kA P0 P1 P2 W0 W1 W2 B0 B1 B2 kb0 kb1 kb2 G1 h0 n0) (some (.ref P2)) T120.heap _
  rw [Eq120]
  exact ⟨rfl, Nh122, f123⟩
abbrev fr_law (m : MethodId) (p1 : Int32) (pc : Nat) (x1_ x2_ x3_ x4_ x5_ x6_ : Slot) (st : List Value) : JFrame := mkF m pc #[.val (.int p1), x1_, x2_, x3_, x4_, x5_, x6_] st
def Q_law (Z : State) (p1 : Int32) (A : Addr) (kA : ClassId) (P0 : Addr) (P1 : Addr) (P2 : Addr) (W0 : Addr) (W1 : Addr) (W2 : Addr) (B0 : Addr) (B1 : Addr) (B2 : Addr) (kb0 : ClassId) (kb1 : ClassId) (kb2 : ClassId) (G1 : Int32) (h0 : Heap) (n0 : Nat) (v : Option Value) (h : Heap) (L : List Loc) : Prop := v = some (.int 1) ∧ Fr n0 L
theorem ef_law (m : MethodId) (x0 : Int32)  : entryFrame m #[(.int x0)] maxLocals = mkF m 0 #[.val (.int x0), .unset, .unset, .unset, .unset, .unset, .unset] [] := by first | (simp [entryFrame, mkF, argsToLocals, Value.category, maxLocals]; done) | rfl
set_option maxRecDepth 65536 in
set_option maxHeartbeats 40000000 in
theorem c_law (l : Launch) (Z : State) (a0 : Array Value) (hw : ∀ d ∈ tables_1, d.before a0 Z = true) (ws : List Jvm.Cond) (p1 : Int32) (A : Addr) (kA : ClassId) (P0 : Addr) (P1 : Addr) (P2 : Addr) (W0 : Addr) (W1 : Addr) (W2 : Addr) (B0 : Addr) (B1 : Addr) (B2 : Addr) (kb0 : ClassId) (kb1 : ClassId) (kb2 : ClassId) (G1 : Int32) (h0 : Heap) (n0 : Nat) (Z0 : n0 ≤ h0.size) (SP0 : Sta Z Z.heap "com/example/quayside/quayside/model/OrderStatus" "PENDING" "Lcom/example/quayside/quayside/model/OrderStatus;" (.ref P0)) (SP1 : Sta Z Z.heap "com/example/quayside/quayside/model/OrderStatus" "READY_FOR_SHIPPING" "Lcom/example/quayside/quayside/model/OrderStatus;" (.ref P1)) (SP2 : Sta Z Z.heap "com/example/quayside/quayside/model/OrderStatus" "SHIPPED" "Lcom/example/quayside/quayside/model/OrderStatus;" (.ref P2)) (SV : Sta Z Z.heap "com/example/quayside/quayside/model/OrderStatus" "$VALUES" "[Lcom/example/quayside/quayside/model/OrderStatus;" (.ref A)) (KV : Arv Z Z.heap A kA (.object "com/example/quayside/quayside/model/OrderStatus") (3 : Int32) [(.ref P0), (.ref P1), (.ref P2)] .null) (EV : Exa Z Z.heap A "[Lcom/example/quayside/quayside/model/OrderStatus;") (EP0 : Exa Z Z.heap P0 "com/example/quayside/quayside/model/OrderStatus") (FP0 : Fld Z Z.heap P0 "com/example/quayside/quayside/model/OrderStatus" "word" "Ljava/lang/String;" (.ref W0)) (EW0 : Exa Z Z.heap W0 "java/lang/String") (FV0 : Fld Z Z.heap W0 "java/lang/String" "value" "[B" (.ref B0)) (FC0 : Fld Z Z.heap W0 "java/lang/String" "coder" "B" (.int (0 : Int32))) (KB0 : Arv Z Z.heap B0 kb0 .byte (7 : Int32) ((([(80 : Int32), (101 : Int32), (110 : Int32), (100 : Int32), (105 : Int32), (110 : Int32), (103 : Int32)] : List Int32).map (fun c => c.toInt8.toInt32)).map Value.int) (.int (0 : Int32))) (EP1 : Exa Z Z.heap P1 "com/example/quayside/quayside/model/OrderStatus") (FP1 : Fld Z Z.heap P1 "com/example/quayside/quayside/model/OrderStatus" "word" "Ljava/lang/String;" (.ref W1)) (EW1 : Exa Z Z.heap W1 "java/lang/String") (FV1 : Fld Z Z.heap W1 "java/lang/String" "value" "[B" (.ref B1)) (FC1 : Fld Z Z.heap W1 "java/lang/String" "coder" "B" (.int (0 : Int32))) (KB1 : Arv Z Z.heap B1 kb1 .byte (18 : Int32) ((([(82 : Int32), (101 : Int32), (97 : Int32), (100 : Int32), (121 : Int32), (32 : Int32), (102 : Int32), (111 : Int32), (114 : Int32), (32 : Int32), (83 : Int32), (104 : Int32), (105 : Int32), (112 : Int32), (112 : Int32), (105 : Int32), (110 : Int32), (103 : Int32)] : List Int32).map (fun c => c.toInt8.toInt32)).map Value.int) (.int (0 : Int32))) (EP2 : Exa Z Z.heap P2 "com/example/quayside/quayside/model/OrderStatus") (FP2 : Fld Z Z.heap P2 "com/example/quayside/quayside/model/OrderStatus" "word" "Ljava/lang/String;" (.ref W2)) (EW2 : Exa Z Z.heap W2 "java/lang/String") (FV2 : Fld Z Z.heap W2 "java/lang/String" "value" "[B" (.ref B2)) (FC2 : Fld Z Z.heap W2 "java/lang/String" "coder" "B" (.int (0 : Int32))) (KB2 : Arv Z Z.heap B2 kb2 .byte (7 : Int32) ((([(83 : Int32), (104 : Int32), (105 : Int32), (112 : Int32), (112 : Int32), (101 : Int32), (100 : Int32)] : List Int32).map (fun c => c.toInt8.toInt32)).map Value.int) (.int (0 : Int32))) (O2 : Sta Z Z.heap "java/lang/String" "COMPACT_STRINGS" "Z" (.int G1)) (P5 : ¬ (G1 = (0 : Int32))) (X00 : Old Z n0 h0) :
    MetFree l x (head1 (Jvm.Cond.code x code maxLocals ret :: ws) room_1) (fun a U => a = #[(.int p1)] ∧ Z.Warmed39 U.vm ∧ U.heap = h0) (fun _ _ _ _ _ => True) (fun _ U o U' => ∃ v L, o = .returned v ∧ (Q_law Z p1 A kA P0 P1 P2 W0 W1 W2 B0 B1 B2 kb0 kb1 kb2 G1 h0 n0) v U'.heap L ∧ FrameEnd U o U' L 24 192) := by
  refine MetFree.of_bodySF (plainFor_of_name pn_124) hisR ?_
  intro p e s m args below meth c s₁ Bd hml0 hP hK
  obtain ⟨rfl, hZ, hh⟩ := hP
  have hx := Bd.exec
  have hby := Bd.bytes
  have hml : c.maxLocals = 7 := hml0
  have hown : s.vm.findClass "com/example/quayside/quayside/model/OrderStatusOfWordPinLaw" = some m.cls := findClass_of_methodNamed Bd.named
  have hnm := (name_of_methodNamed Bd.named Bd.method).1
  have X0 : Stand p l e room_1 s m #[(.int p1)] below meth c s₁ [] 0 0 := Stand.of_body Bd
  have e0 : s₁.heap = h0 := by rw [← hh, Bd.state]; rfl
  have N0 := Fr.nil n0
  refine ownOut (P := (Q_law Z p1 A kA P0 P1 P2 W0 W1 W2 B0 B1 B2 kb0 kb1 kb2 G1 h0 n0)) ?_
  refine ownBy (A := s₁.setTop (mkF m 0 #[.val (.int p1), .unset, .unset, .unset, .unset, .unset, .unset] [])) (fun t k => castTop (ef_law m p1) k) ?_
  have hws : ∀ d ∈ StrChars.Road.words, d.before a0 Z = true := fun d hd => hw d ((by decide +kernel : ∀ d ∈ StrChars.Road.words, d ∈ tables_1) d hd)
  have heq : ∀ d ∈ StrChars.Road.wordsEq, d.before a0 Z = true := fun d hd => hw d ((by decide +kernel : ∀ d ∈ StrChars.Road.wordsEq, d ∈ tables_1) d hd)
  have hpw0 : ∀ c ∈ ([(80 : Int32), (101 : Int32), (110 : Int32), (100 : Int32), (105 : Int32), (110 : Int32), (103 : Int32)] : List Int32), ¬ c < 0 ∧ ¬ (255 : Int32) < c := by decide +kernel
  have hpw1 : ∀ c ∈ ([(82 : Int32), (101 : Int32), (97 : Int32), (100 : Int32), (121 : Int32), (32 : Int32), (102 : Int32), (111 : Int32), (114 : Int32), (32 : Int32), (83 : Int32), (104 : Int32), (105 : Int32), (112 : Int32), (112 : Int32), (105 : Int32), (110 : Int32), (103 : Int32)] : List Int32), ¬ c < 0 ∧ ¬ (255 : Int32) < c := by decide +kernel
  have hpw2 : ∀ c ∈ ([(83 : Int32), (104 : Int32), (105 : Int32), (112 : Int32), (112 : Int32), (101 : Int32), (100 : Int32)] : List Int32), ¬ c < 0 ∧ ¬ (255 : Int32) < c := by decide +kernel
  refine ownBy (A := s₁.setTop (fr_law m p1 1 .unset .unset .unset .unset .unset .unset [(.int p1)])) (fun t kt => ?_) ?_
  · refine XS.iloadN X0.here hx rfl (hb hby at_0) rfl ?_
    exact kt
  refine ownBy (X0.ldcInt hx hown (mvT hZ (Wd0 hw)) (g := (fr_law m p1 1 .unset .unset .unset .unset .unset .unset [(.int p1)])) rfl (hb hby at_1)) ?_
  show ownG p.tables e below _ (s₁.setTop (fr_law m p1 3 .unset .unset .unset .unset .unset .unset [(.int (2147483647 : Int32)), (.int p1)]))
  refine ownBy (A := s₁.setTop (fr_law m p1 8 (.val (.int ((p1 &&& (2147483647 : Int32)) % (3 : Int32)))) .unset .unset .unset .unset .unset [(.int ((p1 &&& (2147483647 : Int32)) % (3 : Int32)))])) (fun t kt => ?_) ?_
  · refine XS.iand X0.here hx rfl (hb hby at_3) rfl ?_
    refine XS.iconst X0.here hx rfl (hb hby at_4) ?_
    show Steps p.tables e below (s₁.setTop (fr_law m p1 5 .unset .unset .unset .unset .unset .unset [(.int (3 : Int32)), (.int (p1 &&& (2147483647 : Int32)))])) t
    refine iremM X0 hx rfl (hb hby at_5) rfl (by decide) ?_
    refine XS.istoreN X0.here hx rfl (hb hby at_6) rfl (l' := #[.val (.int p1), .val (.int ((p1 &&& (2147483647 : Int32)) % (3 : Int32))), .unset, .unset, .unset, .unset, .unset]) rfl ?_
    show Steps p.tables e below (s₁.setTop (fr_law m p1 7 (.val (.int ((p1 &&& (2147483647 : Int32)) % (3 : Int32)))) .unset .unset .unset .unset .unset [])) t
    refine XS.iloadN X0.here hx rfl (hb hby at_7) rfl ?_
    exact kt
  by_cases hc126 : ((p1 &&& (2147483647 : Int32)) % (3 : Int32)) = (0 : Int32)
  · skip
    refine ownBy (A := s₁.setTop (fr_law m p1 11 (.val (.int ((p1 &&& (2147483647 : Int32)) % (3 : Int32)))) .unset .unset .unset .unset .unset [])) (fun t kt => ?_) ?_
    · refine XS.ifNo X0.here hx rfl (hb hby at_8) rfl ((if0 _ _).trans (teq hc126).2) ?_
      exact kt
    obtain ⟨T127, X127, e127, st127⟩ := getS2 X0 hx hZ hown (host := "") (Or.inl (Wd1 hw)) Via.refl e0 (SP0.ext X00.2) (g := (fr_law m p1 11 (.val (.int ((p1 &&& (2147483647 : Int32)) % (3 : Int32)))) .unset .unset .unset .unset .unset [])) rfl (hb hby at_11)
    refine ownBy st127 ?_
    clear st127
    show ownG p.tables e below _ (T127.setTop (fr_law m p1 14 (.val (.int ((p1 &&& (2147483647 : Int32)) % (3 : Int32)))) .unset .unset .unset .unset .unset [(.ref P0)]))
    refine ownBy (A := T127.setTop (fr_law m p1 17 (.val (.int ((p1 &&& (2147483647 : Int32)) % (3 : Int32)))) (.val (.ref P0)) .unset .unset .unset .unset [(.int (7 : Int32))])) (fun t kt => ?_) ?_
    · refine XS.astoreN X127.here hx rfl (hb hby at_14) rfl rfl (l' := #[.val (.int p1), .val (.int ((p1 &&& (2147483647 : Int32)) % (3 : Int32))), .val (.ref P0), .unset, .unset, .unset, .unset]) rfl ?_
      refine XS.bipush X127.here hx rfl (hb hby at_15) ?_
      exact kt
    obtain ⟨T128, h128, k128, X128, e128, E128, A128, st128⟩ := newP X127 hx hZ (aty := .char) (Wd4 hw) e127 (g := (fr_law m p1 17 (.val (.int ((p1 &&& (2147483647 : Int32)) % (3 : Int32)))) (.val (.ref P0)) .unset .unset .unset .unset [(.int (7 : Int32))])) rfl (hb hby at_17) rfl (by decide : ¬ ((7 : Int32) < (0 : Int32))) (cap := 7) (by decide) (by decide) (by decide) (by decide)
    obtain ⟨b128, g128⟩ : ∃ z, z = h0.size := ⟨_, rfl⟩
    rw [← g128] at A128 st128
    have g129 : n0 ≤ b128 := Nat.le_trans Z0 (Nat.le_of_eq g128.symm)
    have z130 : h0.size ≤ b128 := Nat.le_trans (Keep.refl h0 []).1 (Nat.le_of_eq g128.symm)
    have V131 : Arv Z h128 b128 k128 .char (7 : Int32) [(.int (0 : Int32)), (.int (0 : Int32)), (.int (0 : Int32)), (.int (0 : Int32)), (.int (0 : Int32)), (.int (0 : Int32)), (.int (0 : Int32))] (.int (0 : Int32)) := (Arv.new A128 (by decide)).pad (pad_rep [] (.int (0 : Int32)) 7)
    refine ownBy st128 ?_
    clear st128
    show ownG p.tables e below _ (T128.setTop (fr_law m p1 19 (.val (.int ((p1 &&& (2147483647 : Int32)) % (3 : Int32)))) (.val (.ref P0)) .unset .unset .unset .unset [(.ref b128)]))
    refine ownBy (A := T128.setTop (fr_law m p1 23 (.val (.int ((p1 &&& (2147483647 : Int32)) % (3 : Int32)))) (.val (.ref P0)) .unset .unset .unset .unset [(.int (80 : Int32)), (.int (0 : Int32)), (.ref b128), (.ref b128)])) (fun t kt => ?_) ?_
    · refine XS.dup X128.here hx rfl (hb hby at_19) rfl rfl ?_
      refine XS.iconst X128.here hx rfl (hb hby at_20) ?_
      show Steps p.tables e below (T128.setTop (fr_law m p1 21 (.val (.int ((p1 &&& (2147483647 : Int32)) % (3 : Int32)))) (.val (.ref P0)) .unset .unset .unset .unset [(.int (0 : Int32)), (.ref b128), (.ref b128)])) t
      refine XS.bipush X128.here hx rfl (hb hby at_21) ?_
      exact kt
    obtain ⟨cl132, Ar132, q132, S132, N132, H132, G132⟩ := id V131
    have hin132 : ¬ ((0 : Int32) < 0 ∨ cl132.slots.size ≤ ((0 : Int32)).toNatClampNeg) := inb_of S132 ⟨by decide, by decide⟩
    obtain ⟨T132, h132, X132, e132, W132, st132⟩ := stC X128 hx hZ e128 Ar132 (j := (0 : Int32)) hin132 (g := (fr_law m p1 23 (.val (.int ((p1 &&& (2147483647 : Int32)) % (3 : Int32)))) (.val (.ref P0)) .unset .unset .unset .unset [(.int (80 : Int32)), (.int (0 : Int32)), (.ref b128), (.ref b128)])) rfl rfl (hb hby at_23)
    have V133 : Arv Z h132 b128 k128 .char (7 : Int32) [(.int (nar .char (80 : Int32))), (.int (0 : Int32)), (.int (0 : Int32)), (.int (0 : Int32)), (.int (0 : Int32)), (.int (0 : Int32)), (.int (0 : Int32))] (.int (0 : Int32)) := Arv.set Ar132 q132 S132 N132 H132 G132 (fits_nar_char _) W132 0 rfl (Nat.le_of_ble_eq_true rfl)
    rw [own_nl_char_80] at V133
    clear hin132 G132 H132 N132 S132 q132 Ar132 cl132 V131
    have N134 := Fr.snoc X132 N0 g129
    obtain ⟨Lh135, Xh135, Nh135⟩ := own_hide (cells' := 1) (slots' := 7) X132 N134 (Nat.le_of_ble_eq_true rfl) (Nat.le_of_ble_eq_true rfl)
    refine ownBy st132 ?_
    clear st132
    show ownG p.tables e below _ (T132.setTop (fr_law m p1 24 (.val (.int ((p1 &&& (2147483647 : Int32)) % (3 : Int32)))) (.val (.ref P0)) .unset .unset .unset .unset [(.ref b128)]))
    refine ownBy (A := T132.setTop (fr_law m p1 28 (.val (.int ((p1 &&& (2147483647 : Int32)) % (3 : Int32)))) (.val (.ref P0)) .unset .unset .unset .unset [(.int (101 : Int32)), (.int (1 : Int32)), (.ref b128), (.ref b128)])) (fun t kt => ?_) ?_
    · refine XS.dup Xh135.here hx rfl (hb hby at_24) rfl rfl ?_
      refine XS.iconst Xh135.here hx rfl (hb hby at_25) ?_
      show Steps p.tables e below (T132.setTop (fr_law m p1 26 (.val (.int ((p1 &&& (2147483647 : Int32)) % (3 : Int32)))) (.val (.ref P0)) .unset .unset .unset .unset [(.int (1 : Int32)), (.ref b128), (.ref b128)])) t
      refine XS.bipush Xh135.here hx rfl (hb hby at_26) ?_
      exact kt
    obtain ⟨cl136, Ar136, q136, S136, N136, H136, G136⟩ := id V133
    have hin136 : ¬ ((1 : Int32) < 0 ∨ cl136.slots.size ≤ ((1 : Int32)).toNatClampNeg) := inb_of S136 ⟨by decide, by decide⟩
    obtain ⟨T136, h136, X136, e136, W136, st136⟩ := stC Xh135 hx hZ e132 Ar136 (j := (1 : Int32)) hin136 (g := (fr_law m p1 28 (.val (.int ((p1 &&& (2147483647 : Int32)) % (3 : Int32)))) (.val (.ref P0)) .unset .unset .unset .unset [(.int (101 : Int32)), (.int (1 : Int32)), (.ref b128), (.ref b128)])) rfl rfl (hb hby at_28)
    have V137 : Arv Z h136 b128 k128 .char (7 : Int32) [(.int (80 : Int32)), (.int (nar .char (101 : Int32))), (.int (0 : Int32)), (.int (0 : Int32)), (.int (0 : Int32)), (.int (0 : Int32)), (.int (0 : Int32))] (.int (0 : Int32)) := Arv.set Ar136 q136 S136 N136 H136 G136 (fits_nar_char _) W136 1 rfl (Nat.le_of_ble_eq_true rfl)
    rw [own_nl_char_101] at V137
    clear hin136 G136 H136 N136 S136 q136 Ar136 cl136 V133
    have N138 := Fr.snoc X136 Nh135 g129
    obtain ⟨Lh139, Xh139, Nh139⟩ := own_hide (cells' := 1) (slots' := 7) X136 N138 (Nat.le_of_ble_eq_true rfl) (Nat.le_of_ble_eq_true rfl)
    refine ownBy st136 ?_
    clear st136
    show ownG p.tables e below _ (T136.setTop (fr_law m p1 29 (.val (.int ((p1 &&& (2147483647 : Int32)) % (3 : Int32)))) (.val (.ref P0)) .unset .unset .unset .unset [(.ref b128)]))
    refine ownBy (A := T136.setTop (fr_law m p1 33 (.val (.int ((p1 &&& (2147483647 : Int32)) % (3 : Int32)))) (.val (.ref P0)) .unset .unset .unset .unset [(.int (110 : Int32)), (.int (2 : Int32)), (.ref b128), (.ref b128)])) (fun t kt => ?_) ?_
    · refine XS.dup Xh139.here hx rfl (hb hby at_29) rfl rfl ?_
      refine XS.iconst Xh139.here hx rfl (hb hby at_30) ?_
      show Steps p.tables e below (T136.setTop (fr_law m p1 31 (.val (.int ((p1 &&& (2147483647 : Int32)) % (3 : Int32)))) (.val (.ref P0)) .unset .unset .unset .unset [(.int (2 : Int32)), (.ref b128), (.ref b128)])) t
      refine XS.bipush Xh139.here hx rfl (hb hby at_31) ?_
      exact kt
    obtain ⟨cl140, Ar140, q140, S140, N140, H140, G140⟩ := id V137
    have hin140 : ¬ ((2 : Int32) < 0 ∨ cl140.slots.size ≤ ((2 : Int32)).toNatClampNeg) := inb_of S140 ⟨by decide, by decide⟩
    obtain ⟨T140, h140, X140, e140, W140, st140⟩ := stC Xh139 hx hZ e136 Ar140 (j := (2 : Int32)) hin140 (g := (fr_law m p1 33 (.val (.int ((p1 &&& (2147483647 : Int32)) % (3 : Int32)))) (.val (.ref P0)) .unset .unset .unset .unset [(.int (110 : Int32)), (.int (2 : Int32)), (.ref b128), (.ref b128)])) rfl rfl (hb hby at_33)
    have V141 : Arv Z h140 b128 k128 .char (7 : Int32) [(.int (80 : Int32)), (.int (101 : Int32)), (.int (nar .char (110 : Int32))), (.int (0 : Int32)), (.int (0 : Int32)), (.int (0 : Int32)), (.int (0 : Int32))] (.int (0 : Int32)) := Arv.set Ar140 q140 S140 N140 H140 G140 (fits_nar_char _) W140 2 rfl (Nat.le_of_ble_eq_true rfl)
    rw [own_nl_char_110] at V141
    clear hin140 G140 H140 N140 S140 q140 Ar140 cl140 V137
    have N142 := Fr.snoc X140 Nh139 g129
    obtain ⟨Lh143, Xh143, Nh143⟩ := own_hide (cells' := 1) (slots' := 7) X140 N142 (Nat.le_of_ble_eq_true rfl) (Nat.le_of_ble_eq_true rfl)
    refine ownBy st140 ?_
    clear st140
    show ownG p.tables e below _ (T140.setTop (fr_law m p1 34 (.val (.int ((p1 &&& (2147483647 : Int32)) % (3 : Int32)))) (.val (.ref P0)) .unset .unset .unset .unset [(.ref b128)]))
    refine ownBy (A := T140.setTop (fr_law m p1 38 (.val (.int ((p1 &&& (2147483647 : Int32)) % (3 : Int32)))) (.val (.ref P0)) .unset .unset .unset .unset [(.int (100 : Int32)), (.int (3 : Int32)), (.ref b128), (.ref b128)])) (fun t kt => ?_) ?_
    · refine XS.dup Xh143.here hx rfl (hb hby at_34) rfl rfl ?_
      refine XS.iconst Xh143.here hx rfl (hb hby at_35) ?_
      show Steps p.tables e below (T140.setTop (fr_law m p1 36 (.val (.int ((p1 &&& (2147483647 : Int32)) % (3 : Int32)))) (.val (.ref P0)) .unset .unset .unset .unset [(.int (3 : Int32)), (.ref b128), (.ref b128)])) t
      refine XS.bipush Xh143.here hx rfl (hb hby at_36) ?_
      exact kt
    obtain ⟨cl144, Ar144, q144, S144, N144, H144, G144⟩ := id V141
    have hin144 : ¬ ((3 : Int32) < 0 ∨ cl144.slots.size ≤ ((3 : Int32)).toNatClampNeg) := inb_of S144 ⟨by decide, by decide⟩
    obtain ⟨T144, h144, X144, e144, W144, st144⟩ := stC Xh143 hx hZ e140 Ar144 (j := (3 : Int32)) hin144 (g := (fr_law m p1 38 (.val (.int ((p1 &&& (2147483647 : Int32)) % (3 : Int32)))) (.val (.ref P0)) .unset .unset .unset .unset [(.int (100 : Int32)), (.int (3 : Int32)), (.ref b128), (.ref b128)])) rfl rfl (hb hby at_38)
    have V145 : Arv Z h144 b128 k128 .char (7 : Int32) [(.int (80 : Int32)), (.int (101 : Int32)), (.int (110 : Int32)), (.int (nar .char (100 : Int32))), (.int (0 : Int32)), (.int (0 : Int32)), (.int (0 : Int32))] (.int (0 : Int32)) := Arv.set Ar144 q144 S144 N144 H144 G144 (fits_nar_char _) W144 3 rfl (Nat.le_of_ble_eq_true rfl)
    rw [own_nl_char_100] at V145
    clear hin144 G144 H144 N144 S144 q144 Ar144 cl144 V141
    have N146 := Fr.snoc X144 Nh143 g129
    obtain ⟨Lh147, Xh147, Nh147⟩ := own_hide (cells' := 1) (slots' := 7) X144 N146 (Nat.le_of_ble_eq_true rfl) (Nat.le_of_ble_eq_true rfl)
    refine ownBy st144 ?_
    clear st144
    show ownG p.tables e below _ (T144.setTop (fr_law m p1 39 (.val (.int ((p1 &&& (2147483647 : Int32)) % (3 : Int32)))) (.val (.ref P0)) .unset .unset .unset .unset [(.ref b128)]))
    refine ownBy (A := T144.setTop (fr_law m p1 43 (.val (.int ((p1 &&& (2147483647 : Int32)) % (3 : Int32)))) (.val (.ref P0)) .unset .unset .unset .unset [(.int (105 : Int32)), (.int (4 : Int32)), (.ref b128), (.ref b128)])) (fun t kt => ?_) ?_
    · refine XS.dup Xh147.here hx rfl (hb hby at_39) rfl rfl ?_
      refine XS.iconst Xh147.here hx rfl (hb hby at_40) ?_
      show Steps p.tables e below (T144.setTop (fr_law m p1 41 (.val (.int ((p1 &&& (2147483647 : Int32)) % (3 : Int32)))) (.val (.ref P0)) .unset .unset .unset .unset [(.int (4 : Int32)), (.ref b128), (.ref b128)])) t
      refine XS.bipush Xh147.here hx rfl (hb hby at_41) ?_
      exact kt
    obtain ⟨cl148, Ar148, q148, S148, N148, H148, G148⟩ := id V145
    have hin148 : ¬ ((4 : Int32) < 0 ∨ cl148.slots.size ≤ ((4 : Int32)).toNatClampNeg) := inb_of S148 ⟨by decide, by decide⟩
    obtain ⟨T148, h148, X148, e148, W148, st148⟩ := stC Xh147 hx hZ e144 Ar148 (j := (4 : Int32)) hin148 (g := (fr_law m p1 43 (.val (.int ((p1 &&& (2147483647 : Int32)) % (3 : Int32)))) (.val (.ref P0)) .unset .unset .unset .unset [(.int (105 : Int32)), (.int (4 : Int32)), (.ref b128), (.ref b128)])) rfl rfl (hb hby at_43)
    have V149 : Arv Z h148 b128 k128 .char (7 : Int32) [(.int (80 : Int32)), (.int (101 : Int32)), (.int (110 : Int32)), (.int (100 : Int32)), (.int (nar .char (105 : Int32))), (.int (0 : Int32)), (.int (0 : Int32))] (.int (0 : Int32)) := Arv.set Ar148 q148 S148 N148 H148 G148 (fits_nar_char _) W148 4 rfl (Nat.le_of_ble_eq_true rfl)
    rw [own_nl_char_105] at V149
    clear hin148 G148 H148 N148 S148 q148 Ar148 cl148 V145
    have N150 := Fr.snoc X148 Nh147 g129
    obtain ⟨Lh151, Xh151, Nh151⟩ := own_hide (cells' := 1) (slots' := 7) X148 N150 (Nat.le_of_ble_eq_true rfl) (Nat.le_of_ble_eq_true rfl)
    refine ownBy st148 ?_
    clear st148
    show ownG p.tables e below _ (T148.setTop (fr_law m p1 44 (.val (.int ((p1 &&& (2147483647 : Int32)) % (3 : Int32)))) (.val (.ref P0)) .unset .unset .unset .unset [(.ref b128)]))
    refine ownBy (A := T148.setTop (fr_law m p1 48 (.val (.int ((p1 &&& (2147483647 : Int32)) % (3 : Int32)))) (.val (.ref P0)) .unset .unset .unset .unset [(.int (110 : Int32)), (.int (5 : Int32)), (.ref b128), (.ref b128)])) (fun t kt => ?_) ?_
    · refine XS.dup Xh151.here hx rfl (hb hby at_44) rfl rfl ?_
      refine XS.iconst Xh151.here hx rfl (hb hby at_45) ?_
      show Steps p.tables e below (T148.setTop (fr_law m p1 46 (.val (.int ((p1 &&& (2147483647 : Int32)) % (3 : Int32)))) (.val (.ref P0)) .unset .unset .unset .unset [(.int (5 : Int32)), (.ref b128), (.ref b128)])) t
      refine XS.bipush Xh151.here hx rfl (hb hby at_46) ?_
      exact kt
    obtain ⟨cl152, Ar152, q152, S152, N152, H152, G152⟩ := id V149
    have hin152 : ¬ ((5 : Int32) < 0 ∨ cl152.slots.size ≤ ((5 : Int32)).toNatClampNeg) := inb_of S152 ⟨by decide, by decide⟩
    obtain ⟨T152, h152, X152, e152, W152, st152⟩ := stC Xh151 hx hZ e148 Ar152 (j := (5 : Int32)) hin152 (g := (fr_law m p1 48 (.val (.int ((p1 &&& (2147483647 : Int32)) % (3 : Int32)))) (.val (.ref P0)) .unset .unset .unset .unset [(.int (110 : Int32)), (.int (5 : Int32)), (.ref b128), (.ref b128)])) rfl rfl (hb hby at_48)
    have V153 : Arv Z h152 b128 k128 .char (7 : Int32) [(.int (80 : Int32)), (.int (101 : Int32)), (.int (110 : Int32)), (.int (100 : Int32)), (.int (105 : Int32)), (.int (nar .char (110 : Int32))), (.int (0 : Int32))] (.int (0 : Int32)) := Arv.set Ar152 q152 S152 N152 H152 G152 (fits_nar_char _) W152 5 rfl (Nat.le_of_ble_eq_true rfl)
    rw [own_nl_char_110] at V153
    clear hin152 G152 H152 N152 S152 q152 Ar152 cl152 V149
    have N154 := Fr.snoc X152 Nh151 g129
    obtain ⟨Lh155, Xh155, Nh155⟩ := own_hide (cells' := 1) (slots' := 7) X152 N154 (Nat.le_of_ble_eq_true rfl) (Nat.le_of_ble_eq_true rfl)
    refine ownBy st152 ?_
    clear st152
    show ownG p.tables e below _ (T152.setTop (fr_law m p1 49 (.val (.int ((p1 &&& (2147483647 : Int32)) % (3 : Int32)))) (.val (.ref P0)) .unset .unset .unset .unset [(.ref b128)]))
    refine ownBy (A := T152.setTop (fr_law m p1 54 (.val (.int ((p1 &&& (2147483647 : Int32)) % (3 : Int32)))) (.val (.ref P0)) .unset .unset .unset .unset [(.int (103 : Int32)), (.int (6 : Int32)), (.ref b128), (.ref b128)])) (fun t kt => ?_) ?_
    · refine XS.dup Xh155.here hx rfl (hb hby at_49) rfl rfl ?_
      refine XS.bipush Xh155.here hx rfl (hb hby at_50) ?_
      show Steps p.tables e below (T152.setTop (fr_law m p1 52 (.val (.int ((p1 &&& (2147483647 : Int32)) % (3 : Int32)))) (.val (.ref P0)) .unset .unset .unset .unset [(.int (6 : Int32)), (.ref b128), (.ref b128)])) t
      refine XS.bipush Xh155.here hx rfl (hb hby at_52) ?_
      exact kt
    obtain ⟨cl156, Ar156, q156, S156, N156, H156, G156⟩ := id V153
    have hin156 : ¬ ((6 : Int32) < 0 ∨ cl156.slots.size ≤ ((6 : Int32)).toNatClampNeg) := inb_of S156 ⟨by decide, by decide⟩
    obtain ⟨T156, h156, X156, e156, W156, st156⟩ := stC Xh155 hx hZ e152 Ar156 (j := (6 : Int32)) hin156 (g := (fr_law m p1 54 (.val (.int ((p1 &&& (2147483647 : Int32)) % (3 : Int32)))) (.val (.ref P0)) .unset .unset .unset .unset [(.int (103 : Int32)), (.int (6 : Int32)), (.ref b128), (.ref b128)])) rfl rfl (hb hby at_54)
    have V157 : Arv Z h156 b128 k128 .char (7 : Int32) [(.int (80 : Int32)), (.int (101 : Int32)), (.int (110 : Int32)), (.int (100 : Int32)), (.int (105 : Int32)), (.int (110 : Int32)), (.int (nar .char (103 : Int32)))] (.int (0 : Int32)) := Arv.set Ar156 q156 S156 N156 H156 G156 (fits_nar_char _) W156 6 rfl (Nat.le_of_ble_eq_true rfl)
    rw [own_nl_char_103] at V157
    clear hin156 G156 H156 N156 S156 q156 Ar156 cl156 V153
    have N158 := Fr.snoc X156 Nh155 g129
    obtain ⟨Lh159, Xh159, Nh159⟩ := own_hide (cells' := 1) (slots' := 7) X156 N158 (Nat.le_of_ble_eq_true rfl) (Nat.le_of_ble_eq_true rfl)
    refine ownBy st156 ?_
    clear st156
    show ownG p.tables e below _ (T156.setTop (fr_law m p1 55 (.val (.int ((p1 &&& (2147483647 : Int32)) % (3 : Int32)))) (.val (.ref P0)) .unset .unset .unset .unset [(.ref b128)]))
    refine ownBy (A := T156.setTop (fr_law m p1 223 (.val (.int ((p1 &&& (2147483647 : Int32)) % (3 : Int32)))) (.val (.ref P0)) (.val (.ref b128)) .unset .unset .unset [])) (fun t kt => ?_) ?_
    · refine XS.astoreN Xh159.here hx rfl (hb hby at_55) rfl rfl (l' := #[.val (.int p1), .val (.int ((p1 &&& (2147483647 : Int32)) % (3 : Int32))), .val (.ref P0), .val (.ref b128), .unset, .unset, .unset]) rfl ?_
      refine XS.goto Xh159.here hx rfl (pc0 := 56) (pc' := 223) rfl (hb hby at_56) (by decide) (by decide) ?_
      exact kt
    obtain ⟨T160, h160, X160, e160, E160, A160, D160, -, st160⟩ := newO Xh159 hx hZ hown (Wd5 hw) (Wd6 hw) (Wd7 hw) e156 (g := (fr_law m p1 223 (.val (.int ((p1 &&& (2147483647 : Int32)) % (3 : Int32)))) (.val (.ref P0)) (.val (.ref b128)) .unset .unset .unset [])) rfl (hb hby at_223) (by decide) (by decide)
    obtain ⟨b160, g160⟩ : ∃ z, z = h156.size := ⟨_, rfl⟩
    rw [← g160] at A160 D160 st160
    have ne161 : b128 ≠ b160 := Nat.ne_of_lt (Nat.lt_of_lt_of_le V157.lt (Nat.le_of_eq g160.symm))
    have f163 := (Nat.le_trans (Nat.le_trans (Nat.le_trans (Nat.le_trans (Nat.le_trans (Nat.le_trans (Nat.le_trans (Nat.le_trans Z0 E128.1) (Keep.of_wr W132).1) (Keep.of_wr W136).1) (Keep.of_wr W140).1) (Keep.of_wr W144).1) (Keep.of_wr W148).1) (Keep.of_wr W152).1) (Keep.of_wr W156).1)
    have g162 : n0 ≤ b160 := Nat.le_trans f163 (Nat.le_of_eq g160.symm)
    have f165 := (((((((((Keep.refl h0 []).ext E128).wr W132 (Or.inr z130)).wr W136 (Or.inr z130)).wr W140 (Or.inr z130)).wr W144 (Or.inr z130)).wr W148 (Or.inr z130)).wr W152 (Or.inr z130)).wr W156 (Or.inr z130))
    have z164 : h0.size ≤ b160 := Nat.le_trans f165.1 (Nat.le_of_eq g160.symm)
    have F166 : Fld Z h160 b160 "java/lang/String" "coder" "B" (.int (0 : Int32)) := D160 (Or.inr (Wd31 hw)) (ty := .byte) (by decide)
    have F167 : Fld Z h160 b160 "java/lang/String" "value" "[B" .null := D160 (Or.inr (Wd33 hw)) (ty := (.array .byte)) (by decide)
    refine ownBy st160 ?_
    clear st160
    show ownG p.tables e below _ (T160.setTop (fr_law m p1 226 (.val (.int ((p1 &&& (2147483647 : Int32)) % (3 : Int32)))) (.val (.ref P0)) (.val (.ref b128)) .unset .unset .unset [(.ref b160)]))
    refine ownBy (A := T160.setTop (fr_law m p1 228 (.val (.int ((p1 &&& (2147483647 : Int32)) % (3 : Int32)))) (.val (.ref P0)) (.val (.ref b128)) .unset .unset .unset [(.ref b128), (.ref b160), (.ref b160)])) (fun t kt => ?_) ?_
    · refine XS.dup X160.here hx rfl (hb hby at_226) rfl rfl ?_
      refine XS.aloadN X160.here hx rfl (hb hby at_227) rfl rfl ?_
      exact kt
    have hp168 : ∀ c ∈ ([(80 : Int32), (101 : Int32), (110 : Int32), (100 : Int32), (105 : Int32), (110 : Int32), (103 : Int32)] : List Int32), ¬ c < 0 ∧ ¬ (255 : Int32) < c := by
      intro c hc
      simp only [List.mem_cons, List.not_mem_nil, or_false] at hc
      rcases hc with rfl | rfl | rfl | rfl | rfl | rfl | rfl
      · exact (by decide)
      · exact (by decide)
      · exact (by decide)
      · exact (by decide)
      · exact (by decide)
      · exact (by decide)
      · exact (by decide)
    have f169 := (Nat.le_trans f163 E160.1)
    have f170 := (V157.ext E160)
    have f171 := (((((((((X00.ext E128).wr W132 g129).wr W136 g129).wr W140 g129).wr W144 g129).wr W148 g129).wr W152 g129).wr W156 g129).ext E160)
    obtain ⟨vv172, _, ⟨T172, L172, k172, n172⟩, -, X172, ⟨Lc172, hQ172, l172, y172, z172⟩, st172⟩ := X160.specialBack hx (y := (⟨"java/lang/String", "<init>", "([C)V"⟩ : MethodName)) rfl hown (mvT hZ (Wd8 hw)) (mvT hZ (Wd9 hw)) (mvT hZ (Wd10 hw)) (by decide) (StrChars.Road.backV (W := 1) hZ hws (kI := 4) (Wd6 hw) (cs := ([(80 : Int32), (101 : Int32), (110 : Int32), (100 : Int32), (105 : Int32), (110 : Int32), (103 : Int32)] : List Int32)) (bs := (([(80 : Int32), (101 : Int32), (110 : Int32), (100 : Int32), (105 : Int32), (110 : Int32), (103 : Int32)] : List Int32)).map (fun c => c.toInt8.toInt32)) (n := 7) g162 f169 A160 F167 F166 f170 (O2.ext f171.2) P5 rfl rfl (by decide) (by decide) hp168 rfl (by decide) (by decide)) (g := (fr_law m p1 228 (.val (.int ((p1 &&& (2147483647 : Int32)) % (3 : Int32)))) (.val (.ref P0)) (.val (.ref b128)) .unset .unset .unset [(.ref b128), (.ref b160), (.ref b160)])) rfl (by rw [hml]; rfl) (Steps.refl _) (a := b160) (argsL := [(.ref b128)]) (rest := [(.ref b160)]) (lenOf pd_173 rfl) rfl (by show 2 * 0 + _ ≤ _; exact Nat.le_of_eq rfl) (hb hby at_228) (fun _ _ => ⟨rfl, e160, (by decide : 2 + 1 ≤ _), (by decide : 11 + 7 ≤ _)⟩)
    dsimp only [Pt.U, Pt.locs, Pt.cells, Pt.slots] at X172 l172 y172 z172 st172 hQ172
    subst l172 y172 z172
    obtain ⟨rfl, Nq172, Kq172, Eq172, Cq172, t172, kb172, u172, v172, w172, Vq172, Aq172⟩ := hQ172
    have ne174 : b128 ≠ t172 := Nat.ne_of_lt (Nat.lt_of_lt_of_le f170.lt v172)
    have ne175 : b160 ≠ t172 := Nat.ne_of_lt (Nat.lt_of_lt_of_le A160.lt v172)
    have g176 : n0 ≤ t172 := Nat.le_trans f169 v172
    have f178 := (f165.ext E160)
    have z177 : h0.size ≤ t172 := Nat.le_trans f178.1 v172
    have N179 := Fr.app Nh159 Nq172
    obtain ⟨Lh180, Xh180, Nh180⟩ := own_hide (cells' := 3) (slots' := 18) X172 N179 (Nat.le_of_ble_eq_true rfl) (Nat.le_of_ble_eq_true rfl)
    refine ownSt st172 ?_
    clear st172
    show ownG p.tables e below _ (T172.setTop (fr_law m p1 231 (.val (.int ((p1 &&& (2147483647 : Int32)) % (3 : Int32)))) (.val (.ref P0)) (.val (.ref b128)) .unset .unset .unset [(.ref b160)]))
    refine ownBy (A := T172.setTop (fr_law m p1 235 (.val (.int ((p1 &&& (2147483647 : Int32)) % (3 : Int32)))) (.val (.ref P0)) (.val (.ref b128)) (.val (.ref b160)) .unset .unset [(.ref b160)])) (fun t kt => ?_) ?_
    · refine XS.astore Xh180.here hx rfl (hb hby at_231) rfl rfl (l' := #[.val (.int p1), .val (.int ((p1 &&& (2147483647 : Int32)) % (3 : Int32))), .val (.ref P0), .val (.ref b128), .val (.ref b160), .unset, .unset]) rfl ?_
      refine XS.aload Xh180.here hx rfl (hb hby at_233) rfl rfl ?_
      exact kt
    have f181 := (A160.keep Kq172)
    have f182 := (f171.keep Kq172 (allS g162 all0))
    have f183 := (Nat.le_trans f169 Kq172.1)
    obtain ⟨vv184, _, ⟨T184, L184, k184, n184⟩, -, X184, ⟨Lc184, hQ184, l184, y184, z184⟩, st184⟩ := Jvm.LawKit.callS Xh180 hx (y := (⟨"com/example/quayside/quayside/model/OrderStatus", "ofWord", "(Ljava/lang/String;)Lcom/example/quayside/quayside/model/OrderStatus;"⟩ : MethodName)) hown (mvT hZ (Wd34 hw)) (mvT hZ (Wd35 hw)) (mvT hZ (Wd2 hw)) (mvT hZ (Wd36 hw)) (by decide) (backOf (W := 0) (c_of0 l Z a0 hw [] b160 t172 kb172 A kA P0 P1 P2 W0 W1 W2 B0 B1 B2 kb0 kb1 kb2 G1 T172.heap n0 f183 f181 Vq172 Cq172 Aq172 hp168 SV KV EV EP0 FP0 EW0 FV0 FC0 KB0 EP1 FP1 EW1 FV1 FC1 KB1 EP2 FP2 EW2 FV2 FC2 KB2 O2 P5 f182) hZ (Wd36 hw) (Wd2 hw) (by decide) (by decide)) (g := (fr_law m p1 235 (.val (.int ((p1 &&& (2147483647 : Int32)) % (3 : Int32)))) (.val (.ref P0)) (.val (.ref b128)) (.val (.ref b160)) .unset .unset [(.ref b160)])) rfl (by rw [hml]; rfl) (argsL := [(.ref b160)]) (rest := []) (lenOf pd_185 rfl) rfl (by show 2 * 0 + _ ≤ _; exact Nat.le_of_eq rfl) (hb hby at_235) (fun _ _ => ⟨rfl, rfl, (by decide : 3 + 1 ≤ _), (by decide : 18 + 3 ≤ _)⟩)
    dsimp only [Pt.U, Pt.locs, Pt.cells, Pt.slots] at X184 l184 y184 z184 st184 hQ184
    subst l184 y184 z184
    obtain ⟨rfl, Nq184, Kq184⟩ := hQ184
    have N186 := Fr.app Nh180 Nq184
    obtain ⟨Lh187, Xh187, Nh187⟩ := own_hide (cells' := 4) (slots' := 21) X184 N186 (Nat.le_of_ble_eq_true rfl) (Nat.le_of_ble_eq_true rfl)
    refine ownBy st184 ?_
    clear st184
    show ownG p.tables e below _ (T184.setTop (fr_law m p1 238 (.val (.int ((p1 &&& (2147483647 : Int32)) % (3 : Int32)))) (.val (.ref P0)) (.val (.ref b128)) (.val (.ref b160)) .unset .unset [(.ref P0)]))
    refine ownBy (A := T184.setTop (fr_law m p1 241 (.val (.int ((p1 &&& (2147483647 : Int32)) % (3 : Int32)))) (.val (.ref P0)) (.val (.ref b128)) (.val (.ref b160)) (.val (.ref P0)) .unset [(.ref P0)])) (fun t kt => ?_) ?_
    · refine XS.astore Xh187.here hx rfl (hb hby at_238) rfl rfl (l' := #[.val (.int p1), .val (.int ((p1 &&& (2147483647 : Int32)) % (3 : Int32))), .val (.ref P0), .val (.ref b128), .val (.ref b160), .val (.ref P0), .unset]) rfl ?_
      refine XS.aloadN Xh187.here hx rfl (hb hby at_240) rfl rfl ?_
      exact kt
    have f188 := (f182.keep Kq184 all0)
    have f189 := FP0.ext f188.2
    have f190 := (Nat.le_trans f183 Kq184.1)
    have f193 := EP0.ext f188.2
    obtain ⟨cq191, kq191, q191a, q191b, q191c⟩ := isOf hZ rfl f193
    obtain ⟨vv191, _, ⟨T191, L191, k191, n191⟩, -, X191, ⟨Lc191, hQ191, l191, y191, z191⟩, st191⟩ := Xh187.virtualBack hx (y := (⟨"com/example/quayside/quayside/model/OrderStatus", "getWord", "()Ljava/lang/String;"⟩ : MethodName)) (z := (⟨"com/example/quayside/quayside/model/OrderStatus", "getWord", "()Ljava/lang/String;"⟩ : MethodName)) hown (mvT hZ (Wd66 hw)) (mvT hZ (Wd67 hw)) (notFace_of_selects (args := #[]) (mvT hZ (Wd69 hw))) (mvT hZ (Wd69 hw)) (mvT hZ (Wd68 hw)) (by decide) (backOf (W := 0) (c_gword l Z a0 hw [] P0 (.ref W0) T184.heap n0 f190 f189 rfl) hZ (Wd70 hw) (Wd2 hw) (by decide) (by decide)) q191a q191c (g := (fr_law m p1 241 (.val (.int ((p1 &&& (2147483647 : Int32)) % (3 : Int32)))) (.val (.ref P0)) (.val (.ref b128)) (.val (.ref b160)) (.val (.ref P0)) .unset [(.ref P0)])) rfl (by rw [hml]; rfl) (Steps.refl _) (argsL := []) (rest := []) (lenOf pd_192 rfl) rfl (by show 2 * 0 + _ ≤ _; exact Nat.le_of_eq rfl) (hb hby at_241) (fun _ _ => ⟨rfl, rfl, (by decide : 4 + 0 ≤ _), (by decide : 21 + 0 ≤ _)⟩)
    dsimp only [Pt.U, Pt.locs, Pt.cells, Pt.slots] at X191 l191 y191 z191 st191 hQ191
    subst l191 y191 z191
    obtain ⟨rfl, Nq191, Eq191⟩ := hQ191
    have N194 := Fr.app Nh187 Nq191
    obtain ⟨Lh195, Xh195, Nh195⟩ := own_hide (cells' := 4) (slots' := 21) X191 N194 (Nat.le_of_ble_eq_true rfl) (Nat.le_of_ble_eq_true rfl)
    refine ownSt st191 ?_
    clear st191
    show ownG p.tables e below _ (T191.setTop (fr_law m p1 244 (.val (.int ((p1 &&& (2147483647 : Int32)) % (3 : Int32)))) (.val (.ref P0)) (.val (.ref b128)) (.val (.ref b160)) (.val (.ref P0)) .unset [(.ref W0)]))
    have f196 := EW0.ext f188.2
    have f197 := FV0.ext f188.2
    have f198 := FC0.ext f188.2
    have f199 := KB0.ext f188.2
    obtain ⟨vv200, _, ⟨T200, L200, k200, n200⟩, -, X200, ⟨Lc200, hQ200, l200, y200, z200⟩, st200⟩ := Jvm.LawKit.callS Xh195 hx (y := (⟨"com/example/quayside/quayside/model/OrderStatus", "ofWord", "(Ljava/lang/String;)Lcom/example/quayside/quayside/model/OrderStatus;"⟩ : MethodName)) hown (mvT hZ (Wd34 hw)) (mvT hZ (Wd35 hw)) (mvT hZ (Wd2 hw)) (mvT hZ (Wd36 hw)) (by decide) (backOf (W := 0) (c_of0 l Z a0 hw [] W0 B0 kb0 A kA P0 P1 P2 W0 W1 W2 B0 B1 B2 kb0 kb1 kb2 G1 T184.heap n0 f190 f196 f197 f198 f199 hpw0 SV KV EV EP0 FP0 EW0 FV0 FC0 KB0 EP1 FP1 EW1 FV1 FC1 KB1 EP2 FP2 EW2 FV2 FC2 KB2 O2 P5 f188) hZ (Wd36 hw) (Wd2 hw) (by decide) (by decide)) (g := (fr_law m p1 244 (.val (.int ((p1 &&& (2147483647 : Int32)) % (3 : Int32)))) (.val (.ref P0)) (.val (.ref b128)) (.val (.ref b160)) (.val (.ref P0)) .unset [(.ref W0)])) rfl (by rw [hml]; rfl) (argsL := [(.ref W0)]) (rest := []) (lenOf pd_185 rfl) rfl (by show 2 * 0 + _ ≤ _; exact Nat.le_of_eq rfl) (hb hby at_244) (fun _ _ => ⟨rfl, Eq191, (by decide : 4 + 1 ≤ _), (by decide : 21 + 3 ≤ _)⟩)
    dsimp only [Pt.U, Pt.locs, Pt.cells, Pt.slots] at X200 l200 y200 z200 st200 hQ200
    subst l200 y200 z200
    obtain ⟨rfl, Nq200, Kq200⟩ := hQ200
    have N201 := Fr.app Nh195 Nq200
    obtain ⟨Lh202, Xh202, Nh202⟩ := own_hide (cells' := 5) (slots' := 24) X200 N201 (Nat.le_of_ble_eq_true rfl) (Nat.le_of_ble_eq_true rfl)
    refine ownBy st200 ?_
    clear st200
    show ownG p.tables e below _ (T200.setTop (fr_law m p1 247 (.val (.int ((p1 &&& (2147483647 : Int32)) % (3 : Int32)))) (.val (.ref P0)) (.val (.ref b128)) (.val (.ref b160)) (.val (.ref P0)) .unset [(.ref P0)]))
    refine ownBy (A := T200.setTop (fr_law m p1 262 (.val (.int ((p1 &&& (2147483647 : Int32)) % (3 : Int32)))) (.val (.ref P0)) (.val (.ref b128)) (.val (.ref b160)) (.val (.ref P0)) (.val (.ref P0)) [(.ref P0)])) (fun t kt => ?_) ?_
    · refine XS.astore Xh202.here hx rfl (hb hby at_247) rfl rfl (l' := #[.val (.int p1), .val (.int ((p1 &&& (2147483647 : Int32)) % (3 : Int32))), .val (.ref P0), .val (.ref b128), .val (.ref b160), .val (.ref P0), .val (.ref P0)]) rfl ?_
      refine XS.aload Xh202.here hx rfl (hb hby at_249) rfl rfl ?_
      show Steps p.tables e below (T200.setTop (fr_law m p1 251 (.val (.int ((p1 &&& (2147483647 : Int32)) % (3 : Int32)))) (.val (.ref P0)) (.val (.ref b128)) (.val (.ref b160)) (.val (.ref P0)) (.val (.ref P0)) [(.ref P0)])) t
      refine XS.aloadN Xh202.here hx rfl (hb hby at_251) rfl rfl ?_
      refine Jvm.RoadKit.acmp (g := (fr_law m p1 252 (.val (.int ((p1 &&& (2147483647 : Int32)) % (3 : Int32)))) (.val (.ref P0)) (.val (.ref b128)) (.val (.ref b160)) (.val (.ref P0)) (.val (.ref P0)) [(.ref P0), (.ref P0)])) Xh202 hx rfl rfl rfl (pc0 := 252) (pc' := 255) (same := true) rfl (hb hby at_252) rfl (decide_eq_true rfl) (by decide) (by decide) ?_
      show Steps p.tables e below (T200.setTop (fr_law m p1 255 (.val (.int ((p1 &&& (2147483647 : Int32)) % (3 : Int32)))) (.val (.ref P0)) (.val (.ref b128)) (.val (.ref b160)) (.val (.ref P0)) (.val (.ref P0)) [])) t
      refine XS.aload Xh202.here hx rfl (hb hby at_255) rfl rfl ?_
      refine XS.aloadN Xh202.here hx rfl (hb hby at_257) rfl rfl ?_
      show Steps p.tables e below (T200.setTop (fr_law m p1 258 (.val (.int ((p1 &&& (2147483647 : Int32)) % (3 : Int32)))) (.val (.ref P0)) (.val (.ref b128)) (.val (.ref b160)) (.val (.ref P0)) (.val (.ref P0)) [(.ref P0), (.ref P0)])) t
      refine Jvm.RoadKit.acmp (g := (fr_law m p1 258 (.val (.int ((p1 &&& (2147483647 : Int32)) % (3 : Int32)))) (.val (.ref P0)) (.val (.ref b128)) (.val (.ref b160)) (.val (.ref P0)) (.val (.ref P0)) [(.ref P0), (.ref P0)])) Xh202 hx rfl rfl rfl (pc0 := 258) (pc' := 261) (same := true) rfl (hb hby at_258) rfl (decide_eq_true rfl) (by decide) (by decide) ?_
      refine XS.aloadN Xh202.here hx rfl (hb hby at_261) rfl rfl ?_
      exact kt
    have f203 := (f188.keep Kq200 all0)
    have f204 := FP0.ext f203.2
    have f205 := (Nat.le_trans f190 Kq200.1)
    have f207 := EP0.ext f203.2
    obtain ⟨cq206, kq206, q206a, q206b, q206c⟩ := isOf hZ rfl f207
    obtain ⟨vv206, _, ⟨T206, L206, k206, n206⟩, -, X206, ⟨Lc206, hQ206, l206, y206, z206⟩, st206⟩ := Xh202.virtualBack hx (y := (⟨"com/example/quayside/quayside/model/OrderStatus", "getWord", "()Ljava/lang/String;"⟩ : MethodName)) (z := (⟨"com/example/quayside/quayside/model/OrderStatus", "getWord", "()Ljava/lang/String;"⟩ : MethodName)) hown (mvT hZ (Wd66 hw)) (mvT hZ (Wd67 hw)) (notFace_of_selects (args := #[]) (mvT hZ (Wd69 hw))) (mvT hZ (Wd69 hw)) (mvT hZ (Wd68 hw)) (by decide) (backOf (W := 0) (c_gword l Z a0 hw [] P0 (.ref W0) T200.heap n0 f205 f204 rfl) hZ (Wd70 hw) (Wd2 hw) (by decide) (by decide)) q206a q206c (g := (fr_law m p1 262 (.val (.int ((p1 &&& (2147483647 : Int32)) % (3 : Int32)))) (.val (.ref P0)) (.val (.ref b128)) (.val (.ref b160)) (.val (.ref P0)) (.val (.ref P0)) [(.ref P0)])) rfl (by rw [hml]; rfl) (Steps.refl _) (argsL := []) (rest := []) (lenOf pd_192 rfl) rfl (by show 2 * 0 + _ ≤ _; exact Nat.le_of_eq rfl) (hb hby at_262) (fun _ _ => ⟨rfl, rfl, (by decide : 5 + 0 ≤ _), (by decide : 24 + 0 ≤ _)⟩)
    dsimp only [Pt.U, Pt.locs, Pt.cells, Pt.slots] at X206 l206 y206 z206 st206 hQ206
    subst l206 y206 z206
    obtain ⟨rfl, Nq206, Eq206⟩ := hQ206
    have N208 := Fr.app Nh202 Nq206
    obtain ⟨Lh209, Xh209, Nh209⟩ := own_hide (cells' := 5) (slots' := 24) X206 N208 (Nat.le_of_ble_eq_true rfl) (Nat.le_of_ble_eq_true rfl)
    refine ownSt st206 ?_
    clear st206
    show ownG p.tables e below _ (T206.setTop (fr_law m p1 265 (.val (.int ((p1 &&& (2147483647 : Int32)) % (3 : Int32)))) (.val (.ref P0)) (.val (.ref b128)) (.val (.ref b160)) (.val (.ref P0)) (.val (.ref P0)) [(.ref W0)]))
    refine ownBy (A := T206.setTop (fr_law m p1 267 (.val (.int ((p1 &&& (2147483647 : Int32)) % (3 : Int32)))) (.val (.ref P0)) (.val (.ref b128)) (.val (.ref b160)) (.val (.ref P0)) (.val (.ref P0)) [(.ref b160), (.ref W0)])) (fun t kt => ?_) ?_
    · refine XS.aload Xh209.here hx rfl (hb hby at_265) rfl rfl ?_
      exact kt
    have hcd210 : StrChars.Road.CodA ([(80 : Int32), (101 : Int32), (110 : Int32), (100 : Int32), (105 : Int32), (110 : Int32), (103 : Int32)] : List Int32) 0 (7 : Int32) ((([(80 : Int32), (101 : Int32), (110 : Int32), (100 : Int32), (105 : Int32), (110 : Int32), (103 : Int32)] : List Int32).map (fun c => c.toInt8.toInt32)).map Value.int) := StrChars.Road.codOf (n := 7) rfl (fun x hx => (hpw0 x hx).2)
    have hbd210 : ∀ x ∈ ([(80 : Int32), (101 : Int32), (110 : Int32), (100 : Int32), (105 : Int32), (110 : Int32), (103 : Int32)] : List Int32), ¬ x < 0 ∧ ¬ (65535 : Int32) < x := own_up _ hpw0
    have f211 := EW0.ext f203.2
    have f212 := FV0.ext f203.2
    have f213 := FC0.ext f203.2
    have f214 := KB0.ext f203.2
    have hcd215 : StrChars.Road.CodA ([(80 : Int32), (101 : Int32), (110 : Int32), (100 : Int32), (105 : Int32), (110 : Int32), (103 : Int32)] : List Int32) 0 (7 : Int32) ((([(80 : Int32), (101 : Int32), (110 : Int32), (100 : Int32), (105 : Int32), (110 : Int32), (103 : Int32)] : List Int32).map (fun c => c.toInt8.toInt32)).map Value.int) := StrChars.Road.codOf (n := 7) rfl (fun x hx => (hp168 x hx).2)
    have hbd215 : ∀ x ∈ ([(80 : Int32), (101 : Int32), (110 : Int32), (100 : Int32), (105 : Int32), (110 : Int32), (103 : Int32)] : List Int32), ¬ x < 0 ∧ ¬ (65535 : Int32) < x := own_up _ hp168
    have f216 := ((f181.keep Kq184).keep Kq200)
    have f217 := ((Vq172.keep Kq184 nin0).keep Kq200 nin0)
    have f218 := ((Cq172.keep Kq184 nin0).keep Kq200 nin0)
    have f219 := ((Aq172.keep Kq184 nin0).keep Kq200 nin0)
    obtain ⟨cq220, kq220, q220a, q220b, q220c⟩ := isOf hZ Eq206 f211
    obtain ⟨vv220, _, ⟨T220, L220, k220, n220⟩, -, X220, ⟨Lc220, hQ220, l220, y220, z220⟩, st220⟩ := Xh209.virtualBack hx (y := (⟨"java/lang/String", "equals", "(Ljava/lang/Object;)Z"⟩ : MethodName)) (z := (⟨"java/lang/String", "equals", "(Ljava/lang/Object;)Z"⟩ : MethodName)) hown (mvT hZ (Wd71 hw)) (mvT hZ (Wd57 hw)) (notFace_of_selects (args := #[]) (mvT hZ (Wd59 hw))) (mvT hZ (Wd59 hw)) (mvT hZ (Wd58 hw)) (by decide) (StrChars.Road.eqW (W := 0) hZ heq (kI := 4) (Wd6 hw) f211 f212 f213 f214 hcd210 hbd210 (Nat.le_of_ble_eq_true rfl) f216 f217 f218 f219 hcd215 hbd215 (Nat.le_of_ble_eq_true rfl) (O2.ext f203.2) P5 (by decide) (by decide)) q220a q220c (g := (fr_law m p1 267 (.val (.int ((p1 &&& (2147483647 : Int32)) % (3 : Int32)))) (.val (.ref P0)) (.val (.ref b128)) (.val (.ref b160)) (.val (.ref P0)) (.val (.ref P0)) [(.ref b160), (.ref W0)])) rfl (by rw [hml]; rfl) (Steps.refl _) (argsL := [(.ref b160)]) (rest := []) (lenOf pd_35 rfl) rfl (by show 2 * 0 + _ ≤ _; exact Nat.le_of_eq rfl) (hb hby at_267) (fun _ _ => ⟨rfl, Eq206, (by decide : 5 + 0 ≤ _), (by decide : 24 + 0 ≤ _)⟩)
    dsimp only [Pt.U, Pt.locs, Pt.cells, Pt.slots] at X220 l220 y220 z220 st220 hQ220
    subst l220 y220 z220
    obtain ⟨hE220, rfl, Eq220⟩ := hQ220
    have Nq220 : Fr n0 ([] : List Loc) := Fr.nil n0
    obtain rfl : vv220 = some (.int 1) := hE220.elim (fun q => q.1) (fun q => absurd rfl q.2)
    have N221 := Fr.app Nh209 Nq220
    obtain ⟨Lh222, Xh222, Nh222⟩ := own_hide (cells' := 5) (slots' := 24) X220 N221 (Nat.le_of_ble_eq_true rfl) (Nat.le_of_ble_eq_true rfl)
    refine ownSt st220 ?_
    clear st220
    show ownG p.tables e below _ (T220.setTop (fr_law m p1 270 (.val (.int ((p1 &&& (2147483647 : Int32)) % (3 : Int32)))) (.val (.ref P0)) (.val (.ref b128)) (.val (.ref b160)) (.val (.ref P0)) (.val (.ref P0)) [(.int (1 : Int32))]))
    refine ownBy (A := T220.setTop (fr_law m p1 278 (.val (.int ((p1 &&& (2147483647 : Int32)) % (3 : Int32)))) (.val (.ref P0)) (.val (.ref b128)) (.val (.ref b160)) (.val (.ref P0)) (.val (.ref P0)) [(.int (1 : Int32))])) (fun t kt => ?_) ?_
    · refine XS.ifNo Xh222.here hx rfl (hb hby at_270) rfl ((if0 _ _).trans (feq ((by decide) : ¬ ((1 : Int32) = (0 : Int32)))).1) ?_
      refine XS.iconst Xh222.here hx rfl (hb hby at_273) ?_
      show Steps p.tables e below (T220.setTop (fr_law m p1 274 (.val (.int ((p1 &&& (2147483647 : Int32)) % (3 : Int32)))) (.val (.ref P0)) (.val (.ref b128)) (.val (.ref b160)) (.val (.ref P0)) (.val (.ref P0)) [(.int (1 : Int32))])) t
      refine XS.goto Xh222.here hx rfl (pc0 := 274) (pc' := 278) rfl (hb hby at_274) (by decide) (by decide) ?_
      exact kt
    refine ownRet Xh222 Bd.notSynchronized (v := some (.int (nar .boolean (1 : Int32)))) (fun h => by rw [Bd.returns] at h; cases h) ?_ (Nat.le_of_ble_eq_true rfl) (Nat.le_of_ble_eq_true rfl) (fun fs hr => retN Xh222 hx (t := .boolean) Bd.returns (by simp) (hb hby at_278) hr)
    show (Q_law Z p1 A kA P0 P1 P2 W0 W1 W2 B0 B1 B2 kb0 kb1 kb2 G1 h0 n0) (some (.int (nar .boolean (1 : Int32)))) T220.heap _
    rw [Eq220]
    exact ⟨rfl, Nh222⟩
  · skip
    refine ownBy (A := s₁.setTop (fr_law m p1 61 (.val (.int ((p1 &&& (2147483647 : Int32)) % (3 : Int32)))) .unset .unset .unset .unset .unset [(.int (1 : Int32)), (.int ((p1 &&& (2147483647 : Int32)) % (3 : Int32)))])) (fun t kt => ?_) ?_
    · refine XS.ifYes X0.here hx rfl (pc0 := 8) (pc' := 59) rfl (hb hby at_8) rfl ((if0 _ _).trans (feq hc126).2) (by decide) (by decide) ?_
      refine XS.iloadN X0.here hx rfl (hb hby at_59) rfl ?_
      show Steps p.tables e below (s₁.setTop (fr_law m p1 60 (.val (.int ((p1 &&& (2147483647 : Int32)) % (3 : Int32)))) .unset .unset .unset .unset .unset [(.int ((p1 &&& (2147483647 : Int32)) % (3 : Int32)))])) t
      refine XS.iconst X0.here hx rfl (hb hby at_60) ?_
      exact kt
    by_cases hc223 : ((p1 &&& (2147483647 : Int32)) % (3 : Int32)) = (1 : Int32)
    · skip
      refine ownBy (A := s₁.setTop (fr_law m p1 64 (.val (.int ((p1 &&& (2147483647 : Int32)) % (3 : Int32)))) .unset .unset .unset .unset .unset [])) (fun t kt => ?_) ?_
      · refine XS.icmpNo X0.here hx rfl (hb hby at_61) rfl (teq hc223).2 ?_
        exact kt
      obtain ⟨T224, X224, e224, st224⟩ := getS2 X0 hx hZ hown (host := "") (Or.inl (Wd73 hw)) Via.refl e0 (SP1.ext X00.2) (g := (fr_law m p1 64 (.val (.int ((p1 &&& (2147483647 : Int32)) % (3 : Int32)))) .unset .unset .unset .unset .unset [])) rfl (hb hby at_64)
      refine ownBy st224 ?_
      clear st224
      show ownG p.tables e below _ (T224.setTop (fr_law m p1 67 (.val (.int ((p1 &&& (2147483647 : Int32)) % (3 : Int32)))) .unset .unset .unset .unset .unset [(.ref P1)]))
      refine ownBy (A := T224.setTop (fr_law m p1 70 (.val (.int ((p1 &&& (2147483647 : Int32)) % (3 : Int32)))) (.val (.ref P1)) .unset .unset .unset .unset [(.int (18 : Int32))])) (fun t kt => ?_) ?_
      · refine XS.astoreN X224.here hx rfl (hb hby at_67) rfl rfl (l' := #[.val (.int p1), .val (.int ((p1 &&& (2147483647 : Int32)) % (3 : Int32))), .val (.ref P1), .unset, .unset, .unset, .unset]) rfl ?_
        refine XS.bipush X224.here hx rfl (hb hby at_68) ?_
        exact kt
      obtain ⟨T225, h225, k225, X225, e225, E225, A225, st225⟩ := newP X224 hx hZ (aty := .char) (Wd4 hw) e224 (g := (fr_law m p1 70 (.val (.int ((p1 &&& (2147483647 : Int32)) % (3 : Int32)))) (.val (.ref P1)) .unset .unset .unset .unset [(.int (18 : Int32))])) rfl (hb hby at_70) rfl (by decide : ¬ ((18 : Int32) < (0 : Int32))) (cap := 18) (by decide) (by decide) (by decide) (by decide)
      obtain ⟨b225, g225⟩ : ∃ z, z = h0.size := ⟨_, rfl⟩
      rw [← g225] at A225 st225
      have g226 : n0 ≤ b225 := Nat.le_trans Z0 (Nat.le_of_eq g225.symm)
      have z227 : h0.size ≤ b225 := Nat.le_trans (Keep.refl h0 []).1 (Nat.le_of_eq g225.symm)
      have V228 : Arv Z h225 b225 k225 .char (18 : Int32) [(.int (0 : Int32)), (.int (0 : Int32)), (.int (0 : Int32)), (.int (0 : Int32)), (.int (0 : Int32)), (.int (0 : Int32)), (.int (0 : Int32)), (.int (0 : Int32)), (.int (0 : Int32)), (.int (0 : Int32)), (.int (0 : Int32)), (.int (0 : Int32)), (.int (0 : Int32)), (.int (0 : Int32)), (.int (0 : Int32)), (.int (0 : Int32)), (.int (0 : Int32)), (.int (0 : Int32))] (.int (0 : Int32)) := (Arv.new A225 (by decide)).pad (pad_rep [] (.int (0 : Int32)) 18)
      refine ownBy st225 ?_
      clear st225
      show ownG p.tables e below _ (T225.setTop (fr_law m p1 72 (.val (.int ((p1 &&& (2147483647 : Int32)) % (3 : Int32)))) (.val (.ref P1)) .unset .unset .unset .unset [(.ref b225)]))
      refine ownBy (A := T225.setTop (fr_law m p1 76 (.val (.int ((p1 &&& (2147483647 : Int32)) % (3 : Int32)))) (.val (.ref P1)) .unset .unset .unset .unset [(.int (82 : Int32)), (.int (0 : Int32)), (.ref b225), (.ref b225)])) (fun t kt => ?_) ?_
      · refine XS.dup X225.here hx rfl (hb hby at_72) rfl rfl ?_
        refine XS.iconst X225.here hx rfl (hb hby at_73) ?_
        show Steps p.tables e below (T225.setTop (fr_law m p1 74 (.val (.int ((p1 &&& (2147483647 : Int32)) % (3 : Int32)))) (.val (.ref P1)) .unset .unset .unset .unset [(.int (0 : Int32)), (.ref b225), (.ref b225)])) t
        refine XS.bipush X225.here hx rfl (hb hby at_74) ?_
        exact kt
      obtain ⟨cl229, Ar229, q229, S229, N229, H229, G229⟩ := id V228
      have hin229 : ¬ ((0 : Int32) < 0 ∨ cl229.slots.size ≤ ((0 : Int32)).toNatClampNeg) := inb_of S229 ⟨by decide, by decide⟩
      obtain ⟨T229, h229, X229, e229, W229, st229⟩ := stC X225 hx hZ e225 Ar229 (j := (0 : Int32)) hin229 (g := (fr_law m p1 76 (.val (.int ((p1 &&& (2147483647 : Int32)) % (3 : Int32)))) (.val (.ref P1)) .unset .unset .unset .unset [(.int (82 : Int32)), (.int (0 : Int32)), (.ref b225), (.ref b225)])) rfl rfl (hb hby at_76)
      have V230 : Arv Z h229 b225 k225 .char (18 : Int32) [(.int (nar .char (82 : Int32))), (.int (0 : Int32)), (.int (0 : Int32)), (.int (0 : Int32)), (.int (0 : Int32)), (.int (0 : Int32)), (.int (0 : Int32)), (.int (0 : Int32)), (.int (0 : Int32)), (.int (0 : Int32)), (.int (0 : Int32)), (.int (0 : Int32)), (.int (0 : Int32)), (.int (0 : Int32)), (.int (0 : Int32)), (.int (0 : Int32)), (.int (0 : Int32)), (.int (0 : Int32))] (.int (0 : Int32)) := Arv.set Ar229 q229 S229 N229 H229 G229 (fits_nar_char _) W229 0 rfl (Nat.le_of_ble_eq_true rfl)
      rw [own_nl_char_82] at V230
      clear hin229 G229 H229 N229 S229 q229 Ar229 cl229 V228
      have N231 := Fr.snoc X229 N0 g226
      obtain ⟨Lh232, Xh232, Nh232⟩ := own_hide (cells' := 1) (slots' := 18) X229 N231 (Nat.le_of_ble_eq_true rfl) (Nat.le_of_ble_eq_true rfl)
      refine ownBy st229 ?_
      clear st229
      show ownG p.tables e below _ (T229.setTop (fr_law m p1 77 (.val (.int ((p1 &&& (2147483647 : Int32)) % (3 : Int32)))) (.val (.ref P1)) .unset .unset .unset .unset [(.ref b225)]))
      refine ownBy (A := T229.setTop (fr_law m p1 81 (.val (.int ((p1 &&& (2147483647 : Int32)) % (3 : Int32)))) (.val (.ref P1)) .unset .unset .unset .unset [(.int (101 : Int32)), (.int (1 : Int32)), (.ref b225), (.ref b225)])) (fun t kt => ?_) ?_
      · refine XS.dup Xh232.here hx rfl (hb hby at_77) rfl rfl ?_
        refine XS.iconst Xh232.here hx rfl (hb hby at_78) ?_
        show Steps p.tables e below (T229.setTop (fr_law m p1 79 (.val (.int ((p1 &&& (2147483647 : Int32)) % (3 : Int32)))) (.val (.ref P1)) .unset .unset .unset .unset [(.int (1 : Int32)), (.ref b225), (.ref b225)])) t
        refine XS.bipush Xh232.here hx rfl (hb hby at_79) ?_
        exact kt
      obtain ⟨cl233, Ar233, q233, S233, N233, H233, G233⟩ := id V230
      have hin233 : ¬ ((1 : Int32) < 0 ∨ cl233.slots.size ≤ ((1 : Int32)).toNatClampNeg) := inb_of S233 ⟨by decide, by decide⟩
      obtain ⟨T233, h233, X233, e233, W233, st233⟩ := stC Xh232 hx hZ e229 Ar233 (j := (1 : Int32)) hin233 (g := (fr_law m p1 81 (.val (.int ((p1 &&& (2147483647 : Int32)) % (3 : Int32)))) (.val (.ref P1)) .unset .unset .unset .unset [(.int (101 : Int32)), (.int (1 : Int32)), (.ref b225), (.ref b225)])) rfl rfl (hb hby at_81)
      have V234 : Arv Z h233 b225 k225 .char (18 : Int32) [(.int (82 : Int32)), (.int (nar .char (101 : Int32))), (.int (0 : Int32)), (.int (0 : Int32)), (.int (0 : Int32)), (.int (0 : Int32)), (.int (0 : Int32)), (.int (0 : Int32)), (.int (0 : Int32)), (.int (0 : Int32)), (.int (0 : Int32)), (.int (0 : Int32)), (.int (0 : Int32)), (.int (0 : Int32)), (.int (0 : Int32)), (.int (0 : Int32)), (.int (0 : Int32)), (.int (0 : Int32))] (.int (0 : Int32)) := Arv.set Ar233 q233 S233 N233 H233 G233 (fits_nar_char _) W233 1 rfl (Nat.le_of_ble_eq_true rfl)
      rw [own_nl_char_101] at V234
      clear hin233 G233 H233 N233 S233 q233 Ar233 cl233 V230
      have N235 := Fr.snoc X233 Nh232 g226
      obtain ⟨Lh236, Xh236, Nh236⟩ := own_hide (cells' := 1) (slots' := 18) X233 N235 (Nat.le_of_ble_eq_true rfl) (Nat.le_of_ble_eq_true rfl)
      refine ownBy st233 ?_
      clear st233
      show ownG p.tables e below _ (T233.setTop (fr_law m p1 82 (.val (.int ((p1 &&& (2147483647 : Int32)) % (3 : Int32)))) (.val (.ref P1)) .unset .unset .unset .unset [(.ref b225)]))
      refine ownBy (A := T233.setTop (fr_law m p1 86 (.val (.int ((p1 &&& (2147483647 : Int32)) % (3 : Int32)))) (.val (.ref P1)) .unset .unset .unset .unset [(.int (97 : Int32)), (.int (2 : Int32)), (.ref b225), (.ref b225)])) (fun t kt => ?_) ?_
      · refine XS.dup Xh236.here hx rfl (hb hby at_82) rfl rfl ?_
        refine XS.iconst Xh236.here hx rfl (hb hby at_83) ?_
        show Steps p.tables e below (T233.setTop (fr_law m p1 84 (.val (.int ((p1 &&& (2147483647 : Int32)) % (3 : Int32)))) (.val (.ref P1)) .unset .unset .unset .unset [(.int (2 : Int32)), (.ref b225), (.ref b225)])) t
        refine XS.bipush Xh236.here hx rfl (hb hby at_84) ?_
        exact kt
      obtain ⟨cl237, Ar237, q237, S237, N237, H237, G237⟩ := id V234
      have hin237 : ¬ ((2 : Int32) < 0 ∨ cl237.slots.size ≤ ((2 : Int32)).toNatClampNeg) := inb_of S237 ⟨by decide, by decide⟩
      obtain ⟨T237, h237, X237, e237, W237, st237⟩ := stC Xh236 hx hZ e233 Ar237 (j := (2 : Int32)) hin237 (g := (fr_law m p1 86 (.val (.int ((p1 &&& (2147483647 : Int32)) % (3 : Int32)))) (.val (.ref P1)) .unset .unset .unset .unset [(.int (97 : Int32)), (.int (2 : Int32)), (.ref b225), (.ref b225)])) rfl rfl (hb hby at_86)
      have V238 : Arv Z h237 b225 k225 .char (18 : Int32) [(.int (82 : Int32)), (.int (101 : Int32)), (.int (nar .char (97 : Int32))), (.int (0 : Int32)), (.int (0 : Int32)), (.int (0 : Int32)), (.int (0 : Int32)), (.int (0 : Int32)), (.int (0 : Int32)), (.int (0 : Int32)), (.int (0 : Int32)), (.int (0 : Int32)), (.int (0 : Int32)), (.int (0 : Int32)), (.int (0 : Int32)), (.int (0 : Int32)), (.int (0 : Int32)), (.int (0 : Int32))] (.int (0 : Int32)) := Arv.set Ar237 q237 S237 N237 H237 G237 (fits_nar_char _) W237 2 rfl (Nat.le_of_ble_eq_true rfl)
      rw [own_nl_char_97] at V238
      clear hin237 G237 H237 N237 S237 q237 Ar237 cl237 V234
      have N239 := Fr.snoc X237 Nh236 g226
      obtain ⟨Lh240, Xh240, Nh240⟩ := own_hide (cells' := 1) (slots' := 18) X237 N239 (Nat.le_of_ble_eq_true rfl) (Nat.le_of_ble_eq_true rfl)
      refine ownBy st237 ?_
      clear st237
      show ownG p.tables e below _ (T237.setTop (fr_law m p1 87 (.val (.int ((p1 &&& (2147483647 : Int32)) % (3 : Int32)))) (.val (.ref P1)) .unset .unset .unset .unset [(.ref b225)]))
      refine ownBy (A := T237.setTop (fr_law m p1 91 (.val (.int ((p1 &&& (2147483647 : Int32)) % (3 : Int32)))) (.val (.ref P1)) .unset .unset .unset .unset [(.int (100 : Int32)), (.int (3 : Int32)), (.ref b225), (.ref b225)])) (fun t kt => ?_) ?_
      · refine XS.dup Xh240.here hx rfl (hb hby at_87) rfl rfl ?_
        refine XS.iconst Xh240.here hx rfl (hb hby at_88) ?_
        show Steps p.tables e below (T237.setTop (fr_law m p1 89 (.val (.int ((p1 &&& (2147483647 : Int32)) % (3 : Int32)))) (.val (.ref P1)) .unset .unset .unset .unset [(.int (3 : Int32)), (.ref b225), (.ref b225)])) t
        refine XS.bipush Xh240.here hx rfl (hb hby at_89) ?_
        exact kt
      obtain ⟨cl241, Ar241, q241, S241, N241, H241, G241⟩ := id V238
      have hin241 : ¬ ((3 : Int32) < 0 ∨ cl241.slots.size ≤ ((3 : Int32)).toNatClampNeg) := inb_of S241 ⟨by decide, by decide⟩
      obtain ⟨T241, h241, X241, e241, W241, st241⟩ := stC Xh240 hx hZ e237 Ar241 (j := (3 : Int32)) hin241 (g := (fr_law m p1 91 (.val (.int ((p1 &&& (2147483647 : Int32)) % (3 : Int32)))) (.val (.ref P1)) .unset .unset .unset .unset [(.int (100 : Int32)), (.int (3 : Int32)), (.ref b225), (.ref b225)])) rfl rfl (hb hby at_91)
      have V242 : Arv Z h241 b225 k225 .char (18 : Int32) [(.int (82 : Int32)), (.int (101 : Int32)), (.int (97 : Int32)), (.int (nar .char (100 : Int32))), (.int (0 : Int32)), (.int (0 : Int32)), (.int (0 : Int32)), (.int (0 : Int32)), (.int (0 : Int32)), (.int (0 : Int32)), (.int (0 : Int32)), (.int (0 : Int32)), (.int (0 : Int32)), (.int (0 : Int32)), (.int (0 : Int32)), (.int (0 : Int32)), (.int (0 : Int32)), (.int (0 : Int32))] (.int (0 : Int32)) := Arv.set Ar241 q241 S241 N241 H241 G241 (fits_nar_char _) W241 3 rfl (Nat.le_of_ble_eq_true rfl)
      rw [own_nl_char_100] at V242
      clear hin241 G241 H241 N241 S241 q241 Ar241 cl241 V238
      have N243 := Fr.snoc X241 Nh240 g226
      obtain ⟨Lh244, Xh244, Nh244⟩ := own_hide (cells' := 1) (slots' := 18) X241 N243 (Nat.le_of_ble_eq_true rfl) (Nat.le_of_ble_eq_true rfl)
      refine ownBy st241 ?_
      clear st241
      show ownG p.tables e below _ (T241.setTop (fr_law m p1 92 (.val (.int ((p1 &&& (2147483647 : Int32)) % (3 : Int32)))) (.val (.ref P1)) .unset .unset .unset .unset [(.ref b225)]))
      refine ownBy (A := T241.setTop (fr_law m p1 96 (.val (.int ((p1 &&& (2147483647 : Int32)) % (3 : Int32)))) (.val (.ref P1)) .unset .unset .unset .unset [(.int (121 : Int32)), (.int (4 : Int32)), (.ref b225), (.ref b225)])) (fun t kt => ?_) ?_
      · refine XS.dup Xh244.here hx rfl (hb hby at_92) rfl rfl ?_
        refine XS.iconst Xh244.here hx rfl (hb hby at_93) ?_
        show Steps p.tables e below (T241.setTop (fr_law m p1 94 (.val (.int ((p1 &&& (2147483647 : Int32)) % (3 : Int32)))) (.val (.ref P1)) .unset .unset .unset .unset [(.int (4 : Int32)), (.ref b225), (.ref b225)])) t
        refine XS.bipush Xh244.here hx rfl (hb hby at_94) ?_
        exact kt
      obtain ⟨cl245, Ar245, q245, S245, N245, H245, G245⟩ := id V242
      have hin245 : ¬ ((4 : Int32) < 0 ∨ cl245.slots.size ≤ ((4 : Int32)).toNatClampNeg) := inb_of S245 ⟨by decide, by decide⟩
      obtain ⟨T245, h245, X245, e245, W245, st245⟩ := stC Xh244 hx hZ e241 Ar245 (j := (4 : Int32)) hin245 (g := (fr_law m p1 96 (.val (.int ((p1 &&& (2147483647 : Int32)) % (3 : Int32)))) (.val (.ref P1)) .unset .unset .unset .unset [(.int (121 : Int32)), (.int (4 : Int32)), (.ref b225), (.ref b225)])) rfl rfl (hb hby at_96)
      have V246 : Arv Z h245 b225 k225 .char (18 : Int32) [(.int (82 : Int32)), (.int (101 : Int32)), (.int (97 : Int32)), (.int (100 : Int32)), (.int (nar .char (121 : Int32))), (.int (0 : Int32)), (.int (0 : Int32)), (.int (0 : Int32)), (.int (0 : Int32)), (.int (0 : Int32)), (.int (0 : Int32)), (.int (0 : Int32)), (.int (0 : Int32)), (.int (0 : Int32)), (.int (0 : Int32)), (.int (0 : Int32)), (.int (0 : Int32)), (.int (0 : Int32))] (.int (0 : Int32)) := Arv.set Ar245 q245 S245 N245 H245 G245 (fits_nar_char _) W245 4 rfl (Nat.le_of_ble_eq_true rfl)
      rw [own_nl_char_121] at V246
      clear hin245 G245 H245 N245 S245 q245 Ar245 cl245 V242
      have N247 := Fr.snoc X245 Nh244 g226
      obtain ⟨Lh248, Xh248, Nh248⟩ := own_hide (cells' := 1) (slots' := 18) X245 N247 (Nat.le_of_ble_eq_true rfl) (Nat.le_of_ble_eq_true rfl)
      refine ownBy st245 ?_
      clear st245
      show ownG p.tables e below _ (T245.setTop (fr_law m p1 97 (.val (.int ((p1 &&& (2147483647 : Int32)) % (3 : Int32)))) (.val (.ref P1)) .unset .unset .unset .unset [(.ref b225)]))
      refine ownBy (A := T245.setTop (fr_law m p1 101 (.val (.int ((p1 &&& (2147483647 : Int32)) % (3 : Int32)))) (.val (.ref P1)) .unset .unset .unset .unset [(.int (32 : Int32)), (.int (5 : Int32)), (.ref b225), (.ref b225)])) (fun t kt => ?_) ?_
      · refine XS.dup Xh248.here hx rfl (hb hby at_97) rfl rfl ?_
        refine XS.iconst Xh248.here hx rfl (hb hby at_98) ?_
        show Steps p.tables e below (T245.setTop (fr_law m p1 99 (.val (.int ((p1 &&& (2147483647 : Int32)) % (3 : Int32)))) (.val (.ref P1)) .unset .unset .unset .unset [(.int (5 : Int32)), (.ref b225), (.ref b225)])) t
        refine XS.bipush Xh248.here hx rfl (hb hby at_99) ?_
        exact kt
      obtain ⟨cl249, Ar249, q249, S249, N249, H249, G249⟩ := id V246
      have hin249 : ¬ ((5 : Int32) < 0 ∨ cl249.slots.size ≤ ((5 : Int32)).toNatClampNeg) := inb_of S249 ⟨by decide, by decide⟩
      obtain ⟨T249, h249, X249, e249, W249, st249⟩ := stC Xh248 hx hZ e245 Ar249 (j := (5 : Int32)) hin249 (g := (fr_law m p1 101 (.val (.int ((p1 &&& (2147483647 : Int32)) % (3 : Int32)))) (.val (.ref P1)) .unset .unset .unset .unset [(.int (32 : Int32)), (.int (5 : Int32)), (.ref b225), (.ref b225)])) rfl rfl (hb hby at_101)
      have V250 : Arv Z h249 b225 k225 .char (18 : Int32) [(.int (82 : Int32)), (.int (101 : Int32)), (.int (97 : Int32)), (.int (100 : Int32)), (.int (121 : Int32)), (.int (nar .char (32 : Int32))), (.int (0 : Int32)), (.int (0 : Int32)), (.int (0 : Int32)), (.int (0 : Int32)), (.int (0 : Int32)), (.int (0 : Int32)), (.int (0 : Int32)), (.int (0 : Int32)), (.int (0 : Int32)), (.int (0 : Int32)), (.int (0 : Int32)), (.int (0 : Int32))] (.int (0 : Int32)) := Arv.set Ar249 q249 S249 N249 H249 G249 (fits_nar_char _) W249 5 rfl (Nat.le_of_ble_eq_true rfl)
      rw [own_nl_char_32] at V250
      clear hin249 G249 H249 N249 S249 q249 Ar249 cl249 V246
      have N251 := Fr.snoc X249 Nh248 g226
      obtain ⟨Lh252, Xh252, Nh252⟩ := own_hide (cells' := 1) (slots' := 18) X249 N251 (Nat.le_of_ble_eq_true rfl) (Nat.le_of_ble_eq_true rfl)
      refine ownBy st249 ?_
      clear st249
      show ownG p.tables e below _ (T249.setTop (fr_law m p1 102 (.val (.int ((p1 &&& (2147483647 : Int32)) % (3 : Int32)))) (.val (.ref P1)) .unset .unset .unset .unset [(.ref b225)]))
      refine ownBy (A := T249.setTop (fr_law m p1 107 (.val (.int ((p1 &&& (2147483647 : Int32)) % (3 : Int32)))) (.val (.ref P1)) .unset .unset .unset .unset [(.int (102 : Int32)), (.int (6 : Int32)), (.ref b225), (.ref b225)])) (fun t kt => ?_) ?_
      · refine XS.dup Xh252.here hx rfl (hb hby at_102) rfl rfl ?_
        refine XS.bipush Xh252.here hx rfl (hb hby at_103) ?_
        show Steps p.tables e below (T249.setTop (fr_law m p1 105 (.val (.int ((p1 &&& (2147483647 : Int32)) % (3 : Int32)))) (.val (.ref P1)) .unset .unset .unset .unset [(.int (6 : Int32)), (.ref b225), (.ref b225)])) t
        refine XS.bipush Xh252.here hx rfl (hb hby at_105) ?_
        exact kt
      obtain ⟨cl253, Ar253, q253, S253, N253, H253, G253⟩ := id V250
      have hin253 : ¬ ((6 : Int32) < 0 ∨ cl253.slots.size ≤ ((6 : Int32)).toNatClampNeg) := inb_of S253 ⟨by decide, by decide⟩
      obtain ⟨T253, h253, X253, e253, W253, st253⟩ := stC Xh252 hx hZ e249 Ar253 (j := (6 : Int32)) hin253 (g := (fr_law m p1 107 (.val (.int ((p1 &&& (2147483647 : Int32)) % (3 : Int32)))) (.val (.ref P1)) .unset .unset .unset .unset [(.int (102 : Int32)), (.int (6 : Int32)), (.ref b225), (.ref b225)])) rfl rfl (hb hby at_107)
      have V254 : Arv Z h253 b225 k225 .char (18 : Int32) [(.int (82 : Int32)), (.int (101 : Int32)), (.int (97 : Int32)), (.int (100 : Int32)), (.int (121 : Int32)), (.int (32 : Int32)), (.int (nar .char (102 : Int32))), (.int (0 : Int32)), (.int (0 : Int32)), (.int (0 : Int32)), (.int (0 : Int32)), (.int (0 : Int32)), (.int (0 : Int32)), (.int (0 : Int32)), (.int (0 : Int32)), (.int (0 : Int32)), (.int (0 : Int32)), (.int (0 : Int32))] (.int (0 : Int32)) := Arv.set Ar253 q253 S253 N253 H253 G253 (fits_nar_char _) W253 6 rfl (Nat.le_of_ble_eq_true rfl)
      rw [own_nl_char_102] at V254
      clear hin253 G253 H253 N253 S253 q253 Ar253 cl253 V250
      have N255 := Fr.snoc X253 Nh252 g226
      obtain ⟨Lh256, Xh256, Nh256⟩ := own_hide (cells' := 1) (slots' := 18) X253 N255 (Nat.le_of_ble_eq_true rfl) (Nat.le_of_ble_eq_true rfl)
      refine ownBy st253 ?_
      clear st253
      show ownG p.tables e below _ (T253.setTop (fr_law m p1 108 (.val (.int ((p1 &&& (2147483647 : Int32)) % (3 : Int32)))) (.val (.ref P1)) .unset .unset .unset .unset [(.ref b225)]))
      refine ownBy (A := T253.setTop (fr_law m p1 113 (.val (.int ((p1 &&& (2147483647 : Int32)) % (3 : Int32)))) (.val (.ref P1)) .unset .unset .unset .unset [(.int (111 : Int32)), (.int (7 : Int32)), (.ref b225), (.ref b225)])) (fun t kt => ?_) ?_
      · refine XS.dup Xh256.here hx rfl (hb hby at_108) rfl rfl ?_
        refine XS.bipush Xh256.here hx rfl (hb hby at_109) ?_
        show Steps p.tables e below (T253.setTop (fr_law m p1 111 (.val (.int ((p1 &&& (2147483647 : Int32)) % (3 : Int32)))) (.val (.ref P1)) .unset .unset .unset .unset [(.int (7 : Int32)), (.ref b225), (.ref b225)])) t
        refine XS.bipush Xh256.here hx rfl (hb hby at_111) ?_
        exact kt
      obtain ⟨cl257, Ar257, q257, S257, N257, H257, G257⟩ := id V254
      have hin257 : ¬ ((7 : Int32) < 0 ∨ cl257.slots.size ≤ ((7 : Int32)).toNatClampNeg) := inb_of S257 ⟨by decide, by decide⟩
      obtain ⟨T257, h257, X257, e257, W257, st257⟩ := stC Xh256 hx hZ e253 Ar257 (j := (7 : Int32)) hin257 (g := (fr_law m p1 113 (.val (.int ((p1 &&& (2147483647 : Int32)) % (3 : Int32)))) (.val (.ref P1)) .unset .unset .unset .unset [(.int (111 : Int32)), (.int (7 : Int32)), (.ref b225), (.ref b225)])) rfl rfl (hb hby at_113)
      have V258 : Arv Z h257 b225 k225 .char (18 : Int32) [(.int (82 : Int32)), (.int (101 : Int32)), (.int (97 : Int32)), (.int (100 : Int32)), (.int (121 : Int32)), (.int (32 : Int32)), (.int (102 : Int32)), (.int (nar .char (111 : Int32))), (.int (0 : Int32)), (.int (0 : Int32)), (.int (0 : Int32)), (.int (0 : Int32)), (.int (0 : Int32)), (.int (0 : Int32)), (.int (0 : Int32)), (.int (0 : Int32)), (.int (0 : Int32)), (.int (0 : Int32))] (.int (0 : Int32)) := Arv.set Ar257 q257 S257 N257 H257 G257 (fits_nar_char _) W257 7 rfl (Nat.le_of_ble_eq_true rfl)
      rw [own_nl_char_111] at V258
      clear hin257 G257 H257 N257 S257 q257 Ar257 cl257 V254
      have N259 := Fr.snoc X257 Nh256 g226
      obtain ⟨Lh260, Xh260, Nh260⟩ := own_hide (cells' := 1) (slots' := 18) X257 N259 (Nat.le_of_ble_eq_true rfl) (Nat.le_of_ble_eq_true rfl)
      refine ownBy st257 ?_
      clear st257
      show ownG p.tables e below _ (T257.setTop (fr_law m p1 114 (.val (.int ((p1 &&& (2147483647 : Int32)) % (3 : Int32)))) (.val (.ref P1)) .unset .unset .unset .unset [(.ref b225)]))
      refine ownBy (A := T257.setTop (fr_law m p1 119 (.val (.int ((p1 &&& (2147483647 : Int32)) % (3 : Int32)))) (.val (.ref P1)) .unset .unset .unset .unset [(.int (114 : Int32)), (.int (8 : Int32)), (.ref b225), (.ref b225)])) (fun t kt => ?_) ?_
      · refine XS.dup Xh260.here hx rfl (hb hby at_114) rfl rfl ?_
        refine XS.bipush Xh260.here hx rfl (hb hby at_115) ?_
        show Steps p.tables e below (T257.setTop (fr_law m p1 117 (.val (.int ((p1 &&& (2147483647 : Int32)) % (3 : Int32)))) (.val (.ref P1)) .unset .unset .unset .unset [(.int (8 : Int32)), (.ref b225), (.ref b225)])) t
        refine XS.bipush Xh260.here hx rfl (hb hby at_117) ?_
        exact kt
      obtain ⟨cl261, Ar261, q261, S261, N261, H261, G261⟩ := id V258
      have hin261 : ¬ ((8 : Int32) < 0 ∨ cl261.slots.size ≤ ((8 : Int32)).toNatClampNeg) := inb_of S261 ⟨by decide, by decide⟩
      obtain ⟨T261, h261, X261, e261, W261, st261⟩ := stC Xh260 hx hZ e257 Ar261 (j := (8 : Int32)) hin261 (g := (fr_law m p1 119 (.val (.int ((p1 &&& (2147483647 : Int32)) % (3 : Int32)))) (.val (.ref P1)) .unset .unset .unset .unset [(.int (114 : Int32)), (.int (8 : Int32)), (.ref b225), (.ref b225)])) rfl rfl (hb hby at_119)
      have V262 : Arv Z h261 b225 k225 .char (18 : Int32) [(.int (82 : Int32)), (.int (101 : Int32)), (.int (97 : Int32)), (.int (100 : Int32)), (.int (121 : Int32)), (.int (32 : Int32)), (.int (102 : Int32)), (.int (111 : Int32)), (.int (nar .char (114 : Int32))), (.int (0 : Int32)), (.int (0 : Int32)), (.int (0 : Int32)), (.int (0 : Int32)), (.int (0 : Int32)), (.int (0 : Int32)), (.int (0 : Int32)), (.int (0 : Int32)), (.int (0 : Int32))] (.int (0 : Int32)) := Arv.set Ar261 q261 S261 N261 H261 G261 (fits_nar_char _) W261 8 rfl (Nat.le_of_ble_eq_true rfl)
      rw [own_nl_char_114] at V262
      clear hin261 G261 H261 N261 S261 q261 Ar261 cl261 V258
      have N263 := Fr.snoc X261 Nh260 g226
      obtain ⟨Lh264, Xh264, Nh264⟩ := own_hide (cells' := 1) (slots' := 18) X261 N263 (Nat.le_of_ble_eq_true rfl) (Nat.le_of_ble_eq_true rfl)
      refine ownBy st261 ?_
      clear st261
      show ownG p.tables e below _ (T261.setTop (fr_law m p1 120 (.val (.int ((p1 &&& (2147483647 : Int32)) % (3 : Int32)))) (.val (.ref P1)) .unset .unset .unset .unset [(.ref b225)]))
      refine ownBy (A := T261.setTop (fr_law m p1 125 (.val (.int ((p1 &&& (2147483647 : Int32)) % (3 : Int32)))) (.val (.ref P1)) .unset .unset .unset .unset [(.int (32 : Int32)), (.int (9 : Int32)), (.ref b225), (.ref b225)])) (fun t kt => ?_) ?_
      · refine XS.dup Xh264.here hx rfl (hb hby at_120) rfl rfl ?_
        refine XS.bipush Xh264.here hx rfl (hb hby at_121) ?_
        show Steps p.tables e below (T261.setTop (fr_law m p1 123 (.val (.int ((p1 &&& (2147483647 : Int32)) % (3 : Int32)))) (.val (.ref P1)) .unset .unset .unset .unset [(.int (9 : Int32)), (.ref b225), (.ref b225)])) t
        refine XS.bipush Xh264.here hx rfl (hb hby at_123) ?_
        exact kt
      obtain ⟨cl265, Ar265, q265, S265, N265, H265, G265⟩ := id V262
      have hin265 : ¬ ((9 : Int32) < 0 ∨ cl265.slots.size ≤ ((9 : Int32)).toNatClampNeg) := inb_of S265 ⟨by decide, by decide⟩
      obtain ⟨T265, h265, X265, e265, W265, st265⟩ := stC Xh264 hx hZ e261 Ar265 (j := (9 : Int32)) hin265 (g := (fr_law m p1 125 (.val (.int ((p1 &&& (2147483647 : Int32)) % (3 : Int32)))) (.val (.ref P1)) .unset .unset .unset .unset [(.int (32 : Int32)), (.int (9 : Int32)), (.ref b225), (.ref b225)])) rfl rfl (hb hby at_125)
      have V266 : Arv Z h265 b225 k225 .char (18 : Int32) [(.int (82 : Int32)), (.int (101 : Int32)), (.int (97 : Int32)), (.int (100 : Int32)), (.int (121 : Int32)), (.int (32 : Int32)), (.int (102 : Int32)), (.int (111 : Int32)), (.int (114 : Int32)), (.int (nar .char (32 : Int32))), (.int (0 : Int32)), (.int (0 : Int32)), (.int (0 : Int32)), (.int (0 : Int32)), (.int (0 : Int32)), (.int (0 : Int32)), (.int (0 : Int32)), (.int (0 : Int32))] (.int (0 : Int32)) := Arv.set Ar265 q265 S265 N265 H265 G265 (fits_nar_char _) W265 9 rfl (Nat.le_of_ble_eq_true rfl)
      rw [own_nl_char_32] at V266
      clear hin265 G265 H265 N265 S265 q265 Ar265 cl265 V262
      have N267 := Fr.snoc X265 Nh264 g226
      obtain ⟨Lh268, Xh268, Nh268⟩ := own_hide (cells' := 1) (slots' := 18) X265 N267 (Nat.le_of_ble_eq_true rfl) (Nat.le_of_ble_eq_true rfl)
      refine ownBy st265 ?_
      clear st265
      show ownG p.tables e below _ (T265.setTop (fr_law m p1 126 (.val (.int ((p1 &&& (2147483647 : Int32)) % (3 : Int32)))) (.val (.ref P1)) .unset .unset .unset .unset [(.ref b225)]))
      refine ownBy (A := T265.setTop (fr_law m p1 131 (.val (.int ((p1 &&& (2147483647 : Int32)) % (3 : Int32)))) (.val (.ref P1)) .unset .unset .unset .unset [(.int (83 : Int32)), (.int (10 : Int32)), (.ref b225), (.ref b225)])) (fun t kt => ?_) ?_
      · refine XS.dup Xh268.here hx rfl (hb hby at_126) rfl rfl ?_
        refine XS.bipush Xh268.here hx rfl (hb hby at_127) ?_
        show Steps p.tables e below (T265.setTop (fr_law m p1 129 (.val (.int ((p1 &&& (2147483647 : Int32)) % (3 : Int32)))) (.val (.ref P1)) .unset .unset .unset .unset [(.int (10 : Int32)), (.ref b225), (.ref b225)])) t
        refine XS.bipush Xh268.here hx rfl (hb hby at_129) ?_
        exact kt
      obtain ⟨cl269, Ar269, q269, S269, N269, H269, G269⟩ := id V266
      have hin269 : ¬ ((10 : Int32) < 0 ∨ cl269.slots.size ≤ ((10 : Int32)).toNatClampNeg) := inb_of S269 ⟨by decide, by decide⟩
      obtain ⟨T269, h269, X269, e269, W269, st269⟩ := stC Xh268 hx hZ e265 Ar269 (j := (10 : Int32)) hin269 (g := (fr_law m p1 131 (.val (.int ((p1 &&& (2147483647 : Int32)) % (3 : Int32)))) (.val (.ref P1)) .unset .unset .unset .unset [(.int (83 : Int32)), (.int (10 : Int32)), (.ref b225), (.ref b225)])) rfl rfl (hb hby at_131)
      have V270 : Arv Z h269 b225 k225 .char (18 : Int32) [(.int (82 : Int32)), (.int (101 : Int32)), (.int (97 : Int32)), (.int (100 : Int32)), (.int (121 : Int32)), (.int (32 : Int32)), (.int (102 : Int32)), (.int (111 : Int32)), (.int (114 : Int32)), (.int (32 : Int32)), (.int (nar .char (83 : Int32))), (.int (0 : Int32)), (.int (0 : Int32)), (.int (0 : Int32)), (.int (0 : Int32)), (.int (0 : Int32)), (.int (0 : Int32)), (.int (0 : Int32))] (.int (0 : Int32)) := Arv.set Ar269 q269 S269 N269 H269 G269 (fits_nar_char _) W269 10 rfl (Nat.le_of_ble_eq_true rfl)
      rw [own_nl_char_83] at V270
      clear hin269 G269 H269 N269 S269 q269 Ar269 cl269 V266
      have N271 := Fr.snoc X269 Nh268 g226
      obtain ⟨Lh272, Xh272, Nh272⟩ := own_hide (cells' := 1) (slots' := 18) X269 N271 (Nat.le_of_ble_eq_true rfl) (Nat.le_of_ble_eq_true rfl)
      refine ownBy st269 ?_
      clear st269
      show ownG p.tables e below _ (T269.setTop (fr_law m p1 132 (.val (.int ((p1 &&& (2147483647 : Int32)) % (3 : Int32)))) (.val (.ref P1)) .unset .unset .unset .unset [(.ref b225)]))
      refine ownBy (A := T269.setTop (fr_law m p1 137 (.val (.int ((p1 &&& (2147483647 : Int32)) % (3 : Int32)))) (.val (.ref P1)) .unset .unset .unset .unset [(.int (104 : Int32)), (.int (11 : Int32)), (.ref b225), (.ref b225)])) (fun t kt => ?_) ?_
      · refine XS.dup Xh272.here hx rfl (hb hby at_132) rfl rfl ?_
        refine XS.bipush Xh272.here hx rfl (hb hby at_133) ?_
        show Steps p.tables e below (T269.setTop (fr_law m p1 135 (.val (.int ((p1 &&& (2147483647 : Int32)) % (3 : Int32)))) (.val (.ref P1)) .unset .unset .unset .unset [(.int (11 : Int32)), (.ref b225), (.ref b225)])) t
        refine XS.bipush Xh272.here hx rfl (hb hby at_135) ?_
        exact kt
      obtain ⟨cl273, Ar273, q273, S273, N273, H273, G273⟩ := id V270
      have hin273 : ¬ ((11 : Int32) < 0 ∨ cl273.slots.size ≤ ((11 : Int32)).toNatClampNeg) := inb_of S273 ⟨by decide, by decide⟩
      obtain ⟨T273, h273, X273, e273, W273, st273⟩ := stC Xh272 hx hZ e269 Ar273 (j := (11 : Int32)) hin273 (g := (fr_law m p1 137 (.val (.int ((p1 &&& (2147483647 : Int32)) % (3 : Int32)))) (.val (.ref P1)) .unset .unset .unset .unset [(.int (104 : Int32)), (.int (11 : Int32)), (.ref b225), (.ref b225)])) rfl rfl (hb hby at_137)
      have V274 : Arv Z h273 b225 k225 .char (18 : Int32) [(.int (82 : Int32)), (.int (101 : Int32)), (.int (97 : Int32)), (.int (100 : Int32)), (.int (121 : Int32)), (.int (32 : Int32)), (.int (102 : Int32)), (.int (111 : Int32)), (.int (114 : Int32)), (.int (32 : Int32)), (.int (83 : Int32)), (.int (nar .char (104 : Int32))), (.int (0 : Int32)), (.int (0 : Int32)), (.int (0 : Int32)), (.int (0 : Int32)), (.int (0 : Int32)), (.int (0 : Int32))] (.int (0 : Int32)) := Arv.set Ar273 q273 S273 N273 H273 G273 (fits_nar_char _) W273 11 rfl (Nat.le_of_ble_eq_true rfl)
      rw [own_nl_char_104] at V274
      clear hin273 G273 H273 N273 S273 q273 Ar273 cl273 V270
      have N275 := Fr.snoc X273 Nh272 g226
      obtain ⟨Lh276, Xh276, Nh276⟩ := own_hide (cells' := 1) (slots' := 18) X273 N275 (Nat.le_of_ble_eq_true rfl) (Nat.le_of_ble_eq_true rfl)
      refine ownBy st273 ?_
      clear st273
      show ownG p.tables e below _ (T273.setTop (fr_law m p1 138 (.val (.int ((p1 &&& (2147483647 : Int32)) % (3 : Int32)))) (.val (.ref P1)) .unset .unset .unset .unset [(.ref b225)]))
      refine ownBy (A := T273.setTop (fr_law m p1 143 (.val (.int ((p1 &&& (2147483647 : Int32)) % (3 : Int32)))) (.val (.ref P1)) .unset .unset .unset .unset [(.int (105 : Int32)), (.int (12 : Int32)), (.ref b225), (.ref b225)])) (fun t kt => ?_) ?_
      · refine XS.dup Xh276.here hx rfl (hb hby at_138) rfl rfl ?_
        refine XS.bipush Xh276.here hx rfl (hb hby at_139) ?_
        show Steps p.tables e below (T273.setTop (fr_law m p1 141 (.val (.int ((p1 &&& (2147483647 : Int32)) % (3 : Int32)))) (.val (.ref P1)) .unset .unset .unset .unset [(.int (12 : Int32)), (.ref b225), (.ref b225)])) t
        refine XS.bipush Xh276.here hx rfl (hb hby at_141) ?_
        exact kt
      obtain ⟨cl277, Ar277, q277, S277, N277, H277, G277⟩ := id V274
      have hin277 : ¬ ((12 : Int32) < 0 ∨ cl277.slots.size ≤ ((12 : Int32)).toNatClampNeg) := inb_of S277 ⟨by decide, by decide⟩
      obtain ⟨T277, h277, X277, e277, W277, st277⟩ := stC Xh276 hx hZ e273 Ar277 (j := (12 : Int32)) hin277 (g := (fr_law m p1 143 (.val (.int ((p1 &&& (2147483647 : Int32)) % (3 : Int32)))) (.val (.ref P1)) .unset .unset .unset .unset [(.int (105 : Int32)), (.int (12 : Int32)), (.ref b225), (.ref b225)])) rfl rfl (hb hby at_143)
      have V278 : Arv Z h277 b225 k225 .char (18 : Int32) [(.int (82 : Int32)), (.int (101 : Int32)), (.int (97 : Int32)), (.int (100 : Int32)), (.int (121 : Int32)), (.int (32 : Int32)), (.int (102 : Int32)), (.int (111 : Int32)), (.int (114 : Int32)), (.int (32 : Int32)), (.int (83 : Int32)), (.int (104 : Int32)), (.int (nar .char (105 : Int32))), (.int (0 : Int32)), (.int (0 : Int32)), (.int (0 : Int32)), (.int (0 : Int32)), (.int (0 : Int32))] (.int (0 : Int32)) := Arv.set Ar277 q277 S277 N277 H277 G277 (fits_nar_char _) W277 12 rfl (Nat.le_of_ble_eq_true rfl)
      rw [own_nl_char_105] at V278
      clear hin277 G277 H277 N277 S277 q277 Ar277 cl277 V274
      have N279 := Fr.snoc X277 Nh276 g226
      obtain ⟨Lh280, Xh280, Nh280⟩ := own_hide (cells' := 1) (slots' := 18) X277 N279 (Nat.le_of_ble_eq_true rfl) (Nat.le_of_ble_eq_true rfl)
      refine ownBy st277 ?_
      clear st277
      show ownG p.tables e below _ (T277.setTop (fr_law m p1 144 (.val (.int ((p1 &&& (2147483647 : Int32)) % (3 : Int32)))) (.val (.ref P1)) .unset .unset .unset .unset [(.ref b225)]))
      refine ownBy (A := T277.setTop (fr_law m p1 149 (.val (.int ((p1 &&& (2147483647 : Int32)) % (3 : Int32)))) (.val (.ref P1)) .unset .unset .unset .unset [(.int (112 : Int32)), (.int (13 : Int32)), (.ref b225), (.ref b225)])) (fun t kt => ?_) ?_
      · refine XS.dup Xh280.here hx rfl (hb hby at_144) rfl rfl ?_
        refine XS.bipush Xh280.here hx rfl (hb hby at_145) ?_
        show Steps p.tables e below (T277.setTop (fr_law m p1 147 (.val (.int ((p1 &&& (2147483647 : Int32)) % (3 : Int32)))) (.val (.ref P1)) .unset .unset .unset .unset [(.int (13 : Int32)), (.ref b225), (.ref b225)])) t
        refine XS.bipush Xh280.here hx rfl (hb hby at_147) ?_
        exact kt
      obtain ⟨cl281, Ar281, q281, S281, N281, H281, G281⟩ := id V278
      have hin281 : ¬ ((13 : Int32) < 0 ∨ cl281.slots.size ≤ ((13 : Int32)).toNatClampNeg) := inb_of S281 ⟨by decide, by decide⟩
      obtain ⟨T281, h281, X281, e281, W281, st281⟩ := stC Xh280 hx hZ e277 Ar281 (j := (13 : Int32)) hin281 (g := (fr_law m p1 149 (.val (.int ((p1 &&& (2147483647 : Int32)) % (3 : Int32)))) (.val (.ref P1)) .unset .unset .unset .unset [(.int (112 : Int32)), (.int (13 : Int32)), (.ref b225), (.ref b225)])) rfl rfl (hb hby at_149)
      have V282 : Arv Z h281 b225 k225 .char (18 : Int32) [(.int (82 : Int32)), (.int (101 : Int32)), (.int (97 : Int32)), (.int (100 : Int32)), (.int (121 : Int32)), (.int (32 : Int32)), (.int (102 : Int32)), (.int (111 : Int32)), (.int (114 : Int32)), (.int (32 : Int32)), (.int (83 : Int32)), (.int (104 : Int32)), (.int (105 : Int32)), (.int (nar .char (112 : Int32))), (.int (0 : Int32)), (.int (0 : Int32)), (.int (0 : Int32)), (.int (0 : Int32))] (.int (0 : Int32)) := Arv.set Ar281 q281 S281 N281 H281 G281 (fits_nar_char _) W281 13 rfl (Nat.le_of_ble_eq_true rfl)
      rw [own_nl_char_112] at V282
      clear hin281 G281 H281 N281 S281 q281 Ar281 cl281 V278
      have N283 := Fr.snoc X281 Nh280 g226
      obtain ⟨Lh284, Xh284, Nh284⟩ := own_hide (cells' := 1) (slots' := 18) X281 N283 (Nat.le_of_ble_eq_true rfl) (Nat.le_of_ble_eq_true rfl)
      refine ownBy st281 ?_
      clear st281
      show ownG p.tables e below _ (T281.setTop (fr_law m p1 150 (.val (.int ((p1 &&& (2147483647 : Int32)) % (3 : Int32)))) (.val (.ref P1)) .unset .unset .unset .unset [(.ref b225)]))
      refine ownBy (A := T281.setTop (fr_law m p1 155 (.val (.int ((p1 &&& (2147483647 : Int32)) % (3 : Int32)))) (.val (.ref P1)) .unset .unset .unset .unset [(.int (112 : Int32)), (.int (14 : Int32)), (.ref b225), (.ref b225)])) (fun t kt => ?_) ?_
      · refine XS.dup Xh284.here hx rfl (hb hby at_150) rfl rfl ?_
        refine XS.bipush Xh284.here hx rfl (hb hby at_151) ?_
        show Steps p.tables e below (T281.setTop (fr_law m p1 153 (.val (.int ((p1 &&& (2147483647 : Int32)) % (3 : Int32)))) (.val (.ref P1)) .unset .unset .unset .unset [(.int (14 : Int32)), (.ref b225), (.ref b225)])) t
        refine XS.bipush Xh284.here hx rfl (hb hby at_153) ?_
        exact kt
      obtain ⟨cl285, Ar285, q285, S285, N285, H285, G285⟩ := id V282
      have hin285 : ¬ ((14 : Int32) < 0 ∨ cl285.slots.size ≤ ((14 : Int32)).toNatClampNeg) := inb_of S285 ⟨by decide, by decide⟩
      obtain ⟨T285, h285, X285, e285, W285, st285⟩ := stC Xh284 hx hZ e281 Ar285 (j := (14 : Int32)) hin285 (g := (fr_law m p1 155 (.val (.int ((p1 &&& (2147483647 : Int32)) % (3 : Int32)))) (.val (.ref P1)) .unset .unset .unset .unset [(.int (112 : Int32)), (.int (14 : Int32)), (.ref b225), (.ref b225)])) rfl rfl (hb hby at_155)
      have V286 : Arv Z h285 b225 k225 .char (18 : Int32) [(.int (82 : Int32)), (.int (101 : Int32)), (.int (97 : Int32)), (.int (100 : Int32)), (.int (121 : Int32)), (.int (32 : Int32)), (.int (102 : Int32)), (.int (111 : Int32)), (.int (114 : Int32)), (.int (32 : Int32)), (.int (83 : Int32)), (.int (104 : Int32)), (.int (105 : Int32)), (.int (112 : Int32)), (.int (nar .char (112 : Int32))), (.int (0 : Int32)), (.int (0 : Int32)), (.int (0 : Int32))] (.int (0 : Int32)) := Arv.set Ar285 q285 S285 N285 H285 G285 (fits_nar_char _) W285 14 rfl (Nat.le_of_ble_eq_true rfl)
      rw [own_nl_char_112] at V286
      clear hin285 G285 H285 N285 S285 q285 Ar285 cl285 V282
      have N287 := Fr.snoc X285 Nh284 g226
      obtain ⟨Lh288, Xh288, Nh288⟩ := own_hide (cells' := 1) (slots' := 18) X285 N287 (Nat.le_of_ble_eq_true rfl) (Nat.le_of_ble_eq_true rfl)
      refine ownBy st285 ?_
      clear st285
      show ownG p.tables e below _ (T285.setTop (fr_law m p1 156 (.val (.int ((p1 &&& (2147483647 : Int32)) % (3 : Int32)))) (.val (.ref P1)) .unset .unset .unset .unset [(.ref b225)]))
      refine ownBy (A := T285.setTop (fr_law m p1 161 (.val (.int ((p1 &&& (2147483647 : Int32)) % (3 : Int32)))) (.val (.ref P1)) .unset .unset .unset .unset [(.int (105 : Int32)), (.int (15 : Int32)), (.ref b225), (.ref b225)])) (fun t kt => ?_) ?_
      · refine XS.dup Xh288.here hx rfl (hb hby at_156) rfl rfl ?_
        refine XS.bipush Xh288.here hx rfl (hb hby at_157) ?_
        show Steps p.tables e below (T285.setTop (fr_law m p1 159 (.val (.int ((p1 &&& (2147483647 : Int32)) % (3 : Int32)))) (.val (.ref P1)) .unset .unset .unset .unset [(.int (15 : Int32)), (.ref b225), (.ref b225)])) t
        refine XS.bipush Xh288.here hx rfl (hb hby at_159) ?_
        exact kt
      obtain ⟨cl289, Ar289, q289, S289, N289, H289, G289⟩ := id V286
      have hin289 : ¬ ((15 : Int32) < 0 ∨ cl289.slots.size ≤ ((15 : Int32)).toNatClampNeg) := inb_of S289 ⟨by decide, by decide⟩
      obtain ⟨T289, h289, X289, e289, W289, st289⟩ := stC Xh288 hx hZ e285 Ar289 (j := (15 : Int32)) hin289 (g := (fr_law m p1 161 (.val (.int ((p1 &&& (2147483647 : Int32)) % (3 : Int32)))) (.val (.ref P1)) .unset .unset .unset .unset [(.int (105 : Int32)), (.int (15 : Int32)), (.ref b225), (.ref b225)])) rfl rfl (hb hby at_161)
      have V290 : Arv Z h289 b225 k225 .char (18 : Int32) [(.int (82 : Int32)), (.int (101 : Int32)), (.int (97 : Int32)), (.int (100 : Int32)), (.int (121 : Int32)), (.int (32 : Int32)), (.int (102 : Int32)), (.int (111 : Int32)), (.int (114 : Int32)), (.int (32 : Int32)), (.int (83 : Int32)), (.int (104 : Int32)), (.int (105 : Int32)), (.int (112 : Int32)), (.int (112 : Int32)), (.int (nar .char (105 : Int32))), (.int (0 : Int32)), (.int (0 : Int32))] (.int (0 : Int32)) := Arv.set Ar289 q289 S289 N289 H289 G289 (fits_nar_char _) W289 15 rfl (Nat.le_of_ble_eq_true rfl)
      rw [own_nl_char_105] at V290
      clear hin289 G289 H289 N289 S289 q289 Ar289 cl289 V286
      have N291 := Fr.snoc X289 Nh288 g226
      obtain ⟨Lh292, Xh292, Nh292⟩ := own_hide (cells' := 1) (slots' := 18) X289 N291 (Nat.le_of_ble_eq_true rfl) (Nat.le_of_ble_eq_true rfl)
      refine ownBy st289 ?_
      clear st289
      show ownG p.tables e below _ (T289.setTop (fr_law m p1 162 (.val (.int ((p1 &&& (2147483647 : Int32)) % (3 : Int32)))) (.val (.ref P1)) .unset .unset .unset .unset [(.ref b225)]))
      refine ownBy (A := T289.setTop (fr_law m p1 167 (.val (.int ((p1 &&& (2147483647 : Int32)) % (3 : Int32)))) (.val (.ref P1)) .unset .unset .unset .unset [(.int (110 : Int32)), (.int (16 : Int32)), (.ref b225), (.ref b225)])) (fun t kt => ?_) ?_
      · refine XS.dup Xh292.here hx rfl (hb hby at_162) rfl rfl ?_
        refine XS.bipush Xh292.here hx rfl (hb hby at_163) ?_
        show Steps p.tables e below (T289.setTop (fr_law m p1 165 (.val (.int ((p1 &&& (2147483647 : Int32)) % (3 : Int32)))) (.val (.ref P1)) .unset .unset .unset .unset [(.int (16 : Int32)), (.ref b225), (.ref b225)])) t
        refine XS.bipush Xh292.here hx rfl (hb hby at_165) ?_
        exact kt
      obtain ⟨cl293, Ar293, q293, S293, N293, H293, G293⟩ := id V290
      have hin293 : ¬ ((16 : Int32) < 0 ∨ cl293.slots.size ≤ ((16 : Int32)).toNatClampNeg) := inb_of S293 ⟨by decide, by decide⟩
      obtain ⟨T293, h293, X293, e293, W293, st293⟩ := stC Xh292 hx hZ e289 Ar293 (j := (16 : Int32)) hin293 (g := (fr_law m p1 167 (.val (.int ((p1 &&& (2147483647 : Int32)) % (3 : Int32)))) (.val (.ref P1)) .unset .unset .unset .unset [(.int (110 : Int32)), (.int (16 : Int32)), (.ref b225), (.ref b225)])) rfl rfl (hb hby at_167)
      have V294 : Arv Z h293 b225 k225 .char (18 : Int32) [(.int (82 : Int32)), (.int (101 : Int32)), (.int (97 : Int32)), (.int (100 : Int32)), (.int (121 : Int32)), (.int (32 : Int32)), (.int (102 : Int32)), (.int (111 : Int32)), (.int (114 : Int32)), (.int (32 : Int32)), (.int (83 : Int32)), (.int (104 : Int32)), (.int (105 : Int32)), (.int (112 : Int32)), (.int (112 : Int32)), (.int (105 : Int32)), (.int (nar .char (110 : Int32))), (.int (0 : Int32))] (.int (0 : Int32)) := Arv.set Ar293 q293 S293 N293 H293 G293 (fits_nar_char _) W293 16 rfl (Nat.le_of_ble_eq_true rfl)
      rw [own_nl_char_110] at V294
      clear hin293 G293 H293 N293 S293 q293 Ar293 cl293 V290
      have N295 := Fr.snoc X293 Nh292 g226
      obtain ⟨Lh296, Xh296, Nh296⟩ := own_hide (cells' := 1) (slots' := 18) X293 N295 (Nat.le_of_ble_eq_true rfl) (Nat.le_of_ble_eq_true rfl)
      refine ownBy st293 ?_
      clear st293
      show ownG p.tables e below _ (T293.setTop (fr_law m p1 168 (.val (.int ((p1 &&& (2147483647 : Int32)) % (3 : Int32)))) (.val (.ref P1)) .unset .unset .unset .unset [(.ref b225)]))
      refine ownBy (A := T293.setTop (fr_law m p1 173 (.val (.int ((p1 &&& (2147483647 : Int32)) % (3 : Int32)))) (.val (.ref P1)) .unset .unset .unset .unset [(.int (103 : Int32)), (.int (17 : Int32)), (.ref b225), (.ref b225)])) (fun t kt => ?_) ?_
      · refine XS.dup Xh296.here hx rfl (hb hby at_168) rfl rfl ?_
        refine XS.bipush Xh296.here hx rfl (hb hby at_169) ?_
        show Steps p.tables e below (T293.setTop (fr_law m p1 171 (.val (.int ((p1 &&& (2147483647 : Int32)) % (3 : Int32)))) (.val (.ref P1)) .unset .unset .unset .unset [(.int (17 : Int32)), (.ref b225), (.ref b225)])) t
        refine XS.bipush Xh296.here hx rfl (hb hby at_171) ?_
        exact kt
      obtain ⟨cl297, Ar297, q297, S297, N297, H297, G297⟩ := id V294
      have hin297 : ¬ ((17 : Int32) < 0 ∨ cl297.slots.size ≤ ((17 : Int32)).toNatClampNeg) := inb_of S297 ⟨by decide, by decide⟩
      obtain ⟨T297, h297, X297, e297, W297, st297⟩ := stC Xh296 hx hZ e293 Ar297 (j := (17 : Int32)) hin297 (g := (fr_law m p1 173 (.val (.int ((p1 &&& (2147483647 : Int32)) % (3 : Int32)))) (.val (.ref P1)) .unset .unset .unset .unset [(.int (103 : Int32)), (.int (17 : Int32)), (.ref b225), (.ref b225)])) rfl rfl (hb hby at_173)
      have V298 : Arv Z h297 b225 k225 .char (18 : Int32) [(.int (82 : Int32)), (.int (101 : Int32)), (.int (97 : Int32)), (.int (100 : Int32)), (.int (121 : Int32)), (.int (32 : Int32)), (.int (102 : Int32)), (.int (111 : Int32)), (.int (114 : Int32)), (.int (32 : Int32)), (.int (83 : Int32)), (.int (104 : Int32)), (.int (105 : Int32)), (.int (112 : Int32)), (.int (112 : Int32)), (.int (105 : Int32)), (.int (110 : Int32)), (.int (nar .char (103 : Int32)))] (.int (0 : Int32)) := Arv.set Ar297 q297 S297 N297 H297 G297 (fits_nar_char _) W297 17 rfl (Nat.le_of_ble_eq_true rfl)
      rw [own_nl_char_103] at V298
      clear hin297 G297 H297 N297 S297 q297 Ar297 cl297 V294
      have N299 := Fr.snoc X297 Nh296 g226
      obtain ⟨Lh300, Xh300, Nh300⟩ := own_hide (cells' := 1) (slots' := 18) X297 N299 (Nat.le_of_ble_eq_true rfl) (Nat.le_of_ble_eq_true rfl)
      refine ownBy st297 ?_
      clear st297
      show ownG p.tables e below _ (T297.setTop (fr_law m p1 174 (.val (.int ((p1 &&& (2147483647 : Int32)) % (3 : Int32)))) (.val (.ref P1)) .unset .unset .unset .unset [(.ref b225)]))
      refine ownBy (A := T297.setTop (fr_law m p1 223 (.val (.int ((p1 &&& (2147483647 : Int32)) % (3 : Int32)))) (.val (.ref P1)) (.val (.ref b225)) .unset .unset .unset [])) (fun t kt => ?_) ?_
      · refine XS.astoreN Xh300.here hx rfl (hb hby at_174) rfl rfl (l' := #[.val (.int p1), .val (.int ((p1 &&& (2147483647 : Int32)) % (3 : Int32))), .val (.ref P1), .val (.ref b225), .unset, .unset, .unset]) rfl ?_
        refine XS.goto Xh300.here hx rfl (pc0 := 175) (pc' := 223) rfl (hb hby at_175) (by decide) (by decide) ?_
        exact kt
      obtain ⟨T301, h301, X301, e301, E301, A301, D301, -, st301⟩ := newO Xh300 hx hZ hown (Wd5 hw) (Wd6 hw) (Wd7 hw) e297 (g := (fr_law m p1 223 (.val (.int ((p1 &&& (2147483647 : Int32)) % (3 : Int32)))) (.val (.ref P1)) (.val (.ref b225)) .unset .unset .unset [])) rfl (hb hby at_223) (by decide) (by decide)
      obtain ⟨b301, g301⟩ : ∃ z, z = h297.size := ⟨_, rfl⟩
      rw [← g301] at A301 D301 st301
      have ne302 : b225 ≠ b301 := Nat.ne_of_lt (Nat.lt_of_lt_of_le V298.lt (Nat.le_of_eq g301.symm))
      have f304 := (Nat.le_trans (Nat.le_trans (Nat.le_trans (Nat.le_trans (Nat.le_trans (Nat.le_trans (Nat.le_trans (Nat.le_trans (Nat.le_trans (Nat.le_trans (Nat.le_trans (Nat.le_trans (Nat.le_trans (Nat.le_trans (Nat.le_trans (Nat.le_trans (Nat.le_trans (Nat.le_trans (Nat.le_trans Z0 E225.1) (Keep.of_wr W229).1) (Keep.of_wr W233).1) (Keep.of_wr W237).1) (Keep.of_wr W241).1) (Keep.of_wr W245).1) (Keep.of_wr W249).1) (Keep.of_wr W253).1) (Keep.of_wr W257).1) (Keep.of_wr W261).1) (Keep.of_wr W265).1) (Keep.of_wr W269).1) (Keep.of_wr W273).1) (Keep.of_wr W277).1) (Keep.of_wr W281).1) (Keep.of_wr W285).1) (Keep.of_wr W289).1) (Keep.of_wr W293).1) (Keep.of_wr W297).1)
      have g303 : n0 ≤ b301 := Nat.le_trans f304 (Nat.le_of_eq g301.symm)
      have f306 := ((((((((((((((((((((Keep.refl h0 []).ext E225).wr W229 (Or.inr z227)).wr W233 (Or.inr z227)).wr W237 (Or.inr z227)).wr W241 (Or.inr z227)).wr W245 (Or.inr z227)).wr W249 (Or.inr z227)).wr W253 (Or.inr z227)).wr W257 (Or.inr z227)).wr W261 (Or.inr z227)).wr W265 (Or.inr z227)).wr W269 (Or.inr z227)).wr W273 (Or.inr z227)).wr W277 (Or.inr z227)).wr W281 (Or.inr z227)).wr W285 (Or.inr z227)).wr W289 (Or.inr z227)).wr W293 (Or.inr z227)).wr W297 (Or.inr z227))
      have z305 : h0.size ≤ b301 := Nat.le_trans f306.1 (Nat.le_of_eq g301.symm)
      have F307 : Fld Z h301 b301 "java/lang/String" "coder" "B" (.int (0 : Int32)) := D301 (Or.inr (Wd31 hw)) (ty := .byte) (by decide)
      have F308 : Fld Z h301 b301 "java/lang/String" "value" "[B" .null := D301 (Or.inr (Wd33 hw)) (ty := (.array .byte)) (by decide)
      refine ownBy st301 ?_
      clear st301
      show ownG p.tables e below _ (T301.setTop (fr_law m p1 226 (.val (.int ((p1 &&& (2147483647 : Int32)) % (3 : Int32)))) (.val (.ref P1)) (.val (.ref b225)) .unset .unset .unset [(.ref b301)]))
      refine ownBy (A := T301.setTop (fr_law m p1 228 (.val (.int ((p1 &&& (2147483647 : Int32)) % (3 : Int32)))) (.val (.ref P1)) (.val (.ref b225)) .unset .unset .unset [(.ref b225), (.ref b301), (.ref b301)])) (fun t kt => ?_) ?_
      · refine XS.dup X301.here hx rfl (hb hby at_226) rfl rfl ?_
        refine XS.aloadN X301.here hx rfl (hb hby at_227) rfl rfl ?_
        exact kt
      have hp309 : ∀ c ∈ ([(82 : Int32), (101 : Int32), (97 : Int32), (100 : Int32), (121 : Int32), (32 : Int32), (102 : Int32), (111 : Int32), (114 : Int32), (32 : Int32), (83 : Int32), (104 : Int32), (105 : Int32), (112 : Int32), (112 : Int32), (105 : Int32), (110 : Int32), (103 : Int32)] : List Int32), ¬ c < 0 ∧ ¬ (255 : Int32) < c := by
        intro c hc
        simp only [List.mem_cons, List.not_mem_nil, or_false] at hc
        rcases hc with rfl | rfl | rfl | rfl | rfl | rfl | rfl | rfl | rfl | rfl | rfl | rfl | rfl | rfl | rfl | rfl | rfl | rfl
        · exact (by decide)
        · exact (by decide)
        · exact (by decide)
        · exact (by decide)
        · exact (by decide)
        · exact (by decide)
        · exact (by decide)
        · exact (by decide)
        · exact (by decide)
        · exact (by decide)
        · exact (by decide)
        · exact (by decide)
        · exact (by decide)
        · exact (by decide)
        · exact (by decide)
        · exact (by decide)
        · exact (by decide)
        · exact (by decide)
      have f310 := (Nat.le_trans f304 E301.1)
      have f311 := (V298.ext E301)
      have f312 := ((((((((((((((((((((X00.ext E225).wr W229 g226).wr W233 g226).wr W237 g226).wr W241 g226).wr W245 g226).wr W249 g226).wr W253 g226).wr W257 g226).wr W261 g226).wr W265 g226).wr W269 g226).wr W273 g226).wr W277 g226).wr W281 g226).wr W285 g226).wr W289 g226).wr W293 g226).wr W297 g226).ext E301)
      obtain ⟨vv313, _, ⟨T313, L313, k313, n313⟩, -, X313, ⟨Lc313, hQ313, l313, y313, z313⟩, st313⟩ := X301.specialBack hx (y := (⟨"java/lang/String", "<init>", "([C)V"⟩ : MethodName)) rfl hown (mvT hZ (Wd8 hw)) (mvT hZ (Wd9 hw)) (mvT hZ (Wd10 hw)) (by decide) (StrChars.Road.backV (W := 1) hZ hws (kI := 4) (Wd6 hw) (cs := ([(82 : Int32), (101 : Int32), (97 : Int32), (100 : Int32), (121 : Int32), (32 : Int32), (102 : Int32), (111 : Int32), (114 : Int32), (32 : Int32), (83 : Int32), (104 : Int32), (105 : Int32), (112 : Int32), (112 : Int32), (105 : Int32), (110 : Int32), (103 : Int32)] : List Int32)) (bs := (([(82 : Int32), (101 : Int32), (97 : Int32), (100 : Int32), (121 : Int32), (32 : Int32), (102 : Int32), (111 : Int32), (114 : Int32), (32 : Int32), (83 : Int32), (104 : Int32), (105 : Int32), (112 : Int32), (112 : Int32), (105 : Int32), (110 : Int32), (103 : Int32)] : List Int32)).map (fun c => c.toInt8.toInt32)) (n := 18) g303 f310 A301 F308 F307 f311 (O2.ext f312.2) P5 rfl rfl (by decide) (by decide) hp309 rfl (by decide) (by decide)) (g := (fr_law m p1 228 (.val (.int ((p1 &&& (2147483647 : Int32)) % (3 : Int32)))) (.val (.ref P1)) (.val (.ref b225)) .unset .unset .unset [(.ref b225), (.ref b301), (.ref b301)])) rfl (by rw [hml]; rfl) (Steps.refl _) (a := b301) (argsL := [(.ref b225)]) (rest := [(.ref b301)]) (lenOf pd_173 rfl) rfl (by show 2 * 0 + _ ≤ _; exact Nat.le_of_eq rfl) (hb hby at_228) (fun _ _ => ⟨rfl, e301, (by decide : 2 + 1 ≤ _), (by decide : 22 + 18 ≤ _)⟩)
      dsimp only [Pt.U, Pt.locs, Pt.cells, Pt.slots] at X313 l313 y313 z313 st313 hQ313
      subst l313 y313 z313
      obtain ⟨rfl, Nq313, Kq313, Eq313, Cq313, t313, kb313, u313, v313, w313, Vq313, Aq313⟩ := hQ313
      have ne314 : b225 ≠ t313 := Nat.ne_of_lt (Nat.lt_of_lt_of_le f311.lt v313)
      have ne315 : b301 ≠ t313 := Nat.ne_of_lt (Nat.lt_of_lt_of_le A301.lt v313)
      have g316 : n0 ≤ t313 := Nat.le_trans f310 v313
      have f318 := (f306.ext E301)
      have z317 : h0.size ≤ t313 := Nat.le_trans f318.1 v313
      have N319 := Fr.app Nh300 Nq313
      obtain ⟨Lh320, Xh320, Nh320⟩ := own_hide (cells' := 3) (slots' := 40) X313 N319 (Nat.le_of_ble_eq_true rfl) (Nat.le_of_ble_eq_true rfl)
      refine ownSt st313 ?_
      clear st313
      show ownG p.tables e below _ (T313.setTop (fr_law m p1 231 (.val (.int ((p1 &&& (2147483647 : Int32)) % (3 : Int32)))) (.val (.ref P1)) (.val (.ref b225)) .unset .unset .unset [(.ref b301)]))
      refine ownBy (A := T313.setTop (fr_law m p1 235 (.val (.int ((p1 &&& (2147483647 : Int32)) % (3 : Int32)))) (.val (.ref P1)) (.val (.ref b225)) (.val (.ref b301)) .unset .unset [(.ref b301)])) (fun t kt => ?_) ?_
      · refine XS.astore Xh320.here hx rfl (hb hby at_231) rfl rfl (l' := #[.val (.int p1), .val (.int ((p1 &&& (2147483647 : Int32)) % (3 : Int32))), .val (.ref P1), .val (.ref b225), .val (.ref b301), .unset, .unset]) rfl ?_
        refine XS.aload Xh320.here hx rfl (hb hby at_233) rfl rfl ?_
        exact kt
      have f321 := (A301.keep Kq313)
      have f322 := (f312.keep Kq313 (allS g303 all0))
      have f323 := (Nat.le_trans f310 Kq313.1)
      obtain ⟨vv324, _, ⟨T324, L324, k324, n324⟩, -, X324, ⟨Lc324, hQ324, l324, y324, z324⟩, st324⟩ := Jvm.LawKit.callS Xh320 hx (y := (⟨"com/example/quayside/quayside/model/OrderStatus", "ofWord", "(Ljava/lang/String;)Lcom/example/quayside/quayside/model/OrderStatus;"⟩ : MethodName)) hown (mvT hZ (Wd34 hw)) (mvT hZ (Wd35 hw)) (mvT hZ (Wd2 hw)) (mvT hZ (Wd36 hw)) (by decide) (backOf (W := 0) (c_of1 l Z a0 hw [] b301 t313 kb313 A kA P0 P1 P2 W0 W1 W2 B0 B1 B2 kb0 kb1 kb2 G1 T313.heap n0 f323 f321 Vq313 Cq313 Aq313 hp309 SV KV EV EP0 FP0 EW0 FV0 FC0 KB0 EP1 FP1 EW1 FV1 FC1 KB1 EP2 FP2 EW2 FV2 FC2 KB2 O2 P5 f322) hZ (Wd36 hw) (Wd2 hw) (by decide) (by decide)) (g := (fr_law m p1 235 (.val (.int ((p1 &&& (2147483647 : Int32)) % (3 : Int32)))) (.val (.ref P1)) (.val (.ref b225)) (.val (.ref b301)) .unset .unset [(.ref b301)])) rfl (by rw [hml]; rfl) (argsL := [(.ref b301)]) (rest := []) (lenOf pd_185 rfl) rfl (by show 2 * 0 + _ ≤ _; exact Nat.le_of_eq rfl) (hb hby at_235) (fun _ _ => ⟨rfl, rfl, (by decide : 3 + 1 ≤ _), (by decide : 40 + 3 ≤ _)⟩)
      dsimp only [Pt.U, Pt.locs, Pt.cells, Pt.slots] at X324 l324 y324 z324 st324 hQ324
      subst l324 y324 z324
      obtain ⟨rfl, Nq324, Kq324⟩ := hQ324
      have N325 := Fr.app Nh320 Nq324
      obtain ⟨Lh326, Xh326, Nh326⟩ := own_hide (cells' := 4) (slots' := 43) X324 N325 (Nat.le_of_ble_eq_true rfl) (Nat.le_of_ble_eq_true rfl)
      refine ownBy st324 ?_
      clear st324
      show ownG p.tables e below _ (T324.setTop (fr_law m p1 238 (.val (.int ((p1 &&& (2147483647 : Int32)) % (3 : Int32)))) (.val (.ref P1)) (.val (.ref b225)) (.val (.ref b301)) .unset .unset [(.ref P1)]))
      refine ownBy (A := T324.setTop (fr_law m p1 241 (.val (.int ((p1 &&& (2147483647 : Int32)) % (3 : Int32)))) (.val (.ref P1)) (.val (.ref b225)) (.val (.ref b301)) (.val (.ref P1)) .unset [(.ref P1)])) (fun t kt => ?_) ?_
      · refine XS.astore Xh326.here hx rfl (hb hby at_238) rfl rfl (l' := #[.val (.int p1), .val (.int ((p1 &&& (2147483647 : Int32)) % (3 : Int32))), .val (.ref P1), .val (.ref b225), .val (.ref b301), .val (.ref P1), .unset]) rfl ?_
        refine XS.aloadN Xh326.here hx rfl (hb hby at_240) rfl rfl ?_
        exact kt
      have f327 := (f322.keep Kq324 all0)
      have f328 := FP1.ext f327.2
      have f329 := (Nat.le_trans f323 Kq324.1)
      have f331 := EP1.ext f327.2
      obtain ⟨cq330, kq330, q330a, q330b, q330c⟩ := isOf hZ rfl f331
      obtain ⟨vv330, _, ⟨T330, L330, k330, n330⟩, -, X330, ⟨Lc330, hQ330, l330, y330, z330⟩, st330⟩ := Xh326.virtualBack hx (y := (⟨"com/example/quayside/quayside/model/OrderStatus", "getWord", "()Ljava/lang/String;"⟩ : MethodName)) (z := (⟨"com/example/quayside/quayside/model/OrderStatus", "getWord", "()Ljava/lang/String;"⟩ : MethodName)) hown (mvT hZ (Wd66 hw)) (mvT hZ (Wd67 hw)) (notFace_of_selects (args := #[]) (mvT hZ (Wd69 hw))) (mvT hZ (Wd69 hw)) (mvT hZ (Wd68 hw)) (by decide) (backOf (W := 0) (c_gword l Z a0 hw [] P1 (.ref W1) T324.heap n0 f329 f328 rfl) hZ (Wd70 hw) (Wd2 hw) (by decide) (by decide)) q330a q330c (g := (fr_law m p1 241 (.val (.int ((p1 &&& (2147483647 : Int32)) % (3 : Int32)))) (.val (.ref P1)) (.val (.ref b225)) (.val (.ref b301)) (.val (.ref P1)) .unset [(.ref P1)])) rfl (by rw [hml]; rfl) (Steps.refl _) (argsL := []) (rest := []) (lenOf pd_192 rfl) rfl (by show 2 * 0 + _ ≤ _; exact Nat.le_of_eq rfl) (hb hby at_241) (fun _ _ => ⟨rfl, rfl, (by decide : 4 + 0 ≤ _), (by decide : 43 + 0 ≤ _)⟩)
      dsimp only [Pt.U, Pt.locs, Pt.cells, Pt.slots] at X330 l330 y330 z330 st330 hQ330
      subst l330 y330 z330
      obtain ⟨rfl, Nq330, Eq330⟩ := hQ330
      have N332 := Fr.app Nh326 Nq330
      obtain ⟨Lh333, Xh333, Nh333⟩ := own_hide (cells' := 4) (slots' := 43) X330 N332 (Nat.le_of_ble_eq_true rfl) (Nat.le_of_ble_eq_true rfl)
      refine ownSt st330 ?_
      clear st330
      show ownG p.tables e below _ (T330.setTop (fr_law m p1 244 (.val (.int ((p1 &&& (2147483647 : Int32)) % (3 : Int32)))) (.val (.ref P1)) (.val (.ref b225)) (.val (.ref b301)) (.val (.ref P1)) .unset [(.ref W1)]))
      have f334 := EW1.ext f327.2
      have f335 := FV1.ext f327.2
      have f336 := FC1.ext f327.2
      have f337 := KB1.ext f327.2
      obtain ⟨vv338, _, ⟨T338, L338, k338, n338⟩, -, X338, ⟨Lc338, hQ338, l338, y338, z338⟩, st338⟩ := Jvm.LawKit.callS Xh333 hx (y := (⟨"com/example/quayside/quayside/model/OrderStatus", "ofWord", "(Ljava/lang/String;)Lcom/example/quayside/quayside/model/OrderStatus;"⟩ : MethodName)) hown (mvT hZ (Wd34 hw)) (mvT hZ (Wd35 hw)) (mvT hZ (Wd2 hw)) (mvT hZ (Wd36 hw)) (by decide) (backOf (W := 0) (c_of1 l Z a0 hw [] W1 B1 kb1 A kA P0 P1 P2 W0 W1 W2 B0 B1 B2 kb0 kb1 kb2 G1 T324.heap n0 f329 f334 f335 f336 f337 hpw1 SV KV EV EP0 FP0 EW0 FV0 FC0 KB0 EP1 FP1 EW1 FV1 FC1 KB1 EP2 FP2 EW2 FV2 FC2 KB2 O2 P5 f327) hZ (Wd36 hw) (Wd2 hw) (by decide) (by decide)) (g := (fr_law m p1 244 (.val (.int ((p1 &&& (2147483647 : Int32)) % (3 : Int32)))) (.val (.ref P1)) (.val (.ref b225)) (.val (.ref b301)) (.val (.ref P1)) .unset [(.ref W1)])) rfl (by rw [hml]; rfl) (argsL := [(.ref W1)]) (rest := []) (lenOf pd_185 rfl) rfl (by show 2 * 0 + _ ≤ _; exact Nat.le_of_eq rfl) (hb hby at_244) (fun _ _ => ⟨rfl, Eq330, (by decide : 4 + 1 ≤ _), (by decide : 43 + 3 ≤ _)⟩)
      dsimp only [Pt.U, Pt.locs, Pt.cells, Pt.slots] at X338 l338 y338 z338 st338 hQ338
      subst l338 y338 z338
      obtain ⟨rfl, Nq338, Kq338⟩ := hQ338
      have N339 := Fr.app Nh333 Nq338
      obtain ⟨Lh340, Xh340, Nh340⟩ := own_hide (cells' := 5) (slots' := 46) X338 N339 (Nat.le_of_ble_eq_true rfl) (Nat.le_of_ble_eq_true rfl)
      refine ownBy st338 ?_
      clear st338
      show ownG p.tables e below _ (T338.setTop (fr_law m p1 247 (.val (.int ((p1 &&& (2147483647 : Int32)) % (3 : Int32)))) (.val (.ref P1)) (.val (.ref b225)) (.val (.ref b301)) (.val (.ref P1)) .unset [(.ref P1)]))
      refine ownBy (A := T338.setTop (fr_law m p1 262 (.val (.int ((p1 &&& (2147483647 : Int32)) % (3 : Int32)))) (.val (.ref P1)) (.val (.ref b225)) (.val (.ref b301)) (.val (.ref P1)) (.val (.ref P1)) [(.ref P1)])) (fun t kt => ?_) ?_
      · refine XS.astore Xh340.here hx rfl (hb hby at_247) rfl rfl (l' := #[.val (.int p1), .val (.int ((p1 &&& (2147483647 : Int32)) % (3 : Int32))), .val (.ref P1), .val (.ref b225), .val (.ref b301), .val (.ref P1), .val (.ref P1)]) rfl ?_
        refine XS.aload Xh340.here hx rfl (hb hby at_249) rfl rfl ?_
        show Steps p.tables e below (T338.setTop (fr_law m p1 251 (.val (.int ((p1 &&& (2147483647 : Int32)) % (3 : Int32)))) (.val (.ref P1)) (.val (.ref b225)) (.val (.ref b301)) (.val (.ref P1)) (.val (.ref P1)) [(.ref P1)])) t
        refine XS.aloadN Xh340.here hx rfl (hb hby at_251) rfl rfl ?_
        refine Jvm.RoadKit.acmp (g := (fr_law m p1 252 (.val (.int ((p1 &&& (2147483647 : Int32)) % (3 : Int32)))) (.val (.ref P1)) (.val (.ref b225)) (.val (.ref b301)) (.val (.ref P1)) (.val (.ref P1)) [(.ref P1), (.ref P1)])) Xh340 hx rfl rfl rfl (pc0 := 252) (pc' := 255) (same := true) rfl (hb hby at_252) rfl (decide_eq_true rfl) (by decide) (by decide) ?_
        show Steps p.tables e below (T338.setTop (fr_law m p1 255 (.val (.int ((p1 &&& (2147483647 : Int32)) % (3 : Int32)))) (.val (.ref P1)) (.val (.ref b225)) (.val (.ref b301)) (.val (.ref P1)) (.val (.ref P1)) [])) t
        refine XS.aload Xh340.here hx rfl (hb hby at_255) rfl rfl ?_
        refine XS.aloadN Xh340.here hx rfl (hb hby at_257) rfl rfl ?_
        show Steps p.tables e below (T338.setTop (fr_law m p1 258 (.val (.int ((p1 &&& (2147483647 : Int32)) % (3 : Int32)))) (.val (.ref P1)) (.val (.ref b225)) (.val (.ref b301)) (.val (.ref P1)) (.val (.ref P1)) [(.ref P1), (.ref P1)])) t
        refine Jvm.RoadKit.acmp (g := (fr_law m p1 258 (.val (.int ((p1 &&& (2147483647 : Int32)) % (3 : Int32)))) (.val (.ref P1)) (.val (.ref b225)) (.val (.ref b301)) (.val (.ref P1)) (.val (.ref P1)) [(.ref P1), (.ref P1)])) Xh340 hx rfl rfl rfl (pc0 := 258) (pc' := 261) (same := true) rfl (hb hby at_258) rfl (decide_eq_true rfl) (by decide) (by decide) ?_
        refine XS.aloadN Xh340.here hx rfl (hb hby at_261) rfl rfl ?_
        exact kt
      have f341 := (f327.keep Kq338 all0)
      have f342 := FP1.ext f341.2
      have f343 := (Nat.le_trans f329 Kq338.1)
      have f345 := EP1.ext f341.2
      obtain ⟨cq344, kq344, q344a, q344b, q344c⟩ := isOf hZ rfl f345
      obtain ⟨vv344, _, ⟨T344, L344, k344, n344⟩, -, X344, ⟨Lc344, hQ344, l344, y344, z344⟩, st344⟩ := Xh340.virtualBack hx (y := (⟨"com/example/quayside/quayside/model/OrderStatus", "getWord", "()Ljava/lang/String;"⟩ : MethodName)) (z := (⟨"com/example/quayside/quayside/model/OrderStatus", "getWord", "()Ljava/lang/String;"⟩ : MethodName)) hown (mvT hZ (Wd66 hw)) (mvT hZ (Wd67 hw)) (notFace_of_selects (args := #[]) (mvT hZ (Wd69 hw))) (mvT hZ (Wd69 hw)) (mvT hZ (Wd68 hw)) (by decide) (backOf (W := 0) (c_gword l Z a0 hw [] P1 (.ref W1) T338.heap n0 f343 f342 rfl) hZ (Wd70 hw) (Wd2 hw) (by decide) (by decide)) q344a q344c (g := (fr_law m p1 262 (.val (.int ((p1 &&& (2147483647 : Int32)) % (3 : Int32)))) (.val (.ref P1)) (.val (.ref b225)) (.val (.ref b301)) (.val (.ref P1)) (.val (.ref P1)) [(.ref P1)])) rfl (by rw [hml]; rfl) (Steps.refl _) (argsL := []) (rest := []) (lenOf pd_192 rfl) rfl (by show 2 * 0 + _ ≤ _; exact Nat.le_of_eq rfl) (hb hby at_262) (fun _ _ => ⟨rfl, rfl, (by decide : 5 + 0 ≤ _), (by decide : 46 + 0 ≤ _)⟩)
      dsimp only [Pt.U, Pt.locs, Pt.cells, Pt.slots] at X344 l344 y344 z344 st344 hQ344
      subst l344 y344 z344
      obtain ⟨rfl, Nq344, Eq344⟩ := hQ344
      have N346 := Fr.app Nh340 Nq344
      obtain ⟨Lh347, Xh347, Nh347⟩ := own_hide (cells' := 5) (slots' := 46) X344 N346 (Nat.le_of_ble_eq_true rfl) (Nat.le_of_ble_eq_true rfl)
      refine ownSt st344 ?_
      clear st344
      show ownG p.tables e below _ (T344.setTop (fr_law m p1 265 (.val (.int ((p1 &&& (2147483647 : Int32)) % (3 : Int32)))) (.val (.ref P1)) (.val (.ref b225)) (.val (.ref b301)) (.val (.ref P1)) (.val (.ref P1)) [(.ref W1)]))
      refine ownBy (A := T344.setTop (fr_law m p1 267 (.val (.int ((p1 &&& (2147483647 : Int32)) % (3 : Int32)))) (.val (.ref P1)) (.val (.ref b225)) (.val (.ref b301)) (.val (.ref P1)) (.val (.ref P1)) [(.ref b301), (.ref W1)])) (fun t kt => ?_) ?_
      · refine XS.aload Xh347.here hx rfl (hb hby at_265) rfl rfl ?_
        exact kt
      have hcd348 : StrChars.Road.CodA ([(82 : Int32), (101 : Int32), (97 : Int32), (100 : Int32), (121 : Int32), (32 : Int32), (102 : Int32), (111 : Int32), (114 : Int32), (32 : Int32), (83 : Int32), (104 : Int32), (105 : Int32), (112 : Int32), (112 : Int32), (105 : Int32), (110 : Int32), (103 : Int32)] : List Int32) 0 (18 : Int32) ((([(82 : Int32), (101 : Int32), (97 : Int32), (100 : Int32), (121 : Int32), (32 : Int32), (102 : Int32), (111 : Int32), (114 : Int32), (32 : Int32), (83 : Int32), (104 : Int32), (105 : Int32), (112 : Int32), (112 : Int32), (105 : Int32), (110 : Int32), (103 : Int32)] : List Int32).map (fun c => c.toInt8.toInt32)).map Value.int) := StrChars.Road.codOf (n := 18) rfl (fun x hx => (hpw1 x hx).2)
      have hbd348 : ∀ x ∈ ([(82 : Int32), (101 : Int32), (97 : Int32), (100 : Int32), (121 : Int32), (32 : Int32), (102 : Int32), (111 : Int32), (114 : Int32), (32 : Int32), (83 : Int32), (104 : Int32), (105 : Int32), (112 : Int32), (112 : Int32), (105 : Int32), (110 : Int32), (103 : Int32)] : List Int32), ¬ x < 0 ∧ ¬ (65535 : Int32) < x := own_up _ hpw1
      have f349 := EW1.ext f341.2
      have f350 := FV1.ext f341.2
      have f351 := FC1.ext f341.2
      have f352 := KB1.ext f341.2
      have hcd353 : StrChars.Road.CodA ([(82 : Int32), (101 : Int32), (97 : Int32), (100 : Int32), (121 : Int32), (32 : Int32), (102 : Int32), (111 : Int32), (114 : Int32), (32 : Int32), (83 : Int32), (104 : Int32), (105 : Int32), (112 : Int32), (112 : Int32), (105 : Int32), (110 : Int32), (103 : Int32)] : List Int32) 0 (18 : Int32) ((([(82 : Int32), (101 : Int32), (97 : Int32), (100 : Int32), (121 : Int32), (32 : Int32), (102 : Int32), (111 : Int32), (114 : Int32), (32 : Int32), (83 : Int32), (104 : Int32), (105 : Int32), (112 : Int32), (112 : Int32), (105 : Int32), (110 : Int32), (103 : Int32)] : List Int32).map (fun c => c.toInt8.toInt32)).map Value.int) := StrChars.Road.codOf (n := 18) rfl (fun x hx => (hp309 x hx).2)
      have hbd353 : ∀ x ∈ ([(82 : Int32), (101 : Int32), (97 : Int32), (100 : Int32), (121 : Int32), (32 : Int32), (102 : Int32), (111 : Int32), (114 : Int32), (32 : Int32), (83 : Int32), (104 : Int32), (105 : Int32), (112 : Int32), (112 : Int32), (105 : Int32), (110 : Int32), (103 : Int32)] : List Int32), ¬ x < 0 ∧ ¬ (65535 : Int32) < x := own_up _ hp309
      have f354 := ((f321.keep Kq324).keep Kq338)
      have f355 := ((Vq313.keep Kq324 nin0).keep Kq338 nin0)
      have f356 := ((Cq313.keep Kq324 nin0).keep Kq338 nin0)
      have f357 := ((Aq313.keep Kq324 nin0).keep Kq338 nin0)
      obtain ⟨cq358, kq358, q358a, q358b, q358c⟩ := isOf hZ Eq344 f349
      obtain ⟨vv358, _, ⟨T358, L358, k358, n358⟩, -, X358, ⟨Lc358, hQ358, l358, y358, z358⟩, st358⟩ := Xh347.virtualBack hx (y := (⟨"java/lang/String", "equals", "(Ljava/lang/Object;)Z"⟩ : MethodName)) (z := (⟨"java/lang/String", "equals", "(Ljava/lang/Object;)Z"⟩ : MethodName)) hown (mvT hZ (Wd71 hw)) (mvT hZ (Wd57 hw)) (notFace_of_selects (args := #[]) (mvT hZ (Wd59 hw))) (mvT hZ (Wd59 hw)) (mvT hZ (Wd58 hw)) (by decide) (StrChars.Road.eqW (W := 0) hZ heq (kI := 4) (Wd6 hw) f349 f350 f351 f352 hcd348 hbd348 (Nat.le_of_ble_eq_true rfl) f354 f355 f356 f357 hcd353 hbd353 (Nat.le_of_ble_eq_true rfl) (O2.ext f341.2) P5 (by decide) (by decide)) q358a q358c (g := (fr_law m p1 267 (.val (.int ((p1 &&& (2147483647 : Int32)) % (3 : Int32)))) (.val (.ref P1)) (.val (.ref b225)) (.val (.ref b301)) (.val (.ref P1)) (.val (.ref P1)) [(.ref b301), (.ref W1)])) rfl (by rw [hml]; rfl) (Steps.refl _) (argsL := [(.ref b301)]) (rest := []) (lenOf pd_35 rfl) rfl (by show 2 * 0 + _ ≤ _; exact Nat.le_of_eq rfl) (hb hby at_267) (fun _ _ => ⟨rfl, Eq344, (by decide : 5 + 0 ≤ _), (by decide : 46 + 0 ≤ _)⟩)
      dsimp only [Pt.U, Pt.locs, Pt.cells, Pt.slots] at X358 l358 y358 z358 st358 hQ358
      subst l358 y358 z358
      obtain ⟨hE358, rfl, Eq358⟩ := hQ358
      have Nq358 : Fr n0 ([] : List Loc) := Fr.nil n0
      obtain rfl : vv358 = some (.int 1) := hE358.elim (fun q => q.1) (fun q => absurd rfl q.2)
      have N359 := Fr.app Nh347 Nq358
      obtain ⟨Lh360, Xh360, Nh360⟩ := own_hide (cells' := 5) (slots' := 46) X358 N359 (Nat.le_of_ble_eq_true rfl) (Nat.le_of_ble_eq_true rfl)
      refine ownSt st358 ?_
      clear st358
      show ownG p.tables e below _ (T358.setTop (fr_law m p1 270 (.val (.int ((p1 &&& (2147483647 : Int32)) % (3 : Int32)))) (.val (.ref P1)) (.val (.ref b225)) (.val (.ref b301)) (.val (.ref P1)) (.val (.ref P1)) [(.int (1 : Int32))]))
      refine ownBy (A := T358.setTop (fr_law m p1 278 (.val (.int ((p1 &&& (2147483647 : Int32)) % (3 : Int32)))) (.val (.ref P1)) (.val (.ref b225)) (.val (.ref b301)) (.val (.ref P1)) (.val (.ref P1)) [(.int (1 : Int32))])) (fun t kt => ?_) ?_
      · refine XS.ifNo Xh360.here hx rfl (hb hby at_270) rfl ((if0 _ _).trans (feq ((by decide) : ¬ ((1 : Int32) = (0 : Int32)))).1) ?_
        refine XS.iconst Xh360.here hx rfl (hb hby at_273) ?_
        show Steps p.tables e below (T358.setTop (fr_law m p1 274 (.val (.int ((p1 &&& (2147483647 : Int32)) % (3 : Int32)))) (.val (.ref P1)) (.val (.ref b225)) (.val (.ref b301)) (.val (.ref P1)) (.val (.ref P1)) [(.int (1 : Int32))])) t
        refine XS.goto Xh360.here hx rfl (pc0 := 274) (pc' := 278) rfl (hb hby at_274) (by decide) (by decide) ?_
        exact kt
      refine ownRet Xh360 Bd.notSynchronized (v := some (.int (nar .boolean (1 : Int32)))) (fun h => by rw [Bd.returns] at h; cases h) ?_ (Nat.le_of_ble_eq_true rfl) (Nat.le_of_ble_eq_true rfl) (fun fs hr => retN Xh360 hx (t := .boolean) Bd.returns (by simp) (hb hby at_278) hr)
      show (Q_law Z p1 A kA P0 P1 P2 W0 W1 W2 B0 B1 B2 kb0 kb1 kb2 G1 h0 n0) (some (.int (nar .boolean (1 : Int32)))) T358.heap _
      rw [Eq358]
      exact ⟨rfl, Nh360⟩
    · skip
      refine ownBy (A := s₁.setTop (fr_law m p1 178 (.val (.int ((p1 &&& (2147483647 : Int32)) % (3 : Int32)))) .unset .unset .unset .unset .unset [])) (fun t kt => ?_) ?_
      · refine XS.icmpYes X0.here hx rfl (pc0 := 61) (pc' := 178) rfl (hb hby at_61) rfl (feq hc223).2 (by decide) (by decide) ?_
        exact kt
      obtain ⟨T361, X361, e361, st361⟩ := getS2 X0 hx hZ hown (host := "") (Or.inl (Wd72 hw)) Via.refl e0 (SP2.ext X00.2) (g := (fr_law m p1 178 (.val (.int ((p1 &&& (2147483647 : Int32)) % (3 : Int32)))) .unset .unset .unset .unset .unset [])) rfl (hb hby at_178)
      refine ownBy st361 ?_
      clear st361
      show ownG p.tables e below _ (T361.setTop (fr_law m p1 181 (.val (.int ((p1 &&& (2147483647 : Int32)) % (3 : Int32)))) .unset .unset .unset .unset .unset [(.ref P2)]))
      refine ownBy (A := T361.setTop (fr_law m p1 184 (.val (.int ((p1 &&& (2147483647 : Int32)) % (3 : Int32)))) (.val (.ref P2)) .unset .unset .unset .unset [(.int (7 : Int32))])) (fun t kt => ?_) ?_
      · refine XS.astoreN X361.here hx rfl (hb hby at_181) rfl rfl (l' := #[.val (.int p1), .val (.int ((p1 &&& (2147483647 : Int32)) % (3 : Int32))), .val (.ref P2), .unset, .unset, .unset, .unset]) rfl ?_
        refine XS.bipush X361.here hx rfl (hb hby at_182) ?_
        exact kt
      obtain ⟨T362, h362, k362, X362, e362, E362, A362, st362⟩ := newP X361 hx hZ (aty := .char) (Wd4 hw) e361 (g := (fr_law m p1 184 (.val (.int ((p1 &&& (2147483647 : Int32)) % (3 : Int32)))) (.val (.ref P2)) .unset .unset .unset .unset [(.int (7 : Int32))])) rfl (hb hby at_184) rfl (by decide : ¬ ((7 : Int32) < (0 : Int32))) (cap := 7) (by decide) (by decide) (by decide) (by decide)
      obtain ⟨b362, g362⟩ : ∃ z, z = h0.size := ⟨_, rfl⟩
      rw [← g362] at A362 st362
      have g363 : n0 ≤ b362 := Nat.le_trans Z0 (Nat.le_of_eq g362.symm)
      have z364 : h0.size ≤ b362 := Nat.le_trans (Keep.refl h0 []).1 (Nat.le_of_eq g362.symm)
      have V365 : Arv Z h362 b362 k362 .char (7 : Int32) [(.int (0 : Int32)), (.int (0 : Int32)), (.int (0 : Int32)), (.int (0 : Int32)), (.int (0 : Int32)), (.int (0 : Int32)), (.int (0 : Int32))] (.int (0 : Int32)) := (Arv.new A362 (by decide)).pad (pad_rep [] (.int (0 : Int32)) 7)
      refine ownBy st362 ?_
      clear st362
      show ownG p.tables e below _ (T362.setTop (fr_law m p1 186 (.val (.int ((p1 &&& (2147483647 : Int32)) % (3 : Int32)))) (.val (.ref P2)) .unset .unset .unset .unset [(.ref b362)]))
      refine ownBy (A := T362.setTop (fr_law m p1 190 (.val (.int ((p1 &&& (2147483647 : Int32)) % (3 : Int32)))) (.val (.ref P2)) .unset .unset .unset .unset [(.int (83 : Int32)), (.int (0 : Int32)), (.ref b362), (.ref b362)])) (fun t kt => ?_) ?_
      · refine XS.dup X362.here hx rfl (hb hby at_186) rfl rfl ?_
        refine XS.iconst X362.here hx rfl (hb hby at_187) ?_
        show Steps p.tables e below (T362.setTop (fr_law m p1 188 (.val (.int ((p1 &&& (2147483647 : Int32)) % (3 : Int32)))) (.val (.ref P2)) .unset .unset .unset .unset [(.int (0 : Int32)), (.ref b362), (.ref b362)])) t
        refine XS.bipush X362.here hx rfl (hb hby at_188) ?_
        exact kt
      obtain ⟨cl366, Ar366, q366, S366, N366, H366, G366⟩ := id V365
      have hin366 : ¬ ((0 : Int32) < 0 ∨ cl366.slots.size ≤ ((0 : Int32)).toNatClampNeg) := inb_of S366 ⟨by decide, by decide⟩
      obtain ⟨T366, h366, X366, e366, W366, st366⟩ := stC X362 hx hZ e362 Ar366 (j := (0 : Int32)) hin366 (g := (fr_law m p1 190 (.val (.int ((p1 &&& (2147483647 : Int32)) % (3 : Int32)))) (.val (.ref P2)) .unset .unset .unset .unset [(.int (83 : Int32)), (.int (0 : Int32)), (.ref b362), (.ref b362)])) rfl rfl (hb hby at_190)
      have V367 : Arv Z h366 b362 k362 .char (7 : Int32) [(.int (nar .char (83 : Int32))), (.int (0 : Int32)), (.int (0 : Int32)), (.int (0 : Int32)), (.int (0 : Int32)), (.int (0 : Int32)), (.int (0 : Int32))] (.int (0 : Int32)) := Arv.set Ar366 q366 S366 N366 H366 G366 (fits_nar_char _) W366 0 rfl (Nat.le_of_ble_eq_true rfl)
      rw [own_nl_char_83] at V367
      clear hin366 G366 H366 N366 S366 q366 Ar366 cl366 V365
      have N368 := Fr.snoc X366 N0 g363
      obtain ⟨Lh369, Xh369, Nh369⟩ := own_hide (cells' := 1) (slots' := 7) X366 N368 (Nat.le_of_ble_eq_true rfl) (Nat.le_of_ble_eq_true rfl)
      refine ownBy st366 ?_
      clear st366
      show ownG p.tables e below _ (T366.setTop (fr_law m p1 191 (.val (.int ((p1 &&& (2147483647 : Int32)) % (3 : Int32)))) (.val (.ref P2)) .unset .unset .unset .unset [(.ref b362)]))
      refine ownBy (A := T366.setTop (fr_law m p1 195 (.val (.int ((p1 &&& (2147483647 : Int32)) % (3 : Int32)))) (.val (.ref P2)) .unset .unset .unset .unset [(.int (104 : Int32)), (.int (1 : Int32)), (.ref b362), (.ref b362)])) (fun t kt => ?_) ?_
      · refine XS.dup Xh369.here hx rfl (hb hby at_191) rfl rfl ?_
        refine XS.iconst Xh369.here hx rfl (hb hby at_192) ?_
        show Steps p.tables e below (T366.setTop (fr_law m p1 193 (.val (.int ((p1 &&& (2147483647 : Int32)) % (3 : Int32)))) (.val (.ref P2)) .unset .unset .unset .unset [(.int (1 : Int32)), (.ref b362), (.ref b362)])) t
        refine XS.bipush Xh369.here hx rfl (hb hby at_193) ?_
        exact kt
      obtain ⟨cl370, Ar370, q370, S370, N370, H370, G370⟩ := id V367
      have hin370 : ¬ ((1 : Int32) < 0 ∨ cl370.slots.size ≤ ((1 : Int32)).toNatClampNeg) := inb_of S370 ⟨by decide, by decide⟩
      obtain ⟨T370, h370, X370, e370, W370, st370⟩ := stC Xh369 hx hZ e366 Ar370 (j := (1 : Int32)) hin370 (g := (fr_law m p1 195 (.val (.int ((p1 &&& (2147483647 : Int32)) % (3 : Int32)))) (.val (.ref P2)) .unset .unset .unset .unset [(.int (104 : Int32)), (.int (1 : Int32)), (.ref b362), (.ref b362)])) rfl rfl (hb hby at_195)
      have V371 : Arv Z h370 b362 k362 .char (7 : Int32) [(.int (83 : Int32)), (.int (nar .char (104 : Int32))), (.int (0 : Int32)), (.int (0 : Int32)), (.int (0 : Int32)), (.int (0 : Int32)), (.int (0 : Int32))] (.int (0 : Int32)) := Arv.set Ar370 q370 S370 N370 H370 G370 (fits_nar_char _) W370 1 rfl (Nat.le_of_ble_eq_true rfl)
      rw [own_nl_char_104] at V371
      clear hin370 G370 H370 N370 S370 q370 Ar370 cl370 V367
      have N372 := Fr.snoc X370 Nh369 g363
      obtain ⟨Lh373, Xh373, Nh373⟩ := own_hide (cells' := 1) (slots' := 7) X370 N372 (Nat.le_of_ble_eq_true rfl) (Nat.le_of_ble_eq_true rfl)
      refine ownBy st370 ?_
      clear st370
      show ownG p.tables e below _ (T370.setTop (fr_law m p1 196 (.val (.int ((p1 &&& (2147483647 : Int32)) % (3 : Int32)))) (.val (.ref P2)) .unset .unset .unset .unset [(.ref b362)]))
      refine ownBy (A := T370.setTop (fr_law m p1 200 (.val (.int ((p1 &&& (2147483647 : Int32)) % (3 : Int32)))) (.val (.ref P2)) .unset .unset .unset .unset [(.int (105 : Int32)), (.int (2 : Int32)), (.ref b362), (.ref b362)])) (fun t kt => ?_) ?_
      · refine XS.dup Xh373.here hx rfl (hb hby at_196) rfl rfl ?_
        refine XS.iconst Xh373.here hx rfl (hb hby at_197) ?_
        show Steps p.tables e below (T370.setTop (fr_law m p1 198 (.val (.int ((p1 &&& (2147483647 : Int32)) % (3 : Int32)))) (.val (.ref P2)) .unset .unset .unset .unset [(.int (2 : Int32)), (.ref b362), (.ref b362)])) t
        refine XS.bipush Xh373.here hx rfl (hb hby at_198) ?_
        exact kt
      obtain ⟨cl374, Ar374, q374, S374, N374, H374, G374⟩ := id V371
      have hin374 : ¬ ((2 : Int32) < 0 ∨ cl374.slots.size ≤ ((2 : Int32)).toNatClampNeg) := inb_of S374 ⟨by decide, by decide⟩
      obtain ⟨T374, h374, X374, e374, W374, st374⟩ := stC Xh373 hx hZ e370 Ar374 (j := (2 : Int32)) hin374 (g := (fr_law m p1 200 (.val (.int ((p1 &&& (2147483647 : Int32)) % (3 : Int32)))) (.val (.ref P2)) .unset .unset .unset .unset [(.int (105 : Int32)), (.int (2 : Int32)), (.ref b362), (.ref b362)])) rfl rfl (hb hby at_200)
      have V375 : Arv Z h374 b362 k362 .char (7 : Int32) [(.int (83 : Int32)), (.int (104 : Int32)), (.int (nar .char (105 : Int32))), (.int (0 : Int32)), (.int (0 : Int32)), (.int (0 : Int32)), (.int (0 : Int32))] (.int (0 : Int32)) := Arv.set Ar374 q374 S374 N374 H374 G374 (fits_nar_char _) W374 2 rfl (Nat.le_of_ble_eq_true rfl)
      rw [own_nl_char_105] at V375
      clear hin374 G374 H374 N374 S374 q374 Ar374 cl374 V371
      have N376 := Fr.snoc X374 Nh373 g363
      obtain ⟨Lh377, Xh377, Nh377⟩ := own_hide (cells' := 1) (slots' := 7) X374 N376 (Nat.le_of_ble_eq_true rfl) (Nat.le_of_ble_eq_true rfl)
      refine ownBy st374 ?_
      clear st374
      show ownG p.tables e below _ (T374.setTop (fr_law m p1 201 (.val (.int ((p1 &&& (2147483647 : Int32)) % (3 : Int32)))) (.val (.ref P2)) .unset .unset .unset .unset [(.ref b362)]))
      refine ownBy (A := T374.setTop (fr_law m p1 205 (.val (.int ((p1 &&& (2147483647 : Int32)) % (3 : Int32)))) (.val (.ref P2)) .unset .unset .unset .unset [(.int (112 : Int32)), (.int (3 : Int32)), (.ref b362), (.ref b362)])) (fun t kt => ?_) ?_
      · refine XS.dup Xh377.here hx rfl (hb hby at_201) rfl rfl ?_
        refine XS.iconst Xh377.here hx rfl (hb hby at_202) ?_
        show Steps p.tables e below (T374.setTop (fr_law m p1 203 (.val (.int ((p1 &&& (2147483647 : Int32)) % (3 : Int32)))) (.val (.ref P2)) .unset .unset .unset .unset [(.int (3 : Int32)), (.ref b362), (.ref b362)])) t
        refine XS.bipush Xh377.here hx rfl (hb hby at_203) ?_
        exact kt
      obtain ⟨cl378, Ar378, q378, S378, N378, H378, G378⟩ := id V375
      have hin378 : ¬ ((3 : Int32) < 0 ∨ cl378.slots.size ≤ ((3 : Int32)).toNatClampNeg) := inb_of S378 ⟨by decide, by decide⟩
      obtain ⟨T378, h378, X378, e378, W378, st378⟩ := stC Xh377 hx hZ e374 Ar378 (j := (3 : Int32)) hin378 (g := (fr_law m p1 205 (.val (.int ((p1 &&& (2147483647 : Int32)) % (3 : Int32)))) (.val (.ref P2)) .unset .unset .unset .unset [(.int (112 : Int32)), (.int (3 : Int32)), (.ref b362), (.ref b362)])) rfl rfl (hb hby at_205)
      have V379 : Arv Z h378 b362 k362 .char (7 : Int32) [(.int (83 : Int32)), (.int (104 : Int32)), (.int (105 : Int32)), (.int (nar .char (112 : Int32))), (.int (0 : Int32)), (.int (0 : Int32)), (.int (0 : Int32))] (.int (0 : Int32)) := Arv.set Ar378 q378 S378 N378 H378 G378 (fits_nar_char _) W378 3 rfl (Nat.le_of_ble_eq_true rfl)
      rw [own_nl_char_112] at V379
      clear hin378 G378 H378 N378 S378 q378 Ar378 cl378 V375
      have N380 := Fr.snoc X378 Nh377 g363
      obtain ⟨Lh381, Xh381, Nh381⟩ := own_hide (cells' := 1) (slots' := 7) X378 N380 (Nat.le_of_ble_eq_true rfl) (Nat.le_of_ble_eq_true rfl)
      refine ownBy st378 ?_
      clear st378
      show ownG p.tables e below _ (T378.setTop (fr_law m p1 206 (.val (.int ((p1 &&& (2147483647 : Int32)) % (3 : Int32)))) (.val (.ref P2)) .unset .unset .unset .unset [(.ref b362)]))
      refine ownBy (A := T378.setTop (fr_law m p1 210 (.val (.int ((p1 &&& (2147483647 : Int32)) % (3 : Int32)))) (.val (.ref P2)) .unset .unset .unset .unset [(.int (112 : Int32)), (.int (4 : Int32)), (.ref b362), (.ref b362)])) (fun t kt => ?_) ?_
      · refine XS.dup Xh381.here hx rfl (hb hby at_206) rfl rfl ?_
        refine XS.iconst Xh381.here hx rfl (hb hby at_207) ?_
        show Steps p.tables e below (T378.setTop (fr_law m p1 208 (.val (.int ((p1 &&& (2147483647 : Int32)) % (3 : Int32)))) (.val (.ref P2)) .unset .unset .unset .unset [(.int (4 : Int32)), (.ref b362), (.ref b362)])) t
        refine XS.bipush Xh381.here hx rfl (hb hby at_208) ?_
        exact kt
      obtain ⟨cl382, Ar382, q382, S382, N382, H382, G382⟩ := id V379
      have hin382 : ¬ ((4 : Int32) < 0 ∨ cl382.slots.size ≤ ((4 : Int32)).toNatClampNeg) := inb_of S382 ⟨by decide, by decide⟩
      obtain ⟨T382, h382, X382, e382, W382, st382⟩ := stC Xh381 hx hZ e378 Ar382 (j := (4 : Int32)) hin382 (g := (fr_law m p1 210 (.val (.int ((p1 &&& (2147483647 : Int32)) % (3 : Int32)))) (.val (.ref P2)) .unset .unset .unset .unset [(.int (112 : Int32)), (.int (4 : Int32)), (.ref b362), (.ref b362)])) rfl rfl (hb hby at_210)
      have V383 : Arv Z h382 b362 k362 .char (7 : Int32) [(.int (83 : Int32)), (.int (104 : Int32)), (.int (105 : Int32)), (.int (112 : Int32)), (.int (nar .char (112 : Int32))), (.int (0 : Int32)), (.int (0 : Int32))] (.int (0 : Int32)) := Arv.set Ar382 q382 S382 N382 H382 G382 (fits_nar_char _) W382 4 rfl (Nat.le_of_ble_eq_true rfl)
      rw [own_nl_char_112] at V383
      clear hin382 G382 H382 N382 S382 q382 Ar382 cl382 V379
      have N384 := Fr.snoc X382 Nh381 g363
      obtain ⟨Lh385, Xh385, Nh385⟩ := own_hide (cells' := 1) (slots' := 7) X382 N384 (Nat.le_of_ble_eq_true rfl) (Nat.le_of_ble_eq_true rfl)
      refine ownBy st382 ?_
      clear st382
      show ownG p.tables e below _ (T382.setTop (fr_law m p1 211 (.val (.int ((p1 &&& (2147483647 : Int32)) % (3 : Int32)))) (.val (.ref P2)) .unset .unset .unset .unset [(.ref b362)]))
      refine ownBy (A := T382.setTop (fr_law m p1 215 (.val (.int ((p1 &&& (2147483647 : Int32)) % (3 : Int32)))) (.val (.ref P2)) .unset .unset .unset .unset [(.int (101 : Int32)), (.int (5 : Int32)), (.ref b362), (.ref b362)])) (fun t kt => ?_) ?_
      · refine XS.dup Xh385.here hx rfl (hb hby at_211) rfl rfl ?_
        refine XS.iconst Xh385.here hx rfl (hb hby at_212) ?_
        show Steps p.tables e below (T382.setTop (fr_law m p1 213 (.val (.int ((p1 &&& (2147483647 : Int32)) % (3 : Int32)))) (.val (.ref P2)) .unset .unset .unset .unset [(.int (5 : Int32)), (.ref b362), (.ref b362)])) t
        refine XS.bipush Xh385.here hx rfl (hb hby at_213) ?_
        exact kt
      obtain ⟨cl386, Ar386, q386, S386, N386, H386, G386⟩ := id V383
      have hin386 : ¬ ((5 : Int32) < 0 ∨ cl386.slots.size ≤ ((5 : Int32)).toNatClampNeg) := inb_of S386 ⟨by decide, by decide⟩
      obtain ⟨T386, h386, X386, e386, W386, st386⟩ := stC Xh385 hx hZ e382 Ar386 (j := (5 : Int32)) hin386 (g := (fr_law m p1 215 (.val (.int ((p1 &&& (2147483647 : Int32)) % (3 : Int32)))) (.val (.ref P2)) .unset .unset .unset .unset [(.int (101 : Int32)), (.int (5 : Int32)), (.ref b362), (.ref b362)])) rfl rfl (hb hby at_215)
      have V387 : Arv Z h386 b362 k362 .char (7 : Int32) [(.int (83 : Int32)), (.int (104 : Int32)), (.int (105 : Int32)), (.int (112 : Int32)), (.int (112 : Int32)), (.int (nar .char (101 : Int32))), (.int (0 : Int32))] (.int (0 : Int32)) := Arv.set Ar386 q386 S386 N386 H386 G386 (fits_nar_char _) W386 5 rfl (Nat.le_of_ble_eq_true rfl)
      rw [own_nl_char_101] at V387
      clear hin386 G386 H386 N386 S386 q386 Ar386 cl386 V383
      have N388 := Fr.snoc X386 Nh385 g363
      obtain ⟨Lh389, Xh389, Nh389⟩ := own_hide (cells' := 1) (slots' := 7) X386 N388 (Nat.le_of_ble_eq_true rfl) (Nat.le_of_ble_eq_true rfl)
      refine ownBy st386 ?_
      clear st386
      show ownG p.tables e below _ (T386.setTop (fr_law m p1 216 (.val (.int ((p1 &&& (2147483647 : Int32)) % (3 : Int32)))) (.val (.ref P2)) .unset .unset .unset .unset [(.ref b362)]))
      refine ownBy (A := T386.setTop (fr_law m p1 221 (.val (.int ((p1 &&& (2147483647 : Int32)) % (3 : Int32)))) (.val (.ref P2)) .unset .unset .unset .unset [(.int (100 : Int32)), (.int (6 : Int32)), (.ref b362), (.ref b362)])) (fun t kt => ?_) ?_
      · refine XS.dup Xh389.here hx rfl (hb hby at_216) rfl rfl ?_
        refine XS.bipush Xh389.here hx rfl (hb hby at_217) ?_
        show Steps p.tables e below (T386.setTop (fr_law m p1 219 (.val (.int ((p1 &&& (2147483647 : Int32)) % (3 : Int32)))) (.val (.ref P2)) .unset .unset .unset .unset [(.int (6 : Int32)), (.ref b362), (.ref b362)])) t
        refine XS.bipush Xh389.here hx rfl (hb hby at_219) ?_
        exact kt
      obtain ⟨cl390, Ar390, q390, S390, N390, H390, G390⟩ := id V387
      have hin390 : ¬ ((6 : Int32) < 0 ∨ cl390.slots.size ≤ ((6 : Int32)).toNatClampNeg) := inb_of S390 ⟨by decide, by decide⟩
      obtain ⟨T390, h390, X390, e390, W390, st390⟩ := stC Xh389 hx hZ e386 Ar390 (j := (6 : Int32)) hin390 (g := (fr_law m p1 221 (.val (.int ((p1 &&& (2147483647 : Int32)) % (3 : Int32)))) (.val (.ref P2)) .unset .unset .unset .unset [(.int (100 : Int32)), (.int (6 : Int32)), (.ref b362), (.ref b362)])) rfl rfl (hb hby at_221)
      have V391 : Arv Z h390 b362 k362 .char (7 : Int32) [(.int (83 : Int32)), (.int (104 : Int32)), (.int (105 : Int32)), (.int (112 : Int32)), (.int (112 : Int32)), (.int (101 : Int32)), (.int (nar .char (100 : Int32)))] (.int (0 : Int32)) := Arv.set Ar390 q390 S390 N390 H390 G390 (fits_nar_char _) W390 6 rfl (Nat.le_of_ble_eq_true rfl)
      rw [own_nl_char_100] at V391
      clear hin390 G390 H390 N390 S390 q390 Ar390 cl390 V387
      have N392 := Fr.snoc X390 Nh389 g363
      obtain ⟨Lh393, Xh393, Nh393⟩ := own_hide (cells' := 1) (slots' := 7) X390 N392 (Nat.le_of_ble_eq_true rfl) (Nat.le_of_ble_eq_true rfl)
      refine ownBy st390 ?_
      clear st390
      show ownG p.tables e below _ (T390.setTop (fr_law m p1 222 (.val (.int ((p1 &&& (2147483647 : Int32)) % (3 : Int32)))) (.val (.ref P2)) .unset .unset .unset .unset [(.ref b362)]))
      refine ownBy (A := T390.setTop (fr_law m p1 223 (.val (.int ((p1 &&& (2147483647 : Int32)) % (3 : Int32)))) (.val (.ref P2)) (.val (.ref b362)) .unset .unset .unset [])) (fun t kt => ?_) ?_
      · refine XS.astoreN Xh393.here hx rfl (hb hby at_222) rfl rfl (l' := #[.val (.int p1), .val (.int ((p1 &&& (2147483647 : Int32)) % (3 : Int32))), .val (.ref P2), .val (.ref b362), .unset, .unset, .unset]) rfl ?_
        exact kt
      obtain ⟨T394, h394, X394, e394, E394, A394, D394, -, st394⟩ := newO Xh393 hx hZ hown (Wd5 hw) (Wd6 hw) (Wd7 hw) e390 (g := (fr_law m p1 223 (.val (.int ((p1 &&& (2147483647 : Int32)) % (3 : Int32)))) (.val (.ref P2)) (.val (.ref b362)) .unset .unset .unset [])) rfl (hb hby at_223) (by decide) (by decide)
      obtain ⟨b394, g394⟩ : ∃ z, z = h390.size := ⟨_, rfl⟩
      rw [← g394] at A394 D394 st394
      have ne395 : b362 ≠ b394 := Nat.ne_of_lt (Nat.lt_of_lt_of_le V391.lt (Nat.le_of_eq g394.symm))
      have f397 := (Nat.le_trans (Nat.le_trans (Nat.le_trans (Nat.le_trans (Nat.le_trans (Nat.le_trans (Nat.le_trans (Nat.le_trans Z0 E362.1) (Keep.of_wr W366).1) (Keep.of_wr W370).1) (Keep.of_wr W374).1) (Keep.of_wr W378).1) (Keep.of_wr W382).1) (Keep.of_wr W386).1) (Keep.of_wr W390).1)
      have g396 : n0 ≤ b394 := Nat.le_trans f397 (Nat.le_of_eq g394.symm)
      have f399 := (((((((((Keep.refl h0 []).ext E362).wr W366 (Or.inr z364)).wr W370 (Or.inr z364)).wr W374 (Or.inr z364)).wr W378 (Or.inr z364)).wr W382 (Or.inr z364)).wr W386 (Or.inr z364)).wr W390 (Or.inr z364))
      have z398 : h0.size ≤ b394 := Nat.le_trans f399.1 (Nat.le_of_eq g394.symm)
      have F400 : Fld Z h394 b394 "java/lang/String" "coder" "B" (.int (0 : Int32)) := D394 (Or.inr (Wd31 hw)) (ty := .byte) (by decide)
      have F401 : Fld Z h394 b394 "java/lang/String" "value" "[B" .null := D394 (Or.inr (Wd33 hw)) (ty := (.array .byte)) (by decide)
      refine ownBy st394 ?_
      clear st394
      show ownG p.tables e below _ (T394.setTop (fr_law m p1 226 (.val (.int ((p1 &&& (2147483647 : Int32)) % (3 : Int32)))) (.val (.ref P2)) (.val (.ref b362)) .unset .unset .unset [(.ref b394)]))
      refine ownBy (A := T394.setTop (fr_law m p1 228 (.val (.int ((p1 &&& (2147483647 : Int32)) % (3 : Int32)))) (.val (.ref P2)) (.val (.ref b362)) .unset .unset .unset [(.ref b362), (.ref b394), (.ref b394)])) (fun t kt => ?_) ?_
      · refine XS.dup X394.here hx rfl (hb hby at_226) rfl rfl ?_
        refine XS.aloadN X394.here hx rfl (hb hby at_227) rfl rfl ?_
        exact kt
      have hp402 : ∀ c ∈ ([(83 : Int32), (104 : Int32), (105 : Int32), (112 : Int32), (112 : Int32), (101 : Int32), (100 : Int32)] : List Int32), ¬ c < 0 ∧ ¬ (255 : Int32) < c := by
        intro c hc
        simp only [List.mem_cons, List.not_mem_nil, or_false] at hc
        rcases hc with rfl | rfl | rfl | rfl | rfl | rfl | rfl
        · exact (by decide)
        · exact (by decide)
        · exact (by decide)
        · exact (by decide)
        · exact (by decide)
        · exact (by decide)
        · exact (by decide)
      have f403 := (Nat.le_trans f397 E394.1)
      have f404 := (V391.ext E394)
      have f405 := (((((((((X00.ext E362).wr W366 g363).wr W370 g363).wr W374 g363).wr W378 g363).wr W382 g363).wr W386 g363).wr W390 g363).ext E394)
      obtain ⟨vv406, _, ⟨T406, L406, k406, n406⟩, -, X406, ⟨Lc406, hQ406, l406, y406, z406⟩, st406⟩ := X394.specialBack hx (y := (⟨"java/lang/String", "<init>", "([C)V"⟩ : MethodName)) rfl hown (mvT hZ (Wd8 hw)) (mvT hZ (Wd9 hw)) (mvT hZ (Wd10 hw)) (by decide) (StrChars.Road.backV (W := 1) hZ hws (kI := 4) (Wd6 hw) (cs := ([(83 : Int32), (104 : Int32), (105 : Int32), (112 : Int32), (112 : Int32), (101 : Int32), (100 : Int32)] : List Int32)) (bs := (([(83 : Int32), (104 : Int32), (105 : Int32), (112 : Int32), (112 : Int32), (101 : Int32), (100 : Int32)] : List Int32)).map (fun c => c.toInt8.toInt32)) (n := 7) g396 f403 A394 F401 F400 f404 (O2.ext f405.2) P5 rfl rfl (by decide) (by decide) hp402 rfl (by decide) (by decide)) (g := (fr_law m p1 228 (.val (.int ((p1 &&& (2147483647 : Int32)) % (3 : Int32)))) (.val (.ref P2)) (.val (.ref b362)) .unset .unset .unset [(.ref b362), (.ref b394), (.ref b394)])) rfl (by rw [hml]; rfl) (Steps.refl _) (a := b394) (argsL := [(.ref b362)]) (rest := [(.ref b394)]) (lenOf pd_173 rfl) rfl (by show 2 * 0 + _ ≤ _; exact Nat.le_of_eq rfl) (hb hby at_228) (fun _ _ => ⟨rfl, e394, (by decide : 2 + 1 ≤ _), (by decide : 11 + 7 ≤ _)⟩)
      dsimp only [Pt.U, Pt.locs, Pt.cells, Pt.slots] at X406 l406 y406 z406 st406 hQ406
      subst l406 y406 z406
      obtain ⟨rfl, Nq406, Kq406, Eq406, Cq406, t406, kb406, u406, v406, w406, Vq406, Aq406⟩ := hQ406
      have ne407 : b362 ≠ t406 := Nat.ne_of_lt (Nat.lt_of_lt_of_le f404.lt v406)
      have ne408 : b394 ≠ t406 := Nat.ne_of_lt (Nat.lt_of_lt_of_le A394.lt v406)
      have g409 : n0 ≤ t406 := Nat.le_trans f403 v406
      have f411 := (f399.ext E394)
      have z410 : h0.size ≤ t406 := Nat.le_trans f411.1 v406
      have N412 := Fr.app Nh393 Nq406
      obtain ⟨Lh413, Xh413, Nh413⟩ := own_hide (cells' := 3) (slots' := 18) X406 N412 (Nat.le_of_ble_eq_true rfl) (Nat.le_of_ble_eq_true rfl)
      refine ownSt st406 ?_
      clear st406
      show ownG p.tables e below _ (T406.setTop (fr_law m p1 231 (.val (.int ((p1 &&& (2147483647 : Int32)) % (3 : Int32)))) (.val (.ref P2)) (.val (.ref b362)) .unset .unset .unset [(.ref b394)]))
      refine ownBy (A := T406.setTop (fr_law m p1 235 (.val (.int ((p1 &&& (2147483647 : Int32)) % (3 : Int32)))) (.val (.ref P2)) (.val (.ref b362)) (.val (.ref b394)) .unset .unset [(.ref b394)])) (fun t kt => ?_) ?_
      · refine XS.astore Xh413.here hx rfl (hb hby at_231) rfl rfl (l' := #[.val (.int p1), .val (.int ((p1 &&& (2147483647 : Int32)) % (3 : Int32))), .val (.ref P2), .val (.ref b362), .val (.ref b394), .unset, .unset]) rfl ?_
        refine XS.aload Xh413.here hx rfl (hb hby at_233) rfl rfl ?_
        exact kt
      have f414 := (A394.keep Kq406)
      have f415 := (f405.keep Kq406 (allS g396 all0))
      have f416 := (Nat.le_trans f403 Kq406.1)
      obtain ⟨vv417, _, ⟨T417, L417, k417, n417⟩, -, X417, ⟨Lc417, hQ417, l417, y417, z417⟩, st417⟩ := Jvm.LawKit.callS Xh413 hx (y := (⟨"com/example/quayside/quayside/model/OrderStatus", "ofWord", "(Ljava/lang/String;)Lcom/example/quayside/quayside/model/OrderStatus;"⟩ : MethodName)) hown (mvT hZ (Wd34 hw)) (mvT hZ (Wd35 hw)) (mvT hZ (Wd2 hw)) (mvT hZ (Wd36 hw)) (by decide) (backOf (W := 0) (c_of2 l Z a0 hw [] b394 t406 kb406 A kA P0 P1 P2 W0 W1 W2 B0 B1 B2 kb0 kb1 kb2 G1 T406.heap n0 f416 f414 Vq406 Cq406 Aq406 hp402 SV KV EV EP0 FP0 EW0 FV0 FC0 KB0 EP1 FP1 EW1 FV1 FC1 KB1 EP2 FP2 EW2 FV2 FC2 KB2 O2 P5 f415) hZ (Wd36 hw) (Wd2 hw) (by decide) (by decide)) (g := (fr_law m p1 235 (.val (.int ((p1 &&& (2147483647 : Int32)) % (3 : Int32)))) (.val (.ref P2)) (.val (.ref b362)) (.val (.ref b394)) .unset .unset [(.ref b394)])) rfl (by rw [hml]; rfl) (argsL := [(.ref b394)]) (rest := []) (lenOf pd_185 rfl) rfl (by show 2 * 0 + _ ≤ _; exact Nat.le_of_eq rfl) (hb hby at_235) (fun _ _ => ⟨rfl, rfl, (by decide : 3 + 1 ≤ _), (by decide : 18 + 3 ≤ _)⟩)
      dsimp only [Pt.U, Pt.locs, Pt.cells, Pt.slots] at X417 l417 y417 z417 st417 hQ417
      subst l417 y417 z417
      obtain ⟨rfl, Nq417, Kq417⟩ := hQ417
      have N418 := Fr.app Nh413 Nq417
      obtain ⟨Lh419, Xh419, Nh419⟩ := own_hide (cells' := 4) (slots' := 21) X417 N418 (Nat.le_of_ble_eq_true rfl) (Nat.le_of_ble_eq_true rfl)
      refine ownBy st417 ?_
      clear st417
      show ownG p.tables e below _ (T417.setTop (fr_law m p1 238 (.val (.int ((p1 &&& (2147483647 : Int32)) % (3 : Int32)))) (.val (.ref P2)) (.val (.ref b362)) (.val (.ref b394)) .unset .unset [(.ref P2)]))
      refine ownBy (A := T417.setTop (fr_law m p1 241 (.val (.int ((p1 &&& (2147483647 : Int32)) % (3 : Int32)))) (.val (.ref P2)) (.val (.ref b362)) (.val (.ref b394)) (.val (.ref P2)) .unset [(.ref P2)])) (fun t kt => ?_) ?_
      · refine XS.astore Xh419.here hx rfl (hb hby at_238) rfl rfl (l' := #[.val (.int p1), .val (.int ((p1 &&& (2147483647 : Int32)) % (3 : Int32))), .val (.ref P2), .val (.ref b362), .val (.ref b394), .val (.ref P2), .unset]) rfl ?_
        refine XS.aloadN Xh419.here hx rfl (hb hby at_240) rfl rfl ?_
        exact kt
      have f420 := (f415.keep Kq417 all0)
      have f421 := FP2.ext f420.2
      have f422 := (Nat.le_trans f416 Kq417.1)
      have f424 := EP2.ext f420.2
      obtain ⟨cq423, kq423, q423a, q423b, q423c⟩ := isOf hZ rfl f424
      obtain ⟨vv423, _, ⟨T423, L423, k423, n423⟩, -, X423, ⟨Lc423, hQ423, l423, y423, z423⟩, st423⟩ := Xh419.virtualBack hx (y := (⟨"com/example/quayside/quayside/model/OrderStatus", "getWord", "()Ljava/lang/String;"⟩ : MethodName)) (z := (⟨"com/example/quayside/quayside/model/OrderStatus", "getWord", "()Ljava/lang/String;"⟩ : MethodName)) hown (mvT hZ (Wd66 hw)) (mvT hZ (Wd67 hw)) (notFace_of_selects (args := #[]) (mvT hZ (Wd69 hw))) (mvT hZ (Wd69 hw)) (mvT hZ (Wd68 hw)) (by decide) (backOf (W := 0) (c_gword l Z a0 hw [] P2 (.ref W2) T417.heap n0 f422 f421 rfl) hZ (Wd70 hw) (Wd2 hw) (by decide) (by decide)) q423a q423c (g := (fr_law m p1 241 (.val (.int ((p1 &&& (2147483647 : Int32)) % (3 : Int32)))) (.val (.ref P2)) (.val (.ref b362)) (.val (.ref b394)) (.val (.ref P2)) .unset [(.ref P2)])) rfl (by rw [hml]; rfl) (Steps.refl _) (argsL := []) (rest := []) (lenOf pd_192 rfl) rfl (by show 2 * 0 + _ ≤ _; exact Nat.le_of_eq rfl) (hb hby at_241) (fun _ _ => ⟨rfl, rfl, (by decide : 4 + 0 ≤ _), (by decide : 21 + 0 ≤ _)⟩)
      dsimp only [Pt.U, Pt.locs, Pt.cells, Pt.slots] at X423 l423 y423 z423 st423 hQ423
      subst l423 y423 z423
      obtain ⟨rfl, Nq423, Eq423⟩ := hQ423
      have N425 := Fr.app Nh419 Nq423
      obtain ⟨Lh426, Xh426, Nh426⟩ := own_hide (cells' := 4) (slots' := 21) X423 N425 (Nat.le_of_ble_eq_true rfl) (Nat.le_of_ble_eq_true rfl)
      refine ownSt st423 ?_
      clear st423
      show ownG p.tables e below _ (T423.setTop (fr_law m p1 244 (.val (.int ((p1 &&& (2147483647 : Int32)) % (3 : Int32)))) (.val (.ref P2)) (.val (.ref b362)) (.val (.ref b394)) (.val (.ref P2)) .unset [(.ref W2)]))
      have f427 := EW2.ext f420.2
      have f428 := FV2.ext f420.2
      have f429 := FC2.ext f420.2
      have f430 := KB2.ext f420.2
      obtain ⟨vv431, _, ⟨T431, L431, k431, n431⟩, -, X431, ⟨Lc431, hQ431, l431, y431, z431⟩, st431⟩ := Jvm.LawKit.callS Xh426 hx (y := (⟨"com/example/quayside/quayside/model/OrderStatus", "ofWord", "(Ljava/lang/String;)Lcom/example/quayside/quayside/model/OrderStatus;"⟩ : MethodName)) hown (mvT hZ (Wd34 hw)) (mvT hZ (Wd35 hw)) (mvT hZ (Wd2 hw)) (mvT hZ (Wd36 hw)) (by decide) (backOf (W := 0) (c_of2 l Z a0 hw [] W2 B2 kb2 A kA P0 P1 P2 W0 W1 W2 B0 B1 B2 kb0 kb1 kb2 G1 T417.heap n0 f422 f427 f428 f429 f430 hpw2 SV KV EV EP0 FP0 EW0 FV0 FC0 KB0 EP1 FP1 EW1 FV1 FC1 KB1 EP2 FP2 EW2 FV2 FC2 KB2 O2 P5 f420) hZ (Wd36 hw) (Wd2 hw) (by decide) (by decide)) (g := (fr_law m p1 244 (.val (.int ((p1 &&& (2147483647 : Int32)) % (3 : Int32)))) (.val (.ref P2)) (.val (.ref b362)) (.val (.ref b394)) (.val (.ref P2)) .unset [(.ref W2)])) rfl (by rw [hml]; rfl) (argsL := [(.ref W2)]) (rest := []) (lenOf pd_185 rfl) rfl (by show 2 * 0 + _ ≤ _; exact Nat.le_of_eq rfl) (hb hby at_244) (fun _ _ => ⟨rfl, Eq423, (by decide : 4 + 1 ≤ _), (by decide : 21 + 3 ≤ _)⟩)
      dsimp only [Pt.U, Pt.locs, Pt.cells, Pt.slots] at X431 l431 y431 z431 st431 hQ431
      subst l431 y431 z431
      obtain ⟨rfl, Nq431, Kq431⟩ := hQ431
      have N432 := Fr.app Nh426 Nq431
      obtain ⟨Lh433, Xh433, Nh433⟩ := own_hide (cells' := 5) (slots' := 24) X431 N432 (Nat.le_of_ble_eq_true rfl) (Nat.le_of_ble_eq_true rfl)
      refine ownBy st431 ?_
      clear st431
      show ownG p.tables e below _ (T431.setTop (fr_law m p1 247 (.val (.int ((p1 &&& (2147483647 : Int32)) % (3 : Int32)))) (.val (.ref P2)) (.val (.ref b362)) (.val (.ref b394)) (.val (.ref P2)) .unset [(.ref P2)]))
      refine ownBy (A := T431.setTop (fr_law m p1 262 (.val (.int ((p1 &&& (2147483647 : Int32)) % (3 : Int32)))) (.val (.ref P2)) (.val (.ref b362)) (.val (.ref b394)) (.val (.ref P2)) (.val (.ref P2)) [(.ref P2)])) (fun t kt => ?_) ?_
      · refine XS.astore Xh433.here hx rfl (hb hby at_247) rfl rfl (l' := #[.val (.int p1), .val (.int ((p1 &&& (2147483647 : Int32)) % (3 : Int32))), .val (.ref P2), .val (.ref b362), .val (.ref b394), .val (.ref P2), .val (.ref P2)]) rfl ?_
        refine XS.aload Xh433.here hx rfl (hb hby at_249) rfl rfl ?_
        show Steps p.tables e below (T431.setTop (fr_law m p1 251 (.val (.int ((p1 &&& (2147483647 : Int32)) % (3 : Int32)))) (.val (.ref P2)) (.val (.ref b362)) (.val (.ref b394)) (.val (.ref P2)) (.val (.ref P2)) [(.ref P2)])) t
        refine XS.aloadN Xh433.here hx rfl (hb hby at_251) rfl rfl ?_
        refine Jvm.RoadKit.acmp (g := (fr_law m p1 252 (.val (.int ((p1 &&& (2147483647 : Int32)) % (3 : Int32)))) (.val (.ref P2)) (.val (.ref b362)) (.val (.ref b394)) (.val (.ref P2)) (.val (.ref P2)) [(.ref P2), (.ref P2)])) Xh433 hx rfl rfl rfl (pc0 := 252) (pc' := 255) (same := true) rfl (hb hby at_252) rfl (decide_eq_true rfl) (by decide) (by decide) ?_
        show Steps p.tables e below (T431.setTop (fr_law m p1 255 (.val (.int ((p1 &&& (2147483647 : Int32)) % (3 : Int32)))) (.val (.ref P2)) (.val (.ref b362)) (.val (.ref b394)) (.val (.ref P2)) (.val (.ref P2)) [])) t
        refine XS.aload Xh433.here hx rfl (hb hby at_255) rfl rfl ?_
        refine XS.aloadN Xh433.here hx rfl (hb hby at_257) rfl rfl ?_
        show Steps p.tables e below (T431.setTop (fr_law m p1 258 (.val (.int ((p1 &&& (2147483647 : Int32)) % (3 : Int32)))) (.val (.ref P2)) (.val (.ref b362)) (.val (.ref b394)) (.val (.ref P2)) (.val (.ref P2)) [(.ref P2), (.ref P2)])) t
        refine Jvm.RoadKit.acmp (g := (fr_law m p1 258 (.val (.int ((p1 &&& (2147483647 : Int32)) % (3 : Int32)))) (.val (.ref P2)) (.val (.ref b362)) (.val (.ref b394)) (.val (.ref P2)) (.val (.ref P2)) [(.ref P2), (.ref P2)])) Xh433 hx rfl rfl rfl (pc0 := 258) (pc' := 261) (same := true) rfl (hb hby at_258) rfl (decide_eq_true rfl) (by decide) (by decide) ?_
        refine XS.aloadN Xh433.here hx rfl (hb hby at_261) rfl rfl ?_
        exact kt
      have f434 := (f420.keep Kq431 all0)
      have f435 := FP2.ext f434.2
      have f436 := (Nat.le_trans f422 Kq431.1)
      have f438 := EP2.ext f434.2
      obtain ⟨cq437, kq437, q437a, q437b, q437c⟩ := isOf hZ rfl f438
      obtain ⟨vv437, _, ⟨T437, L437, k437, n437⟩, -, X437, ⟨Lc437, hQ437, l437, y437, z437⟩, st437⟩ := Xh433.virtualBack hx (y := (⟨"com/example/quayside/quayside/model/OrderStatus", "getWord", "()Ljava/lang/String;"⟩ : MethodName)) (z := (⟨"com/example/quayside/quayside/model/OrderStatus", "getWord", "()Ljava/lang/String;"⟩ : MethodName)) hown (mvT hZ (Wd66 hw)) (mvT hZ (Wd67 hw)) (notFace_of_selects (args := #[]) (mvT hZ (Wd69 hw))) (mvT hZ (Wd69 hw)) (mvT hZ (Wd68 hw)) (by decide) (backOf (W := 0) (c_gword l Z a0 hw [] P2 (.ref W2) T431.heap n0 f436 f435 rfl) hZ (Wd70 hw) (Wd2 hw) (by decide) (by decide)) q437a q437c (g := (fr_law m p1 262 (.val (.int ((p1 &&& (2147483647 : Int32)) % (3 : Int32)))) (.val (.ref P2)) (.val (.ref b362)) (.val (.ref b394)) (.val (.ref P2)) (.val (.ref P2)) [(.ref P2)])) rfl (by rw [hml]; rfl) (Steps.refl _) (argsL := []) (rest := []) (lenOf pd_192 rfl) rfl (by show 2 * 0 + _ ≤ _; exact Nat.le_of_eq rfl) (hb hby at_262) (fun _ _ => ⟨rfl, rfl, (by decide : 5 + 0 ≤ _), (by decide : 24 + 0 ≤ _)⟩)
      dsimp only [Pt.U, Pt.locs, Pt.cells, Pt.slots] at X437 l437 y437 z437 st437 hQ437
      subst l437 y437 z437
      obtain ⟨rfl, Nq437, Eq437⟩ := hQ437
      have N439 := Fr.app Nh433 Nq437
      obtain ⟨Lh440, Xh440, Nh440⟩ := own_hide (cells' := 5) (slots' := 24) X437 N439 (Nat.le_of_ble_eq_true rfl) (Nat.le_of_ble_eq_true rfl)
      refine ownSt st437 ?_
      clear st437
      show ownG p.tables e below _ (T437.setTop (fr_law m p1 265 (.val (.int ((p1 &&& (2147483647 : Int32)) % (3 : Int32)))) (.val (.ref P2)) (.val (.ref b362)) (.val (.ref b394)) (.val (.ref P2)) (.val (.ref P2)) [(.ref W2)]))
      refine ownBy (A := T437.setTop (fr_law m p1 267 (.val (.int ((p1 &&& (2147483647 : Int32)) % (3 : Int32)))) (.val (.ref P2)) (.val (.ref b362)) (.val (.ref b394)) (.val (.ref P2)) (.val (.ref P2)) [(.ref b394), (.ref W2)])) (fun t kt => ?_) ?_
      · refine XS.aload Xh440.here hx rfl (hb hby at_265) rfl rfl ?_
        exact kt
      have hcd441 : StrChars.Road.CodA ([(83 : Int32), (104 : Int32), (105 : Int32), (112 : Int32), (112 : Int32), (101 : Int32), (100 : Int32)] : List Int32) 0 (7 : Int32) ((([(83 : Int32), (104 : Int32), (105 : Int32), (112 : Int32), (112 : Int32), (101 : Int32), (100 : Int32)] : List Int32).map (fun c => c.toInt8.toInt32)).map Value.int) := StrChars.Road.codOf (n := 7) rfl (fun x hx => (hpw2 x hx).2)
      have hbd441 : ∀ x ∈ ([(83 : Int32), (104 : Int32), (105 : Int32), (112 : Int32), (112 : Int32), (101 : Int32), (100 : Int32)] : List Int32), ¬ x < 0 ∧ ¬ (65535 : Int32) < x := own_up _ hpw2
      have f442 := EW2.ext f434.2
      have f443 := FV2.ext f434.2
      have f444 := FC2.ext f434.2
      have f445 := KB2.ext f434.2
      have hcd446 : StrChars.Road.CodA ([(83 : Int32), (104 : Int32), (105 : Int32), (112 : Int32), (112 : Int32), (101 : Int32), (100 : Int32)] : List Int32) 0 (7 : Int32) ((([(83 : Int32), (104 : Int32), (105 : Int32), (112 : Int32), (112 : Int32), (101 : Int32), (100 : Int32)] : List Int32).map (fun c => c.toInt8.toInt32)).map Value.int) := StrChars.Road.codOf (n := 7) rfl (fun x hx => (hp402 x hx).2)
      have hbd446 : ∀ x ∈ ([(83 : Int32), (104 : Int32), (105 : Int32), (112 : Int32), (112 : Int32), (101 : Int32), (100 : Int32)] : List Int32), ¬ x < 0 ∧ ¬ (65535 : Int32) < x := own_up _ hp402
      have f447 := ((f414.keep Kq417).keep Kq431)
      have f448 := ((Vq406.keep Kq417 nin0).keep Kq431 nin0)
      have f449 := ((Cq406.keep Kq417 nin0).keep Kq431 nin0)
      have f450 := ((Aq406.keep Kq417 nin0).keep Kq431 nin0)
      obtain ⟨cq451, kq451, q451a, q451b, q451c⟩ := isOf hZ Eq437 f442
      obtain ⟨vv451, _, ⟨T451, L451, k451, n451⟩, -, X451, ⟨Lc451, hQ451, l451, y451, z451⟩, st451⟩ := Xh440.virtualBack hx (y := (⟨"java/lang/String", "equals", "(Ljava/lang/Object;)Z"⟩ : MethodName)) (z := (⟨"java/lang/String", "equals", "(Ljava/lang/Object;)Z"⟩ : MethodName)) hown (mvT hZ (Wd71 hw)) (mvT hZ (Wd57 hw)) (notFace_of_selects (args := #[]) (mvT hZ (Wd59 hw))) (mvT hZ (Wd59 hw)) (mvT hZ (Wd58 hw)) (by decide) (StrChars.Road.eqW (W := 0) hZ heq (kI := 4) (Wd6 hw) f442 f443 f444 f445 hcd441 hbd441 (Nat.le_of_ble_eq_true rfl) f447 f448 f449 f450 hcd446 hbd446 (Nat.le_of_ble_eq_true rfl) (O2.ext f434.2) P5 (by decide) (by decide)) q451a q451c (g := (fr_law m p1 267 (.val (.int ((p1 &&& (2147483647 : Int32)) % (3 : Int32)))) (.val (.ref P2)) (.val (.ref b362)) (.val (.ref b394)) (.val (.ref P2)) (.val (.ref P2)) [(.ref b394), (.ref W2)])) rfl (by rw [hml]; rfl) (Steps.refl _) (argsL := [(.ref b394)]) (rest := []) (lenOf pd_35 rfl) rfl (by show 2 * 0 + _ ≤ _; exact Nat.le_of_eq rfl) (hb hby at_267) (fun _ _ => ⟨rfl, Eq437, (by decide : 5 + 0 ≤ _), (by decide : 24 + 0 ≤ _)⟩)
      dsimp only [Pt.U, Pt.locs, Pt.cells, Pt.slots] at X451 l451 y451 z451 st451 hQ451
      subst l451 y451 z451
      obtain ⟨hE451, rfl, Eq451⟩ := hQ451
      have Nq451 : Fr n0 ([] : List Loc) := Fr.nil n0
      obtain rfl : vv451 = some (.int 1) := hE451.elim (fun q => q.1) (fun q => absurd rfl q.2)
      have N452 := Fr.app Nh440 Nq451
      obtain ⟨Lh453, Xh453, Nh453⟩ := own_hide (cells' := 5) (slots' := 24) X451 N452 (Nat.le_of_ble_eq_true rfl) (Nat.le_of_ble_eq_true rfl)
      refine ownSt st451 ?_
      clear st451
      show ownG p.tables e below _ (T451.setTop (fr_law m p1 270 (.val (.int ((p1 &&& (2147483647 : Int32)) % (3 : Int32)))) (.val (.ref P2)) (.val (.ref b362)) (.val (.ref b394)) (.val (.ref P2)) (.val (.ref P2)) [(.int (1 : Int32))]))
      refine ownBy (A := T451.setTop (fr_law m p1 278 (.val (.int ((p1 &&& (2147483647 : Int32)) % (3 : Int32)))) (.val (.ref P2)) (.val (.ref b362)) (.val (.ref b394)) (.val (.ref P2)) (.val (.ref P2)) [(.int (1 : Int32))])) (fun t kt => ?_) ?_
      · refine XS.ifNo Xh453.here hx rfl (hb hby at_270) rfl ((if0 _ _).trans (feq ((by decide) : ¬ ((1 : Int32) = (0 : Int32)))).1) ?_
        refine XS.iconst Xh453.here hx rfl (hb hby at_273) ?_
        show Steps p.tables e below (T451.setTop (fr_law m p1 274 (.val (.int ((p1 &&& (2147483647 : Int32)) % (3 : Int32)))) (.val (.ref P2)) (.val (.ref b362)) (.val (.ref b394)) (.val (.ref P2)) (.val (.ref P2)) [(.int (1 : Int32))])) t
        refine XS.goto Xh453.here hx rfl (pc0 := 274) (pc' := 278) rfl (hb hby at_274) (by decide) (by decide) ?_
        exact kt
      refine ownRet Xh453 Bd.notSynchronized (v := some (.int (nar .boolean (1 : Int32)))) (fun h => by rw [Bd.returns] at h; cases h) ?_ (Nat.le_of_ble_eq_true rfl) (Nat.le_of_ble_eq_true rfl) (fun fs hr => retN Xh453 hx (t := .boolean) Bd.returns (by simp) (hb hby at_278) hr)
      show (Q_law Z p1 A kA P0 P1 P2 W0 W1 W2 B0 B1 B2 kb0 kb1 kb2 G1 h0 n0) (some (.int (nar .boolean (1 : Int32)))) T451.heap _
      rw [Eq451]
      exact ⟨rfl, Nh453⟩
set_option maxRecDepth 65536 in
set_option maxHeartbeats 40000000 in
theorem comes_1 {Post : Tables → Env → Array Value → State → Outcome → State → Prop} (hpost : ∀ tb e args s v u, (limb_1_1.after args s (.returned v) u = true ∧ limb_1_2.after args s (.returned v) u = true ∧ True) → FrameEnd s (.returned v) u (Jvm.fieldLocs frame_1_writes args s ++ Jvm.arrayLocs frame_1_arrays args s ++ Jvm.staticLocs frame_1_statics s) 24 192 → Post tb e args s (.returned v) u) :
    ArmFor flags0 classFile x code maxLocals ret World_1 tables_1 room_1 Calls_1 rest_1 Pre_1 Post := by
  intro l hfl _ _ p e ha hc hk s m args below hf hA hF happ hP
  obtain ⟨hcalls, hrest, hpre⟩ := hP
  obtain ⟨-, -, -, hnamed, -, -, -, hat⟩ := (Spec.applies_iff hf).mp happ
  obtain ⟨hg, hn⟩ := and_e (Cond.before_iff.mp (show (Jvm.Cond.and given_1 narrow_1).before args s = true from hpre))
  obtain ⟨g534, g535⟩ := and_e hg
  obtain ⟨w0, rfl⟩ : ∃ w0 : Value, args = #[w0] := by
    have hs : args.size = 1 := by simpa [Cond.value, given_1] using g534
    obtain ⟨L⟩ := args
    match L, hs with
    | [w0], _ => exact ⟨w0, rfl⟩
  have hw := fun d (hd : d ∈ tables_1) => atoms_spec (ws := Jvm.Cond.code x code maxLocals ret :: tables_1) hat d (List.mem_cons_of_mem _ hd)
  have hfit : Fit s := fun {y c} hc i hi => by
    obtain ⟨ha, rfl⟩ := Array.getElem?_eq_some_iff.mp hc
    have q := List.all_eq_true.mp ((Array.all_eq_true_iff_forall_mem.mp hF) _ (Array.getElem_mem ha)) i (List.mem_range.mpr hi)
    simpa [Array.getElem?_eq_getElem hi] using q
  obtain ⟨hsets, hown0⟩ := atoms_of _ (rest_1_c_eq ▸ (show rest_1_c.before _ s = true from hrest))
  have hr0 := Cond.before_iff.mp hown0
  obtain ⟨i0, ei0⟩ := is_v g535
  obtain rfl : w0 = (.int i0) := Option.some.inj ei0
  obtain ⟨G1, eG1⟩ := is_v (Cond.before_iff.mp (hsets _ (List.mem_of_getElem? (i := 1) rfl)))
  have O2 := Sta.start eG1 (Or.inl (hsets _ (List.mem_of_getElem? (i := 0) rfl)))
  have P5 : ¬ (G1 = (0 : Int32)) := own_nz eG1 (Cond.before_iff.mp (hsets _ (List.mem_of_getElem? (i := 2) rfl)))
  obtain ⟨nc0, nr0⟩ := and_e hn
  obtain ⟨nc1, nr1⟩ := and_e nr0
  obtain ⟨nc2, nr2⟩ := and_e nr1
  obtain ⟨nc3, nr3⟩ := and_e nr2
  obtain ⟨nc4, nr4⟩ := and_e nr3
  obtain ⟨nc5, nr5⟩ := and_e nr4
  obtain ⟨nc6, nr6⟩ := and_e nr5
  obtain ⟨nc7, nr7⟩ := and_e nr6
  obtain ⟨nc8, nr8⟩ := and_e nr7
  obtain ⟨nc9, nr9⟩ := and_e nr8
  obtain ⟨nc10, nr10⟩ := and_e nr9
  obtain ⟨nc11, nr11⟩ := and_e nr10
  obtain ⟨nc12, nr12⟩ := and_e nr11
  obtain ⟨nc13, nr13⟩ := and_e nr12
  obtain ⟨nc14, nr14⟩ := and_e nr13
  obtain ⟨nc15, nr15⟩ := and_e nr14
  obtain ⟨nc16, nr16⟩ := and_e nr15
  obtain ⟨nc17, nr17⟩ := and_e nr16
  obtain ⟨nc18, nr18⟩ := and_e nr17
  obtain ⟨nc19, nr19⟩ := and_e nr18
  obtain ⟨nc20, nr20⟩ := and_e nr19
  obtain ⟨nc21, nr21⟩ := and_e nr20
  obtain ⟨nc22, nr22⟩ := and_e nr21
  obtain ⟨nc23, nr23⟩ := and_e nr22
  obtain ⟨nc24, nr24⟩ := and_e nr23
  obtain ⟨nc25, nr25⟩ := and_e nr24
  obtain ⟨nc26, nr26⟩ := and_e nr25
  obtain ⟨nc27, nr27⟩ := and_e nr26
  obtain ⟨nc28, nr28⟩ := and_e nr27
  obtain ⟨nc29, nr29⟩ := and_e nr28
  obtain ⟨nc30, nr30⟩ := and_e nr29
  obtain ⟨nc31, nr31⟩ := and_e nr30
  obtain ⟨nc32, nr32⟩ := and_e nr31
  obtain ⟨nc33, nr33⟩ := and_e nr32
  obtain ⟨nc34, nr34⟩ := and_e nr33
  obtain ⟨nc35, nr35⟩ := and_e nr34
  obtain ⟨nc36, nr36⟩ := and_e nr35
  obtain ⟨nc37, nr37⟩ := and_e nr36
  obtain ⟨nc38, nr38⟩ := and_e nr37
  obtain ⟨nc39, nr39⟩ := and_e nr38
  obtain ⟨nc40, nr40⟩ := and_e nr39
  obtain ⟨nc41, nr41⟩ := and_e nr40
  obtain ⟨nc42, nr42⟩ := and_e nr41
  obtain ⟨nc43, nr43⟩ := and_e nr42
  obtain ⟨nc44, nr44⟩ := and_e nr43
  obtain ⟨nc45, nr45⟩ := and_e nr44
  obtain ⟨nc46, nr46⟩ := and_e nr45
  obtain ⟨nc47, nr47⟩ := and_e nr46
  obtain ⟨nc48, nr48⟩ := and_e nr47
  obtain ⟨nc49, nr49⟩ := and_e nr48
  obtain ⟨nc50, nr50⟩ := and_e nr49
  obtain ⟨nc51, nr51⟩ := and_e nr50
  obtain ⟨nc52, nr52⟩ := and_e nr51
  obtain ⟨nc53, nr53⟩ := and_e nr52
  obtain ⟨nc54, nr54⟩ := and_e nr53
  obtain ⟨o454, eo454⟩ := exa_v nc0
  have S455 := Sta.start eo454 (Or.inr ⟨(Wd2 hw), (Wd3 hw)⟩)
  have E456 := Exa.start eo454 nc0
  obtain ⟨o457, eo457⟩ := exa_v nc2
  have S458 := Sta.start eo457 (Or.inr ⟨(Wd2 hw), (Wd41 hw)⟩)
  have E459 := Exa.start eo457 nc2
  obtain ⟨o460, eo460⟩ := exa_v nc5
  have S461 := Sta.start eo460 (Or.inr ⟨(Wd2 hw), (Wd49 hw)⟩)
  have E462 := Exa.start eo460 nc5
  obtain ⟨o463, eo463⟩ := exa_v nc7
  have S464 := Sta.start eo463 (Or.inr ⟨(Wd2 hw), (Wd50 hw)⟩)
  have E465 := Exa.start eo463 nc7
  obtain ⟨o466, eo466⟩ := exa_v nc9
  have F467 := Fld.start ((fld_at eo454).symm.trans eo466)
  have E468 := Exa.start eo466 nc9
  obtain ⟨o469, eo469⟩ := exa_v nc13
  have F470 := Fld.start ((fld_at eo460).symm.trans eo469)
  have E471 := Exa.start eo469 nc13
  obtain ⟨o472, eo472⟩ := exa_v nc17
  have F473 := Fld.start ((fld_at eo463).symm.trans eo472)
  have E474 := Exa.start eo472 nc17
  obtain ⟨c475, Ac475⟩ := Arr.start eo457 nc1
  obtain ⟨o476, eo476⟩ := arr_v nc11
  have F477 := Fld.start ((fld_at eo466).symm.trans eo476)
  obtain ⟨c478, Ac478⟩ := Arr.start eo476 nc11
  obtain ⟨o479, eo479⟩ := arr_v nc15
  have F480 := Fld.start ((fld_at eo469).symm.trans eo479)
  obtain ⟨c481, Ac481⟩ := Arr.start eo479 nc15
  obtain ⟨o482, eo482⟩ := arr_v nc19
  have F483 := Fld.start ((fld_at eo472).symm.trans eo482)
  obtain ⟨c484, Ac484⟩ := Arr.start eo482 nc19
  obtain ⟨l485, l485'⟩ := own_len eo457 Ac475 nc3
  have m486 := own_elem eo457 Ac475 (own_eqv eo454 nc4)
  have m487 := own_elem eo457 Ac475 (own_eqv eo460 nc6)
  have m488 := own_elem eo457 Ac475 (own_eqv eo463 nc8)
  have e489 := eqv_i rfl nc10
  have F490 := Fld.start ((fld_at eo466).symm.trans e489)
  obtain ⟨l491, l491'⟩ := own_len eo476 Ac478 nc12
  have e492 := eqv_i rfl nc14
  have F493 := Fld.start ((fld_at eo469).symm.trans e492)
  obtain ⟨l494, l494'⟩ := own_len eo479 Ac481 nc16
  have e495 := eqv_i rfl nc18
  have F496 := Fld.start ((fld_at eo472).symm.trans e495)
  obtain ⟨l497, l497'⟩ := own_len eo482 Ac484 nc20
  have m498 := own_elem eo476 Ac478 (eqv_i rfl nc24)
  have m499 := own_elem eo476 Ac478 (eqv_i rfl nc25)
  have m500 := own_elem eo476 Ac478 (eqv_i rfl nc26)
  have m501 := own_elem eo476 Ac478 (eqv_i rfl nc27)
  have m502 := own_elem eo476 Ac478 (eqv_i rfl nc28)
  have m503 := own_elem eo476 Ac478 (eqv_i rfl nc29)
  have m504 := own_elem eo476 Ac478 (eqv_i rfl nc30)
  have m505 := own_elem eo479 Ac481 (eqv_i rfl nc31)
  have m506 := own_elem eo479 Ac481 (eqv_i rfl nc32)
  have m507 := own_elem eo479 Ac481 (eqv_i rfl nc33)
  have m508 := own_elem eo479 Ac481 (eqv_i rfl nc34)
  have m509 := own_elem eo479 Ac481 (eqv_i rfl nc35)
  have m510 := own_elem eo479 Ac481 (eqv_i rfl nc36)
  have m511 := own_elem eo479 Ac481 (eqv_i rfl nc37)
  have m512 := own_elem eo479 Ac481 (eqv_i rfl nc38)
  have m513 := own_elem eo479 Ac481 (eqv_i rfl nc39)
  have m514 := own_elem eo479 Ac481 (eqv_i rfl nc40)
  have m515 := own_elem eo479 Ac481 (eqv_i rfl nc41)
  have m516 := own_elem eo479 Ac481 (eqv_i rfl nc42)
  have m517 := own_elem eo479 Ac481 (eqv_i rfl nc43)
  have m518 := own_elem eo479 Ac481 (eqv_i rfl nc44)
  have m519 := own_elem eo479 Ac481 (eqv_i rfl nc45)
  have m520 := own_elem eo479 Ac481 (eqv_i rfl nc46)
  have m521 := own_elem eo479 Ac481 (eqv_i rfl nc47)
  have m522 := own_elem eo479 Ac481 (eqv_i rfl nc48)
  have m523 := own_elem eo482 Ac484 (eqv_i rfl nc49)
  have m524 := own_elem eo482 Ac484 (eqv_i rfl nc50)
  have m525 := own_elem eo482 Ac484 (eqv_i rfl nc51)
  have m526 := own_elem eo482 Ac484 (eqv_i rfl nc52)
  have m527 := own_elem eo482 Ac484 (eqv_i rfl nc53)
  have m528 := own_elem eo482 Ac484 (eqv_i rfl nc54)
  have m529 := own_elem eo482 Ac484 (eqv_i rfl nr54)
  -- nc21 : (Jvm.Cond.not (Jvm.Cond.eq (Jvm.Term.field (Jvm.Term.static "com/example/quayside/quayside/model/OrderStatus" "PENDING" "Lcom/example/quayside/quayside/model/Or
  -- nc22 : (Jvm.Cond.not (Jvm.Cond.eq (Jvm.Term.field (Jvm.Term.static "com/example/quayside/quayside/model/OrderStatus" "READY_FOR_SHIPPING" "Lcom/example/quayside/quaysi
  -- nc23 : (Jvm.Cond.not (Jvm.Cond.eq (Jvm.Term.field (Jvm.Term.static "com/example/quayside/quayside/model/OrderStatus" "PENDING" "Lcom/example/quayside/quayside/model/Or
  have K530 : Arv s s.heap o457 c475.cls (.object "com/example/quayside/quayside/model/OrderStatus") (3 : Int32) [(.ref o454), (.ref o460), (.ref o463)] .null := Arv.start hfit Ac475 l485 l485' (by decide) rfl ⟨m486, ⟨m487, ⟨m488, trivial⟩⟩⟩
  have K531 : Arv s s.heap o476 c478.cls .byte (7 : Int32) [(.int (80 : Int32)), (.int (101 : Int32)), (.int (110 : Int32)), (.int (100 : Int32)), (.int (105 : Int32)), (.int (110 : Int32)), (.int (103 : Int32))] (.int (0 : Int32)) := Arv.start hfit Ac478 l491 l491' (by decide) rfl ⟨m498, ⟨m499, ⟨m500, ⟨m501, ⟨m502, ⟨m503, ⟨m504, trivial⟩⟩⟩⟩⟩⟩⟩
  rw [show ([(.int (80 : Int32)), (.int (101 : Int32)), (.int (110 : Int32)), (.int (100 : Int32)), (.int (105 : Int32)), (.int (110 : Int32)), (.int (103 : Int32))] : List Value) = ((([(80 : Int32), (101 : Int32), (110 : Int32), (100 : Int32), (105 : Int32), (110 : Int32), (103 : Int32)] : List Int32).map (fun c => c.toInt8.toInt32)).map Value.int) from by decide +kernel] at K531
  have K532 : Arv s s.heap o479 c481.cls .byte (18 : Int32) [(.int (82 : Int32)), (.int (101 : Int32)), (.int (97 : Int32)), (.int (100 : Int32)), (.int (121 : Int32)), (.int (32 : Int32)), (.int (102 : Int32)), (.int (111 : Int32)), (.int (114 : Int32)), (.int (32 : Int32)), (.int (83 : Int32)), (.int (104 : Int32)), (.int (105 : Int32)), (.int (112 : Int32)), (.int (112 : Int32)), (.int (105 : Int32)), (.int (110 : Int32)), (.int (103 : Int32))] (.int (0 : Int32)) := Arv.start hfit Ac481 l494 l494' (by decide) rfl ⟨m505, ⟨m506, ⟨m507, ⟨m508, ⟨m509, ⟨m510, ⟨m511, ⟨m512, ⟨m513, ⟨m514, ⟨m515, ⟨m516, ⟨m517, ⟨m518, ⟨m519, ⟨m520, ⟨m521, ⟨m522, trivial⟩⟩⟩⟩⟩⟩⟩⟩⟩⟩⟩⟩⟩⟩⟩⟩⟩⟩
  rw [show ([(.int (82 : Int32)), (.int (101 : Int32)), (.int (97 : Int32)), (.int (100 : Int32)), (.int (121 : Int32)), (.int (32 : Int32)), (.int (102 : Int32)), (.int (111 : Int32)), (.int (114 : Int32)), (.int (32 : Int32)), (.int (83 : Int32)), (.int (104 : Int32)), (.int (105 : Int32)), (.int (112 : Int32)), (.int (112 : Int32)), (.int (105 : Int32)), (.int (110 : Int32)), (.int (103 : Int32))] : List Value) = ((([(82 : Int32), (101 : Int32), (97 : Int32), (100 : Int32), (121 : Int32), (32 : Int32), (102 : Int32), (111 : Int32), (114 : Int32), (32 : Int32), (83 : Int32), (104 : Int32), (105 : Int32), (112 : Int32), (112 : Int32), (105 : Int32), (110 : Int32), (103 : Int32)] : List Int32).map (fun c => c.toInt8.toInt32)).map Value.int) from by decide +kernel] at K532
  have K533 : Arv s s.heap o482 c484.cls .byte (7 : Int32) [(.int (83 : Int32)), (.int (104 : Int32)), (.int (105 : Int32)), (.int (112 : Int32)), (.int (112 : Int32)), (.int (101 : Int32)), (.int (100 : Int32))] (.int (0 : Int32)) := Arv.start hfit Ac484 l497 l497' (by decide) rfl ⟨m523, ⟨m524, ⟨m525, ⟨m526, ⟨m527, ⟨m528, ⟨m529, trivial⟩⟩⟩⟩⟩⟩⟩
  rw [show ([(.int (83 : Int32)), (.int (104 : Int32)), (.int (105 : Int32)), (.int (112 : Int32)), (.int (112 : Int32)), (.int (101 : Int32)), (.int (100 : Int32))] : List Value) = ((([(83 : Int32), (104 : Int32), (105 : Int32), (112 : Int32), (112 : Int32), (101 : Int32), (100 : Int32)] : List Int32).map (fun c => c.toInt8.toInt32)).map Value.int) from by decide +kernel] at K533
  obtain ⟨n, o, h1, h2, h3, _, L, rfl, ⟨rfl, N⟩, hq⟩ := c_law l s _ hw tables_1 i0 o457 c475.cls o454 o460 o463 o466 o469 o472 o476 o479 o482 c478.cls c481.cls c484.cls G1 s.heap s.heap.size (Nat.le_refl _) S455 S461 S464 S458 K530 E459 E456 F467 E468 F477 F490 K531 E462 F470 E471 F480 F493 K532 E465 F473 E474 F483 F496 K533 O2 P5 (Old.start s) p e ha hc hk s m _ below hf ((Spec.applies_iff_loose hf).mp happ).1 ⟨rfl, State.Warmed39.refl s, rfl⟩ trivial
  refine ⟨n, _, h1, h2, h3, hpost _ _ _ _ _ _ ⟨Cond.after_iff.mpr rfl, Cond.after_iff.mpr (eq_i res_at (Term.int_eval (1)) rfl), trivial⟩ ⟨hq.1, hq.2.1, (hq.2.2.sift fun y hy => Or.inr (N y hy)).mono (by decide) (by decide)⟩⟩
theorem main_1_1 : Claimed_1_1 := comes_1 fun _ _ _ _ _ _ h hF => ⟨h.1, hF⟩
theorem main_1_2 : Claimed_1_2 := comes_1 fun _ _ _ _ _ _ h hF => ⟨h.2.1, hF⟩
end Jvm.Pilot.@@N@@
namespace Jvm.Pilot.@@N@@
open Jvm Jvm.ClassFile Sem Op Lib Jvm.Free Jvm.Stand Jvm.Pilot.@@N@@.Jvm.D
/-! MADE BY PROGRAM (witnessworld.py) out of the Statement's table words and the real class files: 22 classes; the members and pool entries that the words name. The judged class is class 1, her method 1. -/
namespace start1
open Jvm.ClassFile
def u (s : String) : CpInfo := .utf8 (stringToUtf16 s)
/-- a pool by its gaps: so many unusable entries, then the entry; so many at the end -/
def gap : Nat → List CpInfo → List CpInfo
  | 0, r => r
  | n + 1, r => .unusable :: gap n r
def poolList (es : List (Nat × CpInfo)) (last : Nat) : List CpInfo := es.foldr (fun e r => gap e.1 (e.2 :: r)) (gap last [])
def pool (es : List (Nat × CpInfo)) (last : Nat) : Array CpInfo := ⟨poolList es last⟩
def fileOf (pool : Array CpInfo) (this : Nat) (attrs : Array Attribute := #[]) (ms : Array MethodInfo := #[]) (fl : Nat := 33) (sup : Nat := 0) (ifs : Array Nat := #[]) (fds : Array FieldInfo := #[]) : ClassFile where
  minorVersion := 0
  majorVersion := 65
  constantPool := pool
  accessFlags := fl
  thisClass := this
  superClass := sup
  interfaces := ifs
  fields := fds
  methods := ms
  attributes := attrs
def plain (name : String) (sup : Option ClassId) : Class where
  name := name
  kind := .ordinary
  loader := none
  accessFlags := 33
  super := sup
  interfaces := #[]
  cf := none
  fields := #[]
  methods := #[]
  instanceTypes := #[]
  staticTypes := #[]
  resolved := #[]
  callSites := []
  init := .initialized
  statics := none
  mirror := none

def pool0 : Array CpInfo := pool [(5, u "<init>"), (0, u "()V"), (1, .class_ 10), (1, u "java/lang/Object"), (85, u "clone"), (0, u "()Ljava/lang/Object;")] 26

def k0c0 : Code := { maxStack := 0, maxLocals := 1, code := object_method_1_code, exceptionTable := #[], attributes := #[] }
def k0m0 : Method := { name := "<init>", desc := "()V", sig := { parameters := [], returnType := none }, accessFlags := 1, code := some k0c0 }
def k0m1 : Method := { name := "clone", desc := "()Ljava/lang/Object;", sig := { parameters := [], returnType := some (.object "java/lang/Object") }, accessFlags := 260, code := none }
/-- java/lang/Object -/
def k0 : Class := { plain "java/lang/Object" none with
  accessFlags := 33
  interfaces := #[]
  cf := some (fileOf pool0 8 #[] #[{ accessFlags := 1, nameIndex := 5, descriptorIndex := 6, attributes := #[] }, { accessFlags := 260, nameIndex := 96, descriptorIndex := 97, attributes := #[] }] 33 0 #[] #[])
  fields := #[]
  methods := #[k0m0, k0m1]
  instanceTypes := #[]
  staticTypes := #[]
  resolved := Array.replicate 124 none
  statics := none }

def pool1 : Array CpInfo := pool [(2, .class_ 4), (1, u "java/lang/Object"), (0, u "<init>"), (0, u "()V"), (0, .integer 2147483647), (0, .fieldref 9 10), (0, .class_ 11), (0, .nameAndType 12 13), (0, u "com/example/quayside/quayside/model/OrderStatus"), (0, u "PENDING"), (0, u "Lcom/example/quayside/quayside/model/OrderStatus;"), (0, .fieldref 9 15), (0, .nameAndType 16 13), (0, u "READY_FOR_SHIPPING"), (0, .fieldref 9 18), (0, .nameAndType 19 13), (0, u "SHIPPED"), (0, .class_ 21), (0, u "java/lang/String"), (0, .methodref 20 23), (0, .nameAndType 5 24), (0, u "([C)V"), (0, .methodref 9 26), (0, .nameAndType 27 28), (0, u "ofWord"), (0, u "(Ljava/lang/String;)Lcom/example/quayside/quayside/model/OrderStatus;"), (0, .methodref 9 30), (0, .nameAndType 31 32), (0, u "getWord"), (0, u "()Ljava/lang/String;"), (0, .methodref 20 34), (0, .nameAndType 35 36), (0, u "equals"), (0, u "(Ljava/lang/Object;)Z"), (0, .class_ 38), (0, u "com/example/quayside/quayside/model/OrderStatusOfWordPinLaw"), (2, u "law"), (0, u "(I)Z")] 5

def k1m0 : Method := { name := "<init>", desc := "()V", sig := { parameters := [], returnType := none }, accessFlags := 1, code := none }
def k1c1 : Code := { maxStack := 4, maxLocals := 7, code := code, exceptionTable := #[], attributes := #[] }
def k1m1 : Method := { name := "law", desc := "(I)Z", sig := { parameters := [.int], returnType := some .boolean }, accessFlags := 9, code := some k1c1 }
/-- com/example/quayside/quayside/model/OrderStatusOfWordPinLaw -/
def k1 : Class := { plain "com/example/quayside/quayside/model/OrderStatusOfWordPinLaw" (some 0) with
  accessFlags := 49
  interfaces := #[]
  cf := some (fileOf pool1 37 #[] #[{ accessFlags := 1, nameIndex := 5, descriptorIndex := 6, attributes := #[] }, { accessFlags := 9, nameIndex := 41, descriptorIndex := 42, attributes := #[] }] 49 2 #[] #[])
  fields := #[]
  methods := #[k1m0, k1m1]
  instanceTypes := #[]
  staticTypes := #[]
  resolved := Array.replicate 48 none
  statics := none }

def pool2 : Array CpInfo := pool [(1, .class_ 2), (0, u "java/lang/constant/Constable"), (0, .class_ 4), (0, u "java/lang/Object")] 6

/-- java/lang/constant/Constable -/
def k2 : Class := { plain "java/lang/constant/Constable" (some 0) with
  accessFlags := 1537
  interfaces := #[]
  cf := some (fileOf pool2 1 #[] #[] 1537 3 #[] #[])
  fields := #[]
  methods := #[]
  instanceTypes := #[]
  staticTypes := #[]
  resolved := Array.replicate 11 none
  statics := none }

def pool3 : Array CpInfo := pool [(1, .class_ 2), (0, u "java/lang/Comparable"), (0, .class_ 4), (0, u "java/lang/Object")] 7

/-- java/lang/Comparable -/
def k3 : Class := { plain "java/lang/Comparable" (some 0) with
  accessFlags := 1537
  interfaces := #[]
  cf := some (fileOf pool3 1 #[] #[] 1537 3 #[] #[])
  fields := #[]
  methods := #[]
  instanceTypes := #[]
  staticTypes := #[]
  resolved := Array.replicate 12 none
  statics := none }

def pool4 : Array CpInfo := pool [(1, .class_ 2), (0, u "java/io/Serializable"), (0, .class_ 4), (0, u "java/lang/Object")] 2

/-- java/io/Serializable -/
def k4 : Class := { plain "java/io/Serializable" (some 0) with
  accessFlags := 1537
  interfaces := #[]
  cf := some (fileOf pool4 1 #[] #[] 1537 3 #[] #[])
  fields := #[]
  methods := #[]
  instanceTypes := #[]
  staticTypes := #[]
  resolved := Array.replicate 7 none
  statics := none }

def pool5 : Array CpInfo := pool [(2, .class_ 4), (1, u "java/lang/Enum"), (0, u "name"), (0, u "Ljava/lang/String;"), (2, u "ordinal"), (0, u "I"), (1, .class_ 14), (1, u "java/lang/Object"), (4, u "hash"), (86, .class_ 108), (1, u "java/lang/Enum$EnumDesc"), (2, .class_ 112), (0, u "java/lang/constant/Constable"), (0, .class_ 114), (0, u "java/lang/Comparable"), (0, .class_ 116), (0, u "java/io/Serializable")] 87

/-- java/lang/Enum -/
def k5 : Class := { plain "java/lang/Enum" (some 0) with
  accessFlags := 1057
  interfaces := #[2, 3, 4]
  cf := some (fileOf pool5 2 #[.nestMembers #[106]] #[] 1057 12 #[111, 113, 115] #[{ accessFlags := 18, nameIndex := 5, descriptorIndex := 6, attributes := #[] }, { accessFlags := 18, nameIndex := 9, descriptorIndex := 10, attributes := #[] }, { accessFlags := 2, nameIndex := 19, descriptorIndex := 10, attributes := #[] }])
  fields := #[{ name := "name", type := (.object "java/lang/String"), accessFlags := 18, slot := 0, constantValue := 0 }, { name := "ordinal", type := .int, accessFlags := 18, slot := 1, constantValue := 0 }, { name := "hash", type := .int, accessFlags := 2, slot := 2, constantValue := 0 }]
  methods := #[]
  instanceTypes := #[(.object "java/lang/String"), .int, .int]
  staticTypes := #[]
  resolved := Array.replicate 204 none
  statics := none }

def pool6 : Array CpInfo := pool [(1, .class_ 2), (0, u "com/example/quayside/quayside/model/OrderStatus"), (2, u "PENDING"), (0, u "Lcom/example/quayside/quayside/model/OrderStatus;"), (2, u "READY_FOR_SHIPPING"), (2, u "SHIPPED"), (0, .fieldref 1 14), (0, .nameAndType 15 16), (0, u "$VALUES"), (0, u "[Lcom/example/quayside/quayside/model/OrderStatus;"), (0, .methodref 18 19), (0, .class_ 16), (0, .nameAndType 20 21), (0, u "clone"), (0, u "()Ljava/lang/Object;"), (1, .class_ 25), (1, u "java/lang/Enum"), (6, .fieldref 1 33), (0, .nameAndType 34 35), (0, u "word"), (0, u "Ljava/lang/String;"), (0, .methodref 1 37), (0, .nameAndType 38 39), (0, u "values"), (0, u "()[Lcom/example/quayside/quayside/model/OrderStatus;"), (0, .methodref 41 42), (0, .class_ 43), (0, .nameAndType 44 45), (0, u "java/lang/String"), (0, u "equals"), (0, u "(Ljava/lang/Object;)Z"), (26, u "(Ljava/lang/String;)Lcom/example/quayside/quayside/model/OrderStatus;"), (2, u "getWord"), (0, u "()Ljava/lang/String;"), (0, u "ofWord")] 21

def k6c0 : Code := { maxStack := 1, maxLocals := 0, code := prog_22_method_1_code, exceptionTable := #[], attributes := #[] }
def k6m0 : Method := { name := "values", desc := "()[Lcom/example/quayside/quayside/model/OrderStatus;", sig := { parameters := [], returnType := some (.array (.object "com/example/quayside/quayside/model/OrderStatus")) }, accessFlags := 9, code := some k6c0 }
def k6c1 : Code := { maxStack := 1, maxLocals := 1, code := prog_22_method_4_code, exceptionTable := #[], attributes := #[] }
def k6m1 : Method := { name := "getWord", desc := "()Ljava/lang/String;", sig := { parameters := [], returnType := some (.object "java/lang/String") }, accessFlags := 1, code := some k6c1 }
def k6c2 : Code := { maxStack := 3, maxLocals := 5, code := prog_22_method_5_code, exceptionTable := #[], attributes := #[] }
def k6m2 : Method := { name := "ofWord", desc := "(Ljava/lang/String;)Lcom/example/quayside/quayside/model/OrderStatus;", sig := { parameters := [(.object "java/lang/String")], returnType := some (.object "com/example/quayside/quayside/model/OrderStatus") }, accessFlags := 9, code := some k6c2 }
/-- com/example/quayside/quayside/model/OrderStatus -/
def k6 : Class := { plain "com/example/quayside/quayside/model/OrderStatus" (some 5) with
  accessFlags := 16433
  interfaces := #[]
  cf := some (fileOf pool6 1 #[] #[{ accessFlags := 9, nameIndex := 38, descriptorIndex := 39, attributes := #[] }, { accessFlags := 1, nameIndex := 75, descriptorIndex := 76, attributes := #[] }, { accessFlags := 9, nameIndex := 77, descriptorIndex := 72, attributes := #[] }] 16433 23 #[] #[{ accessFlags := 16409, nameIndex := 5, descriptorIndex := 6, attributes := #[] }, { accessFlags := 16409, nameIndex := 9, descriptorIndex := 6, attributes := #[] }, { accessFlags := 16409, nameIndex := 12, descriptorIndex := 6, attributes := #[] }, { accessFlags := 18, nameIndex := 34, descriptorIndex := 35, attributes := #[] }, { accessFlags := 4122, nameIndex := 15, descriptorIndex := 16, attributes := #[] }])
  fields := #[{ name := "PENDING", type := (.object "com/example/quayside/quayside/model/OrderStatus"), accessFlags := 16409, slot := 0, constantValue := 0 }, { name := "READY_FOR_SHIPPING", type := (.object "com/example/quayside/quayside/model/OrderStatus"), accessFlags := 16409, slot := 1, constantValue := 0 }, { name := "SHIPPED", type := (.object "com/example/quayside/quayside/model/OrderStatus"), accessFlags := 16409, slot := 2, constantValue := 0 }, { name := "word", type := (.object "java/lang/String"), accessFlags := 18, slot := 3, constantValue := 0 }, { name := "$VALUES", type := (.array (.object "com/example/quayside/quayside/model/OrderStatus")), accessFlags := 4122, slot := 3, constantValue := 0 }]
  methods := #[k6m0, k6m1, k6m2]
  instanceTypes := #[(.object "java/lang/String"), .int, .int, (.object "java/lang/String")]
  staticTypes := #[(.object "com/example/quayside/quayside/model/OrderStatus"), (.object "com/example/quayside/quayside/model/OrderStatus"), (.object "com/example/quayside/quayside/model/OrderStatus"), (.array (.object "com/example/quayside/quayside/model/OrderStatus"))]
  resolved := Array.replicate 99 none
  statics := some 0 }

def pool7 : Array CpInfo := pool [(2, .class_ 4), (1, u "java/lang/CharSequence"), (42, .class_ 48), (0, u "java/lang/CharSequence$1CodePointIterator"), (10, .class_ 60), (0, u "java/lang/CharSequence$1CharIterator"), (5, .class_ 67), (0, u "java/lang/Object")] 63

/-- java/lang/CharSequence -/
def k7 : Class := { plain "java/lang/CharSequence" (some 0) with
  accessFlags := 1537
  interfaces := #[]
  cf := some (fileOf pool7 2 #[.nestMembers #[47, 59]] #[] 1537 66 #[] #[])
  fields := #[]
  methods := #[]
  instanceTypes := #[]
  staticTypes := #[]
  resolved := Array.replicate 131 none
  statics := none }

def pool8 : Array CpInfo := pool [(1, .class_ 2), (0, u "java/lang/constant/ConstantDesc"), (0, .class_ 4), (0, u "java/lang/Object")] 32

/-- java/lang/constant/ConstantDesc -/
def k8 : Class := { plain "java/lang/constant/ConstantDesc" (some 0) with
  accessFlags := 1537
  interfaces := #[]
  cf := some (fileOf pool8 1 #[] #[] 1537 3 #[] #[])
  fields := #[]
  methods := #[]
  instanceTypes := #[]
  staticTypes := #[]
  resolved := Array.replicate 37 none
  statics := none }

def pool9 : Array CpInfo := pool [(1, .methodref 2 3), (0, .class_ 4), (0, .nameAndType 5 6), (0, u "java/lang/Object"), (0, u "<init>"), (0, u "()V"), (2, .fieldref 10 11), (0, .class_ 12), (0, .nameAndType 13 14), (0, u "java/lang/String"), (0, u "value"), (0, u "[B"), (0, .fieldref 10 16), (0, .nameAndType 17 18), (0, u "coder"), (0, u "B"), (2, u "hash"), (0, u "I"), (2, u "hashIsZero"), (0, u "Z"), (0, .methodref 10 28), (0, .nameAndType 5 29), (0, u "([CIILjava/lang/Void;)V"), (8, .fieldref 10 39), (0, .nameAndType 40 26), (0, u "COMPACT_STRINGS"), (1, .class_ 44), (1, u "java/lang/StringUTF16"), (0, u "compress"), (1, .methodref 42 48), (0, .nameAndType 49 50), (0, u "coderFromArrayLen"), (0, u "([BI)B"), (56, .class_ 109), (1, u "java/lang/StringLatin1"), (67, .methodref 42 178), (0, .nameAndType 45 179), (0, u "([CII)[B"), (361, .methodref 107 542), (0, .nameAndType 543 544), (0, u "equals"), (0, u "([B[B)Z"), (28, u "(Ljava/lang/Object;)Z"), (1, .class_ 576), (0, u "java/lang/CharSequence"), (22, u "CASE_INSENSITIVE_ORDER"), (0, u "Ljava/util/Comparator;"), (409, u "([C)V"), (90, u "serialPersistentFields"), (0, u "[Ljava/io/ObjectStreamField;"), (0, .class_ 1104), (0, u "java/lang/String$CaseInsensitiveComparator"), (1, .class_ 1107), (0, u "java/io/Serializable"), (0, .class_ 1109), (0, u "java/lang/Comparable"), (0, .class_ 1111), (0, u "java/lang/constant/Constable"), (0, .class_ 1113), (0, u "java/lang/constant/ConstantDesc"), (2, u "serialVersionUID"), (0, u "J"), (3, u "REPL"), (0, u "C"), (2, u "LATIN1"), (1, u "UTF16")] 323

def k9m0 : Method := { name := "<init>", desc := "()V", sig := { parameters := [], returnType := none }, accessFlags := 1, code := none }
def k9c1 : Code := { maxStack := 5, maxLocals := 2, code := jdk_42_method_3_code, exceptionTable := #[], attributes := #[] }
def k9m1 : Method := { name := "<init>", desc := "([C)V", sig := { parameters := [(.array .char)], returnType := none }, accessFlags := 1, code := some k9c1 }
def k9c2 : Code := { maxStack := 2, maxLocals := 3, code := jdk_42_method_66_code, exceptionTable := #[], attributes := #[] }
def k9m2 : Method := { name := "equals", desc := "(Ljava/lang/Object;)Z", sig := { parameters := [(.object "java/lang/Object")], returnType := some .boolean }, accessFlags := 1, code := some k9c2 }
def k9c3 : Code := { maxStack := 4, maxLocals := 6, code := jdk_42_method_149_code, exceptionTable := #[], attributes := #[] }
def k9m3 : Method := { name := "<init>", desc := "([CIILjava/lang/Void;)V", sig := { parameters := [(.array .char), .int, .int, (.object "java/lang/Void")], returnType := none }, accessFlags := 2, code := some k9c3 }
/-- java/lang/String -/
def k9 : Class := { plain "java/lang/String" (some 0) with
  accessFlags := 49
  interfaces := #[4, 3, 7, 2, 8]
  cf := some (fileOf pool9 10 #[.nestMembers #[1103]] #[{ accessFlags := 1, nameIndex := 5, descriptorIndex := 6, attributes := #[] }, { accessFlags := 1, nameIndex := 5, descriptorIndex := 1010, attributes := #[] }, { accessFlags := 1, nameIndex := 543, descriptorIndex := 573, attributes := #[] }, { accessFlags := 2, nameIndex := 5, descriptorIndex := 29, attributes := #[] }] 49 2 #[1106, 1108, 575, 1110, 1112] #[{ accessFlags := 18, nameIndex := 13, descriptorIndex := 14, attributes := #[] }, { accessFlags := 18, nameIndex := 17, descriptorIndex := 18, attributes := #[] }, { accessFlags := 2, nameIndex := 21, descriptorIndex := 22, attributes := #[] }, { accessFlags := 2, nameIndex := 25, descriptorIndex := 26, attributes := #[] }, { accessFlags := 26, nameIndex := 1116, descriptorIndex := 1117, attributes := #[] }, { accessFlags := 24, nameIndex := 40, descriptorIndex := 26, attributes := #[] }, { accessFlags := 26, nameIndex := 1101, descriptorIndex := 1102, attributes := #[] }, { accessFlags := 26, nameIndex := 1121, descriptorIndex := 1122, attributes := #[] }, { accessFlags := 25, nameIndex := 599, descriptorIndex := 600, attributes := #[] }, { accessFlags := 24, nameIndex := 1125, descriptorIndex := 18, attributes := #[] }, { accessFlags := 24, nameIndex := 1127, descriptorIndex := 18, attributes := #[] }])
  fields := #[{ name := "value", type := (.array .byte), accessFlags := 18, slot := 0, constantValue := 0 }, { name := "coder", type := .byte, accessFlags := 18, slot := 1, constantValue := 0 }, { name := "hash", type := .int, accessFlags := 2, slot := 2, constantValue := 0 }, { name := "hashIsZero", type := .boolean, accessFlags := 2, slot := 3, constantValue := 0 }, { name := "serialVersionUID", type := .long, accessFlags := 26, slot := 0, constantValue := 0 }, { name := "COMPACT_STRINGS", type := .boolean, accessFlags := 24, slot := 1, constantValue := 0 }, { name := "serialPersistentFields", type := (.array (.object "java/io/ObjectStreamField")), accessFlags := 26, slot := 2, constantValue := 0 }, { name := "REPL", type := .char, accessFlags := 26, slot := 3, constantValue := 0 }, { name := "CASE_INSENSITIVE_ORDER", type := (.object "java/util/Comparator"), accessFlags := 25, slot := 4, constantValue := 0 }, { name := "LATIN1", type := .byte, accessFlags := 24, slot := 5, constantValue := 0 }, { name := "UTF16", type := .byte, accessFlags := 24, slot := 6, constantValue := 0 }]
  methods := #[k9m0, k9m1, k9m2, k9m3]
  instanceTypes := #[(.array .byte), .byte, .int, .boolean]
  staticTypes := #[.long, .boolean, (.array (.object "java/io/ObjectStreamField")), .char, (.object "java/util/Comparator"), .byte, .byte]
  resolved := Array.replicate 1451 none
  statics := some 1 }

def pool10 : Array CpInfo := pool [(6, .class_ 8), (1, u "java/lang/Object"), (0, u "<init>"), (0, u "()V"), (1, .class_ 14), (1, u "java/lang/StringUTF16"), (31, u "$assertionsDisabled"), (0, u "Z"), (13, u "HI_BYTE_SHIFT"), (0, u "I"), (2, u "LO_BYTE_SHIFT"), (49, .methodref 12 116), (0, .nameAndType 117 118), (0, u "compress"), (0, u "([CI[BII)I"), (3, u "([CII)[B"), (138, u "coderFromArrayLen"), (0, u "([BI)B"), (106, .class_ 371), (1, u "java/lang/StringUTF16$LinesSpliterator"), (58, u "MAX_LENGTH"), (196, .class_ 628), (0, u "java/lang/StringUTF16$CodePointsSpliterator"), (0, .class_ 630), (0, u "java/lang/StringUTF16$CharsSpliterator")] 4

def k10m0 : Method := { name := "<init>", desc := "()V", sig := { parameters := [], returnType := none }, accessFlags := 0, code := none }
def k10c1 : Code := { maxStack := 2, maxLocals := 2, code := jdk_52_method_15_code, exceptionTable := #[], attributes := #[] }
def k10m1 : Method := { name := "coderFromArrayLen", desc := "([BI)B", sig := { parameters := [(.array .byte), .int], returnType := some .byte }, accessFlags := 8, code := some k10c1 }
def k10c2 : Code := { maxStack := 5, maxLocals := 6, code := jdk_52_method_16_code, exceptionTable := #[], attributes := #[] }
def k10m2 : Method := { name := "compress", desc := "([CII)[B", sig := { parameters := [(.array .char), .int, .int], returnType := some (.array .byte) }, accessFlags := 9, code := some k10c2 }
def k10c3 : Code := { maxStack := 3, maxLocals := 7, code := jdk_52_method_21_code, exceptionTable := #[], attributes := #[] }
def k10m3 : Method := { name := "compress", desc := "([CI[BII)I", sig := { parameters := [(.array .char), .int, (.array .byte), .int, .int], returnType := some .int }, accessFlags := 9, code := some k10c3 }
/-- java/lang/StringUTF16 -/
def k10 : Class := { plain "java/lang/StringUTF16" (some 0) with
  accessFlags := 48
  interfaces := #[]
  cf := some (fileOf pool10 12 #[.nestMembers #[627, 629, 369]] #[{ accessFlags := 0, nameIndex := 9, descriptorIndex := 10, attributes := #[] }, { accessFlags := 8, nameIndex := 261, descriptorIndex := 262, attributes := #[] }, { accessFlags := 9, nameIndex := 117, descriptorIndex := 122, attributes := #[] }, { accessFlags := 9, nameIndex := 117, descriptorIndex := 118, attributes := #[] }] 48 6 #[] #[{ accessFlags := 26, nameIndex := 61, descriptorIndex := 62, attributes := #[] }, { accessFlags := 26, nameIndex := 65, descriptorIndex := 62, attributes := #[] }, { accessFlags := 24, nameIndex := 430, descriptorIndex := 62, attributes := #[] }, { accessFlags := 4120, nameIndex := 46, descriptorIndex := 47, attributes := #[] }])
  fields := #[{ name := "HI_BYTE_SHIFT", type := .int, accessFlags := 26, slot := 0, constantValue := 0 }, { name := "LO_BYTE_SHIFT", type := .int, accessFlags := 26, slot := 1, constantValue := 0 }, { name := "MAX_LENGTH", type := .int, accessFlags := 24, slot := 2, constantValue := 0 }, { name := "$assertionsDisabled", type := .boolean, accessFlags := 4120, slot := 3, constantValue := 0 }]
  methods := #[k10m0, k10m1, k10m2, k10m3]
  instanceTypes := #[]
  staticTypes := #[.int, .int, .int, .boolean]
  resolved := Array.replicate 635 none
  statics := none }

def pool11 : Array CpInfo := pool [(1, .class_ 2), (0, u "java/lang/Cloneable"), (0, .class_ 4), (0, u "java/lang/Object")] 2

/-- java/lang/Cloneable -/
def k11 : Class := { plain "java/lang/Cloneable" (some 0) with
  accessFlags := 1537
  interfaces := #[]
  cf := some (fileOf pool11 1 #[] #[] 1537 3 #[] #[])
  fields := #[]
  methods := #[]
  instanceTypes := #[]
  staticTypes := #[]
  resolved := Array.replicate 7 none
  statics := none }

def pool12 : Array CpInfo := pool [(4, .class_ 6), (1, u "java/lang/Object"), (0, u "<init>"), (0, u "()V"), (5, .class_ 16), (1, u "java/lang/StringLatin1"), (104, u "$assertionsDisabled"), (0, u "Z"), (98, .class_ 223), (1, u "java/lang/StringLatin1$LinesSpliterator"), (57, u "equals"), (0, u "([B[B)Z"), (107, .class_ 391), (0, u "java/lang/StringLatin1$CharsSpliterator")] 3

def k12m0 : Method := { name := "<init>", desc := "()V", sig := { parameters := [], returnType := none }, accessFlags := 0, code := none }
def k12c1 : Code := { maxStack := 3, maxLocals := 3, code := jdk_43_method_13_code, exceptionTable := #[], attributes := #[] }
def k12m1 : Method := { name := "equals", desc := "([B[B)Z", sig := { parameters := [(.array .byte), (.array .byte)], returnType := some .boolean }, accessFlags := 9, code := some k12c1 }
/-- java/lang/StringLatin1 -/
def k12 : Class := { plain "java/lang/StringLatin1" (some 0) with
  accessFlags := 48
  interfaces := #[]
  cf := some (fileOf pool12 14 #[.nestMembers #[390, 221]] #[{ accessFlags := 0, nameIndex := 7, descriptorIndex := 8, attributes := #[] }, { accessFlags := 9, nameIndex := 281, descriptorIndex := 282, attributes := #[] }] 48 4 #[] #[{ accessFlags := 4120, nameIndex := 121, descriptorIndex := 122, attributes := #[] }])
  fields := #[{ name := "$assertionsDisabled", type := .boolean, accessFlags := 4120, slot := 0, constantValue := 0 }]
  methods := #[k12m0, k12m1]
  instanceTypes := #[]
  staticTypes := #[.boolean]
  resolved := Array.replicate 395 none
  statics := none }

def pool13 : Array CpInfo := pool [(2, .class_ 4), (1, u "java/lang/Object"), (0, u "<init>"), (0, u "()V"), (17, .class_ 26), (1, u "jdk/internal/util/Preconditions"), (28, .class_ 56), (0, u "jdk/internal/util/Preconditions$4"), (57, .class_ 115), (0, u "jdk/internal/util/Preconditions$1"), (7, u "SIOOBE_FORMATTER"), (0, u "Ljava/util/function/BiFunction;"), (0, .class_ 126), (0, u "jdk/internal/util/Preconditions$2"), (3, u "AIOOBE_FORMATTER"), (0, .class_ 132), (0, u "jdk/internal/util/Preconditions$3"), (3, u "IOOBE_FORMATTER")] 57

def k13m0 : Method := { name := "<init>", desc := "()V", sig := { parameters := [], returnType := none }, accessFlags := 1, code := none }
/-- jdk/internal/util/Preconditions -/
def k13 : Class := { plain "jdk/internal/util/Preconditions" (some 0) with
  accessFlags := 33
  interfaces := #[]
  cf := some (fileOf pool13 24 #[.nestMembers #[55, 131, 125, 114]] #[{ accessFlags := 1, nameIndex := 5, descriptorIndex := 6, attributes := #[] }] 33 2 #[] #[{ accessFlags := 25, nameIndex := 123, descriptorIndex := 124, attributes := #[] }, { accessFlags := 25, nameIndex := 130, descriptorIndex := 124, attributes := #[] }, { accessFlags := 25, nameIndex := 136, descriptorIndex := 124, attributes := #[] }])
  fields := #[{ name := "SIOOBE_FORMATTER", type := (.object "java/util/function/BiFunction"), accessFlags := 25, slot := 0, constantValue := 0 }, { name := "AIOOBE_FORMATTER", type := (.object "java/util/function/BiFunction"), accessFlags := 25, slot := 1, constantValue := 0 }, { name := "IOOBE_FORMATTER", type := (.object "java/util/function/BiFunction"), accessFlags := 25, slot := 2, constantValue := 0 }]
  methods := #[k13m0]
  instanceTypes := #[]
  staticTypes := #[(.object "java/util/function/BiFunction"), (.object "java/util/function/BiFunction"), (.object "java/util/function/BiFunction")]
  resolved := Array.replicate 194 none
  statics := some 2 }

def pool14 : Array CpInfo := pool [(9, u "<init>"), (6, .class_ 18), (1, u "java/lang/Object"), (0, u "()V"), (1, .class_ 23), (1, u "jdk/internal/util/ArraysSupport"), (0, u "LOG2_ARRAY_LONG_INDEX_SCALE"), (0, u "I"), (2, u "U"), (0, u "Ljdk/internal/misc/Unsafe;"), (8, u "BIG_ENDIAN"), (0, u "Z"), (8, u "LOG2_BYTE_BIT_SIZE"), (4, u "LOG2_ARRAY_INT_INDEX_SCALE"), (54, u "JLA"), (0, u "Ljdk/internal/access/JavaLangAccess;"), (11, u "LOG2_ARRAY_BOOLEAN_INDEX_SCALE"), (9, u "LOG2_ARRAY_BYTE_INDEX_SCALE"), (5, u "LOG2_ARRAY_CHAR_INDEX_SCALE"), (5, u "LOG2_ARRAY_SHORT_INDEX_SCALE"), (18, u "LOG2_ARRAY_FLOAT_INDEX_SCALE"), (24, u "LOG2_ARRAY_DOUBLE_INDEX_SCALE"), (89, u "T_BOOLEAN"), (2, u "T_CHAR"), (1, u "T_FLOAT"), (1, u "T_DOUBLE"), (1, u "T_BYTE"), (1, u "T_SHORT"), (1, u "T_INT"), (1, u "T_LONG"), (1, u "SOFT_MAX_ARRAY_LENGTH")] 83

def k14m0 : Method := { name := "<init>", desc := "()V", sig := { parameters := [], returnType := none }, accessFlags := 2, code := none }
/-- jdk/internal/util/ArraysSupport -/
def k14 : Class := { plain "jdk/internal/util/ArraysSupport" (some 0) with
  accessFlags := 33
  interfaces := #[]
  cf := some (fileOf pool14 21 #[] #[{ accessFlags := 2, nameIndex := 9, descriptorIndex := 19, attributes := #[] }] 33 16 #[] #[{ accessFlags := 24, nameIndex := 28, descriptorIndex := 29, attributes := #[] }, { accessFlags := 26, nameIndex := 38, descriptorIndex := 39, attributes := #[] }, { accessFlags := 25, nameIndex := 121, descriptorIndex := 25, attributes := #[] }, { accessFlags := 25, nameIndex := 131, descriptorIndex := 25, attributes := #[] }, { accessFlags := 25, nameIndex := 137, descriptorIndex := 25, attributes := #[] }, { accessFlags := 25, nameIndex := 143, descriptorIndex := 25, attributes := #[] }, { accessFlags := 25, nameIndex := 53, descriptorIndex := 25, attributes := #[] }, { accessFlags := 25, nameIndex := 24, descriptorIndex := 25, attributes := #[] }, { accessFlags := 25, nameIndex := 162, descriptorIndex := 25, attributes := #[] }, { accessFlags := 25, nameIndex := 187, descriptorIndex := 25, attributes := #[] }, { accessFlags := 26, nameIndex := 48, descriptorIndex := 25, attributes := #[] }, { accessFlags := 25, nameIndex := 277, descriptorIndex := 25, attributes := #[] }, { accessFlags := 25, nameIndex := 280, descriptorIndex := 25, attributes := #[] }, { accessFlags := 25, nameIndex := 282, descriptorIndex := 25, attributes := #[] }, { accessFlags := 25, nameIndex := 284, descriptorIndex := 25, attributes := #[] }, { accessFlags := 25, nameIndex := 286, descriptorIndex := 25, attributes := #[] }, { accessFlags := 25, nameIndex := 288, descriptorIndex := 25, attributes := #[] }, { accessFlags := 25, nameIndex := 290, descriptorIndex := 25, attributes := #[] }, { accessFlags := 25, nameIndex := 292, descriptorIndex := 25, attributes := #[] }, { accessFlags := 26, nameIndex := 108, descriptorIndex := 109, attributes := #[] }, { accessFlags := 25, nameIndex := 294, descriptorIndex := 25, attributes := #[] }])
  fields := #[{ name := "U", type := (.object "jdk/internal/misc/Unsafe"), accessFlags := 24, slot := 0, constantValue := 0 }, { name := "BIG_ENDIAN", type := .boolean, accessFlags := 26, slot := 1, constantValue := 0 }, { name := "LOG2_ARRAY_BOOLEAN_INDEX_SCALE", type := .int, accessFlags := 25, slot := 2, constantValue := 0 }, { name := "LOG2_ARRAY_BYTE_INDEX_SCALE", type := .int, accessFlags := 25, slot := 3, constantValue := 0 }, { name := "LOG2_ARRAY_CHAR_INDEX_SCALE", type := .int, accessFlags := 25, slot := 4, constantValue := 0 }, { name := "LOG2_ARRAY_SHORT_INDEX_SCALE", type := .int, accessFlags := 25, slot := 5, constantValue := 0 }, { name := "LOG2_ARRAY_INT_INDEX_SCALE", type := .int, accessFlags := 25, slot := 6, constantValue := 0 }, { name := "LOG2_ARRAY_LONG_INDEX_SCALE", type := .int, accessFlags := 25, slot := 7, constantValue := 0 }, { name := "LOG2_ARRAY_FLOAT_INDEX_SCALE", type := .int, accessFlags := 25, slot := 8, constantValue := 0 }, { name := "LOG2_ARRAY_DOUBLE_INDEX_SCALE", type := .int, accessFlags := 25, slot := 9, constantValue := 0 }, { name := "LOG2_BYTE_BIT_SIZE", type := .int, accessFlags := 26, slot := 10, constantValue := 0 }, { name := "T_BOOLEAN", type := .int, accessFlags := 25, slot := 11, constantValue := 0 }, { name := "T_CHAR", type := .int, accessFlags := 25, slot := 12, constantValue := 0 }, { name := "T_FLOAT", type := .int, accessFlags := 25, slot := 13, constantValue := 0 }, { name := "T_DOUBLE", type := .int, accessFlags := 25, slot := 14, constantValue := 0 }, { name := "T_BYTE", type := .int, accessFlags := 25, slot := 15, constantValue := 0 }, { name := "T_SHORT", type := .int, accessFlags := 25, slot := 16, constantValue := 0 }, { name := "T_INT", type := .int, accessFlags := 25, slot := 17, constantValue := 0 }, { name := "T_LONG", type := .int, accessFlags := 25, slot := 18, constantValue := 0 }, { name := "JLA", type := (.object "jdk/internal/access/JavaLangAccess"), accessFlags := 26, slot := 19, constantValue := 0 }, { name := "SOFT_MAX_ARRAY_LENGTH", type := .int, accessFlags := 25, slot := 20, constantValue := 0 }]
  methods := #[k14m0]
  instanceTypes := #[]
  staticTypes := #[(.object "jdk/internal/misc/Unsafe"), .boolean, .int, .int, .int, .int, .int, .int, .int, .int, .int, .int, .int, .int, .int, .int, .int, .int, .int, (.object "jdk/internal/access/JavaLangAccess"), .int]
  resolved := Array.replicate 378 none
  statics := none }

/-- the primitive byte -/
def k15 : Class := { plain "byte" none with kind := .primitive 'B', accessFlags := 0x411 }
/-- [B -/
def k16 : Class := { plain "[B" (some 0) with kind := .array 15 .byte, interfaces := #[11, 4], accessFlags := 1041 }

/-- the primitive char -/
def k17 : Class := { plain "char" none with kind := .primitive 'C', accessFlags := 0x411 }
/-- [C -/
def k18 : Class := { plain "[C" (some 0) with kind := .array 17 .char, interfaces := #[11, 4], accessFlags := 1041 }

/-- the primitive int -/
def k19 : Class := { plain "int" none with kind := .primitive 'I', accessFlags := 0x411 }
/-- [I -/
def k20 : Class := { plain "[I" (some 0) with kind := .array 19 .int, interfaces := #[11, 4], accessFlags := 1041 }

/-- [Lcom/example/quayside/quayside/model/OrderStatus; -/
def k21 : Class := { plain "[Lcom/example/quayside/quayside/model/OrderStatus;" (some 0) with kind := .array 6 (.object "com/example/quayside/quayside/model/OrderStatus"), interfaces := #[11, 4], accessFlags := 1041 }

def heap : Heap := #[{ cls := 6, slots := #[.ref 4, .ref 5, .ref 6, .ref 3], vm := .statics 6 },
  { cls := 9, slots := #[.long 0, .int 1, .null, .int 0, .null, .int 0, .int 0], vm := .statics 9 },
  { cls := 13, slots := #[.null, .null, .null], vm := .statics 13 },
  { cls := 21, slots := #[.ref 4, .ref 5, .ref 6], vm := .none },
  { cls := 6, slots := #[.null, .int 0, .int 0, .ref 7], vm := .none },
  { cls := 6, slots := #[.null, .int 0, .int 0, .ref 8], vm := .none },
  { cls := 6, slots := #[.null, .int 0, .int 0, .ref 9], vm := .none },
  { cls := 9, slots := #[.ref 10, .int 0, .int 0, .int 0], vm := .none },
  { cls := 9, slots := #[.ref 11, .int 0, .int 0, .int 0], vm := .none },
  { cls := 9, slots := #[.ref 12, .int 0, .int 0, .int 0], vm := .none },
  { cls := 16, slots := #[.int 80, .int 101, .int 110, .int 100, .int 105, .int 110, .int 103], vm := .none },
  { cls := 16, slots := #[.int 82, .int 101, .int 97, .int 100, .int 121, .int 32, .int 102, .int 111, .int 114, .int 32, .int 83, .int 104, .int 105, .int 112, .int 112, .int 105, .int 110, .int 103], vm := .none },
  { cls := 16, slots := #[.int 83, .int 104, .int 105, .int 112, .int 112, .int 101, .int 100], vm := .none }]
def classes : Array Class := #[k0, k1, k2, k3, k4, k5, k6, k7, k8, k9, k10, k11, k12, k13, k14, k15, k16, k17, k18, k19, k20, k21]
def interned : List (Array UInt16 × Addr) := []
def slotsUsed : Nat := 73
def theMethod : MethodId := ⟨1, 1⟩
def args0 : Array Value := #[.int 1]
def aboutOver (below : List Frame) : State where
  vm := { classes := classes, interned := interned.toArray }
  heap := heap
  slotsUsed := slotsUsed
  threads := #[{ frames := .invoking theMethod args0 :: below }]
def below0 : List Frame := [.native { method := ⟨0, 0⟩, args := #[] }]
def about1 : State := aboutOver below0
def p0 : Program := .bare "" "" ""
def e0 : Env := launch0.env 0 0 0
theorem w_frames : about1.frames = Frame.invoking theMethod args0 :: below0 := rfl
set_option maxRecDepth 65536 in
theorem w_args : argsFit about1.vm theMethod args0 = true := by decide +kernel
set_option maxRecDepth 65536 in
theorem w_heap : heapFits about1 = true := by decide +kernel
set_option maxRecDepth 65536 in
theorem w_runnable : about1.curStatus? = some .runnable := by decide +kernel
set_option maxRecDepth 65536 in
theorem w_alone : about1.alone = true := by decide +kernel
set_option maxRecDepth 65536 in
theorem w_named : about1.methodNamed? x = some theMethod := by decide +kernel
set_option maxRecDepth 65536 in
theorem w_hears : about1.hears theMethod below0 = true := by decide +kernel
set_option maxRecDepth 65536 in
theorem w_ripe : about1.ripe theMethod args0 below0 = true := by decide +kernel
theorem w_running : about1.status = .running := rfl
set_option maxRecDepth 65536 in
theorem w_room : about1.hasRoom e0.platform room_1 = true :=
  launch0.hasRoom_least _ room_1 (by decide +kernel) (by decide +kernel) (by decide +kernel) (by decide +kernel) (by decide +kernel) (by decide +kernel)
theorem allAtoms_all (ts : List Jvm.Cond) (a : Array Jvm.Value) (st : Jvm.State) : (allAtoms ts).before a st = ts.all (fun c => c.before a st) := by
  induction ts with
  | nil => rfl
  | cons c t ih =>
    show (Jvm.Cond.and c (allAtoms t)).before a st = _
    rw [Jvm.Cond.before_and, ih, List.all_cons]
def words1 : List Jvm.Cond := Jvm.Cond.code x code maxLocals ret :: tables_1
/-- a 'code' word, met by the world's own term for the bytes: nothing is compared byte by byte -/
theorem code_word {y : MethodName} {bytes : ByteArray} {mx : Nat} {rt : Option FieldType} {a : Array Value} {s : State} {m : MethodId} {meth : Method} {c : Code} (h1 : s.methodNamed? y = some m) (h2 : s.vm.method? m = some meth) (h3 : meth.code = some c) (h4 : c.code = bytes)
    (h5 : (c.maxLocals == mx && c.exceptionTable.isEmpty && decide (c.maxStack ≤ mostOperands) && decide (meth.sig.returnType = rt) && !meth.locks && decide (parseMethodDescriptor y.desc = some meth.sig)) = true) : (Jvm.Cond.code y bytes mx rt).before a s = true := by
  simp only [Bool.and_eq_true, beq_iff_eq, Bool.not_eq_true', decide_eq_true_eq] at h5
  obtain ⟨⟨⟨⟨⟨g1, g2⟩, g3⟩, g4⟩, g5⟩, g6⟩ := h5
  simp [Cond.before, Cond.holds, Cond.value, h1, h2, h3, h4, g1, g2, g3, g4, g5, g6]
def isCode : Jvm.Cond → Bool
  | .code _ _ _ _ => true
  | _ => false
theorem all_split {L : List Jvm.Cond} {P : Jvm.Cond → Bool} (h1 : L.all (fun c => isCode c || P c) = true) (h2 : ∀ c ∈ L.filter isCode, P c = true) : L.all P = true := by
  refine List.all_eq_true.mpr fun c hc => ?_
  have h := List.all_eq_true.mp h1 c hc
  rcases Bool.eq_false_or_eq_true (isCode c) with hi | hi
  · exact h2 c (List.mem_filter.mpr ⟨hc, hi⟩)
  · simpa [hi] using h
set_option maxRecDepth 65536 in
theorem w_c0 : (Jvm.Cond.code x code maxLocals ret).before args0 about1 = true := code_word (m := ⟨1, 1⟩) (meth := k1m1) (c := k1c1) (by decide +kernel) rfl rfl rfl (by decide +kernel)
set_option maxRecDepth 65536 in
theorem w_c1 : (Jvm.Cond.code ({ cls := "java/lang/String", name := "<init>", desc := "([C)V" } : Jvm.MethodName) jdk_42_method_3_code (2 : Nat) (Option.none : Option Jvm.ClassFile.FieldType)).before args0 about1 = true := code_word (m := ⟨9, 1⟩) (meth := k9m1) (c := k9c1) (by decide +kernel) rfl rfl rfl (by decide +kernel)
set_option maxRecDepth 65536 in
theorem w_c2 : (Jvm.Cond.code ({ cls := "java/lang/String", name := "<init>", desc := "([CIILjava/lang/Void;)V" } : Jvm.MethodName) jdk_42_method_149_code (6 : Nat) (Option.none : Option Jvm.ClassFile.FieldType)).before args0 about1 = true := code_word (m := ⟨9, 3⟩) (meth := k9m3) (c := k9c3) (by decide +kernel) rfl rfl rfl (by decide +kernel)
set_option maxRecDepth 65536 in
theorem w_c3 : (Jvm.Cond.code ({ cls := "java/lang/Object", name := "<init>", desc := "()V" } : Jvm.MethodName) object_method_1_code (1 : Nat) (Option.none : Option Jvm.ClassFile.FieldType)).before args0 about1 = true := code_word (m := ⟨0, 0⟩) (meth := k0m0) (c := k0c0) (by decide +kernel) rfl rfl rfl (by decide +kernel)
set_option maxRecDepth 65536 in
theorem w_c4 : (Jvm.Cond.code ({ cls := "java/lang/StringUTF16", name := "compress", desc := "([CII)[B" } : Jvm.MethodName) jdk_52_method_16_code (6 : Nat) (Option.some (Jvm.ClassFile.FieldType.array Jvm.ClassFile.FieldType.byte))).before args0 about1 = true := code_word (m := ⟨10, 2⟩) (meth := k10m2) (c := k10c2) (by decide +kernel) rfl rfl rfl (by decide +kernel)
set_option maxRecDepth 65536 in
theorem w_c5 : (Jvm.Cond.code ({ cls := "java/lang/StringUTF16", name := "compress", desc := "([CI[BII)I" } : Jvm.MethodName) jdk_52_method_21_code (7 : Nat) (Option.some Jvm.ClassFile.FieldType.int)).before args0 about1 = true := code_word (m := ⟨10, 3⟩) (meth := k10m3) (c := k10c3) (by decide +kernel) rfl rfl rfl (by decide +kernel)
set_option maxRecDepth 65536 in
theorem w_c6 : (Jvm.Cond.code ({ cls := "java/lang/StringUTF16", name := "coderFromArrayLen", desc := "([BI)B" } : Jvm.MethodName) jdk_52_method_15_code (2 : Nat) (Option.some Jvm.ClassFile.FieldType.byte)).before args0 about1 = true := code_word (m := ⟨10, 1⟩) (meth := k10m1) (c := k10c1) (by decide +kernel) rfl rfl rfl (by decide +kernel)
set_option maxRecDepth 65536 in
theorem w_c7 : (Jvm.Cond.code ({ cls := "com/example/quayside/quayside/model/OrderStatus", name := "ofWord", desc := "(Ljava/lang/String;)Lcom/example/quayside/quayside/model/OrderStatus;" } : Jvm.MethodName) prog_22_method_5_code (5 : Nat) (Option.some (Jvm.ClassFile.FieldType.object "com/example/quayside/quayside/model/OrderStatus"))).before args0 about1 = true := code_word (m := ⟨6, 2⟩) (meth := k6m2) (c := k6c2) (by decide +kernel) rfl rfl rfl (by decide +kernel)
set_option maxRecDepth 65536 in
theorem w_c8 : (Jvm.Cond.code ({ cls := "com/example/quayside/quayside/model/OrderStatus", name := "values", desc := "()[Lcom/example/quayside/quayside/model/OrderStatus;" } : Jvm.MethodName) prog_22_method_1_code (0 : Nat) (Option.some (Jvm.ClassFile.FieldType.array (Jvm.ClassFile.FieldType.object "com/example/quayside/quayside/model/OrderStatus")))).before args0 about1 = true := code_word (m := ⟨6, 0⟩) (meth := k6m0) (c := k6c0) (by decide +kernel) rfl rfl rfl (by decide +kernel)
set_option maxRecDepth 65536 in
theorem w_c9 : (Jvm.Cond.code ({ cls := "java/lang/String", name := "equals", desc := "(Ljava/lang/Object;)Z" } : Jvm.MethodName) jdk_42_method_66_code (3 : Nat) (Option.some Jvm.ClassFile.FieldType.boolean)).before args0 about1 = true := code_word (m := ⟨9, 2⟩) (meth := k9m2) (c := k9c2) (by decide +kernel) rfl rfl rfl (by decide +kernel)
set_option maxRecDepth 65536 in
theorem w_c10 : (Jvm.Cond.code ({ cls := "java/lang/StringLatin1", name := "equals", desc := "([B[B)Z" } : Jvm.MethodName) jdk_43_method_13_code (3 : Nat) (Option.some Jvm.ClassFile.FieldType.boolean)).before args0 about1 = true := code_word (m := ⟨12, 1⟩) (meth := k12m1) (c := k12c1) (by decide +kernel) rfl rfl rfl (by decide +kernel)
set_option maxRecDepth 65536 in
theorem w_c11 : (Jvm.Cond.code ({ cls := "com/example/quayside/quayside/model/OrderStatus", name := "getWord", desc := "()Ljava/lang/String;" } : Jvm.MethodName) prog_22_method_4_code (1 : Nat) (Option.some (Jvm.ClassFile.FieldType.object "java/lang/String"))).before args0 about1 = true := code_word (m := ⟨6, 1⟩) (meth := k6m1) (c := k6c1) (by decide +kernel) rfl rfl rfl (by decide +kernel)
def codes1 : List Jvm.Cond := [Jvm.Cond.code x code maxLocals ret, Jvm.Cond.code ({ cls := "java/lang/String", name := "<init>", desc := "([C)V" } : Jvm.MethodName) jdk_42_method_3_code (2 : Nat) (Option.none : Option Jvm.ClassFile.FieldType), Jvm.Cond.code ({ cls := "java/lang/String", name := "<init>", desc := "([CIILjava/lang/Void;)V" } : Jvm.MethodName) jdk_42_method_149_code (6 : Nat) (Option.none : Option Jvm.ClassFile.FieldType), Jvm.Cond.code ({ cls := "java/lang/Object", name := "<init>", desc := "()V" } : Jvm.MethodName) object_method_1_code (1 : Nat) (Option.none : Option Jvm.ClassFile.FieldType), Jvm.Cond.code ({ cls := "java/lang/StringUTF16", name := "compress", desc := "([CII)[B" } : Jvm.MethodName) jdk_52_method_16_code (6 : Nat) (Option.some (Jvm.ClassFile.FieldType.array Jvm.ClassFile.FieldType.byte)), Jvm.Cond.code ({ cls := "java/lang/StringUTF16", name := "compress", desc := "([CI[BII)I" } : Jvm.MethodName) jdk_52_method_21_code (7 : Nat) (Option.some Jvm.ClassFile.FieldType.int), Jvm.Cond.code ({ cls := "java/lang/StringUTF16", name := "coderFromArrayLen", desc := "([BI)B" } : Jvm.MethodName) jdk_52_method_15_code (2 : Nat) (Option.some Jvm.ClassFile.FieldType.byte), Jvm.Cond.code ({ cls := "com/example/quayside/quayside/model/OrderStatus", name := "ofWord", desc := "(Ljava/lang/String;)Lcom/example/quayside/quayside/model/OrderStatus;" } : Jvm.MethodName) prog_22_method_5_code (5 : Nat) (Option.some (Jvm.ClassFile.FieldType.object "com/example/quayside/quayside/model/OrderStatus")), Jvm.Cond.code ({ cls := "com/example/quayside/quayside/model/OrderStatus", name := "values", desc := "()[Lcom/example/quayside/quayside/model/OrderStatus;" } : Jvm.MethodName) prog_22_method_1_code (0 : Nat) (Option.some (Jvm.ClassFile.FieldType.array (Jvm.ClassFile.FieldType.object "com/example/quayside/quayside/model/OrderStatus"))), Jvm.Cond.code ({ cls := "java/lang/String", name := "equals", desc := "(Ljava/lang/Object;)Z" } : Jvm.MethodName) jdk_42_method_66_code (3 : Nat) (Option.some Jvm.ClassFile.FieldType.boolean), Jvm.Cond.code ({ cls := "java/lang/StringLatin1", name := "equals", desc := "([B[B)Z" } : Jvm.MethodName) jdk_43_method_13_code (3 : Nat) (Option.some Jvm.ClassFile.FieldType.boolean), Jvm.Cond.code ({ cls := "com/example/quayside/quayside/model/OrderStatus", name := "getWord", desc := "()Ljava/lang/String;" } : Jvm.MethodName) prog_22_method_4_code (1 : Nat) (Option.some (Jvm.ClassFile.FieldType.object "java/lang/String"))]
set_option maxRecDepth 65536 in
theorem codes_eq : words1.filter isCode = codes1 := rfl
theorem w_codes : ∀ c ∈ words1.filter isCode, c.before args0 about1 = true := by
  rw [codes_eq]
  intro c hc
  simp only [codes1, List.mem_cons, List.not_mem_nil, or_false] at hc
  rcases hc with rfl | rfl | rfl | rfl | rfl | rfl | rfl | rfl | rfl | rfl | rfl | rfl
  · exact w_c0
  · exact w_c1
  · exact w_c2
  · exact w_c3
  · exact w_c4
  · exact w_c5
  · exact w_c6
  · exact w_c7
  · exact w_c8
  · exact w_c9
  · exact w_c10
  · exact w_c11
set_option maxRecDepth 65536 in
theorem w_t1 : (words1.take 24).all (fun c => isCode c || c.before args0 about1) = true := by decide +kernel
set_option maxRecDepth 65536 in
theorem w_t2 : ((words1.drop 24).take 24).all (fun c => isCode c || c.before args0 about1) = true := by decide +kernel
set_option maxRecDepth 65536 in
theorem w_t3 : (((words1.drop 24).drop 24).take 24).all (fun c => isCode c || c.before args0 about1) = true := by decide +kernel
set_option maxRecDepth 65536 in
theorem w_t4 : (((words1.drop 24).drop 24).drop 24).all (fun c => isCode c || c.before args0 about1) = true := by decide +kernel
theorem w_tables : (allAtoms (Jvm.Cond.code x code maxLocals ret :: tables_1)).before args0 about1 = true := by
  rw [allAtoms_all]
  show words1.all (fun c => c.before args0 about1) = true
  refine all_split ?_ w_codes
  rw [← List.take_append_drop 24 words1, List.all_append, w_t1, ← List.take_append_drop 24 (words1.drop 24), List.all_append, w_t2, ← List.take_append_drop 24 ((words1.drop 24).drop 24), List.all_append, w_t3, w_t4]
  rfl
set_option maxRecDepth 65536 in
theorem w_rest : rest_1_c.before args0 about1 = true := by decide +kernel
set_option maxRecDepth 65536 in
theorem w_case : (Jvm.Cond.and given_1 narrow_1).before args0 about1 = true := by decide +kernel
theorem w_applies : (headSpec (Jvm.Cond.code x code maxLocals ret :: tables_1) room_1).applies x e0.platform about1 = true :=
  (Spec.applies_iff w_frames).mpr ⟨w_running, w_runnable, w_alone, w_named, w_hears, w_ripe, w_room, w_tables⟩
theorem atStart : AtStart classFile x code maxLocals ret World_1 tables_1 room_1 Calls_1 rest_1 Pre_1 launch0 p0 e0 about1 theMethod args0 below0 :=
  ⟨lists_1, trivial, launch0.admits_env _ _ _, launch0.least_env, fairChoices_fair.cas, fairChoices_fair.clock, w_frames, w_args, w_heap, w_applies, trivial, w_rest, w_case⟩
end start1
theorem witness_1 : WitnessClaimed_1 := ⟨start1.p0, start1.e0, start1.about1, start1.theMethod, start1.args0, start1.below0, start1.atStart⟩
end Jvm.Pilot.@@N@@
