import JvmDerived
import JvmDerived.Pilot.@@N@@Statement
import JvmDerived.Pilot.@@N@@Code
set_option linter.unusedVariables false
set_option linter.unusedSimpArgs false
namespace Jvm.RoadKit
open Sem ClassFile Op Lib Jvm.Stand Jvm.Free Jvm.LawKit
section New
variable {p : Program} {l : Launch} {e : Env} {R : Room} {s : State} {m : MethodId} {args : Array Value} {below : List Frame} {meth : Method} {c : Code} {T : State} {locs : List Loc} {cells slots : Nat}
theorem retI (X : Stand p l e R s m args below meth c T locs cells slots) (hx : p.tables.exec = Jvm.exec) {pc : Nat} {Ls : Array Slot} {z : Int32} {rest : List Value} (hret : meth.sig.returnType = some .int) (hd : decode c.code pc = .ok (.ireturn, 1)) {fs : List Frame}
    (hl : ∀ (f : JFrame) (acts : List Action), f.method = m → f.locked = none → f.entered = [] → (doReturn e (T.setTop f) acts (some (.int z))).1 = T.setFrames fs) : Steps p.tables e below (T.setTop (mkF m pc Ls (.int z :: rest))) (T.setFrames fs) := by
  have hm' : T.vm.method? m = some meth := X.method'
  have hn : narrow .int (.int z) = .int z := rfl
  show Steps p.tables e below (T.setTop { method := m, pc := pc, locals := Ls, stack := _ :: rest, locked := none }) _
  jvm_step X.here [X.here.top, hx, hd, hm', hret, hn]
  first | (intro acts; rw [hl _ acts rfl rfl rfl]) | rw [hl _ _ rfl rfl rfl]
  exact Steps.refl _
end New
end Jvm.RoadKit
/- laws to paste: Road.backV, Road.eqW, Road.codOf (cut by pick.py; bodies as the Statement names them) -/
namespace Jvm.Pilot.@@N@@
namespace StrChars
open Jvm Sem ClassFile Op Lib Jvm.Stand Jvm.Free.XT Jvm.Free.ALB Jvm.Free.JM Jvm.Free
open Jvm.Lib.Cold (StaticIs)
/-- a char array whose places are chars -/
def Ch (a : Addr) (A : Cell) (U : State) : Prop := Arr .char a A U ∧ Typed .char A
theorem Ch.mv {a : Addr} {A : Cell} {U U' : State} (h : Ch a A U) (hal : U.vm.Alike U'.vm) (hh : U'.heap = U.heap) : Ch a A U' := ⟨h.1.mv hal hh, h.2⟩
theorem Ch.keep {a : Addr} {A : Cell} {U U' : State} (h : Ch a A U) (hal : U.vm.Alike U'.vm) (hk : U'.heap[a]? = some A) : Ch a A U' := ⟨h.1.keep hal hk, h.2⟩
/-- what place i of a char[]'s cell holds -/
def cv (A : Cell) (i : Nat) : Int32 := match A.slots[i]? with | some (.int x) => x | _ => 0
theorem Ch.get {a : Addr} {A : Cell} {U : State} (h : Ch a A U) {i : Nat} (hi : i < A.slots.size) : A.slots[i]? = some (.int (cv A i)) := by
  have e := Array.getElem?_eq_getElem hi
  have f := h.2 i _ e
  unfold cv; rw [e]
  generalize A.slots[i] = v at f
  cases v <;> simp [fits] at f ⊢
/-- the byte that i2b leaves of a char -/
def lo8 (x : Int32) : Int32 := x.toInt8.toInt32
theorem fits_lo8 (y : Int32) : fits .byte (.int (lo8 y)) = true := by
  have h1 := y.toInt8.le_toInt
  have h2 := y.toInt8.toInt_lt
  simp only [lo8, fits, Bool.and_eq_true, decide_eq_true_eq, Int32.le_iff_toInt_le, Int8.toInt_toInt32, show (-128 : Int32).toInt = -128 from by decide, show (127 : Int32).toInt = 127 from by decide]
  omega
/-- A' is A but that each place j of lo .. hi - 1 holds f j -/
def Laid (A A' : Cell) (lo hi : Nat) (f : Nat → Value) : Prop := A'.cls = A.cls ∧ A'.vm = A.vm ∧ A'.slots.size = A.slots.size ∧ ∀ i, A'.slots[i]? = if lo ≤ i ∧ i < hi then some (f i) else A.slots[i]?
theorem Laid.zero (A : Cell) (lo : Nat) (f : Nat → Value) : Laid A A lo (lo + 0) f := ⟨rfl, rfl, rfl, fun i => by rw [if_neg (by omega)]⟩
theorem Laid.step {A Ak : Cell} {lo k : Nat} {f : Nat → Value} {v : Value} (h : Laid A Ak lo k f) (hlo : lo ≤ k) (hk : k < Ak.slots.size) (hv : v = f k) : Laid A (Ak.setSlot k v) lo (k + 1) f := by
  refine ⟨h.1, h.2.1, by simpa [Cell.setSlot] using h.2.2.1, fun i => ?_⟩
  by_cases e : k = i
  · subst e; rw [Cell.slots_setSlot_self v hk, if_pos (by omega), hv]
  · rw [Cell.slots_setSlot_ne v e, h.2.2.2 i]
    by_cases q : lo ≤ i ∧ i < k
    · rw [if_pos q, if_pos (by omega)]
    · rw [if_neg q, if_neg (by omega)]
def U16 : String := "java/lang/StringUTF16"
namespace Cmp5
def yN : MethodName := ⟨"java/lang/StringUTF16", "compress", "([CI[BII)I"⟩
abbrev yB : ByteArray := jdk_52_method_21_code
theorem d0 : decode yB 0 = .ok (.iconst 0, 1) := by decide +kernel
theorem d1 : decode yB 1 = .ok (.istore 5, 2) := by decide +kernel
theorem d3 : decode yB 3 = .ok (.iload 5, 2) := by decide +kernel
theorem d5 : decode yB 5 = .ok (.iload 4, 2) := by decide +kernel
theorem d7 : decode yB 7 = .ok (.if_icmp (.ge) 37, 3) := by decide +kernel
theorem d10 : decode yB 10 = .ok (.aload_n 0, 1) := by decide +kernel
theorem d11 : decode yB 11 = .ok (.iload_n 1, 1) := by decide +kernel
theorem d12 : decode yB 12 = .ok (.caload, 1) := by decide +kernel
theorem d13 : decode yB 13 = .ok (.istore 6, 2) := by decide +kernel
theorem d15 : decode yB 15 = .ok (.iload 6, 2) := by decide +kernel
theorem d17 : decode yB 17 = .ok (.sipush 255, 3) := by decide +kernel
theorem d20 : decode yB 20 = .ok (.if_icmp (.le) 6, 3) := by decide +kernel
theorem d26 : decode yB 26 = .ok (.aload_n 2, 1) := by decide +kernel
theorem d27 : decode yB 27 = .ok (.iload_n 3, 1) := by decide +kernel
theorem d28 : decode yB 28 = .ok (.iload 6, 2) := by decide +kernel
theorem d30 : decode yB 30 = .ok (.i2b, 1) := by decide +kernel
theorem d31 : decode yB 31 = .ok (.bastore, 1) := by decide +kernel
theorem d32 : decode yB 32 = .ok (.iinc 1 1, 3) := by decide +kernel
theorem d35 : decode yB 35 = .ok (.iinc 3 1, 3) := by decide +kernel
theorem d38 : decode yB 38 = .ok (.iinc 5 1, 3) := by decide +kernel
theorem d41 : decode yB 41 = .ok (.goto (-38), 3) := by decide +kernel
theorem d44 : decode yB 44 = .ok (.iload 4, 2) := by decide +kernel
theorem d46 : decode yB 46 = .ok (.ireturn, 1) := by decide +kernel
def site : List Cond := []
def tab : Cond := tabOf yN yB 7 (some .int) site
def P (b : Addr) (A : Cell) (d : Addr) (B : Cell) (o q len : Nat) (args : Array Value) (s : State) : Prop := args = #[.ref b, .int (Int32.ofNat o), .ref d, .int (Int32.ofNat q), .int (Int32.ofNat len)] ∧ Ch b A s ∧ Arr .byte d B s ∧ b ≠ d ∧ o + len ≤ A.slots.size ∧ q + len ≤ B.slots.size ∧ ∀ i, i < len → ¬ 255 < cv A (o + i)
def E (b : Addr) (A : Cell) (d : Addr) (B : Cell) (o q len : Nat) (r : Option Value) (s u : State) : Prop := r = some (.int (Int32.ofNat len)) ∧ ∃ B', Put d B' s u ∧ Laid B B' q (q + len) (fun j => Value.int (lo8 (cv A (o + (j - q)))))
/-- no char of the range above 255: len; the places written hold each char's low byte -/
theorem law (l : Launch) (b : Addr) (A : Cell) (d : Addr) (B : Cell) (o q len : Nat) : Law l yN 5 5 0 0 yB 7 (some .int) site (P b A d B o q len) (E b A d B o q len) (copyLocs d q len) 0 0 := by
  refine Law.of_walk (plainFor_of_name (by decide +kernel)) (by decide +kernel) (by decide +kernel) (by decide) (fun _ _ h => by rw [h.1]; rfl) (fun _ U U' hal hh h => ⟨h.1, h.2.1.mv hal hh, h.2.2.1.mv hal hh, h.2.2.2⟩) (fun r U U' V V' h1 hal h2 h => ⟨h.1, h.2.elim fun B' q => ⟨B', q.1.mv h1 h2, q.2⟩⟩) ?_
  intro p e s m args below meth c s₁ X0 hexec hbytes hml hret hlk hnm hown hh0 W hP
  obtain ⟨rfl, hA, hB, hne, l1, l2, hp⟩ := hP
  have c1 : Steps p.tables e below (s₁.setTop (entryFrame m #[.ref b, .int (Int32.ofNat o), .ref d, .int (Int32.ofNat q), .int (Int32.ofNat len)] 7)) (s₁.setTop (mkF m 0 #[.val (.ref b), .val (.int (Int32.ofNat o)), .val (.ref d), .val (.int (Int32.ofNat q)), .val (.int (Int32.ofNat len)), .unset, .unset] [])) := entry rfl
  have hA0 := hA.1.mv X0.warmed.alike hh0
  have hB0 := hB.mv X0.warmed.alike hh0
  have a31 := hA.1.2.2.2
  have c2 : Steps p.tables e below (s₁.setTop (entryFrame m #[.ref b, .int (Int32.ofNat o), .ref d, .int (Int32.ofNat q), .int (Int32.ofNat len)] 7)) (s₁.setTop (mkF m 3 #[.val (.ref b), .val (.int (Int32.ofNat o)), .val (.ref d), .val (.int (Int32.ofNat q)), .val (.int (Int32.ofNat len)), .val (.int 0), .unset] [])) := c1.trans (by
    refine iconstV X0.here hexec rfl 0 (hb hbytes d0) (by decide) ?_
    refine XS.istore X0.here hexec rfl (hb hbytes d1) rfl rfl ?_
    exact Steps.refl _)
  have loop : ∀ (r i : Nat), i + r = len → ∀ (z : Slot), (z = .unset ∨ ∃ w, z = .val w ∧ w.category = 1) → ∀ (Tl : State) (Bk : Cell), Stand p l e { frames := 0, locals := 0, cells := 0, slots := 0 } s m #[.ref b, .int (Int32.ofNat o), .ref d, .int (Int32.ofNat q), .int (Int32.ofNat len)] below meth c Tl ([] ++ copyLocs d q i) 0 0 → Put d Bk s₁ Tl → Laid B Bk q (q + i) (fun j => Value.int (lo8 (cv A (o + (j - q))))) →
      Steps p.tables e below (s₁.setTop (entryFrame m #[.ref b, .int (Int32.ofNat o), .ref d, .int (Int32.ofNat q), .int (Int32.ofNat len)] 7)) (Tl.setTop (mkF m 3 #[.val (.ref b), .val (.int (Int32.ofNat (o + i))), .val (.ref d), .val (.int (Int32.ofNat (q + i))), .val (.int (Int32.ofNat len)), .val (.int (Int32.ofNat i)), z] [])) → ∃ (T' : State) (B' : Cell) (z' : Slot), Stand p l e { frames := 0, locals := 0, cells := 0, slots := 0 } s m #[.ref b, .int (Int32.ofNat o), .ref d, .int (Int32.ofNat q), .int (Int32.ofNat len)] below meth c T' ([] ++ copyLocs d q len) 0 0 ∧ Put d B' s₁ T' ∧ Laid B B' q (q + len) (fun j => Value.int (lo8 (cv A (o + (j - q))))) ∧
      Steps p.tables e below (s₁.setTop (entryFrame m #[.ref b, .int (Int32.ofNat o), .ref d, .int (Int32.ofNat q), .int (Int32.ofNat len)] 7)) (T'.setTop (mkF m 3 #[.val (.ref b), .val (.int (Int32.ofNat (o + len))), .val (.ref d), .val (.int (Int32.ofNat (q + len))), .val (.int (Int32.ofNat len)), .val (.int (Int32.ofNat len)), z'] [])) := by
    intro r
    induction r with
    | zero =>
      intro i hi z hz Tl Bk Xl pl fl cl
      have hil : i = len := by omega
      rw [hil] at Xl fl cl
      exact ⟨Tl, Bk, z, Xl, pl, fl, cl⟩
    | succ r ih =>
      intro i hi z hz Tl Bk Xl pl fl cl
      have all := X0.warmed.alike.symm.trans Xl.warmed.alike
      have hAl := hA0.keep all (pl.other hne hA0.1)
      have hBk := hB0.like all pl.1 fl.1 fl.2.1 fl.2.2.1
      have hlt : q + i < Bk.slots.size := by rw [fl.2.2.1]; omega
      have c3 : Steps p.tables e below (s₁.setTop (entryFrame m #[.ref b, .int (Int32.ofNat o), .ref d, .int (Int32.ofNat q), .int (Int32.ofNat len)] 7)) (Tl.setTop (mkF m 12 #[.val (.ref b), .val (.int (Int32.ofNat (o + i))), .val (.ref d), .val (.int (Int32.ofNat (q + i))), .val (.int (Int32.ofNat len)), .val (.int (Int32.ofNat i)), z] [.int (Int32.ofNat (o + i)), .ref b])) := cl.trans (by
        refine XS.iload Xl.here hexec rfl (hb hbytes d3) rfl ?_
        refine XS.iload Xl.here hexec rfl (hb hbytes d5) rfl ?_
        refine XS.icmpNo Xl.here hexec rfl (hb hbytes d7) rfl (ii_ge_f (lt32 (by omega) (by omega))) ?_
        refine XS.aloadN Xl.here hexec rfl (hb hbytes d10) rfl rfl ?_
        refine XS.iloadN Xl.here hexec rfl (hb hbytes d11) rfl ?_
        exact Steps.refl _)
      have c4 : Steps p.tables e below (s₁.setTop (entryFrame m #[.ref b, .int (Int32.ofNat o), .ref d, .int (Int32.ofNat q), .int (Int32.ofNat len)] 7)) (Tl.setTop (mkF m 13 #[.val (.ref b), .val (.int (Int32.ofNat (o + i))), .val (.ref d), .val (.int (Int32.ofNat (q + i))), .val (.int (Int32.ofNat len)), .val (.int (Int32.ofNat i)), z] [.int (cv A (o + i))])) := c3.trans (by
        refine Xl.aget hexec hAl rfl (hA.get (i := o + i) (by omega)) rfl rfl (hb hbytes d12) ?_
        exact Steps.refl _)
      have c5 : Steps p.tables e below (s₁.setTop (entryFrame m #[.ref b, .int (Int32.ofNat o), .ref d, .int (Int32.ofNat q), .int (Int32.ofNat len)] 7)) (Tl.setTop (mkF m 15 #[.val (.ref b), .val (.int (Int32.ofNat (o + i))), .val (.ref d), .val (.int (Int32.ofNat (q + i))), .val (.int (Int32.ofNat len)), .val (.int (Int32.ofNat i)), .val (.int (cv A (o + i)))] [])) := c4.trans (by
        refine XS.istoreS Xl.here hexec rfl (hb hbytes d13) rfl rfl hz ?_
        exact Steps.refl _)
      have c6 : Steps p.tables e below (s₁.setTop (entryFrame m #[.ref b, .int (Int32.ofNat o), .ref d, .int (Int32.ofNat q), .int (Int32.ofNat len)] 7)) (Tl.setTop (mkF m 31 #[.val (.ref b), .val (.int (Int32.ofNat (o + i))), .val (.ref d), .val (.int (Int32.ofNat (q + i))), .val (.int (Int32.ofNat len)), .val (.int (Int32.ofNat i)), .val (.int (cv A (o + i)))] [.int (lo8 (cv A (o + i))), .int (Int32.ofNat (q + i)), .ref d])) := c5.trans (by
        refine XS.iload Xl.here hexec rfl (hb hbytes d15) rfl ?_
        refine sipushV Xl.here hexec rfl 255 (hb hbytes d17) (by decide) ?_
        refine XS.icmpYes Xl.here hexec rfl (pc0 := 20) rfl (hb hbytes d20) rfl (ii_le_t (hp i (by omega))) (by decide) rfl ?_
        refine XS.aloadN Xl.here hexec rfl (hb hbytes d26) rfl rfl ?_
        refine XS.iloadN Xl.here hexec rfl (hb hbytes d27) rfl ?_
        refine XS.iload Xl.here hexec rfl (hb hbytes d28) rfl ?_
        refine i2b Xl.here hexec rfl (hb hbytes d30) rfl ?_
        exact Steps.refl _)
      obtain ⟨T7, X7, p7, st7⟩ := Xl.aput hexec hBk rfl hlt rfl (fits_lo8 (cv A (o + i))) (g := (mkF m 31 #[.val (.ref b), .val (.int (Int32.ofNat (o + i))), .val (.ref d), .val (.int (Int32.ofNat (q + i))), .val (.int (Int32.ofNat len)), .val (.int (Int32.ofNat i)), .val (.int (cv A (o + i)))] [.int (lo8 (cv A (o + i))), .int (Int32.ofNat (q + i)), .ref d])) rfl (rest := []) rfl (hb hbytes d31)
      have c8 : Steps p.tables e below (s₁.setTop (entryFrame m #[.ref b, .int (Int32.ofNat o), .ref d, .int (Int32.ofNat q), .int (Int32.ofNat len)] 7)) (T7.setTop (mkF m 32 #[.val (.ref b), .val (.int (Int32.ofNat (o + i))), .val (.ref d), .val (.int (Int32.ofNat (q + i))), .val (.int (Int32.ofNat len)), .val (.int (Int32.ofNat i)), .val (.int (cv A (o + i)))] [])) := c6.trans (st7 _ (Steps.refl _))
      have c9 : Steps p.tables e below (s₁.setTop (entryFrame m #[.ref b, .int (Int32.ofNat o), .ref d, .int (Int32.ofNat q), .int (Int32.ofNat len)] 7)) (T7.setTop (mkF m 3 #[.val (.ref b), .val (.int (Int32.ofNat (o + i) + 1)), .val (.ref d), .val (.int (Int32.ofNat (q + i) + 1)), .val (.int (Int32.ofNat len)), .val (.int (Int32.ofNat i + 1)), .val (.int (cv A (o + i)))] [])) := c8.trans (by
        refine iincV X7.here hexec rfl 1 (hb hbytes d32) (by decide) rfl rfl ?_
        refine iincV X7.here hexec rfl 1 (hb hbytes d35) (by decide) rfl rfl ?_
        refine iincV X7.here hexec rfl 1 (hb hbytes d38) (by decide) rfl rfl ?_
        refine XS.goto X7.here hexec rfl (pc0 := 41) rfl (hb hbytes d41) (by decide) rfl ?_
        exact Steps.refl _)
      have c10 : Steps p.tables e below (s₁.setTop (entryFrame m #[.ref b, .int (Int32.ofNat o), .ref d, .int (Int32.ofNat q), .int (Int32.ofNat len)] 7)) (T7.setTop (mkF m 3 #[.val (.ref b), .val (.int (Int32.ofNat (o + (i + 1)))), .val (.ref d), .val (.int (Int32.ofNat (q + (i + 1)))), .val (.int (Int32.ofNat len)), .val (.int (Int32.ofNat (i + 1))), .val (.int (cv A (o + i)))] [])) := by
        have := c9
        rw [succ32, succ32, succ32] at this
        exact this
      exact ih (i + 1) (by omega) _ (Or.inr ⟨_, rfl, rfl⟩) T7 _ (by rw [copyLocs_step, ← List.append_assoc]; exact X7) (pl.trans p7) (fl.step (by omega) hlt (by simp)) c10
  obtain ⟨T9, B9, z9, X9, p9, f9, g9⟩ := loop len 0 (by omega) .unset (Or.inl rfl) s₁ B (by simpa [copyLocs] using X0) ⟨hB0.1, fun _ _ => rfl, rfl⟩ (Laid.zero _ _ _) c2
  have c11 : Steps p.tables e below (s₁.setTop (entryFrame m #[.ref b, .int (Int32.ofNat o), .ref d, .int (Int32.ofNat q), .int (Int32.ofNat len)] 7)) (T9.setTop (mkF m 46 #[.val (.ref b), .val (.int (Int32.ofNat (o + len))), .val (.ref d), .val (.int (Int32.ofNat (q + len))), .val (.int (Int32.ofNat len)), .val (.int (Int32.ofNat len)), z9] [.int (Int32.ofNat len)])) := g9.trans (by
    refine XS.iload X9.here hexec rfl (hb hbytes d3) rfl ?_
    refine XS.iload X9.here hexec rfl (hb hbytes d5) rfl ?_
    refine XS.icmpYes X9.here hexec rfl (pc0 := 7) rfl (hb hbytes d7) rfl (ii_ge_t (nlt32 (by omega) (Nat.le_refl _))) (by decide) rfl ?_
    refine XS.iload X9.here hexec rfl (hb hbytes d44) rfl ?_
    exact Steps.refl _)
  exact ⟨T9, some (.int (Int32.ofNat len)), _, _, _, X9, by simp, rfl, rfl, (fun h => by cases h), ⟨rfl, B9, p9.from hh0, f9⟩, fun fs hl => c11.trans (X9.ireturnOut hexec hret rfl (Or.inl rfl) (hb hbytes d46) hl)⟩
end Cmp5
namespace Cmp3
def yN : MethodName := ⟨"java/lang/StringUTF16", "compress", "([CII)[B"⟩
abbrev yB : ByteArray := jdk_52_method_16_code
theorem d0 : decode yB 0 = .ok (.iload_n 2, 1) := by decide +kernel
theorem d1 : decode yB 1 = .ok (.newarray .byte, 2) := by decide +kernel
theorem d3 : decode yB 3 = .ok (.astore_n 3, 1) := by decide +kernel
theorem d4 : decode yB 4 = .ok (.aload_n 0, 1) := by decide +kernel
theorem d5 : decode yB 5 = .ok (.iload_n 1, 1) := by decide +kernel
theorem d6 : decode yB 6 = .ok (.aload_n 3, 1) := by decide +kernel
theorem d7 : decode yB 7 = .ok (.iconst 0, 1) := by decide +kernel
theorem d8 : decode yB 8 = .ok (.iload_n 2, 1) := by decide +kernel
theorem d9 : decode yB 9 = .ok (.invokestatic 115, 3) := by decide +kernel
theorem d12 : decode yB 12 = .ok (.istore 4, 2) := by decide +kernel
theorem d14 : decode yB 14 = .ok (.iload 4, 2) := by decide +kernel
theorem d16 : decode yB 16 = .ok (.iload_n 2, 1) := by decide +kernel
theorem d17 : decode yB 17 = .ok (.if_icmp (.eq) 40, 3) := by decide +kernel
theorem d57 : decode yB 57 = .ok (.aload_n 3, 1) := by decide +kernel
theorem d58 : decode yB 58 = .ok (.areturn, 1) := by decide +kernel
def site : List Cond := [.arrayClass .byte, Cmp5.tab] ++ staticW U16 115 Cmp5.yN
def tab : Cond := tabOf yN yB 6 (some (.array .byte)) site
def P (b : Addr) (A : Cell) (o len : Nat) (args : Array Value) (s : State) : Prop := args = #[.ref b, .int (Int32.ofNat o), .int (Int32.ofNat len)] ∧ Ch b A s ∧ o + len ≤ A.slots.size ∧ len ≤ 536870912 ∧ ∀ i, i < len → ¬ 255 < cv A (o + i)
def E (b : Addr) (A : Cell) (o len : Nat) (r : Option Value) (s u : State) : Prop := NewArr .byte "[B" len (fun j => .int (lo8 (cv A (o + j)))) r s u ∧ u.heap.size = s.heap.size + 1
/-- no char of the range above 255: a new byte[] of their low bytes -/
theorem law (l : Launch) (b : Addr) (A : Cell) (o len : Nat) : Law l yN 3 3 1 18 yB 6 (some (.array .byte)) site (P b A o len) (E b A o len) [] 1 len := by
  refine Law.of_walk (plainFor_of_name (by decide +kernel)) (by decide +kernel) (by decide +kernel) (by decide) (fun _ _ h => by rw [h.1]; rfl) (fun _ U U' hal hh h => ⟨h.1, h.2.1.mv hal hh, h.2.2⟩) (fun r U U' V V' h1 hal h2 h => ⟨NewArr.mv r U U' V V' h1 hal h2 h.1, by rw [h1, h2]; exact h.2⟩) ?_
  intro p e s m args below meth c s₁ X0 hexec hbytes hml hret hlk hnm hown hh0 W hP
  obtain ⟨rfl, hA, l1, l2, hp⟩ := hP
  have a31 := hA.1.2.2.2
  have c1 : Steps p.tables e below (s₁.setTop (entryFrame m #[.ref b, .int (Int32.ofNat o), .int (Int32.ofNat len)] 6)) (s₁.setTop (mkF m 0 #[.val (.ref b), .val (.int (Int32.ofNat o)), .val (.int (Int32.ofNat len)), .unset, .unset, .unset] [])) := entry rfl
  have c2 : Steps p.tables e below (s₁.setTop (entryFrame m #[.ref b, .int (Int32.ofNat o), .int (Int32.ofNat len)] 6)) (s₁.setTop (mkF m 1 #[.val (.ref b), .val (.int (Int32.ofNat o)), .val (.int (Int32.ofNat len)), .unset, .unset, .unset] [.int (Int32.ofNat len)])) := c1.trans (by
    refine XS.iloadN X0.here hexec rfl (hb hbytes d0) rfl ?_
    exact Steps.refl _)
  obtain ⟨T3, B3, X3, ba3, bs3, bv3, bh3, bf3, st3⟩ := X0.anew hexec (atype := .byte) (wk W (.arrayClass .byte)) rfl (by show len * 1 ≤ _; omega) (by omega) (g := (mkF m 1 #[.val (.ref b), .val (.int (Int32.ofNat o)), .val (.int (Int32.ofNat len)), .unset, .unset, .unset] [.int (Int32.ofNat len)])) rfl (hb hbytes d1) (rest := []) rfl (Nat.le_refl _) (by show 0 + len ≤ len; omega)
  rw [hh0] at ba3 st3
  have kp3 : XT.Kept s T3 := (XT.Kept.of_eq hh0).push bh3
  have hA3 := hA.keep X3.warmed.alike (kp3 _ _ hA.1.1)
  have hne : b ≠ s.heap.size := hA.1.ne
  have c4 : Steps p.tables e below (s₁.setTop (entryFrame m #[.ref b, .int (Int32.ofNat o), .int (Int32.ofNat len)] 6)) (T3.setTop (mkF m 3 #[.val (.ref b), .val (.int (Int32.ofNat o)), .val (.int (Int32.ofNat len)), .unset, .unset, .unset] [.ref s.heap.size])) := c2.trans (st3 _ (Steps.refl _))
  have c5 : Steps p.tables e below (s₁.setTop (entryFrame m #[.ref b, .int (Int32.ofNat o), .int (Int32.ofNat len)] 6)) (T3.setTop (mkF m 9 #[.val (.ref b), .val (.int (Int32.ofNat o)), .val (.int (Int32.ofNat len)), .val (.ref s.heap.size), .unset, .unset] [.int (Int32.ofNat len), .int 0, .ref s.heap.size, .int (Int32.ofNat o), .ref b])) := c4.trans (by
    refine XS.astoreN X3.here hexec rfl (hb hbytes d3) rfl rfl rfl ?_
    refine XS.aloadN X3.here hexec rfl (hb hbytes d4) rfl rfl ?_
    refine XS.iloadN X3.here hexec rfl (hb hbytes d5) rfl ?_
    refine XS.aloadN X3.here hexec rfl (hb hbytes d6) rfl rfl ?_
    refine iconstV X3.here hexec rfl 0 (hb hbytes d7) (by decide) ?_
    refine XS.iloadN X3.here hexec rfl (hb hbytes d8) rfl ?_
    exact Steps.refl _)
  obtain ⟨v6, T6, X6, E6, g6⟩ := X3.callS hexec (Cmp5.law l b A s.heap.size B3 o 0 len) hown (wks W (staticW U16 115 Cmp5.yN)) (wk W Cmp5.tab) (W := 0) (Nat.le_of_ble_eq_true rfl) (Nat.le_of_ble_eq_true rfl) (Nat.le_refl _) (by show 0 + len + 0 ≤ len; omega) (g := (mkF m 9 #[.val (.ref b), .val (.int (Int32.ofNat o)), .val (.int (Int32.ofNat len)), .val (.ref s.heap.size), .unset, .unset] [.int (Int32.ofNat len), .int (Int32.ofNat 0), .ref s.heap.size, .int (Int32.ofNat o), .ref b])) rfl (by rw [hml]; rfl) c5 (argsL := [.ref b, .int (Int32.ofNat o), .ref s.heap.size, .int (Int32.ofNat 0), .int (Int32.ofNat len)]) (rest := []) rfl rfl (by show 2 * 0 + 0 ≤ _; decide) (hb hbytes d9) (⟨rfl, hA3, ba3, hne, l1, by rw [bs3]; simp, hp⟩)
  obtain ⟨rfl, B6, p6, f6⟩ := E6
  have c7 : Steps p.tables e below (s₁.setTop (entryFrame m #[.ref b, .int (Int32.ofNat o), .int (Int32.ofNat len)] 6)) (T6.setTop (mkF m 12 #[.val (.ref b), .val (.int (Int32.ofNat o)), .val (.int (Int32.ofNat len)), .val (.ref s.heap.size), .unset, .unset] [.int (Int32.ofNat len)])) := g6
  have c8 : Steps p.tables e below (s₁.setTop (entryFrame m #[.ref b, .int (Int32.ofNat o), .int (Int32.ofNat len)] 6)) (T6.setTop (mkF m 58 #[.val (.ref b), .val (.int (Int32.ofNat o)), .val (.int (Int32.ofNat len)), .val (.ref s.heap.size), .val (.int (Int32.ofNat len)), .unset] [.ref s.heap.size])) := c7.trans (by
    refine XS.istore X6.here hexec rfl (hb hbytes d12) rfl rfl ?_
    refine XS.iload X6.here hexec rfl (hb hbytes d14) rfl ?_
    refine XS.iloadN X6.here hexec rfl (hb hbytes d16) rfl ?_
    refine XS.icmpYes X6.here hexec rfl (pc0 := 17) rfl (hb hbytes d17) rfl (ii_eq_t rfl) (by decide) rfl ?_
    refine XS.aloadN X6.here hexec rfl (hb hbytes d57) rfl rfl ?_
    exact Steps.refl _)
  have X8 := X6.wide (L' := []) (cells' := 1) (slots' := len) (fun x hx hlt => by
    simp only [List.nil_append, copyLocs, List.mem_map, List.mem_range] at hx
    obtain ⟨i, -, rfl⟩ := hx
    exact absurd hlt (Nat.lt_irrefl _)) (Nat.le_refl _) (by omega)
  exact ⟨T6, some (.ref s.heap.size), _, _, _, X8, rfl, rfl, rfl, (fun h => by cases h), ⟨⟨rfl, B6, ba3.like (X3.warmed.alike.symm.trans X6.warmed.alike) p6.1 f6.1 f6.2.1 f6.2.2.1, f6.2.1.trans bv3, by rw [X6.warmed.alike.findClass, f6.1]; exact bf3, by rw [f6.2.2.1, bs3]; simp, fun j hj => by rw [f6.2.2.2 j, if_pos (by omega)]; rfl, kp3.put p6 (Nat.le_refl _)⟩, by rw [p6.2.2, bh3, hh0]; simp⟩, fun fs hl => c8.trans (X8.areturnOut hexec rfl hret rfl (hb hbytes d58) hl)⟩
end Cmp3
namespace CodL
def yN : MethodName := ⟨"java/lang/StringUTF16", "coderFromArrayLen", "([BI)B"⟩
abbrev yB : ByteArray := jdk_52_method_15_code
theorem d0 : decode yB 0 = .ok (.iload_n 1, 1) := by decide +kernel
theorem d1 : decode yB 1 = .ok (.aload_n 0, 1) := by decide +kernel
theorem d2 : decode yB 2 = .ok (.arraylength, 1) := by decide +kernel
theorem d3 : decode yB 3 = .ok (.isub, 1) := by decide +kernel
theorem d4 : decode yB 4 = .ok (.bipush 31, 2) := by decide +kernel
theorem d6 : decode yB 6 = .ok (.iushr, 1) := by decide +kernel
theorem d7 : decode yB 7 = .ok (.i2b, 1) := by decide +kernel
theorem d8 : decode yB 8 = .ok (.ireturn, 1) := by decide +kernel
def site : List Cond := []
def tab : Cond := tabOf yN yB 2 (some .byte) site
def P (d : Addr) (B : Cell) (args : Array Value) (s : State) : Prop := args = #[.ref d, .int (Int32.ofNat B.slots.size)] ∧ Arr .byte d B s
def E (r : Option Value) (s u : State) : Prop := XT.PureE (some (.int 0)) r s u
/-- an array as long as the number of chars: LATIN1 -/
theorem law (l : Launch) (d : Addr) (B : Cell) : Law l yN 2 2 0 0 yB 2 (some .byte) site (P d B) E [] 0 0 := by
  refine Law.of_walk (plainFor_of_name (by decide +kernel)) (by decide +kernel) (by decide +kernel) (by decide) (fun _ _ h => by rw [h.1]; rfl) (fun _ U U' hal hh h => ⟨h.1, h.2.mv hal hh⟩) (fun r U U' V V' h1 hal h2 h => XT.PureE.mv r U U' V V' h1 hal h2 h) ?_
  intro p e s m args below meth c s₁ X0 hexec hbytes hml hret hlk hnm hown hh0 W hP
  obtain ⟨rfl, hB⟩ := hP
  have hB0 := hB.mv X0.warmed.alike hh0
  have c1 : Steps p.tables e below (s₁.setTop (entryFrame m #[.ref d, .int (Int32.ofNat B.slots.size)] 2)) (s₁.setTop (mkF m 0 #[.val (.ref d), .val (.int (Int32.ofNat B.slots.size))] [])) := entry rfl
  have c2 : Steps p.tables e below (s₁.setTop (entryFrame m #[.ref d, .int (Int32.ofNat B.slots.size)] 2)) (s₁.setTop (mkF m 2 #[.val (.ref d), .val (.int (Int32.ofNat B.slots.size))] [.ref d, .int (Int32.ofNat B.slots.size)])) := c1.trans (by
    refine XS.iloadN X0.here hexec rfl (hb hbytes d0) rfl ?_
    refine XS.aloadN X0.here hexec rfl (hb hbytes d1) rfl rfl ?_
    exact Steps.refl _)
  have c3 : Steps p.tables e below (s₁.setTop (entryFrame m #[.ref d, .int (Int32.ofNat B.slots.size)] 2)) (s₁.setTop (mkF m 8 #[.val (.ref d), .val (.int (Int32.ofNat B.slots.size))] [.int (lo8 (ushr (Int32.ofNat B.slots.size - Int32.ofNat B.slots.size) 31))])) := c2.trans (by
    refine X0.alen hexec hB0 rfl rfl (hb hbytes d2) ?_
    refine XS.isub X0.here hexec rfl (hb hbytes d3) rfl ?_
    refine bipushV X0.here hexec rfl 31 (hb hbytes d4) (by decide) ?_
    refine iushr X0.here hexec rfl (hb hbytes d6) rfl ?_
    refine i2b X0.here hexec rfl (hb hbytes d7) rfl ?_
    exact Steps.refl _)
  have e0 : lo8 (ushr (Int32.ofNat B.slots.size - Int32.ofNat B.slots.size) 31) = 0 := by rw [Int32.sub_self]; decide
  rw [e0] at c3
  exact ⟨s₁, some (.int 0), _, _, _, X0, rfl, rfl, rfl, (fun h => by cases h), ⟨rfl, hh0⟩, fun fs hl => c3.trans (X0.ireturnOut hexec hret rfl (Or.inr (Or.inr (Or.inl rfl))) (hb hbytes d8) hl)⟩
end CodL
/-- the String at a is Latin-1 over a new byte[] (the heap's one new cell): the low bytes of the len chars of A from o on; every cell but a is kept -/
def Got (a : Addr) (D : Cell) (fV fC : Field) (A : Cell) (o len : Nat) (r : Option Value) (s u : State) : Prop := r = none ∧ ∃ D' V : Cell, Blank "java/lang/String" a D' u ∧ Same D D' [fV.slot, fC.slot] ∧ D'.slots[fV.slot]? = some (.ref s.heap.size) ∧ D'.slots[fC.slot]? = some (.int 0) ∧ Arr .byte s.heap.size V u ∧ V.vm = .none ∧ u.vm.findClass "[B" = some V.cls ∧ V.slots.size = len ∧ (∀ j, j < len → V.slots[j]? = some (.int (lo8 (cv A (o + j))))) ∧ (∀ (y : Addr) (c : Cell), y ≠ a → s.heap[y]? = some c → u.heap[y]? = some c) ∧ u.heap.size = s.heap.size + 1
theorem Got.mv {a : Addr} {D A : Cell} {fV fC : Field} {o len : Nat} : ∀ r (U U' V V' : State), U'.heap = U.heap → V.vm.Alike V'.vm → V'.heap = V.heap → Got a D fV fC A o len r U V → Got a D fV fC A o len r U' V' :=
  fun r U U' V V' h1 hal h2 ⟨e0, D', X, a1, a2, a3, a4, a5, a6, a7, a8, a9, a10, a11⟩ => ⟨e0, D', X, a1.mv hal h2, a2, by rw [h1]; exact a3, a4, by rw [h1]; exact a5.mv hal h2, a6, by rw [hal.findClass]; exact a7, a8, a9, by rw [h1, h2]; exact a10, by rw [h1, h2]; exact a11⟩
namespace New4
def yN : MethodName := ⟨"java/lang/String", "<init>", "([CIILjava/lang/Void;)V"⟩
abbrev yB : ByteArray := jdk_42_method_149_code
theorem d0 : decode yB 0 = .ok (.aload_n 0, 1) := by decide +kernel
theorem d1 : decode yB 1 = .ok (.invokespecial 1, 3) := by decide +kernel
theorem d4 : decode yB 4 = .ok (.iload_n 3, 1) := by decide +kernel
theorem d5 : decode yB 5 = .ok (.ifCond (.ne) 22, 3) := by decide +kernel
theorem d27 : decode yB 27 = .ok (.getstatic 38, 3) := by decide +kernel
theorem d30 : decode yB 30 = .ok (.ifCond (.eq) 28, 3) := by decide +kernel
theorem d33 : decode yB 33 = .ok (.aload_n 1, 1) := by decide +kernel
theorem d34 : decode yB 34 = .ok (.iload_n 2, 1) := by decide +kernel
theorem d35 : decode yB 35 = .ok (.iload_n 3, 1) := by decide +kernel
theorem d36 : decode yB 36 = .ok (.invokestatic 177, 3) := by decide +kernel
theorem d39 : decode yB 39 = .ok (.astore 5, 2) := by decide +kernel
theorem d41 : decode yB 41 = .ok (.aload_n 0, 1) := by decide +kernel
theorem d42 : decode yB 42 = .ok (.aload 5, 2) := by decide +kernel
theorem d44 : decode yB 44 = .ok (.iload_n 3, 1) := by decide +kernel
theorem d45 : decode yB 45 = .ok (.invokestatic 47, 3) := by decide +kernel
theorem d48 : decode yB 48 = .ok (.putfield 15, 3) := by decide +kernel
theorem d51 : decode yB 51 = .ok (.aload_n 0, 1) := by decide +kernel
theorem d52 : decode yB 52 = .ok (.aload 5, 2) := by decide +kernel
theorem d54 : decode yB 54 = .ok (.putfield 9, 3) := by decide +kernel
theorem d57 : decode yB 57 = .ok (.return_, 1) := by decide +kernel
def site : List Cond := [.fieldLink "java/lang/String" 38 "java/lang/String" "COMPACT_STRINGS" "Z", Cmp3.tab, CodL.tab, .laysFinal "java/lang/String" "java/lang/String" "value" "[B", .fieldLink "java/lang/String" 9 "java/lang/String" "value" "[B", .laysFinal "java/lang/String" "java/lang/String" "coder" "B", .fieldLink "java/lang/String" 15 "java/lang/String" "coder" "B"] ++ objW "java/lang/String" 1 ++ staticW "java/lang/String" 177 Cmp3.yN ++ staticW "java/lang/String" 47 CodL.yN
def tab : Cond := tabOf yN yB 6 none site
def P (a : Addr) (D : Cell) (fV fC : Field) (b : Addr) (A : Cell) (z : Int32) (o len : Nat) (args : Array Value) (s : State) : Prop := args = #[.ref a, .ref b, .int (Int32.ofNat o), .int (Int32.ofNat len), .null] ∧ Blank "java/lang/String" a D s ∧ Found "java/lang/String" "value" "[B" fV s ∧ Found "java/lang/String" "coder" "B" fC s ∧ Ch b A s ∧ StaticIs s "java/lang/String" "COMPACT_STRINGS" "Z" (.int z) ∧ ¬ z = 0 ∧ 0 < len ∧ o + len ≤ A.slots.size ∧ len ≤ 536870912 ∧ ∀ i, i < len → ¬ 255 < cv A (o + i)
def E (a : Addr) (D : Cell) (fV fC : Field) (A : Cell) (o len : Nat) (r : Option Value) (s u : State) : Prop := Got a D fV fC A o len r s u
/-- len > 0, no char of the range above 255: a Latin-1 String of their low bytes -/
theorem law (l : Launch) (a : Addr) (D : Cell) (fV fC : Field) (b : Addr) (A : Cell) (z : Int32) (o len : Nat) : Law l yN 5 4 2 35 yB 6 none site (P a D fV fC b A z o len) (E a D fV fC A o len) [⟨a, fC.slot⟩, ⟨a, fV.slot⟩] 1 len := by
  refine Law.of_walk (plainFor_of_name (by decide +kernel)) (by decide +kernel) (by decide +kernel) (by decide) (fun _ _ h => by rw [h.1]; rfl) (fun _ U U' hal hh h => ⟨h.1, h.2.1.mv hal hh, h.2.2.1.al hal, h.2.2.2.1.al hal, h.2.2.2.2.1.mv hal hh, h.2.2.2.2.2.1.there hal hh, h.2.2.2.2.2.2⟩) (fun r U U' V V' h1 hal h2 h => Got.mv r U U' V V' h1 hal h2 h) ?_
  intro p e s m args below meth c s₁ X0 hexec hbytes hml hret hlk hnm hown hh0 W hP
  obtain ⟨rfl, hB, f1, f2, hA, s1, hz, l0, l1, l2, hp⟩ := hP
  have a31 := hA.1.2.2.2
  have c1 : Steps p.tables e below (s₁.setTop (entryFrame m #[.ref a, .ref b, .int (Int32.ofNat o), .int (Int32.ofNat len), .null] 6)) (s₁.setTop (mkF m 0 #[.val (.ref a), .val (.ref b), .val (.int (Int32.ofNat o)), .val (.int (Int32.ofNat len)), .val .null, .unset] [])) := entry rfl
  have c2 : Steps p.tables e below (s₁.setTop (entryFrame m #[.ref a, .ref b, .int (Int32.ofNat o), .int (Int32.ofNat len), .null] 6)) (s₁.setTop (mkF m 1 #[.val (.ref a), .val (.ref b), .val (.int (Int32.ofNat o)), .val (.int (Int32.ofNat len)), .val .null, .unset] [.ref a])) := c1.trans (by
    refine XS.aloadN X0.here hexec rfl (hb hbytes d0) rfl rfl ?_
    exact Steps.refl _)
  obtain ⟨T3, X3, q3, st3⟩ := X0.oinit hexec hown (wks W (objW "java/lang/String" 1)) (g := (mkF m 1 #[.val (.ref a), .val (.ref b), .val (.int (Int32.ofNat o)), .val (.int (Int32.ofNat len)), .val .null, .unset] [.ref a])) rfl (by rw [hml]; rfl) (rest := []) rfl (hb hbytes d1) (W := 0) (by show 2 * 0 + 0 ≤ _; decide) (Nat.le_of_ble_eq_true rfl) (Nat.le_of_ble_eq_true rfl)
  have hh3 := q3.trans hh0
  have c4 : Steps p.tables e below (s₁.setTop (entryFrame m #[.ref a, .ref b, .int (Int32.ofNat o), .int (Int32.ofNat len), .null] 6)) (T3.setTop (mkF m 27 #[.val (.ref a), .val (.ref b), .val (.int (Int32.ofNat o)), .val (.int (Int32.ofNat len)), .val .null, .unset] [])) := (c2.trans (st3 _ (Steps.refl _))).trans (by
    refine XS.iloadN X3.here hexec rfl (hb hbytes d4) rfl ?_
    refine XS.ifYes X3.here hexec rfl (pc0 := 5) rfl (hb hbytes d5) rfl (i0_ne_t (nz32 (by omega) l0)) (by decide) rfl ?_
    exact Steps.refl _)
  obtain ⟨T5, X5, q5, st5⟩ := X3.sget hexec hown (wk W (.fieldLink "java/lang/String" 38 "java/lang/String" "COMPACT_STRINGS" "Z")) s1 (fun _ _ h => by rw [hh3]; exact h) (g := (mkF m 27 #[.val (.ref a), .val (.ref b), .val (.int (Int32.ofNat o)), .val (.int (Int32.ofNat len)), .val .null, .unset] [])) rfl (hb hbytes d27)
  have hh5 := q5.trans hh3
  have c6 : Steps p.tables e below (s₁.setTop (entryFrame m #[.ref a, .ref b, .int (Int32.ofNat o), .int (Int32.ofNat len), .null] 6)) (T5.setTop (mkF m 30 #[.val (.ref a), .val (.ref b), .val (.int (Int32.ofNat o)), .val (.int (Int32.ofNat len)), .val .null, .unset] [.int z])) := c4.trans (st5 _ (Steps.refl _))
  have c7 : Steps p.tables e below (s₁.setTop (entryFrame m #[.ref a, .ref b, .int (Int32.ofNat o), .int (Int32.ofNat len), .null] 6)) (T5.setTop (mkF m 36 #[.val (.ref a), .val (.ref b), .val (.int (Int32.ofNat o)), .val (.int (Int32.ofNat len)), .val .null, .unset] [.int (Int32.ofNat len), .int (Int32.ofNat o), .ref b])) := c6.trans (by
    refine XS.ifNo X5.here hexec rfl (hb hbytes d30) rfl (i0_eq_f hz) ?_
    refine XS.aloadN X5.here hexec rfl (hb hbytes d33) rfl rfl ?_
    refine XS.iloadN X5.here hexec rfl (hb hbytes d34) rfl ?_
    refine XS.iloadN X5.here hexec rfl (hb hbytes d35) rfl ?_
    exact Steps.refl _)
  obtain ⟨v8, T8, X8, E8, g8⟩ := X5.callS hexec (Cmp3.law l b A o len) hown (wks W (staticW "java/lang/String" 177 Cmp3.yN)) (wk W Cmp3.tab) (W := 0) (Nat.le_of_ble_eq_true rfl) (Nat.le_of_ble_eq_true rfl) (Nat.le_refl _) (by show 0 + len ≤ len; omega) (g := (mkF m 36 #[.val (.ref a), .val (.ref b), .val (.int (Int32.ofNat o)), .val (.int (Int32.ofNat len)), .val .null, .unset] [.int (Int32.ofNat len), .int (Int32.ofNat o), .ref b])) rfl (by rw [hml]; rfl) c7 (argsL := [.ref b, .int (Int32.ofNat o), .int (Int32.ofNat len)]) (rest := []) rfl rfl (by show 2 * 0 + 0 ≤ _; decide) (hb hbytes d36) (⟨rfl, hA.mv X5.warmed.alike hh5, l1, l2, hp⟩)
  obtain ⟨e8, z8⟩ := E8
  obtain ⟨rfl, N, n1, n2, n3, n4, n5, n6⟩ := NewArr.mv _ T5 s _ _ hh5.symm (Vm.Alike.refl _) rfl e8
  rw [hh5] at z8
  have hB1 := hB.keep X8.warmed.alike (n6 _ _ hB.1)
  have hne : s.heap.size ≠ a := (Nat.ne_of_lt (Array.getElem?_eq_some_iff.mp hB.1).1).symm
  have c9 : Steps p.tables e below (s₁.setTop (entryFrame m #[.ref a, .ref b, .int (Int32.ofNat o), .int (Int32.ofNat len), .null] 6)) (T8.setTop (mkF m 39 #[.val (.ref a), .val (.ref b), .val (.int (Int32.ofNat o)), .val (.int (Int32.ofNat len)), .val .null, .unset] [.ref s.heap.size])) := g8
  have c10 : Steps p.tables e below (s₁.setTop (entryFrame m #[.ref a, .ref b, .int (Int32.ofNat o), .int (Int32.ofNat len), .null] 6)) (T8.setTop (mkF m 45 #[.val (.ref a), .val (.ref b), .val (.int (Int32.ofNat o)), .val (.int (Int32.ofNat len)), .val .null, .val (.ref s.heap.size)] [.int (Int32.ofNat N.slots.size), .ref s.heap.size, .ref a])) := by
    have hc : Steps p.tables e below (s₁.setTop (entryFrame m #[.ref a, .ref b, .int (Int32.ofNat o), .int (Int32.ofNat len), .null] 6)) (T8.setTop (mkF m 45 #[.val (.ref a), .val (.ref b), .val (.int (Int32.ofNat o)), .val (.int (Int32.ofNat len)), .val .null, .val (.ref s.heap.size)] [.int (Int32.ofNat len), .ref s.heap.size, .ref a])) := c9.trans (by
      refine XS.astore X8.here hexec rfl (hb hbytes d39) rfl rfl rfl ?_
      refine XS.aloadN X8.here hexec rfl (hb hbytes d41) rfl rfl ?_
      refine XS.aload X8.here hexec rfl (hb hbytes d42) rfl rfl ?_
      refine XS.iloadN X8.here hexec rfl (hb hbytes d44) rfl ?_
      exact Steps.refl _)
    rw [n4]; exact hc
  obtain ⟨v11, T11, X11, E11, g11⟩ := X8.callS hexec (CodL.law l s.heap.size N) hown (wks W (staticW "java/lang/String" 47 CodL.yN)) (wk W CodL.tab) (W := 1) (Nat.le_of_ble_eq_true rfl) (Nat.le_of_ble_eq_true rfl) (Nat.le_refl _) (by show 0 + len + 0 ≤ len; omega) (g := (mkF m 45 #[.val (.ref a), .val (.ref b), .val (.int (Int32.ofNat o)), .val (.int (Int32.ofNat len)), .val .null, .val (.ref s.heap.size)] [.int (Int32.ofNat N.slots.size), .ref s.heap.size, .ref a])) rfl (by rw [hml]; rfl) c10 (argsL := [.ref s.heap.size, .int (Int32.ofNat N.slots.size)]) (rest := [.ref a]) rfl rfl (by show 2 * 0 + (1 + 0) ≤ _; decide) (hb hbytes d45) (⟨rfl, n1⟩)
  obtain ⟨rfl, q11⟩ := E11
  have hB11 := hB1.mv (X8.warmed.alike.symm.trans X11.warmed.alike) q11
  have c12 : Steps p.tables e below (s₁.setTop (entryFrame m #[.ref a, .ref b, .int (Int32.ofNat o), .int (Int32.ofNat len), .null] 6)) (T11.setTop (mkF m 48 #[.val (.ref a), .val (.ref b), .val (.int (Int32.ofNat o)), .val (.int (Int32.ofNat len)), .val .null, .val (.ref s.heap.size)] [.int 0, .ref a])) := g11
  obtain ⟨T13, X13, p13, bl13, sl13, st13⟩ := X11.finit hexec hown (wk W (.fieldLink "java/lang/String" 15 "java/lang/String" "coder" "B")) (Or.inr ⟨_, (wk W (.laysFinal "java/lang/String" "java/lang/String" "coder" "B"))⟩) (Or.inl ⟨rfl, hnm⟩) f2 (Or.inl rfl) hB11 (t := .byte) (by decide +kernel) rfl (g := (mkF m 48 #[.val (.ref a), .val (.ref b), .val (.int (Int32.ofNat o)), .val (.int (Int32.ofNat len)), .val .null, .val (.ref s.heap.size)] [.int 0, .ref a])) rfl (rest := []) rfl (hb hbytes d48)
  have c14 : Steps p.tables e below (s₁.setTop (entryFrame m #[.ref a, .ref b, .int (Int32.ofNat o), .int (Int32.ofNat len), .null] 6)) (T13.setTop (mkF m 54 #[.val (.ref a), .val (.ref b), .val (.int (Int32.ofNat o)), .val (.int (Int32.ofNat len)), .val .null, .val (.ref s.heap.size)] [.ref s.heap.size, .ref a])) := (c12.trans (st13 _ (Steps.refl _))).trans (by
    refine XS.aloadN X13.here hexec rfl (hb hbytes d51) rfl rfl ?_
    refine XS.aload X13.here hexec rfl (hb hbytes d52) rfl rfl ?_
    exact Steps.refl _)
  obtain ⟨T15, X15, p15, bl15, sl15, st15⟩ := X13.finit hexec hown (wk W (.fieldLink "java/lang/String" 9 "java/lang/String" "value" "[B")) (Or.inr ⟨_, (wk W (.laysFinal "java/lang/String" "java/lang/String" "value" "[B"))⟩) (Or.inl ⟨rfl, hnm⟩) f1 (Or.inl rfl) bl13 (t := (.array .byte)) (by decide +kernel) rfl (g := (mkF m 54 #[.val (.ref a), .val (.ref b), .val (.int (Int32.ofNat o)), .val (.int (Int32.ofNat len)), .val .null, .val (.ref s.heap.size)] [.ref s.heap.size, .ref a])) rfl (rest := []) rfl (hb hbytes d54)
  have c16 : Steps p.tables e below (s₁.setTop (entryFrame m #[.ref a, .ref b, .int (Int32.ofNat o), .int (Int32.ofNat len), .null] 6)) (T15.setTop (mkF m 57 #[.val (.ref a), .val (.ref b), .val (.int (Int32.ofNat o)), .val (.int (Int32.ofNat len)), .val .null, .val (.ref s.heap.size)] [])) := c14.trans (st15 _ (Steps.refl _))
  have ap := apart (Or.inr ⟨_, (wk W (.laysFinal "java/lang/String" "java/lang/String" "value" "[B"))⟩) (Or.inr ⟨_, (wk W (.laysFinal "java/lang/String" "java/lang/String" "coder" "B"))⟩) f1 f2 (t₁ := .array .byte) (t₂ := .byte) (by decide +kernel) (by decide +kernel) (by decide)
  have al := X8.warmed.alike.symm.trans X15.warmed.alike
  have n7 : T11.heap[s.heap.size]? = some N := by rw [q11]; exact n1.1
  exact ⟨T15, none, _, _, _, X15, by simp, rfl, by omega, (fun _ => rfl), ⟨rfl, _, N, bl15, ((Same.refl D _).set _ (by simp)).set _ (by simp), sl15, (Cell.slots_setSlot_ne _ ap).trans sl13, n1.keep al (p15.other hne (p13.other hne n7)), n2, by rw [al.findClass]; exact n3, n4, n5, fun y c h1 h2 => p15.other h1 (p13.other h1 (by rw [q11]; exact n6 y c h2)), by rw [p15.2.2, p13.2.2, q11]; exact z8⟩, fun fs hl => c16.trans (X15.returnOut hexec hret (hb hbytes d57) hl)⟩
end New4
namespace New1
def yN : MethodName := ⟨"java/lang/String", "<init>", "([C)V"⟩
abbrev yB : ByteArray := jdk_42_method_3_code
theorem d0 : decode yB 0 = .ok (.aload_n 0, 1) := by decide +kernel
theorem d1 : decode yB 1 = .ok (.aload_n 1, 1) := by decide +kernel
theorem d2 : decode yB 2 = .ok (.iconst 0, 1) := by decide +kernel
theorem d3 : decode yB 3 = .ok (.aload_n 1, 1) := by decide +kernel
theorem d4 : decode yB 4 = .ok (.arraylength, 1) := by decide +kernel
theorem d5 : decode yB 5 = .ok (.aconst_null, 1) := by decide +kernel
theorem d6 : decode yB 6 = .ok (.invokespecial 27, 3) := by decide +kernel
theorem d9 : decode yB 9 = .ok (.return_, 1) := by decide +kernel
def site : List Cond := [New4.tab] ++ initW "java/lang/String" 27 New4.yN
def tab : Cond := tabOf yN yB 2 none site
def P (a : Addr) (D : Cell) (fV fC : Field) (b : Addr) (A : Cell) (z : Int32) (args : Array Value) (s : State) : Prop := args = #[.ref a, .ref b] ∧ Blank "java/lang/String" a D s ∧ Found "java/lang/String" "value" "[B" fV s ∧ Found "java/lang/String" "coder" "B" fC s ∧ Ch b A s ∧ StaticIs s "java/lang/String" "COMPACT_STRINGS" "Z" (.int z) ∧ ¬ z = 0 ∧ 0 < A.slots.size ∧ A.slots.size ≤ 536870912 ∧ ∀ i, i < A.slots.size → ¬ 255 < cv A i
def E (a : Addr) (D : Cell) (fV fC : Field) (A : Cell) (r : Option Value) (s u : State) : Prop := Got a D fV fC A 0 A.slots.size r s u
/-- new String(chars), not empty, no char above 255: a Latin-1 String of their low bytes -/
theorem law (l : Launch) (a : Addr) (D : Cell) (fV fC : Field) (b : Addr) (A : Cell) (z : Int32) : Law l yN 2 1 3 52 yB 2 none site (P a D fV fC b A z) (E a D fV fC A) [⟨a, fC.slot⟩, ⟨a, fV.slot⟩] 1 A.slots.size := by
  refine Law.of_walk (plainFor_of_name (by decide +kernel)) (by decide +kernel) (by decide +kernel) (by decide) (fun _ _ h => by rw [h.1]; rfl) (fun _ U U' hal hh h => ⟨h.1, h.2.1.mv hal hh, h.2.2.1.al hal, h.2.2.2.1.al hal, h.2.2.2.2.1.mv hal hh, h.2.2.2.2.2.1.there hal hh, h.2.2.2.2.2.2⟩) (fun r U U' V V' h1 hal h2 h => Got.mv r U U' V V' h1 hal h2 h) ?_
  intro p e s m args below meth c s₁ X0 hexec hbytes hml hret hlk hnm hown hh0 W hP
  obtain ⟨rfl, hB, f1, f2, hA, s1, hz, l0, l2, hp⟩ := hP
  have c1 : Steps p.tables e below (s₁.setTop (entryFrame m #[.ref a, .ref b] 2)) (s₁.setTop (mkF m 0 #[.val (.ref a), .val (.ref b)] [])) := entry rfl
  have c2 : Steps p.tables e below (s₁.setTop (entryFrame m #[.ref a, .ref b] 2)) (s₁.setTop (mkF m 6 #[.val (.ref a), .val (.ref b)] [.null, .int (Int32.ofNat A.slots.size), .int 0, .ref b, .ref a])) := c1.trans (by
    refine XS.aloadN X0.here hexec rfl (hb hbytes d0) rfl rfl ?_
    refine XS.aloadN X0.here hexec rfl (hb hbytes d1) rfl rfl ?_
    refine iconstV X0.here hexec rfl 0 (hb hbytes d2) (by decide) ?_
    refine XS.aloadN X0.here hexec rfl (hb hbytes d3) rfl rfl ?_
    refine X0.alen hexec (hA.1.mv X0.warmed.alike hh0) rfl rfl (hb hbytes d4) ?_
    refine XS.aconstNull X0.here hexec rfl (hb hbytes d5) ?_
    exact Steps.refl _)
  obtain ⟨v3, T3, X3, E3, g3⟩ := X0.callN hexec (New4.law l a D fV fC b A z 0 A.slots.size) rfl hown (wks W (initW "java/lang/String" 27 New4.yN)) (W New4.tab (by simp only [site, List.mem_cons, List.mem_append, true_or, or_true])) (W := 0) (Nat.le_of_ble_eq_true rfl) (Nat.le_of_ble_eq_true rfl) (Nat.le_refl _) (by show 0 + A.slots.size ≤ A.slots.size; omega) (g := (mkF m 6 #[.val (.ref a), .val (.ref b)] [.null, .int (Int32.ofNat A.slots.size), .int (Int32.ofNat 0), .ref b, .ref a])) rfl (by rw [hml]; rfl) c2 (argsL := [.ref b, .int (Int32.ofNat 0), .int (Int32.ofNat A.slots.size), .null]) (rest := []) rfl rfl (by show 2 * 0 + 0 ≤ _; decide) (hb hbytes d6) (⟨rfl, hB.mv X0.warmed.alike hh0, f1.al X0.warmed.alike, f2.al X0.warmed.alike, hA.mv X0.warmed.alike hh0, s1.there X0.warmed.alike hh0, hz, l0, by omega, l2, fun i hi => by rw [Nat.zero_add]; exact hp i hi⟩)
  have e0 := Got.mv _ s₁ s _ _ hh0.symm (Vm.Alike.refl _) rfl E3
  obtain rfl := e0.1
  have c4 : Steps p.tables e below (s₁.setTop (entryFrame m #[.ref a, .ref b] 2)) (T3.setTop (mkF m 9 #[.val (.ref a), .val (.ref b)] [])) := g3
  exact ⟨T3, none, _, _, _, X3, by simp, rfl, by omega, (fun _ => rfl), e0, fun fs hl => c4.trans (X3.returnOut hexec hret (hb hbytes d9) hl)⟩
theorem pays {l : Launch} {R : Room} {p : Program} {e : Env} {below : List Frame} {s : State} {sargs : Array Value} {len W : Nat} (a : Addr) (D : Cell) (fV fC : Field) (b : Addr) (A : Cell) (z : Int32) (htab : tab.before sargs s = true) (hfr : 4 ≤ R.frames) (hlo : W + 65 ≤ R.locals) :
    Back l R p e below s sargs yN len W (fun A₁ a₁ => A₁.cells + 1 ≤ R.cells ∧ A₁.slots + A.slots.size ≤ R.slots ∧ P a D fV fC b A z a₁ A₁.U) (fun A₁ _ v₁ B₁ => E a D fV fC A v₁ A₁.U B₁.U ∧ B₁.locs = A₁.locs ++ [⟨a, fC.slot⟩, ⟨a, fV.slot⟩] ∧ B₁.cells = A₁.cells + 1 ∧ B₁.slots = A₁.slots + A.slots.size) :=
  (law l a D fV fC b A z).pays htab hfr (by omega)
end New1
/-- the byte, read back as charAt reads it, is the char -/
theorem lo8_mask {x : Int32} (h0 : ¬ x < 0) (h1 : ¬ 255 < x) : lo8 x &&& 255 = x := by
  have t : ∀ k : Fin 256, lo8 (Int32.ofNat k.val) &&& 255 = Int32.ofNat k.val := by decide +kernel
  rw [Int32.lt_iff_toInt_lt] at h0 h1
  have e0 : (0 : Int32).toInt = 0 := rfl
  have e1 : (255 : Int32).toInt = 255 := rfl
  obtain ⟨k, hk⟩ : ∃ k : Nat, x.toInt = k := ⟨x.toInt.toNat, by omega⟩
  have hx : x = Int32.ofNat k := Int32.toInt_inj.mp (by rw [hk, Int32.toInt_ofNat_small (by omega)])
  rw [hx]
  exact t ⟨k, by omega⟩
end StrChars
namespace StrChars.Road
open Jvm Sem ClassFile Op Lib Jvm.Stand Jvm.Free Jvm.Free.XT
open Jvm.Lib.Cold (StaticIs)
abbrev ST : String := "java/lang/String"
/-- every table word that New1's law asks, flat -/
abbrev words : List Jvm.Cond := [.code New1.yN New1.yB 2 none, .initialized ST, .methodLink ST 27 New4.yN, .instanceMethod New4.yN,
  .code New4.yN New4.yB 6 none, .fieldLink ST 38 ST "COMPACT_STRINGS" "Z", .laysFinal ST ST "value" "[B", .fieldLink ST 9 ST "value" "[B", .laysFinal ST ST "coder" "B", .fieldLink ST 15 ST "coder" "B",
  .methodLink ST 1 Lib.objectInit, .instanceMethod Lib.objectInit, .code Lib.objectInit ⟨#[0xb1]⟩ 1 none, .methodLink ST 177 Cmp3.yN, .static Cmp3.yN, .methodLink ST 47 CodL.yN, .static CodL.yN,
  .code Cmp3.yN Cmp3.yB 6 (some (.array .byte)), .initialized U16, .arrayClass .byte, .methodLink U16 115 Cmp5.yN, .static Cmp5.yN, .code Cmp5.yN Cmp5.yB 7 (some .int), .code CodL.yN CodL.yB 2 (some .byte)]
theorem tab_of {a : Array Value} {s : State} (h : ∀ w ∈ words, w.before a s = true) : New1.tab.before a s = true := by
  have h5 : Cmp5.tab.before a s = true := unparts (wk h (.code Cmp5.yN Cmp5.yB 7 (some .int))) (wks h (.initialized Cmp5.yN.cls :: Cmp5.site))
  have hc : CodL.tab.before a s = true := unparts (wk h (.code CodL.yN CodL.yB 2 (some .byte))) (wks h (.initialized CodL.yN.cls :: CodL.site))
  have q5 : ∀ w ∈ Cmp5.tab :: words, w.before a s = true := fun w hw => (List.mem_cons.mp hw).elim (fun e => e ▸ h5) (h w)
  have h3 : Cmp3.tab.before a s = true := unparts (wk q5 (.code Cmp3.yN Cmp3.yB 6 (some (.array .byte)))) (wks q5 (.initialized Cmp3.yN.cls :: Cmp3.site))
  have q3 : ∀ w ∈ Cmp3.tab :: CodL.tab :: words, w.before a s = true := fun w hw => (List.mem_cons.mp hw).elim (fun e => e ▸ h3) fun hw => (List.mem_cons.mp hw).elim (fun e => e ▸ hc) (h w)
  have h4 : New4.tab.before a s = true := unparts (wk q3 (.code New4.yN New4.yB 6 none)) (wks q3 (.initialized New4.yN.cls :: New4.site))
  have q4 : ∀ w ∈ New4.tab :: words, w.before a s = true := fun w hw => (List.mem_cons.mp hw).elim (fun e => e ▸ h4) (h w)
  exact unparts (wk q4 (.code New1.yN New1.yB 2 none)) (wks q4 (.initialized New1.yN.cls :: New1.site))
/-- the words ride from the start Z to the walk's own state -/
theorem moved {Z s : State} {a0 args : Array Value} (hZ : Z.Warmed39 s.vm) (hw : ∀ d ∈ words, d.before a0 Z = true) : ∀ d ∈ words, d.before args s = true := fun d hd => by
  have q := hw d hd
  have t : ∀ d ∈ words, d = .arrayClass .byte ∨ (d.onTables && d.keepsFace) = true := by decide +kernel
  rcases t d hd with rfl | t
  · exact RoadKit.mvA hZ q
  · exact RoadKit.mv hZ q t
/-- WHAT COMES BACK, over the tables of the start Z: h the heap at the call, h' behind it -/
def Q (Z : State) (x : Addr) (A : Cell) (h : Heap) (v : Option Value) (h' : Heap) (L : List Loc) : Prop := v = none ∧ (∀ y ∈ L, y.base = x) ∧ RoadKit.Keep h h' [x] ∧ h'.size = h.size + 1 ∧ RoadKit.Exa Z h' x ST ∧ RoadKit.Fld Z h' x ST "value" "[B" (.ref h.size) ∧ RoadKit.Fld Z h' x ST "coder" "B" (.int 0) ∧
  (∃ V : Cell, RoadKit.Arr Z h' h.size V .byte ∧ V.vm = .none ∧ Z.vm.findClass "[B" = some V.cls ∧ V.slots.size = A.slots.size ∧ ∀ j, j < A.slots.size → V.slots[j]? = some (.int (lo8 (cv A j)))) ∧
  ∀ (O n d : String) (w : Value), RoadKit.Fld Z h x O n d w → RoadKit.slotOf Z O n d ≠ RoadKit.slotOf Z ST "value" "[B" → RoadKit.slotOf Z O n d ≠ RoadKit.slotOf Z ST "coder" "B" → RoadKit.Fld Z h' x O n d w
/-- **new String(chars) AT A CALL, IN THE ROAD'S FORM**: for specialBack behind newO: x the fresh String, b the char[] with the cell A -/
theorem back {p : Program} {l : Launch} {e : Env} {R : Room} {s : State} {args : Array Value} {below : List Frame} {len W : Nat} {Z : State} {a0 : Array Value} {h : Heap} (hZ : Z.Warmed39 s.vm) (hw : ∀ d ∈ words, d.before a0 Z = true) {kI : Nat} (wi : (Jvm.Cond.instantiable ST kI).before a0 Z = true)
    {x b : Addr} {A : Cell} {z : Int32} {v0 c0 : Value} (E : RoadKit.Exa Z h x ST) (V : RoadKit.Fld Z h x ST "value" "[B" v0) (C : RoadKit.Fld Z h x ST "coder" "B" c0) (K : RoadKit.Arr Z h b A .char) (hty : Typed .char A) (S : RoadKit.Sta Z h ST "COMPACT_STRINGS" "Z" (.int z)) (hz : ¬ z = 0)
    (l0 : 0 < A.slots.size) (l2 : A.slots.size ≤ 536870912) (hp : ∀ i, i < A.slots.size → ¬ 255 < cv A i) (hfr : 4 ≤ R.frames) (hlo : W + 65 ≤ R.locals) :
    Back l R p e below s args New1.yN len W (fun P a => a = #[.ref x, .ref b] ∧ P.U.heap = h ∧ P.cells + 1 ≤ R.cells ∧ P.slots + A.slots.size ≤ R.slots)
      (fun P _ v B => ∃ L, Q Z x A h v B.U.heap L ∧ B.locs = P.locs ++ L ∧ B.cells = P.cells + 1 ∧ B.slots = P.slots + A.slots.size) := by
  intro m meth c P g ig mk a X hg hsize hdg hW hn hp'
  obtain ⟨rfl, rfl, r1, r2⟩ := hp'
  have al : Z.vm.Alike P.U.vm := hZ.alike.trans X.warmed.alike
  obtain ⟨D, cfV, kV, iV, fV, hD, gV, stV, knV, obV, asV, slV⟩ := id V
  obtain ⟨D', cfC, kC, iC, fC, hD', gC, stC, -, -, asC, slC⟩ := id C
  cases hD.symm.trans hD'
  obtain ⟨D2, kD, e1, e2, e3, e4, e5⟩ := id E
  cases hD.symm.trans e1
  obtain ⟨c2, k2, i1, i2, i3, -⟩ := Cond.instantiable_spec wi
  cases e2.symm.trans i1
  cases e3.symm.trans i2
  obtain ⟨kU, u1, u2⟩ := al.2.2 _ _ e3
  have hB : Blank ST x D P.U := ⟨hD, ⟨knV, fun q hq => by rw [hq] at obV; cases obV⟩, by rw [al.findClass]; exact e2, kU, u1, by rw [u2]; exact i3, by rw [u2]; exact e5 i3⟩
  have F1 : Found ST "value" "[B" fV P.U := ⟨SBG.found_only al ⟨cfV, kV, iV, gV⟩, stV⟩
  have F2 : Found ST "coder" "B" fC P.U := ⟨SBG.found_only al ⟨cfC, kC, iC, gC⟩, stC⟩
  have hA : Ch b A P.U := ⟨⟨K.1, State.isArrayOf_alike al K.2.1, K.2.2, by omega⟩, hty⟩
  have hS : StaticIs P.U ST "COMPACT_STRINGS" "Z" (.int z) := by
    obtain ⟨cfS, iS, kS, fS, st, cS, t1, t2, t3, t4, t5, t6, t7⟩ := S
    exact StaticIs.there (s := { Z with heap := P.U.heap }) ⟨cfS, iS, kS, fS, st, cS, t1, t2, t3, t4, t5, (fun q => by rw [q] at t6; cases t6), t7⟩ al rfl
  obtain ⟨v, B, X', ⟨⟨hv, E', V', q1, q2, q3, q4, q5, q6, q7, q8, q9, q10, q11⟩, hl, hc, hs⟩, st⟩ := New1.pays x D fV fC b A z (tab_of (moved hZ hw)) hfr hlo m meth c P g ig mk _ X hg hsize hdg hW hn ⟨r1, r2, rfl, hB, F1, F2, hA, hS, hz, l0, l2, hp⟩
  have al' : Z.vm.Alike B.U.vm := hZ.alike.trans X'.warmed.alike
  have hsz : E'.slots.size = D.slots.size := by
    obtain ⟨-, -, -, kB, w1, w2, w3⟩ := q1
    obtain ⟨kB', y1, y2⟩ := al'.2.2 _ _ e3
    rw [q2.2.1] at w1
    cases w1.symm.trans y1
    rw [w3, e5 i3, y2]
  refine ⟨v, B, X', ⟨_, ⟨hv, ?_, ⟨by omega, fun y cy hy hn' => q10 y cy (by simpa using hn') hy, fun y cy hy => ?_⟩, q11, ⟨E', _, q1.1, by rw [q2.2.1]; exact e2, by rw [q2.2.1]; exact e3, by rw [q2.1]; exact obV, fun _ => by rw [hsz]; exact e5 i3⟩,
    ⟨E', cfV, kV, iV, fV, q1.1, gV, stV, by rw [q2.1]; exact knV, by rw [q2.1]; exact obV, by rw [q2.2.1]; exact asV, q3⟩, ⟨E', cfC, kC, iC, fC, q1.1, gC, stC, by rw [q2.1]; exact knV, by rw [q2.1]; exact obV, by rw [q2.2.1]; exact asC, q4⟩,
    ⟨V', ⟨q5.1, State.isArrayOf_alike al'.symm q5.2.1, q5.2.2.1⟩, q6, by rw [← al'.findClass]; exact q7, q8, fun j hj => by have := q9 j hj; rwa [Nat.zero_add] at this⟩, fun O n d w F n1 n2 => ?_⟩, hl, hc, hs⟩, st⟩
  · intro y hy
    simp only [List.mem_cons, List.not_mem_nil, or_false] at hy
    rcases hy with rfl | rfl <;> rfl
  · by_cases q : y = x
    · subst q
      cases hD.symm.trans hy
      exact ⟨E', q1.1, q2.2.1, q2.1, hsz⟩
    · exact ⟨cy, q10 y cy q hy, rfl, rfl, rfl⟩
  · obtain ⟨D3, cf, k, i, f, g1, g2, g3, g4, g5, g6, g7⟩ := F
    cases hD.symm.trans g1
    simp only [RoadKit.slotOf, g2, gV, gC, Option.map_some, Option.getD_some] at n1 n2
    exact ⟨E', cf, k, i, f, q1.1, g2, g3, by rw [q2.1]; exact g4, by rw [q2.1]; exact g5, by rw [q2.2.1]; exact g6, by rw [q2.2.2 f.slot (by simp [n1, n2])]; exact g7⟩
end StrChars.Road
namespace StrChars.Road
open Jvm Sem ClassFile Op Lib Jvm.Stand Jvm.Free Jvm.Free.XT
/-- WHAT COMES BACK, the byte[] as a list of values -/
def QA (Z : State) (x : Addr) (zn : Int32) (cs : List Int32) (h : Heap) (v : Option Value) (h' : Heap) (L : List Loc) : Prop := v = none ∧ (∀ y ∈ L, y.base = x) ∧ RoadKit.Keep h h' [x] ∧ h'.size = h.size + 1 ∧ RoadKit.Exa Z h' x ST ∧ RoadKit.Fld Z h' x ST "value" "[B" (.ref h.size) ∧ RoadKit.Fld Z h' x ST "coder" "B" (.int 0) ∧
  (∃ kb, Z.vm.findClass "[B" = some kb ∧ RoadKit.Arv Z h' h.size kb .byte zn (cs.map fun c => .int (lo8 c)) (.int 0)) ∧
  ∀ (O n d : String) (w : Value), RoadKit.Fld Z h x O n d w → RoadKit.slotOf Z O n d ≠ RoadKit.slotOf Z ST "value" "[B" → RoadKit.slotOf Z O n d ≠ RoadKit.slotOf Z ST "coder" "B" → RoadKit.Fld Z h' x O n d w
/-- **new String(chars) AT A CALL, THE ARRAYS AS LISTS**: the char[] at b holds cs, not empty, no char above 255 -/
theorem backArv {p : Program} {l : Launch} {e : Env} {R : Room} {s : State} {args : Array Value} {below : List Frame} {len W : Nat} {Z : State} {a0 : Array Value} {h : Heap} (hZ : Z.Warmed39 s.vm) (hw : ∀ d ∈ words, d.before a0 Z = true) {kI : Nat} (wi : (Jvm.Cond.instantiable ST kI).before a0 Z = true)
    {x b : Addr} {k : ClassId} {zn z : Int32} {cs : List Int32} {dv v0 c0 : Value} (E : RoadKit.Exa Z h x ST) (V : RoadKit.Fld Z h x ST "value" "[B" v0) (C : RoadKit.Fld Z h x ST "coder" "B" c0) (K : RoadKit.Arv Z h b k .char zn (cs.map Value.int) dv) (S : RoadKit.Sta Z h ST "COMPACT_STRINGS" "Z" (.int z)) (hz : ¬ z = 0)
    (hlen : zn.toNatClampNeg = cs.length) (h0 : 0 < cs.length) (hbig : cs.length ≤ 536870912) (hall : ∀ c ∈ cs, ¬ 255 < c) (hfr : 4 ≤ R.frames) (hlo : W + 65 ≤ R.locals) :
    Back l R p e below s args New1.yN len W (fun P a => a = #[.ref x, .ref b] ∧ P.U.heap = h ∧ P.cells + 1 ≤ R.cells ∧ P.slots + cs.length ≤ R.slots)
      (fun P _ v B => ∃ L, QA Z x zn cs h v B.U.heap L ∧ B.locs = P.locs ++ L ∧ B.cells = P.cells + 1 ∧ B.slots = P.slots + cs.length) := by
  obtain ⟨A, K1, K2, K3, K4, K5, K6⟩ := K
  have e : A.slots.size = cs.length := K3.trans hlen
  have hat : ∀ (i : Nat) (hi : i < cs.length), A.slots[i]? = some (.int cs[i]) := fun i hi => by rw [K5 i (by omega)]; simp [List.getD_eq_getElem?_getD, hi]
  have hcv : ∀ (i : Nat) (hi : i < cs.length), cv A i = cs[i] := fun i hi => by unfold cv; rw [hat i hi]
  have hty : Typed .char A := fun i v hv => by
    have hi : i < A.slots.size := (Array.getElem?_eq_some_iff.mp hv).1
    have q := K5 i hi
    rw [hv] at q
    rw [Option.some.inj q]
    exact K6 i hi
  refine Back.mono (back hZ hw wi E V C K1 hty S hz (by omega) (by omega) (fun i hi => by rw [hcv i (by omega)]; exact hall _ (List.getElem_mem _)) hfr hlo) (fun P a hp => ⟨hp.1, hp.2.1, hp.2.2.1, by rw [e]; exact hp.2.2.2⟩) (fun P a v B hp hq => ?_)
  obtain ⟨L, ⟨q1, q2, q3, q4, q5, q6, q7, ⟨V', v1, v2, v3, v4, v5⟩, q9⟩, hl, hc, hs⟩ := hq
  refine ⟨L, ⟨q1, q2, q3, q4, q5, q6, q7, ⟨V'.cls, v3, V', v1, rfl, by rw [v4, e, hlen], K4, fun i hi => ?_, fun i hi => ?_⟩, q9⟩, hl, hc, by rw [hs, e]⟩
  · have hi' : i < cs.length := by omega
    rw [v5 i (by omega), hcv i hi']; simp [List.getD_eq_getElem?_getD, hi']
  · have hi' : i < cs.length := by omega
    simp only [List.getD_eq_getElem?_getD, List.getElem?_map, List.getElem?_eq_getElem hi', Option.map_some, Option.getD_some]
    exact fits_lo8 _
end StrChars.Road
namespace StrChars.Road
open Jvm Sem ClassFile Op Lib Jvm.Stand Jvm.Free Jvm.Free.XT
/-- WHAT COMES BACK, in the writer's own shape -/
def QV (Z : State) (x : Addr) (N : Int32) (bs : List Int32) (h : Heap) (n0 : Nat) (v : Option Value) (h' : Heap) (L : List Loc) : Prop := v = none ∧ RoadKit.Fr n0 L ∧ RoadKit.Keep h h' [x] ∧ RoadKit.Exa Z h' x ST ∧ RoadKit.Fld Z h' x ST "coder" "B" (.int 0) ∧
  ∃ (t : Addr) (kb : ClassId), n0 ≤ t ∧ h.size ≤ t ∧ ¬ t = x ∧ RoadKit.Fld Z h' x ST "value" "[B" (.ref t) ∧ RoadKit.Arv Z h' t kb .byte N (bs.map Value.int) (.int 0)
/-- **new String(chars) AT A CALL, FOR THE WRITER**: a char[] of n known ints, each 0 to 255 -/
theorem backV {p : Program} {l : Launch} {e : Env} {R : Room} {s : State} {args : Array Value} {below : List Frame} {len W : Nat} {Z : State} {a0 : Array Value} {h : Heap} (hZ : Z.Warmed39 s.vm) (hw : ∀ d ∈ words, d.before a0 Z = true) {kI : Nat} (wi : (Jvm.Cond.instantiable ST kI).before a0 Z = true)
    {x b : Addr} {kC : ClassId} {cs bs : List Int32} {d v0 c0 : Value} {z N : Int32} {n n0 : Nat} (hx0 : n0 ≤ x) (hh0 : n0 ≤ h.size) (E : RoadKit.Exa Z h x ST) (V : RoadKit.Fld Z h x ST "value" "[B" v0) (C : RoadKit.Fld Z h x ST "coder" "B" c0) (K : RoadKit.Arv Z h b kC .char N (cs.map Value.int) d) (S : RoadKit.Sta Z h ST "COMPACT_STRINGS" "Z" (.int z)) (hz : ¬ z = 0)
    (hn : cs.length = n) (hN : N = Int32.ofNat n) (l0 : 0 < n) (l2 : n ≤ 4000) (hp : ∀ c ∈ cs, ¬ c < 0 ∧ ¬ (255 : Int32) < c) (hb : bs = cs.map (fun c => c.toInt8.toInt32)) (hfr : 4 ≤ R.frames) (hlo : W + 65 ≤ R.locals) :
    Back l R p e below s args (⟨"java/lang/String", "<init>", "([C)V"⟩ : MethodName) len W (fun P a => a = #[.ref x, .ref b] ∧ P.U.heap = h ∧ P.cells + 1 ≤ R.cells ∧ P.slots + n ≤ R.slots)
      (fun P _ v B => ∃ L, QV Z x N bs h n0 v B.U.heap L ∧ B.locs = P.locs ++ L ∧ B.cells = P.cells + 1 ∧ B.slots = P.slots + n) := by
  subst hn hN hb
  refine Back.mono (backArv hZ hw wi E V C K S hz (n32 (by omega)) l0 (by omega) (fun c hc => (hp c hc).2) hfr hlo) (fun P a hp => hp) (fun P a v B hp hq => ?_)
  obtain ⟨L, ⟨q1, q2, q3, q4, q5, q6, q7, ⟨kb, v1, v2⟩, q9⟩, hl, hc, hs⟩ := hq
  exact ⟨L, ⟨q1, fun y hy => by rw [q2 y hy]; exact hx0, q3, q5, q7, h.size, kb, hh0, Nat.le_refl _, Nat.ne_of_gt E.lt, q6, by rw [List.map_map]; exact v2⟩, hl, hc, hs⟩
end StrChars.Road
namespace StrChars
open Jvm Sem ClassFile Op Lib Jvm.Stand Jvm.Free.XT Jvm.Free.ALB Jvm.Free.JM Jvm.Free
open Jvm.Lib.Cold (StaticIs)
def hi8 (x : Int32) : Int32 := lo8 (x >>> ((8 : Int32) &&& 31))
/-- what StringUTF16.getChar makes of two bytes -/
def pairCh (u v : Int32) : Int32 := (((u &&& 255) <<< ((0 : Int32) &&& 31)) ||| ((v &&& 255) <<< ((8 : Int32) &&& 31))).toUInt32.toUInt16.toUInt32.toInt32
theorem lo8_and (x : Int32) : (lo8 x &&& 255).toBitVec.toNat = x.toBitVec.toNat % 256 := by
  have h : (lo8 x).toBitVec = (x.toBitVec.signExtend 8).signExtend 32 := by rw [lo8, Int8.toBitVec_toInt32, Int32.toBitVec_toInt8]
  rw [Int32.toBitVec_and, BitVec.toNat_and, h]
  have e : ((x.toBitVec.signExtend 8).signExtend 32).toNat % 256 = x.toBitVec.toNat % 256 := by
    rw [BitVec.toNat_signExtend]
    have hlt := x.toBitVec.isLt
    simp only [BitVec.toNat_setWidth, BitVec.toNat_signExtend]
    split <;> split <;> omega
  rw [← e]
  exact Nat.and_two_pow_sub_one_eq_mod _ 8
theorem pair_says {c : Int32} (h0 : ¬ c < 0) (h1 : ¬ 65535 < c) : pairCh (lo8 c) (hi8 c) = c := by
  rw [Int32.lt_iff_toInt_lt] at h0 h1
  have e0 : (0 : Int32).toInt = 0 := rfl
  have e1 : (65535 : Int32).toInt = 65535 := rfl
  have hc : c.toInt = c.toBitVec.toNat := by
    have := c.toBitVec.isLt
    have e : c.toInt = c.toBitVec.toInt := rfl
    rw [e] at h0 h1
    rw [e]
    rw [BitVec.toInt_eq_toNat_cond] at h0 h1 ⊢
    split at h0 <;> split <;> omega
  have hn : c.toBitVec.toNat < 65536 := by omega
  have a1 := lo8_and c
  have a2 : (hi8 c &&& 255).toBitVec.toNat = c.toBitVec.toNat / 256 := by
    rw [hi8, lo8_and]
    have e : ((8 : Int32) &&& 31) = 8 := by decide
    rw [e, Int32.toBitVec_shiftRight]
    have e2 : ((8 : Int32).toBitVec.smod 32) = 8#32 := by decide
    rw [e2, BitVec.sshiftRight_eq', BitVec.toNat_sshiftRight_of_msb_false (by rw [BitVec.msb_eq_false_iff_two_mul_lt]; omega)]
    show c.toBitVec.toNat >>> 8 % 256 = _
    rw [Nat.shiftRight_eq_div_pow]
    omega
  unfold pairCh
  apply Int32.toBitVec_inj.mp
  apply BitVec.eq_of_toNat_eq
  have f0 : ((0 : Int32) &&& 31) = 0 := by decide
  have f8 : ((8 : Int32) &&& 31) = 8 := by decide
  rw [f0, f8]
  have g : (((lo8 c &&& 255) <<< (0 : Int32)) ||| ((hi8 c &&& 255) <<< (8 : Int32))).toBitVec.toNat = c.toBitVec.toNat := by
    rw [Int32.toBitVec_or, Int32.toBitVec_shiftLeft, Int32.toBitVec_shiftLeft]
    have s0 : ((0 : Int32).toBitVec.smod 32) = 0#32 := by decide
    have s8 : ((8 : Int32).toBitVec.smod 32) = 8#32 := by decide
    rw [s0, s8, BitVec.toNat_or]
    simp only [BitVec.shiftLeft_eq', BitVec.toNat_shiftLeft, a1, a2]
    show (c.toBitVec.toNat % 256) <<< 0 % 2 ^ 32 ||| (c.toBitVec.toNat / 256) <<< 8 % 2 ^ 32 = _
    rw [Nat.shiftLeft_zero, Nat.mod_eq_of_lt (show c.toBitVec.toNat % 256 < 2 ^ 32 by omega), Nat.mod_eq_of_lt (show (c.toBitVec.toNat / 256) <<< 8 < 2 ^ 32 by rw [Nat.shiftLeft_eq]; omega), Nat.or_comm, ← Nat.shiftLeft_add_eq_or_of_lt (by omega), Nat.shiftLeft_eq]
    omega
  show BitVec.toNat (((((lo8 c &&& 255) <<< (0 : Int32)) ||| ((hi8 c &&& 255) <<< (8 : Int32))).toBitVec.setWidth 16).setWidth 32) = _
  rw [BitVec.toNat_setWidth, BitVec.toNat_setWidth, g]
  omega
end StrChars
namespace StrChars
open Jvm Sem ClassFile Op Lib Jvm.Stand Jvm.Free.XT Jvm.Free.ALB Jvm.Free.JM Jvm.Free
open Jvm.Lib.Cold (StaticIs)
/-- the array's cell V codes the n chars f 0 .. f (n - 1) by the coder cd, as the JDK does: coder 1 just where some char is above 255 -/
def Cod (cd : Int32) (n : Nat) (f : Nat → Int32) (V : Cell) : Prop := (cd = 0 ∧ V.slots.size = n ∧ ∀ j, j < n → V.slots[j]? = some (.int (lo8 (f j))) ∧ ¬ 255 < f j) ∨ (cd = 1 ∧ V.slots.size = 2 * n ∧ (∀ j, j < n → V.slots[2 * j]? = some (.int (lo8 (f j))) ∧ V.slots[2 * j + 1]? = some (.int (hi8 (f j)))) ∧ ∃ j, j < n ∧ 255 < f j)
/-- **x is a String of the n chars f 0 .. f (n - 1)**, Latin-1 or UTF-16; its array at t has the cell V -/
def Txt (x t : Addr) (V : Cell) (cd : Int32) (n : Nat) (f : Nat → Int32) (U : State) : Prop := Exact "java/lang/String" x U ∧ Has x "java/lang/String" "value" "[B" (.ref t) U ∧ Has x "java/lang/String" "coder" "B" (.int cd) U ∧ XT.Arr .byte t V U ∧ Cod cd n f V ∧ ∀ j, j < n → ¬ f j < 0 ∧ ¬ 65535 < f j
theorem Txt.mv {x t : Addr} {V : Cell} {cd : Int32} {n : Nat} {f : Nat → Int32} {U U' : State} (h : Txt x t V cd n f U) (hal : U.vm.Alike U'.vm) (hh : U'.heap = U.heap) : Txt x t V cd n f U' := ⟨h.1.mv hal hh, h.2.1.mv hal hh, h.2.2.1.mv hal hh, h.2.2.2.1.mv hal hh, h.2.2.2.2⟩
end StrChars
namespace StrChars.Road
open Jvm Sem ClassFile Op Lib Jvm.Stand Jvm.Free Jvm.Free.XT
open Jvm.Lib.Cold (StaticIs)
theorem consq {a : Array Value} {s : State} {c : Jvm.Cond} {L : List Jvm.Cond} (h0 : c.before a s = true) (h : ∀ w ∈ L, w.before a s = true) : ∀ w ∈ c :: L, w.before a s = true := fun w hw => (List.mem_cons.mp hw).elim (fun e => e ▸ h0) (h w)
/-- the bytes of the chars cs, low before high -/
def wideBytes : List Int32 → List Value
  | [] => []
  | c :: cs => .int (lo8 c) :: .int (hi8 c) :: wideBytes cs
theorem wide_lo (d : Value) : ∀ (cs : List Int32) (j : Nat), j < cs.length → (wideBytes cs).getD (2 * j) d = .int (lo8 (cs.getD j 0))
  | [], j, h => absurd h (Nat.not_lt_zero j)
  | c :: cs, 0, _ => rfl
  | c :: cs, j + 1, h => by
    have q := wide_lo d cs j (by simpa using h)
    rw [show 2 * (j + 1) = 2 * j + 1 + 1 from by omega]
    simpa [wideBytes] using q
theorem wide_hi (d : Value) : ∀ (cs : List Int32) (j : Nat), j < cs.length → (wideBytes cs).getD (2 * j + 1) d = .int (hi8 (cs.getD j 0))
  | [], j, h => absurd h (Nat.not_lt_zero j)
  | c :: cs, 0, _ => rfl
  | c :: cs, j + 1, h => by
    have q := wide_hi d cs j (by simpa using h)
    rw [show 2 * (j + 1) + 1 = 2 * j + 1 + 1 + 1 from by omega]
    simpa [wideBytes] using q
theorem low_at (d : Value) (cs : List Int32) (j : Nat) (h : j < cs.length) : (cs.map fun c => Value.int (lo8 c)).getD j d = .int (lo8 (cs.getD j 0)) := by
  simp [List.getD_eq_getElem?_getD, h]
/-- an array of N2 bytes vs codes the chars cs by the coder cd -/
def CodA (cs : List Int32) (cd N2 : Int32) (vs : List Value) : Prop := (cd = 0 ∧ N2 = Int32.ofNat cs.length ∧ vs = (cs.map fun c => Value.int (lo8 c)) ∧ ∀ c ∈ cs, ¬ 255 < c) ∨ (cd = 1 ∧ N2 = Int32.ofNat (2 * cs.length) ∧ vs = wideBytes cs ∧ ∃ c ∈ cs, 255 < c)
theorem CodA.cod {cs : List Int32} {cd N2 : Int32} {vs : List Value} {V : Cell} (h : CodA cs cd N2 vs) (hn : 2 * cs.length < 2 ^ 31) (hs : V.slots.size = N2.toNatClampNeg) (hv : RoadKit.Has V vs (.int 0)) : Cod cd cs.length (fun j => cs.getD j 0) V := by
  rcases h with ⟨rfl, rfl, rfl, h⟩ | ⟨rfl, rfl, rfl, c, hc, hw⟩
  · rw [n32 (by omega)] at hs
    exact Or.inl ⟨rfl, hs, fun j hj => ⟨by rw [hv j (by omega), low_at _ _ _ hj], by
      have e : cs.getD j 0 = cs[j] := by simp [List.getD_eq_getElem?_getD, hj]
      show ¬ 255 < cs.getD j 0
      rw [e]; exact h _ (List.getElem_mem _)⟩⟩
  · rw [n32 (by omega)] at hs
    obtain ⟨j, hj, rfl⟩ := List.getElem_of_mem hc
    exact Or.inr ⟨rfl, hs, fun j hj => ⟨by rw [hv _ (by omega), wide_lo _ _ _ hj], by rw [hv _ (by omega), wide_hi _ _ _ hj]⟩, j, hj, by
      have e : cs.getD j 0 = cs[j] := by simp [List.getD_eq_getElem?_getD, hj]
      show 255 < cs.getD j 0
      rw [e]; exact hw⟩
/-- an object of exactly java/lang/String, its two fields found: as the laws ask it -/
theorem strObj {Z U : State} {a0 : Array Value} {kI : Nat} (wi : (Jvm.Cond.instantiable ST kI).before a0 Z = true) (al : Z.vm.Alike U.vm) {x : Addr} {v0 c0 : Value} (E : RoadKit.Exa Z U.heap x ST) (V : RoadKit.Fld Z U.heap x ST "value" "[B" v0) (C : RoadKit.Fld Z U.heap x ST "coder" "B" c0) :
    ∃ (D : Cell) (fV fC : Field), Blank ST x D U ∧ Found ST "value" "[B" fV U ∧ Found ST "coder" "B" fC U ∧ D.slots[fV.slot]? = some v0 ∧ D.slots[fC.slot]? = some c0 ∧ RoadKit.slotOf Z ST "value" "[B" = fV.slot ∧ RoadKit.slotOf Z ST "coder" "B" = fC.slot := by
  obtain ⟨D, cfV, kV, iV, fV, hD, gV, stV, knV, obV, asV, slV⟩ := V
  obtain ⟨D', cfC, kC, iC, fC, hD', gC, stC, -, -, asC, slC⟩ := C
  cases hD.symm.trans hD'
  obtain ⟨D2, kD, e1, e2, e3, e4, e5⟩ := E
  cases hD.symm.trans e1
  obtain ⟨c2, k2, i1, i2, i3, -⟩ := Cond.instantiable_spec wi
  cases e2.symm.trans i1
  cases e3.symm.trans i2
  obtain ⟨kU, u1, u2⟩ := al.2.2 _ _ e3
  exact ⟨D, fV, fC, ⟨hD, ⟨knV, fun q hq => by rw [hq] at obV; cases obV⟩, by rw [al.findClass]; exact e2, kU, u1, by rw [u2]; exact i3, by rw [u2]; exact e5 i3⟩, ⟨SBG.found_only al ⟨cfV, kV, iV, gV⟩, stV⟩, ⟨SBG.found_only al ⟨cfC, kC, iC, gC⟩, stC⟩, slV, slC, by simp [RoadKit.slotOf, gV], by simp [RoadKit.slotOf, gC]⟩
theorem sta_is {Z U : State} (al : Z.vm.Alike U.vm) {C n d : String} {v : Value} (S : RoadKit.Sta Z U.heap C n d v) : StaticIs U C n d v := by
  obtain ⟨cfS, iS, kS, fS, st, cS, t1, t2, t3, t4, t5, t6, t7⟩ := S
  exact StaticIs.there (s := { Z with heap := U.heap }) ⟨cfS, iS, kS, fS, st, cS, t1, t2, t3, t4, t5, (fun q => by rw [q] at t6; cases t6), t7⟩ al rfl
end StrChars.Road
namespace StrChars
open Jvm Sem ClassFile Op Lib Jvm.Stand Jvm.Free.XT Jvm.Free.ALB Jvm.Free.JM Jvm.Free
open Jvm.Lib.Cold (StaticIs)
/-- what place i of a byte[]'s cell holds -/
def yv (A : Cell) (i : Nat) : Int32 := match A.slots[i]? with | some (.int x) => x | _ => 0
theorem yv_get {a : Addr} {A : Cell} {U : State} (h : XT.Arr .byte a A U) (ht : Typed .byte A) {i : Nat} (hi : i < A.slots.size) : A.slots[i]? = some (.int (yv A i)) := by
  have e := Array.getElem?_eq_getElem hi
  have f := ht i _ e
  unfold yv; rw [e]
  generalize A.slots[i] = v at f
  cases v <;> simp [fits] at f ⊢
/-- the two arrays are equal, place for place -/
def EqC (A B : Cell) : Prop := A.slots.size = B.slots.size ∧ ∀ i, i < A.slots.size → yv A i = yv B i
/-- a boolean that says whether p -/
def Says01 (q : Prop) (r : Option Value) (s u : State) : Prop := ∃ v : Int32, r = some (.int v) ∧ u.heap = s.heap ∧ ((v = 1 ∧ q) ∨ (v = 0 ∧ ¬ q))
theorem Says01.mv {q : Prop} : ∀ r (U U' V V' : State), U'.heap = U.heap → V.vm.Alike V'.vm → V'.heap = V.heap → Says01 q r U V → Says01 q r U' V' :=
  fun r U U' V V' h1 _ h2 ⟨v, a, b, c⟩ => ⟨v, a, by rw [h1, h2]; exact b, c⟩
namespace LEq
def yN : MethodName := ⟨"java/lang/StringLatin1", "equals", "([B[B)Z"⟩
abbrev yB : ByteArray := jdk_43_method_13_code
theorem d0 : decode yB 0 = .ok (.aload_n 0, 1) := by decide +kernel
theorem d1 : decode yB 1 = .ok (.arraylength, 1) := by decide +kernel
theorem d2 : decode yB 2 = .ok (.aload_n 1, 1) := by decide +kernel
theorem d3 : decode yB 3 = .ok (.arraylength, 1) := by decide +kernel
theorem d4 : decode yB 4 = .ok (.if_icmp (.ne) 30, 3) := by decide +kernel
theorem d7 : decode yB 7 = .ok (.iconst 0, 1) := by decide +kernel
theorem d8 : decode yB 8 = .ok (.istore_n 2, 1) := by decide +kernel
theorem d9 : decode yB 9 = .ok (.iload_n 2, 1) := by decide +kernel
theorem d10 : decode yB 10 = .ok (.aload_n 0, 1) := by decide +kernel
theorem d11 : decode yB 11 = .ok (.arraylength, 1) := by decide +kernel
theorem d12 : decode yB 12 = .ok (.if_icmp (.ge) 20, 3) := by decide +kernel
theorem d15 : decode yB 15 = .ok (.aload_n 0, 1) := by decide +kernel
theorem d16 : decode yB 16 = .ok (.iload_n 2, 1) := by decide +kernel
theorem d17 : decode yB 17 = .ok (.baload, 1) := by decide +kernel
theorem d18 : decode yB 18 = .ok (.aload_n 1, 1) := by decide +kernel
theorem d19 : decode yB 19 = .ok (.iload_n 2, 1) := by decide +kernel
theorem d20 : decode yB 20 = .ok (.baload, 1) := by decide +kernel
theorem d21 : decode yB 21 = .ok (.if_icmp (.eq) 5, 3) := by decide +kernel
theorem d24 : decode yB 24 = .ok (.iconst 0, 1) := by decide +kernel
theorem d25 : decode yB 25 = .ok (.ireturn, 1) := by decide +kernel
theorem d26 : decode yB 26 = .ok (.iinc 2 1, 3) := by decide +kernel
theorem d29 : decode yB 29 = .ok (.goto (-20), 3) := by decide +kernel
theorem d32 : decode yB 32 = .ok (.iconst 1, 1) := by decide +kernel
theorem d33 : decode yB 33 = .ok (.ireturn, 1) := by decide +kernel
theorem d34 : decode yB 34 = .ok (.iconst 0, 1) := by decide +kernel
theorem d35 : decode yB 35 = .ok (.ireturn, 1) := by decide +kernel
def site : List Cond := []
def tab : Cond := tabOf yN yB 3 (some .boolean) site
def P (a : Addr) (A : Cell) (b : Addr) (B : Cell) (args : Array Value) (s : State) : Prop := args = #[.ref a, .ref b] ∧ XT.Arr .byte a A s ∧ Typed .byte A ∧ XT.Arr .byte b B s ∧ Typed .byte B
/-- whether two byte[] are equal, place for place -/
theorem law (l : Launch) (a : Addr) (A : Cell) (b : Addr) (B : Cell) : Law l yN 2 2 0 0 yB 3 (some .boolean) site (P a A b B) (Says01 (EqC A B)) [] 0 0 := by
  refine Law.of_walk (plainFor_of_name (by decide +kernel)) (by decide +kernel) (by decide +kernel) (by decide) (fun _ _ h => by rw [h.1]; rfl) (fun _ U U' hal hh h => ⟨h.1, h.2.1.mv hal hh, h.2.2.1, h.2.2.2.1.mv hal hh, h.2.2.2.2⟩) (fun r U U' V V' h1 hal h2 h => Says01.mv r U U' V V' h1 hal h2 h) ?_
  intro p e s m args below meth c s₁ X0 hexec hbytes hml hret hlk hnm hown hh0 W hP
  obtain ⟨rfl, hA, tA, hB, tB⟩ := hP
  have a31 := hA.2.2.2
  have b31 := hB.2.2.2
  have hA0 := hA.mv X0.warmed.alike hh0
  have hB0 := hB.mv X0.warmed.alike hh0
  have c1 : Steps p.tables e below (s₁.setTop (entryFrame m #[.ref a, .ref b] 3)) (s₁.setTop (mkF m 0 #[.val (.ref a), .val (.ref b), .unset] [])) := entry rfl
  have c2 : Steps p.tables e below (s₁.setTop (entryFrame m #[.ref a, .ref b] 3)) (s₁.setTop (mkF m 4 #[.val (.ref a), .val (.ref b), .unset] [.int (Int32.ofNat B.slots.size), .int (Int32.ofNat A.slots.size)])) := c1.trans (by
    refine XS.aloadN X0.here hexec rfl (hb hbytes d0) rfl rfl ?_
    refine X0.alen hexec hA0 rfl rfl (hb hbytes d1) ?_
    refine XS.aloadN X0.here hexec rfl (hb hbytes d2) rfl rfl ?_
    refine X0.alen hexec hB0 rfl rfl (hb hbytes d3) ?_
    exact Steps.refl _)
  by_cases hs : A.slots.size = B.slots.size
  · have c3 : Steps p.tables e below (s₁.setTop (entryFrame m #[.ref a, .ref b] 3)) (s₁.setTop (mkF m 9 #[.val (.ref a), .val (.ref b), .val (.int 0)] [])) := c2.trans (by
      refine XS.icmpNo X0.here hexec rfl (hb hbytes d4) rfl (ii_ne_f (by rw [hs])) ?_
      refine iconstV X0.here hexec rfl 0 (hb hbytes d7) (by decide) ?_
      refine XS.istoreN X0.here hexec rfl (hb hbytes d8) rfl rfl ?_
      exact Steps.refl _)
    have loop : ∀ (r i : Nat), i + r = A.slots.size → (∀ j, j < i → yv A j = yv B j) → Steps p.tables e below (s₁.setTop (entryFrame m #[.ref a, .ref b] 3)) (s₁.setTop (mkF m 9 #[.val (.ref a), .val (.ref b), .val (.int (Int32.ofNat i))] [])) → ∃ (pc : Nat) (Ls : Array Slot) (v : Int32), (pc = 25 ∨ pc = 33) ∧ ((v = 1 ∧ EqC A B) ∨ (v = 0 ∧ ¬ EqC A B)) ∧ Steps p.tables e below (s₁.setTop (entryFrame m #[.ref a, .ref b] 3)) (s₁.setTop (mkF m pc Ls [.int v])) := by
      intro r
      induction r with
      | zero =>
        intro i hi he cl
        exact ⟨33, _, 1, Or.inr rfl, Or.inl ⟨rfl, hs, fun j hj => he j (by omega)⟩, cl.trans (by
          refine XS.iloadN X0.here hexec rfl (hb hbytes d9) rfl ?_
          refine XS.aloadN X0.here hexec rfl (hb hbytes d10) rfl rfl ?_
          refine X0.alen hexec hA0 rfl rfl (hb hbytes d11) ?_
          refine XS.icmpYes X0.here hexec rfl (pc0 := 12) rfl (hb hbytes d12) rfl (ii_ge_t (nlt32 (by omega) (by omega))) (by decide) rfl ?_
          refine iconstV X0.here hexec rfl 1 (hb hbytes d32) (by decide) ?_
          exact Steps.refl _)⟩
      | succ r ih =>
        intro i hi he cl
        have c4 : Steps p.tables e below (s₁.setTop (entryFrame m #[.ref a, .ref b] 3)) (s₁.setTop (mkF m 21 #[.val (.ref a), .val (.ref b), .val (.int (Int32.ofNat i))] [.int (yv B i), .int (yv A i)])) := cl.trans (by
          refine XS.iloadN X0.here hexec rfl (hb hbytes d9) rfl ?_
          refine XS.aloadN X0.here hexec rfl (hb hbytes d10) rfl rfl ?_
          refine X0.alen hexec hA0 rfl rfl (hb hbytes d11) ?_
          refine XS.icmpNo X0.here hexec rfl (hb hbytes d12) rfl (ii_ge_f (lt32 (by omega) (by omega))) ?_
          refine XS.aloadN X0.here hexec rfl (hb hbytes d15) rfl rfl ?_
          refine XS.iloadN X0.here hexec rfl (hb hbytes d16) rfl ?_
          refine X0.aget hexec hA0 rfl (yv_get hA tA (i := i) (by omega)) rfl rfl (hb hbytes d17) ?_
          refine XS.aloadN X0.here hexec rfl (hb hbytes d18) rfl rfl ?_
          refine XS.iloadN X0.here hexec rfl (hb hbytes d19) rfl ?_
          refine X0.aget hexec hB0 rfl (yv_get hB tB (i := i) (by omega)) rfl rfl (hb hbytes d20) ?_
          exact Steps.refl _)
        by_cases hv : yv A i = yv B i
        · have c5 : Steps p.tables e below (s₁.setTop (entryFrame m #[.ref a, .ref b] 3)) (s₁.setTop (mkF m 9 #[.val (.ref a), .val (.ref b), .val (.int (Int32.ofNat i + 1))] [])) := c4.trans (by
            refine XS.icmpYes X0.here hexec rfl (pc0 := 21) rfl (hb hbytes d21) rfl (ii_eq_t hv) (by decide) rfl ?_
            refine iincV X0.here hexec rfl 1 (hb hbytes d26) (by decide) rfl rfl ?_
            refine XS.goto X0.here hexec rfl (pc0 := 29) rfl (hb hbytes d29) (by decide) rfl ?_
            exact Steps.refl _)
          rw [succ32] at c5
          exact ih (i + 1) (by omega) (fun j hj => by
            by_cases e : j = i
            · rw [e]; exact hv
            · exact he j (by omega)) c5
        · exact ⟨25, _, 0, Or.inl rfl, Or.inr ⟨rfl, fun q => hv (q.2 i (by omega))⟩, c4.trans (by
            refine XS.icmpNo X0.here hexec rfl (hb hbytes d21) rfl (ii_eq_f hv) ?_
            refine iconstV X0.here hexec rfl 0 (hb hbytes d24) (by decide) ?_
            exact Steps.refl _)⟩
    obtain ⟨pc, Ls, v, hpc, hv, cz⟩ := loop A.slots.size 0 (by omega) (fun j hj => absurd hj (Nat.not_lt_zero j)) c3
    have nv : narrow .boolean (.int v) = .int v := by rcases hv with ⟨rfl, -⟩ | ⟨rfl, -⟩ <;> rfl
    rcases hpc with rfl | rfl
    · exact ⟨s₁, some (.int v), _, _, _, X0, rfl, rfl, rfl, (fun h => by cases h), ⟨v, rfl, hh0, hv⟩, fun fs hl => cz.trans (X0.ireturnOut hexec hret nv (Or.inr (Or.inl rfl)) (hb hbytes d25) hl)⟩
    · exact ⟨s₁, some (.int v), _, _, _, X0, rfl, rfl, rfl, (fun h => by cases h), ⟨v, rfl, hh0, hv⟩, fun fs hl => cz.trans (X0.ireturnOut hexec hret nv (Or.inr (Or.inl rfl)) (hb hbytes d33) hl)⟩
  · have c3 : Steps p.tables e below (s₁.setTop (entryFrame m #[.ref a, .ref b] 3)) (s₁.setTop (mkF m 35 #[.val (.ref a), .val (.ref b), .unset] [.int 0])) := c2.trans (by
      refine XS.icmpYes X0.here hexec rfl (pc0 := 4) rfl (hb hbytes d4) rfl (ii_ne_t (ne32 a31 b31 hs)) (by decide) rfl ?_
      refine iconstV X0.here hexec rfl 0 (hb hbytes d34) (by decide) ?_
      exact Steps.refl _)
    exact ⟨s₁, some (.int 0), _, _, _, X0, rfl, rfl, rfl, (fun h => by cases h), ⟨0, rfl, hh0, Or.inr ⟨rfl, fun q => hs q.1⟩⟩, fun fs hl => c3.trans (X0.ireturnOut hexec hret rfl (Or.inr (Or.inl rfl)) (hb hbytes d35) hl)⟩
end LEq
theorem Cod.ty {cd : Int32} {n : Nat} {f : Nat → Int32} {V : Cell} (h : Cod cd n f V) : Typed .byte V := fun i v hv => by
  have hi : i < V.slots.size := (Array.getElem?_eq_some_iff.mp hv).1
  rcases h with ⟨-, k1, k2⟩ | ⟨-, k1, k2, -⟩
  · rw [(k2 i (by omega)).1] at hv; cases hv; exact fits_lo8 _
  · rcases Nat.mod_two_eq_zero_or_one i with e | e
    · obtain ⟨j, rfl⟩ : ∃ j, i = 2 * j := ⟨i / 2, by omega⟩
      rw [(k2 j (by omega)).1] at hv; cases hv; exact fits_lo8 _
    · obtain ⟨j, rfl⟩ : ∃ j, i = 2 * j + 1 := ⟨i / 2, by omega⟩
      rw [(k2 j (by omega)).2] at hv; cases hv; exact fits_lo8 _
/-- the same text -/
def SameT (n : Nat) (f : Nat → Int32) (k : Nat) (g : Nat → Int32) : Prop := n = k ∧ ∀ j, j < n → f j = g j
theorem lo8_inj {x y : Int32} (h0 : ¬ x < 0) (h1 : ¬ 255 < x) (k0 : ¬ y < 0) (k1 : ¬ 255 < y) (h : lo8 x = lo8 y) : x = y := by
  rw [← lo8_mask h0 h1, ← lo8_mask k0 k1, h]
/-- arrays coded by one coder are equal just where the texts are -/
theorem Cod.eqv {cd : Int32} {n k : Nat} {f g : Nat → Int32} {V V' : Cell} (h : Cod cd n f V) (h' : Cod cd k g V') (hf : ∀ j, j < n → ¬ f j < 0 ∧ ¬ 65535 < f j) (hg : ∀ j, j < k → ¬ g j < 0 ∧ ¬ 65535 < g j) : EqC V V' ↔ SameT n f k g := by
  have yvv : ∀ {W : Cell} {i : Nat} {x : Int32}, W.slots[i]? = some (.int x) → yv W i = x := fun q => by unfold yv; rw [q]
  rcases h with ⟨rfl, k1, k2⟩ | ⟨rfl, k1, k2, -⟩
  · rcases h' with ⟨-, m1, m2⟩ | ⟨e, -⟩
    · constructor
      · rintro ⟨e1, e2⟩
        refine ⟨by omega, fun j hj => ?_⟩
        have q := e2 j (by omega)
        rw [yvv (k2 j hj).1, yvv (m2 j (by omega)).1] at q
        exact lo8_inj (hf j hj).1 (k2 j hj).2 (hg j (by omega)).1 (m2 j (by omega)).2 q
      · rintro ⟨rfl, e2⟩
        refine ⟨by omega, fun j hj => ?_⟩
        rw [yvv (k2 j (by omega)).1, yvv (m2 j (by omega)).1, e2 j (by omega)]
    · exact absurd e (by decide)
  · rcases h' with ⟨e, -⟩ | ⟨-, m1, m2, -⟩
    · exact absurd e (by decide)
    · constructor
      · rintro ⟨e1, e2⟩
        refine ⟨by omega, fun j hj => ?_⟩
        have q1 := e2 (2 * j) (by omega)
        have q2 := e2 (2 * j + 1) (by omega)
        rw [yvv (k2 j hj).1, yvv (m2 j (by omega)).1] at q1
        rw [yvv (k2 j hj).2, yvv (m2 j (by omega)).2] at q2
        rw [← pair_says (hf j hj).1 (hf j hj).2, ← pair_says (hg j (by omega)).1 (hg j (by omega)).2, q1, q2]
      · rintro ⟨rfl, e2⟩
        refine ⟨by omega, fun i hi => ?_⟩
        rcases Nat.mod_two_eq_zero_or_one i with e | e
        · obtain ⟨j, rfl⟩ : ∃ j, i = 2 * j := ⟨i / 2, by omega⟩
          rw [yvv (k2 j (by omega)).1, yvv (m2 j (by omega)).1, e2 j (by omega)]
        · obtain ⟨j, rfl⟩ : ∃ j, i = 2 * j + 1 := ⟨i / 2, by omega⟩
          rw [yvv (k2 j (by omega)).2, yvv (m2 j (by omega)).2, e2 j (by omega)]
/-- two codings differ: so do the texts -/
theorem Cod.dif {cd cd' : Int32} {n k : Nat} {f g : Nat → Int32} {V V' : Cell} (h : Cod cd n f V) (h' : Cod cd' k g V') (hne : ¬ cd = cd') : ¬ SameT n f k g := by
  rintro ⟨rfl, e⟩
  rcases h with ⟨rfl, -, k2⟩ | ⟨rfl, -, -, j, hj, hw⟩
  · rcases h' with ⟨rfl, -⟩ | ⟨-, -, -, j, hj, hw⟩
    · exact hne rfl
    · exact (k2 j hj).2 (by rw [e j hj]; exact hw)
  · rcases h' with ⟨-, -, m2⟩ | ⟨rfl, -⟩
    · exact (m2 j hj).2 (by rw [← e j hj]; exact hw)
    · exact hne rfl
/-- an object of exactly C is an instance of C -/
theorem cinst {p : Program} {l : Launch} {e : Env} {R : Room} {s : State} {m : MethodId} {args : Array Value} {below : List Frame} {meth : Method} {c : Code} {T : State} {locs : List Loc} {cells slots : Nat} (X : Stand p l e R s m args below meth c T locs cells slots) (hexec : p.tables.exec = Jvm.exec) {own C : String} {index : Nat} (hown : s.vm.findClass own = some m.cls) (hlink : (Cond.classLink own index C).before args s = true) {a : Addr} (hE : Exact C a T)
    {g : JFrame} (hg : g.method = m) {rest : List Value} (hstack : g.stack = .ref a :: rest) (hdg : decode c.code g.pc = .ok (.instanceof index, 3)) :
    ∃ T', Stand p l e R s m args below meth c T' locs cells slots ∧ T'.heap = T.heap ∧ ∀ target, Steps p.tables e below (T'.setTop { g with pc := g.pc + 3, stack := .int 1 :: rest }) target → Steps p.tables e below (T.setTop g) target := by
  obtain ⟨cB, h1, D, h2, h3, h4⟩ := hE
  have h1' : s.vm.findClass C = some cB := by rw [← X.warmed.alike.findClass]; exact h1
  obtain ⟨vm', X', st⟩ := X.instanceofYes hexec hown hlink h2 h4 h1' (by rw [h3]; exact Jvm.Free.SB.assignable_self _ _) hg hstack hdg
  exact ⟨_, X', rfl, st⟩
theorem cself {p : Program} {l : Launch} {e : Env} {R : Room} {s : State} {m : MethodId} {args : Array Value} {below : List Frame} {meth : Method} {c : Code} {T : State} {locs : List Loc} {cells slots : Nat} (X : Stand p l e R s m args below meth c T locs cells slots) (hexec : p.tables.exec = Jvm.exec) {own C : String} {index : Nat} (hown : s.vm.findClass own = some m.cls) (hlink : (Cond.classLink own index C).before args s = true) {a : Addr} (hE : Exact C a T)
    {g : JFrame} (hg : g.method = m) {rest : List Value} (hstack : g.stack = .ref a :: rest) (hdg : decode c.code g.pc = .ok (.checkcast index, 3)) :
    ∃ T', Stand p l e R s m args below meth c T' locs cells slots ∧ T'.heap = T.heap ∧ ∀ target, Steps p.tables e below (T'.setTop { g with pc := g.pc + 3, stack := .ref a :: rest }) target → Steps p.tables e below (T.setTop g) target := by
  obtain ⟨cB, h1, D, h2, h3, h4⟩ := hE
  have h1' : s.vm.findClass C = some cB := by rw [← X.warmed.alike.findClass]; exact h1
  obtain ⟨vm', X', st⟩ := X.checkcastYes hexec hown hlink h2 h4 h1' (by rw [h3]; exact Jvm.Free.SB.assignable_self _ _) hg hstack hdg
  exact ⟨_, X', rfl, fun t h => st t (by rw [← hstack] at h; exact h)⟩
namespace SEq
def yN : MethodName := ⟨"java/lang/String", "equals", "(Ljava/lang/Object;)Z"⟩
abbrev yB : ByteArray := jdk_42_method_66_code
theorem d0 : decode yB 0 = .ok (.aload_n 0, 1) := by decide +kernel
theorem d1 : decode yB 1 = .ok (.aload_n 1, 1) := by decide +kernel
theorem d2 : decode yB 2 = .ok (.if_acmp (.ne) 5, 3) := by decide +kernel
theorem d5 : decode yB 5 = .ok (.iconst 1, 1) := by decide +kernel
theorem d6 : decode yB 6 = .ok (.ireturn, 1) := by decide +kernel
theorem d7 : decode yB 7 = .ok (.aload_n 1, 1) := by decide +kernel
theorem d8 : decode yB 8 = .ok (.instanceof 10, 3) := by decide +kernel
theorem d11 : decode yB 11 = .ok (.ifCond (.eq) 43, 3) := by decide +kernel
theorem d14 : decode yB 14 = .ok (.aload_n 1, 1) := by decide +kernel
theorem d15 : decode yB 15 = .ok (.checkcast 10, 3) := by decide +kernel
theorem d18 : decode yB 18 = .ok (.astore_n 2, 1) := by decide +kernel
theorem d19 : decode yB 19 = .ok (.getstatic 38, 3) := by decide +kernel
theorem d22 : decode yB 22 = .ok (.ifCond (.eq) 14, 3) := by decide +kernel
theorem d25 : decode yB 25 = .ok (.aload_n 0, 1) := by decide +kernel
theorem d26 : decode yB 26 = .ok (.getfield 15, 3) := by decide +kernel
theorem d29 : decode yB 29 = .ok (.aload_n 2, 1) := by decide +kernel
theorem d30 : decode yB 30 = .ok (.getfield 15, 3) := by decide +kernel
theorem d33 : decode yB 33 = .ok (.if_icmp (.ne) 21, 3) := by decide +kernel
theorem d36 : decode yB 36 = .ok (.aload_n 0, 1) := by decide +kernel
theorem d37 : decode yB 37 = .ok (.getfield 9, 3) := by decide +kernel
theorem d40 : decode yB 40 = .ok (.aload_n 2, 1) := by decide +kernel
theorem d41 : decode yB 41 = .ok (.getfield 9, 3) := by decide +kernel
theorem d44 : decode yB 44 = .ok (.invokestatic 541, 3) := by decide +kernel
theorem d47 : decode yB 47 = .ok (.ifCond (.eq) 7, 3) := by decide +kernel
theorem d50 : decode yB 50 = .ok (.iconst 1, 1) := by decide +kernel
theorem d51 : decode yB 51 = .ok (.goto 4, 3) := by decide +kernel
theorem d54 : decode yB 54 = .ok (.iconst 0, 1) := by decide +kernel
theorem d55 : decode yB 55 = .ok (.ireturn, 1) := by decide +kernel
def site : List Cond := [.classLink "java/lang/String" 10 "java/lang/String", .fieldLink "java/lang/String" 38 "java/lang/String" "COMPACT_STRINGS" "Z", .fieldLink "java/lang/String" 15 "java/lang/String" "coder" "B", .fieldLink "java/lang/String" 9 "java/lang/String" "value" "[B", LEq.tab] ++ staticW "java/lang/String" 541 LEq.yN
def tab : Cond := tabOf yN yB 3 (some .boolean) site
def P (x t : Addr) (V : Cell) (cd : Int32) (n : Nat) (f : Nat → Int32) (y t' : Addr) (V' : Cell) (cd' : Int32) (k : Nat) (g : Nat → Int32) (z : Int32) (args : Array Value) (s : State) : Prop := args = #[.ref x, .ref y] ∧ Txt x t V cd n f s ∧ Txt y t' V' cd' k g s ∧ StaticIs s "java/lang/String" "COMPACT_STRINGS" "Z" (.int z) ∧ ¬ z = 0
/-- equals(Object) of two Strings: whether the texts are the same -/
theorem law (l : Launch) (x t : Addr) (V : Cell) (cd : Int32) (n : Nat) (f : Nat → Int32) (y t' : Addr) (V' : Cell) (cd' : Int32) (k : Nat) (g : Nat → Int32) (z : Int32) : Law l yN 2 1 1 14 yB 3 (some .boolean) site (P x t V cd n f y t' V' cd' k g z) (Says01 (SameT n f k g)) [] 0 0 := by
  refine Law.of_walk (plainFor_of_name (by decide +kernel)) (by decide +kernel) (by decide +kernel) (by decide) (fun _ _ h => by rw [h.1]; rfl) (fun _ U U' hal hh h => ⟨h.1, h.2.1.mv hal hh, h.2.2.1.mv hal hh, h.2.2.2.1.there hal hh, h.2.2.2.2⟩) (fun r U U' V V' h1 hal h2 h => Says01.mv r U U' V V' h1 hal h2 h) ?_
  intro p e s m args below meth c s₁ X0 hexec hbytes hml hret hlk hnm hown hh0 W hP
  obtain ⟨rfl, hx, hy, s1, hz⟩ := hP
  have c1 : Steps p.tables e below (s₁.setTop (entryFrame m #[.ref x, .ref y] 3)) (s₁.setTop (mkF m 2 #[.val (.ref x), .val (.ref y), .unset] [.ref y, .ref x])) := Steps.trans (entry rfl) (by
    show Steps p.tables e below (s₁.setTop (mkF m 0 #[.val (.ref x), .val (.ref y), .unset] [])) _
    refine XS.aloadN X0.here hexec rfl (hb hbytes d0) rfl rfl ?_
    refine XS.aloadN X0.here hexec rfl (hb hbytes d1) rfl rfl ?_
    exact Steps.refl _)
  by_cases hxy : x = y
  · have c2 : Steps p.tables e below (s₁.setTop (entryFrame m #[.ref x, .ref y] 3)) (s₁.setTop (mkF m 6 #[.val (.ref x), .val (.ref y), .unset] [.int 1])) := c1.trans (by
      refine acmpNo X0.here hexec rfl (hb hbytes d2) rfl rfl rfl (by simp [acmp, hxy]) ?_
      refine iconstV X0.here hexec rfl 1 (hb hbytes d5) (by decide) ?_
      exact Steps.refl _)
    subst hxy
    have ec : cd = cd' := by
      obtain ⟨D, fd, a1, a2, a3⟩ := hx.2.2.1
      obtain ⟨D', fd', b1, b2, b3⟩ := hy.2.2.1
      cases a1.symm.trans b1
      obtain ⟨q1, q2, q3, q4⟩ := a2.1
      obtain ⟨r1, r2, r3, r4⟩ := b2.1
      cases q4.symm.trans r4
      cases a3.symm.trans b3; rfl
    have et : t = t' := by
      obtain ⟨D, fd, a1, a2, a3⟩ := hx.2.1
      obtain ⟨D', fd', b1, b2, b3⟩ := hy.2.1
      cases a1.symm.trans b1
      obtain ⟨q1, q2, q3, q4⟩ := a2.1
      obtain ⟨r1, r2, r3, r4⟩ := b2.1
      cases q4.symm.trans r4
      cases a3.symm.trans b3; rfl
    subst ec et
    have ev : V = V' := by cases hx.2.2.2.1.1.symm.trans hy.2.2.2.1.1; rfl
    subst ev
    have hs : SameT n f k g := (Cod.eqv hx.2.2.2.2.1 hy.2.2.2.2.1 hx.2.2.2.2.2 hy.2.2.2.2.2).mp ⟨rfl, fun _ _ => rfl⟩
    exact ⟨s₁, some (.int 1), _, _, _, X0, rfl, rfl, rfl, (fun h => by cases h), ⟨1, rfl, hh0, Or.inl ⟨rfl, hs⟩⟩, fun fs hl => c2.trans (X0.ireturnOut hexec hret rfl (Or.inr (Or.inl rfl)) (hb hbytes d6) hl)⟩
  · have c2 : Steps p.tables e below (s₁.setTop (entryFrame m #[.ref x, .ref y] 3)) (s₁.setTop (mkF m 8 #[.val (.ref x), .val (.ref y), .unset] [.ref y])) := c1.trans (by
      refine acmpYes X0.here hexec rfl (pc0 := 2) rfl (hb hbytes d2) rfl rfl rfl (by simp [acmp, hxy]) (by decide) rfl ?_
      refine XS.aloadN X0.here hexec rfl (hb hbytes d7) rfl rfl ?_
      exact Steps.refl _)
    obtain ⟨T3, X3, q3, st3⟩ := cinst X0 hexec hown (wk W (.classLink "java/lang/String" 10 "java/lang/String")) (hy.mv X0.warmed.alike hh0).1 (g := (mkF m 8 #[.val (.ref x), .val (.ref y), .unset] [.ref y])) rfl (rest := []) rfl (hb hbytes d8)
    have hh3 := q3.trans hh0
    have c4 : Steps p.tables e below (s₁.setTop (entryFrame m #[.ref x, .ref y] 3)) (T3.setTop (mkF m 15 #[.val (.ref x), .val (.ref y), .unset] [.ref y])) := (c2.trans (st3 _ (Steps.refl _))).trans (by
      refine XS.ifNo X3.here hexec rfl (hb hbytes d11) rfl (i0_eq_f (by decide)) ?_
      refine XS.aloadN X3.here hexec rfl (hb hbytes d14) rfl rfl ?_
      exact Steps.refl _)
    obtain ⟨T5, X5, q5, st5⟩ := cself X3 hexec hown (wk W (.classLink "java/lang/String" 10 "java/lang/String")) (hy.mv X3.warmed.alike hh3).1 (g := (mkF m 15 #[.val (.ref x), .val (.ref y), .unset] [.ref y])) rfl (rest := []) rfl (hb hbytes d15)
    have hh5 := q5.trans hh3
    have c6 : Steps p.tables e below (s₁.setTop (entryFrame m #[.ref x, .ref y] 3)) (T5.setTop (mkF m 19 #[.val (.ref x), .val (.ref y), .val (.ref y)] [])) := (c4.trans (st5 _ (Steps.refl _))).trans (by
      refine XS.astoreN X5.here hexec rfl (hb hbytes d18) rfl rfl rfl ?_
      exact Steps.refl _)
    obtain ⟨T7, X7, q7, st7⟩ := X5.sget hexec hown (wk W (.fieldLink "java/lang/String" 38 "java/lang/String" "COMPACT_STRINGS" "Z")) s1 (fun _ _ h => by rw [hh5]; exact h) (g := (mkF m 19 #[.val (.ref x), .val (.ref y), .val (.ref y)] [])) rfl (hb hbytes d19)
    have hh7 := q7.trans hh5
    have c8 : Steps p.tables e below (s₁.setTop (entryFrame m #[.ref x, .ref y] 3)) (T7.setTop (mkF m 26 #[.val (.ref x), .val (.ref y), .val (.ref y)] [.ref x])) := (c6.trans (st7 _ (Steps.refl _))).trans (by
      refine XS.ifNo X7.here hexec rfl (hb hbytes d22) rfl (i0_eq_f hz) ?_
      refine XS.aloadN X7.here hexec rfl (hb hbytes d25) rfl rfl ?_
      exact Steps.refl _)
    obtain ⟨T9, X9, q9, st9⟩ := X7.hget hexec hown (wk W (.fieldLink "java/lang/String" 15 "java/lang/String" "coder" "B")) (hx.mv X7.warmed.alike hh7).2.2.1 (g := (mkF m 26 #[.val (.ref x), .val (.ref y), .val (.ref y)] [.ref x])) rfl (rest := []) rfl (hb hbytes d26)
    have hh9 := q9.trans hh7
    have c10 : Steps p.tables e below (s₁.setTop (entryFrame m #[.ref x, .ref y] 3)) (T9.setTop (mkF m 30 #[.val (.ref x), .val (.ref y), .val (.ref y)] [.ref y, .int cd])) := (c8.trans (st9 _ (Steps.refl _))).trans (by
      refine XS.aloadN X9.here hexec rfl (hb hbytes d29) rfl rfl ?_
      exact Steps.refl _)
    obtain ⟨T11, X11, q11, st11⟩ := X9.hget hexec hown (wk W (.fieldLink "java/lang/String" 15 "java/lang/String" "coder" "B")) (hy.mv X9.warmed.alike hh9).2.2.1 (g := (mkF m 30 #[.val (.ref x), .val (.ref y), .val (.ref y)] [.ref y, .int cd])) rfl (rest := [.int cd]) rfl (hb hbytes d30)
    have hh11 := q11.trans hh9
    have c12 : Steps p.tables e below (s₁.setTop (entryFrame m #[.ref x, .ref y] 3)) (T11.setTop (mkF m 33 #[.val (.ref x), .val (.ref y), .val (.ref y)] [.int cd', .int cd])) := c10.trans (st11 _ (Steps.refl _))
    by_cases hcd : cd = cd'
    · subst hcd
      have c13 : Steps p.tables e below (s₁.setTop (entryFrame m #[.ref x, .ref y] 3)) (T11.setTop (mkF m 37 #[.val (.ref x), .val (.ref y), .val (.ref y)] [.ref x])) := c12.trans (by
        refine XS.icmpNo X11.here hexec rfl (hb hbytes d33) rfl (ii_ne_f rfl) ?_
        refine XS.aloadN X11.here hexec rfl (hb hbytes d36) rfl rfl ?_
        exact Steps.refl _)
      obtain ⟨T14, X14, q14, st14⟩ := X11.hget hexec hown (wk W (.fieldLink "java/lang/String" 9 "java/lang/String" "value" "[B")) (hx.mv X11.warmed.alike hh11).2.1 (g := (mkF m 37 #[.val (.ref x), .val (.ref y), .val (.ref y)] [.ref x])) rfl (rest := []) rfl (hb hbytes d37)
      have hh14 := q14.trans hh11
      have c15 : Steps p.tables e below (s₁.setTop (entryFrame m #[.ref x, .ref y] 3)) (T14.setTop (mkF m 41 #[.val (.ref x), .val (.ref y), .val (.ref y)] [.ref y, .ref t])) := (c13.trans (st14 _ (Steps.refl _))).trans (by
        refine XS.aloadN X14.here hexec rfl (hb hbytes d40) rfl rfl ?_
        exact Steps.refl _)
      obtain ⟨T16, X16, q16, st16⟩ := X14.hget hexec hown (wk W (.fieldLink "java/lang/String" 9 "java/lang/String" "value" "[B")) (hy.mv X14.warmed.alike hh14).2.1 (g := (mkF m 41 #[.val (.ref x), .val (.ref y), .val (.ref y)] [.ref y, .ref t])) rfl (rest := [.ref t]) rfl (hb hbytes d41)
      have hh16 := q16.trans hh14
      have c17 : Steps p.tables e below (s₁.setTop (entryFrame m #[.ref x, .ref y] 3)) (T16.setTop (mkF m 44 #[.val (.ref x), .val (.ref y), .val (.ref y)] [.ref t', .ref t])) := c15.trans (st16 _ (Steps.refl _))
      obtain ⟨v18, T18, X18, E18, g18⟩ := X16.callS hexec (LEq.law l t V t' V') hown (wks W (staticW "java/lang/String" 541 LEq.yN)) (wk W LEq.tab) (W := 0) (Nat.le_of_ble_eq_true rfl) (Nat.le_of_ble_eq_true rfl) (Nat.le_refl _) (Nat.le_refl _) (g := (mkF m 44 #[.val (.ref x), .val (.ref y), .val (.ref y)] [.ref t', .ref t])) rfl (by rw [hml]; rfl) c17 (argsL := [.ref t, .ref t']) (rest := []) rfl rfl (by show 2 * 0 + 0 ≤ _; decide) (hb hbytes d44) (⟨rfl, hx.2.2.2.1.mv X16.warmed.alike hh16, hx.2.2.2.2.1.ty, hy.2.2.2.1.mv X16.warmed.alike hh16, hy.2.2.2.2.1.ty⟩)
      obtain ⟨v, rfl, q18, hv⟩ := E18
      have iff := Cod.eqv hx.2.2.2.2.1 hy.2.2.2.2.1 hx.2.2.2.2.2 hy.2.2.2.2.2
      rcases hv with ⟨rfl, he⟩ | ⟨rfl, he⟩
      · have c19 : Steps p.tables e below (s₁.setTop (entryFrame m #[.ref x, .ref y] 3)) (T18.setTop (mkF m 55 #[.val (.ref x), .val (.ref y), .val (.ref y)] [.int 1])) := Steps.trans g18 (by
          refine XS.ifNo X18.here hexec rfl (hb hbytes d47) rfl (i0_eq_f (by decide)) ?_
          refine iconstV X18.here hexec rfl 1 (hb hbytes d50) (by decide) ?_
          refine XS.goto X18.here hexec rfl (pc0 := 51) rfl (hb hbytes d51) (by decide) rfl ?_
          exact Steps.refl _)
        exact ⟨T18, some (.int 1), _, _, _, X18, rfl, rfl, rfl, (fun h => by cases h), ⟨1, rfl, q18.trans hh16, Or.inl ⟨rfl, iff.mp he⟩⟩, fun fs hl => c19.trans (X18.ireturnOut hexec hret rfl (Or.inr (Or.inl rfl)) (hb hbytes d55) hl)⟩
      · have c19 : Steps p.tables e below (s₁.setTop (entryFrame m #[.ref x, .ref y] 3)) (T18.setTop (mkF m 55 #[.val (.ref x), .val (.ref y), .val (.ref y)] [.int 0])) := Steps.trans g18 (by
          refine XS.ifYes X18.here hexec rfl (pc0 := 47) rfl (hb hbytes d47) rfl (i0_eq_t rfl) (by decide) rfl ?_
          refine iconstV X18.here hexec rfl 0 (hb hbytes d54) (by decide) ?_
          exact Steps.refl _)
        exact ⟨T18, some (.int 0), _, _, _, X18, rfl, rfl, rfl, (fun h => by cases h), ⟨0, rfl, q18.trans hh16, Or.inr ⟨rfl, fun q => he (iff.mpr q)⟩⟩, fun fs hl => c19.trans (X18.ireturnOut hexec hret rfl (Or.inr (Or.inl rfl)) (hb hbytes d55) hl)⟩
    · have c13 : Steps p.tables e below (s₁.setTop (entryFrame m #[.ref x, .ref y] 3)) (T11.setTop (mkF m 55 #[.val (.ref x), .val (.ref y), .val (.ref y)] [.int 0])) := c12.trans (by
        refine XS.icmpYes X11.here hexec rfl (pc0 := 33) rfl (hb hbytes d33) rfl (ii_ne_t hcd) (by decide) rfl ?_
        refine iconstV X11.here hexec rfl 0 (hb hbytes d54) (by decide) ?_
        exact Steps.refl _)
      exact ⟨T11, some (.int 0), _, _, _, X11, rfl, rfl, rfl, (fun h => by cases h), ⟨0, rfl, hh11, Or.inr ⟨rfl, Cod.dif hx.2.2.2.2.1 hy.2.2.2.2.1 hcd⟩⟩, fun fs hl => c13.trans (X11.ireturnOut hexec hret rfl (Or.inr (Or.inl rfl)) (hb hbytes d55) hl)⟩
theorem pays {l : Launch} {R : Room} {p : Program} {e : Env} {below : List Frame} {s : State} {sargs : Array Value} {len W : Nat} (x t : Addr) (V : Cell) (cd : Int32) (n : Nat) (f : Nat → Int32) (y t' : Addr) (V' : Cell) (cd' : Int32) (k : Nat) (g : Nat → Int32) (z : Int32) (htab : tab.before sargs s = true) (hfr : 2 ≤ R.frames) (hlo : W + 28 ≤ R.locals) :
    Back l R p e below s sargs yN len W (fun A₁ a₁ => A₁.cells + 0 ≤ R.cells ∧ A₁.slots + 0 ≤ R.slots ∧ P x t V cd n f y t' V' cd' k g z a₁ A₁.U) (fun A₁ _ v₁ B₁ => Says01 (SameT n f k g) v₁ A₁.U B₁.U ∧ B₁.locs = A₁.locs ++ [] ∧ B₁.cells = A₁.cells + 0 ∧ B₁.slots = A₁.slots + 0) :=
  (law l x t V cd n f y t' V' cd' k g z).pays htab hfr (by omega)
end SEq
end StrChars
namespace StrChars.Road
open Jvm Sem ClassFile Op Lib Jvm.Stand Jvm.Free Jvm.Free.XT
open Jvm.Lib.Cold (StaticIs)
/-- the words of String.equals(Object) -/
abbrev wordsEq : List Jvm.Cond := [.code SEq.yN SEq.yB 3 (some .boolean), .initialized ST, .classLink ST 10 ST, .fieldLink ST 38 ST "COMPACT_STRINGS" "Z", .fieldLink ST 15 ST "coder" "B", .fieldLink ST 9 ST "value" "[B", .methodLink ST 541 LEq.yN, .static LEq.yN, .code LEq.yN LEq.yB 3 (some .boolean), .initialized "java/lang/StringLatin1"]
theorem tabEq_of {a : Array Value} {s : State} (h : ∀ w ∈ wordsEq, w.before a s = true) : SEq.tab.before a s = true := by
  have hl : LEq.tab.before a s = true := unparts (wk h (.code LEq.yN LEq.yB 3 (some .boolean))) (wks h (.initialized LEq.yN.cls :: LEq.site))
  have q := consq hl h
  exact unparts (wk q (.code SEq.yN SEq.yB 3 (some .boolean))) (wks q (.initialized SEq.yN.cls :: SEq.site))
theorem movedEq {Z s : State} {a0 args : Array Value} (hZ : Z.Warmed39 s.vm) (hw : ∀ d ∈ wordsEq, d.before a0 Z = true) : ∀ d ∈ wordsEq, d.before args s = true := fun d hd => by
  have t : ∀ d ∈ wordsEq, (d.onTables && d.keepsFace) = true := by decide +kernel
  exact RoadKit.mv hZ (hw d hd) (t d hd)
/-- the road's facts of a String, as the laws ask it -/
theorem txt_of {Z U : State} {a0 : Array Value} {kI : Nat} (wi : (Jvm.Cond.instantiable ST kI).before a0 Z = true) (al : Z.vm.Alike U.vm) {x t : Addr} {kb : ClassId} {cs : List Int32} {cd N2 : Int32} {vs : List Value} (E : RoadKit.Exa Z U.heap x ST) (V : RoadKit.Fld Z U.heap x ST "value" "[B" (.ref t)) (C : RoadKit.Fld Z U.heap x ST "coder" "B" (.int cd)) (K : RoadKit.Arv Z U.heap t kb .byte N2 vs (.int 0)) (hc : CodA cs cd N2 vs) (hb : ∀ c ∈ cs, ¬ c < 0 ∧ ¬ (65535 : Int32) < c) (l2 : cs.length ≤ 4000) :
    ∃ A, Txt x t A cd cs.length (fun j => cs.getD j 0) U := by
  obtain ⟨A, K1, K2, K3, K4, K5, K6⟩ := K
  have hcod := hc.cod (by omega) K3 K5
  obtain ⟨D, fV, fC, hB, F1, F2, g1, g2, -, -⟩ := strObj wi al E V C
  exact ⟨A, ⟨_, hB.2.2.1, D, hB.1, rfl, by cases q : D.vm <;> first | rfl | exact absurd q (hB.2.1.2 _)⟩, Has.of hB F1 g1, Has.of hB F2 g2, ⟨K1.1, State.isArrayOf_alike al K1.2.1, K1.2.2, by rcases hcod with ⟨-, q, -⟩ | ⟨-, q, -⟩ <;> omega⟩, hcod, fun j hj => by
    have e : cs.getD j 0 = cs[j] := by simp [List.getD_eq_getElem?_getD, hj]
    show ¬ cs.getD j 0 < 0 ∧ ¬ 65535 < cs.getD j 0
    rw [e]; exact hb _ (List.getElem_mem _)⟩
theorem same_list (cs ds : List Int32) : SameT cs.length (fun j => cs.getD j 0) ds.length (fun j => ds.getD j 0) ↔ cs = ds := by
  constructor
  · rintro ⟨e, q⟩
    refine List.ext_getElem e fun j h1 h2 => ?_
    have := q j h1
    simpa [List.getD_eq_getElem?_getD, h1, h2] using this
  · rintro rfl
    exact ⟨rfl, fun _ _ => rfl⟩
/-- **equals(Object) OF TWO SUCH STRINGS**: 1 just where the chars are the same -/
theorem eqW {p : Program} {l : Launch} {e : Env} {R : Room} {s : State} {args : Array Value} {below : List Frame} {len W : Nat} {Z : State} {a0 : Array Value} {h : Heap} (hZ : Z.Warmed39 s.vm) (hw : ∀ d ∈ wordsEq, d.before a0 Z = true) {kI : Nat} (wi : (Jvm.Cond.instantiable ST kI).before a0 Z = true)
    {x t : Addr} {kb : ClassId} {cs : List Int32} {cd N2 : Int32} {vs : List Value} (E : RoadKit.Exa Z h x ST) (V : RoadKit.Fld Z h x ST "value" "[B" (.ref t)) (C : RoadKit.Fld Z h x ST "coder" "B" (.int cd)) (K : RoadKit.Arv Z h t kb .byte N2 vs (.int 0)) (hc : CodA cs cd N2 vs) (hb : ∀ c ∈ cs, ¬ c < 0 ∧ ¬ (65535 : Int32) < c) (l2 : cs.length ≤ 4000)
    {y t' : Addr} {kb' : ClassId} {ds : List Int32} {cd' N2' : Int32} {vs' : List Value} (E' : RoadKit.Exa Z h y ST) (V' : RoadKit.Fld Z h y ST "value" "[B" (.ref t')) (C' : RoadKit.Fld Z h y ST "coder" "B" (.int cd')) (K' : RoadKit.Arv Z h t' kb' .byte N2' vs' (.int 0)) (hc' : CodA ds cd' N2' vs') (hb' : ∀ c ∈ ds, ¬ c < 0 ∧ ¬ (65535 : Int32) < c) (l2' : ds.length ≤ 4000)
    {z : Int32} (S : RoadKit.Sta Z h ST "COMPACT_STRINGS" "Z" (.int z)) (hz : ¬ z = 0) (hfr : 2 ≤ R.frames) (hlo : W + 28 ≤ R.locals) :
    Back l R p e below s args (⟨"java/lang/String", "equals", "(Ljava/lang/Object;)Z"⟩ : MethodName) len W (fun P a => a = #[.ref x, .ref y] ∧ P.U.heap = h ∧ P.cells + 0 ≤ R.cells ∧ P.slots + 0 ≤ R.slots)
      (fun P _ v B => ∃ L, (((v = some (.int 1) ∧ cs = ds) ∨ (v = some (.int 0) ∧ ¬ cs = ds)) ∧ L = [] ∧ B.U.heap = h) ∧ B.locs = P.locs ++ L ∧ B.cells = P.cells + 0 ∧ B.slots = P.slots + 0) := by
  intro m meth c P g ig mk a X hg hsize hdg hW hn hp'
  obtain ⟨rfl, rfl, r1, r2⟩ := hp'
  have al : Z.vm.Alike P.U.vm := hZ.alike.trans X.warmed.alike
  obtain ⟨A, hx⟩ := txt_of wi al E V C K hc hb l2
  obtain ⟨A', hy⟩ := txt_of wi al E' V' C' K' hc' hb' l2'
  obtain ⟨v, B, X', ⟨⟨w, hv, hh, hq⟩, hl, hk, hs⟩, st⟩ := SEq.pays x t A cd cs.length (fun j => cs.getD j 0) y t' A' cd' ds.length (fun j => ds.getD j 0) z (tabEq_of (movedEq hZ hw)) hfr hlo m meth c P g ig mk _ X hg hsize hdg hW hn ⟨r1, r2, rfl, hx, hy, sta_is al S, hz⟩
  refine ⟨v, B, X', ⟨[], ⟨?_, rfl, hh⟩, hl, hk, hs⟩, st⟩
  rcases hq with ⟨rfl, q⟩ | ⟨rfl, q⟩
  · exact Or.inl ⟨hv, (same_list cs ds).mp q⟩
  · exact Or.inr ⟨hv, fun e => q ((same_list cs ds).mpr e)⟩
end StrChars.Road
namespace StrChars.Road
open Jvm Sem ClassFile Op Lib Jvm.Stand Jvm.Free Jvm.Free.XT
open Jvm.Lib.Cold (StaticIs)
/-- what backV says of its String, as the contracts of this text ask it: cs's low bytes, coder 0 -/
theorem codOf {cs : List Int32} {n : Nat} (hn : cs.length = n) (hb : ∀ c ∈ cs, ¬ 255 < c) : CodA cs 0 (Int32.ofNat n) ((cs.map lo8).map Value.int) := Or.inl ⟨rfl, by rw [hn], by simp [List.map_map, Function.comp_def], hb⟩
end StrChars.Road
end Jvm.Pilot.@@N@@
namespace Jvm.Pilot.@@N@@
open Jvm Jvm.ClassFile Sem Op Lib Jvm.Free Jvm.Stand Jvm.LawKit Jvm.RoadKit Bundle Jvm.Pilot.@@N@@.Jvm.D
/-- the run comes from A to a state with P -/
def ownG (tb : Tables) (e : Env) (below : List Frame) (P : State → Prop) (A : State) : Prop := ∃ t, Steps tb e below A t ∧ P t
theorem ownBy {tb : Tables} {e : Env} {below : List Frame} {P : State → Prop} {A B : State} (st : ∀ t, Steps tb e below A t → Steps tb e below B t) (k : ownG tb e below P A) : ownG tb e below P B := by
  obtain ⟨t, h, q⟩ := k
  exact ⟨t, st t h, q⟩
theorem ownSt {tb : Tables} {e : Env} {below : List Frame} {P : State → Prop} {A B : State} (st : Steps tb e below B A) (k : ownG tb e below P A) : ownG tb e below P B := by
  obtain ⟨t, h, q⟩ := k
  exact ⟨t, st.trans h, q⟩
def ownE (s : State) (below : List Frame) (Q : Option Value → Heap → List Loc → Prop) (k n : Nat) (t : State) : Prop := t.status = .running ∧ ∃ v L, Ended t below (.returned v) ∧ Q v t.heap L ∧ FrameEnd s (.returned v) t L k n
def ownEH (s : State) (below : List Frame) (Q : Option Value → Heap → List Loc → Prop) (Z : State) (EL : List (String × Nat)) (h0 : Heap) (k n : Nat) (t : State) : Prop := t.status = .running ∧ ∃ v L, Ended t below (.returned v) ∧ Q v t.heap L ∧ CHr Z EL s.vm h0 t.vm t.heap ∧ ReturnedEndW s (.returned v) t L k n
theorem ownOut {tb : Tables} {e : Env} {below : List Frame} {P : Option Value → Heap → List Loc → Prop} {s A : State} {k n : Nat} (g : ownG tb e below (ownE s below P k n) A) :
    ∃ s₂ o, Steps tb e below A s₂ ∧ s₂.status = .running ∧ Ended s₂ below o ∧ ∃ v L, o = .returned v ∧ P v s₂.heap L ∧ FrameEnd s o s₂ L k n := by
  obtain ⟨t, h, r, v, L, e1, q, f⟩ := g
  exact ⟨t, _, h, r, e1, v, L, rfl, q, f⟩
theorem ownOutH {tb : Tables} {e : Env} {below : List Frame} {P : Option Value → Heap → List Loc → Prop} {s A Z : State} {EL : List (String × Nat)} {h0 : Heap} {k n : Nat} (hh : s.heap = h0) (g : ownG tb e below (ownEH s below P Z EL h0 k n) A) :
    ∃ s₂ o, Steps tb e below A s₂ ∧ s₂.status = .running ∧ Ended s₂ below o ∧ ∃ v L, o = .returned v ∧ P v s₂.heap L ∧ CHr Z EL s.vm s.heap s₂.vm s₂.heap ∧ ReturnedEndW s o s₂ L k n := by
  subst hh
  obtain ⟨t, h, r, v, L, e1, q, c, f⟩ := g
  exact ⟨t, _, h, r, e1, v, L, rfl, q, c, f⟩
theorem ownRet {p : Program} {l : Launch} {e : Env} {R : Room} {s : State} {m : MethodId} {args : Array Value} {below : List Frame} {meth : Method} {c : Code} {T A : State} {locs : List Loc} {cells slots k n : Nat} {P : Option Value → Heap → List Loc → Prop}
    (X : Stand p l e R s m args below meth c T locs cells slots) (hlk : meth.locks = false) {v : Option Value} (hv : meth.sig.returnType = none → v = none) (hQ : P v T.heap locs) (hk : cells ≤ k) (hn : slots ≤ n)
    (st : ∀ fs, (∀ (f : JFrame) (acts : List Action), f.method = m → f.locked = none → f.entered = [] → (doReturn e (T.setTop f) acts v).1 = T.setFrames fs) → Steps p.tables e below A (T.setFrames fs)) :
    ownG p.tables e below (ownE s below P k n) A := by
  obtain ⟨fs, hr, hrun, hended, hW, hsame⟩ := X.leave hv hlk
  exact ⟨_, st fs hr, hrun, v, locs, hended, hQ, ⟨_, rfl⟩, hW, hsame.mono hk hn⟩
theorem ownRetH {p : Program} {l : Launch} {e : Env} {R : Room} {s : State} {m : MethodId} {args : Array Value} {below : List Frame} {meth : Method} {c : Code} {T A Z : State} {EL : List (String × Nat)} {h0 : Heap} {locs : List Loc} {cells slots k n k1 : Nat} {vm1 : Vm} {P : Option Value → Heap → List Loc → Prop}
    (X : Stand p l e R (s.setVm vm1) m args below meth c T locs cells slots) (hS : s.Since vm1 k1) (hk1 : k1 ≤ T.heap.size) (hlk : meth.locks = false) {v : Option Value} (hv : meth.sig.returnType = none → v = none) (hQ : P v T.heap locs) (hC : CHr Z EL s.vm h0 T.vm T.heap) (hk : cells ≤ k) (hn : slots ≤ n)
    (st : ∀ fs, (∀ (f : JFrame) (acts : List Action), f.method = m → f.locked = none → f.entered = [] → (doReturn e (T.setTop f) acts v).1 = T.setFrames fs) → Steps p.tables e below A (T.setFrames fs)) :
    ownG p.tables e below (ownEH s below P Z EL h0 k n) A := by
  obtain ⟨fs, hr, hrun, hended, hR⟩ := X.leaveW hS hk1 hv hlk
  exact ⟨_, st fs hr, hrun, v, locs, hended, hQ, hC, hR.1, hR.2.1, hR.2.2.1, hR.2.2.2.mono hk hn⟩
theorem own_since {s : State} {n : Nat} : s.Since s.vm n := (State.WarmedH.refl s).since n
theorem own_cat {v : Value} (h : v.isRef = true) : v.category = 1 := by cases v <;> simp_all [Value.isRef, Value.category]
theorem own_narrow {t : FieldType} {v : Value} (ht : t.isReference = true) (h : v.isRef = true) : narrow t v = v := by
  rcases ref_cases h with rfl | ⟨a, rfl⟩ <;> cases t <;> simp_all [narrow, FieldType.isReference]
theorem own_fits {t : FieldType} {v : Value} (ht : t.isReference = true) (h : v.isRef = true) : fits t v = true := by
  rcases ref_cases h with rfl | ⟨a, rfl⟩ <;> cases t <;> simp_all [fits, FieldType.isReference]
theorem own_and255 (x : Int32) : ¬ nar .char ((x &&& (255 : Int32)).toUInt32.toUInt16.toUInt32.toInt32) < 0 ∧ ¬ (255 : Int32) < nar .char ((x &&& (255 : Int32)).toUInt32.toUInt16.toUInt32.toInt32) := by
  have t : ∀ k : Fin 256, ¬ nar .char ((Int32.ofNat k.val).toUInt32.toUInt16.toUInt32.toInt32) < 0 ∧ ¬ (255 : Int32) < nar .char ((Int32.ofNat k.val).toUInt32.toUInt16.toUInt32.toInt32) := by decide +kernel
  have h : (x &&& 255).toBitVec.toNat < 256 := by
    simp only [Int32.toBitVec_and, BitVec.toNat_and]
    exact Nat.lt_succ_of_le Nat.and_le_right
  have e : (x &&& 255) = Int32.ofNat (x &&& 255).toBitVec.toNat := by
    apply Int32.toBitVec_inj.mp
    show _ = BitVec.ofNat 32 _
    rw [BitVec.ofNat_toNat]; simp
  rw [e]
  exact t ⟨_, h⟩
theorem own_up (cs : List Int32) (h : ∀ c ∈ cs, ¬ c < 0 ∧ ¬ (255 : Int32) < c) : ∀ c ∈ cs, ¬ c < 0 ∧ ¬ (65535 : Int32) < c := fun c hc => ⟨(h c hc).1, fun q => (h c hc).2 (by rw [Int32.lt_iff_toInt_lt] at q ⊢; have e1 : (65535 : Int32).toInt = 65535 := rfl; have e2 : (255 : Int32).toInt = 255 := rfl; omega)⟩
theorem own_nz {args : Array Value} {s : State} {t : Jvm.Term} {g : Int32} (e : t.eval args s none [] s = some (.int g)) (h : (Jvm.Cond.not (Jvm.Cond.eq t (Jvm.Term.int (0 : Int32)))).value args s none s [] = some true) : ¬ (g = (0 : Int32)) := by
  intro q
  subst q
  simp [Jvm.Cond.value, Jvm.Term.eval, e] at h
theorem own_lcmp_self (x : Int64) : lcmpW x x = 0 := by rw [lcW]; exact (lc_eq x x).mpr rfl
theorem own_nar_byte (x : Int32) : nar .byte (x.toInt8.toInt32) = x.toInt8.toInt32 := by simp [nar]
theorem own_nar_char (x : Int32) : nar .char (x.toUInt32.toUInt16.toUInt32.toInt32) = x.toUInt32.toUInt16.toUInt32.toInt32 := by
  have q := c_i2c x
  have q2 := c_i2c (x.toUInt32.toUInt16.toUInt32.toInt32)
  exact Int32.toInt_inj.mp (by show ((x.toUInt32.toUInt16.toUInt32.toInt32).toUInt32.toUInt16.toUInt32.toInt32).toInt = _; omega)
theorem own_and255c (x : Int32) : ¬ ((255 : Int32) < (x &&& (255 : Int32)).toUInt32.toUInt16.toUInt32.toInt32) := by
  have h := (own_and255 x).2
  rwa [own_nar_char] at h
def own_b (p : Prop) [Decidable p] : Int32 := if p then 1 else 0
theorem own_bt0 {p : Prop} [Decidable p] (h : p) : ¬ (own_b p = (0 : Int32)) := by simp [own_b, h]
theorem own_bf0 {p : Prop} [Decidable p] (h : ¬ p) : own_b p = (0 : Int32) := by simp [own_b, h]
theorem own_bt1 {p : Prop} [Decidable p] (h : p) : own_b p = (1 : Int32) := by simp [own_b, h]
theorem own_bf1 {p : Prop} [Decidable p] (h : ¬ p) : ¬ (own_b p = (1 : Int32)) := by simp [own_b, h]
theorem own_eqv {s : State} {args : Array Value} {t u : Jvm.Term} {w : Addr} (eu : u.eval args s none [] s = some (.ref w)) (h : (Jvm.Cond.eq t u).value args s none s [] = some true) : t.eval args s none [] s = some (.ref w) := by
  obtain ⟨x, y, ex, ey, kx, -⟩ := cmp_v (Or.inl h)
  cases eu.symm.trans ey
  have hr : x.isRef = true := by cases x <;> simp_all [Kin, Value.isRef]
  have q := gotT (eq_R ex ey hr rfl) h
  rw [ex, q]
theorem own_len {s : State} {args : Array Value} {t : Jvm.Term} {a : Addr} {c : Cell} {ty : FieldType} {n : Int32} (ev : t.eval args s none [] s = some (.ref a)) (A : Arr s s.heap a c ty) (h : (Jvm.Cond.eq (Jvm.Term.length t) (Jvm.Term.int n)).value args s none s [] = some true) : c.slots.size < 2 ^ 31 ∧ c.slots.size.toInt32 = n := by
  have q := eqv_i (y := n) rfl h
  have ha := A.fin (Vm.Alike.refl _)
  simp only [Jvm.Term.eval, ev, ha, Option.bind_eq_bind, Option.bind_some] at q
  split at q
  · rename_i hl
    exact ⟨hl, by simpa using q⟩
  · simp at q
theorem own_elem {s : State} {args : Array Value} {t : Jvm.Term} {a : Addr} {c : Cell} {ty : FieldType} {j : Int32} {v : Value} (ev : t.eval args s none [] s = some (.ref a)) (A : Arr s s.heap a c ty) (h : (Jvm.Term.elem t (Jvm.Term.int j)).eval args s none [] s = some v) : c.slots[j.toNatClampNeg]? = some v :=
  (elem_in h ev rfl A.1).2
theorem own_nar_rng {c : Int32} (h0 : ¬ c < 0) (h1 : ¬ (255 : Int32) < c) : nar .char c = c := by
  have e0 : (0 : Int32).toInt = 0 := rfl
  have e1 : (255 : Int32).toInt = 255 := rfl
  simp only [Int32.lt_iff_toInt_lt] at h0 h1
  have q := c_i2c c
  exact Int32.toInt_inj.mp (by show (c.toUInt32.toUInt16.toUInt32.toInt32).toInt = _; omega)
theorem own_idx {p : Int32} {n : Nat} (h0 : ¬ p < 0) (h : p < Int32.ofNat n) (hn : n ≤ 4000) : p.toNatClampNeg < n := by
  have e0 : (0 : Int32).toInt = 0 := rfl
  simp only [Int32.lt_iff_toInt_lt] at h0 h
  rw [Int32.toInt_ofNat_of_lt (by omega)] at h
  show p.toInt.toNat < n
  omega
theorem own_set_rng {cs : List Int32} {i : Nat} {x : Int32} (h : ∀ c ∈ cs, ¬ c < 0 ∧ ¬ (255 : Int32) < c) (hx : ¬ x < 0 ∧ ¬ (255 : Int32) < x) : ∀ c ∈ cs.set i x, ¬ c < 0 ∧ ¬ (255 : Int32) < c := fun c hc =>
  (List.mem_or_eq_of_mem_set hc).elim (h c) (fun e => e ▸ hx)
theorem own_rem_nn (x y : Int32) (hy : 0 < y.toInt) : ¬ ((x &&& (2147483647 : Int32)) % y < 0) := by
  have h0 : 0 ≤ (x &&& (2147483647 : Int32)).toInt := (c_and x 2147483647 (by decide)).1
  have q := (c_iremV (x &&& 2147483647) y).1 h0 hy
  have e0 : (0 : Int32).toInt = 0 := rfl
  simp only [Int32.lt_iff_toInt_lt]
  omega
theorem own_and255p (x : Int32) : ¬ (x &&& (255 : Int32)).toUInt32.toUInt16.toUInt32.toInt32 < 0 ∧ ¬ ((255 : Int32) < (x &&& (255 : Int32)).toUInt32.toUInt16.toUInt32.toInt32) := by
  have h := own_and255 x
  rwa [own_nar_char] at h
theorem own_safe_blank {Z : State} {EL : List (String × Nat)} {vm : Vm} {h : Heap} {x : Addr} (hal : Z.vm.Alike vm) (E : Exa Z h x "java/lang/String") (F : Fld Z h x "java/lang/String" "value" "[B" .null) : Safe Z EL vm h x := fun B => by
  obtain ⟨p, -, u, a, -, q, -, G, rfl | rfl⟩ := B
  · obtain ⟨cS, ⟨⟨s1, s2, s3, ⟨cv, kv, iv, s4, s4'⟩, -, s6, -, s8, -⟩, -⟩, -⟩ := G
    obtain ⟨cell, cf, kk, i, f, h1, h2, h3, -, -, -, h7⟩ := F
    cases (show h[q.sa]? = some q.sC from s1).symm.trans h1
    obtain ⟨kv', z4⟩ := ff_back (U := Wst Z vm h) hal s4
    cases h2.symm.trans z4
    rw [s8] at h7
    cases h7
  · obtain ⟨cell, k, e1, e2, e3, -, -⟩ := E
    cases (show h[q.sd]? = some q.SA from G.hd).symm.trans e1
    obtain ⟨cS, -, -, f, -⟩ := G
    have f' : vm.findClass "[B" = some q.SA.cls := f
    rw [hal.findClass] at f'
    obtain ⟨k1, q1, q2⟩ := Vm.findClass_spec f'
    obtain ⟨k2, q3, q4⟩ := Vm.findClass_spec e2
    cases q1.symm.trans q3
    exact absurd (q2.symm.trans q4) (by decide)
theorem own_wS {Z : State} {a0 : Array Value} (hw : ∀ d ∈ tables_1, d.before a0 Z = true) : ∀ a ∈ Bundle.stringAtoms, a.before a0 Z = true := fun d hd => hw d ((by decide +kernel : ∀ d ∈ Bundle.stringAtoms, d ∈ tables_1) d hd)
def ownEL : List (String × Nat) := [("com/example/vestline/vestline/TerminationReasonNamedPinLaw", 19), ("com/example/vestline/vestline/TerminationReasonNamedPinLaw", 31), ("java/lang/String", 7)]
theorem own_EW {Z : State} {a0 : Array Value} (hw : ∀ d ∈ tables_1, d.before a0 Z = true) : EW Z a0 ownEL := (EW.cons (hw _ (List.mem_of_getElem? (i := 27) rfl)) (by decide) (EW.cons (hw _ (List.mem_of_getElem? (i := 39) rfl)) (by decide) (EW.cons (hw _ (List.mem_of_getElem? (i := 19) rfl)) (by decide) EW.nil)))
theorem pn_1 : plainName "java/lang/String" = true := by first | (simp [plainName, overriddenIn]; done) | decide +kernel
theorem d_jdk_42_method_149_0 : decode jdk_42_method_149_code 0 = .ok (.aload_n 0, 1) := by decide +kernel
theorem d_jdk_42_method_149_1 : decode jdk_42_method_149_code 1 = .ok (.invokespecial 1, 3) := by decide +kernel
theorem d_jdk_42_method_149_4 : decode jdk_42_method_149_code 4 = .ok (.iload_n 3, 1) := by decide +kernel
theorem d_jdk_42_method_149_5 : decode jdk_42_method_149_code 5 = .ok (.ifCond .ne 22, 3) := by decide +kernel
theorem d_jdk_42_method_149_8 : decode jdk_42_method_149_code 8 = .ok (.aload_n 0, 1) := by decide +kernel
theorem d_jdk_42_method_149_9 : decode jdk_42_method_149_code 9 = .ok (.ldc 7, 2) := by decide +kernel
theorem d_jdk_42_method_149_11 : decode jdk_42_method_149_code 11 = .ok (.getfield 9, 3) := by decide +kernel
theorem d_jdk_42_method_149_14 : decode jdk_42_method_149_code 14 = .ok (.putfield 9, 3) := by decide +kernel
theorem d_jdk_42_method_149_17 : decode jdk_42_method_149_code 17 = .ok (.aload_n 0, 1) := by decide +kernel
theorem d_jdk_42_method_149_18 : decode jdk_42_method_149_code 18 = .ok (.ldc 7, 2) := by decide +kernel
theorem d_jdk_42_method_149_20 : decode jdk_42_method_149_code 20 = .ok (.getfield 15, 3) := by decide +kernel
theorem d_jdk_42_method_149_23 : decode jdk_42_method_149_code 23 = .ok (.putfield 15, 3) := by decide +kernel
theorem d_jdk_42_method_149_26 : decode jdk_42_method_149_code 26 = .ok (.return_, 1) := by decide +kernel
theorem d_jdk_42_method_3_0 : decode jdk_42_method_3_code 0 = .ok (.aload_n 0, 1) := by decide +kernel
theorem d_jdk_42_method_3_1 : decode jdk_42_method_3_code 1 = .ok (.aload_n 1, 1) := by decide +kernel
theorem d_jdk_42_method_3_2 : decode jdk_42_method_3_code 2 = .ok (.iconst 0, 1) := by decide +kernel
theorem d_jdk_42_method_3_3 : decode jdk_42_method_3_code 3 = .ok (.aload_n 1, 1) := by decide +kernel
theorem d_jdk_42_method_3_4 : decode jdk_42_method_3_code 4 = .ok (.arraylength, 1) := by decide +kernel
theorem d_jdk_42_method_3_5 : decode jdk_42_method_3_code 5 = .ok (.aconst_null, 1) := by decide +kernel
theorem d_jdk_42_method_3_6 : decode jdk_42_method_3_code 6 = .ok (.invokespecial 27, 3) := by decide +kernel
theorem pd_37 : parseMethodDescriptor "([CIILjava/lang/Void;)V" = some ⟨[(.array .char), .int, .int, (.object "java/lang/Void")], none⟩ := by decide +kernel
theorem d_jdk_42_method_3_9 : decode jdk_42_method_3_code 9 = .ok (.return_, 1) := by decide +kernel
theorem pn_46 : plainName "com/example/vestline/vestline/TerminationReasonNamedPinLaw" = true := by first | (simp [plainName, overriddenIn]; done) | decide +kernel
theorem d_method_2_0 : decode method_2_code 0 = .ok (.iload_n 0, 1) := by decide +kernel
theorem d_method_2_1 : decode method_2_code 1 = .ok (.ifCond .ne 7, 3) := by decide +kernel
theorem d_method_2_4 : decode method_2_code 4 = .ok (.iconst 0, 1) := by decide +kernel
theorem d_method_2_5 : decode method_2_code 5 = .ok (.newarray .char, 2) := by decide +kernel
theorem d_method_2_7 : decode method_2_code 7 = .ok (.areturn, 1) := by decide +kernel
theorem d_method_2_8 : decode method_2_code 8 = .ok (.iload_n 0, 1) := by decide +kernel
theorem d_method_2_9 : decode method_2_code 9 = .ok (.iconst 1, 1) := by decide +kernel
theorem d_method_2_10 : decode method_2_code 10 = .ok (.if_icmp .ne 11, 3) := by decide +kernel
theorem d_method_2_13 : decode method_2_code 13 = .ok (.iconst 1, 1) := by decide +kernel
theorem d_method_2_14 : decode method_2_code 14 = .ok (.newarray .char, 2) := by decide +kernel
theorem d_method_2_16 : decode method_2_code 16 = .ok (.dup, 1) := by decide +kernel
theorem d_method_2_17 : decode method_2_code 17 = .ok (.iconst 0, 1) := by decide +kernel
theorem d_method_2_18 : decode method_2_code 18 = .ok (.iload_n 1, 1) := by decide +kernel
theorem d_method_2_19 : decode method_2_code 19 = .ok (.castore, 1) := by decide +kernel
theorem d_method_2_20 : decode method_2_code 20 = .ok (.areturn, 1) := by decide +kernel
theorem d_method_2_21 : decode method_2_code 21 = .ok (.iload_n 0, 1) := by decide +kernel
theorem d_method_2_22 : decode method_2_code 22 = .ok (.iconst 2, 1) := by decide +kernel
theorem d_method_2_23 : decode method_2_code 23 = .ok (.if_icmp .ne 27, 3) := by decide +kernel
theorem d_method_2_26 : decode method_2_code 26 = .ok (.iconst 4, 1) := by decide +kernel
theorem d_method_2_27 : decode method_2_code 27 = .ok (.newarray .char, 2) := by decide +kernel
theorem d_method_2_29 : decode method_2_code 29 = .ok (.dup, 1) := by decide +kernel
theorem d_method_2_30 : decode method_2_code 30 = .ok (.iconst 0, 1) := by decide +kernel
theorem d_method_2_31 : decode method_2_code 31 = .ok (.bipush 100, 2) := by decide +kernel
theorem d_method_2_33 : decode method_2_code 33 = .ok (.castore, 1) := by decide +kernel
theorem own_nl_char_100 : nar .char (100 : Int32) = (100 : Int32) := by decide
theorem d_method_2_34 : decode method_2_code 34 = .ok (.dup, 1) := by decide +kernel
theorem d_method_2_35 : decode method_2_code 35 = .ok (.iconst 1, 1) := by decide +kernel
theorem d_method_2_36 : decode method_2_code 36 = .ok (.bipush 101, 2) := by decide +kernel
theorem d_method_2_38 : decode method_2_code 38 = .ok (.castore, 1) := by decide +kernel
theorem own_nl_char_101 : nar .char (101 : Int32) = (101 : Int32) := by decide
theorem d_method_2_39 : decode method_2_code 39 = .ok (.dup, 1) := by decide +kernel
theorem d_method_2_40 : decode method_2_code 40 = .ok (.iconst 2, 1) := by decide +kernel
theorem d_method_2_41 : decode method_2_code 41 = .ok (.bipush 97, 2) := by decide +kernel
theorem d_method_2_43 : decode method_2_code 43 = .ok (.castore, 1) := by decide +kernel
theorem own_nl_char_97 : nar .char (97 : Int32) = (97 : Int32) := by decide
theorem d_method_2_44 : decode method_2_code 44 = .ok (.dup, 1) := by decide +kernel
theorem d_method_2_45 : decode method_2_code 45 = .ok (.iconst 3, 1) := by decide +kernel
theorem d_method_2_46 : decode method_2_code 46 = .ok (.bipush 116, 2) := by decide +kernel
theorem d_method_2_48 : decode method_2_code 48 = .ok (.castore, 1) := by decide +kernel
theorem own_nl_char_116 : nar .char (116 : Int32) = (116 : Int32) := by decide
theorem d_method_2_49 : decode method_2_code 49 = .ok (.areturn, 1) := by decide +kernel
theorem d_method_2_50 : decode method_2_code 50 = .ok (.iload_n 0, 1) := by decide +kernel
theorem d_method_2_51 : decode method_2_code 51 = .ok (.iconst 3, 1) := by decide +kernel
theorem d_method_2_52 : decode method_2_code 52 = .ok (.if_icmp .ne 32, 3) := by decide +kernel
theorem d_method_2_55 : decode method_2_code 55 = .ok (.iconst 5, 1) := by decide +kernel
theorem d_method_2_56 : decode method_2_code 56 = .ok (.newarray .char, 2) := by decide +kernel
theorem d_method_2_58 : decode method_2_code 58 = .ok (.dup, 1) := by decide +kernel
theorem d_method_2_59 : decode method_2_code 59 = .ok (.iconst 0, 1) := by decide +kernel
theorem d_method_2_60 : decode method_2_code 60 = .ok (.bipush 100, 2) := by decide +kernel
theorem d_method_2_62 : decode method_2_code 62 = .ok (.castore, 1) := by decide +kernel
theorem d_method_2_63 : decode method_2_code 63 = .ok (.dup, 1) := by decide +kernel
theorem d_method_2_64 : decode method_2_code 64 = .ok (.iconst 1, 1) := by decide +kernel
theorem d_method_2_65 : decode method_2_code 65 = .ok (.bipush 101, 2) := by decide +kernel
theorem d_method_2_67 : decode method_2_code 67 = .ok (.castore, 1) := by decide +kernel
theorem d_method_2_68 : decode method_2_code 68 = .ok (.dup, 1) := by decide +kernel
theorem d_method_2_69 : decode method_2_code 69 = .ok (.iconst 2, 1) := by decide +kernel
theorem d_method_2_70 : decode method_2_code 70 = .ok (.bipush 97, 2) := by decide +kernel
theorem d_method_2_72 : decode method_2_code 72 = .ok (.castore, 1) := by decide +kernel
theorem d_method_2_73 : decode method_2_code 73 = .ok (.dup, 1) := by decide +kernel
theorem d_method_2_74 : decode method_2_code 74 = .ok (.iconst 3, 1) := by decide +kernel
theorem d_method_2_75 : decode method_2_code 75 = .ok (.bipush 116, 2) := by decide +kernel
theorem d_method_2_77 : decode method_2_code 77 = .ok (.castore, 1) := by decide +kernel
theorem d_method_2_78 : decode method_2_code 78 = .ok (.dup, 1) := by decide +kernel
theorem d_method_2_79 : decode method_2_code 79 = .ok (.iconst 4, 1) := by decide +kernel
theorem d_method_2_80 : decode method_2_code 80 = .ok (.bipush 104, 2) := by decide +kernel
theorem d_method_2_82 : decode method_2_code 82 = .ok (.castore, 1) := by decide +kernel
theorem own_nl_char_104 : nar .char (104 : Int32) = (104 : Int32) := by decide
theorem d_method_2_83 : decode method_2_code 83 = .ok (.areturn, 1) := by decide +kernel
theorem d_method_2_84 : decode method_2_code 84 = .ok (.iload_n 0, 1) := by decide +kernel
theorem d_method_2_85 : decode method_2_code 85 = .ok (.iconst 4, 1) := by decide +kernel
theorem d_method_2_86 : decode method_2_code 86 = .ok (.if_icmp .ne 37, 3) := by decide +kernel
theorem d_method_2_89 : decode method_2_code 89 = .ok (.bipush 6, 2) := by decide +kernel
theorem d_method_2_91 : decode method_2_code 91 = .ok (.newarray .char, 2) := by decide +kernel
theorem d_method_2_93 : decode method_2_code 93 = .ok (.dup, 1) := by decide +kernel
theorem d_method_2_94 : decode method_2_code 94 = .ok (.iconst 0, 1) := by decide +kernel
theorem d_method_2_95 : decode method_2_code 95 = .ok (.bipush 100, 2) := by decide +kernel
theorem d_method_2_97 : decode method_2_code 97 = .ok (.castore, 1) := by decide +kernel
theorem d_method_2_98 : decode method_2_code 98 = .ok (.dup, 1) := by decide +kernel
theorem d_method_2_99 : decode method_2_code 99 = .ok (.iconst 1, 1) := by decide +kernel
theorem d_method_2_100 : decode method_2_code 100 = .ok (.bipush 101, 2) := by decide +kernel
theorem d_method_2_102 : decode method_2_code 102 = .ok (.castore, 1) := by decide +kernel
theorem d_method_2_103 : decode method_2_code 103 = .ok (.dup, 1) := by decide +kernel
theorem d_method_2_104 : decode method_2_code 104 = .ok (.iconst 2, 1) := by decide +kernel
theorem d_method_2_105 : decode method_2_code 105 = .ok (.bipush 97, 2) := by decide +kernel
theorem d_method_2_107 : decode method_2_code 107 = .ok (.castore, 1) := by decide +kernel
theorem d_method_2_108 : decode method_2_code 108 = .ok (.dup, 1) := by decide +kernel
theorem d_method_2_109 : decode method_2_code 109 = .ok (.iconst 3, 1) := by decide +kernel
theorem d_method_2_110 : decode method_2_code 110 = .ok (.bipush 116, 2) := by decide +kernel
theorem d_method_2_112 : decode method_2_code 112 = .ok (.castore, 1) := by decide +kernel
theorem d_method_2_113 : decode method_2_code 113 = .ok (.dup, 1) := by decide +kernel
theorem d_method_2_114 : decode method_2_code 114 = .ok (.iconst 4, 1) := by decide +kernel
theorem d_method_2_115 : decode method_2_code 115 = .ok (.bipush 104, 2) := by decide +kernel
theorem d_method_2_117 : decode method_2_code 117 = .ok (.castore, 1) := by decide +kernel
theorem d_method_2_118 : decode method_2_code 118 = .ok (.dup, 1) := by decide +kernel
theorem d_method_2_119 : decode method_2_code 119 = .ok (.iconst 5, 1) := by decide +kernel
theorem d_method_2_120 : decode method_2_code 120 = .ok (.iload_n 1, 1) := by decide +kernel
theorem d_method_2_121 : decode method_2_code 121 = .ok (.castore, 1) := by decide +kernel
theorem d_method_2_122 : decode method_2_code 122 = .ok (.areturn, 1) := by decide +kernel
theorem d_method_2_123 : decode method_2_code 123 = .ok (.iload_n 0, 1) := by decide +kernel
theorem d_method_2_124 : decode method_2_code 124 = .ok (.iconst 5, 1) := by decide +kernel
theorem d_method_2_125 : decode method_2_code 125 = .ok (.if_icmp .ne 56, 3) := by decide +kernel
theorem d_method_2_128 : decode method_2_code 128 = .ok (.bipush 9, 2) := by decide +kernel
theorem d_method_2_130 : decode method_2_code 130 = .ok (.newarray .char, 2) := by decide +kernel
theorem d_method_2_132 : decode method_2_code 132 = .ok (.dup, 1) := by decide +kernel
theorem d_method_2_133 : decode method_2_code 133 = .ok (.iconst 0, 1) := by decide +kernel
theorem d_method_2_134 : decode method_2_code 134 = .ok (.bipush 100, 2) := by decide +kernel
theorem d_method_2_136 : decode method_2_code 136 = .ok (.castore, 1) := by decide +kernel
theorem d_method_2_137 : decode method_2_code 137 = .ok (.dup, 1) := by decide +kernel
theorem d_method_2_138 : decode method_2_code 138 = .ok (.iconst 1, 1) := by decide +kernel
theorem d_method_2_139 : decode method_2_code 139 = .ok (.bipush 105, 2) := by decide +kernel
theorem d_method_2_141 : decode method_2_code 141 = .ok (.castore, 1) := by decide +kernel
theorem own_nl_char_105 : nar .char (105 : Int32) = (105 : Int32) := by decide
theorem d_method_2_142 : decode method_2_code 142 = .ok (.dup, 1) := by decide +kernel
theorem d_method_2_143 : decode method_2_code 143 = .ok (.iconst 2, 1) := by decide +kernel
theorem d_method_2_144 : decode method_2_code 144 = .ok (.bipush 115, 2) := by decide +kernel
theorem d_method_2_146 : decode method_2_code 146 = .ok (.castore, 1) := by decide +kernel
theorem own_nl_char_115 : nar .char (115 : Int32) = (115 : Int32) := by decide
theorem d_method_2_147 : decode method_2_code 147 = .ok (.dup, 1) := by decide +kernel
theorem d_method_2_148 : decode method_2_code 148 = .ok (.iconst 3, 1) := by decide +kernel
theorem d_method_2_149 : decode method_2_code 149 = .ok (.bipush 97, 2) := by decide +kernel
theorem d_method_2_151 : decode method_2_code 151 = .ok (.castore, 1) := by decide +kernel
theorem d_method_2_152 : decode method_2_code 152 = .ok (.dup, 1) := by decide +kernel
theorem d_method_2_153 : decode method_2_code 153 = .ok (.iconst 4, 1) := by decide +kernel
theorem d_method_2_154 : decode method_2_code 154 = .ok (.bipush 98, 2) := by decide +kernel
theorem d_method_2_156 : decode method_2_code 156 = .ok (.castore, 1) := by decide +kernel
theorem own_nl_char_98 : nar .char (98 : Int32) = (98 : Int32) := by decide
theorem d_method_2_157 : decode method_2_code 157 = .ok (.dup, 1) := by decide +kernel
theorem d_method_2_158 : decode method_2_code 158 = .ok (.iconst 5, 1) := by decide +kernel
theorem d_method_2_159 : decode method_2_code 159 = .ok (.bipush 105, 2) := by decide +kernel
theorem d_method_2_161 : decode method_2_code 161 = .ok (.castore, 1) := by decide +kernel
theorem d_method_2_162 : decode method_2_code 162 = .ok (.dup, 1) := by decide +kernel
theorem d_method_2_163 : decode method_2_code 163 = .ok (.bipush 6, 2) := by decide +kernel
theorem d_method_2_165 : decode method_2_code 165 = .ok (.bipush 108, 2) := by decide +kernel
theorem d_method_2_167 : decode method_2_code 167 = .ok (.castore, 1) := by decide +kernel
theorem own_nl_char_108 : nar .char (108 : Int32) = (108 : Int32) := by decide
theorem d_method_2_168 : decode method_2_code 168 = .ok (.dup, 1) := by decide +kernel
theorem d_method_2_169 : decode method_2_code 169 = .ok (.bipush 7, 2) := by decide +kernel
theorem d_method_2_171 : decode method_2_code 171 = .ok (.bipush 105, 2) := by decide +kernel
theorem d_method_2_173 : decode method_2_code 173 = .ok (.castore, 1) := by decide +kernel
theorem d_method_2_174 : decode method_2_code 174 = .ok (.dup, 1) := by decide +kernel
theorem d_method_2_175 : decode method_2_code 175 = .ok (.bipush 8, 2) := by decide +kernel
theorem d_method_2_177 : decode method_2_code 177 = .ok (.bipush 116, 2) := by decide +kernel
theorem d_method_2_179 : decode method_2_code 179 = .ok (.castore, 1) := by decide +kernel
theorem d_method_2_180 : decode method_2_code 180 = .ok (.areturn, 1) := by decide +kernel
theorem d_method_2_181 : decode method_2_code 181 = .ok (.iload_n 0, 1) := by decide +kernel
theorem d_method_2_182 : decode method_2_code 182 = .ok (.bipush 6, 2) := by decide +kernel
theorem d_method_2_184 : decode method_2_code 184 = .ok (.if_icmp .ne 62, 3) := by decide +kernel
theorem d_method_2_187 : decode method_2_code 187 = .ok (.bipush 10, 2) := by decide +kernel
theorem d_method_2_189 : decode method_2_code 189 = .ok (.newarray .char, 2) := by decide +kernel
theorem d_method_2_191 : decode method_2_code 191 = .ok (.dup, 1) := by decide +kernel
theorem d_method_2_192 : decode method_2_code 192 = .ok (.iconst 0, 1) := by decide +kernel
theorem d_method_2_193 : decode method_2_code 193 = .ok (.bipush 100, 2) := by decide +kernel
theorem d_method_2_195 : decode method_2_code 195 = .ok (.castore, 1) := by decide +kernel
theorem d_method_2_196 : decode method_2_code 196 = .ok (.dup, 1) := by decide +kernel
theorem d_method_2_197 : decode method_2_code 197 = .ok (.iconst 1, 1) := by decide +kernel
theorem d_method_2_198 : decode method_2_code 198 = .ok (.bipush 105, 2) := by decide +kernel
theorem d_method_2_200 : decode method_2_code 200 = .ok (.castore, 1) := by decide +kernel
theorem d_method_2_201 : decode method_2_code 201 = .ok (.dup, 1) := by decide +kernel
theorem d_method_2_202 : decode method_2_code 202 = .ok (.iconst 2, 1) := by decide +kernel
theorem d_method_2_203 : decode method_2_code 203 = .ok (.bipush 115, 2) := by decide +kernel
theorem d_method_2_205 : decode method_2_code 205 = .ok (.castore, 1) := by decide +kernel
theorem d_method_2_206 : decode method_2_code 206 = .ok (.dup, 1) := by decide +kernel
theorem d_method_2_207 : decode method_2_code 207 = .ok (.iconst 3, 1) := by decide +kernel
theorem d_method_2_208 : decode method_2_code 208 = .ok (.bipush 97, 2) := by decide +kernel
theorem d_method_2_210 : decode method_2_code 210 = .ok (.castore, 1) := by decide +kernel
theorem d_method_2_211 : decode method_2_code 211 = .ok (.dup, 1) := by decide +kernel
theorem d_method_2_212 : decode method_2_code 212 = .ok (.iconst 4, 1) := by decide +kernel
theorem d_method_2_213 : decode method_2_code 213 = .ok (.bipush 98, 2) := by decide +kernel
theorem d_method_2_215 : decode method_2_code 215 = .ok (.castore, 1) := by decide +kernel
theorem d_method_2_216 : decode method_2_code 216 = .ok (.dup, 1) := by decide +kernel
theorem d_method_2_217 : decode method_2_code 217 = .ok (.iconst 5, 1) := by decide +kernel
theorem d_method_2_218 : decode method_2_code 218 = .ok (.bipush 105, 2) := by decide +kernel
theorem d_method_2_220 : decode method_2_code 220 = .ok (.castore, 1) := by decide +kernel
theorem d_method_2_221 : decode method_2_code 221 = .ok (.dup, 1) := by decide +kernel
theorem d_method_2_222 : decode method_2_code 222 = .ok (.bipush 6, 2) := by decide +kernel
theorem d_method_2_224 : decode method_2_code 224 = .ok (.bipush 108, 2) := by decide +kernel
theorem d_method_2_226 : decode method_2_code 226 = .ok (.castore, 1) := by decide +kernel
theorem d_method_2_227 : decode method_2_code 227 = .ok (.dup, 1) := by decide +kernel
theorem d_method_2_228 : decode method_2_code 228 = .ok (.bipush 7, 2) := by decide +kernel
theorem d_method_2_230 : decode method_2_code 230 = .ok (.bipush 105, 2) := by decide +kernel
theorem d_method_2_232 : decode method_2_code 232 = .ok (.castore, 1) := by decide +kernel
theorem d_method_2_233 : decode method_2_code 233 = .ok (.dup, 1) := by decide +kernel
theorem d_method_2_234 : decode method_2_code 234 = .ok (.bipush 8, 2) := by decide +kernel
theorem d_method_2_236 : decode method_2_code 236 = .ok (.bipush 116, 2) := by decide +kernel
theorem d_method_2_238 : decode method_2_code 238 = .ok (.castore, 1) := by decide +kernel
theorem d_method_2_239 : decode method_2_code 239 = .ok (.dup, 1) := by decide +kernel
theorem d_method_2_240 : decode method_2_code 240 = .ok (.bipush 9, 2) := by decide +kernel
theorem d_method_2_242 : decode method_2_code 242 = .ok (.bipush 121, 2) := by decide +kernel
theorem d_method_2_244 : decode method_2_code 244 = .ok (.castore, 1) := by decide +kernel
theorem own_nl_char_121 : nar .char (121 : Int32) = (121 : Int32) := by decide
theorem d_method_2_245 : decode method_2_code 245 = .ok (.areturn, 1) := by decide +kernel
theorem d_method_2_246 : decode method_2_code 246 = .ok (.bipush 11, 2) := by decide +kernel
theorem d_method_2_248 : decode method_2_code 248 = .ok (.newarray .char, 2) := by decide +kernel
theorem d_method_2_250 : decode method_2_code 250 = .ok (.dup, 1) := by decide +kernel
theorem d_method_2_251 : decode method_2_code 251 = .ok (.iconst 0, 1) := by decide +kernel
theorem d_method_2_252 : decode method_2_code 252 = .ok (.bipush 100, 2) := by decide +kernel
theorem d_method_2_254 : decode method_2_code 254 = .ok (.castore, 1) := by decide +kernel
theorem d_method_2_255 : decode method_2_code 255 = .ok (.dup, 1) := by decide +kernel
theorem d_method_2_256 : decode method_2_code 256 = .ok (.iconst 1, 1) := by decide +kernel
theorem d_method_2_257 : decode method_2_code 257 = .ok (.bipush 105, 2) := by decide +kernel
theorem d_method_2_259 : decode method_2_code 259 = .ok (.castore, 1) := by decide +kernel
theorem d_method_2_260 : decode method_2_code 260 = .ok (.dup, 1) := by decide +kernel
theorem d_method_2_261 : decode method_2_code 261 = .ok (.iconst 2, 1) := by decide +kernel
theorem d_method_2_262 : decode method_2_code 262 = .ok (.bipush 115, 2) := by decide +kernel
theorem d_method_2_264 : decode method_2_code 264 = .ok (.castore, 1) := by decide +kernel
theorem d_method_2_265 : decode method_2_code 265 = .ok (.dup, 1) := by decide +kernel
theorem d_method_2_266 : decode method_2_code 266 = .ok (.iconst 3, 1) := by decide +kernel
theorem d_method_2_267 : decode method_2_code 267 = .ok (.bipush 97, 2) := by decide +kernel
theorem d_method_2_269 : decode method_2_code 269 = .ok (.castore, 1) := by decide +kernel
theorem d_method_2_270 : decode method_2_code 270 = .ok (.dup, 1) := by decide +kernel
theorem d_method_2_271 : decode method_2_code 271 = .ok (.iconst 4, 1) := by decide +kernel
theorem d_method_2_272 : decode method_2_code 272 = .ok (.bipush 98, 2) := by decide +kernel
theorem d_method_2_274 : decode method_2_code 274 = .ok (.castore, 1) := by decide +kernel
theorem d_method_2_275 : decode method_2_code 275 = .ok (.dup, 1) := by decide +kernel
theorem d_method_2_276 : decode method_2_code 276 = .ok (.iconst 5, 1) := by decide +kernel
theorem d_method_2_277 : decode method_2_code 277 = .ok (.bipush 105, 2) := by decide +kernel
theorem d_method_2_279 : decode method_2_code 279 = .ok (.castore, 1) := by decide +kernel
theorem d_method_2_280 : decode method_2_code 280 = .ok (.dup, 1) := by decide +kernel
theorem d_method_2_281 : decode method_2_code 281 = .ok (.bipush 6, 2) := by decide +kernel
theorem d_method_2_283 : decode method_2_code 283 = .ok (.bipush 108, 2) := by decide +kernel
theorem d_method_2_285 : decode method_2_code 285 = .ok (.castore, 1) := by decide +kernel
theorem d_method_2_286 : decode method_2_code 286 = .ok (.dup, 1) := by decide +kernel
theorem d_method_2_287 : decode method_2_code 287 = .ok (.bipush 7, 2) := by decide +kernel
theorem d_method_2_289 : decode method_2_code 289 = .ok (.bipush 105, 2) := by decide +kernel
theorem d_method_2_291 : decode method_2_code 291 = .ok (.castore, 1) := by decide +kernel
theorem d_method_2_292 : decode method_2_code 292 = .ok (.dup, 1) := by decide +kernel
theorem d_method_2_293 : decode method_2_code 293 = .ok (.bipush 8, 2) := by decide +kernel
theorem d_method_2_295 : decode method_2_code 295 = .ok (.bipush 116, 2) := by decide +kernel
theorem d_method_2_297 : decode method_2_code 297 = .ok (.castore, 1) := by decide +kernel
theorem d_method_2_298 : decode method_2_code 298 = .ok (.dup, 1) := by decide +kernel
theorem d_method_2_299 : decode method_2_code 299 = .ok (.bipush 9, 2) := by decide +kernel
theorem d_method_2_301 : decode method_2_code 301 = .ok (.bipush 121, 2) := by decide +kernel
theorem d_method_2_303 : decode method_2_code 303 = .ok (.castore, 1) := by decide +kernel
theorem d_method_2_304 : decode method_2_code 304 = .ok (.dup, 1) := by decide +kernel
theorem d_method_2_305 : decode method_2_code 305 = .ok (.bipush 10, 2) := by decide +kernel
theorem d_method_2_307 : decode method_2_code 307 = .ok (.iload_n 1, 1) := by decide +kernel
theorem d_method_2_308 : decode method_2_code 308 = .ok (.castore, 1) := by decide +kernel
theorem d_method_2_309 : decode method_2_code 309 = .ok (.areturn, 1) := by decide +kernel
theorem pn_232 : plainName "com/example/vestline/vestline/TerminationReason" = true := by first | (simp [plainName, overriddenIn]; done) | decide +kernel
theorem d_prog_17_method_1_0 : decode prog_17_method_1_code 0 = .ok (.getstatic 10, 3) := by decide +kernel
theorem d_prog_17_method_1_3 : decode prog_17_method_1_code 3 = .ok (.invokevirtual 14, 3) := by decide +kernel
theorem d_prog_17_method_1_6 : decode prog_17_method_1_code 6 = .ok (.checkcast 15, 3) := by decide +kernel
theorem d_prog_17_method_1_9 : decode prog_17_method_1_code 9 = .ok (.areturn, 1) := by decide +kernel
theorem pn_241 : plainName "java/util/Optional" = true := by first | (simp [plainName, overriddenIn]; done) | decide +kernel
theorem d_jdk_32_method_1_0 : decode jdk_32_method_1_code 0 = .ok (.getstatic 1, 3) := by decide +kernel
theorem d_jdk_32_method_1_3 : decode jdk_32_method_1_code 3 = .ok (.astore_n 0, 1) := by decide +kernel
theorem d_jdk_32_method_1_4 : decode jdk_32_method_1_code 4 = .ok (.aload_n 0, 1) := by decide +kernel
theorem d_jdk_32_method_1_5 : decode jdk_32_method_1_code 5 = .ok (.areturn, 1) := by decide +kernel
theorem pn_243 : plainName "java/util/Objects" = true := by first | (simp [plainName, overriddenIn]; done) | decide +kernel
theorem d_jdk_31_method_10_0 : decode jdk_31_method_10_code 0 = .ok (.aload_n 0, 1) := by decide +kernel
theorem d_jdk_31_method_10_1 : decode jdk_31_method_10_code 1 = .ok (.ifnonnull 11, 3) := by decide +kernel
theorem d_jdk_31_method_10_12 : decode jdk_31_method_10_code 12 = .ok (.aload_n 0, 1) := by decide +kernel
theorem d_jdk_31_method_10_13 : decode jdk_31_method_10_code 13 = .ok (.areturn, 1) := by decide +kernel
theorem d_jdk_32_method_2_0 : decode jdk_32_method_2_code 0 = .ok (.aload_n 0, 1) := by decide +kernel
theorem d_jdk_32_method_2_1 : decode jdk_32_method_2_code 1 = .ok (.invokespecial 7, 3) := by decide +kernel
theorem d_jdk_32_method_2_4 : decode jdk_32_method_2_code 4 = .ok (.aload_n 0, 1) := by decide +kernel
theorem d_jdk_32_method_2_5 : decode jdk_32_method_2_code 5 = .ok (.aload_n 1, 1) := by decide +kernel
theorem d_jdk_32_method_2_6 : decode jdk_32_method_2_code 6 = .ok (.putfield 13, 3) := by decide +kernel
theorem d_jdk_32_method_2_9 : decode jdk_32_method_2_code 9 = .ok (.return_, 1) := by decide +kernel
theorem d_jdk_32_method_3_0 : decode jdk_32_method_3_code 0 = .ok (.new 2, 3) := by decide +kernel
theorem d_jdk_32_method_3_3 : decode jdk_32_method_3_code 3 = .ok (.dup, 1) := by decide +kernel
theorem d_jdk_32_method_3_4 : decode jdk_32_method_3_code 4 = .ok (.aload_n 0, 1) := by decide +kernel
theorem d_jdk_32_method_3_5 : decode jdk_32_method_3_code 5 = .ok (.invokestatic 17, 3) := by decide +kernel
theorem pd_255 : parseMethodDescriptor "(Ljava/lang/Object;)Ljava/lang/Object;" = some ⟨[(.object "java/lang/Object")], some (.object "java/lang/Object")⟩ := by decide +kernel
theorem d_jdk_32_method_3_8 : decode jdk_32_method_3_code 8 = .ok (.invokespecial 23, 3) := by decide +kernel
theorem pd_258 : parseMethodDescriptor "(Ljava/lang/Object;)V" = some ⟨[(.object "java/lang/Object")], none⟩ := by decide +kernel
theorem d_jdk_32_method_3_11 : decode jdk_32_method_3_code 11 = .ok (.areturn, 1) := by decide +kernel
theorem d_jdk_32_method_15_0 : decode jdk_32_method_15_code 0 = .ok (.aload_n 0, 1) := by decide +kernel
theorem d_jdk_32_method_15_1 : decode jdk_32_method_15_code 1 = .ok (.getfield 13, 3) := by decide +kernel
theorem d_jdk_32_method_15_4 : decode jdk_32_method_15_code 4 = .ok (.ifnull 10, 3) := by decide +kernel
theorem d_jdk_32_method_15_14 : decode jdk_32_method_15_code 14 = .ok (.aload_n 1, 1) := by decide +kernel
theorem d_jdk_32_method_15_15 : decode jdk_32_method_15_code 15 = .ok (.areturn, 1) := by decide +kernel
theorem d_jdk_32_method_15_7 : decode jdk_32_method_15_code 7 = .ok (.aload_n 0, 1) := by decide +kernel
theorem d_jdk_32_method_15_8 : decode jdk_32_method_15_code 8 = .ok (.getfield 13, 3) := by decide +kernel
theorem d_jdk_32_method_15_11 : decode jdk_32_method_15_code 11 = .ok (.goto 4, 3) := by decide +kernel
theorem d_prog_17_method_5_0 : decode prog_17_method_5_code 0 = .ok (.invokestatic 33, 3) := by decide +kernel
theorem pd_266 : parseMethodDescriptor "()Ljava/util/Optional;" = some ⟨[], some (.object "java/util/Optional")⟩ := by decide +kernel
theorem d_prog_17_method_5_3 : decode prog_17_method_5_code 3 = .ok (.astore_n 1, 1) := by decide +kernel
theorem d_prog_17_method_5_4 : decode prog_17_method_5_code 4 = .ok (.invokestatic 39, 3) := by decide +kernel
theorem pd_269 : parseMethodDescriptor "()[Lcom/example/vestline/vestline/TerminationReason;" = some ⟨[], some (.array (.object "com/example/vestline/vestline/TerminationReason"))⟩ := by decide +kernel
theorem d_prog_17_method_5_7 : decode prog_17_method_5_code 7 = .ok (.astore_n 2, 1) := by decide +kernel
theorem d_prog_17_method_5_8 : decode prog_17_method_5_code 8 = .ok (.aload_n 2, 1) := by decide +kernel
theorem d_prog_17_method_5_9 : decode prog_17_method_5_code 9 = .ok (.arraylength, 1) := by decide +kernel
theorem d_prog_17_method_5_10 : decode prog_17_method_5_code 10 = .ok (.istore_n 3, 1) := by decide +kernel
theorem d_prog_17_method_5_11 : decode prog_17_method_5_code 11 = .ok (.iconst 0, 1) := by decide +kernel
theorem d_prog_17_method_5_12 : decode prog_17_method_5_code 12 = .ok (.istore 4, 2) := by decide +kernel
theorem d_prog_17_method_5_14 : decode prog_17_method_5_code 14 = .ok (.iload 4, 2) := by decide +kernel
theorem d_prog_17_method_5_16 : decode prog_17_method_5_code 16 = .ok (.iload_n 3, 1) := by decide +kernel
theorem d_prog_17_method_5_17 : decode prog_17_method_5_code 17 = .ok (.if_icmp .ge 36, 3) := by decide +kernel
theorem d_prog_17_method_5_20 : decode prog_17_method_5_code 20 = .ok (.aload_n 2, 1) := by decide +kernel
theorem d_prog_17_method_5_21 : decode prog_17_method_5_code 21 = .ok (.iload 4, 2) := by decide +kernel
theorem d_prog_17_method_5_23 : decode prog_17_method_5_code 23 = .ok (.aaload, 1) := by decide +kernel
theorem d_prog_17_method_5_24 : decode prog_17_method_5_code 24 = .ok (.astore 5, 2) := by decide +kernel
theorem d_prog_17_method_5_26 : decode prog_17_method_5_code 26 = .ok (.aload 5, 2) := by decide +kernel
theorem d_prog_17_method_5_28 : decode prog_17_method_5_code 28 = .ok (.getfield 29, 3) := by decide +kernel
theorem d_prog_17_method_5_31 : decode prog_17_method_5_code 31 = .ok (.aload_n 0, 1) := by decide +kernel
theorem d_prog_17_method_5_32 : decode prog_17_method_5_code 32 = .ok (.invokevirtual 43, 3) := by decide +kernel
theorem pd_291 : parseMethodDescriptor "(Ljava/lang/Object;)Z" = some ⟨[(.object "java/lang/Object")], some .boolean⟩ := by decide +kernel
theorem d_prog_17_method_5_35 : decode prog_17_method_5_code 35 = .ok (.ifCond .eq 12, 3) := by decide +kernel
theorem d_prog_17_method_5_38 : decode prog_17_method_5_code 38 = .ok (.aload 5, 2) := by decide +kernel
theorem d_prog_17_method_5_40 : decode prog_17_method_5_code 40 = .ok (.invokestatic 49, 3) := by decide +kernel
theorem pd_295 : parseMethodDescriptor "(Ljava/lang/Object;)Ljava/util/Optional;" = some ⟨[(.object "java/lang/Object")], some (.object "java/util/Optional")⟩ := by decide +kernel
theorem d_prog_17_method_5_43 : decode prog_17_method_5_code 43 = .ok (.astore_n 1, 1) := by decide +kernel
theorem d_prog_17_method_5_44 : decode prog_17_method_5_code 44 = .ok (.goto 9, 3) := by decide +kernel
theorem d_prog_17_method_5_53 : decode prog_17_method_5_code 53 = .ok (.aload_n 1, 1) := by decide +kernel
theorem d_prog_17_method_5_54 : decode prog_17_method_5_code 54 = .ok (.areturn, 1) := by decide +kernel
theorem d_prog_17_method_5_47 : decode prog_17_method_5_code 47 = .ok (.iinc 4 1, 3) := by decide +kernel
theorem d_prog_17_method_5_50 : decode prog_17_method_5_code 50 = .ok (.goto (-36), 3) := by decide +kernel
theorem pd_332 : parseMethodDescriptor "(IC)[C" = some ⟨[.int, .char], some (.array .char)⟩ := by decide +kernel
theorem pd_361 : parseMethodDescriptor "([C)V" = some ⟨[(.array .char)], none⟩ := by decide +kernel
theorem pd_396 : parseMethodDescriptor "(Ljava/lang/String;)Ljava/util/Optional;" = some ⟨[(.object "java/lang/String")], some (.object "java/util/Optional")⟩ := by decide +kernel
def Q_ini4 (Z : State) (a1 : Addr) (a2 : Addr) (c0 : Value) (h0 : Heap) (n0 : Nat) (v : Option Value) (h : Heap) (L : List Loc) : Prop := v = none ∧ Fr n0 L ∧ Keep h0 h [a1] ∧ Exa Z h a1 "java/lang/String" ∧ Fld Z h a1 "java/lang/String" "coder" "B" (.int (0 : Int32)) ∧ ∃ (t : Addr) (kb : ClassId), Fld Z h a1 "java/lang/String" "value" "[B" (.ref t) ∧ Arv Z h t kb .byte (0 : Int32) [] (.int (0 : Int32))
theorem ef_ini4 (m : MethodId) (x0 : Addr) (x1 : Addr) (x2 : Int32) (x3 : Int32)  : entryFrame m #[(.ref x0), (.ref x1), (.int x2), (.int x3), .null] 6 = mkF m 0 #[.val (.ref x0), .val (.ref x1), .val (.int x2), .val (.int x3), .val .null, .unset] [] := by first | (simp [entryFrame, mkF, argsToLocals, Value.category]; done) | rfl
set_option maxRecDepth 65536 in
set_option maxHeartbeats 40000000 in
theorem c_ini4 (l : Launch) (Z : State) (a0 : Array Value) (hw : ∀ d ∈ tables_1, d.before a0 Z = true) (ws : List Jvm.Cond) (a1 : Addr) (a2 : Addr) (c0 : Value) (h0 : Heap) (n0 : Nat) (Z0 : n0 ≤ h0.size) (E1 : Exa Z h0 a1 "java/lang/String") (F1 : Fld Z h0 a1 "java/lang/String" "value" "[B" .null) (F2 : Fld Z h0 a1 "java/lang/String" "coder" "B" c0) (g1 : n0 ≤ a1) :
    MetFree l (⟨"java/lang/String", "<init>", "([CIILjava/lang/Void;)V"⟩ : MethodName) (head1 (Jvm.Cond.code (⟨"java/lang/String", "<init>", "([CIILjava/lang/Void;)V"⟩ : MethodName) jdk_42_method_149_code 6 none :: ws) ({ frames := 1, cells := 4, slots := 8, locals := 12 } : Room)) (fun a U => a = #[(.ref a1), (.ref a2), (.int (0 : Int32)), (.int (0 : Int32)), .null] ∧ Z.Warmed39 U.vm ∧ U.heap = h0 ∧ CHv Z ownEL U.vm h0) (fun _ _ _ _ _ => True) (fun _ U o U' => ∃ v L, o = .returned v ∧ (Q_ini4 Z a1 a2 c0 h0 n0) v U'.heap L ∧ CHr Z ownEL U.vm U.heap U'.vm U'.heap ∧ ReturnedEndW U o U' L ({ frames := 1, cells := 4, slots := 8, locals := 12 } : Room).cells ({ frames := 1, cells := 4, slots := 8, locals := 12 } : Room).slots) := by
  refine MetFree.of_bodySF (plainFor_of_name pn_1) hisR ?_
  intro p e s m args below meth c s₁ Bd hml0 hP hK
  obtain ⟨rfl, hZ, hh, hCH⟩ := hP
  have hx := Bd.exec
  have hby := Bd.bytes
  have hml : c.maxLocals = 6 := hml0
  have hown : s.vm.findClass "java/lang/String" = some m.cls := findClass_of_methodNamed Bd.named
  have hnm := (name_of_methodNamed Bd.named Bd.method).1
  have X0 : Stand p l e ({ frames := 1, cells := 4, slots := 8, locals := 12 } : Room) (s.setVm s.vm) m #[(.ref a1), (.ref a2), (.int (0 : Int32)), (.int (0 : Int32)), .null] below meth c s₁ [] 0 0 := Stand.of_body Bd
  have e0 : s₁.heap = h0 := by rw [← hh, Bd.state]; rfl
  have N0 := Fr.nil n0
  refine ownOutH hh (P := (Q_ini4 Z a1 a2 c0 h0 n0)) ?_
  refine ownBy (A := s₁.setTop (mkF m 0 #[.val (.ref a1), .val (.ref a2), .val (.int (0 : Int32)), .val (.int (0 : Int32)), .val .null, .unset] [])) (fun t k => castTop (ef_ini4 m a1 a2 (0 : Int32) (0 : Int32)) k) ?_
  have hS0 : s.Since s.vm h0.size := own_since
  have hEL := own_EW hw
  have R0 := CHr.refl hCH
  have wS := own_wS hw
  have sfa1 : Safe Z ownEL s.vm h0 a1 := own_safe_blank hZ.alike E1 F1
  refine ownBy (A := s₁.setTop (mkF m 1 #[.val (.ref a1), .val (.ref a2), .val (.int (0 : Int32)), .val (.int (0 : Int32)), .val .null, .unset] [(.ref a1)])) (fun t kt => ?_) ?_
  · show Steps p.tables e below (s₁.setTop (mkF m 0 #[.val (.ref a1), .val (.ref a2), .val (.int (0 : Int32)), .val (.int (0 : Int32)), .val .null, .unset] [])) t
    refine XS.aloadN X0.here hx rfl (hb hby d_jdk_42_method_149_0) rfl rfl ?_
    exact kt
  obtain ⟨T2, X2, e2, st2⟩ := initO X0 hx hZ hown (hw _ (List.mem_of_getElem? (i := 16) rfl)) (hw _ (List.mem_of_getElem? (i := 17) rfl)) (hw _ (List.mem_of_getElem? (i := 18) rfl)) e0 (g := (mkF m 1 #[.val (.ref a1), .val (.ref a2), .val (.int (0 : Int32)), .val (.int (0 : Int32)), .val .null, .unset] [(.ref a1)])) rfl (by rw [hml]; rfl) rfl (hb hby d_jdk_42_method_149_1) (by decide) (W := 0) (by show 2 * 0 + _ ≤ _; exact Nat.le_of_eq rfl) (by decide)
  refine ownBy st2 ?_
  show ownG p.tables e below _ (T2.setTop (mkF m 4 #[.val (.ref a1), .val (.ref a2), .val (.int (0 : Int32)), .val (.int (0 : Int32)), .val .null, .unset] []))
  refine ownBy (A := T2.setTop (mkF m 9 #[.val (.ref a1), .val (.ref a2), .val (.int (0 : Int32)), .val (.int (0 : Int32)), .val .null, .unset] [(.ref a1)])) (fun t kt => ?_) ?_
  · show Steps p.tables e below (T2.setTop (mkF m 4 #[.val (.ref a1), .val (.ref a2), .val (.int (0 : Int32)), .val (.int (0 : Int32)), .val .null, .unset] [])) t
    refine XS.iloadN X2.here hx rfl (hb hby d_jdk_42_method_149_4) rfl ?_
    show Steps p.tables e below (T2.setTop (mkF m 5 #[.val (.ref a1), .val (.ref a2), .val (.int (0 : Int32)), .val (.int (0 : Int32)), .val .null, .unset] [(.int (0 : Int32))])) t
    refine XS.ifNo X2.here hx rfl (hb hby d_jdk_42_method_149_5) rfl ((if0 _ _).trans (teq ((by decide) : (0 : Int32) = (0 : Int32))).2) ?_
    show Steps p.tables e below (T2.setTop (mkF m 8 #[.val (.ref a1), .val (.ref a2), .val (.int (0 : Int32)), .val (.int (0 : Int32)), .val .null, .unset] [])) t
    refine XS.aloadN X2.here hx rfl (hb hby d_jdk_42_method_149_8) rfl rfl ?_
    exact kt
  obtain ⟨a3, T3, h3, k3, b3, kb3, X3, e3, E3, hS3, hk3, hZ3, hown3, A3, C3, V3, Ab3, -, -, hC3, Lt3, hne3, st3⟩ := ldcCH (text := "") X2 hx hZ hown (hw _ (List.mem_of_getElem? (i := 19) rfl)) wS e2 hS0 (Nat.le_refl _) hEL (by simp [ownEL]) R0.1 (vs := []) (z := (0 : Int32)) ⟨by decide, by decide⟩ (by decide) rfl (g := (mkF m 9 #[.val (.ref a1), .val (.ref a2), .val (.int (0 : Int32)), .val (.int (0 : Int32)), .val .null, .unset] [(.ref a1)])) rfl (hb hby d_jdk_42_method_149_9) (n := 0) (by decide) (by decide) (by decide) (by decide)
  have R5 := R0.trans hC3
  have sf6 := CHr.safe hC3 E1.lt sfa1
  have ne7 := hne3 a1 sf6
  refine ownBy st3 ?_
  show ownG p.tables e below _ (T3.setTop (mkF m 11 #[.val (.ref a1), .val (.ref a2), .val (.int (0 : Int32)), .val (.int (0 : Int32)), .val .null, .unset] [(.ref a3), (.ref a1)]))
  obtain ⟨T8, X8, e8, st8⟩ := getF X3 hx hZ3 hown3 (host := "") (Or.inl (hw _ (List.mem_of_getElem? (i := 25) rfl))) Via.refl e3 V3 (g := (mkF m 11 #[.val (.ref a1), .val (.ref a2), .val (.int (0 : Int32)), .val (.int (0 : Int32)), .val .null, .unset] [(.ref a3), (.ref a1)])) rfl rfl (hb hby d_jdk_42_method_149_11)
  refine ownBy st8 ?_
  show ownG p.tables e below _ (T8.setTop (mkF m 14 #[.val (.ref a1), .val (.ref a2), .val (.int (0 : Int32)), .val (.int (0 : Int32)), .val .null, .unset] [(.ref b3), (.ref a1)]))
  have f10 := (F1.ext E3)
  have f11 := (E1.ext E3)
  obtain ⟨T9, h9, X9, e9, W9, st9⟩ := putF X8 hx hZ3 hown3 (host := "") (Or.inl (hw _ (List.mem_of_getElem? (i := 25) rfl))) Via.refl e8 f10 f11 (Or.inr ⟨(hw _ (List.mem_of_getElem? (i := 21) rfl)), rfl, hnm⟩) (hw _ (List.mem_of_getElem? (i := 7) rfl)) (ty := (.array .byte)) (by decide) rfl rfl (g := (mkF m 14 #[.val (.ref a1), .val (.ref a2), .val (.int (0 : Int32)), .val (.int (0 : Int32)), .val .null, .unset] [(.ref b3), (.ref a1)])) rfl rfl (hb hby d_jdk_42_method_149_14)
  have F12 := f10.same W9
  have N13 := Fr.snoc X9 N0 g1
  have R14 := R5.trans (CHr.wr W9 sf6 R5.1)
  have sf15 := Safe.wr W9 sf6 R5.1 sf6
  refine ownBy st9 ?_
  show ownG p.tables e below _ (T9.setTop (mkF m 17 #[.val (.ref a1), .val (.ref a2), .val (.int (0 : Int32)), .val (.int (0 : Int32)), .val .null, .unset] []))
  refine ownBy (A := T9.setTop (mkF m 18 #[.val (.ref a1), .val (.ref a2), .val (.int (0 : Int32)), .val (.int (0 : Int32)), .val .null, .unset] [(.ref a1)])) (fun t kt => ?_) ?_
  · show Steps p.tables e below (T9.setTop (mkF m 17 #[.val (.ref a1), .val (.ref a2), .val (.int (0 : Int32)), .val (.int (0 : Int32)), .val .null, .unset] [])) t
    refine XS.aloadN X9.here hx rfl (hb hby d_jdk_42_method_149_17) rfl rfl ?_
    exact kt
  obtain ⟨a16, T16, h16, k16, b16, kb16, X16, e16, E16, hS16, hk16, hZ16, hown16, A16, C16, V16, Ab16, -, -, hC16, Lt16, hne16, st16⟩ := ldcCH (text := "") X9 hx hZ3 hown3 (hw _ (List.mem_of_getElem? (i := 19) rfl)) wS e9 hS3 (Nat.le_trans hk3 (Keep.of_wr W9).1) hEL (by simp [ownEL]) R14.1 (vs := []) (z := (0 : Int32)) ⟨by decide, by decide⟩ (by decide) rfl (g := (mkF m 18 #[.val (.ref a1), .val (.ref a2), .val (.int (0 : Int32)), .val (.int (0 : Int32)), .val .null, .unset] [(.ref a1)])) rfl (hb hby d_jdk_42_method_149_18) (n := 0) (by decide) (by decide) (by decide) (by decide)
  have R18 := R14.trans hC16
  have f20 := (f11.wr W9)
  have sf19 := CHr.safe hC16 f20.lt sf15
  have ne21 := hne16 a1 sf19
  refine ownBy st16 ?_
  show ownG p.tables e below _ (T16.setTop (mkF m 20 #[.val (.ref a1), .val (.ref a2), .val (.int (0 : Int32)), .val (.int (0 : Int32)), .val .null, .unset] [(.ref a16), (.ref a1)]))
  obtain ⟨T22, X22, e22, st22⟩ := getF X16 hx hZ16 hown16 (host := "") (Or.inl (hw _ (List.mem_of_getElem? (i := 26) rfl))) Via.refl e16 C16 (g := (mkF m 20 #[.val (.ref a1), .val (.ref a2), .val (.int (0 : Int32)), .val (.int (0 : Int32)), .val .null, .unset] [(.ref a16), (.ref a1)])) rfl rfl (hb hby d_jdk_42_method_149_20)
  refine ownBy st22 ?_
  show ownG p.tables e below _ (T22.setTop (mkF m 23 #[.val (.ref a1), .val (.ref a2), .val (.int (0 : Int32)), .val (.int (0 : Int32)), .val .null, .unset] [(.int (0 : Int32)), (.ref a1)]))
  have f24 := (((F2.ext E3).other W9 (Or.inr (slot_ne (Or.inr (hw _ (List.mem_of_getElem? (i := 22) rfl))) (Or.inr (hw _ (List.mem_of_getElem? (i := 21) rfl))) (by decide) (t := .byte) (t' := (.array .byte)) (by decide) (by decide)))).ext E16)
  have f25 := (f20.ext E16)
  obtain ⟨T23, h23, X23, e23, W23, st23⟩ := putFN X22 hx hZ16 hown16 (hw _ (List.mem_of_getElem? (i := 26) rfl)) Via.refl e22 f24 f25 (Or.inr ⟨(hw _ (List.mem_of_getElem? (i := 22) rfl)), rfl, hnm⟩) (hw _ (List.mem_of_getElem? (i := 7) rfl)) (ty := .byte) (v' := (.int (0 : Int32))) (by decide) rfl (fits_nar_byte (0 : Int32)) (g := (mkF m 23 #[.val (.ref a1), .val (.ref a2), .val (.int (0 : Int32)), .val (.int (0 : Int32)), .val .null, .unset] [(.int (0 : Int32)), (.ref a1)])) rfl rfl (hb hby d_jdk_42_method_149_23)
  have F26 := f24.same W23
  have N27 := Fr.snoc X23 N13 g1
  have R28 := R18.trans (CHr.wr W23 sf19 R18.1)
  have sf29 := Safe.wr W23 sf19 R18.1 sf19
  refine ownBy st23 ?_
  show ownG p.tables e below _ (T23.setTop (mkF m 26 #[.val (.ref a1), .val (.ref a2), .val (.int (0 : Int32)), .val (.int (0 : Int32)), .val .null, .unset] []))
  have f30 := (((((Keep.refl h0 [a1]).ext E3).wr W9 (Or.inl (List.mem_of_getElem? (i := 0) rfl))).ext E16).wr W23 (Or.inl (List.mem_of_getElem? (i := 0) rfl)))
  have f31 := (f25.wr W23)
  have f32 := ((F12.ext E16).other W23 (Or.inr (slot_ne (Or.inr (hw _ (List.mem_of_getElem? (i := 21) rfl))) (Or.inr (hw _ (List.mem_of_getElem? (i := 22) rfl))) (by decide) (t := (.array .byte)) (t' := .byte) (by decide) (by decide))))
  have f33 := (((Ab3.other W9 (Ne.symm ne7.2)).ext E16).other W23 (Ne.symm ne7.2))
  refine ownRetH X23 hS16 (by rw [e23]; exact (Nat.le_trans hk16 (Keep.of_wr W23).1)) Bd.notSynchronized (v := none) (fun _ => rfl) ?_ (R28.trans ((by rw [e23]; exact CHv.at X23 hZ16 hEL R28.1))) (Nat.le_of_ble_eq_true rfl) (Nat.le_of_ble_eq_true rfl) (fun fs hr => X23.returnOut hx Bd.returns (hb hby d_jdk_42_method_149_26) hr)
  show (Q_ini4 Z a1 a2 c0 h0 n0) (none) T23.heap _
  rw [e23]
  exact ⟨rfl, N27, f30, f31, F26, b3, kb3, f32, f33⟩
def Q_ini0 (Z : State) (a1 : Addr) (a2 : Addr) (c0 : Value) (kC : ClassId) (h0 : Heap) (n0 : Nat) (v : Option Value) (h : Heap) (L : List Loc) : Prop := v = none ∧ Fr n0 L ∧ Keep h0 h [a1] ∧ Exa Z h a1 "java/lang/String" ∧ Fld Z h a1 "java/lang/String" "coder" "B" (.int (0 : Int32)) ∧ ∃ (t : Addr) (kb : ClassId), Fld Z h a1 "java/lang/String" "value" "[B" (.ref t) ∧ Arv Z h t kb .byte (0 : Int32) [] (.int (0 : Int32))
theorem ef_ini0 (m : MethodId) (x0 : Addr) (x1 : Addr)  : entryFrame m #[(.ref x0), (.ref x1)] 2 = mkF m 0 #[.val (.ref x0), .val (.ref x1)] [] := by first | (simp [entryFrame, mkF, argsToLocals, Value.category]; done) | rfl
set_option maxRecDepth 65536 in
set_option maxHeartbeats 40000000 in
theorem c_ini0 (l : Launch) (Z : State) (a0 : Array Value) (hw : ∀ d ∈ tables_1, d.before a0 Z = true) (ws : List Jvm.Cond) (a1 : Addr) (a2 : Addr) (c0 : Value) (kC : ClassId) (h0 : Heap) (n0 : Nat) (Z0 : n0 ≤ h0.size) (E1 : Exa Z h0 a1 "java/lang/String") (F1 : Fld Z h0 a1 "java/lang/String" "value" "[B" .null) (F2 : Fld Z h0 a1 "java/lang/String" "coder" "B" c0) (g1 : n0 ≤ a1) (V1 : Arv Z h0 a2 kC .char (0 : Int32) [] (.int (0 : Int32))) (ne1 : a1 ≠ a2) :
    MetFree l (⟨"java/lang/String", "<init>", "([C)V"⟩ : MethodName) (head1 (Jvm.Cond.code (⟨"java/lang/String", "<init>", "([C)V"⟩ : MethodName) jdk_42_method_3_code 2 none :: ws) ({ frames := 2, cells := 4, slots := 8, locals := 29 } : Room)) (fun a U => a = #[(.ref a1), (.ref a2)] ∧ Z.Warmed39 U.vm ∧ U.heap = h0 ∧ CHv Z ownEL U.vm h0) (fun _ _ _ _ _ => True) (fun _ U o U' => ∃ v L, o = .returned v ∧ (Q_ini0 Z a1 a2 c0 kC h0 n0) v U'.heap L ∧ CHr Z ownEL U.vm U.heap U'.vm U'.heap ∧ ReturnedEndW U o U' L ({ frames := 2, cells := 4, slots := 8, locals := 29 } : Room).cells ({ frames := 2, cells := 4, slots := 8, locals := 29 } : Room).slots) := by
  refine MetFree.of_bodySF (plainFor_of_name pn_1) hisR ?_
  intro p e s m args below meth c s₁ Bd hml0 hP hK
  obtain ⟨rfl, hZ, hh, hCH⟩ := hP
  have hx := Bd.exec
  have hby := Bd.bytes
  have hml : c.maxLocals = 2 := hml0
  have hown : s.vm.findClass "java/lang/String" = some m.cls := findClass_of_methodNamed Bd.named
  have hnm := (name_of_methodNamed Bd.named Bd.method).1
  have X0 : Stand p l e ({ frames := 2, cells := 4, slots := 8, locals := 29 } : Room) (s.setVm s.vm) m #[(.ref a1), (.ref a2)] below meth c s₁ [] 0 0 := Stand.of_body Bd
  have e0 : s₁.heap = h0 := by rw [← hh, Bd.state]; rfl
  have N0 := Fr.nil n0
  refine ownOutH hh (P := (Q_ini0 Z a1 a2 c0 kC h0 n0)) ?_
  refine ownBy (A := s₁.setTop (mkF m 0 #[.val (.ref a1), .val (.ref a2)] [])) (fun t k => castTop (ef_ini0 m a1 a2) k) ?_
  have hS0 : s.Since s.vm h0.size := own_since
  have hEL := own_EW hw
  have R0 := CHr.refl hCH
  have wS := own_wS hw
  have sfa1 : Safe Z ownEL s.vm h0 a1 := own_safe_blank hZ.alike E1 F1
  refine ownBy (A := s₁.setTop (mkF m 4 #[.val (.ref a1), .val (.ref a2)] [(.ref a2), (.int (0 : Int32)), (.ref a2), (.ref a1)])) (fun t kt => ?_) ?_
  · show Steps p.tables e below (s₁.setTop (mkF m 0 #[.val (.ref a1), .val (.ref a2)] [])) t
    refine XS.aloadN X0.here hx rfl (hb hby d_jdk_42_method_3_0) rfl rfl ?_
    show Steps p.tables e below (s₁.setTop (mkF m 1 #[.val (.ref a1), .val (.ref a2)] [(.ref a1)])) t
    refine XS.aloadN X0.here hx rfl (hb hby d_jdk_42_method_3_1) rfl rfl ?_
    show Steps p.tables e below (s₁.setTop (mkF m 2 #[.val (.ref a1), .val (.ref a2)] [(.ref a2), (.ref a1)])) t
    refine XS.iconst X0.here hx rfl (hb hby d_jdk_42_method_3_2) ?_
    show Steps p.tables e below (s₁.setTop (mkF m 3 #[.val (.ref a1), .val (.ref a2)] [(.int (0 : Int32)), (.ref a2), (.ref a1)])) t
    refine XS.aloadN X0.here hx rfl (hb hby d_jdk_42_method_3_3) rfl rfl ?_
    exact kt
  obtain ⟨cl35, Ar35, -, S35, N35, -, -⟩ := id V1
  have st35 := X0.arraylength hx (by rw [e0]; exact Ar35.1) (State.isArrayOf_alike hZ.alike Ar35.2.1) (g := (mkF m 4 #[.val (.ref a1), .val (.ref a2)] [(.ref a2), (.int (0 : Int32)), (.ref a2), (.ref a1)])) rfl rfl (hb hby d_jdk_42_method_3_4)
  rw [len_of S35 N35] at st35
  refine ownBy st35 ?_
  show ownG p.tables e below _ (s₁.setTop (mkF m 5 #[.val (.ref a1), .val (.ref a2)] [(.int (0 : Int32)), (.int (0 : Int32)), (.ref a2), (.ref a1)]))
  refine ownBy (A := s₁.setTop (mkF m 6 #[.val (.ref a1), .val (.ref a2)] [.null, (.int (0 : Int32)), (.int (0 : Int32)), (.ref a2), (.ref a1)])) (fun t kt => ?_) ?_
  · show Steps p.tables e below (s₁.setTop (mkF m 5 #[.val (.ref a1), .val (.ref a2)] [(.int (0 : Int32)), (.int (0 : Int32)), (.ref a2), (.ref a1)])) t
    refine XS.aconstNull X0.here hx rfl (hb hby d_jdk_42_method_3_5) ?_
    exact kt
  obtain ⟨vv36, _, ⟨T36, L36, k36, n36⟩, -, X36, hS36, hg36, ⟨Lc36, hQ36, l36, y36, z36, hC36⟩, st36⟩ := X0.specialBackS hx (y := (⟨"java/lang/String", "<init>", "([CIILjava/lang/Void;)V"⟩ : MethodName)) rfl hown (mvT hZ (hw _ (List.mem_of_getElem? (i := 12) rfl))) (mvT hZ (hw _ (List.mem_of_getElem? (i := 13) rfl))) (mvT hZ (hw _ (List.mem_of_getElem? (i := 15) rfl))) (by decide) (backOfSH (W := 0) (s := s) (EL := ownEL) (c_ini4 l Z a0 hw [] a1 a2 _ h0 n0 Z0 E1 F1 F2 g1) hZ (hw _ (List.mem_of_getElem? (i := 15) rfl)) (hw _ (List.mem_of_getElem? (i := 8) rfl)) (by decide) (by decide) hEL R0.1) (g := (mkF m 6 #[.val (.ref a1), .val (.ref a2)] [.null, (.int (0 : Int32)), (.int (0 : Int32)), (.ref a2), (.ref a1)])) rfl (by rw [hml]; rfl) (Steps.refl _) (a := a1) (argsL := [(.ref a2), (.int (0 : Int32)), (.int (0 : Int32)), .null]) (rest := []) (lenOf pd_37 rfl) rfl (by show 2 * 0 + _ ≤ _; exact Nat.le_of_eq rfl) (hb hby d_jdk_42_method_3_6) (fun _ _ => ⟨rfl, e0, (by decide : 0 + 4 ≤ _), (by decide : 0 + 8 ≤ _)⟩)
  dsimp only [Pt.U, Pt.locs, Pt.cells, Pt.slots] at X36 l36 y36 z36 st36 hQ36 hS36 hg36 hC36
  subst l36 y36 z36
  obtain ⟨rfl, Nq36, Kq36, Eq36, Cq36, t36, kb36, Vq36, Aq36⟩ := hQ36
  have N38 := Fr.app N0 Nq36
  have R40 := R0.trans hC36
  have sf41 := CHr.safe hC36 E1.lt sfa1
  obtain ⟨XR42, hSR42, hZ42, hown42⟩ := rebS hS0 (by rw [e0]; exact (Nat.le_refl _)) X36 hS36 hg36 hZ hown
  refine ownSt st36 ?_
  show ownG p.tables e below _ (T36.setTop (mkF m 9 #[.val (.ref a1), .val (.ref a2)] []))
  have f43 := ((Keep.refl h0 [a1]).trans Kq36 (allS (Or.inl (List.mem_of_getElem? (i := 0) rfl)) all0))
  have f44 := (E1.keep Kq36)
  refine ownRetH XR42 hSR42 (Nat.le_refl _) Bd.notSynchronized (v := none) (fun _ => rfl) ?_ (R40.trans (CHv.at XR42 hZ42 hEL R40.1)) (Nat.le_of_ble_eq_true rfl) (Nat.le_of_ble_eq_true rfl) (fun fs hr => XR42.returnOut hx Bd.returns (hb hby d_jdk_42_method_3_9) hr)
  show (Q_ini0 Z a1 a2 c0 kC h0 n0) (none) T36.heap _
  exact ⟨rfl, N38, f43, f44, Cq36, t36, kb36, Vq36, Aq36⟩
def Q_bld (Z : State) (p1 : Int32) (y1 : Int32) (h0 : Heap) (n0 : Nat) (v : Option Value) (h : Heap) (L : List Loc) : Prop := ∃ (b : Addr) (k : ClassId) (cs : List Int32), v = some (.ref b) ∧ Fr n0 L ∧ Keep h0 h [] ∧ h0.size ≤ b ∧ Arv Z h b k .char (Int32.ofNat cs.length) (cs.map Value.int) (.int (0 : Int32)) ∧ (∀ c ∈ cs, ¬ c < 0 ∧ ¬ (255 : Int32) < c) ∧ cs.length ≤ 11
theorem ef_bld (m : MethodId) (x0 : Int32) (x1 : Int32)  : entryFrame m #[(.int x0), (.int x1)] 2 = mkF m 0 #[.val (.int x0), .val (.int x1)] [] := by first | (simp [entryFrame, mkF, argsToLocals, Value.category]; done) | rfl
set_option maxRecDepth 65536 in
set_option maxHeartbeats 40000000 in
theorem c_bld (l : Launch) (Z : State) (a0 : Array Value) (hw : ∀ d ∈ tables_1, d.before a0 Z = true) (ws : List Jvm.Cond) (p1 : Int32) (y1 : Int32) (h0 : Heap) (n0 : Nat) (Z0 : n0 ≤ h0.size) (hy : ¬ y1 < 0 ∧ ¬ (255 : Int32) < y1) :
    MetFree l (⟨"com/example/vestline/vestline/TerminationReasonNamedPinLaw", "build", "(IC)[C"⟩ : MethodName) (head1 (Jvm.Cond.code (⟨"com/example/vestline/vestline/TerminationReasonNamedPinLaw", "build", "(IC)[C"⟩ : MethodName) method_2_code 2 (some (.array .char)) :: ws) ({ frames := 0, cells := 1, slots := 11, locals := 0 } : Room)) (fun a U => a = #[(.int p1), (.int y1)] ∧ Z.Warmed39 U.vm ∧ U.heap = h0) (fun _ _ _ _ _ => True) (fun _ U o U' => ∃ v L, o = .returned v ∧ (Q_bld Z p1 y1 h0 n0) v U'.heap L ∧ FrameEnd U o U' L ({ frames := 0, cells := 1, slots := 11, locals := 0 } : Room).cells ({ frames := 0, cells := 1, slots := 11, locals := 0 } : Room).slots) := by
  refine MetFree.of_bodySF (plainFor_of_name pn_46) hisR ?_
  intro p e s m args below meth c s₁ Bd hml0 hP hK
  obtain ⟨rfl, hZ, hh⟩ := hP
  have hx := Bd.exec
  have hby := Bd.bytes
  have hml : c.maxLocals = 2 := hml0
  have hown : s.vm.findClass "com/example/vestline/vestline/TerminationReasonNamedPinLaw" = some m.cls := findClass_of_methodNamed Bd.named
  have hnm := (name_of_methodNamed Bd.named Bd.method).1
  have X0 : Stand p l e ({ frames := 0, cells := 1, slots := 11, locals := 0 } : Room) s m #[(.int p1), (.int y1)] below meth c s₁ [] 0 0 := Stand.of_body Bd
  have e0 : s₁.heap = h0 := by rw [← hh, Bd.state]; rfl
  have N0 := Fr.nil n0
  refine ownOut (P := (Q_bld Z p1 y1 h0 n0)) ?_
  refine ownBy (A := s₁.setTop (mkF m 0 #[.val (.int p1), .val (.int y1)] [])) (fun t k => castTop (ef_bld m p1 y1) k) ?_
  refine ownBy (A := s₁.setTop (mkF m 1 #[.val (.int p1), .val (.int y1)] [(.int p1)])) (fun t kt => ?_) ?_
  · show Steps p.tables e below (s₁.setTop (mkF m 0 #[.val (.int p1), .val (.int y1)] [])) t
    refine XS.iloadN X0.here hx rfl (hb hby d_method_2_0) rfl ?_
    exact kt
  by_cases hc47 : p1 = (0 : Int32)
  · skip
    refine ownBy (A := s₁.setTop (mkF m 5 #[.val (.int p1), .val (.int y1)] [(.int (0 : Int32))])) (fun t kt => ?_) ?_
    · show Steps p.tables e below (s₁.setTop (mkF m 1 #[.val (.int p1), .val (.int y1)] [(.int p1)])) t
      refine XS.ifNo X0.here hx rfl (hb hby d_method_2_1) rfl ((if0 _ _).trans (teq hc47).2) ?_
      refine XS.iconst X0.here hx rfl (hb hby d_method_2_4) ?_
      exact kt
    obtain ⟨T48, h48, k48, X48, e48, E48, A48, st48⟩ := newP X0 hx hZ (hw _ (List.mem_of_getElem? (i := 5) rfl)) e0 (g := (mkF m 5 #[.val (.int p1), .val (.int y1)] [(.int (0 : Int32))])) rfl (hb hby d_method_2_5) rfl (by decide : ¬ ((0 : Int32) < (0 : Int32))) (cap := 0) (by decide) (by decide) (by decide) (by decide)
    obtain ⟨b48, g48⟩ : ∃ z, z = h0.size := ⟨_, rfl⟩
    rw [← g48] at A48 st48
    have g49 : n0 ≤ b48 := Nat.le_trans Z0 (Nat.le_of_eq g48.symm)
    have z50 : h0.size ≤ b48 := Nat.le_trans (Keep.refl h0 []).1 (Nat.le_of_eq g48.symm)
    have V51 : Arv Z h48 b48 k48 .char (0 : Int32) [] (.int (0 : Int32)) := Arv.new A48 (by decide)
    refine ownBy st48 ?_
    show ownG p.tables e below _ (T48.setTop (mkF m 7 #[.val (.int p1), .val (.int y1)] [(.ref b48)]))
    have f52 := ((Keep.refl h0 []).ext E48)
    refine ownRet X48 Bd.notSynchronized (v := some (.ref b48)) (fun h => by rw [Bd.returns] at h; cases h) ?_ (Nat.le_of_ble_eq_true rfl) (Nat.le_of_ble_eq_true rfl) (fun fs hr => retOut X48 hx Bd.returns rfl (Or.inr (Or.inr (Or.inr (Or.inr ⟨rfl, rfl, rfl⟩)))) (hb hby d_method_2_7) hr)
    show (Q_bld Z p1 y1 h0 n0) (some (.ref b48)) T48.heap _
    rw [e48]
    refine ⟨b48, k48, ([] : List Int32), rfl, N0, f52, z50, V51, ?_, Nat.le_of_ble_eq_true rfl⟩
    exact fun c hc => nomatch hc
  · skip
    refine ownBy (A := s₁.setTop (mkF m 10 #[.val (.int p1), .val (.int y1)] [(.int (1 : Int32)), (.int p1)])) (fun t kt => ?_) ?_
    · show Steps p.tables e below (s₁.setTop (mkF m 1 #[.val (.int p1), .val (.int y1)] [(.int p1)])) t
      refine XS.ifYes X0.here hx rfl (pc0 := 1) (pc' := 8) rfl (hb hby d_method_2_1) rfl ((if0 _ _).trans (feq hc47).2) (by decide) (by decide) ?_
      refine XS.iloadN X0.here hx rfl (hb hby d_method_2_8) rfl ?_
      show Steps p.tables e below (s₁.setTop (mkF m 9 #[.val (.int p1), .val (.int y1)] [(.int p1)])) t
      refine XS.iconst X0.here hx rfl (hb hby d_method_2_9) ?_
      exact kt
    by_cases hc53 : p1 = (1 : Int32)
    · skip
      refine ownBy (A := s₁.setTop (mkF m 14 #[.val (.int p1), .val (.int y1)] [(.int (1 : Int32))])) (fun t kt => ?_) ?_
      · show Steps p.tables e below (s₁.setTop (mkF m 10 #[.val (.int p1), .val (.int y1)] [(.int (1 : Int32)), (.int p1)])) t
        refine XS.icmpNo X0.here hx rfl (hb hby d_method_2_10) rfl (teq hc53).2 ?_
        refine XS.iconst X0.here hx rfl (hb hby d_method_2_13) ?_
        exact kt
      obtain ⟨T54, h54, k54, X54, e54, E54, A54, st54⟩ := newP X0 hx hZ (hw _ (List.mem_of_getElem? (i := 5) rfl)) e0 (g := (mkF m 14 #[.val (.int p1), .val (.int y1)] [(.int (1 : Int32))])) rfl (hb hby d_method_2_14) rfl (by decide : ¬ ((1 : Int32) < (0 : Int32))) (cap := 1) (by decide) (by decide) (by decide) (by decide)
      obtain ⟨b54, g54⟩ : ∃ z, z = h0.size := ⟨_, rfl⟩
      rw [← g54] at A54 st54
      have g55 : n0 ≤ b54 := Nat.le_trans Z0 (Nat.le_of_eq g54.symm)
      have z56 : h0.size ≤ b54 := Nat.le_trans (Keep.refl h0 []).1 (Nat.le_of_eq g54.symm)
      have V57 : Arv Z h54 b54 k54 .char (1 : Int32) [(.int (0 : Int32))] (.int (0 : Int32)) := (Arv.new A54 (by decide)).pad (pad_rep [] (.int (0 : Int32)) 1)
      refine ownBy st54 ?_
      show ownG p.tables e below _ (T54.setTop (mkF m 16 #[.val (.int p1), .val (.int y1)] [(.ref b54)]))
      refine ownBy (A := T54.setTop (mkF m 19 #[.val (.int p1), .val (.int y1)] [(.int y1), (.int (0 : Int32)), (.ref b54), (.ref b54)])) (fun t kt => ?_) ?_
      · show Steps p.tables e below (T54.setTop (mkF m 16 #[.val (.int p1), .val (.int y1)] [(.ref b54)])) t
        refine XS.dup X54.here hx rfl (hb hby d_method_2_16) rfl rfl ?_
        refine XS.iconst X54.here hx rfl (hb hby d_method_2_17) ?_
        show Steps p.tables e below (T54.setTop (mkF m 18 #[.val (.int p1), .val (.int y1)] [(.int (0 : Int32)), (.ref b54), (.ref b54)])) t
        refine XS.iloadN X54.here hx rfl (hb hby d_method_2_18) rfl ?_
        exact kt
      obtain ⟨cl58, Ar58, q58, S58, N58, H58, G58⟩ := id V57
      have hin58 : ¬ ((0 : Int32) < 0 ∨ cl58.slots.size ≤ ((0 : Int32)).toNatClampNeg) := inb_of S58 ⟨by decide, by decide⟩
      obtain ⟨T58, h58, X58, e58, W58, st58⟩ := stC X54 hx hZ e54 Ar58 (j := (0 : Int32)) hin58 (g := (mkF m 19 #[.val (.int p1), .val (.int y1)] [(.int y1), (.int (0 : Int32)), (.ref b54), (.ref b54)])) rfl rfl (hb hby d_method_2_19)
      have V59 : Arv Z h58 b54 k54 .char (1 : Int32) [(.int (nar .char y1))] (.int (0 : Int32)) := Arv.set Ar58 q58 S58 N58 H58 G58 (fits_nar_char _) W58 0 rfl (Nat.le_of_ble_eq_true rfl)
      rw [own_nar_rng hy.1 hy.2] at V59
      have N60 := Fr.snoc X58 N0 g55
      refine ownBy st58 ?_
      show ownG p.tables e below _ (T58.setTop (mkF m 20 #[.val (.int p1), .val (.int y1)] [(.ref b54)]))
      have f61 := (((Keep.refl h0 []).ext E54).wr W58 (Or.inr z56))
      refine ownRet X58 Bd.notSynchronized (v := some (.ref b54)) (fun h => by rw [Bd.returns] at h; cases h) ?_ (Nat.le_of_ble_eq_true rfl) (Nat.le_of_ble_eq_true rfl) (fun fs hr => retOut X58 hx Bd.returns rfl (Or.inr (Or.inr (Or.inr (Or.inr ⟨rfl, rfl, rfl⟩)))) (hb hby d_method_2_20) hr)
      show (Q_bld Z p1 y1 h0 n0) (some (.ref b54)) T58.heap _
      rw [e58]
      refine ⟨b54, k54, ([y1] : List Int32), rfl, N60, f61, z56, V59, ?_, Nat.le_of_ble_eq_true rfl⟩
      intro c hc
      simp only [List.mem_cons, List.not_mem_nil, or_false] at hc
      rcases hc with rfl
      · exact hy
    · skip
      refine ownBy (A := s₁.setTop (mkF m 23 #[.val (.int p1), .val (.int y1)] [(.int (2 : Int32)), (.int p1)])) (fun t kt => ?_) ?_
      · show Steps p.tables e below (s₁.setTop (mkF m 10 #[.val (.int p1), .val (.int y1)] [(.int (1 : Int32)), (.int p1)])) t
        refine XS.icmpYes X0.here hx rfl (pc0 := 10) (pc' := 21) rfl (hb hby d_method_2_10) rfl (feq hc53).2 (by decide) (by decide) ?_
        refine XS.iloadN X0.here hx rfl (hb hby d_method_2_21) rfl ?_
        show Steps p.tables e below (s₁.setTop (mkF m 22 #[.val (.int p1), .val (.int y1)] [(.int p1)])) t
        refine XS.iconst X0.here hx rfl (hb hby d_method_2_22) ?_
        exact kt
      by_cases hc62 : p1 = (2 : Int32)
      · skip
        refine ownBy (A := s₁.setTop (mkF m 27 #[.val (.int p1), .val (.int y1)] [(.int (4 : Int32))])) (fun t kt => ?_) ?_
        · show Steps p.tables e below (s₁.setTop (mkF m 23 #[.val (.int p1), .val (.int y1)] [(.int (2 : Int32)), (.int p1)])) t
          refine XS.icmpNo X0.here hx rfl (hb hby d_method_2_23) rfl (teq hc62).2 ?_
          refine XS.iconst X0.here hx rfl (hb hby d_method_2_26) ?_
          exact kt
        obtain ⟨T63, h63, k63, X63, e63, E63, A63, st63⟩ := newP X0 hx hZ (hw _ (List.mem_of_getElem? (i := 5) rfl)) e0 (g := (mkF m 27 #[.val (.int p1), .val (.int y1)] [(.int (4 : Int32))])) rfl (hb hby d_method_2_27) rfl (by decide : ¬ ((4 : Int32) < (0 : Int32))) (cap := 4) (by decide) (by decide) (by decide) (by decide)
        obtain ⟨b63, g63⟩ : ∃ z, z = h0.size := ⟨_, rfl⟩
        rw [← g63] at A63 st63
        have g64 : n0 ≤ b63 := Nat.le_trans Z0 (Nat.le_of_eq g63.symm)
        have z65 : h0.size ≤ b63 := Nat.le_trans (Keep.refl h0 []).1 (Nat.le_of_eq g63.symm)
        have V66 : Arv Z h63 b63 k63 .char (4 : Int32) [(.int (0 : Int32)), (.int (0 : Int32)), (.int (0 : Int32)), (.int (0 : Int32))] (.int (0 : Int32)) := (Arv.new A63 (by decide)).pad (pad_rep [] (.int (0 : Int32)) 4)
        refine ownBy st63 ?_
        show ownG p.tables e below _ (T63.setTop (mkF m 29 #[.val (.int p1), .val (.int y1)] [(.ref b63)]))
        refine ownBy (A := T63.setTop (mkF m 33 #[.val (.int p1), .val (.int y1)] [(.int (100 : Int32)), (.int (0 : Int32)), (.ref b63), (.ref b63)])) (fun t kt => ?_) ?_
        · show Steps p.tables e below (T63.setTop (mkF m 29 #[.val (.int p1), .val (.int y1)] [(.ref b63)])) t
          refine XS.dup X63.here hx rfl (hb hby d_method_2_29) rfl rfl ?_
          refine XS.iconst X63.here hx rfl (hb hby d_method_2_30) ?_
          show Steps p.tables e below (T63.setTop (mkF m 31 #[.val (.int p1), .val (.int y1)] [(.int (0 : Int32)), (.ref b63), (.ref b63)])) t
          refine XS.bipush X63.here hx rfl (hb hby d_method_2_31) ?_
          exact kt
        obtain ⟨cl67, Ar67, q67, S67, N67, H67, G67⟩ := id V66
        have hin67 : ¬ ((0 : Int32) < 0 ∨ cl67.slots.size ≤ ((0 : Int32)).toNatClampNeg) := inb_of S67 ⟨by decide, by decide⟩
        obtain ⟨T67, h67, X67, e67, W67, st67⟩ := stC X63 hx hZ e63 Ar67 (j := (0 : Int32)) hin67 (g := (mkF m 33 #[.val (.int p1), .val (.int y1)] [(.int (100 : Int32)), (.int (0 : Int32)), (.ref b63), (.ref b63)])) rfl rfl (hb hby d_method_2_33)
        have V68 : Arv Z h67 b63 k63 .char (4 : Int32) [(.int (nar .char (100 : Int32))), (.int (0 : Int32)), (.int (0 : Int32)), (.int (0 : Int32))] (.int (0 : Int32)) := Arv.set Ar67 q67 S67 N67 H67 G67 (fits_nar_char _) W67 0 rfl (Nat.le_of_ble_eq_true rfl)
        rw [own_nl_char_100] at V68
        have N69 := Fr.snoc X67 N0 g64
        refine ownBy st67 ?_
        show ownG p.tables e below _ (T67.setTop (mkF m 34 #[.val (.int p1), .val (.int y1)] [(.ref b63)]))
        refine ownBy (A := T67.setTop (mkF m 38 #[.val (.int p1), .val (.int y1)] [(.int (101 : Int32)), (.int (1 : Int32)), (.ref b63), (.ref b63)])) (fun t kt => ?_) ?_
        · show Steps p.tables e below (T67.setTop (mkF m 34 #[.val (.int p1), .val (.int y1)] [(.ref b63)])) t
          refine XS.dup X67.here hx rfl (hb hby d_method_2_34) rfl rfl ?_
          refine XS.iconst X67.here hx rfl (hb hby d_method_2_35) ?_
          show Steps p.tables e below (T67.setTop (mkF m 36 #[.val (.int p1), .val (.int y1)] [(.int (1 : Int32)), (.ref b63), (.ref b63)])) t
          refine XS.bipush X67.here hx rfl (hb hby d_method_2_36) ?_
          exact kt
        obtain ⟨cl70, Ar70, q70, S70, N70, H70, G70⟩ := id V68
        have hin70 : ¬ ((1 : Int32) < 0 ∨ cl70.slots.size ≤ ((1 : Int32)).toNatClampNeg) := inb_of S70 ⟨by decide, by decide⟩
        obtain ⟨T70, h70, X70, e70, W70, st70⟩ := stC X67 hx hZ e67 Ar70 (j := (1 : Int32)) hin70 (g := (mkF m 38 #[.val (.int p1), .val (.int y1)] [(.int (101 : Int32)), (.int (1 : Int32)), (.ref b63), (.ref b63)])) rfl rfl (hb hby d_method_2_38)
        have V71 : Arv Z h70 b63 k63 .char (4 : Int32) [(.int (100 : Int32)), (.int (nar .char (101 : Int32))), (.int (0 : Int32)), (.int (0 : Int32))] (.int (0 : Int32)) := Arv.set Ar70 q70 S70 N70 H70 G70 (fits_nar_char _) W70 1 rfl (Nat.le_of_ble_eq_true rfl)
        rw [own_nl_char_101] at V71
        have N72 := Fr.snoc X70 N69 g64
        refine ownBy st70 ?_
        show ownG p.tables e below _ (T70.setTop (mkF m 39 #[.val (.int p1), .val (.int y1)] [(.ref b63)]))
        refine ownBy (A := T70.setTop (mkF m 43 #[.val (.int p1), .val (.int y1)] [(.int (97 : Int32)), (.int (2 : Int32)), (.ref b63), (.ref b63)])) (fun t kt => ?_) ?_
        · show Steps p.tables e below (T70.setTop (mkF m 39 #[.val (.int p1), .val (.int y1)] [(.ref b63)])) t
          refine XS.dup X70.here hx rfl (hb hby d_method_2_39) rfl rfl ?_
          refine XS.iconst X70.here hx rfl (hb hby d_method_2_40) ?_
          show Steps p.tables e below (T70.setTop (mkF m 41 #[.val (.int p1), .val (.int y1)] [(.int (2 : Int32)), (.ref b63), (.ref b63)])) t
          refine XS.bipush X70.here hx rfl (hb hby d_method_2_41) ?_
          exact kt
        obtain ⟨cl73, Ar73, q73, S73, N73, H73, G73⟩ := id V71
        have hin73 : ¬ ((2 : Int32) < 0 ∨ cl73.slots.size ≤ ((2 : Int32)).toNatClampNeg) := inb_of S73 ⟨by decide, by decide⟩
        obtain ⟨T73, h73, X73, e73, W73, st73⟩ := stC X70 hx hZ e70 Ar73 (j := (2 : Int32)) hin73 (g := (mkF m 43 #[.val (.int p1), .val (.int y1)] [(.int (97 : Int32)), (.int (2 : Int32)), (.ref b63), (.ref b63)])) rfl rfl (hb hby d_method_2_43)
        have V74 : Arv Z h73 b63 k63 .char (4 : Int32) [(.int (100 : Int32)), (.int (101 : Int32)), (.int (nar .char (97 : Int32))), (.int (0 : Int32))] (.int (0 : Int32)) := Arv.set Ar73 q73 S73 N73 H73 G73 (fits_nar_char _) W73 2 rfl (Nat.le_of_ble_eq_true rfl)
        rw [own_nl_char_97] at V74
        have N75 := Fr.snoc X73 N72 g64
        refine ownBy st73 ?_
        show ownG p.tables e below _ (T73.setTop (mkF m 44 #[.val (.int p1), .val (.int y1)] [(.ref b63)]))
        refine ownBy (A := T73.setTop (mkF m 48 #[.val (.int p1), .val (.int y1)] [(.int (116 : Int32)), (.int (3 : Int32)), (.ref b63), (.ref b63)])) (fun t kt => ?_) ?_
        · show Steps p.tables e below (T73.setTop (mkF m 44 #[.val (.int p1), .val (.int y1)] [(.ref b63)])) t
          refine XS.dup X73.here hx rfl (hb hby d_method_2_44) rfl rfl ?_
          refine XS.iconst X73.here hx rfl (hb hby d_method_2_45) ?_
          show Steps p.tables e below (T73.setTop (mkF m 46 #[.val (.int p1), .val (.int y1)] [(.int (3 : Int32)), (.ref b63), (.ref b63)])) t
          refine XS.bipush X73.here hx rfl (hb hby d_method_2_46) ?_
          exact kt
        obtain ⟨cl76, Ar76, q76, S76, N76, H76, G76⟩ := id V74
        have hin76 : ¬ ((3 : Int32) < 0 ∨ cl76.slots.size ≤ ((3 : Int32)).toNatClampNeg) := inb_of S76 ⟨by decide, by decide⟩
        obtain ⟨T76, h76, X76, e76, W76, st76⟩ := stC X73 hx hZ e73 Ar76 (j := (3 : Int32)) hin76 (g := (mkF m 48 #[.val (.int p1), .val (.int y1)] [(.int (116 : Int32)), (.int (3 : Int32)), (.ref b63), (.ref b63)])) rfl rfl (hb hby d_method_2_48)
        have V77 : Arv Z h76 b63 k63 .char (4 : Int32) [(.int (100 : Int32)), (.int (101 : Int32)), (.int (97 : Int32)), (.int (nar .char (116 : Int32)))] (.int (0 : Int32)) := Arv.set Ar76 q76 S76 N76 H76 G76 (fits_nar_char _) W76 3 rfl (Nat.le_of_ble_eq_true rfl)
        rw [own_nl_char_116] at V77
        have N78 := Fr.snoc X76 N75 g64
        refine ownBy st76 ?_
        show ownG p.tables e below _ (T76.setTop (mkF m 49 #[.val (.int p1), .val (.int y1)] [(.ref b63)]))
        have f79 := ((((((Keep.refl h0 []).ext E63).wr W67 (Or.inr z65)).wr W70 (Or.inr z65)).wr W73 (Or.inr z65)).wr W76 (Or.inr z65))
        refine ownRet X76 Bd.notSynchronized (v := some (.ref b63)) (fun h => by rw [Bd.returns] at h; cases h) ?_ (Nat.le_of_ble_eq_true rfl) (Nat.le_of_ble_eq_true rfl) (fun fs hr => retOut X76 hx Bd.returns rfl (Or.inr (Or.inr (Or.inr (Or.inr ⟨rfl, rfl, rfl⟩)))) (hb hby d_method_2_49) hr)
        show (Q_bld Z p1 y1 h0 n0) (some (.ref b63)) T76.heap _
        rw [e76]
        refine ⟨b63, k63, ([(100 : Int32), (101 : Int32), (97 : Int32), (116 : Int32)] : List Int32), rfl, N78, f79, z65, V77, ?_, Nat.le_of_ble_eq_true rfl⟩
        intro c hc
        simp only [List.mem_cons, List.not_mem_nil, or_false] at hc
        rcases hc with rfl | rfl | rfl | rfl
        · decide
        · decide
        · decide
        · decide
      · skip
        refine ownBy (A := s₁.setTop (mkF m 52 #[.val (.int p1), .val (.int y1)] [(.int (3 : Int32)), (.int p1)])) (fun t kt => ?_) ?_
        · show Steps p.tables e below (s₁.setTop (mkF m 23 #[.val (.int p1), .val (.int y1)] [(.int (2 : Int32)), (.int p1)])) t
          refine XS.icmpYes X0.here hx rfl (pc0 := 23) (pc' := 50) rfl (hb hby d_method_2_23) rfl (feq hc62).2 (by decide) (by decide) ?_
          refine XS.iloadN X0.here hx rfl (hb hby d_method_2_50) rfl ?_
          show Steps p.tables e below (s₁.setTop (mkF m 51 #[.val (.int p1), .val (.int y1)] [(.int p1)])) t
          refine XS.iconst X0.here hx rfl (hb hby d_method_2_51) ?_
          exact kt
        by_cases hc80 : p1 = (3 : Int32)
        · skip
          refine ownBy (A := s₁.setTop (mkF m 56 #[.val (.int p1), .val (.int y1)] [(.int (5 : Int32))])) (fun t kt => ?_) ?_
          · show Steps p.tables e below (s₁.setTop (mkF m 52 #[.val (.int p1), .val (.int y1)] [(.int (3 : Int32)), (.int p1)])) t
            refine XS.icmpNo X0.here hx rfl (hb hby d_method_2_52) rfl (teq hc80).2 ?_
            refine XS.iconst X0.here hx rfl (hb hby d_method_2_55) ?_
            exact kt
          obtain ⟨T81, h81, k81, X81, e81, E81, A81, st81⟩ := newP X0 hx hZ (hw _ (List.mem_of_getElem? (i := 5) rfl)) e0 (g := (mkF m 56 #[.val (.int p1), .val (.int y1)] [(.int (5 : Int32))])) rfl (hb hby d_method_2_56) rfl (by decide : ¬ ((5 : Int32) < (0 : Int32))) (cap := 5) (by decide) (by decide) (by decide) (by decide)
          obtain ⟨b81, g81⟩ : ∃ z, z = h0.size := ⟨_, rfl⟩
          rw [← g81] at A81 st81
          have g82 : n0 ≤ b81 := Nat.le_trans Z0 (Nat.le_of_eq g81.symm)
          have z83 : h0.size ≤ b81 := Nat.le_trans (Keep.refl h0 []).1 (Nat.le_of_eq g81.symm)
          have V84 : Arv Z h81 b81 k81 .char (5 : Int32) [(.int (0 : Int32)), (.int (0 : Int32)), (.int (0 : Int32)), (.int (0 : Int32)), (.int (0 : Int32))] (.int (0 : Int32)) := (Arv.new A81 (by decide)).pad (pad_rep [] (.int (0 : Int32)) 5)
          refine ownBy st81 ?_
          show ownG p.tables e below _ (T81.setTop (mkF m 58 #[.val (.int p1), .val (.int y1)] [(.ref b81)]))
          refine ownBy (A := T81.setTop (mkF m 62 #[.val (.int p1), .val (.int y1)] [(.int (100 : Int32)), (.int (0 : Int32)), (.ref b81), (.ref b81)])) (fun t kt => ?_) ?_
          · show Steps p.tables e below (T81.setTop (mkF m 58 #[.val (.int p1), .val (.int y1)] [(.ref b81)])) t
            refine XS.dup X81.here hx rfl (hb hby d_method_2_58) rfl rfl ?_
            refine XS.iconst X81.here hx rfl (hb hby d_method_2_59) ?_
            show Steps p.tables e below (T81.setTop (mkF m 60 #[.val (.int p1), .val (.int y1)] [(.int (0 : Int32)), (.ref b81), (.ref b81)])) t
            refine XS.bipush X81.here hx rfl (hb hby d_method_2_60) ?_
            exact kt
          obtain ⟨cl85, Ar85, q85, S85, N85, H85, G85⟩ := id V84
          have hin85 : ¬ ((0 : Int32) < 0 ∨ cl85.slots.size ≤ ((0 : Int32)).toNatClampNeg) := inb_of S85 ⟨by decide, by decide⟩
          obtain ⟨T85, h85, X85, e85, W85, st85⟩ := stC X81 hx hZ e81 Ar85 (j := (0 : Int32)) hin85 (g := (mkF m 62 #[.val (.int p1), .val (.int y1)] [(.int (100 : Int32)), (.int (0 : Int32)), (.ref b81), (.ref b81)])) rfl rfl (hb hby d_method_2_62)
          have V86 : Arv Z h85 b81 k81 .char (5 : Int32) [(.int (nar .char (100 : Int32))), (.int (0 : Int32)), (.int (0 : Int32)), (.int (0 : Int32)), (.int (0 : Int32))] (.int (0 : Int32)) := Arv.set Ar85 q85 S85 N85 H85 G85 (fits_nar_char _) W85 0 rfl (Nat.le_of_ble_eq_true rfl)
          rw [own_nl_char_100] at V86
          have N87 := Fr.snoc X85 N0 g82
          refine ownBy st85 ?_
          show ownG p.tables e below _ (T85.setTop (mkF m 63 #[.val (.int p1), .val (.int y1)] [(.ref b81)]))
          refine ownBy (A := T85.setTop (mkF m 67 #[.val (.int p1), .val (.int y1)] [(.int (101 : Int32)), (.int (1 : Int32)), (.ref b81), (.ref b81)])) (fun t kt => ?_) ?_
          · show Steps p.tables e below (T85.setTop (mkF m 63 #[.val (.int p1), .val (.int y1)] [(.ref b81)])) t
            refine XS.dup X85.here hx rfl (hb hby d_method_2_63) rfl rfl ?_
            refine XS.iconst X85.here hx rfl (hb hby d_method_2_64) ?_
            show Steps p.tables e below (T85.setTop (mkF m 65 #[.val (.int p1), .val (.int y1)] [(.int (1 : Int32)), (.ref b81), (.ref b81)])) t
            refine XS.bipush X85.here hx rfl (hb hby d_method_2_65) ?_
            exact kt
          obtain ⟨cl88, Ar88, q88, S88, N88, H88, G88⟩ := id V86
          have hin88 : ¬ ((1 : Int32) < 0 ∨ cl88.slots.size ≤ ((1 : Int32)).toNatClampNeg) := inb_of S88 ⟨by decide, by decide⟩
          obtain ⟨T88, h88, X88, e88, W88, st88⟩ := stC X85 hx hZ e85 Ar88 (j := (1 : Int32)) hin88 (g := (mkF m 67 #[.val (.int p1), .val (.int y1)] [(.int (101 : Int32)), (.int (1 : Int32)), (.ref b81), (.ref b81)])) rfl rfl (hb hby d_method_2_67)
          have V89 : Arv Z h88 b81 k81 .char (5 : Int32) [(.int (100 : Int32)), (.int (nar .char (101 : Int32))), (.int (0 : Int32)), (.int (0 : Int32)), (.int (0 : Int32))] (.int (0 : Int32)) := Arv.set Ar88 q88 S88 N88 H88 G88 (fits_nar_char _) W88 1 rfl (Nat.le_of_ble_eq_true rfl)
          rw [own_nl_char_101] at V89
          have N90 := Fr.snoc X88 N87 g82
          refine ownBy st88 ?_
          show ownG p.tables e below _ (T88.setTop (mkF m 68 #[.val (.int p1), .val (.int y1)] [(.ref b81)]))
          refine ownBy (A := T88.setTop (mkF m 72 #[.val (.int p1), .val (.int y1)] [(.int (97 : Int32)), (.int (2 : Int32)), (.ref b81), (.ref b81)])) (fun t kt => ?_) ?_
          · show Steps p.tables e below (T88.setTop (mkF m 68 #[.val (.int p1), .val (.int y1)] [(.ref b81)])) t
            refine XS.dup X88.here hx rfl (hb hby d_method_2_68) rfl rfl ?_
            refine XS.iconst X88.here hx rfl (hb hby d_method_2_69) ?_
            show Steps p.tables e below (T88.setTop (mkF m 70 #[.val (.int p1), .val (.int y1)] [(.int (2 : Int32)), (.ref b81), (.ref b81)])) t
            refine XS.bipush X88.here hx rfl (hb hby d_method_2_70) ?_
            exact kt
          obtain ⟨cl91, Ar91, q91, S91, N91, H91, G91⟩ := id V89
          have hin91 : ¬ ((2 : Int32) < 0 ∨ cl91.slots.size ≤ ((2 : Int32)).toNatClampNeg) := inb_of S91 ⟨by decide, by decide⟩
          obtain ⟨T91, h91, X91, e91, W91, st91⟩ := stC X88 hx hZ e88 Ar91 (j := (2 : Int32)) hin91 (g := (mkF m 72 #[.val (.int p1), .val (.int y1)] [(.int (97 : Int32)), (.int (2 : Int32)), (.ref b81), (.ref b81)])) rfl rfl (hb hby d_method_2_72)
          have V92 : Arv Z h91 b81 k81 .char (5 : Int32) [(.int (100 : Int32)), (.int (101 : Int32)), (.int (nar .char (97 : Int32))), (.int (0 : Int32)), (.int (0 : Int32))] (.int (0 : Int32)) := Arv.set Ar91 q91 S91 N91 H91 G91 (fits_nar_char _) W91 2 rfl (Nat.le_of_ble_eq_true rfl)
          rw [own_nl_char_97] at V92
          have N93 := Fr.snoc X91 N90 g82
          refine ownBy st91 ?_
          show ownG p.tables e below _ (T91.setTop (mkF m 73 #[.val (.int p1), .val (.int y1)] [(.ref b81)]))
          refine ownBy (A := T91.setTop (mkF m 77 #[.val (.int p1), .val (.int y1)] [(.int (116 : Int32)), (.int (3 : Int32)), (.ref b81), (.ref b81)])) (fun t kt => ?_) ?_
          · show Steps p.tables e below (T91.setTop (mkF m 73 #[.val (.int p1), .val (.int y1)] [(.ref b81)])) t
            refine XS.dup X91.here hx rfl (hb hby d_method_2_73) rfl rfl ?_
            refine XS.iconst X91.here hx rfl (hb hby d_method_2_74) ?_
            show Steps p.tables e below (T91.setTop (mkF m 75 #[.val (.int p1), .val (.int y1)] [(.int (3 : Int32)), (.ref b81), (.ref b81)])) t
            refine XS.bipush X91.here hx rfl (hb hby d_method_2_75) ?_
            exact kt
          obtain ⟨cl94, Ar94, q94, S94, N94, H94, G94⟩ := id V92
          have hin94 : ¬ ((3 : Int32) < 0 ∨ cl94.slots.size ≤ ((3 : Int32)).toNatClampNeg) := inb_of S94 ⟨by decide, by decide⟩
          obtain ⟨T94, h94, X94, e94, W94, st94⟩ := stC X91 hx hZ e91 Ar94 (j := (3 : Int32)) hin94 (g := (mkF m 77 #[.val (.int p1), .val (.int y1)] [(.int (116 : Int32)), (.int (3 : Int32)), (.ref b81), (.ref b81)])) rfl rfl (hb hby d_method_2_77)
          have V95 : Arv Z h94 b81 k81 .char (5 : Int32) [(.int (100 : Int32)), (.int (101 : Int32)), (.int (97 : Int32)), (.int (nar .char (116 : Int32))), (.int (0 : Int32))] (.int (0 : Int32)) := Arv.set Ar94 q94 S94 N94 H94 G94 (fits_nar_char _) W94 3 rfl (Nat.le_of_ble_eq_true rfl)
          rw [own_nl_char_116] at V95
          have N96 := Fr.snoc X94 N93 g82
          refine ownBy st94 ?_
          show ownG p.tables e below _ (T94.setTop (mkF m 78 #[.val (.int p1), .val (.int y1)] [(.ref b81)]))
          refine ownBy (A := T94.setTop (mkF m 82 #[.val (.int p1), .val (.int y1)] [(.int (104 : Int32)), (.int (4 : Int32)), (.ref b81), (.ref b81)])) (fun t kt => ?_) ?_
          · show Steps p.tables e below (T94.setTop (mkF m 78 #[.val (.int p1), .val (.int y1)] [(.ref b81)])) t
            refine XS.dup X94.here hx rfl (hb hby d_method_2_78) rfl rfl ?_
            refine XS.iconst X94.here hx rfl (hb hby d_method_2_79) ?_
            show Steps p.tables e below (T94.setTop (mkF m 80 #[.val (.int p1), .val (.int y1)] [(.int (4 : Int32)), (.ref b81), (.ref b81)])) t
            refine XS.bipush X94.here hx rfl (hb hby d_method_2_80) ?_
            exact kt
          obtain ⟨cl97, Ar97, q97, S97, N97, H97, G97⟩ := id V95
          have hin97 : ¬ ((4 : Int32) < 0 ∨ cl97.slots.size ≤ ((4 : Int32)).toNatClampNeg) := inb_of S97 ⟨by decide, by decide⟩
          obtain ⟨T97, h97, X97, e97, W97, st97⟩ := stC X94 hx hZ e94 Ar97 (j := (4 : Int32)) hin97 (g := (mkF m 82 #[.val (.int p1), .val (.int y1)] [(.int (104 : Int32)), (.int (4 : Int32)), (.ref b81), (.ref b81)])) rfl rfl (hb hby d_method_2_82)
          have V98 : Arv Z h97 b81 k81 .char (5 : Int32) [(.int (100 : Int32)), (.int (101 : Int32)), (.int (97 : Int32)), (.int (116 : Int32)), (.int (nar .char (104 : Int32)))] (.int (0 : Int32)) := Arv.set Ar97 q97 S97 N97 H97 G97 (fits_nar_char _) W97 4 rfl (Nat.le_of_ble_eq_true rfl)
          rw [own_nl_char_104] at V98
          have N99 := Fr.snoc X97 N96 g82
          refine ownBy st97 ?_
          show ownG p.tables e below _ (T97.setTop (mkF m 83 #[.val (.int p1), .val (.int y1)] [(.ref b81)]))
          have f100 := (((((((Keep.refl h0 []).ext E81).wr W85 (Or.inr z83)).wr W88 (Or.inr z83)).wr W91 (Or.inr z83)).wr W94 (Or.inr z83)).wr W97 (Or.inr z83))
          refine ownRet X97 Bd.notSynchronized (v := some (.ref b81)) (fun h => by rw [Bd.returns] at h; cases h) ?_ (Nat.le_of_ble_eq_true rfl) (Nat.le_of_ble_eq_true rfl) (fun fs hr => retOut X97 hx Bd.returns rfl (Or.inr (Or.inr (Or.inr (Or.inr ⟨rfl, rfl, rfl⟩)))) (hb hby d_method_2_83) hr)
          show (Q_bld Z p1 y1 h0 n0) (some (.ref b81)) T97.heap _
          rw [e97]
          refine ⟨b81, k81, ([(100 : Int32), (101 : Int32), (97 : Int32), (116 : Int32), (104 : Int32)] : List Int32), rfl, N99, f100, z83, V98, ?_, Nat.le_of_ble_eq_true rfl⟩
          intro c hc
          simp only [List.mem_cons, List.not_mem_nil, or_false] at hc
          rcases hc with rfl | rfl | rfl | rfl | rfl
          · decide
          · decide
          · decide
          · decide
          · decide
        · skip
          refine ownBy (A := s₁.setTop (mkF m 86 #[.val (.int p1), .val (.int y1)] [(.int (4 : Int32)), (.int p1)])) (fun t kt => ?_) ?_
          · show Steps p.tables e below (s₁.setTop (mkF m 52 #[.val (.int p1), .val (.int y1)] [(.int (3 : Int32)), (.int p1)])) t
            refine XS.icmpYes X0.here hx rfl (pc0 := 52) (pc' := 84) rfl (hb hby d_method_2_52) rfl (feq hc80).2 (by decide) (by decide) ?_
            refine XS.iloadN X0.here hx rfl (hb hby d_method_2_84) rfl ?_
            show Steps p.tables e below (s₁.setTop (mkF m 85 #[.val (.int p1), .val (.int y1)] [(.int p1)])) t
            refine XS.iconst X0.here hx rfl (hb hby d_method_2_85) ?_
            exact kt
          by_cases hc101 : p1 = (4 : Int32)
          · skip
            refine ownBy (A := s₁.setTop (mkF m 91 #[.val (.int p1), .val (.int y1)] [(.int (6 : Int32))])) (fun t kt => ?_) ?_
            · show Steps p.tables e below (s₁.setTop (mkF m 86 #[.val (.int p1), .val (.int y1)] [(.int (4 : Int32)), (.int p1)])) t
              refine XS.icmpNo X0.here hx rfl (hb hby d_method_2_86) rfl (teq hc101).2 ?_
              refine XS.bipush X0.here hx rfl (hb hby d_method_2_89) ?_
              exact kt
            obtain ⟨T102, h102, k102, X102, e102, E102, A102, st102⟩ := newP X0 hx hZ (hw _ (List.mem_of_getElem? (i := 5) rfl)) e0 (g := (mkF m 91 #[.val (.int p1), .val (.int y1)] [(.int (6 : Int32))])) rfl (hb hby d_method_2_91) rfl (by decide : ¬ ((6 : Int32) < (0 : Int32))) (cap := 6) (by decide) (by decide) (by decide) (by decide)
            obtain ⟨b102, g102⟩ : ∃ z, z = h0.size := ⟨_, rfl⟩
            rw [← g102] at A102 st102
            have g103 : n0 ≤ b102 := Nat.le_trans Z0 (Nat.le_of_eq g102.symm)
            have z104 : h0.size ≤ b102 := Nat.le_trans (Keep.refl h0 []).1 (Nat.le_of_eq g102.symm)
            have V105 : Arv Z h102 b102 k102 .char (6 : Int32) [(.int (0 : Int32)), (.int (0 : Int32)), (.int (0 : Int32)), (.int (0 : Int32)), (.int (0 : Int32)), (.int (0 : Int32))] (.int (0 : Int32)) := (Arv.new A102 (by decide)).pad (pad_rep [] (.int (0 : Int32)) 6)
            refine ownBy st102 ?_
            show ownG p.tables e below _ (T102.setTop (mkF m 93 #[.val (.int p1), .val (.int y1)] [(.ref b102)]))
            refine ownBy (A := T102.setTop (mkF m 97 #[.val (.int p1), .val (.int y1)] [(.int (100 : Int32)), (.int (0 : Int32)), (.ref b102), (.ref b102)])) (fun t kt => ?_) ?_
            · show Steps p.tables e below (T102.setTop (mkF m 93 #[.val (.int p1), .val (.int y1)] [(.ref b102)])) t
              refine XS.dup X102.here hx rfl (hb hby d_method_2_93) rfl rfl ?_
              refine XS.iconst X102.here hx rfl (hb hby d_method_2_94) ?_
              show Steps p.tables e below (T102.setTop (mkF m 95 #[.val (.int p1), .val (.int y1)] [(.int (0 : Int32)), (.ref b102), (.ref b102)])) t
              refine XS.bipush X102.here hx rfl (hb hby d_method_2_95) ?_
              exact kt
            obtain ⟨cl106, Ar106, q106, S106, N106, H106, G106⟩ := id V105
            have hin106 : ¬ ((0 : Int32) < 0 ∨ cl106.slots.size ≤ ((0 : Int32)).toNatClampNeg) := inb_of S106 ⟨by decide, by decide⟩
            obtain ⟨T106, h106, X106, e106, W106, st106⟩ := stC X102 hx hZ e102 Ar106 (j := (0 : Int32)) hin106 (g := (mkF m 97 #[.val (.int p1), .val (.int y1)] [(.int (100 : Int32)), (.int (0 : Int32)), (.ref b102), (.ref b102)])) rfl rfl (hb hby d_method_2_97)
            have V107 : Arv Z h106 b102 k102 .char (6 : Int32) [(.int (nar .char (100 : Int32))), (.int (0 : Int32)), (.int (0 : Int32)), (.int (0 : Int32)), (.int (0 : Int32)), (.int (0 : Int32))] (.int (0 : Int32)) := Arv.set Ar106 q106 S106 N106 H106 G106 (fits_nar_char _) W106 0 rfl (Nat.le_of_ble_eq_true rfl)
            rw [own_nl_char_100] at V107
            have N108 := Fr.snoc X106 N0 g103
            refine ownBy st106 ?_
            show ownG p.tables e below _ (T106.setTop (mkF m 98 #[.val (.int p1), .val (.int y1)] [(.ref b102)]))
            refine ownBy (A := T106.setTop (mkF m 102 #[.val (.int p1), .val (.int y1)] [(.int (101 : Int32)), (.int (1 : Int32)), (.ref b102), (.ref b102)])) (fun t kt => ?_) ?_
            · show Steps p.tables e below (T106.setTop (mkF m 98 #[.val (.int p1), .val (.int y1)] [(.ref b102)])) t
              refine XS.dup X106.here hx rfl (hb hby d_method_2_98) rfl rfl ?_
              refine XS.iconst X106.here hx rfl (hb hby d_method_2_99) ?_
              show Steps p.tables e below (T106.setTop (mkF m 100 #[.val (.int p1), .val (.int y1)] [(.int (1 : Int32)), (.ref b102), (.ref b102)])) t
              refine XS.bipush X106.here hx rfl (hb hby d_method_2_100) ?_
              exact kt
            obtain ⟨cl109, Ar109, q109, S109, N109, H109, G109⟩ := id V107
            have hin109 : ¬ ((1 : Int32) < 0 ∨ cl109.slots.size ≤ ((1 : Int32)).toNatClampNeg) := inb_of S109 ⟨by decide, by decide⟩
            obtain ⟨T109, h109, X109, e109, W109, st109⟩ := stC X106 hx hZ e106 Ar109 (j := (1 : Int32)) hin109 (g := (mkF m 102 #[.val (.int p1), .val (.int y1)] [(.int (101 : Int32)), (.int (1 : Int32)), (.ref b102), (.ref b102)])) rfl rfl (hb hby d_method_2_102)
            have V110 : Arv Z h109 b102 k102 .char (6 : Int32) [(.int (100 : Int32)), (.int (nar .char (101 : Int32))), (.int (0 : Int32)), (.int (0 : Int32)), (.int (0 : Int32)), (.int (0 : Int32))] (.int (0 : Int32)) := Arv.set Ar109 q109 S109 N109 H109 G109 (fits_nar_char _) W109 1 rfl (Nat.le_of_ble_eq_true rfl)
            rw [own_nl_char_101] at V110
            have N111 := Fr.snoc X109 N108 g103
            refine ownBy st109 ?_
            show ownG p.tables e below _ (T109.setTop (mkF m 103 #[.val (.int p1), .val (.int y1)] [(.ref b102)]))
            refine ownBy (A := T109.setTop (mkF m 107 #[.val (.int p1), .val (.int y1)] [(.int (97 : Int32)), (.int (2 : Int32)), (.ref b102), (.ref b102)])) (fun t kt => ?_) ?_
            · show Steps p.tables e below (T109.setTop (mkF m 103 #[.val (.int p1), .val (.int y1)] [(.ref b102)])) t
              refine XS.dup X109.here hx rfl (hb hby d_method_2_103) rfl rfl ?_
              refine XS.iconst X109.here hx rfl (hb hby d_method_2_104) ?_
              show Steps p.tables e below (T109.setTop (mkF m 105 #[.val (.int p1), .val (.int y1)] [(.int (2 : Int32)), (.ref b102), (.ref b102)])) t
              refine XS.bipush X109.here hx rfl (hb hby d_method_2_105) ?_
              exact kt
            obtain ⟨cl112, Ar112, q112, S112, N112, H112, G112⟩ := id V110
            have hin112 : ¬ ((2 : Int32) < 0 ∨ cl112.slots.size ≤ ((2 : Int32)).toNatClampNeg) := inb_of S112 ⟨by decide, by decide⟩
            obtain ⟨T112, h112, X112, e112, W112, st112⟩ := stC X109 hx hZ e109 Ar112 (j := (2 : Int32)) hin112 (g := (mkF m 107 #[.val (.int p1), .val (.int y1)] [(.int (97 : Int32)), (.int (2 : Int32)), (.ref b102), (.ref b102)])) rfl rfl (hb hby d_method_2_107)
            have V113 : Arv Z h112 b102 k102 .char (6 : Int32) [(.int (100 : Int32)), (.int (101 : Int32)), (.int (nar .char (97 : Int32))), (.int (0 : Int32)), (.int (0 : Int32)), (.int (0 : Int32))] (.int (0 : Int32)) := Arv.set Ar112 q112 S112 N112 H112 G112 (fits_nar_char _) W112 2 rfl (Nat.le_of_ble_eq_true rfl)
            rw [own_nl_char_97] at V113
            have N114 := Fr.snoc X112 N111 g103
            refine ownBy st112 ?_
            show ownG p.tables e below _ (T112.setTop (mkF m 108 #[.val (.int p1), .val (.int y1)] [(.ref b102)]))
            refine ownBy (A := T112.setTop (mkF m 112 #[.val (.int p1), .val (.int y1)] [(.int (116 : Int32)), (.int (3 : Int32)), (.ref b102), (.ref b102)])) (fun t kt => ?_) ?_
            · show Steps p.tables e below (T112.setTop (mkF m 108 #[.val (.int p1), .val (.int y1)] [(.ref b102)])) t
              refine XS.dup X112.here hx rfl (hb hby d_method_2_108) rfl rfl ?_
              refine XS.iconst X112.here hx rfl (hb hby d_method_2_109) ?_
              show Steps p.tables e below (T112.setTop (mkF m 110 #[.val (.int p1), .val (.int y1)] [(.int (3 : Int32)), (.ref b102), (.ref b102)])) t
              refine XS.bipush X112.here hx rfl (hb hby d_method_2_110) ?_
              exact kt
            obtain ⟨cl115, Ar115, q115, S115, N115, H115, G115⟩ := id V113
            have hin115 : ¬ ((3 : Int32) < 0 ∨ cl115.slots.size ≤ ((3 : Int32)).toNatClampNeg) := inb_of S115 ⟨by decide, by decide⟩
            obtain ⟨T115, h115, X115, e115, W115, st115⟩ := stC X112 hx hZ e112 Ar115 (j := (3 : Int32)) hin115 (g := (mkF m 112 #[.val (.int p1), .val (.int y1)] [(.int (116 : Int32)), (.int (3 : Int32)), (.ref b102), (.ref b102)])) rfl rfl (hb hby d_method_2_112)
            have V116 : Arv Z h115 b102 k102 .char (6 : Int32) [(.int (100 : Int32)), (.int (101 : Int32)), (.int (97 : Int32)), (.int (nar .char (116 : Int32))), (.int (0 : Int32)), (.int (0 : Int32))] (.int (0 : Int32)) := Arv.set Ar115 q115 S115 N115 H115 G115 (fits_nar_char _) W115 3 rfl (Nat.le_of_ble_eq_true rfl)
            rw [own_nl_char_116] at V116
            have N117 := Fr.snoc X115 N114 g103
            refine ownBy st115 ?_
            show ownG p.tables e below _ (T115.setTop (mkF m 113 #[.val (.int p1), .val (.int y1)] [(.ref b102)]))
            refine ownBy (A := T115.setTop (mkF m 117 #[.val (.int p1), .val (.int y1)] [(.int (104 : Int32)), (.int (4 : Int32)), (.ref b102), (.ref b102)])) (fun t kt => ?_) ?_
            · show Steps p.tables e below (T115.setTop (mkF m 113 #[.val (.int p1), .val (.int y1)] [(.ref b102)])) t
              refine XS.dup X115.here hx rfl (hb hby d_method_2_113) rfl rfl ?_
              refine XS.iconst X115.here hx rfl (hb hby d_method_2_114) ?_
              show Steps p.tables e below (T115.setTop (mkF m 115 #[.val (.int p1), .val (.int y1)] [(.int (4 : Int32)), (.ref b102), (.ref b102)])) t
              refine XS.bipush X115.here hx rfl (hb hby d_method_2_115) ?_
              exact kt
            obtain ⟨cl118, Ar118, q118, S118, N118, H118, G118⟩ := id V116
            have hin118 : ¬ ((4 : Int32) < 0 ∨ cl118.slots.size ≤ ((4 : Int32)).toNatClampNeg) := inb_of S118 ⟨by decide, by decide⟩
            obtain ⟨T118, h118, X118, e118, W118, st118⟩ := stC X115 hx hZ e115 Ar118 (j := (4 : Int32)) hin118 (g := (mkF m 117 #[.val (.int p1), .val (.int y1)] [(.int (104 : Int32)), (.int (4 : Int32)), (.ref b102), (.ref b102)])) rfl rfl (hb hby d_method_2_117)
            have V119 : Arv Z h118 b102 k102 .char (6 : Int32) [(.int (100 : Int32)), (.int (101 : Int32)), (.int (97 : Int32)), (.int (116 : Int32)), (.int (nar .char (104 : Int32))), (.int (0 : Int32))] (.int (0 : Int32)) := Arv.set Ar118 q118 S118 N118 H118 G118 (fits_nar_char _) W118 4 rfl (Nat.le_of_ble_eq_true rfl)
            rw [own_nl_char_104] at V119
            have N120 := Fr.snoc X118 N117 g103
            refine ownBy st118 ?_
            show ownG p.tables e below _ (T118.setTop (mkF m 118 #[.val (.int p1), .val (.int y1)] [(.ref b102)]))
            refine ownBy (A := T118.setTop (mkF m 121 #[.val (.int p1), .val (.int y1)] [(.int y1), (.int (5 : Int32)), (.ref b102), (.ref b102)])) (fun t kt => ?_) ?_
            · show Steps p.tables e below (T118.setTop (mkF m 118 #[.val (.int p1), .val (.int y1)] [(.ref b102)])) t
              refine XS.dup X118.here hx rfl (hb hby d_method_2_118) rfl rfl ?_
              refine XS.iconst X118.here hx rfl (hb hby d_method_2_119) ?_
              show Steps p.tables e below (T118.setTop (mkF m 120 #[.val (.int p1), .val (.int y1)] [(.int (5 : Int32)), (.ref b102), (.ref b102)])) t
              refine XS.iloadN X118.here hx rfl (hb hby d_method_2_120) rfl ?_
              exact kt
            obtain ⟨cl121, Ar121, q121, S121, N121, H121, G121⟩ := id V119
            have hin121 : ¬ ((5 : Int32) < 0 ∨ cl121.slots.size ≤ ((5 : Int32)).toNatClampNeg) := inb_of S121 ⟨by decide, by decide⟩
            obtain ⟨T121, h121, X121, e121, W121, st121⟩ := stC X118 hx hZ e118 Ar121 (j := (5 : Int32)) hin121 (g := (mkF m 121 #[.val (.int p1), .val (.int y1)] [(.int y1), (.int (5 : Int32)), (.ref b102), (.ref b102)])) rfl rfl (hb hby d_method_2_121)
            have V122 : Arv Z h121 b102 k102 .char (6 : Int32) [(.int (100 : Int32)), (.int (101 : Int32)), (.int (97 : Int32)), (.int (116 : Int32)), (.int (104 : Int32)), (.int (nar .char y1))] (.int (0 : Int32)) := Arv.set Ar121 q121 S121 N121 H121 G121 (fits_nar_char _) W121 5 rfl (Nat.le_of_ble_eq_true rfl)
            rw [own_nar_rng hy.1 hy.2] at V122
            have N123 := Fr.snoc X121 N120 g103
            refine ownBy st121 ?_
            show ownG p.tables e below _ (T121.setTop (mkF m 122 #[.val (.int p1), .val (.int y1)] [(.ref b102)]))
            have f124 := ((((((((Keep.refl h0 []).ext E102).wr W106 (Or.inr z104)).wr W109 (Or.inr z104)).wr W112 (Or.inr z104)).wr W115 (Or.inr z104)).wr W118 (Or.inr z104)).wr W121 (Or.inr z104))
            refine ownRet X121 Bd.notSynchronized (v := some (.ref b102)) (fun h => by rw [Bd.returns] at h; cases h) ?_ (Nat.le_of_ble_eq_true rfl) (Nat.le_of_ble_eq_true rfl) (fun fs hr => retOut X121 hx Bd.returns rfl (Or.inr (Or.inr (Or.inr (Or.inr ⟨rfl, rfl, rfl⟩)))) (hb hby d_method_2_122) hr)
            show (Q_bld Z p1 y1 h0 n0) (some (.ref b102)) T121.heap _
            rw [e121]
            refine ⟨b102, k102, ([(100 : Int32), (101 : Int32), (97 : Int32), (116 : Int32), (104 : Int32), y1] : List Int32), rfl, N123, f124, z104, V122, ?_, Nat.le_of_ble_eq_true rfl⟩
            intro c hc
            simp only [List.mem_cons, List.not_mem_nil, or_false] at hc
            rcases hc with rfl | rfl | rfl | rfl | rfl | rfl
            · decide
            · decide
            · decide
            · decide
            · decide
            · exact hy
          · skip
            refine ownBy (A := s₁.setTop (mkF m 125 #[.val (.int p1), .val (.int y1)] [(.int (5 : Int32)), (.int p1)])) (fun t kt => ?_) ?_
            · show Steps p.tables e below (s₁.setTop (mkF m 86 #[.val (.int p1), .val (.int y1)] [(.int (4 : Int32)), (.int p1)])) t
              refine XS.icmpYes X0.here hx rfl (pc0 := 86) (pc' := 123) rfl (hb hby d_method_2_86) rfl (feq hc101).2 (by decide) (by decide) ?_
              refine XS.iloadN X0.here hx rfl (hb hby d_method_2_123) rfl ?_
              show Steps p.tables e below (s₁.setTop (mkF m 124 #[.val (.int p1), .val (.int y1)] [(.int p1)])) t
              refine XS.iconst X0.here hx rfl (hb hby d_method_2_124) ?_
              exact kt
            by_cases hc125 : p1 = (5 : Int32)
            · skip
              refine ownBy (A := s₁.setTop (mkF m 130 #[.val (.int p1), .val (.int y1)] [(.int (9 : Int32))])) (fun t kt => ?_) ?_
              · show Steps p.tables e below (s₁.setTop (mkF m 125 #[.val (.int p1), .val (.int y1)] [(.int (5 : Int32)), (.int p1)])) t
                refine XS.icmpNo X0.here hx rfl (hb hby d_method_2_125) rfl (teq hc125).2 ?_
                refine XS.bipush X0.here hx rfl (hb hby d_method_2_128) ?_
                exact kt
              obtain ⟨T126, h126, k126, X126, e126, E126, A126, st126⟩ := newP X0 hx hZ (hw _ (List.mem_of_getElem? (i := 5) rfl)) e0 (g := (mkF m 130 #[.val (.int p1), .val (.int y1)] [(.int (9 : Int32))])) rfl (hb hby d_method_2_130) rfl (by decide : ¬ ((9 : Int32) < (0 : Int32))) (cap := 9) (by decide) (by decide) (by decide) (by decide)
              obtain ⟨b126, g126⟩ : ∃ z, z = h0.size := ⟨_, rfl⟩
              rw [← g126] at A126 st126
              have g127 : n0 ≤ b126 := Nat.le_trans Z0 (Nat.le_of_eq g126.symm)
              have z128 : h0.size ≤ b126 := Nat.le_trans (Keep.refl h0 []).1 (Nat.le_of_eq g126.symm)
              have V129 : Arv Z h126 b126 k126 .char (9 : Int32) [(.int (0 : Int32)), (.int (0 : Int32)), (.int (0 : Int32)), (.int (0 : Int32)), (.int (0 : Int32)), (.int (0 : Int32)), (.int (0 : Int32)), (.int (0 : Int32)), (.int (0 : Int32))] (.int (0 : Int32)) := (Arv.new A126 (by decide)).pad (pad_rep [] (.int (0 : Int32)) 9)
              refine ownBy st126 ?_
              show ownG p.tables e below _ (T126.setTop (mkF m 132 #[.val (.int p1), .val (.int y1)] [(.ref b126)]))
              refine ownBy (A := T126.setTop (mkF m 136 #[.val (.int p1), .val (.int y1)] [(.int (100 : Int32)), (.int (0 : Int32)), (.ref b126), (.ref b126)])) (fun t kt => ?_) ?_
              · show Steps p.tables e below (T126.setTop (mkF m 132 #[.val (.int p1), .val (.int y1)] [(.ref b126)])) t
                refine XS.dup X126.here hx rfl (hb hby d_method_2_132) rfl rfl ?_
                refine XS.iconst X126.here hx rfl (hb hby d_method_2_133) ?_
                show Steps p.tables e below (T126.setTop (mkF m 134 #[.val (.int p1), .val (.int y1)] [(.int (0 : Int32)), (.ref b126), (.ref b126)])) t
                refine XS.bipush X126.here hx rfl (hb hby d_method_2_134) ?_
                exact kt
              obtain ⟨cl130, Ar130, q130, S130, N130, H130, G130⟩ := id V129
              have hin130 : ¬ ((0 : Int32) < 0 ∨ cl130.slots.size ≤ ((0 : Int32)).toNatClampNeg) := inb_of S130 ⟨by decide, by decide⟩
              obtain ⟨T130, h130, X130, e130, W130, st130⟩ := stC X126 hx hZ e126 Ar130 (j := (0 : Int32)) hin130 (g := (mkF m 136 #[.val (.int p1), .val (.int y1)] [(.int (100 : Int32)), (.int (0 : Int32)), (.ref b126), (.ref b126)])) rfl rfl (hb hby d_method_2_136)
              have V131 : Arv Z h130 b126 k126 .char (9 : Int32) [(.int (nar .char (100 : Int32))), (.int (0 : Int32)), (.int (0 : Int32)), (.int (0 : Int32)), (.int (0 : Int32)), (.int (0 : Int32)), (.int (0 : Int32)), (.int (0 : Int32)), (.int (0 : Int32))] (.int (0 : Int32)) := Arv.set Ar130 q130 S130 N130 H130 G130 (fits_nar_char _) W130 0 rfl (Nat.le_of_ble_eq_true rfl)
              rw [own_nl_char_100] at V131
              have N132 := Fr.snoc X130 N0 g127
              refine ownBy st130 ?_
              show ownG p.tables e below _ (T130.setTop (mkF m 137 #[.val (.int p1), .val (.int y1)] [(.ref b126)]))
              refine ownBy (A := T130.setTop (mkF m 141 #[.val (.int p1), .val (.int y1)] [(.int (105 : Int32)), (.int (1 : Int32)), (.ref b126), (.ref b126)])) (fun t kt => ?_) ?_
              · show Steps p.tables e below (T130.setTop (mkF m 137 #[.val (.int p1), .val (.int y1)] [(.ref b126)])) t
                refine XS.dup X130.here hx rfl (hb hby d_method_2_137) rfl rfl ?_
                refine XS.iconst X130.here hx rfl (hb hby d_method_2_138) ?_
                show Steps p.tables e below (T130.setTop (mkF m 139 #[.val (.int p1), .val (.int y1)] [(.int (1 : Int32)), (.ref b126), (.ref b126)])) t
                refine XS.bipush X130.here hx rfl (hb hby d_method_2_139) ?_
                exact kt
              obtain ⟨cl133, Ar133, q133, S133, N133, H133, G133⟩ := id V131
              have hin133 : ¬ ((1 : Int32) < 0 ∨ cl133.slots.size ≤ ((1 : Int32)).toNatClampNeg) := inb_of S133 ⟨by decide, by decide⟩
              obtain ⟨T133, h133, X133, e133, W133, st133⟩ := stC X130 hx hZ e130 Ar133 (j := (1 : Int32)) hin133 (g := (mkF m 141 #[.val (.int p1), .val (.int y1)] [(.int (105 : Int32)), (.int (1 : Int32)), (.ref b126), (.ref b126)])) rfl rfl (hb hby d_method_2_141)
              have V134 : Arv Z h133 b126 k126 .char (9 : Int32) [(.int (100 : Int32)), (.int (nar .char (105 : Int32))), (.int (0 : Int32)), (.int (0 : Int32)), (.int (0 : Int32)), (.int (0 : Int32)), (.int (0 : Int32)), (.int (0 : Int32)), (.int (0 : Int32))] (.int (0 : Int32)) := Arv.set Ar133 q133 S133 N133 H133 G133 (fits_nar_char _) W133 1 rfl (Nat.le_of_ble_eq_true rfl)
              rw [own_nl_char_105] at V134
              have N135 := Fr.snoc X133 N132 g127
              refine ownBy st133 ?_
              show ownG p.tables e below _ (T133.setTop (mkF m 142 #[.val (.int p1), .val (.int y1)] [(.ref b126)]))
              refine ownBy (A := T133.setTop (mkF m 146 #[.val (.int p1), .val (.int y1)] [(.int (115 : Int32)), (.int (2 : Int32)), (.ref b126), (.ref b126)])) (fun t kt => ?_) ?_
              · show Steps p.tables e below (T133.setTop (mkF m 142 #[.val (.int p1), .val (.int y1)] [(.ref b126)])) t
                refine XS.dup X133.here hx rfl (hb hby d_method_2_142) rfl rfl ?_
                refine XS.iconst X133.here hx rfl (hb hby d_method_2_143) ?_
                show Steps p.tables e below (T133.setTop (mkF m 144 #[.val (.int p1), .val (.int y1)] [(.int (2 : Int32)), (.ref b126), (.ref b126)])) t
                refine XS.bipush X133.here hx rfl (hb hby d_method_2_144) ?_
                exact kt
              obtain ⟨cl136, Ar136, q136, S136, N136, H136, G136⟩ := id V134
              have hin136 : ¬ ((2 : Int32) < 0 ∨ cl136.slots.size ≤ ((2 : Int32)).toNatClampNeg) := inb_of S136 ⟨by decide, by decide⟩
              obtain ⟨T136, h136, X136, e136, W136, st136⟩ := stC X133 hx hZ e133 Ar136 (j := (2 : Int32)) hin136 (g := (mkF m 146 #[.val (.int p1), .val (.int y1)] [(.int (115 : Int32)), (.int (2 : Int32)), (.ref b126), (.ref b126)])) rfl rfl (hb hby d_method_2_146)
              have V137 : Arv Z h136 b126 k126 .char (9 : Int32) [(.int (100 : Int32)), (.int (105 : Int32)), (.int (nar .char (115 : Int32))), (.int (0 : Int32)), (.int (0 : Int32)), (.int (0 : Int32)), (.int (0 : Int32)), (.int (0 : Int32)), (.int (0 : Int32))] (.int (0 : Int32)) := Arv.set Ar136 q136 S136 N136 H136 G136 (fits_nar_char _) W136 2 rfl (Nat.le_of_ble_eq_true rfl)
              rw [own_nl_char_115] at V137
              have N138 := Fr.snoc X136 N135 g127
              refine ownBy st136 ?_
              show ownG p.tables e below _ (T136.setTop (mkF m 147 #[.val (.int p1), .val (.int y1)] [(.ref b126)]))
              refine ownBy (A := T136.setTop (mkF m 151 #[.val (.int p1), .val (.int y1)] [(.int (97 : Int32)), (.int (3 : Int32)), (.ref b126), (.ref b126)])) (fun t kt => ?_) ?_
              · show Steps p.tables e below (T136.setTop (mkF m 147 #[.val (.int p1), .val (.int y1)] [(.ref b126)])) t
                refine XS.dup X136.here hx rfl (hb hby d_method_2_147) rfl rfl ?_
                refine XS.iconst X136.here hx rfl (hb hby d_method_2_148) ?_
                show Steps p.tables e below (T136.setTop (mkF m 149 #[.val (.int p1), .val (.int y1)] [(.int (3 : Int32)), (.ref b126), (.ref b126)])) t
                refine XS.bipush X136.here hx rfl (hb hby d_method_2_149) ?_
                exact kt
              obtain ⟨cl139, Ar139, q139, S139, N139, H139, G139⟩ := id V137
              have hin139 : ¬ ((3 : Int32) < 0 ∨ cl139.slots.size ≤ ((3 : Int32)).toNatClampNeg) := inb_of S139 ⟨by decide, by decide⟩
              obtain ⟨T139, h139, X139, e139, W139, st139⟩ := stC X136 hx hZ e136 Ar139 (j := (3 : Int32)) hin139 (g := (mkF m 151 #[.val (.int p1), .val (.int y1)] [(.int (97 : Int32)), (.int (3 : Int32)), (.ref b126), (.ref b126)])) rfl rfl (hb hby d_method_2_151)
              have V140 : Arv Z h139 b126 k126 .char (9 : Int32) [(.int (100 : Int32)), (.int (105 : Int32)), (.int (115 : Int32)), (.int (nar .char (97 : Int32))), (.int (0 : Int32)), (.int (0 : Int32)), (.int (0 : Int32)), (.int (0 : Int32)), (.int (0 : Int32))] (.int (0 : Int32)) := Arv.set Ar139 q139 S139 N139 H139 G139 (fits_nar_char _) W139 3 rfl (Nat.le_of_ble_eq_true rfl)
              rw [own_nl_char_97] at V140
              have N141 := Fr.snoc X139 N138 g127
              refine ownBy st139 ?_
              show ownG p.tables e below _ (T139.setTop (mkF m 152 #[.val (.int p1), .val (.int y1)] [(.ref b126)]))
              refine ownBy (A := T139.setTop (mkF m 156 #[.val (.int p1), .val (.int y1)] [(.int (98 : Int32)), (.int (4 : Int32)), (.ref b126), (.ref b126)])) (fun t kt => ?_) ?_
              · show Steps p.tables e below (T139.setTop (mkF m 152 #[.val (.int p1), .val (.int y1)] [(.ref b126)])) t
                refine XS.dup X139.here hx rfl (hb hby d_method_2_152) rfl rfl ?_
                refine XS.iconst X139.here hx rfl (hb hby d_method_2_153) ?_
                show Steps p.tables e below (T139.setTop (mkF m 154 #[.val (.int p1), .val (.int y1)] [(.int (4 : Int32)), (.ref b126), (.ref b126)])) t
                refine XS.bipush X139.here hx rfl (hb hby d_method_2_154) ?_
                exact kt
              obtain ⟨cl142, Ar142, q142, S142, N142, H142, G142⟩ := id V140
              have hin142 : ¬ ((4 : Int32) < 0 ∨ cl142.slots.size ≤ ((4 : Int32)).toNatClampNeg) := inb_of S142 ⟨by decide, by decide⟩
              obtain ⟨T142, h142, X142, e142, W142, st142⟩ := stC X139 hx hZ e139 Ar142 (j := (4 : Int32)) hin142 (g := (mkF m 156 #[.val (.int p1), .val (.int y1)] [(.int (98 : Int32)), (.int (4 : Int32)), (.ref b126), (.ref b126)])) rfl rfl (hb hby d_method_2_156)
              have V143 : Arv Z h142 b126 k126 .char (9 : Int32) [(.int (100 : Int32)), (.int (105 : Int32)), (.int (115 : Int32)), (.int (97 : Int32)), (.int (nar .char (98 : Int32))), (.int (0 : Int32)), (.int (0 : Int32)), (.int (0 : Int32)), (.int (0 : Int32))] (.int (0 : Int32)) := Arv.set Ar142 q142 S142 N142 H142 G142 (fits_nar_char _) W142 4 rfl (Nat.le_of_ble_eq_true rfl)
              rw [own_nl_char_98] at V143
              have N144 := Fr.snoc X142 N141 g127
              refine ownBy st142 ?_
              show ownG p.tables e below _ (T142.setTop (mkF m 157 #[.val (.int p1), .val (.int y1)] [(.ref b126)]))
              refine ownBy (A := T142.setTop (mkF m 161 #[.val (.int p1), .val (.int y1)] [(.int (105 : Int32)), (.int (5 : Int32)), (.ref b126), (.ref b126)])) (fun t kt => ?_) ?_
              · show Steps p.tables e below (T142.setTop (mkF m 157 #[.val (.int p1), .val (.int y1)] [(.ref b126)])) t
                refine XS.dup X142.here hx rfl (hb hby d_method_2_157) rfl rfl ?_
                refine XS.iconst X142.here hx rfl (hb hby d_method_2_158) ?_
                show Steps p.tables e below (T142.setTop (mkF m 159 #[.val (.int p1), .val (.int y1)] [(.int (5 : Int32)), (.ref b126), (.ref b126)])) t
                refine XS.bipush X142.here hx rfl (hb hby d_method_2_159) ?_
                exact kt
              obtain ⟨cl145, Ar145, q145, S145, N145, H145, G145⟩ := id V143
              have hin145 : ¬ ((5 : Int32) < 0 ∨ cl145.slots.size ≤ ((5 : Int32)).toNatClampNeg) := inb_of S145 ⟨by decide, by decide⟩
              obtain ⟨T145, h145, X145, e145, W145, st145⟩ := stC X142 hx hZ e142 Ar145 (j := (5 : Int32)) hin145 (g := (mkF m 161 #[.val (.int p1), .val (.int y1)] [(.int (105 : Int32)), (.int (5 : Int32)), (.ref b126), (.ref b126)])) rfl rfl (hb hby d_method_2_161)
              have V146 : Arv Z h145 b126 k126 .char (9 : Int32) [(.int (100 : Int32)), (.int (105 : Int32)), (.int (115 : Int32)), (.int (97 : Int32)), (.int (98 : Int32)), (.int (nar .char (105 : Int32))), (.int (0 : Int32)), (.int (0 : Int32)), (.int (0 : Int32))] (.int (0 : Int32)) := Arv.set Ar145 q145 S145 N145 H145 G145 (fits_nar_char _) W145 5 rfl (Nat.le_of_ble_eq_true rfl)
              rw [own_nl_char_105] at V146
              have N147 := Fr.snoc X145 N144 g127
              refine ownBy st145 ?_
              show ownG p.tables e below _ (T145.setTop (mkF m 162 #[.val (.int p1), .val (.int y1)] [(.ref b126)]))
              refine ownBy (A := T145.setTop (mkF m 167 #[.val (.int p1), .val (.int y1)] [(.int (108 : Int32)), (.int (6 : Int32)), (.ref b126), (.ref b126)])) (fun t kt => ?_) ?_
              · show Steps p.tables e below (T145.setTop (mkF m 162 #[.val (.int p1), .val (.int y1)] [(.ref b126)])) t
                refine XS.dup X145.here hx rfl (hb hby d_method_2_162) rfl rfl ?_
                refine XS.bipush X145.here hx rfl (hb hby d_method_2_163) ?_
                show Steps p.tables e below (T145.setTop (mkF m 165 #[.val (.int p1), .val (.int y1)] [(.int (6 : Int32)), (.ref b126), (.ref b126)])) t
                refine XS.bipush X145.here hx rfl (hb hby d_method_2_165) ?_
                exact kt
              obtain ⟨cl148, Ar148, q148, S148, N148, H148, G148⟩ := id V146
              have hin148 : ¬ ((6 : Int32) < 0 ∨ cl148.slots.size ≤ ((6 : Int32)).toNatClampNeg) := inb_of S148 ⟨by decide, by decide⟩
              obtain ⟨T148, h148, X148, e148, W148, st148⟩ := stC X145 hx hZ e145 Ar148 (j := (6 : Int32)) hin148 (g := (mkF m 167 #[.val (.int p1), .val (.int y1)] [(.int (108 : Int32)), (.int (6 : Int32)), (.ref b126), (.ref b126)])) rfl rfl (hb hby d_method_2_167)
              have V149 : Arv Z h148 b126 k126 .char (9 : Int32) [(.int (100 : Int32)), (.int (105 : Int32)), (.int (115 : Int32)), (.int (97 : Int32)), (.int (98 : Int32)), (.int (105 : Int32)), (.int (nar .char (108 : Int32))), (.int (0 : Int32)), (.int (0 : Int32))] (.int (0 : Int32)) := Arv.set Ar148 q148 S148 N148 H148 G148 (fits_nar_char _) W148 6 rfl (Nat.le_of_ble_eq_true rfl)
              rw [own_nl_char_108] at V149
              have N150 := Fr.snoc X148 N147 g127
              refine ownBy st148 ?_
              show ownG p.tables e below _ (T148.setTop (mkF m 168 #[.val (.int p1), .val (.int y1)] [(.ref b126)]))
              refine ownBy (A := T148.setTop (mkF m 173 #[.val (.int p1), .val (.int y1)] [(.int (105 : Int32)), (.int (7 : Int32)), (.ref b126), (.ref b126)])) (fun t kt => ?_) ?_
              · show Steps p.tables e below (T148.setTop (mkF m 168 #[.val (.int p1), .val (.int y1)] [(.ref b126)])) t
                refine XS.dup X148.here hx rfl (hb hby d_method_2_168) rfl rfl ?_
                refine XS.bipush X148.here hx rfl (hb hby d_method_2_169) ?_
                show Steps p.tables e below (T148.setTop (mkF m 171 #[.val (.int p1), .val (.int y1)] [(.int (7 : Int32)), (.ref b126), (.ref b126)])) t
                refine XS.bipush X148.here hx rfl (hb hby d_method_2_171) ?_
                exact kt
              obtain ⟨cl151, Ar151, q151, S151, N151, H151, G151⟩ := id V149
              have hin151 : ¬ ((7 : Int32) < 0 ∨ cl151.slots.size ≤ ((7 : Int32)).toNatClampNeg) := inb_of S151 ⟨by decide, by decide⟩
              obtain ⟨T151, h151, X151, e151, W151, st151⟩ := stC X148 hx hZ e148 Ar151 (j := (7 : Int32)) hin151 (g := (mkF m 173 #[.val (.int p1), .val (.int y1)] [(.int (105 : Int32)), (.int (7 : Int32)), (.ref b126), (.ref b126)])) rfl rfl (hb hby d_method_2_173)
              have V152 : Arv Z h151 b126 k126 .char (9 : Int32) [(.int (100 : Int32)), (.int (105 : Int32)), (.int (115 : Int32)), (.int (97 : Int32)), (.int (98 : Int32)), (.int (105 : Int32)), (.int (108 : Int32)), (.int (nar .char (105 : Int32))), (.int (0 : Int32))] (.int (0 : Int32)) := Arv.set Ar151 q151 S151 N151 H151 G151 (fits_nar_char _) W151 7 rfl (Nat.le_of_ble_eq_true rfl)
              rw [own_nl_char_105] at V152
              have N153 := Fr.snoc X151 N150 g127
              refine ownBy st151 ?_
              show ownG p.tables e below _ (T151.setTop (mkF m 174 #[.val (.int p1), .val (.int y1)] [(.ref b126)]))
              refine ownBy (A := T151.setTop (mkF m 179 #[.val (.int p1), .val (.int y1)] [(.int (116 : Int32)), (.int (8 : Int32)), (.ref b126), (.ref b126)])) (fun t kt => ?_) ?_
              · show Steps p.tables e below (T151.setTop (mkF m 174 #[.val (.int p1), .val (.int y1)] [(.ref b126)])) t
                refine XS.dup X151.here hx rfl (hb hby d_method_2_174) rfl rfl ?_
                refine XS.bipush X151.here hx rfl (hb hby d_method_2_175) ?_
                show Steps p.tables e below (T151.setTop (mkF m 177 #[.val (.int p1), .val (.int y1)] [(.int (8 : Int32)), (.ref b126), (.ref b126)])) t
                refine XS.bipush X151.here hx rfl (hb hby d_method_2_177) ?_
                exact kt
              obtain ⟨cl154, Ar154, q154, S154, N154, H154, G154⟩ := id V152
              have hin154 : ¬ ((8 : Int32) < 0 ∨ cl154.slots.size ≤ ((8 : Int32)).toNatClampNeg) := inb_of S154 ⟨by decide, by decide⟩
              obtain ⟨T154, h154, X154, e154, W154, st154⟩ := stC X151 hx hZ e151 Ar154 (j := (8 : Int32)) hin154 (g := (mkF m 179 #[.val (.int p1), .val (.int y1)] [(.int (116 : Int32)), (.int (8 : Int32)), (.ref b126), (.ref b126)])) rfl rfl (hb hby d_method_2_179)
              have V155 : Arv Z h154 b126 k126 .char (9 : Int32) [(.int (100 : Int32)), (.int (105 : Int32)), (.int (115 : Int32)), (.int (97 : Int32)), (.int (98 : Int32)), (.int (105 : Int32)), (.int (108 : Int32)), (.int (105 : Int32)), (.int (nar .char (116 : Int32)))] (.int (0 : Int32)) := Arv.set Ar154 q154 S154 N154 H154 G154 (fits_nar_char _) W154 8 rfl (Nat.le_of_ble_eq_true rfl)
              rw [own_nl_char_116] at V155
              have N156 := Fr.snoc X154 N153 g127
              refine ownBy st154 ?_
              show ownG p.tables e below _ (T154.setTop (mkF m 180 #[.val (.int p1), .val (.int y1)] [(.ref b126)]))
              have f157 := (((((((((((Keep.refl h0 []).ext E126).wr W130 (Or.inr z128)).wr W133 (Or.inr z128)).wr W136 (Or.inr z128)).wr W139 (Or.inr z128)).wr W142 (Or.inr z128)).wr W145 (Or.inr z128)).wr W148 (Or.inr z128)).wr W151 (Or.inr z128)).wr W154 (Or.inr z128))
              refine ownRet X154 Bd.notSynchronized (v := some (.ref b126)) (fun h => by rw [Bd.returns] at h; cases h) ?_ (Nat.le_of_ble_eq_true rfl) (Nat.le_of_ble_eq_true rfl) (fun fs hr => retOut X154 hx Bd.returns rfl (Or.inr (Or.inr (Or.inr (Or.inr ⟨rfl, rfl, rfl⟩)))) (hb hby d_method_2_180) hr)
              show (Q_bld Z p1 y1 h0 n0) (some (.ref b126)) T154.heap _
              rw [e154]
              refine ⟨b126, k126, ([(100 : Int32), (105 : Int32), (115 : Int32), (97 : Int32), (98 : Int32), (105 : Int32), (108 : Int32), (105 : Int32), (116 : Int32)] : List Int32), rfl, N156, f157, z128, V155, ?_, Nat.le_of_ble_eq_true rfl⟩
              intro c hc
              simp only [List.mem_cons, List.not_mem_nil, or_false] at hc
              rcases hc with rfl | rfl | rfl | rfl | rfl | rfl | rfl | rfl | rfl
              · decide
              · decide
              · decide
              · decide
              · decide
              · decide
              · decide
              · decide
              · decide
            · skip
              refine ownBy (A := s₁.setTop (mkF m 184 #[.val (.int p1), .val (.int y1)] [(.int (6 : Int32)), (.int p1)])) (fun t kt => ?_) ?_
              · show Steps p.tables e below (s₁.setTop (mkF m 125 #[.val (.int p1), .val (.int y1)] [(.int (5 : Int32)), (.int p1)])) t
                refine XS.icmpYes X0.here hx rfl (pc0 := 125) (pc' := 181) rfl (hb hby d_method_2_125) rfl (feq hc125).2 (by decide) (by decide) ?_
                refine XS.iloadN X0.here hx rfl (hb hby d_method_2_181) rfl ?_
                show Steps p.tables e below (s₁.setTop (mkF m 182 #[.val (.int p1), .val (.int y1)] [(.int p1)])) t
                refine XS.bipush X0.here hx rfl (hb hby d_method_2_182) ?_
                exact kt
              by_cases hc158 : p1 = (6 : Int32)
              · skip
                refine ownBy (A := s₁.setTop (mkF m 189 #[.val (.int p1), .val (.int y1)] [(.int (10 : Int32))])) (fun t kt => ?_) ?_
                · show Steps p.tables e below (s₁.setTop (mkF m 184 #[.val (.int p1), .val (.int y1)] [(.int (6 : Int32)), (.int p1)])) t
                  refine XS.icmpNo X0.here hx rfl (hb hby d_method_2_184) rfl (teq hc158).2 ?_
                  refine XS.bipush X0.here hx rfl (hb hby d_method_2_187) ?_
                  exact kt
                obtain ⟨T159, h159, k159, X159, e159, E159, A159, st159⟩ := newP X0 hx hZ (hw _ (List.mem_of_getElem? (i := 5) rfl)) e0 (g := (mkF m 189 #[.val (.int p1), .val (.int y1)] [(.int (10 : Int32))])) rfl (hb hby d_method_2_189) rfl (by decide : ¬ ((10 : Int32) < (0 : Int32))) (cap := 10) (by decide) (by decide) (by decide) (by decide)
                obtain ⟨b159, g159⟩ : ∃ z, z = h0.size := ⟨_, rfl⟩
                rw [← g159] at A159 st159
                have g160 : n0 ≤ b159 := Nat.le_trans Z0 (Nat.le_of_eq g159.symm)
                have z161 : h0.size ≤ b159 := Nat.le_trans (Keep.refl h0 []).1 (Nat.le_of_eq g159.symm)
                have V162 : Arv Z h159 b159 k159 .char (10 : Int32) [(.int (0 : Int32)), (.int (0 : Int32)), (.int (0 : Int32)), (.int (0 : Int32)), (.int (0 : Int32)), (.int (0 : Int32)), (.int (0 : Int32)), (.int (0 : Int32)), (.int (0 : Int32)), (.int (0 : Int32))] (.int (0 : Int32)) := (Arv.new A159 (by decide)).pad (pad_rep [] (.int (0 : Int32)) 10)
                refine ownBy st159 ?_
                show ownG p.tables e below _ (T159.setTop (mkF m 191 #[.val (.int p1), .val (.int y1)] [(.ref b159)]))
                refine ownBy (A := T159.setTop (mkF m 195 #[.val (.int p1), .val (.int y1)] [(.int (100 : Int32)), (.int (0 : Int32)), (.ref b159), (.ref b159)])) (fun t kt => ?_) ?_
                · show Steps p.tables e below (T159.setTop (mkF m 191 #[.val (.int p1), .val (.int y1)] [(.ref b159)])) t
                  refine XS.dup X159.here hx rfl (hb hby d_method_2_191) rfl rfl ?_
                  refine XS.iconst X159.here hx rfl (hb hby d_method_2_192) ?_
                  show Steps p.tables e below (T159.setTop (mkF m 193 #[.val (.int p1), .val (.int y1)] [(.int (0 : Int32)), (.ref b159), (.ref b159)])) t
                  refine XS.bipush X159.here hx rfl (hb hby d_method_2_193) ?_
                  exact kt
                obtain ⟨cl163, Ar163, q163, S163, N163, H163, G163⟩ := id V162
                have hin163 : ¬ ((0 : Int32) < 0 ∨ cl163.slots.size ≤ ((0 : Int32)).toNatClampNeg) := inb_of S163 ⟨by decide, by decide⟩
                obtain ⟨T163, h163, X163, e163, W163, st163⟩ := stC X159 hx hZ e159 Ar163 (j := (0 : Int32)) hin163 (g := (mkF m 195 #[.val (.int p1), .val (.int y1)] [(.int (100 : Int32)), (.int (0 : Int32)), (.ref b159), (.ref b159)])) rfl rfl (hb hby d_method_2_195)
                have V164 : Arv Z h163 b159 k159 .char (10 : Int32) [(.int (nar .char (100 : Int32))), (.int (0 : Int32)), (.int (0 : Int32)), (.int (0 : Int32)), (.int (0 : Int32)), (.int (0 : Int32)), (.int (0 : Int32)), (.int (0 : Int32)), (.int (0 : Int32)), (.int (0 : Int32))] (.int (0 : Int32)) := Arv.set Ar163 q163 S163 N163 H163 G163 (fits_nar_char _) W163 0 rfl (Nat.le_of_ble_eq_true rfl)
                rw [own_nl_char_100] at V164
                have N165 := Fr.snoc X163 N0 g160
                refine ownBy st163 ?_
                show ownG p.tables e below _ (T163.setTop (mkF m 196 #[.val (.int p1), .val (.int y1)] [(.ref b159)]))
                refine ownBy (A := T163.setTop (mkF m 200 #[.val (.int p1), .val (.int y1)] [(.int (105 : Int32)), (.int (1 : Int32)), (.ref b159), (.ref b159)])) (fun t kt => ?_) ?_
                · show Steps p.tables e below (T163.setTop (mkF m 196 #[.val (.int p1), .val (.int y1)] [(.ref b159)])) t
                  refine XS.dup X163.here hx rfl (hb hby d_method_2_196) rfl rfl ?_
                  refine XS.iconst X163.here hx rfl (hb hby d_method_2_197) ?_
                  show Steps p.tables e below (T163.setTop (mkF m 198 #[.val (.int p1), .val (.int y1)] [(.int (1 : Int32)), (.ref b159), (.ref b159)])) t
                  refine XS.bipush X163.here hx rfl (hb hby d_method_2_198) ?_
                  exact kt
                obtain ⟨cl166, Ar166, q166, S166, N166, H166, G166⟩ := id V164
                have hin166 : ¬ ((1 : Int32) < 0 ∨ cl166.slots.size ≤ ((1 : Int32)).toNatClampNeg) := inb_of S166 ⟨by decide, by decide⟩
                obtain ⟨T166, h166, X166, e166, W166, st166⟩ := stC X163 hx hZ e163 Ar166 (j := (1 : Int32)) hin166 (g := (mkF m 200 #[.val (.int p1), .val (.int y1)] [(.int (105 : Int32)), (.int (1 : Int32)), (.ref b159), (.ref b159)])) rfl rfl (hb hby d_method_2_200)
                have V167 : Arv Z h166 b159 k159 .char (10 : Int32) [(.int (100 : Int32)), (.int (nar .char (105 : Int32))), (.int (0 : Int32)), (.int (0 : Int32)), (.int (0 : Int32)), (.int (0 : Int32)), (.int (0 : Int32)), (.int (0 : Int32)), (.int (0 : Int32)), (.int (0 : Int32))] (.int (0 : Int32)) := Arv.set Ar166 q166 S166 N166 H166 G166 (fits_nar_char _) W166 1 rfl (Nat.le_of_ble_eq_true rfl)
                rw [own_nl_char_105] at V167
                have N168 := Fr.snoc X166 N165 g160
                refine ownBy st166 ?_
                show ownG p.tables e below _ (T166.setTop (mkF m 201 #[.val (.int p1), .val (.int y1)] [(.ref b159)]))
                refine ownBy (A := T166.setTop (mkF m 205 #[.val (.int p1), .val (.int y1)] [(.int (115 : Int32)), (.int (2 : Int32)), (.ref b159), (.ref b159)])) (fun t kt => ?_) ?_
                · show Steps p.tables e below (T166.setTop (mkF m 201 #[.val (.int p1), .val (.int y1)] [(.ref b159)])) t
                  refine XS.dup X166.here hx rfl (hb hby d_method_2_201) rfl rfl ?_
                  refine XS.iconst X166.here hx rfl (hb hby d_method_2_202) ?_
                  show Steps p.tables e below (T166.setTop (mkF m 203 #[.val (.int p1), .val (.int y1)] [(.int (2 : Int32)), (.ref b159), (.ref b159)])) t
                  refine XS.bipush X166.here hx rfl (hb hby d_method_2_203) ?_
                  exact kt
                obtain ⟨cl169, Ar169, q169, S169, N169, H169, G169⟩ := id V167
                have hin169 : ¬ ((2 : Int32) < 0 ∨ cl169.slots.size ≤ ((2 : Int32)).toNatClampNeg) := inb_of S169 ⟨by decide, by decide⟩
                obtain ⟨T169, h169, X169, e169, W169, st169⟩ := stC X166 hx hZ e166 Ar169 (j := (2 : Int32)) hin169 (g := (mkF m 205 #[.val (.int p1), .val (.int y1)] [(.int (115 : Int32)), (.int (2 : Int32)), (.ref b159), (.ref b159)])) rfl rfl (hb hby d_method_2_205)
                have V170 : Arv Z h169 b159 k159 .char (10 : Int32) [(.int (100 : Int32)), (.int (105 : Int32)), (.int (nar .char (115 : Int32))), (.int (0 : Int32)), (.int (0 : Int32)), (.int (0 : Int32)), (.int (0 : Int32)), (.int (0 : Int32)), (.int (0 : Int32)), (.int (0 : Int32))] (.int (0 : Int32)) := Arv.set Ar169 q169 S169 N169 H169 G169 (fits_nar_char _) W169 2 rfl (Nat.le_of_ble_eq_true rfl)
                rw [own_nl_char_115] at V170
                have N171 := Fr.snoc X169 N168 g160
                refine ownBy st169 ?_
                show ownG p.tables e below _ (T169.setTop (mkF m 206 #[.val (.int p1), .val (.int y1)] [(.ref b159)]))
                refine ownBy (A := T169.setTop (mkF m 210 #[.val (.int p1), .val (.int y1)] [(.int (97 : Int32)), (.int (3 : Int32)), (.ref b159), (.ref b159)])) (fun t kt => ?_) ?_
                · show Steps p.tables e below (T169.setTop (mkF m 206 #[.val (.int p1), .val (.int y1)] [(.ref b159)])) t
                  refine XS.dup X169.here hx rfl (hb hby d_method_2_206) rfl rfl ?_
                  refine XS.iconst X169.here hx rfl (hb hby d_method_2_207) ?_
                  show Steps p.tables e below (T169.setTop (mkF m 208 #[.val (.int p1), .val (.int y1)] [(.int (3 : Int32)), (.ref b159), (.ref b159)])) t
                  refine XS.bipush X169.here hx rfl (hb hby d_method_2_208) ?_
                  exact kt
                obtain ⟨cl172, Ar172, q172, S172, N172, H172, G172⟩ := id V170
                have hin172 : ¬ ((3 : Int32) < 0 ∨ cl172.slots.size ≤ ((3 : Int32)).toNatClampNeg) := inb_of S172 ⟨by decide, by decide⟩
                obtain ⟨T172, h172, X172, e172, W172, st172⟩ := stC X169 hx hZ e169 Ar172 (j := (3 : Int32)) hin172 (g := (mkF m 210 #[.val (.int p1), .val (.int y1)] [(.int (97 : Int32)), (.int (3 : Int32)), (.ref b159), (.ref b159)])) rfl rfl (hb hby d_method_2_210)
                have V173 : Arv Z h172 b159 k159 .char (10 : Int32) [(.int (100 : Int32)), (.int (105 : Int32)), (.int (115 : Int32)), (.int (nar .char (97 : Int32))), (.int (0 : Int32)), (.int (0 : Int32)), (.int (0 : Int32)), (.int (0 : Int32)), (.int (0 : Int32)), (.int (0 : Int32))] (.int (0 : Int32)) := Arv.set Ar172 q172 S172 N172 H172 G172 (fits_nar_char _) W172 3 rfl (Nat.le_of_ble_eq_true rfl)
                rw [own_nl_char_97] at V173
                have N174 := Fr.snoc X172 N171 g160
                refine ownBy st172 ?_
                show ownG p.tables e below _ (T172.setTop (mkF m 211 #[.val (.int p1), .val (.int y1)] [(.ref b159)]))
                refine ownBy (A := T172.setTop (mkF m 215 #[.val (.int p1), .val (.int y1)] [(.int (98 : Int32)), (.int (4 : Int32)), (.ref b159), (.ref b159)])) (fun t kt => ?_) ?_
                · show Steps p.tables e below (T172.setTop (mkF m 211 #[.val (.int p1), .val (.int y1)] [(.ref b159)])) t
                  refine XS.dup X172.here hx rfl (hb hby d_method_2_211) rfl rfl ?_
                  refine XS.iconst X172.here hx rfl (hb hby d_method_2_212) ?_
                  show Steps p.tables e below (T172.setTop (mkF m 213 #[.val (.int p1), .val (.int y1)] [(.int (4 : Int32)), (.ref b159), (.ref b159)])) t
                  refine XS.bipush X172.here hx rfl (hb hby d_method_2_213) ?_
                  exact kt
                obtain ⟨cl175, Ar175, q175, S175, N175, H175, G175⟩ := id V173
                have hin175 : ¬ ((4 : Int32) < 0 ∨ cl175.slots.size ≤ ((4 : Int32)).toNatClampNeg) := inb_of S175 ⟨by decide, by decide⟩
                obtain ⟨T175, h175, X175, e175, W175, st175⟩ := stC X172 hx hZ e172 Ar175 (j := (4 : Int32)) hin175 (g := (mkF m 215 #[.val (.int p1), .val (.int y1)] [(.int (98 : Int32)), (.int (4 : Int32)), (.ref b159), (.ref b159)])) rfl rfl (hb hby d_method_2_215)
                have V176 : Arv Z h175 b159 k159 .char (10 : Int32) [(.int (100 : Int32)), (.int (105 : Int32)), (.int (115 : Int32)), (.int (97 : Int32)), (.int (nar .char (98 : Int32))), (.int (0 : Int32)), (.int (0 : Int32)), (.int (0 : Int32)), (.int (0 : Int32)), (.int (0 : Int32))] (.int (0 : Int32)) := Arv.set Ar175 q175 S175 N175 H175 G175 (fits_nar_char _) W175 4 rfl (Nat.le_of_ble_eq_true rfl)
                rw [own_nl_char_98] at V176
                have N177 := Fr.snoc X175 N174 g160
                refine ownBy st175 ?_
                show ownG p.tables e below _ (T175.setTop (mkF m 216 #[.val (.int p1), .val (.int y1)] [(.ref b159)]))
                refine ownBy (A := T175.setTop (mkF m 220 #[.val (.int p1), .val (.int y1)] [(.int (105 : Int32)), (.int (5 : Int32)), (.ref b159), (.ref b159)])) (fun t kt => ?_) ?_
                · show Steps p.tables e below (T175.setTop (mkF m 216 #[.val (.int p1), .val (.int y1)] [(.ref b159)])) t
                  refine XS.dup X175.here hx rfl (hb hby d_method_2_216) rfl rfl ?_
                  refine XS.iconst X175.here hx rfl (hb hby d_method_2_217) ?_
                  show Steps p.tables e below (T175.setTop (mkF m 218 #[.val (.int p1), .val (.int y1)] [(.int (5 : Int32)), (.ref b159), (.ref b159)])) t
                  refine XS.bipush X175.here hx rfl (hb hby d_method_2_218) ?_
                  exact kt
                obtain ⟨cl178, Ar178, q178, S178, N178, H178, G178⟩ := id V176
                have hin178 : ¬ ((5 : Int32) < 0 ∨ cl178.slots.size ≤ ((5 : Int32)).toNatClampNeg) := inb_of S178 ⟨by decide, by decide⟩
                obtain ⟨T178, h178, X178, e178, W178, st178⟩ := stC X175 hx hZ e175 Ar178 (j := (5 : Int32)) hin178 (g := (mkF m 220 #[.val (.int p1), .val (.int y1)] [(.int (105 : Int32)), (.int (5 : Int32)), (.ref b159), (.ref b159)])) rfl rfl (hb hby d_method_2_220)
                have V179 : Arv Z h178 b159 k159 .char (10 : Int32) [(.int (100 : Int32)), (.int (105 : Int32)), (.int (115 : Int32)), (.int (97 : Int32)), (.int (98 : Int32)), (.int (nar .char (105 : Int32))), (.int (0 : Int32)), (.int (0 : Int32)), (.int (0 : Int32)), (.int (0 : Int32))] (.int (0 : Int32)) := Arv.set Ar178 q178 S178 N178 H178 G178 (fits_nar_char _) W178 5 rfl (Nat.le_of_ble_eq_true rfl)
                rw [own_nl_char_105] at V179
                have N180 := Fr.snoc X178 N177 g160
                refine ownBy st178 ?_
                show ownG p.tables e below _ (T178.setTop (mkF m 221 #[.val (.int p1), .val (.int y1)] [(.ref b159)]))
                refine ownBy (A := T178.setTop (mkF m 226 #[.val (.int p1), .val (.int y1)] [(.int (108 : Int32)), (.int (6 : Int32)), (.ref b159), (.ref b159)])) (fun t kt => ?_) ?_
                · show Steps p.tables e below (T178.setTop (mkF m 221 #[.val (.int p1), .val (.int y1)] [(.ref b159)])) t
                  refine XS.dup X178.here hx rfl (hb hby d_method_2_221) rfl rfl ?_
                  refine XS.bipush X178.here hx rfl (hb hby d_method_2_222) ?_
                  show Steps p.tables e below (T178.setTop (mkF m 224 #[.val (.int p1), .val (.int y1)] [(.int (6 : Int32)), (.ref b159), (.ref b159)])) t
                  refine XS.bipush X178.here hx rfl (hb hby d_method_2_224) ?_
                  exact kt
                obtain ⟨cl181, Ar181, q181, S181, N181, H181, G181⟩ := id V179
                have hin181 : ¬ ((6 : Int32) < 0 ∨ cl181.slots.size ≤ ((6 : Int32)).toNatClampNeg) := inb_of S181 ⟨by decide, by decide⟩
                obtain ⟨T181, h181, X181, e181, W181, st181⟩ := stC X178 hx hZ e178 Ar181 (j := (6 : Int32)) hin181 (g := (mkF m 226 #[.val (.int p1), .val (.int y1)] [(.int (108 : Int32)), (.int (6 : Int32)), (.ref b159), (.ref b159)])) rfl rfl (hb hby d_method_2_226)
                have V182 : Arv Z h181 b159 k159 .char (10 : Int32) [(.int (100 : Int32)), (.int (105 : Int32)), (.int (115 : Int32)), (.int (97 : Int32)), (.int (98 : Int32)), (.int (105 : Int32)), (.int (nar .char (108 : Int32))), (.int (0 : Int32)), (.int (0 : Int32)), (.int (0 : Int32))] (.int (0 : Int32)) := Arv.set Ar181 q181 S181 N181 H181 G181 (fits_nar_char _) W181 6 rfl (Nat.le_of_ble_eq_true rfl)
                rw [own_nl_char_108] at V182
                have N183 := Fr.snoc X181 N180 g160
                refine ownBy st181 ?_
                show ownG p.tables e below _ (T181.setTop (mkF m 227 #[.val (.int p1), .val (.int y1)] [(.ref b159)]))
                refine ownBy (A := T181.setTop (mkF m 232 #[.val (.int p1), .val (.int y1)] [(.int (105 : Int32)), (.int (7 : Int32)), (.ref b159), (.ref b159)])) (fun t kt => ?_) ?_
                · show Steps p.tables e below (T181.setTop (mkF m 227 #[.val (.int p1), .val (.int y1)] [(.ref b159)])) t
                  refine XS.dup X181.here hx rfl (hb hby d_method_2_227) rfl rfl ?_
                  refine XS.bipush X181.here hx rfl (hb hby d_method_2_228) ?_
                  show Steps p.tables e below (T181.setTop (mkF m 230 #[.val (.int p1), .val (.int y1)] [(.int (7 : Int32)), (.ref b159), (.ref b159)])) t
                  refine XS.bipush X181.here hx rfl (hb hby d_method_2_230) ?_
                  exact kt
                obtain ⟨cl184, Ar184, q184, S184, N184, H184, G184⟩ := id V182
                have hin184 : ¬ ((7 : Int32) < 0 ∨ cl184.slots.size ≤ ((7 : Int32)).toNatClampNeg) := inb_of S184 ⟨by decide, by decide⟩
                obtain ⟨T184, h184, X184, e184, W184, st184⟩ := stC X181 hx hZ e181 Ar184 (j := (7 : Int32)) hin184 (g := (mkF m 232 #[.val (.int p1), .val (.int y1)] [(.int (105 : Int32)), (.int (7 : Int32)), (.ref b159), (.ref b159)])) rfl rfl (hb hby d_method_2_232)
                have V185 : Arv Z h184 b159 k159 .char (10 : Int32) [(.int (100 : Int32)), (.int (105 : Int32)), (.int (115 : Int32)), (.int (97 : Int32)), (.int (98 : Int32)), (.int (105 : Int32)), (.int (108 : Int32)), (.int (nar .char (105 : Int32))), (.int (0 : Int32)), (.int (0 : Int32))] (.int (0 : Int32)) := Arv.set Ar184 q184 S184 N184 H184 G184 (fits_nar_char _) W184 7 rfl (Nat.le_of_ble_eq_true rfl)
                rw [own_nl_char_105] at V185
                have N186 := Fr.snoc X184 N183 g160
                refine ownBy st184 ?_
                show ownG p.tables e below _ (T184.setTop (mkF m 233 #[.val (.int p1), .val (.int y1)] [(.ref b159)]))
                refine ownBy (A := T184.setTop (mkF m 238 #[.val (.int p1), .val (.int y1)] [(.int (116 : Int32)), (.int (8 : Int32)), (.ref b159), (.ref b159)])) (fun t kt => ?_) ?_
                · show Steps p.tables e below (T184.setTop (mkF m 233 #[.val (.int p1), .val (.int y1)] [(.ref b159)])) t
                  refine XS.dup X184.here hx rfl (hb hby d_method_2_233) rfl rfl ?_
                  refine XS.bipush X184.here hx rfl (hb hby d_method_2_234) ?_
                  show Steps p.tables e below (T184.setTop (mkF m 236 #[.val (.int p1), .val (.int y1)] [(.int (8 : Int32)), (.ref b159), (.ref b159)])) t
                  refine XS.bipush X184.here hx rfl (hb hby d_method_2_236) ?_
                  exact kt
                obtain ⟨cl187, Ar187, q187, S187, N187, H187, G187⟩ := id V185
                have hin187 : ¬ ((8 : Int32) < 0 ∨ cl187.slots.size ≤ ((8 : Int32)).toNatClampNeg) := inb_of S187 ⟨by decide, by decide⟩
                obtain ⟨T187, h187, X187, e187, W187, st187⟩ := stC X184 hx hZ e184 Ar187 (j := (8 : Int32)) hin187 (g := (mkF m 238 #[.val (.int p1), .val (.int y1)] [(.int (116 : Int32)), (.int (8 : Int32)), (.ref b159), (.ref b159)])) rfl rfl (hb hby d_method_2_238)
                have V188 : Arv Z h187 b159 k159 .char (10 : Int32) [(.int (100 : Int32)), (.int (105 : Int32)), (.int (115 : Int32)), (.int (97 : Int32)), (.int (98 : Int32)), (.int (105 : Int32)), (.int (108 : Int32)), (.int (105 : Int32)), (.int (nar .char (116 : Int32))), (.int (0 : Int32))] (.int (0 : Int32)) := Arv.set Ar187 q187 S187 N187 H187 G187 (fits_nar_char _) W187 8 rfl (Nat.le_of_ble_eq_true rfl)
                rw [own_nl_char_116] at V188
                have N189 := Fr.snoc X187 N186 g160
                refine ownBy st187 ?_
                show ownG p.tables e below _ (T187.setTop (mkF m 239 #[.val (.int p1), .val (.int y1)] [(.ref b159)]))
                refine ownBy (A := T187.setTop (mkF m 244 #[.val (.int p1), .val (.int y1)] [(.int (121 : Int32)), (.int (9 : Int32)), (.ref b159), (.ref b159)])) (fun t kt => ?_) ?_
                · show Steps p.tables e below (T187.setTop (mkF m 239 #[.val (.int p1), .val (.int y1)] [(.ref b159)])) t
                  refine XS.dup X187.here hx rfl (hb hby d_method_2_239) rfl rfl ?_
                  refine XS.bipush X187.here hx rfl (hb hby d_method_2_240) ?_
                  show Steps p.tables e below (T187.setTop (mkF m 242 #[.val (.int p1), .val (.int y1)] [(.int (9 : Int32)), (.ref b159), (.ref b159)])) t
                  refine XS.bipush X187.here hx rfl (hb hby d_method_2_242) ?_
                  exact kt
                obtain ⟨cl190, Ar190, q190, S190, N190, H190, G190⟩ := id V188
                have hin190 : ¬ ((9 : Int32) < 0 ∨ cl190.slots.size ≤ ((9 : Int32)).toNatClampNeg) := inb_of S190 ⟨by decide, by decide⟩
                obtain ⟨T190, h190, X190, e190, W190, st190⟩ := stC X187 hx hZ e187 Ar190 (j := (9 : Int32)) hin190 (g := (mkF m 244 #[.val (.int p1), .val (.int y1)] [(.int (121 : Int32)), (.int (9 : Int32)), (.ref b159), (.ref b159)])) rfl rfl (hb hby d_method_2_244)
                have V191 : Arv Z h190 b159 k159 .char (10 : Int32) [(.int (100 : Int32)), (.int (105 : Int32)), (.int (115 : Int32)), (.int (97 : Int32)), (.int (98 : Int32)), (.int (105 : Int32)), (.int (108 : Int32)), (.int (105 : Int32)), (.int (116 : Int32)), (.int (nar .char (121 : Int32)))] (.int (0 : Int32)) := Arv.set Ar190 q190 S190 N190 H190 G190 (fits_nar_char _) W190 9 rfl (Nat.le_of_ble_eq_true rfl)
                rw [own_nl_char_121] at V191
                have N192 := Fr.snoc X190 N189 g160
                refine ownBy st190 ?_
                show ownG p.tables e below _ (T190.setTop (mkF m 245 #[.val (.int p1), .val (.int y1)] [(.ref b159)]))
                have f193 := ((((((((((((Keep.refl h0 []).ext E159).wr W163 (Or.inr z161)).wr W166 (Or.inr z161)).wr W169 (Or.inr z161)).wr W172 (Or.inr z161)).wr W175 (Or.inr z161)).wr W178 (Or.inr z161)).wr W181 (Or.inr z161)).wr W184 (Or.inr z161)).wr W187 (Or.inr z161)).wr W190 (Or.inr z161))
                refine ownRet X190 Bd.notSynchronized (v := some (.ref b159)) (fun h => by rw [Bd.returns] at h; cases h) ?_ (Nat.le_of_ble_eq_true rfl) (Nat.le_of_ble_eq_true rfl) (fun fs hr => retOut X190 hx Bd.returns rfl (Or.inr (Or.inr (Or.inr (Or.inr ⟨rfl, rfl, rfl⟩)))) (hb hby d_method_2_245) hr)
                show (Q_bld Z p1 y1 h0 n0) (some (.ref b159)) T190.heap _
                rw [e190]
                refine ⟨b159, k159, ([(100 : Int32), (105 : Int32), (115 : Int32), (97 : Int32), (98 : Int32), (105 : Int32), (108 : Int32), (105 : Int32), (116 : Int32), (121 : Int32)] : List Int32), rfl, N192, f193, z161, V191, ?_, Nat.le_of_ble_eq_true rfl⟩
                intro c hc
                simp only [List.mem_cons, List.not_mem_nil, or_false] at hc
                rcases hc with rfl | rfl | rfl | rfl | rfl | rfl | rfl | rfl | rfl | rfl
                · decide
                · decide
                · decide
                · decide
                · decide
                · decide
                · decide
                · decide
                · decide
                · decide
              · skip
                refine ownBy (A := s₁.setTop (mkF m 248 #[.val (.int p1), .val (.int y1)] [(.int (11 : Int32))])) (fun t kt => ?_) ?_
                · show Steps p.tables e below (s₁.setTop (mkF m 184 #[.val (.int p1), .val (.int y1)] [(.int (6 : Int32)), (.int p1)])) t
                  refine XS.icmpYes X0.here hx rfl (pc0 := 184) (pc' := 246) rfl (hb hby d_method_2_184) rfl (feq hc158).2 (by decide) (by decide) ?_
                  refine XS.bipush X0.here hx rfl (hb hby d_method_2_246) ?_
                  exact kt
                obtain ⟨T194, h194, k194, X194, e194, E194, A194, st194⟩ := newP X0 hx hZ (hw _ (List.mem_of_getElem? (i := 5) rfl)) e0 (g := (mkF m 248 #[.val (.int p1), .val (.int y1)] [(.int (11 : Int32))])) rfl (hb hby d_method_2_248) rfl (by decide : ¬ ((11 : Int32) < (0 : Int32))) (cap := 11) (by decide) (by decide) (by decide) (by decide)
                obtain ⟨b194, g194⟩ : ∃ z, z = h0.size := ⟨_, rfl⟩
                rw [← g194] at A194 st194
                have g195 : n0 ≤ b194 := Nat.le_trans Z0 (Nat.le_of_eq g194.symm)
                have z196 : h0.size ≤ b194 := Nat.le_trans (Keep.refl h0 []).1 (Nat.le_of_eq g194.symm)
                have V197 : Arv Z h194 b194 k194 .char (11 : Int32) [(.int (0 : Int32)), (.int (0 : Int32)), (.int (0 : Int32)), (.int (0 : Int32)), (.int (0 : Int32)), (.int (0 : Int32)), (.int (0 : Int32)), (.int (0 : Int32)), (.int (0 : Int32)), (.int (0 : Int32)), (.int (0 : Int32))] (.int (0 : Int32)) := (Arv.new A194 (by decide)).pad (pad_rep [] (.int (0 : Int32)) 11)
                refine ownBy st194 ?_
                show ownG p.tables e below _ (T194.setTop (mkF m 250 #[.val (.int p1), .val (.int y1)] [(.ref b194)]))
                refine ownBy (A := T194.setTop (mkF m 254 #[.val (.int p1), .val (.int y1)] [(.int (100 : Int32)), (.int (0 : Int32)), (.ref b194), (.ref b194)])) (fun t kt => ?_) ?_
                · show Steps p.tables e below (T194.setTop (mkF m 250 #[.val (.int p1), .val (.int y1)] [(.ref b194)])) t
                  refine XS.dup X194.here hx rfl (hb hby d_method_2_250) rfl rfl ?_
                  refine XS.iconst X194.here hx rfl (hb hby d_method_2_251) ?_
                  show Steps p.tables e below (T194.setTop (mkF m 252 #[.val (.int p1), .val (.int y1)] [(.int (0 : Int32)), (.ref b194), (.ref b194)])) t
                  refine XS.bipush X194.here hx rfl (hb hby d_method_2_252) ?_
                  exact kt
                obtain ⟨cl198, Ar198, q198, S198, N198, H198, G198⟩ := id V197
                have hin198 : ¬ ((0 : Int32) < 0 ∨ cl198.slots.size ≤ ((0 : Int32)).toNatClampNeg) := inb_of S198 ⟨by decide, by decide⟩
                obtain ⟨T198, h198, X198, e198, W198, st198⟩ := stC X194 hx hZ e194 Ar198 (j := (0 : Int32)) hin198 (g := (mkF m 254 #[.val (.int p1), .val (.int y1)] [(.int (100 : Int32)), (.int (0 : Int32)), (.ref b194), (.ref b194)])) rfl rfl (hb hby d_method_2_254)
                have V199 : Arv Z h198 b194 k194 .char (11 : Int32) [(.int (nar .char (100 : Int32))), (.int (0 : Int32)), (.int (0 : Int32)), (.int (0 : Int32)), (.int (0 : Int32)), (.int (0 : Int32)), (.int (0 : Int32)), (.int (0 : Int32)), (.int (0 : Int32)), (.int (0 : Int32)), (.int (0 : Int32))] (.int (0 : Int32)) := Arv.set Ar198 q198 S198 N198 H198 G198 (fits_nar_char _) W198 0 rfl (Nat.le_of_ble_eq_true rfl)
                rw [own_nl_char_100] at V199
                have N200 := Fr.snoc X198 N0 g195
                refine ownBy st198 ?_
                show ownG p.tables e below _ (T198.setTop (mkF m 255 #[.val (.int p1), .val (.int y1)] [(.ref b194)]))
                refine ownBy (A := T198.setTop (mkF m 259 #[.val (.int p1), .val (.int y1)] [(.int (105 : Int32)), (.int (1 : Int32)), (.ref b194), (.ref b194)])) (fun t kt => ?_) ?_
                · show Steps p.tables e below (T198.setTop (mkF m 255 #[.val (.int p1), .val (.int y1)] [(.ref b194)])) t
                  refine XS.dup X198.here hx rfl (hb hby d_method_2_255) rfl rfl ?_
                  refine XS.iconst X198.here hx rfl (hb hby d_method_2_256) ?_
                  show Steps p.tables e below (T198.setTop (mkF m 257 #[.val (.int p1), .val (.int y1)] [(.int (1 : Int32)), (.ref b194), (.ref b194)])) t
                  refine XS.bipush X198.here hx rfl (hb hby d_method_2_257) ?_
                  exact kt
                obtain ⟨cl201, Ar201, q201, S201, N201, H201, G201⟩ := id V199
                have hin201 : ¬ ((1 : Int32) < 0 ∨ cl201.slots.size ≤ ((1 : Int32)).toNatClampNeg) := inb_of S201 ⟨by decide, by decide⟩
                obtain ⟨T201, h201, X201, e201, W201, st201⟩ := stC X198 hx hZ e198 Ar201 (j := (1 : Int32)) hin201 (g := (mkF m 259 #[.val (.int p1), .val (.int y1)] [(.int (105 : Int32)), (.int (1 : Int32)), (.ref b194), (.ref b194)])) rfl rfl (hb hby d_method_2_259)
                have V202 : Arv Z h201 b194 k194 .char (11 : Int32) [(.int (100 : Int32)), (.int (nar .char (105 : Int32))), (.int (0 : Int32)), (.int (0 : Int32)), (.int (0 : Int32)), (.int (0 : Int32)), (.int (0 : Int32)), (.int (0 : Int32)), (.int (0 : Int32)), (.int (0 : Int32)), (.int (0 : Int32))] (.int (0 : Int32)) := Arv.set Ar201 q201 S201 N201 H201 G201 (fits_nar_char _) W201 1 rfl (Nat.le_of_ble_eq_true rfl)
                rw [own_nl_char_105] at V202
                have N203 := Fr.snoc X201 N200 g195
                refine ownBy st201 ?_
                show ownG p.tables e below _ (T201.setTop (mkF m 260 #[.val (.int p1), .val (.int y1)] [(.ref b194)]))
                refine ownBy (A := T201.setTop (mkF m 264 #[.val (.int p1), .val (.int y1)] [(.int (115 : Int32)), (.int (2 : Int32)), (.ref b194), (.ref b194)])) (fun t kt => ?_) ?_
                · show Steps p.tables e below (T201.setTop (mkF m 260 #[.val (.int p1), .val (.int y1)] [(.ref b194)])) t
                  refine XS.dup X201.here hx rfl (hb hby d_method_2_260) rfl rfl ?_
                  refine XS.iconst X201.here hx rfl (hb hby d_method_2_261) ?_
                  show Steps p.tables e below (T201.setTop (mkF m 262 #[.val (.int p1), .val (.int y1)] [(.int (2 : Int32)), (.ref b194), (.ref b194)])) t
                  refine XS.bipush X201.here hx rfl (hb hby d_method_2_262) ?_
                  exact kt
                obtain ⟨cl204, Ar204, q204, S204, N204, H204, G204⟩ := id V202
                have hin204 : ¬ ((2 : Int32) < 0 ∨ cl204.slots.size ≤ ((2 : Int32)).toNatClampNeg) := inb_of S204 ⟨by decide, by decide⟩
                obtain ⟨T204, h204, X204, e204, W204, st204⟩ := stC X201 hx hZ e201 Ar204 (j := (2 : Int32)) hin204 (g := (mkF m 264 #[.val (.int p1), .val (.int y1)] [(.int (115 : Int32)), (.int (2 : Int32)), (.ref b194), (.ref b194)])) rfl rfl (hb hby d_method_2_264)
                have V205 : Arv Z h204 b194 k194 .char (11 : Int32) [(.int (100 : Int32)), (.int (105 : Int32)), (.int (nar .char (115 : Int32))), (.int (0 : Int32)), (.int (0 : Int32)), (.int (0 : Int32)), (.int (0 : Int32)), (.int (0 : Int32)), (.int (0 : Int32)), (.int (0 : Int32)), (.int (0 : Int32))] (.int (0 : Int32)) := Arv.set Ar204 q204 S204 N204 H204 G204 (fits_nar_char _) W204 2 rfl (Nat.le_of_ble_eq_true rfl)
                rw [own_nl_char_115] at V205
                have N206 := Fr.snoc X204 N203 g195
                refine ownBy st204 ?_
                show ownG p.tables e below _ (T204.setTop (mkF m 265 #[.val (.int p1), .val (.int y1)] [(.ref b194)]))
                refine ownBy (A := T204.setTop (mkF m 269 #[.val (.int p1), .val (.int y1)] [(.int (97 : Int32)), (.int (3 : Int32)), (.ref b194), (.ref b194)])) (fun t kt => ?_) ?_
                · show Steps p.tables e below (T204.setTop (mkF m 265 #[.val (.int p1), .val (.int y1)] [(.ref b194)])) t
                  refine XS.dup X204.here hx rfl (hb hby d_method_2_265) rfl rfl ?_
                  refine XS.iconst X204.here hx rfl (hb hby d_method_2_266) ?_
                  show Steps p.tables e below (T204.setTop (mkF m 267 #[.val (.int p1), .val (.int y1)] [(.int (3 : Int32)), (.ref b194), (.ref b194)])) t
                  refine XS.bipush X204.here hx rfl (hb hby d_method_2_267) ?_
                  exact kt
                obtain ⟨cl207, Ar207, q207, S207, N207, H207, G207⟩ := id V205
                have hin207 : ¬ ((3 : Int32) < 0 ∨ cl207.slots.size ≤ ((3 : Int32)).toNatClampNeg) := inb_of S207 ⟨by decide, by decide⟩
                obtain ⟨T207, h207, X207, e207, W207, st207⟩ := stC X204 hx hZ e204 Ar207 (j := (3 : Int32)) hin207 (g := (mkF m 269 #[.val (.int p1), .val (.int y1)] [(.int (97 : Int32)), (.int (3 : Int32)), (.ref b194), (.ref b194)])) rfl rfl (hb hby d_method_2_269)
                have V208 : Arv Z h207 b194 k194 .char (11 : Int32) [(.int (100 : Int32)), (.int (105 : Int32)), (.int (115 : Int32)), (.int (nar .char (97 : Int32))), (.int (0 : Int32)), (.int (0 : Int32)), (.int (0 : Int32)), (.int (0 : Int32)), (.int (0 : Int32)), (.int (0 : Int32)), (.int (0 : Int32))] (.int (0 : Int32)) := Arv.set Ar207 q207 S207 N207 H207 G207 (fits_nar_char _) W207 3 rfl (Nat.le_of_ble_eq_true rfl)
                rw [own_nl_char_97] at V208
                have N209 := Fr.snoc X207 N206 g195
                refine ownBy st207 ?_
                show ownG p.tables e below _ (T207.setTop (mkF m 270 #[.val (.int p1), .val (.int y1)] [(.ref b194)]))
                refine ownBy (A := T207.setTop (mkF m 274 #[.val (.int p1), .val (.int y1)] [(.int (98 : Int32)), (.int (4 : Int32)), (.ref b194), (.ref b194)])) (fun t kt => ?_) ?_
                · show Steps p.tables e below (T207.setTop (mkF m 270 #[.val (.int p1), .val (.int y1)] [(.ref b194)])) t
                  refine XS.dup X207.here hx rfl (hb hby d_method_2_270) rfl rfl ?_
                  refine XS.iconst X207.here hx rfl (hb hby d_method_2_271) ?_
                  show Steps p.tables e below (T207.setTop (mkF m 272 #[.val (.int p1), .val (.int y1)] [(.int (4 : Int32)), (.ref b194), (.ref b194)])) t
                  refine XS.bipush X207.here hx rfl (hb hby d_method_2_272) ?_
                  exact kt
                obtain ⟨cl210, Ar210, q210, S210, N210, H210, G210⟩ := id V208
                have hin210 : ¬ ((4 : Int32) < 0 ∨ cl210.slots.size ≤ ((4 : Int32)).toNatClampNeg) := inb_of S210 ⟨by decide, by decide⟩
                obtain ⟨T210, h210, X210, e210, W210, st210⟩ := stC X207 hx hZ e207 Ar210 (j := (4 : Int32)) hin210 (g := (mkF m 274 #[.val (.int p1), .val (.int y1)] [(.int (98 : Int32)), (.int (4 : Int32)), (.ref b194), (.ref b194)])) rfl rfl (hb hby d_method_2_274)
                have V211 : Arv Z h210 b194 k194 .char (11 : Int32) [(.int (100 : Int32)), (.int (105 : Int32)), (.int (115 : Int32)), (.int (97 : Int32)), (.int (nar .char (98 : Int32))), (.int (0 : Int32)), (.int (0 : Int32)), (.int (0 : Int32)), (.int (0 : Int32)), (.int (0 : Int32)), (.int (0 : Int32))] (.int (0 : Int32)) := Arv.set Ar210 q210 S210 N210 H210 G210 (fits_nar_char _) W210 4 rfl (Nat.le_of_ble_eq_true rfl)
                rw [own_nl_char_98] at V211
                have N212 := Fr.snoc X210 N209 g195
                refine ownBy st210 ?_
                show ownG p.tables e below _ (T210.setTop (mkF m 275 #[.val (.int p1), .val (.int y1)] [(.ref b194)]))
                refine ownBy (A := T210.setTop (mkF m 279 #[.val (.int p1), .val (.int y1)] [(.int (105 : Int32)), (.int (5 : Int32)), (.ref b194), (.ref b194)])) (fun t kt => ?_) ?_
                · show Steps p.tables e below (T210.setTop (mkF m 275 #[.val (.int p1), .val (.int y1)] [(.ref b194)])) t
                  refine XS.dup X210.here hx rfl (hb hby d_method_2_275) rfl rfl ?_
                  refine XS.iconst X210.here hx rfl (hb hby d_method_2_276) ?_
                  show Steps p.tables e below (T210.setTop (mkF m 277 #[.val (.int p1), .val (.int y1)] [(.int (5 : Int32)), (.ref b194), (.ref b194)])) t
                  refine XS.bipush X210.here hx rfl (hb hby d_method_2_277) ?_
                  exact kt
                obtain ⟨cl213, Ar213, q213, S213, N213, H213, G213⟩ := id V211
                have hin213 : ¬ ((5 : Int32) < 0 ∨ cl213.slots.size ≤ ((5 : Int32)).toNatClampNeg) := inb_of S213 ⟨by decide, by decide⟩
                obtain ⟨T213, h213, X213, e213, W213, st213⟩ := stC X210 hx hZ e210 Ar213 (j := (5 : Int32)) hin213 (g := (mkF m 279 #[.val (.int p1), .val (.int y1)] [(.int (105 : Int32)), (.int (5 : Int32)), (.ref b194), (.ref b194)])) rfl rfl (hb hby d_method_2_279)
                have V214 : Arv Z h213 b194 k194 .char (11 : Int32) [(.int (100 : Int32)), (.int (105 : Int32)), (.int (115 : Int32)), (.int (97 : Int32)), (.int (98 : Int32)), (.int (nar .char (105 : Int32))), (.int (0 : Int32)), (.int (0 : Int32)), (.int (0 : Int32)), (.int (0 : Int32)), (.int (0 : Int32))] (.int (0 : Int32)) := Arv.set Ar213 q213 S213 N213 H213 G213 (fits_nar_char _) W213 5 rfl (Nat.le_of_ble_eq_true rfl)
                rw [own_nl_char_105] at V214
                have N215 := Fr.snoc X213 N212 g195
                refine ownBy st213 ?_
                show ownG p.tables e below _ (T213.setTop (mkF m 280 #[.val (.int p1), .val (.int y1)] [(.ref b194)]))
                refine ownBy (A := T213.setTop (mkF m 285 #[.val (.int p1), .val (.int y1)] [(.int (108 : Int32)), (.int (6 : Int32)), (.ref b194), (.ref b194)])) (fun t kt => ?_) ?_
                · show Steps p.tables e below (T213.setTop (mkF m 280 #[.val (.int p1), .val (.int y1)] [(.ref b194)])) t
                  refine XS.dup X213.here hx rfl (hb hby d_method_2_280) rfl rfl ?_
                  refine XS.bipush X213.here hx rfl (hb hby d_method_2_281) ?_
                  show Steps p.tables e below (T213.setTop (mkF m 283 #[.val (.int p1), .val (.int y1)] [(.int (6 : Int32)), (.ref b194), (.ref b194)])) t
                  refine XS.bipush X213.here hx rfl (hb hby d_method_2_283) ?_
                  exact kt
                obtain ⟨cl216, Ar216, q216, S216, N216, H216, G216⟩ := id V214
                have hin216 : ¬ ((6 : Int32) < 0 ∨ cl216.slots.size ≤ ((6 : Int32)).toNatClampNeg) := inb_of S216 ⟨by decide, by decide⟩
                obtain ⟨T216, h216, X216, e216, W216, st216⟩ := stC X213 hx hZ e213 Ar216 (j := (6 : Int32)) hin216 (g := (mkF m 285 #[.val (.int p1), .val (.int y1)] [(.int (108 : Int32)), (.int (6 : Int32)), (.ref b194), (.ref b194)])) rfl rfl (hb hby d_method_2_285)
                have V217 : Arv Z h216 b194 k194 .char (11 : Int32) [(.int (100 : Int32)), (.int (105 : Int32)), (.int (115 : Int32)), (.int (97 : Int32)), (.int (98 : Int32)), (.int (105 : Int32)), (.int (nar .char (108 : Int32))), (.int (0 : Int32)), (.int (0 : Int32)), (.int (0 : Int32)), (.int (0 : Int32))] (.int (0 : Int32)) := Arv.set Ar216 q216 S216 N216 H216 G216 (fits_nar_char _) W216 6 rfl (Nat.le_of_ble_eq_true rfl)
                rw [own_nl_char_108] at V217
                have N218 := Fr.snoc X216 N215 g195
                refine ownBy st216 ?_
                show ownG p.tables e below _ (T216.setTop (mkF m 286 #[.val (.int p1), .val (.int y1)] [(.ref b194)]))
                refine ownBy (A := T216.setTop (mkF m 291 #[.val (.int p1), .val (.int y1)] [(.int (105 : Int32)), (.int (7 : Int32)), (.ref b194), (.ref b194)])) (fun t kt => ?_) ?_
                · show Steps p.tables e below (T216.setTop (mkF m 286 #[.val (.int p1), .val (.int y1)] [(.ref b194)])) t
                  refine XS.dup X216.here hx rfl (hb hby d_method_2_286) rfl rfl ?_
                  refine XS.bipush X216.here hx rfl (hb hby d_method_2_287) ?_
                  show Steps p.tables e below (T216.setTop (mkF m 289 #[.val (.int p1), .val (.int y1)] [(.int (7 : Int32)), (.ref b194), (.ref b194)])) t
                  refine XS.bipush X216.here hx rfl (hb hby d_method_2_289) ?_
                  exact kt
                obtain ⟨cl219, Ar219, q219, S219, N219, H219, G219⟩ := id V217
                have hin219 : ¬ ((7 : Int32) < 0 ∨ cl219.slots.size ≤ ((7 : Int32)).toNatClampNeg) := inb_of S219 ⟨by decide, by decide⟩
                obtain ⟨T219, h219, X219, e219, W219, st219⟩ := stC X216 hx hZ e216 Ar219 (j := (7 : Int32)) hin219 (g := (mkF m 291 #[.val (.int p1), .val (.int y1)] [(.int (105 : Int32)), (.int (7 : Int32)), (.ref b194), (.ref b194)])) rfl rfl (hb hby d_method_2_291)
                have V220 : Arv Z h219 b194 k194 .char (11 : Int32) [(.int (100 : Int32)), (.int (105 : Int32)), (.int (115 : Int32)), (.int (97 : Int32)), (.int (98 : Int32)), (.int (105 : Int32)), (.int (108 : Int32)), (.int (nar .char (105 : Int32))), (.int (0 : Int32)), (.int (0 : Int32)), (.int (0 : Int32))] (.int (0 : Int32)) := Arv.set Ar219 q219 S219 N219 H219 G219 (fits_nar_char _) W219 7 rfl (Nat.le_of_ble_eq_true rfl)
                rw [own_nl_char_105] at V220
                have N221 := Fr.snoc X219 N218 g195
                refine ownBy st219 ?_
                show ownG p.tables e below _ (T219.setTop (mkF m 292 #[.val (.int p1), .val (.int y1)] [(.ref b194)]))
                refine ownBy (A := T219.setTop (mkF m 297 #[.val (.int p1), .val (.int y1)] [(.int (116 : Int32)), (.int (8 : Int32)), (.ref b194), (.ref b194)])) (fun t kt => ?_) ?_
                · show Steps p.tables e below (T219.setTop (mkF m 292 #[.val (.int p1), .val (.int y1)] [(.ref b194)])) t
                  refine XS.dup X219.here hx rfl (hb hby d_method_2_292) rfl rfl ?_
                  refine XS.bipush X219.here hx rfl (hb hby d_method_2_293) ?_
                  show Steps p.tables e below (T219.setTop (mkF m 295 #[.val (.int p1), .val (.int y1)] [(.int (8 : Int32)), (.ref b194), (.ref b194)])) t
                  refine XS.bipush X219.here hx rfl (hb hby d_method_2_295) ?_
                  exact kt
                obtain ⟨cl222, Ar222, q222, S222, N222, H222, G222⟩ := id V220
                have hin222 : ¬ ((8 : Int32) < 0 ∨ cl222.slots.size ≤ ((8 : Int32)).toNatClampNeg) := inb_of S222 ⟨by decide, by decide⟩
                obtain ⟨T222, h222, X222, e222, W222, st222⟩ := stC X219 hx hZ e219 Ar222 (j := (8 : Int32)) hin222 (g := (mkF m 297 #[.val (.int p1), .val (.int y1)] [(.int (116 : Int32)), (.int (8 : Int32)), (.ref b194), (.ref b194)])) rfl rfl (hb hby d_method_2_297)
                have V223 : Arv Z h222 b194 k194 .char (11 : Int32) [(.int (100 : Int32)), (.int (105 : Int32)), (.int (115 : Int32)), (.int (97 : Int32)), (.int (98 : Int32)), (.int (105 : Int32)), (.int (108 : Int32)), (.int (105 : Int32)), (.int (nar .char (116 : Int32))), (.int (0 : Int32)), (.int (0 : Int32))] (.int (0 : Int32)) := Arv.set Ar222 q222 S222 N222 H222 G222 (fits_nar_char _) W222 8 rfl (Nat.le_of_ble_eq_true rfl)
                rw [own_nl_char_116] at V223
                have N224 := Fr.snoc X222 N221 g195
                refine ownBy st222 ?_
                show ownG p.tables e below _ (T222.setTop (mkF m 298 #[.val (.int p1), .val (.int y1)] [(.ref b194)]))
                refine ownBy (A := T222.setTop (mkF m 303 #[.val (.int p1), .val (.int y1)] [(.int (121 : Int32)), (.int (9 : Int32)), (.ref b194), (.ref b194)])) (fun t kt => ?_) ?_
                · show Steps p.tables e below (T222.setTop (mkF m 298 #[.val (.int p1), .val (.int y1)] [(.ref b194)])) t
                  refine XS.dup X222.here hx rfl (hb hby d_method_2_298) rfl rfl ?_
                  refine XS.bipush X222.here hx rfl (hb hby d_method_2_299) ?_
                  show Steps p.tables e below (T222.setTop (mkF m 301 #[.val (.int p1), .val (.int y1)] [(.int (9 : Int32)), (.ref b194), (.ref b194)])) t
                  refine XS.bipush X222.here hx rfl (hb hby d_method_2_301) ?_
                  exact kt
                obtain ⟨cl225, Ar225, q225, S225, N225, H225, G225⟩ := id V223
                have hin225 : ¬ ((9 : Int32) < 0 ∨ cl225.slots.size ≤ ((9 : Int32)).toNatClampNeg) := inb_of S225 ⟨by decide, by decide⟩
                obtain ⟨T225, h225, X225, e225, W225, st225⟩ := stC X222 hx hZ e222 Ar225 (j := (9 : Int32)) hin225 (g := (mkF m 303 #[.val (.int p1), .val (.int y1)] [(.int (121 : Int32)), (.int (9 : Int32)), (.ref b194), (.ref b194)])) rfl rfl (hb hby d_method_2_303)
                have V226 : Arv Z h225 b194 k194 .char (11 : Int32) [(.int (100 : Int32)), (.int (105 : Int32)), (.int (115 : Int32)), (.int (97 : Int32)), (.int (98 : Int32)), (.int (105 : Int32)), (.int (108 : Int32)), (.int (105 : Int32)), (.int (116 : Int32)), (.int (nar .char (121 : Int32))), (.int (0 : Int32))] (.int (0 : Int32)) := Arv.set Ar225 q225 S225 N225 H225 G225 (fits_nar_char _) W225 9 rfl (Nat.le_of_ble_eq_true rfl)
                rw [own_nl_char_121] at V226
                have N227 := Fr.snoc X225 N224 g195
                refine ownBy st225 ?_
                show ownG p.tables e below _ (T225.setTop (mkF m 304 #[.val (.int p1), .val (.int y1)] [(.ref b194)]))
                refine ownBy (A := T225.setTop (mkF m 308 #[.val (.int p1), .val (.int y1)] [(.int y1), (.int (10 : Int32)), (.ref b194), (.ref b194)])) (fun t kt => ?_) ?_
                · show Steps p.tables e below (T225.setTop (mkF m 304 #[.val (.int p1), .val (.int y1)] [(.ref b194)])) t
                  refine XS.dup X225.here hx rfl (hb hby d_method_2_304) rfl rfl ?_
                  refine XS.bipush X225.here hx rfl (hb hby d_method_2_305) ?_
                  show Steps p.tables e below (T225.setTop (mkF m 307 #[.val (.int p1), .val (.int y1)] [(.int (10 : Int32)), (.ref b194), (.ref b194)])) t
                  refine XS.iloadN X225.here hx rfl (hb hby d_method_2_307) rfl ?_
                  exact kt
                obtain ⟨cl228, Ar228, q228, S228, N228, H228, G228⟩ := id V226
                have hin228 : ¬ ((10 : Int32) < 0 ∨ cl228.slots.size ≤ ((10 : Int32)).toNatClampNeg) := inb_of S228 ⟨by decide, by decide⟩
                obtain ⟨T228, h228, X228, e228, W228, st228⟩ := stC X225 hx hZ e225 Ar228 (j := (10 : Int32)) hin228 (g := (mkF m 308 #[.val (.int p1), .val (.int y1)] [(.int y1), (.int (10 : Int32)), (.ref b194), (.ref b194)])) rfl rfl (hb hby d_method_2_308)
                have V229 : Arv Z h228 b194 k194 .char (11 : Int32) [(.int (100 : Int32)), (.int (105 : Int32)), (.int (115 : Int32)), (.int (97 : Int32)), (.int (98 : Int32)), (.int (105 : Int32)), (.int (108 : Int32)), (.int (105 : Int32)), (.int (116 : Int32)), (.int (121 : Int32)), (.int (nar .char y1))] (.int (0 : Int32)) := Arv.set Ar228 q228 S228 N228 H228 G228 (fits_nar_char _) W228 10 rfl (Nat.le_of_ble_eq_true rfl)
                rw [own_nar_rng hy.1 hy.2] at V229
                have N230 := Fr.snoc X228 N227 g195
                refine ownBy st228 ?_
                show ownG p.tables e below _ (T228.setTop (mkF m 309 #[.val (.int p1), .val (.int y1)] [(.ref b194)]))
                have f231 := (((((((((((((Keep.refl h0 []).ext E194).wr W198 (Or.inr z196)).wr W201 (Or.inr z196)).wr W204 (Or.inr z196)).wr W207 (Or.inr z196)).wr W210 (Or.inr z196)).wr W213 (Or.inr z196)).wr W216 (Or.inr z196)).wr W219 (Or.inr z196)).wr W222 (Or.inr z196)).wr W225 (Or.inr z196)).wr W228 (Or.inr z196))
                refine ownRet X228 Bd.notSynchronized (v := some (.ref b194)) (fun h => by rw [Bd.returns] at h; cases h) ?_ (Nat.le_of_ble_eq_true rfl) (Nat.le_of_ble_eq_true rfl) (fun fs hr => retOut X228 hx Bd.returns rfl (Or.inr (Or.inr (Or.inr (Or.inr ⟨rfl, rfl, rfl⟩)))) (hb hby d_method_2_309) hr)
                show (Q_bld Z p1 y1 h0 n0) (some (.ref b194)) T228.heap _
                rw [e228]
                refine ⟨b194, k194, ([(100 : Int32), (105 : Int32), (115 : Int32), (97 : Int32), (98 : Int32), (105 : Int32), (108 : Int32), (105 : Int32), (116 : Int32), (121 : Int32), y1] : List Int32), rfl, N230, f231, z196, V229, ?_, Nat.le_of_ble_eq_true rfl⟩
                intro c hc
                simp only [List.mem_cons, List.not_mem_nil, or_false] at hc
                rcases hc with rfl | rfl | rfl | rfl | rfl | rfl | rfl | rfl | rfl | rfl | rfl
                · decide
                · decide
                · decide
                · decide
                · decide
                · decide
                · decide
                · decide
                · decide
                · decide
                · exact hy
def Q_vals (Z : State) (A : Addr) (kA : ClassId) (P0 : Addr) (P1 : Addr) (h0 : Heap) (n0 : Nat) (v : Option Value) (h : Heap) (L : List Loc) : Prop := ∃ x : Addr, v = some (.ref x) ∧ Fr n0 L ∧ Keep h0 h [] ∧ h0.size ≤ x ∧ Arv Z h x kA (.object "com/example/vestline/vestline/TerminationReason") (2 : Int32) [(.ref P0), (.ref P1)] .null
theorem ef_vals (m : MethodId)   : entryFrame m #[] 0 = mkF m 0 #[] [] := by first | (simp [entryFrame, mkF, argsToLocals, Value.category]; done) | rfl
set_option maxRecDepth 65536 in
set_option maxHeartbeats 40000000 in
theorem c_vals (l : Launch) (Z : State) (a0 : Array Value) (hw : ∀ d ∈ tables_1, d.before a0 Z = true) (ws : List Jvm.Cond) (A : Addr) (kA : ClassId) (P0 : Addr) (P1 : Addr) (h0 : Heap) (n0 : Nat) (Z0 : n0 ≤ h0.size) (SV : Sta Z Z.heap "com/example/vestline/vestline/TerminationReason" "$VALUES" "[Lcom/example/vestline/vestline/TerminationReason;" (.ref A)) (KV : Arv Z Z.heap A kA (.object "com/example/vestline/vestline/TerminationReason") (2 : Int32) [(.ref P0), (.ref P1)] .null) (EV : Exa Z Z.heap A "[Lcom/example/vestline/vestline/TerminationReason;") (X00 : Old Z n0 h0) :
    MetFree l (⟨"com/example/vestline/vestline/TerminationReason", "values", "()[Lcom/example/vestline/vestline/TerminationReason;"⟩ : MethodName) (head1 (Jvm.Cond.code (⟨"com/example/vestline/vestline/TerminationReason", "values", "()[Lcom/example/vestline/vestline/TerminationReason;"⟩ : MethodName) prog_17_method_1_code 0 (some (.array (.object "com/example/vestline/vestline/TerminationReason"))) :: ws) ({ frames := 1, cells := 1, slots := 2, locals := 14 } : Room)) (fun a U => a = #[] ∧ Z.Warmed39 U.vm ∧ U.heap = h0) (fun _ _ _ _ _ => True) (fun _ U o U' => ∃ v L, o = .returned v ∧ (Q_vals Z A kA P0 P1 h0 n0) v U'.heap L ∧ FrameEnd U o U' L ({ frames := 1, cells := 1, slots := 2, locals := 14 } : Room).cells ({ frames := 1, cells := 1, slots := 2, locals := 14 } : Room).slots) := by
  refine MetFree.of_bodySF (plainFor_of_name pn_232) hisR ?_
  intro p e s m args below meth c s₁ Bd hml0 hP hK
  obtain ⟨rfl, hZ, hh⟩ := hP
  have hx := Bd.exec
  have hby := Bd.bytes
  have hml : c.maxLocals = 0 := hml0
  have hown : s.vm.findClass "com/example/vestline/vestline/TerminationReason" = some m.cls := findClass_of_methodNamed Bd.named
  have hnm := (name_of_methodNamed Bd.named Bd.method).1
  have X0 : Stand p l e ({ frames := 1, cells := 1, slots := 2, locals := 14 } : Room) s m #[] below meth c s₁ [] 0 0 := Stand.of_body Bd
  have e0 : s₁.heap = h0 := by rw [← hh, Bd.state]; rfl
  have N0 := Fr.nil n0
  refine ownOut (P := (Q_vals Z A kA P0 P1 h0 n0)) ?_
  refine ownBy (A := s₁.setTop (mkF m 0 #[] [])) (fun t k => castTop (ef_vals m ) k) ?_
  obtain ⟨T233, X233, e233, st233⟩ := getS2 X0 hx hZ hown (host := "") (Or.inl (hw _ (List.mem_of_getElem? (i := 52) rfl))) Via.refl e0 (SV.ext X00.2) (g := (mkF m 0 #[] [])) rfl (hb hby d_prog_17_method_1_0)
  refine ownBy st233 ?_
  show ownG p.tables e below _ (T233.setTop (mkF m 3 #[] [(.ref A)]))
  have f235 := KV.ext X00.2
  have f236 := EV.ext X00.2
  obtain ⟨T234, h234, X234, e234, E234, A234, Ex234, st234⟩ := cloneH X233 hx hZ hown (hw _ (List.mem_of_getElem? (i := 54) rfl)) (hw _ (List.mem_of_getElem? (i := 55) rfl)) (hw _ (List.mem_of_getElem? (i := 59) rfl)) (hw _ (List.mem_of_getElem? (i := 57) rfl)) (hw _ (List.mem_of_getElem? (i := 58) rfl)) (hw _ (List.mem_of_getElem? (i := 60) rfl)) e233 (Arv.arh f235) f236 (g := (mkF m 3 #[] [(.ref A)])) rfl (by rw [hml]; rfl) rfl (hb hby d_prog_17_method_1_3) (by decide) (W := 0) (by show 2 * 0 + _ ≤ _; exact Nat.le_of_eq rfl) (by decide) (cap := 2) (by decide) (by decide) (by decide)
  obtain ⟨b234, g234⟩ : ∃ z, z = h0.size := ⟨_, rfl⟩
  rw [← g234] at A234 Ex234 st234
  have g237 : n0 ≤ b234 := Nat.le_trans Z0 (Nat.le_of_eq g234.symm)
  have z238 : h0.size ≤ b234 := Nat.le_trans (Keep.refl h0 []).1 (Nat.le_of_eq g234.symm)
  have V234 : Arv Z h234 b234 kA (.object "com/example/vestline/vestline/TerminationReason") (2 : Int32) [(.ref P0), (.ref P1)] .null := A234
  refine ownBy st234 ?_
  show ownG p.tables e below _ (T234.setTop (mkF m 6 #[] [(.ref b234)]))
  obtain ⟨T239, X239, e239, st239⟩ := castY X234 hx hZ hown (hw _ (List.mem_of_getElem? (i := 64) rfl)) e234 (Ins.self Ex234) (g := (mkF m 6 #[] [(.ref b234)])) rfl rfl (hb hby d_prog_17_method_1_6)
  refine ownBy st239 ?_
  show ownG p.tables e below _ (T239.setTop (mkF m 9 #[] [(.ref b234)]))
  have f240 := ((Keep.refl h0 []).ext E234)
  refine ownRet X239 Bd.notSynchronized (v := some (.ref b234)) (fun h => by rw [Bd.returns] at h; cases h) ?_ (Nat.le_of_ble_eq_true rfl) (Nat.le_of_ble_eq_true rfl) (fun fs hr => retOut X239 hx Bd.returns rfl (Or.inr (Or.inr (Or.inr (Or.inr ⟨rfl, rfl, rfl⟩)))) (hb hby d_prog_17_method_1_9) hr)
  show (Q_vals Z A kA P0 P1 h0 n0) (some (.ref b234)) T239.heap _
  rw [e239]
  exact ⟨b234, rfl, N0, f240, z238, V234⟩
def Q_oemp (Z : State) (EM : Addr) (h0 : Heap) (n0 : Nat) (v : Option Value) (h : Heap) (L : List Loc) : Prop := v = some (.ref EM) ∧ Fr n0 L ∧ h = h0
theorem ef_oemp (m : MethodId)   : entryFrame m #[] 1 = mkF m 0 #[.unset] [] := by first | (simp [entryFrame, mkF, argsToLocals, Value.category]; done) | rfl
set_option maxRecDepth 65536 in
set_option maxHeartbeats 40000000 in
theorem c_oemp (l : Launch) (Z : State) (a0 : Array Value) (hw : ∀ d ∈ tables_1, d.before a0 Z = true) (ws : List Jvm.Cond) (EM : Addr) (h0 : Heap) (n0 : Nat) (Z0 : n0 ≤ h0.size) (SE : Sta Z Z.heap "java/util/Optional" "EMPTY" "Ljava/util/Optional;" (.ref EM)) (X00 : Old Z n0 h0) :
    MetFree l (⟨"java/util/Optional", "empty", "()Ljava/util/Optional;"⟩ : MethodName) (head1 (Jvm.Cond.code (⟨"java/util/Optional", "empty", "()Ljava/util/Optional;"⟩ : MethodName) jdk_32_method_1_code 1 (some (.object "java/util/Optional")) :: ws) ({ frames := 0, cells := 0, slots := 0, locals := 0 } : Room)) (fun a U => a = #[] ∧ Z.Warmed39 U.vm ∧ U.heap = h0) (fun _ _ _ _ _ => True) (fun _ U o U' => ∃ v L, o = .returned v ∧ (Q_oemp Z EM h0 n0) v U'.heap L ∧ FrameEnd U o U' L ({ frames := 0, cells := 0, slots := 0, locals := 0 } : Room).cells ({ frames := 0, cells := 0, slots := 0, locals := 0 } : Room).slots) := by
  refine MetFree.of_bodySF (plainFor_of_name pn_241) hisR ?_
  intro p e s m args below meth c s₁ Bd hml0 hP hK
  obtain ⟨rfl, hZ, hh⟩ := hP
  have hx := Bd.exec
  have hby := Bd.bytes
  have hml : c.maxLocals = 1 := hml0
  have hown : s.vm.findClass "java/util/Optional" = some m.cls := findClass_of_methodNamed Bd.named
  have hnm := (name_of_methodNamed Bd.named Bd.method).1
  have X0 : Stand p l e ({ frames := 0, cells := 0, slots := 0, locals := 0 } : Room) s m #[] below meth c s₁ [] 0 0 := Stand.of_body Bd
  have e0 : s₁.heap = h0 := by rw [← hh, Bd.state]; rfl
  have N0 := Fr.nil n0
  refine ownOut (P := (Q_oemp Z EM h0 n0)) ?_
  refine ownBy (A := s₁.setTop (mkF m 0 #[.unset] [])) (fun t k => castTop (ef_oemp m ) k) ?_
  obtain ⟨T242, X242, e242, st242⟩ := getS2 X0 hx hZ hown (host := "") (Or.inl (hw _ (List.mem_of_getElem? (i := 48) rfl))) Via.refl e0 (SE.ext X00.2) (g := (mkF m 0 #[.unset] [])) rfl (hb hby d_jdk_32_method_1_0)
  refine ownBy st242 ?_
  show ownG p.tables e below _ (T242.setTop (mkF m 3 #[.unset] [(.ref EM)]))
  refine ownBy (A := T242.setTop (mkF m 5 #[.val (.ref EM)] [(.ref EM)])) (fun t kt => ?_) ?_
  · show Steps p.tables e below (T242.setTop (mkF m 3 #[.unset] [(.ref EM)])) t
    refine XS.astoreN X242.here hx rfl (hb hby d_jdk_32_method_1_3) rfl rfl (l' := #[.val (.ref EM)]) rfl ?_
    show Steps p.tables e below (T242.setTop (mkF m 4 #[.val (.ref EM)] [])) t
    refine XS.aloadN X242.here hx rfl (hb hby d_jdk_32_method_1_4) rfl rfl ?_
    exact kt
  refine ownRet X242 Bd.notSynchronized (v := some (.ref EM)) (fun h => by rw [Bd.returns] at h; cases h) ?_ (Nat.le_of_ble_eq_true rfl) (Nat.le_of_ble_eq_true rfl) (fun fs hr => retOut X242 hx Bd.returns rfl (Or.inr (Or.inr (Or.inr (Or.inr ⟨rfl, rfl, rfl⟩)))) (hb hby d_jdk_32_method_1_5) hr)
  show (Q_oemp Z EM h0 n0) (some (.ref EM)) T242.heap _
  rw [e242]
  exact ⟨rfl, N0, rfl⟩
def Q_rnn (Z : State) (a1 : Addr) (h0 : Heap) (n0 : Nat) (v : Option Value) (h : Heap) (L : List Loc) : Prop := v = some (.ref a1) ∧ Fr n0 L ∧ h = h0
theorem ef_rnn (m : MethodId) (x0 : Addr)  : entryFrame m #[(.ref x0)] 1 = mkF m 0 #[.val (.ref x0)] [] := by first | (simp [entryFrame, mkF, argsToLocals, Value.category]; done) | rfl
set_option maxRecDepth 65536 in
set_option maxHeartbeats 40000000 in
theorem c_rnn (l : Launch) (Z : State) (a0 : Array Value) (hw : ∀ d ∈ tables_1, d.before a0 Z = true) (ws : List Jvm.Cond) (a1 : Addr) (h0 : Heap) (n0 : Nat) (Z0 : n0 ≤ h0.size) :
    MetFree l (⟨"java/util/Objects", "requireNonNull", "(Ljava/lang/Object;)Ljava/lang/Object;"⟩ : MethodName) (head1 (Jvm.Cond.code (⟨"java/util/Objects", "requireNonNull", "(Ljava/lang/Object;)Ljava/lang/Object;"⟩ : MethodName) jdk_31_method_10_code 1 (some (.object "java/lang/Object")) :: ws) ({ frames := 0, cells := 0, slots := 0, locals := 0 } : Room)) (fun a U => a = #[(.ref a1)] ∧ Z.Warmed39 U.vm ∧ U.heap = h0) (fun _ _ _ _ _ => True) (fun _ U o U' => ∃ v L, o = .returned v ∧ (Q_rnn Z a1 h0 n0) v U'.heap L ∧ FrameEnd U o U' L ({ frames := 0, cells := 0, slots := 0, locals := 0 } : Room).cells ({ frames := 0, cells := 0, slots := 0, locals := 0 } : Room).slots) := by
  refine MetFree.of_bodySF (plainFor_of_name pn_243) hisR ?_
  intro p e s m args below meth c s₁ Bd hml0 hP hK
  obtain ⟨rfl, hZ, hh⟩ := hP
  have hx := Bd.exec
  have hby := Bd.bytes
  have hml : c.maxLocals = 1 := hml0
  have hown : s.vm.findClass "java/util/Objects" = some m.cls := findClass_of_methodNamed Bd.named
  have hnm := (name_of_methodNamed Bd.named Bd.method).1
  have X0 : Stand p l e ({ frames := 0, cells := 0, slots := 0, locals := 0 } : Room) s m #[(.ref a1)] below meth c s₁ [] 0 0 := Stand.of_body Bd
  have e0 : s₁.heap = h0 := by rw [← hh, Bd.state]; rfl
  have N0 := Fr.nil n0
  refine ownOut (P := (Q_rnn Z a1 h0 n0)) ?_
  refine ownBy (A := s₁.setTop (mkF m 0 #[.val (.ref a1)] [])) (fun t k => castTop (ef_rnn m a1) k) ?_
  refine ownBy (A := s₁.setTop (mkF m 13 #[.val (.ref a1)] [(.ref a1)])) (fun t kt => ?_) ?_
  · show Steps p.tables e below (s₁.setTop (mkF m 0 #[.val (.ref a1)] [])) t
    refine XS.aloadN X0.here hx rfl (hb hby d_jdk_31_method_10_0) rfl rfl ?_
    show Steps p.tables e below (s₁.setTop (mkF m 1 #[.val (.ref a1)] [(.ref a1)])) t
    refine XS.ifnonnullYes X0.here hx rfl (pc0 := 1) (pc' := 12) rfl (hb hby d_jdk_31_method_10_1) rfl (by decide) (by decide) ?_
    show Steps p.tables e below (s₁.setTop (mkF m 12 #[.val (.ref a1)] [])) t
    refine XS.aloadN X0.here hx rfl (hb hby d_jdk_31_method_10_12) rfl rfl ?_
    exact kt
  refine ownRet X0 Bd.notSynchronized (v := some (.ref a1)) (fun h => by rw [Bd.returns] at h; cases h) ?_ (Nat.le_of_ble_eq_true rfl) (Nat.le_of_ble_eq_true rfl) (fun fs hr => retOut X0 hx Bd.returns rfl (Or.inr (Or.inr (Or.inr (Or.inr ⟨rfl, rfl, rfl⟩)))) (hb hby d_jdk_31_method_10_13) hr)
  show (Q_rnn Z a1 h0 n0) (some (.ref a1)) s₁.heap _
  rw [e0]
  exact ⟨rfl, N0, rfl⟩
def Q_oin (Z : State) (a1 : Addr) (a2 : Addr) (d0 : Value) (h0 : Heap) (n0 : Nat) (v : Option Value) (h : Heap) (L : List Loc) : Prop := v = none ∧ Fr n0 L ∧ Keep h0 h [a1] ∧ Fld Z h a1 "java/util/Optional" "value" "Ljava/lang/Object;" (.ref a2)
theorem ef_oin (m : MethodId) (x0 : Addr) (x1 : Addr)  : entryFrame m #[(.ref x0), (.ref x1)] 2 = mkF m 0 #[.val (.ref x0), .val (.ref x1)] [] := by first | (simp [entryFrame, mkF, argsToLocals, Value.category]; done) | rfl
set_option maxRecDepth 65536 in
set_option maxHeartbeats 40000000 in
theorem c_oin (l : Launch) (Z : State) (a0 : Array Value) (hw : ∀ d ∈ tables_1, d.before a0 Z = true) (ws : List Jvm.Cond) (a1 : Addr) (a2 : Addr) (d0 : Value) (h0 : Heap) (n0 : Nat) (Z0 : n0 ≤ h0.size) (E1 : Exa Z h0 a1 "java/util/Optional") (F1 : Fld Z h0 a1 "java/util/Optional" "value" "Ljava/lang/Object;" d0) (g1 : n0 ≤ a1) :
    MetFree l (⟨"java/util/Optional", "<init>", "(Ljava/lang/Object;)V"⟩ : MethodName) (head1 (Jvm.Cond.code (⟨"java/util/Optional", "<init>", "(Ljava/lang/Object;)V"⟩ : MethodName) jdk_32_method_2_code 2 none :: ws) ({ frames := 1, cells := 0, slots := 0, locals := 12 } : Room)) (fun a U => a = #[(.ref a1), (.ref a2)] ∧ Z.Warmed39 U.vm ∧ U.heap = h0) (fun _ _ _ _ _ => True) (fun _ U o U' => ∃ v L, o = .returned v ∧ (Q_oin Z a1 a2 d0 h0 n0) v U'.heap L ∧ FrameEnd U o U' L ({ frames := 1, cells := 0, slots := 0, locals := 12 } : Room).cells ({ frames := 1, cells := 0, slots := 0, locals := 12 } : Room).slots) := by
  refine MetFree.of_bodySF (plainFor_of_name pn_241) hisR ?_
  intro p e s m args below meth c s₁ Bd hml0 hP hK
  obtain ⟨rfl, hZ, hh⟩ := hP
  have hx := Bd.exec
  have hby := Bd.bytes
  have hml : c.maxLocals = 2 := hml0
  have hown : s.vm.findClass "java/util/Optional" = some m.cls := findClass_of_methodNamed Bd.named
  have hnm := (name_of_methodNamed Bd.named Bd.method).1
  have X0 : Stand p l e ({ frames := 1, cells := 0, slots := 0, locals := 12 } : Room) s m #[(.ref a1), (.ref a2)] below meth c s₁ [] 0 0 := Stand.of_body Bd
  have e0 : s₁.heap = h0 := by rw [← hh, Bd.state]; rfl
  have N0 := Fr.nil n0
  refine ownOut (P := (Q_oin Z a1 a2 d0 h0 n0)) ?_
  refine ownBy (A := s₁.setTop (mkF m 0 #[.val (.ref a1), .val (.ref a2)] [])) (fun t k => castTop (ef_oin m a1 a2) k) ?_
  refine ownBy (A := s₁.setTop (mkF m 1 #[.val (.ref a1), .val (.ref a2)] [(.ref a1)])) (fun t kt => ?_) ?_
  · show Steps p.tables e below (s₁.setTop (mkF m 0 #[.val (.ref a1), .val (.ref a2)] [])) t
    refine XS.aloadN X0.here hx rfl (hb hby d_jdk_32_method_2_0) rfl rfl ?_
    exact kt
  obtain ⟨T244, X244, e244, st244⟩ := initO X0 hx hZ hown (hw _ (List.mem_of_getElem? (i := 100) rfl)) (hw _ (List.mem_of_getElem? (i := 17) rfl)) (hw _ (List.mem_of_getElem? (i := 18) rfl)) e0 (g := (mkF m 1 #[.val (.ref a1), .val (.ref a2)] [(.ref a1)])) rfl (by rw [hml]; rfl) rfl (hb hby d_jdk_32_method_2_1) (by decide) (W := 0) (by show 2 * 0 + _ ≤ _; exact Nat.le_of_eq rfl) (by decide)
  refine ownBy st244 ?_
  show ownG p.tables e below _ (T244.setTop (mkF m 4 #[.val (.ref a1), .val (.ref a2)] []))
  refine ownBy (A := T244.setTop (mkF m 6 #[.val (.ref a1), .val (.ref a2)] [(.ref a2), (.ref a1)])) (fun t kt => ?_) ?_
  · show Steps p.tables e below (T244.setTop (mkF m 4 #[.val (.ref a1), .val (.ref a2)] [])) t
    refine XS.aloadN X244.here hx rfl (hb hby d_jdk_32_method_2_4) rfl rfl ?_
    show Steps p.tables e below (T244.setTop (mkF m 5 #[.val (.ref a1), .val (.ref a2)] [(.ref a1)])) t
    refine XS.aloadN X244.here hx rfl (hb hby d_jdk_32_method_2_5) rfl rfl ?_
    exact kt
  obtain ⟨T245, h245, X245, e245, W245, st245⟩ := putF X244 hx hZ hown (host := "") (Or.inl (hw _ (List.mem_of_getElem? (i := 74) rfl))) Via.refl e244 F1 E1 (Or.inr ⟨(hw _ (List.mem_of_getElem? (i := 75) rfl)), rfl, hnm⟩) (hw _ (List.mem_of_getElem? (i := 91) rfl)) (ty := (.object "java/lang/Object")) (by decide) rfl rfl (g := (mkF m 6 #[.val (.ref a1), .val (.ref a2)] [(.ref a2), (.ref a1)])) rfl rfl (hb hby d_jdk_32_method_2_6)
  have F246 := F1.same W245
  have N247 := Fr.snoc X245 N0 g1
  refine ownBy st245 ?_
  show ownG p.tables e below _ (T245.setTop (mkF m 9 #[.val (.ref a1), .val (.ref a2)] []))
  have f248 := ((Keep.refl h0 [a1]).wr W245 (Or.inl (List.mem_of_getElem? (i := 0) rfl)))
  refine ownRet X245 Bd.notSynchronized (v := none) (fun _ => rfl) ?_ (Nat.le_of_ble_eq_true rfl) (Nat.le_of_ble_eq_true rfl) (fun fs hr => X245.returnOut hx Bd.returns (hb hby d_jdk_32_method_2_9) hr)
  show (Q_oin Z a1 a2 d0 h0 n0) (none) T245.heap _
  rw [e245]
  exact ⟨rfl, N247, f248, F246⟩
def Q_oof (Z : State) (a1 : Addr) (h0 : Heap) (n0 : Nat) (v : Option Value) (h : Heap) (L : List Loc) : Prop := ∃ x : Addr, v = some (.ref x) ∧ Fr n0 L ∧ Keep h0 h [] ∧ h0.size ≤ x ∧ Exa Z h x "java/util/Optional" ∧ Fld Z h x "java/util/Optional" "value" "Ljava/lang/Object;" (.ref a1)
theorem ef_oof (m : MethodId) (x0 : Addr)  : entryFrame m #[(.ref x0)] 1 = mkF m 0 #[.val (.ref x0)] [] := by first | (simp [entryFrame, mkF, argsToLocals, Value.category]; done) | rfl
set_option maxRecDepth 65536 in
set_option maxHeartbeats 40000000 in
theorem c_oof (l : Launch) (Z : State) (a0 : Array Value) (hw : ∀ d ∈ tables_1, d.before a0 Z = true) (ws : List Jvm.Cond) (a1 : Addr) (h0 : Heap) (n0 : Nat) (Z0 : n0 ≤ h0.size) :
    MetFree l (⟨"java/util/Optional", "of", "(Ljava/lang/Object;)Ljava/util/Optional;"⟩ : MethodName) (head1 (Jvm.Cond.code (⟨"java/util/Optional", "of", "(Ljava/lang/Object;)Ljava/util/Optional;"⟩ : MethodName) jdk_32_method_3_code 1 (some (.object "java/util/Optional")) :: ws) ({ frames := 2, cells := 1, slots := 1, locals := 27 } : Room)) (fun a U => a = #[(.ref a1)] ∧ Z.Warmed39 U.vm ∧ U.heap = h0) (fun _ _ _ _ _ => True) (fun _ U o U' => ∃ v L, o = .returned v ∧ (Q_oof Z a1 h0 n0) v U'.heap L ∧ FrameEnd U o U' L ({ frames := 2, cells := 1, slots := 1, locals := 27 } : Room).cells ({ frames := 2, cells := 1, slots := 1, locals := 27 } : Room).slots) := by
  refine MetFree.of_bodySF (plainFor_of_name pn_241) hisR ?_
  intro p e s m args below meth c s₁ Bd hml0 hP hK
  obtain ⟨rfl, hZ, hh⟩ := hP
  have hx := Bd.exec
  have hby := Bd.bytes
  have hml : c.maxLocals = 1 := hml0
  have hown : s.vm.findClass "java/util/Optional" = some m.cls := findClass_of_methodNamed Bd.named
  have hnm := (name_of_methodNamed Bd.named Bd.method).1
  have X0 : Stand p l e ({ frames := 2, cells := 1, slots := 1, locals := 27 } : Room) s m #[(.ref a1)] below meth c s₁ [] 0 0 := Stand.of_body Bd
  have e0 : s₁.heap = h0 := by rw [← hh, Bd.state]; rfl
  have N0 := Fr.nil n0
  refine ownOut (P := (Q_oof Z a1 h0 n0)) ?_
  refine ownBy (A := s₁.setTop (mkF m 0 #[.val (.ref a1)] [])) (fun t k => castTop (ef_oof m a1) k) ?_
  obtain ⟨T249, h249, X249, e249, E249, A249, D249, -, st249⟩ := newO X0 hx hZ hown (hw _ (List.mem_of_getElem? (i := 90) rfl)) (hw _ (List.mem_of_getElem? (i := 91) rfl)) (hw _ (List.mem_of_getElem? (i := 46) rfl)) e0 (g := (mkF m 0 #[.val (.ref a1)] [])) rfl (hb hby d_jdk_32_method_3_0) (by decide) (by decide)
  obtain ⟨b249, g249⟩ : ∃ z, z = h0.size := ⟨_, rfl⟩
  rw [← g249] at A249 D249 st249
  have g250 : n0 ≤ b249 := Nat.le_trans Z0 (Nat.le_of_eq g249.symm)
  have z251 : h0.size ≤ b249 := Nat.le_trans (Keep.refl h0 []).1 (Nat.le_of_eq g249.symm)
  have F252 : Fld Z h249 b249 "java/util/Optional" "value" "Ljava/lang/Object;" .null := D249 (Or.inr (hw _ (List.mem_of_getElem? (i := 75) rfl))) (ty := (.object "java/lang/Object")) (by decide)
  refine ownBy st249 ?_
  show ownG p.tables e below _ (T249.setTop (mkF m 3 #[.val (.ref a1)] [(.ref b249)]))
  refine ownBy (A := T249.setTop (mkF m 5 #[.val (.ref a1)] [(.ref a1), (.ref b249), (.ref b249)])) (fun t kt => ?_) ?_
  · show Steps p.tables e below (T249.setTop (mkF m 3 #[.val (.ref a1)] [(.ref b249)])) t
    refine XS.dup X249.here hx rfl (hb hby d_jdk_32_method_3_3) rfl rfl ?_
    show Steps p.tables e below (T249.setTop (mkF m 4 #[.val (.ref a1)] [(.ref b249), (.ref b249)])) t
    refine XS.aloadN X249.here hx rfl (hb hby d_jdk_32_method_3_4) rfl rfl ?_
    exact kt
  have f253 := (Nat.le_trans Z0 E249.1)
  obtain ⟨vv254, _, ⟨T254, L254, k254, n254⟩, -, X254, ⟨Lc254, hQ254, l254, y254, z254⟩, st254⟩ := Jvm.LawKit.callS X249 hx (y := (⟨"java/util/Objects", "requireNonNull", "(Ljava/lang/Object;)Ljava/lang/Object;"⟩ : MethodName)) hown (mvT hZ (hw _ (List.mem_of_getElem? (i := 92) rfl))) (mvT hZ (hw _ (List.mem_of_getElem? (i := 93) rfl))) (mvT hZ (hw _ (List.mem_of_getElem? (i := 94) rfl))) (mvT hZ (hw _ (List.mem_of_getElem? (i := 95) rfl))) (by decide) (backOf (W := 2) (c_rnn l Z a0 hw [] a1 h249 n0 f253 ) hZ (hw _ (List.mem_of_getElem? (i := 95) rfl)) (hw _ (List.mem_of_getElem? (i := 94) rfl)) (by decide) (by decide)) (g := (mkF m 5 #[.val (.ref a1)] [(.ref a1), (.ref b249), (.ref b249)])) rfl (by rw [hml]; rfl) (argsL := [(.ref a1)]) (rest := [(.ref b249), (.ref b249)]) (lenOf pd_255 rfl) rfl (by show 2 * 0 + _ ≤ _; exact Nat.le_of_eq rfl) (hb hby d_jdk_32_method_3_5) (fun _ _ => ⟨rfl, e249, (by decide : 1 + 0 ≤ _), (by decide : 1 + 0 ≤ _)⟩)
  dsimp only [Pt.U, Pt.locs, Pt.cells, Pt.slots] at X254 l254 y254 z254 st254 hQ254
  subst l254 y254 z254
  obtain ⟨rfl, Nq254, Eq254⟩ := hQ254
  have N256 := Fr.app N0 Nq254
  refine ownBy st254 ?_
  show ownG p.tables e below _ (T254.setTop (mkF m 8 #[.val (.ref a1)] [(.ref a1), (.ref b249), (.ref b249)]))
  obtain ⟨vv257, _, ⟨T257, L257, k257, n257⟩, -, X257, ⟨Lc257, hQ257, l257, y257, z257⟩, st257⟩ := X254.specialBack hx (y := (⟨"java/util/Optional", "<init>", "(Ljava/lang/Object;)V"⟩ : MethodName)) rfl hown (mvT hZ (hw _ (List.mem_of_getElem? (i := 96) rfl))) (mvT hZ (hw _ (List.mem_of_getElem? (i := 97) rfl))) (mvT hZ (hw _ (List.mem_of_getElem? (i := 99) rfl))) (by decide) (backOf (W := 1) (c_oin l Z a0 hw [] b249 a1 _ h249 n0 f253 A249 F252 g250) hZ (hw _ (List.mem_of_getElem? (i := 99) rfl)) (hw _ (List.mem_of_getElem? (i := 46) rfl)) (by decide) (by decide)) (g := (mkF m 8 #[.val (.ref a1)] [(.ref a1), (.ref b249), (.ref b249)])) rfl (by rw [hml]; rfl) (Steps.refl _) (a := b249) (argsL := [(.ref a1)]) (rest := [(.ref b249)]) (lenOf pd_258 rfl) rfl (by show 2 * 0 + _ ≤ _; exact Nat.le_of_eq rfl) (hb hby d_jdk_32_method_3_8) (fun _ _ => ⟨rfl, Eq254, (by decide : 1 + 0 ≤ _), (by decide : 1 + 0 ≤ _)⟩)
  dsimp only [Pt.U, Pt.locs, Pt.cells, Pt.slots] at X257 l257 y257 z257 st257 hQ257
  subst l257 y257 z257
  obtain ⟨rfl, Nq257, Kq257, Fa257⟩ := hQ257
  have N259 := Fr.app N256 Nq257
  refine ownSt st257 ?_
  show ownG p.tables e below _ (T257.setTop (mkF m 11 #[.val (.ref a1)] [(.ref b249)]))
  have f260 := (((Keep.refl h0 []).ext E249).trans Kq257 (allS (Or.inr z251) all0))
  have f261 := (A249.keep Kq257)
  refine ownRet X257 Bd.notSynchronized (v := some (.ref b249)) (fun h => by rw [Bd.returns] at h; cases h) ?_ (Nat.le_of_ble_eq_true rfl) (Nat.le_of_ble_eq_true rfl) (fun fs hr => retOut X257 hx Bd.returns rfl (Or.inr (Or.inr (Or.inr (Or.inr ⟨rfl, rfl, rfl⟩)))) (hb hby d_jdk_32_method_3_11) hr)
  show (Q_oof Z a1 h0 n0) (some (.ref b249)) T257.heap _
  exact ⟨b249, rfl, N259, f260, z251, f261, Fa257⟩
def Q_oren (Z : State) (a1 : Addr) (h0 : Heap) (n0 : Nat) (v : Option Value) (h : Heap) (L : List Loc) : Prop := v = some .null ∧ Fr n0 L ∧ h = h0
theorem ef_oren (m : MethodId) (x0 : Addr)  : entryFrame m #[(.ref x0), .null] 2 = mkF m 0 #[.val (.ref x0), .val .null] [] := by first | (simp [entryFrame, mkF, argsToLocals, Value.category]; done) | rfl
set_option maxRecDepth 65536 in
set_option maxHeartbeats 40000000 in
theorem c_oren (l : Launch) (Z : State) (a0 : Array Value) (hw : ∀ d ∈ tables_1, d.before a0 Z = true) (ws : List Jvm.Cond) (a1 : Addr) (h0 : Heap) (n0 : Nat) (Z0 : n0 ≤ h0.size) (F1 : Fld Z h0 a1 "java/util/Optional" "value" "Ljava/lang/Object;" .null) :
    MetFree l (⟨"java/util/Optional", "orElse", "(Ljava/lang/Object;)Ljava/lang/Object;"⟩ : MethodName) (head1 (Jvm.Cond.code (⟨"java/util/Optional", "orElse", "(Ljava/lang/Object;)Ljava/lang/Object;"⟩ : MethodName) jdk_32_method_15_code 2 (some (.object "java/lang/Object")) :: ws) ({ frames := 0, cells := 0, slots := 0, locals := 0 } : Room)) (fun a U => a = #[(.ref a1), .null] ∧ Z.Warmed39 U.vm ∧ U.heap = h0) (fun _ _ _ _ _ => True) (fun _ U o U' => ∃ v L, o = .returned v ∧ (Q_oren Z a1 h0 n0) v U'.heap L ∧ FrameEnd U o U' L ({ frames := 0, cells := 0, slots := 0, locals := 0 } : Room).cells ({ frames := 0, cells := 0, slots := 0, locals := 0 } : Room).slots) := by
  refine MetFree.of_bodySF (plainFor_of_name pn_241) hisR ?_
  intro p e s m args below meth c s₁ Bd hml0 hP hK
  obtain ⟨rfl, hZ, hh⟩ := hP
  have hx := Bd.exec
  have hby := Bd.bytes
  have hml : c.maxLocals = 2 := hml0
  have hown : s.vm.findClass "java/util/Optional" = some m.cls := findClass_of_methodNamed Bd.named
  have hnm := (name_of_methodNamed Bd.named Bd.method).1
  have X0 : Stand p l e ({ frames := 0, cells := 0, slots := 0, locals := 0 } : Room) s m #[(.ref a1), .null] below meth c s₁ [] 0 0 := Stand.of_body Bd
  have e0 : s₁.heap = h0 := by rw [← hh, Bd.state]; rfl
  have N0 := Fr.nil n0
  refine ownOut (P := (Q_oren Z a1 h0 n0)) ?_
  refine ownBy (A := s₁.setTop (mkF m 0 #[.val (.ref a1), .val .null] [])) (fun t k => castTop (ef_oren m a1) k) ?_
  refine ownBy (A := s₁.setTop (mkF m 1 #[.val (.ref a1), .val .null] [(.ref a1)])) (fun t kt => ?_) ?_
  · show Steps p.tables e below (s₁.setTop (mkF m 0 #[.val (.ref a1), .val .null] [])) t
    refine XS.aloadN X0.here hx rfl (hb hby d_jdk_32_method_15_0) rfl rfl ?_
    exact kt
  obtain ⟨T262, X262, e262, st262⟩ := getF X0 hx hZ hown (host := "") (Or.inl (hw _ (List.mem_of_getElem? (i := 74) rfl))) Via.refl e0 F1 (g := (mkF m 1 #[.val (.ref a1), .val .null] [(.ref a1)])) rfl rfl (hb hby d_jdk_32_method_15_1)
  refine ownBy st262 ?_
  show ownG p.tables e below _ (T262.setTop (mkF m 4 #[.val (.ref a1), .val .null] [.null]))
  refine ownBy (A := T262.setTop (mkF m 15 #[.val (.ref a1), .val .null] [.null])) (fun t kt => ?_) ?_
  · show Steps p.tables e below (T262.setTop (mkF m 4 #[.val (.ref a1), .val .null] [.null])) t
    refine XS.ifnullYes X262.here hx rfl (pc0 := 4) (pc' := 14) rfl (hb hby d_jdk_32_method_15_4) rfl (by decide) (by decide) ?_
    show Steps p.tables e below (T262.setTop (mkF m 14 #[.val (.ref a1), .val .null] [])) t
    refine XS.aloadN X262.here hx rfl (hb hby d_jdk_32_method_15_14) rfl rfl ?_
    exact kt
  refine ownRet X262 Bd.notSynchronized (v := some .null) (fun h => by rw [Bd.returns] at h; cases h) ?_ (Nat.le_of_ble_eq_true rfl) (Nat.le_of_ble_eq_true rfl) (fun fs hr => retOut X262 hx Bd.returns rfl (Or.inr (Or.inr (Or.inr (Or.inr ⟨rfl, rfl, rfl⟩)))) (hb hby d_jdk_32_method_15_15) hr)
  show (Q_oren Z a1 h0 n0) (some .null) T262.heap _
  rw [e262]
  exact ⟨rfl, N0, rfl⟩
def Q_orer (Z : State) (a1 : Addr) (u1 : Addr) (h0 : Heap) (n0 : Nat) (v : Option Value) (h : Heap) (L : List Loc) : Prop := v = some (.ref u1) ∧ Fr n0 L ∧ h = h0
theorem ef_orer (m : MethodId) (x0 : Addr)  : entryFrame m #[(.ref x0), .null] 2 = mkF m 0 #[.val (.ref x0), .val .null] [] := by first | (simp [entryFrame, mkF, argsToLocals, Value.category]; done) | rfl
set_option maxRecDepth 65536 in
set_option maxHeartbeats 40000000 in
theorem c_orer (l : Launch) (Z : State) (a0 : Array Value) (hw : ∀ d ∈ tables_1, d.before a0 Z = true) (ws : List Jvm.Cond) (a1 : Addr) (u1 : Addr) (h0 : Heap) (n0 : Nat) (Z0 : n0 ≤ h0.size) (F1 : Fld Z h0 a1 "java/util/Optional" "value" "Ljava/lang/Object;" (.ref u1)) :
    MetFree l (⟨"java/util/Optional", "orElse", "(Ljava/lang/Object;)Ljava/lang/Object;"⟩ : MethodName) (head1 (Jvm.Cond.code (⟨"java/util/Optional", "orElse", "(Ljava/lang/Object;)Ljava/lang/Object;"⟩ : MethodName) jdk_32_method_15_code 2 (some (.object "java/lang/Object")) :: ws) ({ frames := 0, cells := 0, slots := 0, locals := 0 } : Room)) (fun a U => a = #[(.ref a1), .null] ∧ Z.Warmed39 U.vm ∧ U.heap = h0) (fun _ _ _ _ _ => True) (fun _ U o U' => ∃ v L, o = .returned v ∧ (Q_orer Z a1 u1 h0 n0) v U'.heap L ∧ FrameEnd U o U' L ({ frames := 0, cells := 0, slots := 0, locals := 0 } : Room).cells ({ frames := 0, cells := 0, slots := 0, locals := 0 } : Room).slots) := by
  refine MetFree.of_bodySF (plainFor_of_name pn_241) hisR ?_
  intro p e s m args below meth c s₁ Bd hml0 hP hK
  obtain ⟨rfl, hZ, hh⟩ := hP
  have hx := Bd.exec
  have hby := Bd.bytes
  have hml : c.maxLocals = 2 := hml0
  have hown : s.vm.findClass "java/util/Optional" = some m.cls := findClass_of_methodNamed Bd.named
  have hnm := (name_of_methodNamed Bd.named Bd.method).1
  have X0 : Stand p l e ({ frames := 0, cells := 0, slots := 0, locals := 0 } : Room) s m #[(.ref a1), .null] below meth c s₁ [] 0 0 := Stand.of_body Bd
  have e0 : s₁.heap = h0 := by rw [← hh, Bd.state]; rfl
  have N0 := Fr.nil n0
  refine ownOut (P := (Q_orer Z a1 u1 h0 n0)) ?_
  refine ownBy (A := s₁.setTop (mkF m 0 #[.val (.ref a1), .val .null] [])) (fun t k => castTop (ef_orer m a1) k) ?_
  refine ownBy (A := s₁.setTop (mkF m 1 #[.val (.ref a1), .val .null] [(.ref a1)])) (fun t kt => ?_) ?_
  · show Steps p.tables e below (s₁.setTop (mkF m 0 #[.val (.ref a1), .val .null] [])) t
    refine XS.aloadN X0.here hx rfl (hb hby d_jdk_32_method_15_0) rfl rfl ?_
    exact kt
  obtain ⟨T263, X263, e263, st263⟩ := getF X0 hx hZ hown (host := "") (Or.inl (hw _ (List.mem_of_getElem? (i := 74) rfl))) Via.refl e0 F1 (g := (mkF m 1 #[.val (.ref a1), .val .null] [(.ref a1)])) rfl rfl (hb hby d_jdk_32_method_15_1)
  refine ownBy st263 ?_
  show ownG p.tables e below _ (T263.setTop (mkF m 4 #[.val (.ref a1), .val .null] [(.ref u1)]))
  refine ownBy (A := T263.setTop (mkF m 8 #[.val (.ref a1), .val .null] [(.ref a1)])) (fun t kt => ?_) ?_
  · show Steps p.tables e below (T263.setTop (mkF m 4 #[.val (.ref a1), .val .null] [(.ref u1)])) t
    refine XS.ifnullNo X263.here hx rfl (hb hby d_jdk_32_method_15_4) rfl ?_
    show Steps p.tables e below (T263.setTop (mkF m 7 #[.val (.ref a1), .val .null] [])) t
    refine XS.aloadN X263.here hx rfl (hb hby d_jdk_32_method_15_7) rfl rfl ?_
    exact kt
  obtain ⟨T264, X264, e264, st264⟩ := getF X263 hx hZ hown (host := "") (Or.inl (hw _ (List.mem_of_getElem? (i := 74) rfl))) Via.refl e263 F1 (g := (mkF m 8 #[.val (.ref a1), .val .null] [(.ref a1)])) rfl rfl (hb hby d_jdk_32_method_15_8)
  refine ownBy st264 ?_
  show ownG p.tables e below _ (T264.setTop (mkF m 11 #[.val (.ref a1), .val .null] [(.ref u1)]))
  refine ownBy (A := T264.setTop (mkF m 15 #[.val (.ref a1), .val .null] [(.ref u1)])) (fun t kt => ?_) ?_
  · show Steps p.tables e below (T264.setTop (mkF m 11 #[.val (.ref a1), .val .null] [(.ref u1)])) t
    refine XS.goto X264.here hx rfl (pc0 := 11) (pc' := 15) rfl (hb hby d_jdk_32_method_15_11) (by decide) (by decide) ?_
    exact kt
  refine ownRet X264 Bd.notSynchronized (v := some (.ref u1)) (fun h => by rw [Bd.returns] at h; cases h) ?_ (Nat.le_of_ble_eq_true rfl) (Nat.le_of_ble_eq_true rfl) (fun fs hr => retOut X264 hx Bd.returns rfl (Or.inr (Or.inr (Or.inr (Or.inr ⟨rfl, rfl, rfl⟩)))) (hb hby d_jdk_32_method_15_15) hr)
  show (Q_orer Z a1 u1 h0 n0) (some (.ref u1)) T264.heap _
  rw [e264]
  exact ⟨rfl, N0, rfl⟩
def Q_named (Z : State) (a1 : Addr) (t1 : Addr) (kb9 : ClassId) (cs : List Int32) (A : Addr) (kA : ClassId) (EM : Addr) (P0 : Addr) (P1 : Addr) (W0 : Addr) (W1 : Addr) (B0 : Addr) (B1 : Addr) (kb0 : ClassId) (kb1 : ClassId) (G1 : Int32) (h0 : Heap) (n0 : Nat) (v : Option Value) (h : Heap) (L : List Loc) : Prop := ∃ (x : Addr) (u : Value), v = some (.ref x) ∧ Fr n0 L ∧ Keep h0 h [] ∧ Exa Z h x "java/util/Optional" ∧ Fld Z h x "java/util/Optional" "value" "Ljava/lang/Object;" u ∧ ((u = .ref P0 ∧ cs = ([(100 : Int32), (101 : Int32), (97 : Int32), (116 : Int32), (104 : Int32)] : List Int32)) ∨ (u = .ref P1 ∧ ¬ cs = ([(100 : Int32), (101 : Int32), (97 : Int32), (116 : Int32), (104 : Int32)] : List Int32) ∧ cs = ([(100 : Int32), (105 : Int32), (115 : Int32), (97 : Int32), (98 : Int32), (105 : Int32), (108 : Int32), (105 : Int32), (116 : Int32), (121 : Int32)] : List Int32)) ∨ (u = .null ∧ ¬ cs = ([(100 : Int32), (101 : Int32), (97 : Int32), (116 : Int32), (104 : Int32)] : List Int32) ∧ ¬ cs = ([(100 : Int32), (105 : Int32), (115 : Int32), (97 : Int32), (98 : Int32), (105 : Int32), (108 : Int32), (105 : Int32), (116 : Int32), (121 : Int32)] : List Int32)))
theorem ef_named (m : MethodId) (x0 : Addr)  : entryFrame m #[(.ref x0)] 6 = mkF m 0 #[.val (.ref x0), .unset, .unset, .unset, .unset, .unset] [] := by first | (simp [entryFrame, mkF, argsToLocals, Value.category]; done) | rfl
set_option maxRecDepth 65536 in
set_option maxHeartbeats 40000000 in
theorem c_named (l : Launch) (Z : State) (a0 : Array Value) (hw : ∀ d ∈ tables_1, d.before a0 Z = true) (ws : List Jvm.Cond) (a1 : Addr) (t1 : Addr) (kb9 : ClassId) (cs : List Int32) (A : Addr) (kA : ClassId) (EM : Addr) (P0 : Addr) (P1 : Addr) (W0 : Addr) (W1 : Addr) (B0 : Addr) (B1 : Addr) (kb0 : ClassId) (kb1 : ClassId) (G1 : Int32) (h0 : Heap) (n0 : Nat) (Z0 : n0 ≤ h0.size) (Es : Exa Z h0 a1 "java/lang/String") (Vs : Fld Z h0 a1 "java/lang/String" "value" "[B" (.ref t1)) (Cs : Fld Z h0 a1 "java/lang/String" "coder" "B" (.int (0 : Int32))) (Ks : Arv Z h0 t1 kb9 .byte (Int32.ofNat cs.length) ((cs.map (fun c => c.toInt8.toInt32)).map Value.int) (.int (0 : Int32))) (hp : ∀ c ∈ cs, ¬ c < 0 ∧ ¬ (255 : Int32) < c) (hl : cs.length ≤ 11) (SV : Sta Z Z.heap "com/example/vestline/vestline/TerminationReason" "$VALUES" "[Lcom/example/vestline/vestline/TerminationReason;" (.ref A)) (KV : Arv Z Z.heap A kA (.object "com/example/vestline/vestline/TerminationReason") (2 : Int32) [(.ref P0), (.ref P1)] .null) (EV : Exa Z Z.heap A "[Lcom/example/vestline/vestline/TerminationReason;") (SE : Sta Z Z.heap "java/util/Optional" "EMPTY" "Ljava/util/Optional;" (.ref EM)) (EE : Exa Z Z.heap EM "java/util/Optional") (FE : Fld Z Z.heap EM "java/util/Optional" "value" "Ljava/lang/Object;" .null) (SP0 : Sta Z Z.heap "com/example/vestline/vestline/TerminationReason" "DEATH" "Lcom/example/vestline/vestline/TerminationReason;" (.ref P0)) (EP0 : Exa Z Z.heap P0 "com/example/vestline/vestline/TerminationReason") (FP0 : Fld Z Z.heap P0 "com/example/vestline/vestline/TerminationReason" "word" "Ljava/lang/String;" (.ref W0)) (EW0 : Exa Z Z.heap W0 "java/lang/String") (FV0 : Fld Z Z.heap W0 "java/lang/String" "value" "[B" (.ref B0)) (FC0 : Fld Z Z.heap W0 "java/lang/String" "coder" "B" (.int (0 : Int32))) (KB0 : Arv Z Z.heap B0 kb0 .byte (5 : Int32) ((([(100 : Int32), (101 : Int32), (97 : Int32), (116 : Int32), (104 : Int32)] : List Int32).map (fun c => c.toInt8.toInt32)).map Value.int) (.int (0 : Int32))) (SP1 : Sta Z Z.heap "com/example/vestline/vestline/TerminationReason" "DISABILITY" "Lcom/example/vestline/vestline/TerminationReason;" (.ref P1)) (EP1 : Exa Z Z.heap P1 "com/example/vestline/vestline/TerminationReason") (FP1 : Fld Z Z.heap P1 "com/example/vestline/vestline/TerminationReason" "word" "Ljava/lang/String;" (.ref W1)) (EW1 : Exa Z Z.heap W1 "java/lang/String") (FV1 : Fld Z Z.heap W1 "java/lang/String" "value" "[B" (.ref B1)) (FC1 : Fld Z Z.heap W1 "java/lang/String" "coder" "B" (.int (0 : Int32))) (KB1 : Arv Z Z.heap B1 kb1 .byte (10 : Int32) ((([(100 : Int32), (105 : Int32), (115 : Int32), (97 : Int32), (98 : Int32), (105 : Int32), (108 : Int32), (105 : Int32), (116 : Int32), (121 : Int32)] : List Int32).map (fun c => c.toInt8.toInt32)).map Value.int) (.int (0 : Int32))) (O2 : Sta Z Z.heap "java/lang/String" "COMPACT_STRINGS" "Z" (.int G1)) (P5 : ¬ (G1 = (0 : Int32))) (X00 : Old Z n0 h0) :
    MetFree l (⟨"com/example/vestline/vestline/TerminationReason", "named", "(Ljava/lang/String;)Ljava/util/Optional;"⟩ : MethodName) (head1 (Jvm.Cond.code (⟨"com/example/vestline/vestline/TerminationReason", "named", "(Ljava/lang/String;)Ljava/util/Optional;"⟩ : MethodName) prog_17_method_5_code 6 (some (.object "java/util/Optional")) :: ws) ({ frames := 3, cells := 2, slots := 3, locals := 39 } : Room)) (fun a U => a = #[(.ref a1)] ∧ Z.Warmed39 U.vm ∧ U.heap = h0) (fun _ _ _ _ _ => True) (fun _ U o U' => ∃ v L, o = .returned v ∧ (Q_named Z a1 t1 kb9 cs A kA EM P0 P1 W0 W1 B0 B1 kb0 kb1 G1 h0 n0) v U'.heap L ∧ FrameEnd U o U' L ({ frames := 3, cells := 2, slots := 3, locals := 39 } : Room).cells ({ frames := 3, cells := 2, slots := 3, locals := 39 } : Room).slots) := by
  refine MetFree.of_bodySF (plainFor_of_name pn_232) hisR ?_
  intro p e s m args below meth c s₁ Bd hml0 hP hK
  obtain ⟨rfl, hZ, hh⟩ := hP
  have hx := Bd.exec
  have hby := Bd.bytes
  have hml : c.maxLocals = 6 := hml0
  have hown : s.vm.findClass "com/example/vestline/vestline/TerminationReason" = some m.cls := findClass_of_methodNamed Bd.named
  have hnm := (name_of_methodNamed Bd.named Bd.method).1
  have X0 : Stand p l e ({ frames := 3, cells := 2, slots := 3, locals := 39 } : Room) s m #[(.ref a1)] below meth c s₁ [] 0 0 := Stand.of_body Bd
  have e0 : s₁.heap = h0 := by rw [← hh, Bd.state]; rfl
  have N0 := Fr.nil n0
  refine ownOut (P := (Q_named Z a1 t1 kb9 cs A kA EM P0 P1 W0 W1 B0 B1 kb0 kb1 G1 h0 n0)) ?_
  refine ownBy (A := s₁.setTop (mkF m 0 #[.val (.ref a1), .unset, .unset, .unset, .unset, .unset] [])) (fun t k => castTop (ef_named m a1) k) ?_
  have heq : ∀ d ∈ StrChars.Road.wordsEq, d.before a0 Z = true := fun d hd => hw d ((by decide +kernel : ∀ d ∈ StrChars.Road.wordsEq, d ∈ tables_1) d hd)
  have hpw0 : ∀ c ∈ ([(100 : Int32), (101 : Int32), (97 : Int32), (116 : Int32), (104 : Int32)] : List Int32), ¬ c < 0 ∧ ¬ (255 : Int32) < c := by decide
  have hpw1 : ∀ c ∈ ([(100 : Int32), (105 : Int32), (115 : Int32), (97 : Int32), (98 : Int32), (105 : Int32), (108 : Int32), (105 : Int32), (116 : Int32), (121 : Int32)] : List Int32), ¬ c < 0 ∧ ¬ (255 : Int32) < c := by decide
  obtain ⟨vv265, _, ⟨T265, L265, k265, n265⟩, -, X265, ⟨Lc265, hQ265, l265, y265, z265⟩, st265⟩ := Jvm.LawKit.callS X0 hx (y := (⟨"java/util/Optional", "empty", "()Ljava/util/Optional;"⟩ : MethodName)) hown (mvT hZ (hw _ (List.mem_of_getElem? (i := 44) rfl))) (mvT hZ (hw _ (List.mem_of_getElem? (i := 45) rfl))) (mvT hZ (hw _ (List.mem_of_getElem? (i := 46) rfl))) (mvT hZ (hw _ (List.mem_of_getElem? (i := 47) rfl))) (by decide) (backOf (W := 0) (c_oemp l Z a0 hw [] EM h0 n0 Z0 SE X00) hZ (hw _ (List.mem_of_getElem? (i := 47) rfl)) (hw _ (List.mem_of_getElem? (i := 46) rfl)) (by decide) (by decide)) (g := (mkF m 0 #[.val (.ref a1), .unset, .unset, .unset, .unset, .unset] [])) rfl (by rw [hml]; rfl) (argsL := []) (rest := []) (lenOf pd_266 rfl) rfl (by show 2 * 0 + _ ≤ _; exact Nat.le_of_eq rfl) (hb hby d_prog_17_method_5_0) (fun _ _ => ⟨rfl, e0, (by decide : 0 + 0 ≤ _), (by decide : 0 + 0 ≤ _)⟩)
  dsimp only [Pt.U, Pt.locs, Pt.cells, Pt.slots] at X265 l265 y265 z265 st265 hQ265
  subst l265 y265 z265
  obtain ⟨rfl, Nq265, Eq265⟩ := hQ265
  have N267 := Fr.app N0 Nq265
  refine ownBy st265 ?_
  show ownG p.tables e below _ (T265.setTop (mkF m 3 #[.val (.ref a1), .unset, .unset, .unset, .unset, .unset] [(.ref EM)]))
  refine ownBy (A := T265.setTop (mkF m 4 #[.val (.ref a1), .val (.ref EM), .unset, .unset, .unset, .unset] [])) (fun t kt => ?_) ?_
  · show Steps p.tables e below (T265.setTop (mkF m 3 #[.val (.ref a1), .unset, .unset, .unset, .unset, .unset] [(.ref EM)])) t
    refine XS.astoreN X265.here hx rfl (hb hby d_prog_17_method_5_3) rfl rfl (l' := #[.val (.ref a1), .val (.ref EM), .unset, .unset, .unset, .unset]) rfl ?_
    exact kt
  obtain ⟨vv268, _, ⟨T268, L268, k268, n268⟩, -, X268, ⟨Lc268, hQ268, l268, y268, z268⟩, st268⟩ := Jvm.LawKit.callS X265 hx (y := (⟨"com/example/vestline/vestline/TerminationReason", "values", "()[Lcom/example/vestline/vestline/TerminationReason;"⟩ : MethodName)) hown (mvT hZ (hw _ (List.mem_of_getElem? (i := 49) rfl))) (mvT hZ (hw _ (List.mem_of_getElem? (i := 50) rfl))) (mvT hZ (hw _ (List.mem_of_getElem? (i := 42) rfl))) (mvT hZ (hw _ (List.mem_of_getElem? (i := 51) rfl))) (by decide) (backOf (W := 0) (c_vals l Z a0 hw [] A kA P0 P1 h0 n0 Z0 SV KV EV X00) hZ (hw _ (List.mem_of_getElem? (i := 51) rfl)) (hw _ (List.mem_of_getElem? (i := 42) rfl)) (by decide) (by decide)) (g := (mkF m 4 #[.val (.ref a1), .val (.ref EM), .unset, .unset, .unset, .unset] [])) rfl (by rw [hml]; rfl) (argsL := []) (rest := []) (lenOf pd_269 rfl) rfl (by show 2 * 0 + _ ≤ _; exact Nat.le_of_eq rfl) (hb hby d_prog_17_method_5_4) (fun _ _ => ⟨rfl, Eq265, (by decide : 0 + 1 ≤ _), (by decide : 0 + 2 ≤ _)⟩)
  dsimp only [Pt.U, Pt.locs, Pt.cells, Pt.slots] at X268 l268 y268 z268 st268 hQ268
  subst l268 y268 z268
  obtain ⟨x268, rfl, Nq268, Kq268, zq268, Aq268⟩ := hQ268
  have ne270 : a1 ≠ x268 := Nat.ne_of_lt (Nat.lt_of_lt_of_le Es.lt zq268)
  have ne271 : t1 ≠ x268 := Nat.ne_of_lt (Nat.lt_of_lt_of_le Ks.lt zq268)
  have g272 : n0 ≤ x268 := Nat.le_trans Z0 zq268
  have z273 : h0.size ≤ x268 := Nat.le_trans (Keep.refl h0 []).1 zq268
  have N274 := Fr.app N267 Nq268
  refine ownBy st268 ?_
  show ownG p.tables e below _ (T268.setTop (mkF m 7 #[.val (.ref a1), .val (.ref EM), .unset, .unset, .unset, .unset] [(.ref x268)]))
  refine ownBy (A := T268.setTop (mkF m 9 #[.val (.ref a1), .val (.ref EM), .val (.ref x268), .unset, .unset, .unset] [(.ref x268)])) (fun t kt => ?_) ?_
  · show Steps p.tables e below (T268.setTop (mkF m 7 #[.val (.ref a1), .val (.ref EM), .unset, .unset, .unset, .unset] [(.ref x268)])) t
    refine XS.astoreN X268.here hx rfl (hb hby d_prog_17_method_5_7) rfl rfl (l' := #[.val (.ref a1), .val (.ref EM), .val (.ref x268), .unset, .unset, .unset]) rfl ?_
    show Steps p.tables e below (T268.setTop (mkF m 8 #[.val (.ref a1), .val (.ref EM), .val (.ref x268), .unset, .unset, .unset] [])) t
    refine XS.aloadN X268.here hx rfl (hb hby d_prog_17_method_5_8) rfl rfl ?_
    exact kt
  obtain ⟨cl275, Ar275, -, S275, N275, -, -⟩ := id Aq268
  have st275 := X268.arraylength hx Ar275.1 (State.isArrayOf_alike hZ.alike Ar275.2.1) (g := (mkF m 9 #[.val (.ref a1), .val (.ref EM), .val (.ref x268), .unset, .unset, .unset] [(.ref x268)])) rfl rfl (hb hby d_prog_17_method_5_9)
  rw [len_of S275 N275] at st275
  refine ownBy st275 ?_
  show ownG p.tables e below _ (T268.setTop (mkF m 10 #[.val (.ref a1), .val (.ref EM), .val (.ref x268), .unset, .unset, .unset] [(.int (2 : Int32))]))
  refine ownBy (A := T268.setTop (mkF m 23 #[.val (.ref a1), .val (.ref EM), .val (.ref x268), .val (.int (2 : Int32)), .val (.int (0 : Int32)), .unset] [(.int (0 : Int32)), (.ref x268)])) (fun t kt => ?_) ?_
  · show Steps p.tables e below (T268.setTop (mkF m 10 #[.val (.ref a1), .val (.ref EM), .val (.ref x268), .unset, .unset, .unset] [(.int (2 : Int32))])) t
    refine XS.istoreN X268.here hx rfl (hb hby d_prog_17_method_5_10) rfl (l' := #[.val (.ref a1), .val (.ref EM), .val (.ref x268), .val (.int (2 : Int32)), .unset, .unset]) rfl ?_
    show Steps p.tables e below (T268.setTop (mkF m 11 #[.val (.ref a1), .val (.ref EM), .val (.ref x268), .val (.int (2 : Int32)), .unset, .unset] [])) t
    refine XS.iconst X268.here hx rfl (hb hby d_prog_17_method_5_11) ?_
    show Steps p.tables e below (T268.setTop (mkF m 12 #[.val (.ref a1), .val (.ref EM), .val (.ref x268), .val (.int (2 : Int32)), .unset, .unset] [(.int (0 : Int32))])) t
    refine XS.istore X268.here hx rfl (hb hby d_prog_17_method_5_12) rfl (l' := #[.val (.ref a1), .val (.ref EM), .val (.ref x268), .val (.int (2 : Int32)), .val (.int (0 : Int32)), .unset]) rfl ?_
    show Steps p.tables e below (T268.setTop (mkF m 14 #[.val (.ref a1), .val (.ref EM), .val (.ref x268), .val (.int (2 : Int32)), .val (.int (0 : Int32)), .unset] [])) t
    refine XS.iload X268.here hx rfl (hb hby d_prog_17_method_5_14) rfl ?_
    show Steps p.tables e below (T268.setTop (mkF m 16 #[.val (.ref a1), .val (.ref EM), .val (.ref x268), .val (.int (2 : Int32)), .val (.int (0 : Int32)), .unset] [(.int (0 : Int32))])) t
    refine XS.iloadN X268.here hx rfl (hb hby d_prog_17_method_5_16) rfl ?_
    show Steps p.tables e below (T268.setTop (mkF m 17 #[.val (.ref a1), .val (.ref EM), .val (.ref x268), .val (.int (2 : Int32)), .val (.int (0 : Int32)), .unset] [(.int (2 : Int32)), (.int (0 : Int32))])) t
    refine XS.icmpNo X268.here hx rfl (hb hby d_prog_17_method_5_17) rfl (tlt ((by decide) : (0 : Int32) < (2 : Int32))).2.1 ?_
    show Steps p.tables e below (T268.setTop (mkF m 20 #[.val (.ref a1), .val (.ref EM), .val (.ref x268), .val (.int (2 : Int32)), .val (.int (0 : Int32)), .unset] [])) t
    refine XS.aloadN X268.here hx rfl (hb hby d_prog_17_method_5_20) rfl rfl ?_
    show Steps p.tables e below (T268.setTop (mkF m 21 #[.val (.ref a1), .val (.ref EM), .val (.ref x268), .val (.int (2 : Int32)), .val (.int (0 : Int32)), .unset] [(.ref x268)])) t
    refine XS.iload X268.here hx rfl (hb hby d_prog_17_method_5_21) rfl ?_
    exact kt
  obtain ⟨cl276, Ar276, q276, S276, N276, H276, G276⟩ := id Aq268
  have hin276 : ¬ ((0 : Int32) < 0 ∨ cl276.slots.size ≤ ((0 : Int32)).toNatClampNeg) := inb_of S276 ⟨by decide, by decide⟩
  have hat276 : cl276.slots[((0 : Int32)).toNatClampNeg]? = some (.ref P0) := H276.at hin276 rfl
  have st276 := X268.aaload hx (j := (0 : Int32)) (v := (.ref P0)) Ar276.1 (State.isArrayOf_alike hZ.alike Ar276.2.1) rfl Ar276.2.2 hin276 hat276 (g := (mkF m 23 #[.val (.ref a1), .val (.ref EM), .val (.ref x268), .val (.int (2 : Int32)), .val (.int (0 : Int32)), .unset] [(.int (0 : Int32)), (.ref x268)])) rfl rfl (hb hby d_prog_17_method_5_23)
  refine ownBy st276 ?_
  show ownG p.tables e below _ (T268.setTop (mkF m 24 #[.val (.ref a1), .val (.ref EM), .val (.ref x268), .val (.int (2 : Int32)), .val (.int (0 : Int32)), .unset] [(.ref P0)]))
  refine ownBy (A := T268.setTop (mkF m 28 #[.val (.ref a1), .val (.ref EM), .val (.ref x268), .val (.int (2 : Int32)), .val (.int (0 : Int32)), .val (.ref P0)] [(.ref P0)])) (fun t kt => ?_) ?_
  · show Steps p.tables e below (T268.setTop (mkF m 24 #[.val (.ref a1), .val (.ref EM), .val (.ref x268), .val (.int (2 : Int32)), .val (.int (0 : Int32)), .unset] [(.ref P0)])) t
    refine XS.astore X268.here hx rfl (hb hby d_prog_17_method_5_24) rfl rfl (l' := #[.val (.ref a1), .val (.ref EM), .val (.ref x268), .val (.int (2 : Int32)), .val (.int (0 : Int32)), .val (.ref P0)]) rfl ?_
    show Steps p.tables e below (T268.setTop (mkF m 26 #[.val (.ref a1), .val (.ref EM), .val (.ref x268), .val (.int (2 : Int32)), .val (.int (0 : Int32)), .val (.ref P0)] [])) t
    refine XS.aload X268.here hx rfl (hb hby d_prog_17_method_5_26) rfl rfl ?_
    exact kt
  have f278 := (X00.keep Kq268 all0)
  have f279 := FP0.ext f278.2
  obtain ⟨T277, X277, e277, st277⟩ := getF X268 hx hZ hown (host := "") (Or.inl (hw _ (List.mem_of_getElem? (i := 66) rfl))) Via.refl rfl f279 (g := (mkF m 28 #[.val (.ref a1), .val (.ref EM), .val (.ref x268), .val (.int (2 : Int32)), .val (.int (0 : Int32)), .val (.ref P0)] [(.ref P0)])) rfl rfl (hb hby d_prog_17_method_5_28)
  refine ownBy st277 ?_
  show ownG p.tables e below _ (T277.setTop (mkF m 31 #[.val (.ref a1), .val (.ref EM), .val (.ref x268), .val (.int (2 : Int32)), .val (.int (0 : Int32)), .val (.ref P0)] [(.ref W0)]))
  refine ownBy (A := T277.setTop (mkF m 32 #[.val (.ref a1), .val (.ref EM), .val (.ref x268), .val (.int (2 : Int32)), .val (.int (0 : Int32)), .val (.ref P0)] [(.ref a1), (.ref W0)])) (fun t kt => ?_) ?_
  · show Steps p.tables e below (T277.setTop (mkF m 31 #[.val (.ref a1), .val (.ref EM), .val (.ref x268), .val (.int (2 : Int32)), .val (.int (0 : Int32)), .val (.ref P0)] [(.ref W0)])) t
    refine XS.aloadN X277.here hx rfl (hb hby d_prog_17_method_5_31) rfl rfl ?_
    exact kt
  have hcd280 : StrChars.Road.CodA ([(100 : Int32), (101 : Int32), (97 : Int32), (116 : Int32), (104 : Int32)] : List Int32) 0 (5 : Int32) ((([(100 : Int32), (101 : Int32), (97 : Int32), (116 : Int32), (104 : Int32)] : List Int32).map (fun c => c.toInt8.toInt32)).map Value.int) := StrChars.Road.codOf (n := 5) rfl (fun x hx => (hpw0 x hx).2)
  have hbd280 : ∀ x ∈ ([(100 : Int32), (101 : Int32), (97 : Int32), (116 : Int32), (104 : Int32)] : List Int32), ¬ x < 0 ∧ ¬ (65535 : Int32) < x := own_up _ hpw0
  have f281 := EW0.ext f278.2
  have f282 := FV0.ext f278.2
  have f283 := FC0.ext f278.2
  have f284 := KB0.ext f278.2
  have hcd285 : StrChars.Road.CodA cs 0 (Int32.ofNat cs.length) ((cs.map (fun c => c.toInt8.toInt32)).map Value.int) := StrChars.Road.codOf rfl (fun x hx => (hp x hx).2)
  have hbd285 : ∀ x ∈ cs, ¬ x < 0 ∧ ¬ (65535 : Int32) < x := own_up _ hp
  have f286 := (Es.keep Kq268)
  have f287 := (Vs.keep Kq268 nin0)
  have f288 := (Cs.keep Kq268 nin0)
  have f289 := (Ks.keep Kq268 nin0)
  obtain ⟨cq290, kq290, q290a, q290b, q290c⟩ := isOf hZ e277 f281
  obtain ⟨vv290, _, ⟨T290, L290, k290, n290⟩, -, X290, ⟨Lc290, hQ290, l290, y290, z290⟩, st290⟩ := X277.virtualBack hx (y := (⟨"java/lang/String", "equals", "(Ljava/lang/Object;)Z"⟩ : MethodName)) (z := (⟨"java/lang/String", "equals", "(Ljava/lang/Object;)Z"⟩ : MethodName)) hown (mvT hZ (hw _ (List.mem_of_getElem? (i := 68) rfl))) (mvT hZ (hw _ (List.mem_of_getElem? (i := 29) rfl))) (notFace_of_selects (args := #[]) (mvT hZ (hw _ (List.mem_of_getElem? (i := 31) rfl)))) (mvT hZ (hw _ (List.mem_of_getElem? (i := 31) rfl))) (mvT hZ (hw _ (List.mem_of_getElem? (i := 30) rfl))) (by decide) (StrChars.Road.eqW (W := 0) hZ heq (kI := 4) (hw _ (List.mem_of_getElem? (i := 7) rfl)) f281 f282 f283 f284 hcd280 hbd280 (Nat.le_of_ble_eq_true rfl) f286 f287 f288 f289 hcd285 hbd285 (Nat.le_trans hl (by decide)) (O2.ext f278.2) P5 (by decide) (by decide)) q290a q290c (g := (mkF m 32 #[.val (.ref a1), .val (.ref EM), .val (.ref x268), .val (.int (2 : Int32)), .val (.int (0 : Int32)), .val (.ref P0)] [(.ref a1), (.ref W0)])) rfl (by rw [hml]; rfl) (Steps.refl _) (argsL := [(.ref a1)]) (rest := []) (lenOf pd_291 rfl) rfl (by show 2 * 0 + _ ≤ _; exact Nat.le_of_eq rfl) (hb hby d_prog_17_method_5_32) (fun _ _ => ⟨rfl, e277, (by decide : 1 + 0 ≤ _), (by decide : 2 + 0 ≤ _)⟩)
  dsimp only [Pt.U, Pt.locs, Pt.cells, Pt.slots] at X290 l290 y290 z290 st290 hQ290
  subst l290 y290 z290
  obtain ⟨hE290, rfl, Eq290⟩ := hQ290
  have Nq290 : Fr n0 ([] : List Loc) := Fr.nil n0
  rcases hE290 with ⟨rfl, hcq290⟩ | ⟨rfl, hcq290⟩
  · skip
    have N292 := Fr.app N274 Nq290
    refine ownSt st290 ?_
    show ownG p.tables e below _ (T290.setTop (mkF m 35 #[.val (.ref a1), .val (.ref EM), .val (.ref x268), .val (.int (2 : Int32)), .val (.int (0 : Int32)), .val (.ref P0)] [(.int (1 : Int32))]))
    refine ownBy (A := T290.setTop (mkF m 40 #[.val (.ref a1), .val (.ref EM), .val (.ref x268), .val (.int (2 : Int32)), .val (.int (0 : Int32)), .val (.ref P0)] [(.ref P0)])) (fun t kt => ?_) ?_
    · show Steps p.tables e below (T290.setTop (mkF m 35 #[.val (.ref a1), .val (.ref EM), .val (.ref x268), .val (.int (2 : Int32)), .val (.int (0 : Int32)), .val (.ref P0)] [(.int (1 : Int32))])) t
      refine XS.ifNo X290.here hx rfl (hb hby d_prog_17_method_5_35) rfl ((if0 _ _).trans (feq ((by decide) : ¬ ((1 : Int32) = (0 : Int32)))).1) ?_
      show Steps p.tables e below (T290.setTop (mkF m 38 #[.val (.ref a1), .val (.ref EM), .val (.ref x268), .val (.int (2 : Int32)), .val (.int (0 : Int32)), .val (.ref P0)] [])) t
      refine XS.aload X290.here hx rfl (hb hby d_prog_17_method_5_38) rfl rfl ?_
      exact kt
    have f293 := (Nat.le_trans Z0 Kq268.1)
    obtain ⟨vv294, _, ⟨T294, L294, k294, n294⟩, -, X294, ⟨Lc294, hQ294, l294, y294, z294⟩, st294⟩ := Jvm.LawKit.callS X290 hx (y := (⟨"java/util/Optional", "of", "(Ljava/lang/Object;)Ljava/util/Optional;"⟩ : MethodName)) hown (mvT hZ (hw _ (List.mem_of_getElem? (i := 87) rfl))) (mvT hZ (hw _ (List.mem_of_getElem? (i := 88) rfl))) (mvT hZ (hw _ (List.mem_of_getElem? (i := 46) rfl))) (mvT hZ (hw _ (List.mem_of_getElem? (i := 89) rfl))) (by decide) (backOf (W := 0) (c_oof l Z a0 hw [] P0 T268.heap n0 f293 ) hZ (hw _ (List.mem_of_getElem? (i := 89) rfl)) (hw _ (List.mem_of_getElem? (i := 46) rfl)) (by decide) (by decide)) (g := (mkF m 40 #[.val (.ref a1), .val (.ref EM), .val (.ref x268), .val (.int (2 : Int32)), .val (.int (0 : Int32)), .val (.ref P0)] [(.ref P0)])) rfl (by rw [hml]; rfl) (argsL := [(.ref P0)]) (rest := []) (lenOf pd_295 rfl) rfl (by show 2 * 0 + _ ≤ _; exact Nat.le_of_eq rfl) (hb hby d_prog_17_method_5_40) (fun _ _ => ⟨rfl, Eq290, (by decide : 1 + 1 ≤ _), (by decide : 2 + 1 ≤ _)⟩)
    dsimp only [Pt.U, Pt.locs, Pt.cells, Pt.slots] at X294 l294 y294 z294 st294 hQ294
    subst l294 y294 z294
    obtain ⟨x294, rfl, Nq294, Kq294, zq294, Eq294, Fq294⟩ := hQ294
    have ne296 : a1 ≠ x294 := Nat.ne_of_lt (Nat.lt_of_lt_of_le f286.lt zq294)
    have ne297 : t1 ≠ x294 := Nat.ne_of_lt (Nat.lt_of_lt_of_le f289.lt zq294)
    have ne298 : x268 ≠ x294 := Nat.ne_of_lt (Nat.lt_of_lt_of_le Aq268.lt zq294)
    have g299 : n0 ≤ x294 := Nat.le_trans f293 zq294
    have f301 := ((Keep.refl h0 []).trans Kq268 all0)
    have z300 : h0.size ≤ x294 := Nat.le_trans f301.1 zq294
    have N302 := Fr.app N292 Nq294
    refine ownBy st294 ?_
    show ownG p.tables e below _ (T294.setTop (mkF m 43 #[.val (.ref a1), .val (.ref EM), .val (.ref x268), .val (.int (2 : Int32)), .val (.int (0 : Int32)), .val (.ref P0)] [(.ref x294)]))
    refine ownBy (A := T294.setTop (mkF m 54 #[.val (.ref a1), .val (.ref x294), .val (.ref x268), .val (.int (2 : Int32)), .val (.int (0 : Int32)), .val (.ref P0)] [(.ref x294)])) (fun t kt => ?_) ?_
    · show Steps p.tables e below (T294.setTop (mkF m 43 #[.val (.ref a1), .val (.ref EM), .val (.ref x268), .val (.int (2 : Int32)), .val (.int (0 : Int32)), .val (.ref P0)] [(.ref x294)])) t
      refine XS.astoreN X294.here hx rfl (hb hby d_prog_17_method_5_43) rfl rfl (l' := #[.val (.ref a1), .val (.ref x294), .val (.ref x268), .val (.int (2 : Int32)), .val (.int (0 : Int32)), .val (.ref P0)]) rfl ?_
      show Steps p.tables e below (T294.setTop (mkF m 44 #[.val (.ref a1), .val (.ref x294), .val (.ref x268), .val (.int (2 : Int32)), .val (.int (0 : Int32)), .val (.ref P0)] [])) t
      refine XS.goto X294.here hx rfl (pc0 := 44) (pc' := 53) rfl (hb hby d_prog_17_method_5_44) (by decide) (by decide) ?_
      show Steps p.tables e below (T294.setTop (mkF m 53 #[.val (.ref a1), .val (.ref x294), .val (.ref x268), .val (.int (2 : Int32)), .val (.int (0 : Int32)), .val (.ref P0)] [])) t
      refine XS.aloadN X294.here hx rfl (hb hby d_prog_17_method_5_53) rfl rfl ?_
      exact kt
    have f303 := (f301.trans Kq294 all0)
    refine ownRet X294 Bd.notSynchronized (v := some (.ref x294)) (fun h => by rw [Bd.returns] at h; cases h) ?_ (Nat.le_of_ble_eq_true rfl) (Nat.le_of_ble_eq_true rfl) (fun fs hr => retOut X294 hx Bd.returns rfl (Or.inr (Or.inr (Or.inr (Or.inr ⟨rfl, rfl, rfl⟩)))) (hb hby d_prog_17_method_5_54) hr)
    show (Q_named Z a1 t1 kb9 cs A kA EM P0 P1 W0 W1 B0 B1 kb0 kb1 G1 h0 n0) (some (.ref x294)) T294.heap _
    exact ⟨x294, (.ref P0), rfl, N302, f303, Eq294, Fq294, Or.inl ⟨rfl, hcq290.symm⟩⟩
  · skip
    have N304 := Fr.app N274 Nq290
    refine ownSt st290 ?_
    show ownG p.tables e below _ (T290.setTop (mkF m 35 #[.val (.ref a1), .val (.ref EM), .val (.ref x268), .val (.int (2 : Int32)), .val (.int (0 : Int32)), .val (.ref P0)] [(.int (0 : Int32))]))
    refine ownBy (A := T290.setTop (mkF m 23 #[.val (.ref a1), .val (.ref EM), .val (.ref x268), .val (.int (2 : Int32)), .val (.int (1 : Int32)), .val (.ref P0)] [(.int (1 : Int32)), (.ref x268)])) (fun t kt => ?_) ?_
    · show Steps p.tables e below (T290.setTop (mkF m 35 #[.val (.ref a1), .val (.ref EM), .val (.ref x268), .val (.int (2 : Int32)), .val (.int (0 : Int32)), .val (.ref P0)] [(.int (0 : Int32))])) t
      refine XS.ifYes X290.here hx rfl (pc0 := 35) (pc' := 47) rfl (hb hby d_prog_17_method_5_35) rfl ((if0 _ _).trans (teq ((by decide) : (0 : Int32) = (0 : Int32))).1) (by decide) (by decide) ?_
      show Steps p.tables e below (T290.setTop (mkF m 47 #[.val (.ref a1), .val (.ref EM), .val (.ref x268), .val (.int (2 : Int32)), .val (.int (0 : Int32)), .val (.ref P0)] [])) t
      refine XS.iinc X290.here hx rfl (hb hby d_prog_17_method_5_47) rfl (l' := #[.val (.ref a1), .val (.ref EM), .val (.ref x268), .val (.int (2 : Int32)), .val (.int (1 : Int32)), .val (.ref P0)]) rfl ?_
      show Steps p.tables e below (T290.setTop (mkF m 50 #[.val (.ref a1), .val (.ref EM), .val (.ref x268), .val (.int (2 : Int32)), .val (.int (1 : Int32)), .val (.ref P0)] [])) t
      refine XS.goto X290.here hx rfl (pc0 := 50) (pc' := 14) rfl (hb hby d_prog_17_method_5_50) (by decide) (by decide) ?_
      show Steps p.tables e below (T290.setTop (mkF m 14 #[.val (.ref a1), .val (.ref EM), .val (.ref x268), .val (.int (2 : Int32)), .val (.int (1 : Int32)), .val (.ref P0)] [])) t
      refine XS.iload X290.here hx rfl (hb hby d_prog_17_method_5_14) rfl ?_
      show Steps p.tables e below (T290.setTop (mkF m 16 #[.val (.ref a1), .val (.ref EM), .val (.ref x268), .val (.int (2 : Int32)), .val (.int (1 : Int32)), .val (.ref P0)] [(.int (1 : Int32))])) t
      refine XS.iloadN X290.here hx rfl (hb hby d_prog_17_method_5_16) rfl ?_
      show Steps p.tables e below (T290.setTop (mkF m 17 #[.val (.ref a1), .val (.ref EM), .val (.ref x268), .val (.int (2 : Int32)), .val (.int (1 : Int32)), .val (.ref P0)] [(.int (2 : Int32)), (.int (1 : Int32))])) t
      refine XS.icmpNo X290.here hx rfl (hb hby d_prog_17_method_5_17) rfl (tlt ((by decide) : (1 : Int32) < (2 : Int32))).2.1 ?_
      show Steps p.tables e below (T290.setTop (mkF m 20 #[.val (.ref a1), .val (.ref EM), .val (.ref x268), .val (.int (2 : Int32)), .val (.int (1 : Int32)), .val (.ref P0)] [])) t
      refine XS.aloadN X290.here hx rfl (hb hby d_prog_17_method_5_20) rfl rfl ?_
      show Steps p.tables e below (T290.setTop (mkF m 21 #[.val (.ref a1), .val (.ref EM), .val (.ref x268), .val (.int (2 : Int32)), .val (.int (1 : Int32)), .val (.ref P0)] [(.ref x268)])) t
      refine XS.iload X290.here hx rfl (hb hby d_prog_17_method_5_21) rfl ?_
      exact kt
    obtain ⟨cl305, Ar305, q305, S305, N305, H305, G305⟩ := id Aq268
    have hin305 : ¬ ((1 : Int32) < 0 ∨ cl305.slots.size ≤ ((1 : Int32)).toNatClampNeg) := inb_of S305 ⟨by decide, by decide⟩
    have hat305 : cl305.slots[((1 : Int32)).toNatClampNeg]? = some (.ref P1) := H305.at hin305 rfl
    have st305 := X290.aaload hx (j := (1 : Int32)) (v := (.ref P1)) (by rw [Eq290]; exact Ar305.1) (State.isArrayOf_alike hZ.alike Ar305.2.1) rfl Ar305.2.2 hin305 hat305 (g := (mkF m 23 #[.val (.ref a1), .val (.ref EM), .val (.ref x268), .val (.int (2 : Int32)), .val (.int (1 : Int32)), .val (.ref P0)] [(.int (1 : Int32)), (.ref x268)])) rfl rfl (hb hby d_prog_17_method_5_23)
    refine ownBy st305 ?_
    show ownG p.tables e below _ (T290.setTop (mkF m 24 #[.val (.ref a1), .val (.ref EM), .val (.ref x268), .val (.int (2 : Int32)), .val (.int (1 : Int32)), .val (.ref P0)] [(.ref P1)]))
    refine ownBy (A := T290.setTop (mkF m 28 #[.val (.ref a1), .val (.ref EM), .val (.ref x268), .val (.int (2 : Int32)), .val (.int (1 : Int32)), .val (.ref P1)] [(.ref P1)])) (fun t kt => ?_) ?_
    · show Steps p.tables e below (T290.setTop (mkF m 24 #[.val (.ref a1), .val (.ref EM), .val (.ref x268), .val (.int (2 : Int32)), .val (.int (1 : Int32)), .val (.ref P0)] [(.ref P1)])) t
      refine XS.astore X290.here hx rfl (hb hby d_prog_17_method_5_24) rfl rfl (l' := #[.val (.ref a1), .val (.ref EM), .val (.ref x268), .val (.int (2 : Int32)), .val (.int (1 : Int32)), .val (.ref P1)]) rfl ?_
      show Steps p.tables e below (T290.setTop (mkF m 26 #[.val (.ref a1), .val (.ref EM), .val (.ref x268), .val (.int (2 : Int32)), .val (.int (1 : Int32)), .val (.ref P1)] [])) t
      refine XS.aload X290.here hx rfl (hb hby d_prog_17_method_5_26) rfl rfl ?_
      exact kt
    have f307 := FP1.ext f278.2
    obtain ⟨T306, X306, e306, st306⟩ := getF X290 hx hZ hown (host := "") (Or.inl (hw _ (List.mem_of_getElem? (i := 66) rfl))) Via.refl Eq290 f307 (g := (mkF m 28 #[.val (.ref a1), .val (.ref EM), .val (.ref x268), .val (.int (2 : Int32)), .val (.int (1 : Int32)), .val (.ref P1)] [(.ref P1)])) rfl rfl (hb hby d_prog_17_method_5_28)
    refine ownBy st306 ?_
    show ownG p.tables e below _ (T306.setTop (mkF m 31 #[.val (.ref a1), .val (.ref EM), .val (.ref x268), .val (.int (2 : Int32)), .val (.int (1 : Int32)), .val (.ref P1)] [(.ref W1)]))
    refine ownBy (A := T306.setTop (mkF m 32 #[.val (.ref a1), .val (.ref EM), .val (.ref x268), .val (.int (2 : Int32)), .val (.int (1 : Int32)), .val (.ref P1)] [(.ref a1), (.ref W1)])) (fun t kt => ?_) ?_
    · show Steps p.tables e below (T306.setTop (mkF m 31 #[.val (.ref a1), .val (.ref EM), .val (.ref x268), .val (.int (2 : Int32)), .val (.int (1 : Int32)), .val (.ref P1)] [(.ref W1)])) t
      refine XS.aloadN X306.here hx rfl (hb hby d_prog_17_method_5_31) rfl rfl ?_
      exact kt
    have hcd308 : StrChars.Road.CodA ([(100 : Int32), (105 : Int32), (115 : Int32), (97 : Int32), (98 : Int32), (105 : Int32), (108 : Int32), (105 : Int32), (116 : Int32), (121 : Int32)] : List Int32) 0 (10 : Int32) ((([(100 : Int32), (105 : Int32), (115 : Int32), (97 : Int32), (98 : Int32), (105 : Int32), (108 : Int32), (105 : Int32), (116 : Int32), (121 : Int32)] : List Int32).map (fun c => c.toInt8.toInt32)).map Value.int) := StrChars.Road.codOf (n := 10) rfl (fun x hx => (hpw1 x hx).2)
    have hbd308 : ∀ x ∈ ([(100 : Int32), (105 : Int32), (115 : Int32), (97 : Int32), (98 : Int32), (105 : Int32), (108 : Int32), (105 : Int32), (116 : Int32), (121 : Int32)] : List Int32), ¬ x < 0 ∧ ¬ (65535 : Int32) < x := own_up _ hpw1
    have f309 := EW1.ext f278.2
    have f310 := FV1.ext f278.2
    have f311 := FC1.ext f278.2
    have f312 := KB1.ext f278.2
    obtain ⟨cq313, kq313, q313a, q313b, q313c⟩ := isOf hZ e306 f309
    obtain ⟨vv313, _, ⟨T313, L313, k313, n313⟩, -, X313, ⟨Lc313, hQ313, l313, y313, z313⟩, st313⟩ := X306.virtualBack hx (y := (⟨"java/lang/String", "equals", "(Ljava/lang/Object;)Z"⟩ : MethodName)) (z := (⟨"java/lang/String", "equals", "(Ljava/lang/Object;)Z"⟩ : MethodName)) hown (mvT hZ (hw _ (List.mem_of_getElem? (i := 68) rfl))) (mvT hZ (hw _ (List.mem_of_getElem? (i := 29) rfl))) (notFace_of_selects (args := #[]) (mvT hZ (hw _ (List.mem_of_getElem? (i := 31) rfl)))) (mvT hZ (hw _ (List.mem_of_getElem? (i := 31) rfl))) (mvT hZ (hw _ (List.mem_of_getElem? (i := 30) rfl))) (by decide) (StrChars.Road.eqW (W := 0) hZ heq (kI := 4) (hw _ (List.mem_of_getElem? (i := 7) rfl)) f309 f310 f311 f312 hcd308 hbd308 (Nat.le_of_ble_eq_true rfl) f286 f287 f288 f289 hcd285 hbd285 (Nat.le_trans hl (by decide)) (O2.ext f278.2) P5 (by decide) (by decide)) q313a q313c (g := (mkF m 32 #[.val (.ref a1), .val (.ref EM), .val (.ref x268), .val (.int (2 : Int32)), .val (.int (1 : Int32)), .val (.ref P1)] [(.ref a1), (.ref W1)])) rfl (by rw [hml]; rfl) (Steps.refl _) (argsL := [(.ref a1)]) (rest := []) (lenOf pd_291 rfl) rfl (by show 2 * 0 + _ ≤ _; exact Nat.le_of_eq rfl) (hb hby d_prog_17_method_5_32) (fun _ _ => ⟨rfl, e306, (by decide : 1 + 0 ≤ _), (by decide : 2 + 0 ≤ _)⟩)
    dsimp only [Pt.U, Pt.locs, Pt.cells, Pt.slots] at X313 l313 y313 z313 st313 hQ313
    subst l313 y313 z313
    obtain ⟨hE313, rfl, Eq313⟩ := hQ313
    have Nq313 : Fr n0 ([] : List Loc) := Fr.nil n0
    rcases hE313 with ⟨rfl, hcq313⟩ | ⟨rfl, hcq313⟩
    · skip
      have N314 := Fr.app N304 Nq313
      refine ownSt st313 ?_
      show ownG p.tables e below _ (T313.setTop (mkF m 35 #[.val (.ref a1), .val (.ref EM), .val (.ref x268), .val (.int (2 : Int32)), .val (.int (1 : Int32)), .val (.ref P1)] [(.int (1 : Int32))]))
      refine ownBy (A := T313.setTop (mkF m 40 #[.val (.ref a1), .val (.ref EM), .val (.ref x268), .val (.int (2 : Int32)), .val (.int (1 : Int32)), .val (.ref P1)] [(.ref P1)])) (fun t kt => ?_) ?_
      · show Steps p.tables e below (T313.setTop (mkF m 35 #[.val (.ref a1), .val (.ref EM), .val (.ref x268), .val (.int (2 : Int32)), .val (.int (1 : Int32)), .val (.ref P1)] [(.int (1 : Int32))])) t
        refine XS.ifNo X313.here hx rfl (hb hby d_prog_17_method_5_35) rfl ((if0 _ _).trans (feq ((by decide) : ¬ ((1 : Int32) = (0 : Int32)))).1) ?_
        show Steps p.tables e below (T313.setTop (mkF m 38 #[.val (.ref a1), .val (.ref EM), .val (.ref x268), .val (.int (2 : Int32)), .val (.int (1 : Int32)), .val (.ref P1)] [])) t
        refine XS.aload X313.here hx rfl (hb hby d_prog_17_method_5_38) rfl rfl ?_
        exact kt
      have f315 := (Nat.le_trans Z0 Kq268.1)
      obtain ⟨vv316, _, ⟨T316, L316, k316, n316⟩, -, X316, ⟨Lc316, hQ316, l316, y316, z316⟩, st316⟩ := Jvm.LawKit.callS X313 hx (y := (⟨"java/util/Optional", "of", "(Ljava/lang/Object;)Ljava/util/Optional;"⟩ : MethodName)) hown (mvT hZ (hw _ (List.mem_of_getElem? (i := 87) rfl))) (mvT hZ (hw _ (List.mem_of_getElem? (i := 88) rfl))) (mvT hZ (hw _ (List.mem_of_getElem? (i := 46) rfl))) (mvT hZ (hw _ (List.mem_of_getElem? (i := 89) rfl))) (by decide) (backOf (W := 0) (c_oof l Z a0 hw [] P1 T268.heap n0 f315 ) hZ (hw _ (List.mem_of_getElem? (i := 89) rfl)) (hw _ (List.mem_of_getElem? (i := 46) rfl)) (by decide) (by decide)) (g := (mkF m 40 #[.val (.ref a1), .val (.ref EM), .val (.ref x268), .val (.int (2 : Int32)), .val (.int (1 : Int32)), .val (.ref P1)] [(.ref P1)])) rfl (by rw [hml]; rfl) (argsL := [(.ref P1)]) (rest := []) (lenOf pd_295 rfl) rfl (by show 2 * 0 + _ ≤ _; exact Nat.le_of_eq rfl) (hb hby d_prog_17_method_5_40) (fun _ _ => ⟨rfl, Eq313, (by decide : 1 + 1 ≤ _), (by decide : 2 + 1 ≤ _)⟩)
      dsimp only [Pt.U, Pt.locs, Pt.cells, Pt.slots] at X316 l316 y316 z316 st316 hQ316
      subst l316 y316 z316
      obtain ⟨x316, rfl, Nq316, Kq316, zq316, Eq316, Fq316⟩ := hQ316
      have ne317 : a1 ≠ x316 := Nat.ne_of_lt (Nat.lt_of_lt_of_le f286.lt zq316)
      have ne318 : t1 ≠ x316 := Nat.ne_of_lt (Nat.lt_of_lt_of_le f289.lt zq316)
      have ne319 : x268 ≠ x316 := Nat.ne_of_lt (Nat.lt_of_lt_of_le Aq268.lt zq316)
      have g320 : n0 ≤ x316 := Nat.le_trans f315 zq316
      have f322 := ((Keep.refl h0 []).trans Kq268 all0)
      have z321 : h0.size ≤ x316 := Nat.le_trans f322.1 zq316
      have N323 := Fr.app N314 Nq316
      refine ownBy st316 ?_
      show ownG p.tables e below _ (T316.setTop (mkF m 43 #[.val (.ref a1), .val (.ref EM), .val (.ref x268), .val (.int (2 : Int32)), .val (.int (1 : Int32)), .val (.ref P1)] [(.ref x316)]))
      refine ownBy (A := T316.setTop (mkF m 54 #[.val (.ref a1), .val (.ref x316), .val (.ref x268), .val (.int (2 : Int32)), .val (.int (1 : Int32)), .val (.ref P1)] [(.ref x316)])) (fun t kt => ?_) ?_
      · show Steps p.tables e below (T316.setTop (mkF m 43 #[.val (.ref a1), .val (.ref EM), .val (.ref x268), .val (.int (2 : Int32)), .val (.int (1 : Int32)), .val (.ref P1)] [(.ref x316)])) t
        refine XS.astoreN X316.here hx rfl (hb hby d_prog_17_method_5_43) rfl rfl (l' := #[.val (.ref a1), .val (.ref x316), .val (.ref x268), .val (.int (2 : Int32)), .val (.int (1 : Int32)), .val (.ref P1)]) rfl ?_
        show Steps p.tables e below (T316.setTop (mkF m 44 #[.val (.ref a1), .val (.ref x316), .val (.ref x268), .val (.int (2 : Int32)), .val (.int (1 : Int32)), .val (.ref P1)] [])) t
        refine XS.goto X316.here hx rfl (pc0 := 44) (pc' := 53) rfl (hb hby d_prog_17_method_5_44) (by decide) (by decide) ?_
        show Steps p.tables e below (T316.setTop (mkF m 53 #[.val (.ref a1), .val (.ref x316), .val (.ref x268), .val (.int (2 : Int32)), .val (.int (1 : Int32)), .val (.ref P1)] [])) t
        refine XS.aloadN X316.here hx rfl (hb hby d_prog_17_method_5_53) rfl rfl ?_
        exact kt
      have f324 := (f322.trans Kq316 all0)
      refine ownRet X316 Bd.notSynchronized (v := some (.ref x316)) (fun h => by rw [Bd.returns] at h; cases h) ?_ (Nat.le_of_ble_eq_true rfl) (Nat.le_of_ble_eq_true rfl) (fun fs hr => retOut X316 hx Bd.returns rfl (Or.inr (Or.inr (Or.inr (Or.inr ⟨rfl, rfl, rfl⟩)))) (hb hby d_prog_17_method_5_54) hr)
      show (Q_named Z a1 t1 kb9 cs A kA EM P0 P1 W0 W1 B0 B1 kb0 kb1 G1 h0 n0) (some (.ref x316)) T316.heap _
      exact ⟨x316, (.ref P1), rfl, N323, f324, Eq316, Fq316, Or.inr (Or.inl ⟨rfl, (Ne.symm hcq290), hcq313.symm⟩)⟩
    · skip
      have N325 := Fr.app N304 Nq313
      refine ownSt st313 ?_
      show ownG p.tables e below _ (T313.setTop (mkF m 35 #[.val (.ref a1), .val (.ref EM), .val (.ref x268), .val (.int (2 : Int32)), .val (.int (1 : Int32)), .val (.ref P1)] [(.int (0 : Int32))]))
      refine ownBy (A := T313.setTop (mkF m 54 #[.val (.ref a1), .val (.ref EM), .val (.ref x268), .val (.int (2 : Int32)), .val (.int (2 : Int32)), .val (.ref P1)] [(.ref EM)])) (fun t kt => ?_) ?_
      · show Steps p.tables e below (T313.setTop (mkF m 35 #[.val (.ref a1), .val (.ref EM), .val (.ref x268), .val (.int (2 : Int32)), .val (.int (1 : Int32)), .val (.ref P1)] [(.int (0 : Int32))])) t
        refine XS.ifYes X313.here hx rfl (pc0 := 35) (pc' := 47) rfl (hb hby d_prog_17_method_5_35) rfl ((if0 _ _).trans (teq ((by decide) : (0 : Int32) = (0 : Int32))).1) (by decide) (by decide) ?_
        show Steps p.tables e below (T313.setTop (mkF m 47 #[.val (.ref a1), .val (.ref EM), .val (.ref x268), .val (.int (2 : Int32)), .val (.int (1 : Int32)), .val (.ref P1)] [])) t
        refine XS.iinc X313.here hx rfl (hb hby d_prog_17_method_5_47) rfl (l' := #[.val (.ref a1), .val (.ref EM), .val (.ref x268), .val (.int (2 : Int32)), .val (.int (2 : Int32)), .val (.ref P1)]) rfl ?_
        show Steps p.tables e below (T313.setTop (mkF m 50 #[.val (.ref a1), .val (.ref EM), .val (.ref x268), .val (.int (2 : Int32)), .val (.int (2 : Int32)), .val (.ref P1)] [])) t
        refine XS.goto X313.here hx rfl (pc0 := 50) (pc' := 14) rfl (hb hby d_prog_17_method_5_50) (by decide) (by decide) ?_
        show Steps p.tables e below (T313.setTop (mkF m 14 #[.val (.ref a1), .val (.ref EM), .val (.ref x268), .val (.int (2 : Int32)), .val (.int (2 : Int32)), .val (.ref P1)] [])) t
        refine XS.iload X313.here hx rfl (hb hby d_prog_17_method_5_14) rfl ?_
        show Steps p.tables e below (T313.setTop (mkF m 16 #[.val (.ref a1), .val (.ref EM), .val (.ref x268), .val (.int (2 : Int32)), .val (.int (2 : Int32)), .val (.ref P1)] [(.int (2 : Int32))])) t
        refine XS.iloadN X313.here hx rfl (hb hby d_prog_17_method_5_16) rfl ?_
        show Steps p.tables e below (T313.setTop (mkF m 17 #[.val (.ref a1), .val (.ref EM), .val (.ref x268), .val (.int (2 : Int32)), .val (.int (2 : Int32)), .val (.ref P1)] [(.int (2 : Int32)), (.int (2 : Int32))])) t
        refine XS.icmpYes X313.here hx rfl (pc0 := 17) (pc' := 53) rfl (hb hby d_prog_17_method_5_17) rfl (flt ((by decide) : ¬ ((2 : Int32) < (2 : Int32)))).2.1 (by decide) (by decide) ?_
        show Steps p.tables e below (T313.setTop (mkF m 53 #[.val (.ref a1), .val (.ref EM), .val (.ref x268), .val (.int (2 : Int32)), .val (.int (2 : Int32)), .val (.ref P1)] [])) t
        refine XS.aloadN X313.here hx rfl (hb hby d_prog_17_method_5_53) rfl rfl ?_
        exact kt
      have f326 := ((Keep.refl h0 []).trans Kq268 all0)
      have f327 := EE.ext f278.2
      have f328 := FE.ext f278.2
      refine ownRet X313 Bd.notSynchronized (v := some (.ref EM)) (fun h => by rw [Bd.returns] at h; cases h) ?_ (Nat.le_of_ble_eq_true rfl) (Nat.le_of_ble_eq_true rfl) (fun fs hr => retOut X313 hx Bd.returns rfl (Or.inr (Or.inr (Or.inr (Or.inr ⟨rfl, rfl, rfl⟩)))) (hb hby d_prog_17_method_5_54) hr)
      show (Q_named Z a1 t1 kb9 cs A kA EM P0 P1 W0 W1 B0 B1 kb0 kb1 G1 h0 n0) (some (.ref EM)) T313.heap _
      rw [Eq313]
      exact ⟨EM, .null, rfl, N325, f326, f327, f328, Or.inr (Or.inr ⟨rfl, (Ne.symm hcq290), (Ne.symm hcq313)⟩)⟩
def Q_law (Z : State) (p1 : Int32) (p2 : Int32) (p3 : Int32) (p4 : Int32) (A : Addr) (kA : ClassId) (EM : Addr) (P0 : Addr) (P1 : Addr) (W0 : Addr) (W1 : Addr) (B0 : Addr) (B1 : Addr) (kb0 : ClassId) (kb1 : ClassId) (G1 : Int32) (h0 : Heap) (n0 : Nat) (v : Option Value) (h : Heap) (L : List Loc) : Prop := v = some (.int 1) ∧ Fr n0 L
theorem ef_law (m : MethodId) (x0 : Int32) (x1 : Int32) (x2 : Int32) (x3 : Int32)  : entryFrame m #[(.int x0), (.int x1), (.int x2), (.int x3)] maxLocals = mkF m 0 #[.val (.int x0), .val (.int x1), .val (.int x2), .val (.int x3), .unset, .unset, .unset, .unset, .unset, .unset, .unset, .unset, .unset] [] := by first | (simp [entryFrame, mkF, argsToLocals, Value.category, maxLocals]; done) | rfl
set_option maxRecDepth 65536 in
set_option maxHeartbeats 40000000 in
theorem c_law (l : Launch) (Z : State) (a0 : Array Value) (hw : ∀ d ∈ tables_1, d.before a0 Z = true) (ws : List Jvm.Cond) (p1 : Int32) (p2 : Int32) (p3 : Int32) (p4 : Int32) (A : Addr) (kA : ClassId) (EM : Addr) (P0 : Addr) (P1 : Addr) (W0 : Addr) (W1 : Addr) (B0 : Addr) (B1 : Addr) (kb0 : ClassId) (kb1 : ClassId) (G1 : Int32) (h0 : Heap) (n0 : Nat) (Z0 : n0 ≤ h0.size) (SV : Sta Z Z.heap "com/example/vestline/vestline/TerminationReason" "$VALUES" "[Lcom/example/vestline/vestline/TerminationReason;" (.ref A)) (KV : Arv Z Z.heap A kA (.object "com/example/vestline/vestline/TerminationReason") (2 : Int32) [(.ref P0), (.ref P1)] .null) (EV : Exa Z Z.heap A "[Lcom/example/vestline/vestline/TerminationReason;") (SE : Sta Z Z.heap "java/util/Optional" "EMPTY" "Ljava/util/Optional;" (.ref EM)) (EE : Exa Z Z.heap EM "java/util/Optional") (FE : Fld Z Z.heap EM "java/util/Optional" "value" "Ljava/lang/Object;" .null) (SP0 : Sta Z Z.heap "com/example/vestline/vestline/TerminationReason" "DEATH" "Lcom/example/vestline/vestline/TerminationReason;" (.ref P0)) (EP0 : Exa Z Z.heap P0 "com/example/vestline/vestline/TerminationReason") (FP0 : Fld Z Z.heap P0 "com/example/vestline/vestline/TerminationReason" "word" "Ljava/lang/String;" (.ref W0)) (EW0 : Exa Z Z.heap W0 "java/lang/String") (FV0 : Fld Z Z.heap W0 "java/lang/String" "value" "[B" (.ref B0)) (FC0 : Fld Z Z.heap W0 "java/lang/String" "coder" "B" (.int (0 : Int32))) (KB0 : Arv Z Z.heap B0 kb0 .byte (5 : Int32) ((([(100 : Int32), (101 : Int32), (97 : Int32), (116 : Int32), (104 : Int32)] : List Int32).map (fun c => c.toInt8.toInt32)).map Value.int) (.int (0 : Int32))) (SP1 : Sta Z Z.heap "com/example/vestline/vestline/TerminationReason" "DISABILITY" "Lcom/example/vestline/vestline/TerminationReason;" (.ref P1)) (EP1 : Exa Z Z.heap P1 "com/example/vestline/vestline/TerminationReason") (FP1 : Fld Z Z.heap P1 "com/example/vestline/vestline/TerminationReason" "word" "Ljava/lang/String;" (.ref W1)) (EW1 : Exa Z Z.heap W1 "java/lang/String") (FV1 : Fld Z Z.heap W1 "java/lang/String" "value" "[B" (.ref B1)) (FC1 : Fld Z Z.heap W1 "java/lang/String" "coder" "B" (.int (0 : Int32))) (KB1 : Arv Z Z.heap B1 kb1 .byte (10 : Int32) ((([(100 : Int32), (105 : Int32), (115 : Int32), (97 : Int32), (98 : Int32), (105 : Int32), (108 : Int32), (105 : Int32), (116 : Int32), (121 : Int32)] : List Int32).map (fun c => c.toInt8.toInt32)).map Value.int) (.int (0 : Int32))) (O2 : Sta Z Z.heap "java/lang/String" "COMPACT_STRINGS" "Z" (.int G1)) (P5 : ¬ (G1 = (0 : Int32))) (X00 : Old Z n0 h0) :
    MetFree l x (head1 (Jvm.Cond.code x code maxLocals ret :: ws) room_1) (fun a U => a = #[(.int p1), (.int p2), (.int p3), (.int p4)] ∧ Z.Warmed39 U.vm ∧ U.heap = h0 ∧ CHv Z ownEL U.vm h0) (fun _ _ _ _ _ => True) (fun _ U o U' => ∃ v L, o = .returned v ∧ (Q_law Z p1 p2 p3 p4 A kA EM P0 P1 W0 W1 B0 B1 kb0 kb1 G1 h0 n0) v U'.heap L ∧ CHr Z ownEL U.vm U.heap U'.vm U'.heap ∧ ReturnedEndW U o U' L 24 3264) := by
  refine MetFree.of_bodySF (plainFor_of_name pn_46) hisR ?_
  intro p e s m args below meth c s₁ Bd hml0 hP hK
  obtain ⟨rfl, hZ, hh, hCH⟩ := hP
  have hx := Bd.exec
  have hby := Bd.bytes
  have hml : c.maxLocals = 13 := hml0
  have hown : s.vm.findClass "com/example/vestline/vestline/TerminationReasonNamedPinLaw" = some m.cls := findClass_of_methodNamed Bd.named
  have hnm := (name_of_methodNamed Bd.named Bd.method).1
  have X0 : Stand p l e room_1 (s.setVm s.vm) m #[(.int p1), (.int p2), (.int p3), (.int p4)] below meth c s₁ [] 0 0 := Stand.of_body Bd
  have e0 : s₁.heap = h0 := by rw [← hh, Bd.state]; rfl
  have N0 := Fr.nil n0
  refine ownOutH hh (P := (Q_law Z p1 p2 p3 p4 A kA EM P0 P1 W0 W1 B0 B1 kb0 kb1 G1 h0 n0)) ?_
  refine ownBy (A := s₁.setTop (mkF m 0 #[.val (.int p1), .val (.int p2), .val (.int p3), .val (.int p4), .unset, .unset, .unset, .unset, .unset, .unset, .unset, .unset, .unset] [])) (fun t k => castTop (ef_law m p1 p2 p3 p4) k) ?_
  have hS0 : s.Since s.vm h0.size := own_since
  have hEL := own_EW hw
  have R0 := CHr.refl hCH
  have wS := own_wS hw
  have hws : ∀ d ∈ StrChars.Road.words, d.before a0 Z = true := fun d hd => hw d ((by decide +kernel : ∀ d ∈ StrChars.Road.words, d ∈ tables_1) d hd)
  have heq : ∀ d ∈ StrChars.Road.wordsEq, d.before a0 Z = true := fun d hd => hw d ((by decide +kernel : ∀ d ∈ StrChars.Road.wordsEq, d ∈ tables_1) d hd)
  have hpw0 : ∀ c ∈ ([(100 : Int32), (101 : Int32), (97 : Int32), (116 : Int32), (104 : Int32)] : List Int32), ¬ c < 0 ∧ ¬ (255 : Int32) < c := by decide
  have hpw1 : ∀ c ∈ ([(100 : Int32), (105 : Int32), (115 : Int32), (97 : Int32), (98 : Int32), (105 : Int32), (108 : Int32), (105 : Int32), (116 : Int32), (121 : Int32)] : List Int32), ¬ c < 0 ∧ ¬ (255 : Int32) < c := by decide
  refine ownBy (A := s₁.setTop (mkF m 1 #[.val (.int p1), .val (.int p2), .val (.int p3), .val (.int p4), .unset, .unset, .unset, .unset, .unset, .unset, .unset, .unset, .unset] [(.int p1)])) (fun t kt => ?_) ?_
  · show Steps p.tables e below (s₁.setTop (mkF m 0 #[.val (.int p1), .val (.int p2), .val (.int p3), .val (.int p4), .unset, .unset, .unset, .unset, .unset, .unset, .unset, .unset, .unset] [])) t
    refine XS.iloadN X0.here hx rfl (hb hby at_0) rfl ?_
    exact kt
  refine ownBy (X0.ldcInt hx hown (mvT hZ (hw _ (List.mem_of_getElem? (i := 0) rfl))) (g := (mkF m 1 #[.val (.int p1), .val (.int p2), .val (.int p3), .val (.int p4), .unset, .unset, .unset, .unset, .unset, .unset, .unset, .unset, .unset] [(.int p1)])) rfl (hb hby at_1)) ?_
  show ownG p.tables e below _ (s₁.setTop (mkF m 3 #[.val (.int p1), .val (.int p2), .val (.int p3), .val (.int p4), .unset, .unset, .unset, .unset, .unset, .unset, .unset, .unset, .unset] [(.int (2147483647 : Int32)), (.int p1)]))
  refine ownBy (A := s₁.setTop (mkF m 26 #[.val (.int p1), .val (.int p2), .val (.int p3), .val (.int p4), .val (.int ((p1 &&& (2147483647 : Int32)) % (8 : Int32))), .val (.int ((p4 &&& (255 : Int32)).toUInt32.toUInt16.toUInt32.toInt32)), .val (.int ((p3 &&& (255 : Int32)).toUInt32.toUInt16.toUInt32.toInt32)), .unset, .unset, .unset, .unset, .unset, .unset] [(.int p2)])) (fun t kt => ?_) ?_
  · show Steps p.tables e below (s₁.setTop (mkF m 3 #[.val (.int p1), .val (.int p2), .val (.int p3), .val (.int p4), .unset, .unset, .unset, .unset, .unset, .unset, .unset, .unset, .unset] [(.int (2147483647 : Int32)), (.int p1)])) t
    refine XS.iand X0.here hx rfl (hb hby at_3) rfl ?_
    refine XS.bipush X0.here hx rfl (hb hby at_4) ?_
    show Steps p.tables e below (s₁.setTop (mkF m 6 #[.val (.int p1), .val (.int p2), .val (.int p3), .val (.int p4), .unset, .unset, .unset, .unset, .unset, .unset, .unset, .unset, .unset] [(.int (8 : Int32)), (.int (p1 &&& (2147483647 : Int32)))])) t
    refine iremM X0 hx rfl (hb hby at_6) rfl (by decide) ?_
    refine XS.istore X0.here hx rfl (hb hby at_7) rfl (l' := #[.val (.int p1), .val (.int p2), .val (.int p3), .val (.int p4), .val (.int ((p1 &&& (2147483647 : Int32)) % (8 : Int32))), .unset, .unset, .unset, .unset, .unset, .unset, .unset, .unset]) rfl ?_
    show Steps p.tables e below (s₁.setTop (mkF m 9 #[.val (.int p1), .val (.int p2), .val (.int p3), .val (.int p4), .val (.int ((p1 &&& (2147483647 : Int32)) % (8 : Int32))), .unset, .unset, .unset, .unset, .unset, .unset, .unset, .unset] [])) t
    refine XS.iloadN X0.here hx rfl (hb hby at_9) rfl ?_
    refine XS.sipush X0.here hx rfl (hb hby at_10) ?_
    show Steps p.tables e below (s₁.setTop (mkF m 13 #[.val (.int p1), .val (.int p2), .val (.int p3), .val (.int p4), .val (.int ((p1 &&& (2147483647 : Int32)) % (8 : Int32))), .unset, .unset, .unset, .unset, .unset, .unset, .unset, .unset] [(.int (255 : Int32)), (.int p4)])) t
    refine XS.iand X0.here hx rfl (hb hby at_13) rfl ?_
    refine XS.i2c X0.here hx rfl (hb hby at_14) rfl ?_
    show Steps p.tables e below (s₁.setTop (mkF m 15 #[.val (.int p1), .val (.int p2), .val (.int p3), .val (.int p4), .val (.int ((p1 &&& (2147483647 : Int32)) % (8 : Int32))), .unset, .unset, .unset, .unset, .unset, .unset, .unset, .unset] [(.int ((p4 &&& (255 : Int32)).toUInt32.toUInt16.toUInt32.toInt32))])) t
    refine XS.istore X0.here hx rfl (hb hby at_15) rfl (l' := #[.val (.int p1), .val (.int p2), .val (.int p3), .val (.int p4), .val (.int ((p1 &&& (2147483647 : Int32)) % (8 : Int32))), .val (.int ((p4 &&& (255 : Int32)).toUInt32.toUInt16.toUInt32.toInt32)), .unset, .unset, .unset, .unset, .unset, .unset, .unset]) rfl ?_
    refine XS.iloadN X0.here hx rfl (hb hby at_17) rfl ?_
    show Steps p.tables e below (s₁.setTop (mkF m 18 #[.val (.int p1), .val (.int p2), .val (.int p3), .val (.int p4), .val (.int ((p1 &&& (2147483647 : Int32)) % (8 : Int32))), .val (.int ((p4 &&& (255 : Int32)).toUInt32.toUInt16.toUInt32.toInt32)), .unset, .unset, .unset, .unset, .unset, .unset, .unset] [(.int p3)])) t
    refine XS.sipush X0.here hx rfl (hb hby at_18) ?_
    refine XS.iand X0.here hx rfl (hb hby at_21) rfl ?_
    show Steps p.tables e below (s₁.setTop (mkF m 22 #[.val (.int p1), .val (.int p2), .val (.int p3), .val (.int p4), .val (.int ((p1 &&& (2147483647 : Int32)) % (8 : Int32))), .val (.int ((p4 &&& (255 : Int32)).toUInt32.toUInt16.toUInt32.toInt32)), .unset, .unset, .unset, .unset, .unset, .unset, .unset] [(.int (p3 &&& (255 : Int32)))])) t
    refine XS.i2c X0.here hx rfl (hb hby at_22) rfl ?_
    refine XS.istore X0.here hx rfl (hb hby at_23) rfl (l' := #[.val (.int p1), .val (.int p2), .val (.int p3), .val (.int p4), .val (.int ((p1 &&& (2147483647 : Int32)) % (8 : Int32))), .val (.int ((p4 &&& (255 : Int32)).toUInt32.toUInt16.toUInt32.toInt32)), .val (.int ((p3 &&& (255 : Int32)).toUInt32.toUInt16.toUInt32.toInt32)), .unset, .unset, .unset, .unset, .unset, .unset]) rfl ?_
    show Steps p.tables e below (s₁.setTop (mkF m 25 #[.val (.int p1), .val (.int p2), .val (.int p3), .val (.int p4), .val (.int ((p1 &&& (2147483647 : Int32)) % (8 : Int32))), .val (.int ((p4 &&& (255 : Int32)).toUInt32.toUInt16.toUInt32.toInt32)), .val (.int ((p3 &&& (255 : Int32)).toUInt32.toUInt16.toUInt32.toInt32)), .unset, .unset, .unset, .unset, .unset, .unset] [])) t
    refine XS.iloadN X0.here hx rfl (hb hby at_25) rfl ?_
    exact kt
  refine ownBy (X0.ldcInt hx hown (mvT hZ (hw _ (List.mem_of_getElem? (i := 0) rfl))) (g := (mkF m 26 #[.val (.int p1), .val (.int p2), .val (.int p3), .val (.int p4), .val (.int ((p1 &&& (2147483647 : Int32)) % (8 : Int32))), .val (.int ((p4 &&& (255 : Int32)).toUInt32.toUInt16.toUInt32.toInt32)), .val (.int ((p3 &&& (255 : Int32)).toUInt32.toUInt16.toUInt32.toInt32)), .unset, .unset, .unset, .unset, .unset, .unset] [(.int p2)])) rfl (hb hby at_26)) ?_
  show ownG p.tables e below _ (s₁.setTop (mkF m 28 #[.val (.int p1), .val (.int p2), .val (.int p3), .val (.int p4), .val (.int ((p1 &&& (2147483647 : Int32)) % (8 : Int32))), .val (.int ((p4 &&& (255 : Int32)).toUInt32.toUInt16.toUInt32.toInt32)), .val (.int ((p3 &&& (255 : Int32)).toUInt32.toUInt16.toUInt32.toInt32)), .unset, .unset, .unset, .unset, .unset, .unset] [(.int (2147483647 : Int32)), (.int p2)]))
  refine ownBy (A := s₁.setTop (mkF m 38 #[.val (.int p1), .val (.int p2), .val (.int p3), .val (.int p4), .val (.int ((p1 &&& (2147483647 : Int32)) % (8 : Int32))), .val (.int ((p4 &&& (255 : Int32)).toUInt32.toUInt16.toUInt32.toInt32)), .val (.int ((p3 &&& (255 : Int32)).toUInt32.toUInt16.toUInt32.toInt32)), .val (.int ((p2 &&& (2147483647 : Int32)) % (12 : Int32))), .unset, .unset, .unset, .unset, .unset] [(.int ((p4 &&& (255 : Int32)).toUInt32.toUInt16.toUInt32.toInt32)), (.int ((p1 &&& (2147483647 : Int32)) % (8 : Int32)))])) (fun t kt => ?_) ?_
  · show Steps p.tables e below (s₁.setTop (mkF m 28 #[.val (.int p1), .val (.int p2), .val (.int p3), .val (.int p4), .val (.int ((p1 &&& (2147483647 : Int32)) % (8 : Int32))), .val (.int ((p4 &&& (255 : Int32)).toUInt32.toUInt16.toUInt32.toInt32)), .val (.int ((p3 &&& (255 : Int32)).toUInt32.toUInt16.toUInt32.toInt32)), .unset, .unset, .unset, .unset, .unset, .unset] [(.int (2147483647 : Int32)), (.int p2)])) t
    refine XS.iand X0.here hx rfl (hb hby at_28) rfl ?_
    refine XS.bipush X0.here hx rfl (hb hby at_29) ?_
    show Steps p.tables e below (s₁.setTop (mkF m 31 #[.val (.int p1), .val (.int p2), .val (.int p3), .val (.int p4), .val (.int ((p1 &&& (2147483647 : Int32)) % (8 : Int32))), .val (.int ((p4 &&& (255 : Int32)).toUInt32.toUInt16.toUInt32.toInt32)), .val (.int ((p3 &&& (255 : Int32)).toUInt32.toUInt16.toUInt32.toInt32)), .unset, .unset, .unset, .unset, .unset, .unset] [(.int (12 : Int32)), (.int (p2 &&& (2147483647 : Int32)))])) t
    refine iremM X0 hx rfl (hb hby at_31) rfl (by decide) ?_
    refine XS.istore X0.here hx rfl (hb hby at_32) rfl (l' := #[.val (.int p1), .val (.int p2), .val (.int p3), .val (.int p4), .val (.int ((p1 &&& (2147483647 : Int32)) % (8 : Int32))), .val (.int ((p4 &&& (255 : Int32)).toUInt32.toUInt16.toUInt32.toInt32)), .val (.int ((p3 &&& (255 : Int32)).toUInt32.toUInt16.toUInt32.toInt32)), .val (.int ((p2 &&& (2147483647 : Int32)) % (12 : Int32))), .unset, .unset, .unset, .unset, .unset]) rfl ?_
    show Steps p.tables e below (s₁.setTop (mkF m 34 #[.val (.int p1), .val (.int p2), .val (.int p3), .val (.int p4), .val (.int ((p1 &&& (2147483647 : Int32)) % (8 : Int32))), .val (.int ((p4 &&& (255 : Int32)).toUInt32.toUInt16.toUInt32.toInt32)), .val (.int ((p3 &&& (255 : Int32)).toUInt32.toUInt16.toUInt32.toInt32)), .val (.int ((p2 &&& (2147483647 : Int32)) % (12 : Int32))), .unset, .unset, .unset, .unset, .unset] [])) t
    refine XS.iload X0.here hx rfl (hb hby at_34) rfl ?_
    refine XS.iload X0.here hx rfl (hb hby at_36) rfl ?_
    exact kt
  obtain ⟨vv331, _, ⟨T331, L331, k331, n331⟩, -, X331, ⟨Lc331, hQ331, l331, y331, z331⟩, st331⟩ := Jvm.LawKit.callS X0 hx (y := (⟨"com/example/vestline/vestline/TerminationReasonNamedPinLaw", "build", "(IC)[C"⟩ : MethodName)) hown (mvT hZ (hw _ (List.mem_of_getElem? (i := 1) rfl))) (mvT hZ (hw _ (List.mem_of_getElem? (i := 2) rfl))) (mvT hZ (hw _ (List.mem_of_getElem? (i := 3) rfl))) (mvT hZ (hw _ (List.mem_of_getElem? (i := 4) rfl))) (by decide) (backOf (W := 0) (c_bld l Z a0 hw [] ((p1 &&& (2147483647 : Int32)) % (8 : Int32)) ((p4 &&& (255 : Int32)).toUInt32.toUInt16.toUInt32.toInt32) h0 n0 Z0 (own_and255p p4)) hZ (hw _ (List.mem_of_getElem? (i := 4) rfl)) (hw _ (List.mem_of_getElem? (i := 3) rfl)) (by decide) (by decide)) (g := (mkF m 38 #[.val (.int p1), .val (.int p2), .val (.int p3), .val (.int p4), .val (.int ((p1 &&& (2147483647 : Int32)) % (8 : Int32))), .val (.int ((p4 &&& (255 : Int32)).toUInt32.toUInt16.toUInt32.toInt32)), .val (.int ((p3 &&& (255 : Int32)).toUInt32.toUInt16.toUInt32.toInt32)), .val (.int ((p2 &&& (2147483647 : Int32)) % (12 : Int32))), .unset, .unset, .unset, .unset, .unset] [(.int ((p4 &&& (255 : Int32)).toUInt32.toUInt16.toUInt32.toInt32)), (.int ((p1 &&& (2147483647 : Int32)) % (8 : Int32)))])) rfl (by rw [hml]; rfl) (argsL := [(.int ((p1 &&& (2147483647 : Int32)) % (8 : Int32))), (.int ((p4 &&& (255 : Int32)).toUInt32.toUInt16.toUInt32.toInt32))]) (rest := []) (lenOf pd_332 rfl) rfl (by show 2 * 0 + _ ≤ _; exact Nat.le_of_eq rfl) (hb hby at_38) (fun _ _ => ⟨rfl, e0, (by decide : 0 + 1 ≤ _), (by decide : 0 + 11 ≤ _)⟩)
  dsimp only [Pt.U, Pt.locs, Pt.cells, Pt.slots] at X331 l331 y331 z331 st331 hQ331
  subst l331 y331 z331
  obtain ⟨x331, kx331, cs331, rfl, Nq331, Kq331, zq331, Aq331, hp331, hl331⟩ := hQ331
  have g333 : n0 ≤ x331 := Nat.le_trans Z0 zq331
  have sf334 : Safe Z ownEL s.vm h0 x331 := Safe.new zq331
  have z335 : h0.size ≤ x331 := Nat.le_trans (Keep.refl h0 []).1 zq331
  have N336 := Fr.app N0 Nq331
  have R337 := R0.trans (CHr.keep Kq331 sf0 R0.1)
  have sf338 := Safe.keep Kq331 sf0 R0.1 sf334
  refine ownBy st331 ?_
  show ownG p.tables e below _ (T331.setTop (mkF m 41 #[.val (.int p1), .val (.int p2), .val (.int p3), .val (.int p4), .val (.int ((p1 &&& (2147483647 : Int32)) % (8 : Int32))), .val (.int ((p4 &&& (255 : Int32)).toUInt32.toUInt16.toUInt32.toInt32)), .val (.int ((p3 &&& (255 : Int32)).toUInt32.toUInt16.toUInt32.toInt32)), .val (.int ((p2 &&& (2147483647 : Int32)) % (12 : Int32))), .unset, .unset, .unset, .unset, .unset] [(.ref x331)]))
  refine ownBy (A := T331.setTop (mkF m 47 #[.val (.int p1), .val (.int p2), .val (.int p3), .val (.int p4), .val (.int ((p1 &&& (2147483647 : Int32)) % (8 : Int32))), .val (.int ((p4 &&& (255 : Int32)).toUInt32.toUInt16.toUInt32.toInt32)), .val (.int ((p3 &&& (255 : Int32)).toUInt32.toUInt16.toUInt32.toInt32)), .val (.int ((p2 &&& (2147483647 : Int32)) % (12 : Int32))), .val (.ref x331), .unset, .unset, .unset, .unset] [(.ref x331), (.int ((p2 &&& (2147483647 : Int32)) % (12 : Int32)))])) (fun t kt => ?_) ?_
  · show Steps p.tables e below (T331.setTop (mkF m 41 #[.val (.int p1), .val (.int p2), .val (.int p3), .val (.int p4), .val (.int ((p1 &&& (2147483647 : Int32)) % (8 : Int32))), .val (.int ((p4 &&& (255 : Int32)).toUInt32.toUInt16.toUInt32.toInt32)), .val (.int ((p3 &&& (255 : Int32)).toUInt32.toUInt16.toUInt32.toInt32)), .val (.int ((p2 &&& (2147483647 : Int32)) % (12 : Int32))), .unset, .unset, .unset, .unset, .unset] [(.ref x331)])) t
    refine XS.astore X331.here hx rfl (hb hby at_41) rfl rfl (l' := #[.val (.int p1), .val (.int p2), .val (.int p3), .val (.int p4), .val (.int ((p1 &&& (2147483647 : Int32)) % (8 : Int32))), .val (.int ((p4 &&& (255 : Int32)).toUInt32.toUInt16.toUInt32.toInt32)), .val (.int ((p3 &&& (255 : Int32)).toUInt32.toUInt16.toUInt32.toInt32)), .val (.int ((p2 &&& (2147483647 : Int32)) % (12 : Int32))), .val (.ref x331), .unset, .unset, .unset, .unset]) rfl ?_
    refine XS.iload X331.here hx rfl (hb hby at_43) rfl ?_
    show Steps p.tables e below (T331.setTop (mkF m 45 #[.val (.int p1), .val (.int p2), .val (.int p3), .val (.int p4), .val (.int ((p1 &&& (2147483647 : Int32)) % (8 : Int32))), .val (.int ((p4 &&& (255 : Int32)).toUInt32.toUInt16.toUInt32.toInt32)), .val (.int ((p3 &&& (255 : Int32)).toUInt32.toUInt16.toUInt32.toInt32)), .val (.int ((p2 &&& (2147483647 : Int32)) % (12 : Int32))), .val (.ref x331), .unset, .unset, .unset, .unset] [(.int ((p2 &&& (2147483647 : Int32)) % (12 : Int32)))])) t
    refine XS.aload X331.here hx rfl (hb hby at_45) rfl rfl ?_
    exact kt
  obtain ⟨cl339, Ar339, -, S339, N339, -, -⟩ := id Aq331
  have st339 := X331.arraylength hx Ar339.1 (State.isArrayOf_alike hZ.alike Ar339.2.1) (g := (mkF m 47 #[.val (.int p1), .val (.int p2), .val (.int p3), .val (.int p4), .val (.int ((p1 &&& (2147483647 : Int32)) % (8 : Int32))), .val (.int ((p4 &&& (255 : Int32)).toUInt32.toUInt16.toUInt32.toInt32)), .val (.int ((p3 &&& (255 : Int32)).toUInt32.toUInt16.toUInt32.toInt32)), .val (.int ((p2 &&& (2147483647 : Int32)) % (12 : Int32))), .val (.ref x331), .unset, .unset, .unset, .unset] [(.ref x331), (.int ((p2 &&& (2147483647 : Int32)) % (12 : Int32)))])) rfl rfl (hb hby at_47)
  rw [len_of S339 N339] at st339
  refine ownBy st339 ?_
  show ownG p.tables e below _ (T331.setTop (mkF m 48 #[.val (.int p1), .val (.int p2), .val (.int p3), .val (.int p4), .val (.int ((p1 &&& (2147483647 : Int32)) % (8 : Int32))), .val (.int ((p4 &&& (255 : Int32)).toUInt32.toUInt16.toUInt32.toInt32)), .val (.int ((p3 &&& (255 : Int32)).toUInt32.toUInt16.toUInt32.toInt32)), .val (.int ((p2 &&& (2147483647 : Int32)) % (12 : Int32))), .val (.ref x331), .unset, .unset, .unset, .unset] [(.int (Int32.ofNat cs331.length)), (.int ((p2 &&& (2147483647 : Int32)) % (12 : Int32)))]))
  by_cases hc340 : ((p2 &&& (2147483647 : Int32)) % (12 : Int32)) < (Int32.ofNat cs331.length)
  · skip
    refine ownBy (A := T331.setTop (mkF m 57 #[.val (.int p1), .val (.int p2), .val (.int p3), .val (.int p4), .val (.int ((p1 &&& (2147483647 : Int32)) % (8 : Int32))), .val (.int ((p4 &&& (255 : Int32)).toUInt32.toUInt16.toUInt32.toInt32)), .val (.int ((p3 &&& (255 : Int32)).toUInt32.toUInt16.toUInt32.toInt32)), .val (.int ((p2 &&& (2147483647 : Int32)) % (12 : Int32))), .val (.ref x331), .unset, .unset, .unset, .unset] [(.int ((p3 &&& (255 : Int32)).toUInt32.toUInt16.toUInt32.toInt32)), (.int ((p2 &&& (2147483647 : Int32)) % (12 : Int32))), (.ref x331)])) (fun t kt => ?_) ?_
    · show Steps p.tables e below (T331.setTop (mkF m 48 #[.val (.int p1), .val (.int p2), .val (.int p3), .val (.int p4), .val (.int ((p1 &&& (2147483647 : Int32)) % (8 : Int32))), .val (.int ((p4 &&& (255 : Int32)).toUInt32.toUInt16.toUInt32.toInt32)), .val (.int ((p3 &&& (255 : Int32)).toUInt32.toUInt16.toUInt32.toInt32)), .val (.int ((p2 &&& (2147483647 : Int32)) % (12 : Int32))), .val (.ref x331), .unset, .unset, .unset, .unset] [(.int (Int32.ofNat cs331.length)), (.int ((p2 &&& (2147483647 : Int32)) % (12 : Int32)))])) t
      refine XS.icmpNo X331.here hx rfl (hb hby at_48) rfl (tlt hc340).2.1 ?_
      refine XS.aload X331.here hx rfl (hb hby at_51) rfl rfl ?_
      show Steps p.tables e below (T331.setTop (mkF m 53 #[.val (.int p1), .val (.int p2), .val (.int p3), .val (.int p4), .val (.int ((p1 &&& (2147483647 : Int32)) % (8 : Int32))), .val (.int ((p4 &&& (255 : Int32)).toUInt32.toUInt16.toUInt32.toInt32)), .val (.int ((p3 &&& (255 : Int32)).toUInt32.toUInt16.toUInt32.toInt32)), .val (.int ((p2 &&& (2147483647 : Int32)) % (12 : Int32))), .val (.ref x331), .unset, .unset, .unset, .unset] [(.ref x331)])) t
      refine XS.iload X331.here hx rfl (hb hby at_53) rfl ?_
      refine XS.iload X331.here hx rfl (hb hby at_55) rfl ?_
      exact kt
    obtain ⟨cl341, Ar341, q341, S341, N341, H341, G341⟩ := id Aq331
    have hnn341 := own_rem_nn p2 (12 : Int32) (by decide)
    have hix341 := own_idx hnn341 hc340 (Nat.le_trans hl331 (by decide))
    have hin341 : ¬ (((p2 &&& (2147483647 : Int32)) % (12 : Int32)) < 0 ∨ cl341.slots.size ≤ (((p2 &&& (2147483647 : Int32)) % (12 : Int32))).toNatClampNeg) := inb_of S341 ⟨hnn341, hc340⟩
    obtain ⟨T341, h341, X341, e341, W341, st341⟩ := stC X331 hx hZ rfl Ar341 (j := ((p2 &&& (2147483647 : Int32)) % (12 : Int32))) hin341 (g := (mkF m 57 #[.val (.int p1), .val (.int p2), .val (.int p3), .val (.int p4), .val (.int ((p1 &&& (2147483647 : Int32)) % (8 : Int32))), .val (.int ((p4 &&& (255 : Int32)).toUInt32.toUInt16.toUInt32.toInt32)), .val (.int ((p3 &&& (255 : Int32)).toUInt32.toUInt16.toUInt32.toInt32)), .val (.int ((p2 &&& (2147483647 : Int32)) % (12 : Int32))), .val (.ref x331), .unset, .unset, .unset, .unset] [(.int ((p3 &&& (255 : Int32)).toUInt32.toUInt16.toUInt32.toInt32)), (.int ((p2 &&& (2147483647 : Int32)) % (12 : Int32))), (.ref x331)])) rfl rfl (hb hby at_57)
    have V341 := Arv.set Ar341 q341 S341 N341 H341 G341 (fits_nar_char ((p3 &&& (255 : Int32)).toUInt32.toUInt16.toUInt32.toInt32)) W341 (((p2 &&& (2147483647 : Int32)) % (12 : Int32))).toNatClampNeg rfl (by rw [List.length_map]; exact hix341)
    rw [own_nar_rng (own_and255p p3).1 (own_and255p p3).2, ← List.map_set] at V341
    have hp341 := own_set_rng (i := (((p2 &&& (2147483647 : Int32)) % (12 : Int32))).toNatClampNeg) hp331 (own_and255p p3)
    have hl341 : (cs331.set (((p2 &&& (2147483647 : Int32)) % (12 : Int32))).toNatClampNeg ((p3 &&& (255 : Int32)).toUInt32.toUInt16.toUInt32.toInt32)).length = cs331.length := List.length_set
    obtain ⟨cs341, hcs341⟩ : ∃ q, q = cs331.set (((p2 &&& (2147483647 : Int32)) % (12 : Int32))).toNatClampNeg ((p3 &&& (255 : Int32)).toUInt32.toUInt16.toUInt32.toInt32) := ⟨_, rfl⟩
    rw [← hcs341] at V341 hp341 hl341
    rw [← hl341] at V341 hix341
    have hm341 : cs341.length ≤ 11 := by rw [hl341]; exact hl331
    have N342 := Fr.snoc X341 N336 g333
    have R343 := R337.trans (CHr.wr W341 sf338 R337.1)
    have sf344 := Safe.wr W341 sf338 R337.1 sf338
    refine ownBy st341 ?_
    show ownG p.tables e below _ (T341.setTop (mkF m 58 #[.val (.int p1), .val (.int p2), .val (.int p3), .val (.int p4), .val (.int ((p1 &&& (2147483647 : Int32)) % (8 : Int32))), .val (.int ((p4 &&& (255 : Int32)).toUInt32.toUInt16.toUInt32.toInt32)), .val (.int ((p3 &&& (255 : Int32)).toUInt32.toUInt16.toUInt32.toInt32)), .val (.int ((p2 &&& (2147483647 : Int32)) % (12 : Int32))), .val (.ref x331), .unset, .unset, .unset, .unset] []))
    obtain ⟨T345, h345, X345, e345, E345, A345, D345, -, st345⟩ := newO X341 hx hZ hown (hw _ (List.mem_of_getElem? (i := 6) rfl)) (hw _ (List.mem_of_getElem? (i := 7) rfl)) (hw _ (List.mem_of_getElem? (i := 8) rfl)) e341 (g := (mkF m 58 #[.val (.int p1), .val (.int p2), .val (.int p3), .val (.int p4), .val (.int ((p1 &&& (2147483647 : Int32)) % (8 : Int32))), .val (.int ((p4 &&& (255 : Int32)).toUInt32.toUInt16.toUInt32.toInt32)), .val (.int ((p3 &&& (255 : Int32)).toUInt32.toUInt16.toUInt32.toInt32)), .val (.int ((p2 &&& (2147483647 : Int32)) % (12 : Int32))), .val (.ref x331), .unset, .unset, .unset, .unset] [])) rfl (hb hby at_58) (by decide) (by decide)
    obtain ⟨b345, g345⟩ : ∃ z, z = h341.size := ⟨_, rfl⟩
    rw [← g345] at A345 D345 st345
    have ne346 : x331 ≠ b345 := Nat.ne_of_lt (Nat.lt_of_lt_of_le V341.lt (Nat.le_of_eq g345.symm))
    have f348 := (Nat.le_trans (Nat.le_trans Z0 Kq331.1) (Keep.of_wr W341).1)
    have g347 : n0 ≤ b345 := Nat.le_trans f348 (Nat.le_of_eq g345.symm)
    have sf349 : Safe Z ownEL s.vm h341 b345 := Safe.new (Nat.le_of_eq g345.symm)
    have f351 := (((Keep.refl h0 []).trans Kq331 all0).wr W341 (Or.inr z335))
    have z350 : h0.size ≤ b345 := Nat.le_trans f351.1 (Nat.le_of_eq g345.symm)
    have R352 := R343.trans (CHr.ext E345 R343.1)
    have sf353 := Safe.ext E345 R343.1 sf344
    have sf354 := Safe.ext E345 R343.1 sf349
    have F355 : Fld Z h345 b345 "java/lang/String" "value" "[B" .null := D345 (Or.inr (hw _ (List.mem_of_getElem? (i := 21) rfl))) (ty := (.array .byte)) (by decide)
    have F356 : Fld Z h345 b345 "java/lang/String" "coder" "B" (.int (0 : Int32)) := D345 (Or.inr (hw _ (List.mem_of_getElem? (i := 22) rfl))) (ty := .byte) (by decide)
    refine ownBy st345 ?_
    show ownG p.tables e below _ (T345.setTop (mkF m 61 #[.val (.int p1), .val (.int p2), .val (.int p3), .val (.int p4), .val (.int ((p1 &&& (2147483647 : Int32)) % (8 : Int32))), .val (.int ((p4 &&& (255 : Int32)).toUInt32.toUInt16.toUInt32.toInt32)), .val (.int ((p3 &&& (255 : Int32)).toUInt32.toUInt16.toUInt32.toInt32)), .val (.int ((p2 &&& (2147483647 : Int32)) % (12 : Int32))), .val (.ref x331), .unset, .unset, .unset, .unset] [(.ref b345)]))
    refine ownBy (A := T345.setTop (mkF m 64 #[.val (.int p1), .val (.int p2), .val (.int p3), .val (.int p4), .val (.int ((p1 &&& (2147483647 : Int32)) % (8 : Int32))), .val (.int ((p4 &&& (255 : Int32)).toUInt32.toUInt16.toUInt32.toInt32)), .val (.int ((p3 &&& (255 : Int32)).toUInt32.toUInt16.toUInt32.toInt32)), .val (.int ((p2 &&& (2147483647 : Int32)) % (12 : Int32))), .val (.ref x331), .unset, .unset, .unset, .unset] [(.ref x331), (.ref b345), (.ref b345)])) (fun t kt => ?_) ?_
    · show Steps p.tables e below (T345.setTop (mkF m 61 #[.val (.int p1), .val (.int p2), .val (.int p3), .val (.int p4), .val (.int ((p1 &&& (2147483647 : Int32)) % (8 : Int32))), .val (.int ((p4 &&& (255 : Int32)).toUInt32.toUInt16.toUInt32.toInt32)), .val (.int ((p3 &&& (255 : Int32)).toUInt32.toUInt16.toUInt32.toInt32)), .val (.int ((p2 &&& (2147483647 : Int32)) % (12 : Int32))), .val (.ref x331), .unset, .unset, .unset, .unset] [(.ref b345)])) t
      refine XS.dup X345.here hx rfl (hb hby at_61) rfl rfl ?_
      refine XS.aload X345.here hx rfl (hb hby at_62) rfl rfl ?_
      exact kt
    have f357 := (Nat.le_trans f348 E345.1)
    have f358 := (V341.ext E345)
    have f359 := (((X00.keep Kq331 all0).wr W341 g333).ext E345)
    obtain ⟨vv360, _, ⟨T360, L360, k360, n360⟩, -, X360, ⟨Lc360, hQ360, l360, y360, z360⟩, st360⟩ := X345.specialBack hx (y := (⟨"java/lang/String", "<init>", "([C)V"⟩ : MethodName)) rfl hown (mvT hZ (hw _ (List.mem_of_getElem? (i := 9) rfl))) (mvT hZ (hw _ (List.mem_of_getElem? (i := 10) rfl))) (mvT hZ (hw _ (List.mem_of_getElem? (i := 11) rfl))) (by decide) (StrChars.Road.backV (W := 1) hZ hws (kI := 4) (hw _ (List.mem_of_getElem? (i := 7) rfl)) (cs := cs341) (bs := cs341.map (fun c => c.toInt8.toInt32)) (n := cs341.length) g347 f357 A345 F355 F356 f358 (O2.ext f359.2) P5 rfl rfl (Nat.lt_of_le_of_lt (Nat.zero_le _) hix341) (Nat.le_trans hm341 (by decide)) hp341 rfl (by decide) (by decide)) (g := (mkF m 64 #[.val (.int p1), .val (.int p2), .val (.int p3), .val (.int p4), .val (.int ((p1 &&& (2147483647 : Int32)) % (8 : Int32))), .val (.int ((p4 &&& (255 : Int32)).toUInt32.toUInt16.toUInt32.toInt32)), .val (.int ((p3 &&& (255 : Int32)).toUInt32.toUInt16.toUInt32.toInt32)), .val (.int ((p2 &&& (2147483647 : Int32)) % (12 : Int32))), .val (.ref x331), .unset, .unset, .unset, .unset] [(.ref x331), (.ref b345), (.ref b345)])) rfl (by rw [hml]; rfl) (Steps.refl _) (a := b345) (argsL := [(.ref x331)]) (rest := [(.ref b345)]) (lenOf pd_361 rfl) rfl (by show 2 * 0 + _ ≤ _; exact Nat.le_of_eq rfl) (hb hby at_64) (fun _ _ => ⟨rfl, e345, (by decide : 2 + 1 ≤ _), (Nat.le_trans (Nat.add_le_add_left hm341 _) (by decide : 15 + 11 ≤ _))⟩)
    dsimp only [Pt.U, Pt.locs, Pt.cells, Pt.slots] at X360 l360 y360 z360 st360 hQ360
    subst l360 y360 z360
    obtain ⟨rfl, Nq360, Kq360, Eq360, Cq360, t360, kb360, u360, v360, w360, Vq360, Aq360⟩ := hQ360
    have X360 := X360.more (Nat.le_refl _) (show _ ≤ 15 + 11 from Nat.add_le_add_left hm341 _)
    have ne362 : x331 ≠ t360 := Nat.ne_of_lt (Nat.lt_of_lt_of_le f358.lt v360)
    have ne363 : b345 ≠ t360 := Nat.ne_of_lt (Nat.lt_of_lt_of_le A345.lt v360)
    have g364 : n0 ≤ t360 := Nat.le_trans f357 v360
    have sf365 : Safe Z ownEL s.vm h345 t360 := Safe.new v360
    have f367 := (f351.ext E345)
    have z366 : h0.size ≤ t360 := Nat.le_trans f367.1 v360
    have N368 := Fr.app N342 Nq360
    have R369 := R352.trans (CHr.keep Kq360 (sfS sf354 sf0) R352.1)
    have sf370 := Safe.keep Kq360 (sfS sf354 sf0) R352.1 sf353
    have sf371 := Safe.keep Kq360 (sfS sf354 sf0) R352.1 sf354
    have sf372 := Safe.keep Kq360 (sfS sf354 sf0) R352.1 sf365
    refine ownSt st360 ?_
    show ownG p.tables e below _ (T360.setTop (mkF m 67 #[.val (.int p1), .val (.int p2), .val (.int p3), .val (.int p4), .val (.int ((p1 &&& (2147483647 : Int32)) % (8 : Int32))), .val (.int ((p4 &&& (255 : Int32)).toUInt32.toUInt16.toUInt32.toInt32)), .val (.int ((p3 &&& (255 : Int32)).toUInt32.toUInt16.toUInt32.toInt32)), .val (.int ((p2 &&& (2147483647 : Int32)) % (12 : Int32))), .val (.ref x331), .unset, .unset, .unset, .unset] [(.ref b345)]))
    refine ownBy (A := T360.setTop (mkF m 74 #[.val (.int p1), .val (.int p2), .val (.int p3), .val (.int p4), .val (.int ((p1 &&& (2147483647 : Int32)) % (8 : Int32))), .val (.int ((p4 &&& (255 : Int32)).toUInt32.toUInt16.toUInt32.toInt32)), .val (.int ((p3 &&& (255 : Int32)).toUInt32.toUInt16.toUInt32.toInt32)), .val (.int ((p2 &&& (2147483647 : Int32)) % (12 : Int32))), .val (.ref x331), .val (.ref b345), .val .null, .unset, .unset] [(.ref b345)])) (fun t kt => ?_) ?_
    · show Steps p.tables e below (T360.setTop (mkF m 67 #[.val (.int p1), .val (.int p2), .val (.int p3), .val (.int p4), .val (.int ((p1 &&& (2147483647 : Int32)) % (8 : Int32))), .val (.int ((p4 &&& (255 : Int32)).toUInt32.toUInt16.toUInt32.toInt32)), .val (.int ((p3 &&& (255 : Int32)).toUInt32.toUInt16.toUInt32.toInt32)), .val (.int ((p2 &&& (2147483647 : Int32)) % (12 : Int32))), .val (.ref x331), .unset, .unset, .unset, .unset] [(.ref b345)])) t
      refine XS.astore X360.here hx rfl (hb hby at_67) rfl rfl (l' := #[.val (.int p1), .val (.int p2), .val (.int p3), .val (.int p4), .val (.int ((p1 &&& (2147483647 : Int32)) % (8 : Int32))), .val (.int ((p4 &&& (255 : Int32)).toUInt32.toUInt16.toUInt32.toInt32)), .val (.int ((p3 &&& (255 : Int32)).toUInt32.toUInt16.toUInt32.toInt32)), .val (.int ((p2 &&& (2147483647 : Int32)) % (12 : Int32))), .val (.ref x331), .val (.ref b345), .unset, .unset, .unset]) rfl ?_
      refine XS.aconstNull X360.here hx rfl (hb hby at_69) ?_
      show Steps p.tables e below (T360.setTop (mkF m 70 #[.val (.int p1), .val (.int p2), .val (.int p3), .val (.int p4), .val (.int ((p1 &&& (2147483647 : Int32)) % (8 : Int32))), .val (.int ((p4 &&& (255 : Int32)).toUInt32.toUInt16.toUInt32.toInt32)), .val (.int ((p3 &&& (255 : Int32)).toUInt32.toUInt16.toUInt32.toInt32)), .val (.int ((p2 &&& (2147483647 : Int32)) % (12 : Int32))), .val (.ref x331), .val (.ref b345), .unset, .unset, .unset] [.null])) t
      refine XS.astore X360.here hx rfl (hb hby at_70) rfl rfl (l' := #[.val (.int p1), .val (.int p2), .val (.int p3), .val (.int p4), .val (.int ((p1 &&& (2147483647 : Int32)) % (8 : Int32))), .val (.int ((p4 &&& (255 : Int32)).toUInt32.toUInt16.toUInt32.toInt32)), .val (.int ((p3 &&& (255 : Int32)).toUInt32.toUInt16.toUInt32.toInt32)), .val (.int ((p2 &&& (2147483647 : Int32)) % (12 : Int32))), .val (.ref x331), .val (.ref b345), .val .null, .unset, .unset]) rfl ?_
      refine XS.aload X360.here hx rfl (hb hby at_72) rfl rfl ?_
      exact kt
    obtain ⟨a373, T373, h373, k373, b373, kb373, X373, e373, E373, hS373, hk373, hZ373, hown373, A373, C373, V373, Ab373, -, -, hC373, Lt373, hne373, st373⟩ := ldcCH (text := "death") X360 hx hZ hown (hw _ (List.mem_of_getElem? (i := 27) rfl)) wS rfl hS0 (Nat.le_trans (Nat.le_trans (Nat.le_trans (Nat.le_trans (Nat.le_refl _) Kq331.1) (Keep.of_wr W341).1) E345.1) Kq360.1) hEL (by simp [ownEL]) R369.1 (vs := [(.int (100 : Int32)), (.int (101 : Int32)), (.int (97 : Int32)), (.int (116 : Int32)), (.int (104 : Int32))]) (z := (5 : Int32)) ⟨by decide, by decide⟩ (by decide) rfl (g := (mkF m 74 #[.val (.int p1), .val (.int p2), .val (.int p3), .val (.int p4), .val (.int ((p1 &&& (2147483647 : Int32)) % (8 : Int32))), .val (.int ((p4 &&& (255 : Int32)).toUInt32.toUInt16.toUInt32.toInt32)), .val (.int ((p3 &&& (255 : Int32)).toUInt32.toUInt16.toUInt32.toInt32)), .val (.int ((p2 &&& (2147483647 : Int32)) % (12 : Int32))), .val (.ref x331), .val (.ref b345), .val .null, .unset, .unset] [(.ref b345)])) rfl (hb hby at_74) (n := 20) (by decide) (by decide) (by decide) (by decide)
    have R375 := R369.trans hC373
    have f377 := (f358.keep Kq360 (ninS ne346 nin0))
    have sf376 := CHr.safe hC373 f377.lt sf370
    have f379 := (A345.keep Kq360)
    have sf378 := CHr.safe hC373 f379.lt sf371
    have sf380 := CHr.safe hC373 Aq360.lt sf372
    have ne381 := hne373 x331 sf376
    have ne382 := hne373 b345 sf378
    have ne383 := hne373 t360 sf380
    refine ownBy st373 ?_
    show ownG p.tables e below _ (T373.setTop (mkF m 76 #[.val (.int p1), .val (.int p2), .val (.int p3), .val (.int p4), .val (.int ((p1 &&& (2147483647 : Int32)) % (8 : Int32))), .val (.int ((p4 &&& (255 : Int32)).toUInt32.toUInt16.toUInt32.toInt32)), .val (.int ((p3 &&& (255 : Int32)).toUInt32.toUInt16.toUInt32.toInt32)), .val (.int ((p2 &&& (2147483647 : Int32)) % (12 : Int32))), .val (.ref x331), .val (.ref b345), .val .null, .unset, .unset] [(.ref a373), (.ref b345)]))
    have hcd384 : StrChars.Road.CodA cs341 0 (Int32.ofNat cs341.length) ((cs341.map (fun c => c.toInt8.toInt32)).map Value.int) := StrChars.Road.codOf rfl (fun x hx => (hp341 x hx).2)
    have hbd384 : ∀ x ∈ cs341, ¬ x < 0 ∧ ¬ (65535 : Int32) < x := own_up _ hp341
    have f385 := (f379.ext E373)
    have f386 := (Vq360.ext E373)
    have f387 := (Cq360.ext E373)
    have f388 := (Aq360.ext E373)
    have hpl389 : ∀ c ∈ ([(100 : Int32), (101 : Int32), (97 : Int32), (116 : Int32), (104 : Int32)] : List Int32), ¬ c < 0 ∧ ¬ (255 : Int32) < c := by decide
    have hcd389 : StrChars.Road.CodA ([(100 : Int32), (101 : Int32), (97 : Int32), (116 : Int32), (104 : Int32)] : List Int32) 0 (5 : Int32) ((([(100 : Int32), (101 : Int32), (97 : Int32), (116 : Int32), (104 : Int32)] : List Int32).map (fun c => c.toInt8.toInt32)).map Value.int) := StrChars.Road.codOf (n := 5) rfl (fun x hx => (hpl389 x hx).2)
    have hbd389 : ∀ x ∈ ([(100 : Int32), (101 : Int32), (97 : Int32), (116 : Int32), (104 : Int32)] : List Int32), ¬ x < 0 ∧ ¬ (65535 : Int32) < x := own_up _ hpl389
    have f390 := ((f359.keep Kq360 (allS g347 all0)).ext E373)
    obtain ⟨cq391, kq391, q391a, q391b, q391c⟩ := isOf hZ373 e373 f385
    obtain ⟨vv391, _, ⟨T391, L391, k391, n391⟩, -, X391, ⟨Lc391, hQ391, l391, y391, z391⟩, st391⟩ := X373.virtualBack hx (y := (⟨"java/lang/String", "equals", "(Ljava/lang/Object;)Z"⟩ : MethodName)) (z := (⟨"java/lang/String", "equals", "(Ljava/lang/Object;)Z"⟩ : MethodName)) hown373 (mvT hZ373 (hw _ (List.mem_of_getElem? (i := 28) rfl))) (mvT hZ373 (hw _ (List.mem_of_getElem? (i := 29) rfl))) (notFace_of_selects (args := #[]) (mvT hZ373 (hw _ (List.mem_of_getElem? (i := 31) rfl)))) (mvT hZ373 (hw _ (List.mem_of_getElem? (i := 31) rfl))) (mvT hZ373 (hw _ (List.mem_of_getElem? (i := 30) rfl))) (by decide) (StrChars.Road.eqW (W := 0) hZ373 heq (kI := 4) (hw _ (List.mem_of_getElem? (i := 7) rfl)) f385 f386 f387 f388 hcd384 hbd384 (Nat.le_trans hm341 (by decide)) A373 V373 C373 Ab373 hcd389 hbd389 (Nat.le_of_ble_eq_true rfl) (O2.ext f390.2) P5 (by decide) (by decide)) q391a q391c (g := (mkF m 76 #[.val (.int p1), .val (.int p2), .val (.int p3), .val (.int p4), .val (.int ((p1 &&& (2147483647 : Int32)) % (8 : Int32))), .val (.int ((p4 &&& (255 : Int32)).toUInt32.toUInt16.toUInt32.toInt32)), .val (.int ((p3 &&& (255 : Int32)).toUInt32.toUInt16.toUInt32.toInt32)), .val (.int ((p2 &&& (2147483647 : Int32)) % (12 : Int32))), .val (.ref x331), .val (.ref b345), .val .null, .unset, .unset] [(.ref a373), (.ref b345)])) rfl (by rw [hml]; rfl) (Steps.refl _) (argsL := [(.ref a373)]) (rest := []) (lenOf pd_291 rfl) rfl (by show 2 * 0 + _ ≤ _; exact Nat.le_of_eq rfl) (hb hby at_76) (fun _ _ => ⟨rfl, e373, (by decide : 5 + 0 ≤ _), (by decide : 50 + 0 ≤ _)⟩)
    dsimp only [Pt.U, Pt.locs, Pt.cells, Pt.slots] at X391 l391 y391 z391 st391 hQ391
    subst l391 y391 z391
    obtain ⟨hE391, rfl, Eq391⟩ := hQ391
    have Nq391 : Fr n0 ([] : List Loc) := Fr.nil n0
    rcases hE391 with ⟨rfl, hcq391⟩ | ⟨rfl, hcq391⟩
    · skip
      have N392 := Fr.app N368 Nq391
      refine ownSt st391 ?_
      show ownG p.tables e below _ (T391.setTop (mkF m 79 #[.val (.int p1), .val (.int p2), .val (.int p3), .val (.int p4), .val (.int ((p1 &&& (2147483647 : Int32)) % (8 : Int32))), .val (.int ((p4 &&& (255 : Int32)).toUInt32.toUInt16.toUInt32.toInt32)), .val (.int ((p3 &&& (255 : Int32)).toUInt32.toUInt16.toUInt32.toInt32)), .val (.int ((p2 &&& (2147483647 : Int32)) % (12 : Int32))), .val (.ref x331), .val (.ref b345), .val .null, .unset, .unset] [(.int (1 : Int32))]))
      refine ownBy (A := T391.setTop (mkF m 82 #[.val (.int p1), .val (.int p2), .val (.int p3), .val (.int p4), .val (.int ((p1 &&& (2147483647 : Int32)) % (8 : Int32))), .val (.int ((p4 &&& (255 : Int32)).toUInt32.toUInt16.toUInt32.toInt32)), .val (.int ((p3 &&& (255 : Int32)).toUInt32.toUInt16.toUInt32.toInt32)), .val (.int ((p2 &&& (2147483647 : Int32)) % (12 : Int32))), .val (.ref x331), .val (.ref b345), .val .null, .unset, .unset] [])) (fun t kt => ?_) ?_
      · show Steps p.tables e below (T391.setTop (mkF m 79 #[.val (.int p1), .val (.int p2), .val (.int p3), .val (.int p4), .val (.int ((p1 &&& (2147483647 : Int32)) % (8 : Int32))), .val (.int ((p4 &&& (255 : Int32)).toUInt32.toUInt16.toUInt32.toInt32)), .val (.int ((p3 &&& (255 : Int32)).toUInt32.toUInt16.toUInt32.toInt32)), .val (.int ((p2 &&& (2147483647 : Int32)) % (12 : Int32))), .val (.ref x331), .val (.ref b345), .val .null, .unset, .unset] [(.int (1 : Int32))])) t
        refine XS.ifNo X391.here hx rfl (hb hby at_79) rfl ((if0 _ _).trans (feq ((by decide) : ¬ ((1 : Int32) = (0 : Int32)))).1) ?_
        exact kt
      obtain ⟨T393, X393, e393, st393⟩ := getS2 X391 hx hZ373 hown373 (host := "") (Or.inl (hw _ (List.mem_of_getElem? (i := 86) rfl))) Via.refl Eq391 (SP0.ext f390.2) (g := (mkF m 82 #[.val (.int p1), .val (.int p2), .val (.int p3), .val (.int p4), .val (.int ((p1 &&& (2147483647 : Int32)) % (8 : Int32))), .val (.int ((p4 &&& (255 : Int32)).toUInt32.toUInt16.toUInt32.toInt32)), .val (.int ((p3 &&& (255 : Int32)).toUInt32.toUInt16.toUInt32.toInt32)), .val (.int ((p2 &&& (2147483647 : Int32)) % (12 : Int32))), .val (.ref x331), .val (.ref b345), .val .null, .unset, .unset] [])) rfl (hb hby at_82)
      refine ownBy st393 ?_
      show ownG p.tables e below _ (T393.setTop (mkF m 85 #[.val (.int p1), .val (.int p2), .val (.int p3), .val (.int p4), .val (.int ((p1 &&& (2147483647 : Int32)) % (8 : Int32))), .val (.int ((p4 &&& (255 : Int32)).toUInt32.toUInt16.toUInt32.toInt32)), .val (.int ((p3 &&& (255 : Int32)).toUInt32.toUInt16.toUInt32.toInt32)), .val (.int ((p2 &&& (2147483647 : Int32)) % (12 : Int32))), .val (.ref x331), .val (.ref b345), .val .null, .unset, .unset] [(.ref P0)]))
      refine ownBy (A := T393.setTop (mkF m 107 #[.val (.int p1), .val (.int p2), .val (.int p3), .val (.int p4), .val (.int ((p1 &&& (2147483647 : Int32)) % (8 : Int32))), .val (.int ((p4 &&& (255 : Int32)).toUInt32.toUInt16.toUInt32.toInt32)), .val (.int ((p3 &&& (255 : Int32)).toUInt32.toUInt16.toUInt32.toInt32)), .val (.int ((p2 &&& (2147483647 : Int32)) % (12 : Int32))), .val (.ref x331), .val (.ref b345), .val (.ref P0), .unset, .unset] [(.ref b345)])) (fun t kt => ?_) ?_
      · show Steps p.tables e below (T393.setTop (mkF m 85 #[.val (.int p1), .val (.int p2), .val (.int p3), .val (.int p4), .val (.int ((p1 &&& (2147483647 : Int32)) % (8 : Int32))), .val (.int ((p4 &&& (255 : Int32)).toUInt32.toUInt16.toUInt32.toInt32)), .val (.int ((p3 &&& (255 : Int32)).toUInt32.toUInt16.toUInt32.toInt32)), .val (.int ((p2 &&& (2147483647 : Int32)) % (12 : Int32))), .val (.ref x331), .val (.ref b345), .val .null, .unset, .unset] [(.ref P0)])) t
        refine XS.astore X393.here hx rfl (hb hby at_85) rfl rfl (l' := #[.val (.int p1), .val (.int p2), .val (.int p3), .val (.int p4), .val (.int ((p1 &&& (2147483647 : Int32)) % (8 : Int32))), .val (.int ((p4 &&& (255 : Int32)).toUInt32.toUInt16.toUInt32.toInt32)), .val (.int ((p3 &&& (255 : Int32)).toUInt32.toUInt16.toUInt32.toInt32)), .val (.int ((p2 &&& (2147483647 : Int32)) % (12 : Int32))), .val (.ref x331), .val (.ref b345), .val (.ref P0), .unset, .unset]) rfl ?_
        refine XS.goto X393.here hx rfl (pc0 := 87) (pc' := 105) rfl (hb hby at_87) (by decide) (by decide) ?_
        show Steps p.tables e below (T393.setTop (mkF m 105 #[.val (.int p1), .val (.int p2), .val (.int p3), .val (.int p4), .val (.int ((p1 &&& (2147483647 : Int32)) % (8 : Int32))), .val (.int ((p4 &&& (255 : Int32)).toUInt32.toUInt16.toUInt32.toInt32)), .val (.int ((p3 &&& (255 : Int32)).toUInt32.toUInt16.toUInt32.toInt32)), .val (.int ((p2 &&& (2147483647 : Int32)) % (12 : Int32))), .val (.ref x331), .val (.ref b345), .val (.ref P0), .unset, .unset] [])) t
        refine XS.aload X393.here hx rfl (hb hby at_105) rfl rfl ?_
        exact kt
      have f394 := (Nat.le_trans (Nat.le_trans f357 Kq360.1) E373.1)
      obtain ⟨vv395, _, ⟨T395, L395, k395, n395⟩, -, X395, ⟨Lc395, hQ395, l395, y395, z395⟩, st395⟩ := Jvm.LawKit.callS X393 hx (y := (⟨"com/example/vestline/vestline/TerminationReason", "named", "(Ljava/lang/String;)Ljava/util/Optional;"⟩ : MethodName)) hown373 (mvT hZ373 (hw _ (List.mem_of_getElem? (i := 40) rfl))) (mvT hZ373 (hw _ (List.mem_of_getElem? (i := 41) rfl))) (mvT hZ373 (hw _ (List.mem_of_getElem? (i := 42) rfl))) (mvT hZ373 (hw _ (List.mem_of_getElem? (i := 43) rfl))) (by decide) (backOf (W := 0) (c_named l Z a0 hw [] b345 t360 kb360 cs341 A kA EM P0 P1 W0 W1 B0 B1 kb0 kb1 G1 h373 n0 f394 f385 f386 f387 f388 hp341 hm341 SV KV EV SE EE FE SP0 EP0 FP0 EW0 FV0 FC0 KB0 SP1 EP1 FP1 EW1 FV1 FC1 KB1 O2 P5 f390) hZ373 (hw _ (List.mem_of_getElem? (i := 43) rfl)) (hw _ (List.mem_of_getElem? (i := 42) rfl)) (by decide) (by decide)) (g := (mkF m 107 #[.val (.int p1), .val (.int p2), .val (.int p3), .val (.int p4), .val (.int ((p1 &&& (2147483647 : Int32)) % (8 : Int32))), .val (.int ((p4 &&& (255 : Int32)).toUInt32.toUInt16.toUInt32.toInt32)), .val (.int ((p3 &&& (255 : Int32)).toUInt32.toUInt16.toUInt32.toInt32)), .val (.int ((p2 &&& (2147483647 : Int32)) % (12 : Int32))), .val (.ref x331), .val (.ref b345), .val (.ref P0), .unset, .unset] [(.ref b345)])) rfl (by rw [hml]; rfl) (argsL := [(.ref b345)]) (rest := []) (lenOf pd_396 rfl) rfl (by show 2 * 0 + _ ≤ _; exact Nat.le_of_eq rfl) (hb hby at_107) (fun _ _ => ⟨rfl, e393, (by decide : 5 + 2 ≤ _), (by decide : 50 + 3 ≤ _)⟩)
      dsimp only [Pt.U, Pt.locs, Pt.cells, Pt.slots] at X395 l395 y395 z395 st395 hQ395
      subst l395 y395 z395
      obtain ⟨y395, u395, rfl, Nq395, Kq395, Eq395, Fq395, hu395⟩ := hQ395
      obtain rfl : u395 = (.ref P0) := hu395.elim (fun q => q.1) (fun q => q.elim (fun q => absurd hcq391 q.2.1) (fun q => absurd hcq391 q.2.1))
      have N397 := Fr.app N392 Nq395
      have R398 := R375.trans (CHr.keep Kq395 sf0 R375.1)
      have sf399 := Safe.keep Kq395 sf0 R375.1 sf376
      have sf400 := Safe.keep Kq395 sf0 R375.1 sf378
      have sf401 := Safe.keep Kq395 sf0 R375.1 sf380
      refine ownBy st395 ?_
      show ownG p.tables e below _ (T395.setTop (mkF m 110 #[.val (.int p1), .val (.int p2), .val (.int p3), .val (.int p4), .val (.int ((p1 &&& (2147483647 : Int32)) % (8 : Int32))), .val (.int ((p4 &&& (255 : Int32)).toUInt32.toUInt16.toUInt32.toInt32)), .val (.int ((p3 &&& (255 : Int32)).toUInt32.toUInt16.toUInt32.toInt32)), .val (.int ((p2 &&& (2147483647 : Int32)) % (12 : Int32))), .val (.ref x331), .val (.ref b345), .val (.ref P0), .unset, .unset] [(.ref y395)]))
      refine ownBy (A := T395.setTop (mkF m 122 #[.val (.int p1), .val (.int p2), .val (.int p3), .val (.int p4), .val (.int ((p1 &&& (2147483647 : Int32)) % (8 : Int32))), .val (.int ((p4 &&& (255 : Int32)).toUInt32.toUInt16.toUInt32.toInt32)), .val (.int ((p3 &&& (255 : Int32)).toUInt32.toUInt16.toUInt32.toInt32)), .val (.int ((p2 &&& (2147483647 : Int32)) % (12 : Int32))), .val (.ref x331), .val (.ref b345), .val (.ref P0), .val (.ref y395), .unset] [.null, (.ref y395)])) (fun t kt => ?_) ?_
      · show Steps p.tables e below (T395.setTop (mkF m 110 #[.val (.int p1), .val (.int p2), .val (.int p3), .val (.int p4), .val (.int ((p1 &&& (2147483647 : Int32)) % (8 : Int32))), .val (.int ((p4 &&& (255 : Int32)).toUInt32.toUInt16.toUInt32.toInt32)), .val (.int ((p3 &&& (255 : Int32)).toUInt32.toUInt16.toUInt32.toInt32)), .val (.int ((p2 &&& (2147483647 : Int32)) % (12 : Int32))), .val (.ref x331), .val (.ref b345), .val (.ref P0), .unset, .unset] [(.ref y395)])) t
        refine XS.astore X395.here hx rfl (hb hby at_110) rfl rfl (l' := #[.val (.int p1), .val (.int p2), .val (.int p3), .val (.int p4), .val (.int ((p1 &&& (2147483647 : Int32)) % (8 : Int32))), .val (.int ((p4 &&& (255 : Int32)).toUInt32.toUInt16.toUInt32.toInt32)), .val (.int ((p3 &&& (255 : Int32)).toUInt32.toUInt16.toUInt32.toInt32)), .val (.int ((p2 &&& (2147483647 : Int32)) % (12 : Int32))), .val (.ref x331), .val (.ref b345), .val (.ref P0), .val (.ref y395), .unset]) rfl ?_
        refine XS.aload X395.here hx rfl (hb hby at_112) rfl rfl ?_
        show Steps p.tables e below (T395.setTop (mkF m 114 #[.val (.int p1), .val (.int p2), .val (.int p3), .val (.int p4), .val (.int ((p1 &&& (2147483647 : Int32)) % (8 : Int32))), .val (.int ((p4 &&& (255 : Int32)).toUInt32.toUInt16.toUInt32.toInt32)), .val (.int ((p3 &&& (255 : Int32)).toUInt32.toUInt16.toUInt32.toInt32)), .val (.int ((p2 &&& (2147483647 : Int32)) % (12 : Int32))), .val (.ref x331), .val (.ref b345), .val (.ref P0), .val (.ref y395), .unset] [(.ref y395)])) t
        refine XS.ifnonnullYes X395.here hx rfl (pc0 := 114) (pc' := 119) rfl (hb hby at_114) rfl (by decide) (by decide) ?_
        refine XS.aload X395.here hx rfl (hb hby at_119) rfl rfl ?_
        show Steps p.tables e below (T395.setTop (mkF m 121 #[.val (.int p1), .val (.int p2), .val (.int p3), .val (.int p4), .val (.int ((p1 &&& (2147483647 : Int32)) % (8 : Int32))), .val (.int ((p4 &&& (255 : Int32)).toUInt32.toUInt16.toUInt32.toInt32)), .val (.int ((p3 &&& (255 : Int32)).toUInt32.toUInt16.toUInt32.toInt32)), .val (.int ((p2 &&& (2147483647 : Int32)) % (12 : Int32))), .val (.ref x331), .val (.ref b345), .val (.ref P0), .val (.ref y395), .unset] [(.ref y395)])) t
        refine XS.aconstNull X395.here hx rfl (hb hby at_121) ?_
        exact kt
      have f402 := (Nat.le_trans f394 Kq395.1)
      obtain ⟨cq403, kq403, q403a, q403b, q403c⟩ := isOf hZ373 rfl Eq395
      obtain ⟨vv403, _, ⟨T403, L403, k403, n403⟩, -, X403, ⟨Lc403, hQ403, l403, y403, z403⟩, st403⟩ := X395.virtualBack hx (y := (⟨"java/util/Optional", "orElse", "(Ljava/lang/Object;)Ljava/lang/Object;"⟩ : MethodName)) (z := (⟨"java/util/Optional", "orElse", "(Ljava/lang/Object;)Ljava/lang/Object;"⟩ : MethodName)) hown373 (mvT hZ373 (hw _ (List.mem_of_getElem? (i := 69) rfl))) (mvT hZ373 (hw _ (List.mem_of_getElem? (i := 70) rfl))) (notFace_of_selects (args := #[]) (mvT hZ373 (hw _ (List.mem_of_getElem? (i := 72) rfl)))) (mvT hZ373 (hw _ (List.mem_of_getElem? (i := 72) rfl))) (mvT hZ373 (hw _ (List.mem_of_getElem? (i := 71) rfl))) (by decide) (backOf (W := 0) (c_orer l Z a0 hw [] y395 P0 T395.heap n0 f402 Fq395) hZ373 (hw _ (List.mem_of_getElem? (i := 73) rfl)) (hw _ (List.mem_of_getElem? (i := 46) rfl)) (by decide) (by decide)) q403a q403c (g := (mkF m 122 #[.val (.int p1), .val (.int p2), .val (.int p3), .val (.int p4), .val (.int ((p1 &&& (2147483647 : Int32)) % (8 : Int32))), .val (.int ((p4 &&& (255 : Int32)).toUInt32.toUInt16.toUInt32.toInt32)), .val (.int ((p3 &&& (255 : Int32)).toUInt32.toUInt16.toUInt32.toInt32)), .val (.int ((p2 &&& (2147483647 : Int32)) % (12 : Int32))), .val (.ref x331), .val (.ref b345), .val (.ref P0), .val (.ref y395), .unset] [.null, (.ref y395)])) rfl (by rw [hml]; rfl) (Steps.refl _) (argsL := [.null]) (rest := []) (lenOf pd_255 rfl) rfl (by show 2 * 0 + _ ≤ _; exact Nat.le_of_eq rfl) (hb hby at_122) (fun _ _ => ⟨rfl, rfl, (by decide : 7 + 0 ≤ _), (by decide : 53 + 0 ≤ _)⟩)
      dsimp only [Pt.U, Pt.locs, Pt.cells, Pt.slots] at X403 l403 y403 z403 st403 hQ403
      subst l403 y403 z403
      obtain ⟨rfl, Nq403, Eq403⟩ := hQ403
      have N404 := Fr.app N397 Nq403
      refine ownSt st403 ?_
      show ownG p.tables e below _ (T403.setTop (mkF m 125 #[.val (.int p1), .val (.int p2), .val (.int p3), .val (.int p4), .val (.int ((p1 &&& (2147483647 : Int32)) % (8 : Int32))), .val (.int ((p4 &&& (255 : Int32)).toUInt32.toUInt16.toUInt32.toInt32)), .val (.int ((p3 &&& (255 : Int32)).toUInt32.toUInt16.toUInt32.toInt32)), .val (.int ((p2 &&& (2147483647 : Int32)) % (12 : Int32))), .val (.ref x331), .val (.ref b345), .val (.ref P0), .val (.ref y395), .unset] [(.ref P0)]))
      have f405 := (f390.keep Kq395 all0)
      have f406 := EP0.ext f405.2
      obtain ⟨T407, X407, e407, st407⟩ := castY X403 hx hZ373 hown373 (hw _ (List.mem_of_getElem? (i := 101) rfl)) Eq403 (Ins.self f406) (g := (mkF m 125 #[.val (.int p1), .val (.int p2), .val (.int p3), .val (.int p4), .val (.int ((p1 &&& (2147483647 : Int32)) % (8 : Int32))), .val (.int ((p4 &&& (255 : Int32)).toUInt32.toUInt16.toUInt32.toInt32)), .val (.int ((p3 &&& (255 : Int32)).toUInt32.toUInt16.toUInt32.toInt32)), .val (.int ((p2 &&& (2147483647 : Int32)) % (12 : Int32))), .val (.ref x331), .val (.ref b345), .val (.ref P0), .val (.ref y395), .unset] [(.ref P0)])) rfl rfl (hb hby at_125)
      refine ownBy st407 ?_
      show ownG p.tables e below _ (T407.setTop (mkF m 128 #[.val (.int p1), .val (.int p2), .val (.int p3), .val (.int p4), .val (.int ((p1 &&& (2147483647 : Int32)) % (8 : Int32))), .val (.int ((p4 &&& (255 : Int32)).toUInt32.toUInt16.toUInt32.toInt32)), .val (.int ((p3 &&& (255 : Int32)).toUInt32.toUInt16.toUInt32.toInt32)), .val (.int ((p2 &&& (2147483647 : Int32)) % (12 : Int32))), .val (.ref x331), .val (.ref b345), .val (.ref P0), .val (.ref y395), .unset] [(.ref P0)]))
      refine ownBy (A := T407.setTop (mkF m 142 #[.val (.int p1), .val (.int p2), .val (.int p3), .val (.int p4), .val (.int ((p1 &&& (2147483647 : Int32)) % (8 : Int32))), .val (.int ((p4 &&& (255 : Int32)).toUInt32.toUInt16.toUInt32.toInt32)), .val (.int ((p3 &&& (255 : Int32)).toUInt32.toUInt16.toUInt32.toInt32)), .val (.int ((p2 &&& (2147483647 : Int32)) % (12 : Int32))), .val (.ref x331), .val (.ref b345), .val (.ref P0), .val (.ref y395), .val (.ref P0)] [(.int (1 : Int32))])) (fun t kt => ?_) ?_
      · show Steps p.tables e below (T407.setTop (mkF m 128 #[.val (.int p1), .val (.int p2), .val (.int p3), .val (.int p4), .val (.int ((p1 &&& (2147483647 : Int32)) % (8 : Int32))), .val (.int ((p4 &&& (255 : Int32)).toUInt32.toUInt16.toUInt32.toInt32)), .val (.int ((p3 &&& (255 : Int32)).toUInt32.toUInt16.toUInt32.toInt32)), .val (.int ((p2 &&& (2147483647 : Int32)) % (12 : Int32))), .val (.ref x331), .val (.ref b345), .val (.ref P0), .val (.ref y395), .unset] [(.ref P0)])) t
        refine XS.astore X407.here hx rfl (hb hby at_128) rfl rfl (l' := #[.val (.int p1), .val (.int p2), .val (.int p3), .val (.int p4), .val (.int ((p1 &&& (2147483647 : Int32)) % (8 : Int32))), .val (.int ((p4 &&& (255 : Int32)).toUInt32.toUInt16.toUInt32.toInt32)), .val (.int ((p3 &&& (255 : Int32)).toUInt32.toUInt16.toUInt32.toInt32)), .val (.int ((p2 &&& (2147483647 : Int32)) % (12 : Int32))), .val (.ref x331), .val (.ref b345), .val (.ref P0), .val (.ref y395), .val (.ref P0)]) rfl ?_
        refine XS.aload X407.here hx rfl (hb hby at_130) rfl rfl ?_
        show Steps p.tables e below (T407.setTop (mkF m 132 #[.val (.int p1), .val (.int p2), .val (.int p3), .val (.int p4), .val (.int ((p1 &&& (2147483647 : Int32)) % (8 : Int32))), .val (.int ((p4 &&& (255 : Int32)).toUInt32.toUInt16.toUInt32.toInt32)), .val (.int ((p3 &&& (255 : Int32)).toUInt32.toUInt16.toUInt32.toInt32)), .val (.int ((p2 &&& (2147483647 : Int32)) % (12 : Int32))), .val (.ref x331), .val (.ref b345), .val (.ref P0), .val (.ref y395), .val (.ref P0)] [(.ref P0)])) t
        refine XS.aload X407.here hx rfl (hb hby at_132) rfl rfl ?_
        refine Jvm.RoadKit.acmp (g := (mkF m 134 #[.val (.int p1), .val (.int p2), .val (.int p3), .val (.int p4), .val (.int ((p1 &&& (2147483647 : Int32)) % (8 : Int32))), .val (.int ((p4 &&& (255 : Int32)).toUInt32.toUInt16.toUInt32.toInt32)), .val (.int ((p3 &&& (255 : Int32)).toUInt32.toUInt16.toUInt32.toInt32)), .val (.int ((p2 &&& (2147483647 : Int32)) % (12 : Int32))), .val (.ref x331), .val (.ref b345), .val (.ref P0), .val (.ref y395), .val (.ref P0)] [(.ref P0), (.ref P0)])) X407 hx rfl rfl rfl (pc0 := 134) (pc' := 137) (same := true) rfl (hb hby at_134) rfl (decide_eq_true rfl) (by decide) (by decide) ?_
        show Steps p.tables e below (T407.setTop (mkF m 137 #[.val (.int p1), .val (.int p2), .val (.int p3), .val (.int p4), .val (.int ((p1 &&& (2147483647 : Int32)) % (8 : Int32))), .val (.int ((p4 &&& (255 : Int32)).toUInt32.toUInt16.toUInt32.toInt32)), .val (.int ((p3 &&& (255 : Int32)).toUInt32.toUInt16.toUInt32.toInt32)), .val (.int ((p2 &&& (2147483647 : Int32)) % (12 : Int32))), .val (.ref x331), .val (.ref b345), .val (.ref P0), .val (.ref y395), .val (.ref P0)] [])) t
        refine XS.iconst X407.here hx rfl (hb hby at_137) ?_
        refine XS.goto X407.here hx rfl (pc0 := 138) (pc' := 142) rfl (hb hby at_138) (by decide) (by decide) ?_
        exact kt
      refine ownRetH X407 hS373 (by rw [e407]; exact (Nat.le_trans hk373 Kq395.1)) Bd.notSynchronized (v := some (.int (nar .boolean (1 : Int32)))) (fun h => by rw [Bd.returns] at h; cases h) ?_ (R398.trans ((by rw [e407]; exact CHv.at X407 hZ373 hEL R398.1))) (Nat.le_of_ble_eq_true rfl) (Nat.le_of_ble_eq_true rfl) (fun fs hr => retN X407 hx (t := .boolean) Bd.returns (by simp) (hb hby at_142) hr)
      show (Q_law Z p1 p2 p3 p4 A kA EM P0 P1 W0 W1 B0 B1 kb0 kb1 G1 h0 n0) (some (.int (nar .boolean (1 : Int32)))) T407.heap _
      rw [e407]
      exact ⟨rfl, N404⟩
    · skip
      have N409 := Fr.app N368 Nq391
      refine ownSt st391 ?_
      show ownG p.tables e below _ (T391.setTop (mkF m 79 #[.val (.int p1), .val (.int p2), .val (.int p3), .val (.int p4), .val (.int ((p1 &&& (2147483647 : Int32)) % (8 : Int32))), .val (.int ((p4 &&& (255 : Int32)).toUInt32.toUInt16.toUInt32.toInt32)), .val (.int ((p3 &&& (255 : Int32)).toUInt32.toUInt16.toUInt32.toInt32)), .val (.int ((p2 &&& (2147483647 : Int32)) % (12 : Int32))), .val (.ref x331), .val (.ref b345), .val .null, .unset, .unset] [(.int (0 : Int32))]))
      refine ownBy (A := T391.setTop (mkF m 92 #[.val (.int p1), .val (.int p2), .val (.int p3), .val (.int p4), .val (.int ((p1 &&& (2147483647 : Int32)) % (8 : Int32))), .val (.int ((p4 &&& (255 : Int32)).toUInt32.toUInt16.toUInt32.toInt32)), .val (.int ((p3 &&& (255 : Int32)).toUInt32.toUInt16.toUInt32.toInt32)), .val (.int ((p2 &&& (2147483647 : Int32)) % (12 : Int32))), .val (.ref x331), .val (.ref b345), .val .null, .unset, .unset] [(.ref b345)])) (fun t kt => ?_) ?_
      · show Steps p.tables e below (T391.setTop (mkF m 79 #[.val (.int p1), .val (.int p2), .val (.int p3), .val (.int p4), .val (.int ((p1 &&& (2147483647 : Int32)) % (8 : Int32))), .val (.int ((p4 &&& (255 : Int32)).toUInt32.toUInt16.toUInt32.toInt32)), .val (.int ((p3 &&& (255 : Int32)).toUInt32.toUInt16.toUInt32.toInt32)), .val (.int ((p2 &&& (2147483647 : Int32)) % (12 : Int32))), .val (.ref x331), .val (.ref b345), .val .null, .unset, .unset] [(.int (0 : Int32))])) t
        refine XS.ifYes X391.here hx rfl (pc0 := 79) (pc' := 90) rfl (hb hby at_79) rfl ((if0 _ _).trans (teq ((by decide) : (0 : Int32) = (0 : Int32))).1) (by decide) (by decide) ?_
        refine XS.aload X391.here hx rfl (hb hby at_90) rfl rfl ?_
        exact kt
      obtain ⟨a410, T410, h410, k410, b410, kb410, X410, e410, E410, hS410, hk410, hZ410, hown410, A410, C410, V410, Ab410, -, -, hC410, Lt410, hne410, st410⟩ := ldcCH (text := "disability") X391 hx hZ373 hown373 (hw _ (List.mem_of_getElem? (i := 39) rfl)) wS Eq391 hS373 hk373 hEL (by simp [ownEL]) R375.1 (vs := [(.int (100 : Int32)), (.int (105 : Int32)), (.int (115 : Int32)), (.int (97 : Int32)), (.int (98 : Int32)), (.int (105 : Int32)), (.int (108 : Int32)), (.int (105 : Int32)), (.int (116 : Int32)), (.int (121 : Int32))]) (z := (10 : Int32)) ⟨by decide, by decide⟩ (by decide) rfl (g := (mkF m 92 #[.val (.int p1), .val (.int p2), .val (.int p3), .val (.int p4), .val (.int ((p1 &&& (2147483647 : Int32)) % (8 : Int32))), .val (.int ((p4 &&& (255 : Int32)).toUInt32.toUInt16.toUInt32.toInt32)), .val (.int ((p3 &&& (255 : Int32)).toUInt32.toUInt16.toUInt32.toInt32)), .val (.int ((p2 &&& (2147483647 : Int32)) % (12 : Int32))), .val (.ref x331), .val (.ref b345), .val .null, .unset, .unset] [(.ref b345)])) rfl (hb hby at_92) (n := 40) (by decide) (by decide) (by decide) (by decide)
      have R412 := R375.trans hC410
      have f414 := (f377.ext E373)
      have sf413 := CHr.safe hC410 f414.lt sf376
      have sf415 := CHr.safe hC410 f385.lt sf378
      have sf416 := CHr.safe hC410 f388.lt sf380
      have ne417 := hne410 x331 sf413
      have ne418 := hne410 b345 sf415
      have ne419 := hne410 t360 sf416
      refine ownBy st410 ?_
      show ownG p.tables e below _ (T410.setTop (mkF m 94 #[.val (.int p1), .val (.int p2), .val (.int p3), .val (.int p4), .val (.int ((p1 &&& (2147483647 : Int32)) % (8 : Int32))), .val (.int ((p4 &&& (255 : Int32)).toUInt32.toUInt16.toUInt32.toInt32)), .val (.int ((p3 &&& (255 : Int32)).toUInt32.toUInt16.toUInt32.toInt32)), .val (.int ((p2 &&& (2147483647 : Int32)) % (12 : Int32))), .val (.ref x331), .val (.ref b345), .val .null, .unset, .unset] [(.ref a410), (.ref b345)]))
      have f420 := (f385.ext E410)
      have f421 := (f386.ext E410)
      have f422 := (f387.ext E410)
      have f423 := (f388.ext E410)
      have hpl424 : ∀ c ∈ ([(100 : Int32), (105 : Int32), (115 : Int32), (97 : Int32), (98 : Int32), (105 : Int32), (108 : Int32), (105 : Int32), (116 : Int32), (121 : Int32)] : List Int32), ¬ c < 0 ∧ ¬ (255 : Int32) < c := by decide
      have hcd424 : StrChars.Road.CodA ([(100 : Int32), (105 : Int32), (115 : Int32), (97 : Int32), (98 : Int32), (105 : Int32), (108 : Int32), (105 : Int32), (116 : Int32), (121 : Int32)] : List Int32) 0 (10 : Int32) ((([(100 : Int32), (105 : Int32), (115 : Int32), (97 : Int32), (98 : Int32), (105 : Int32), (108 : Int32), (105 : Int32), (116 : Int32), (121 : Int32)] : List Int32).map (fun c => c.toInt8.toInt32)).map Value.int) := StrChars.Road.codOf (n := 10) rfl (fun x hx => (hpl424 x hx).2)
      have hbd424 : ∀ x ∈ ([(100 : Int32), (105 : Int32), (115 : Int32), (97 : Int32), (98 : Int32), (105 : Int32), (108 : Int32), (105 : Int32), (116 : Int32), (121 : Int32)] : List Int32), ¬ x < 0 ∧ ¬ (65535 : Int32) < x := own_up _ hpl424
      have f425 := (f390.ext E410)
      obtain ⟨cq426, kq426, q426a, q426b, q426c⟩ := isOf hZ410 e410 f420
      obtain ⟨vv426, _, ⟨T426, L426, k426, n426⟩, -, X426, ⟨Lc426, hQ426, l426, y426, z426⟩, st426⟩ := X410.virtualBack hx (y := (⟨"java/lang/String", "equals", "(Ljava/lang/Object;)Z"⟩ : MethodName)) (z := (⟨"java/lang/String", "equals", "(Ljava/lang/Object;)Z"⟩ : MethodName)) hown410 (mvT hZ410 (hw _ (List.mem_of_getElem? (i := 28) rfl))) (mvT hZ410 (hw _ (List.mem_of_getElem? (i := 29) rfl))) (notFace_of_selects (args := #[]) (mvT hZ410 (hw _ (List.mem_of_getElem? (i := 31) rfl)))) (mvT hZ410 (hw _ (List.mem_of_getElem? (i := 31) rfl))) (mvT hZ410 (hw _ (List.mem_of_getElem? (i := 30) rfl))) (by decide) (StrChars.Road.eqW (W := 0) hZ410 heq (kI := 4) (hw _ (List.mem_of_getElem? (i := 7) rfl)) f420 f421 f422 f423 hcd384 hbd384 (Nat.le_trans hm341 (by decide)) A410 V410 C410 Ab410 hcd424 hbd424 (Nat.le_of_ble_eq_true rfl) (O2.ext f425.2) P5 (by decide) (by decide)) q426a q426c (g := (mkF m 94 #[.val (.int p1), .val (.int p2), .val (.int p3), .val (.int p4), .val (.int ((p1 &&& (2147483647 : Int32)) % (8 : Int32))), .val (.int ((p4 &&& (255 : Int32)).toUInt32.toUInt16.toUInt32.toInt32)), .val (.int ((p3 &&& (255 : Int32)).toUInt32.toUInt16.toUInt32.toInt32)), .val (.int ((p2 &&& (2147483647 : Int32)) % (12 : Int32))), .val (.ref x331), .val (.ref b345), .val .null, .unset, .unset] [(.ref a410), (.ref b345)])) rfl (by rw [hml]; rfl) (Steps.refl _) (argsL := [(.ref a410)]) (rest := []) (lenOf pd_291 rfl) rfl (by show 2 * 0 + _ ≤ _; exact Nat.le_of_eq rfl) (hb hby at_94) (fun _ _ => ⟨rfl, e410, (by decide : 7 + 0 ≤ _), (by decide : 94 + 0 ≤ _)⟩)
      dsimp only [Pt.U, Pt.locs, Pt.cells, Pt.slots] at X426 l426 y426 z426 st426 hQ426
      subst l426 y426 z426
      obtain ⟨hE426, rfl, Eq426⟩ := hQ426
      have Nq426 : Fr n0 ([] : List Loc) := Fr.nil n0
      rcases hE426 with ⟨rfl, hcq426⟩ | ⟨rfl, hcq426⟩
      · skip
        have N427 := Fr.app N409 Nq426
        refine ownSt st426 ?_
        show ownG p.tables e below _ (T426.setTop (mkF m 97 #[.val (.int p1), .val (.int p2), .val (.int p3), .val (.int p4), .val (.int ((p1 &&& (2147483647 : Int32)) % (8 : Int32))), .val (.int ((p4 &&& (255 : Int32)).toUInt32.toUInt16.toUInt32.toInt32)), .val (.int ((p3 &&& (255 : Int32)).toUInt32.toUInt16.toUInt32.toInt32)), .val (.int ((p2 &&& (2147483647 : Int32)) % (12 : Int32))), .val (.ref x331), .val (.ref b345), .val .null, .unset, .unset] [(.int (1 : Int32))]))
        refine ownBy (A := T426.setTop (mkF m 100 #[.val (.int p1), .val (.int p2), .val (.int p3), .val (.int p4), .val (.int ((p1 &&& (2147483647 : Int32)) % (8 : Int32))), .val (.int ((p4 &&& (255 : Int32)).toUInt32.toUInt16.toUInt32.toInt32)), .val (.int ((p3 &&& (255 : Int32)).toUInt32.toUInt16.toUInt32.toInt32)), .val (.int ((p2 &&& (2147483647 : Int32)) % (12 : Int32))), .val (.ref x331), .val (.ref b345), .val .null, .unset, .unset] [])) (fun t kt => ?_) ?_
        · show Steps p.tables e below (T426.setTop (mkF m 97 #[.val (.int p1), .val (.int p2), .val (.int p3), .val (.int p4), .val (.int ((p1 &&& (2147483647 : Int32)) % (8 : Int32))), .val (.int ((p4 &&& (255 : Int32)).toUInt32.toUInt16.toUInt32.toInt32)), .val (.int ((p3 &&& (255 : Int32)).toUInt32.toUInt16.toUInt32.toInt32)), .val (.int ((p2 &&& (2147483647 : Int32)) % (12 : Int32))), .val (.ref x331), .val (.ref b345), .val .null, .unset, .unset] [(.int (1 : Int32))])) t
          refine XS.ifNo X426.here hx rfl (hb hby at_97) rfl ((if0 _ _).trans (feq ((by decide) : ¬ ((1 : Int32) = (0 : Int32)))).1) ?_
          exact kt
        obtain ⟨T428, X428, e428, st428⟩ := getS2 X426 hx hZ410 hown410 (host := "") (Or.inl (hw _ (List.mem_of_getElem? (i := 103) rfl))) Via.refl Eq426 (SP1.ext f425.2) (g := (mkF m 100 #[.val (.int p1), .val (.int p2), .val (.int p3), .val (.int p4), .val (.int ((p1 &&& (2147483647 : Int32)) % (8 : Int32))), .val (.int ((p4 &&& (255 : Int32)).toUInt32.toUInt16.toUInt32.toInt32)), .val (.int ((p3 &&& (255 : Int32)).toUInt32.toUInt16.toUInt32.toInt32)), .val (.int ((p2 &&& (2147483647 : Int32)) % (12 : Int32))), .val (.ref x331), .val (.ref b345), .val .null, .unset, .unset] [])) rfl (hb hby at_100)
        refine ownBy st428 ?_
        show ownG p.tables e below _ (T428.setTop (mkF m 103 #[.val (.int p1), .val (.int p2), .val (.int p3), .val (.int p4), .val (.int ((p1 &&& (2147483647 : Int32)) % (8 : Int32))), .val (.int ((p4 &&& (255 : Int32)).toUInt32.toUInt16.toUInt32.toInt32)), .val (.int ((p3 &&& (255 : Int32)).toUInt32.toUInt16.toUInt32.toInt32)), .val (.int ((p2 &&& (2147483647 : Int32)) % (12 : Int32))), .val (.ref x331), .val (.ref b345), .val .null, .unset, .unset] [(.ref P1)]))
        refine ownBy (A := T428.setTop (mkF m 107 #[.val (.int p1), .val (.int p2), .val (.int p3), .val (.int p4), .val (.int ((p1 &&& (2147483647 : Int32)) % (8 : Int32))), .val (.int ((p4 &&& (255 : Int32)).toUInt32.toUInt16.toUInt32.toInt32)), .val (.int ((p3 &&& (255 : Int32)).toUInt32.toUInt16.toUInt32.toInt32)), .val (.int ((p2 &&& (2147483647 : Int32)) % (12 : Int32))), .val (.ref x331), .val (.ref b345), .val (.ref P1), .unset, .unset] [(.ref b345)])) (fun t kt => ?_) ?_
        · show Steps p.tables e below (T428.setTop (mkF m 103 #[.val (.int p1), .val (.int p2), .val (.int p3), .val (.int p4), .val (.int ((p1 &&& (2147483647 : Int32)) % (8 : Int32))), .val (.int ((p4 &&& (255 : Int32)).toUInt32.toUInt16.toUInt32.toInt32)), .val (.int ((p3 &&& (255 : Int32)).toUInt32.toUInt16.toUInt32.toInt32)), .val (.int ((p2 &&& (2147483647 : Int32)) % (12 : Int32))), .val (.ref x331), .val (.ref b345), .val .null, .unset, .unset] [(.ref P1)])) t
          refine XS.astore X428.here hx rfl (hb hby at_103) rfl rfl (l' := #[.val (.int p1), .val (.int p2), .val (.int p3), .val (.int p4), .val (.int ((p1 &&& (2147483647 : Int32)) % (8 : Int32))), .val (.int ((p4 &&& (255 : Int32)).toUInt32.toUInt16.toUInt32.toInt32)), .val (.int ((p3 &&& (255 : Int32)).toUInt32.toUInt16.toUInt32.toInt32)), .val (.int ((p2 &&& (2147483647 : Int32)) % (12 : Int32))), .val (.ref x331), .val (.ref b345), .val (.ref P1), .unset, .unset]) rfl ?_
          refine XS.aload X428.here hx rfl (hb hby at_105) rfl rfl ?_
          exact kt
        have f429 := (Nat.le_trans (Nat.le_trans (Nat.le_trans f357 Kq360.1) E373.1) E410.1)
        obtain ⟨vv430, _, ⟨T430, L430, k430, n430⟩, -, X430, ⟨Lc430, hQ430, l430, y430, z430⟩, st430⟩ := Jvm.LawKit.callS X428 hx (y := (⟨"com/example/vestline/vestline/TerminationReason", "named", "(Ljava/lang/String;)Ljava/util/Optional;"⟩ : MethodName)) hown410 (mvT hZ410 (hw _ (List.mem_of_getElem? (i := 40) rfl))) (mvT hZ410 (hw _ (List.mem_of_getElem? (i := 41) rfl))) (mvT hZ410 (hw _ (List.mem_of_getElem? (i := 42) rfl))) (mvT hZ410 (hw _ (List.mem_of_getElem? (i := 43) rfl))) (by decide) (backOf (W := 0) (c_named l Z a0 hw [] b345 t360 kb360 cs341 A kA EM P0 P1 W0 W1 B0 B1 kb0 kb1 G1 h410 n0 f429 f420 f421 f422 f423 hp341 hm341 SV KV EV SE EE FE SP0 EP0 FP0 EW0 FV0 FC0 KB0 SP1 EP1 FP1 EW1 FV1 FC1 KB1 O2 P5 f425) hZ410 (hw _ (List.mem_of_getElem? (i := 43) rfl)) (hw _ (List.mem_of_getElem? (i := 42) rfl)) (by decide) (by decide)) (g := (mkF m 107 #[.val (.int p1), .val (.int p2), .val (.int p3), .val (.int p4), .val (.int ((p1 &&& (2147483647 : Int32)) % (8 : Int32))), .val (.int ((p4 &&& (255 : Int32)).toUInt32.toUInt16.toUInt32.toInt32)), .val (.int ((p3 &&& (255 : Int32)).toUInt32.toUInt16.toUInt32.toInt32)), .val (.int ((p2 &&& (2147483647 : Int32)) % (12 : Int32))), .val (.ref x331), .val (.ref b345), .val (.ref P1), .unset, .unset] [(.ref b345)])) rfl (by rw [hml]; rfl) (argsL := [(.ref b345)]) (rest := []) (lenOf pd_396 rfl) rfl (by show 2 * 0 + _ ≤ _; exact Nat.le_of_eq rfl) (hb hby at_107) (fun _ _ => ⟨rfl, e428, (by decide : 7 + 2 ≤ _), (by decide : 94 + 3 ≤ _)⟩)
        dsimp only [Pt.U, Pt.locs, Pt.cells, Pt.slots] at X430 l430 y430 z430 st430 hQ430
        subst l430 y430 z430
        obtain ⟨y430, u430, rfl, Nq430, Kq430, Eq430, Fq430, hu430⟩ := hQ430
        obtain rfl : u430 = (.ref P1) := hu430.elim (fun q => absurd q.2 hcq391) (fun q => q.elim (fun q => q.1) (fun q => absurd hcq426 q.2.2))
        have N431 := Fr.app N427 Nq430
        have R432 := R412.trans (CHr.keep Kq430 sf0 R412.1)
        have sf433 := Safe.keep Kq430 sf0 R412.1 sf413
        have sf434 := Safe.keep Kq430 sf0 R412.1 sf415
        have sf435 := Safe.keep Kq430 sf0 R412.1 sf416
        refine ownBy st430 ?_
        show ownG p.tables e below _ (T430.setTop (mkF m 110 #[.val (.int p1), .val (.int p2), .val (.int p3), .val (.int p4), .val (.int ((p1 &&& (2147483647 : Int32)) % (8 : Int32))), .val (.int ((p4 &&& (255 : Int32)).toUInt32.toUInt16.toUInt32.toInt32)), .val (.int ((p3 &&& (255 : Int32)).toUInt32.toUInt16.toUInt32.toInt32)), .val (.int ((p2 &&& (2147483647 : Int32)) % (12 : Int32))), .val (.ref x331), .val (.ref b345), .val (.ref P1), .unset, .unset] [(.ref y430)]))
        refine ownBy (A := T430.setTop (mkF m 122 #[.val (.int p1), .val (.int p2), .val (.int p3), .val (.int p4), .val (.int ((p1 &&& (2147483647 : Int32)) % (8 : Int32))), .val (.int ((p4 &&& (255 : Int32)).toUInt32.toUInt16.toUInt32.toInt32)), .val (.int ((p3 &&& (255 : Int32)).toUInt32.toUInt16.toUInt32.toInt32)), .val (.int ((p2 &&& (2147483647 : Int32)) % (12 : Int32))), .val (.ref x331), .val (.ref b345), .val (.ref P1), .val (.ref y430), .unset] [.null, (.ref y430)])) (fun t kt => ?_) ?_
        · show Steps p.tables e below (T430.setTop (mkF m 110 #[.val (.int p1), .val (.int p2), .val (.int p3), .val (.int p4), .val (.int ((p1 &&& (2147483647 : Int32)) % (8 : Int32))), .val (.int ((p4 &&& (255 : Int32)).toUInt32.toUInt16.toUInt32.toInt32)), .val (.int ((p3 &&& (255 : Int32)).toUInt32.toUInt16.toUInt32.toInt32)), .val (.int ((p2 &&& (2147483647 : Int32)) % (12 : Int32))), .val (.ref x331), .val (.ref b345), .val (.ref P1), .unset, .unset] [(.ref y430)])) t
          refine XS.astore X430.here hx rfl (hb hby at_110) rfl rfl (l' := #[.val (.int p1), .val (.int p2), .val (.int p3), .val (.int p4), .val (.int ((p1 &&& (2147483647 : Int32)) % (8 : Int32))), .val (.int ((p4 &&& (255 : Int32)).toUInt32.toUInt16.toUInt32.toInt32)), .val (.int ((p3 &&& (255 : Int32)).toUInt32.toUInt16.toUInt32.toInt32)), .val (.int ((p2 &&& (2147483647 : Int32)) % (12 : Int32))), .val (.ref x331), .val (.ref b345), .val (.ref P1), .val (.ref y430), .unset]) rfl ?_
          refine XS.aload X430.here hx rfl (hb hby at_112) rfl rfl ?_
          show Steps p.tables e below (T430.setTop (mkF m 114 #[.val (.int p1), .val (.int p2), .val (.int p3), .val (.int p4), .val (.int ((p1 &&& (2147483647 : Int32)) % (8 : Int32))), .val (.int ((p4 &&& (255 : Int32)).toUInt32.toUInt16.toUInt32.toInt32)), .val (.int ((p3 &&& (255 : Int32)).toUInt32.toUInt16.toUInt32.toInt32)), .val (.int ((p2 &&& (2147483647 : Int32)) % (12 : Int32))), .val (.ref x331), .val (.ref b345), .val (.ref P1), .val (.ref y430), .unset] [(.ref y430)])) t
          refine XS.ifnonnullYes X430.here hx rfl (pc0 := 114) (pc' := 119) rfl (hb hby at_114) rfl (by decide) (by decide) ?_
          refine XS.aload X430.here hx rfl (hb hby at_119) rfl rfl ?_
          show Steps p.tables e below (T430.setTop (mkF m 121 #[.val (.int p1), .val (.int p2), .val (.int p3), .val (.int p4), .val (.int ((p1 &&& (2147483647 : Int32)) % (8 : Int32))), .val (.int ((p4 &&& (255 : Int32)).toUInt32.toUInt16.toUInt32.toInt32)), .val (.int ((p3 &&& (255 : Int32)).toUInt32.toUInt16.toUInt32.toInt32)), .val (.int ((p2 &&& (2147483647 : Int32)) % (12 : Int32))), .val (.ref x331), .val (.ref b345), .val (.ref P1), .val (.ref y430), .unset] [(.ref y430)])) t
          refine XS.aconstNull X430.here hx rfl (hb hby at_121) ?_
          exact kt
        have f436 := (Nat.le_trans f429 Kq430.1)
        obtain ⟨cq437, kq437, q437a, q437b, q437c⟩ := isOf hZ410 rfl Eq430
        obtain ⟨vv437, _, ⟨T437, L437, k437, n437⟩, -, X437, ⟨Lc437, hQ437, l437, y437, z437⟩, st437⟩ := X430.virtualBack hx (y := (⟨"java/util/Optional", "orElse", "(Ljava/lang/Object;)Ljava/lang/Object;"⟩ : MethodName)) (z := (⟨"java/util/Optional", "orElse", "(Ljava/lang/Object;)Ljava/lang/Object;"⟩ : MethodName)) hown410 (mvT hZ410 (hw _ (List.mem_of_getElem? (i := 69) rfl))) (mvT hZ410 (hw _ (List.mem_of_getElem? (i := 70) rfl))) (notFace_of_selects (args := #[]) (mvT hZ410 (hw _ (List.mem_of_getElem? (i := 72) rfl)))) (mvT hZ410 (hw _ (List.mem_of_getElem? (i := 72) rfl))) (mvT hZ410 (hw _ (List.mem_of_getElem? (i := 71) rfl))) (by decide) (backOf (W := 0) (c_orer l Z a0 hw [] y430 P1 T430.heap n0 f436 Fq430) hZ410 (hw _ (List.mem_of_getElem? (i := 73) rfl)) (hw _ (List.mem_of_getElem? (i := 46) rfl)) (by decide) (by decide)) q437a q437c (g := (mkF m 122 #[.val (.int p1), .val (.int p2), .val (.int p3), .val (.int p4), .val (.int ((p1 &&& (2147483647 : Int32)) % (8 : Int32))), .val (.int ((p4 &&& (255 : Int32)).toUInt32.toUInt16.toUInt32.toInt32)), .val (.int ((p3 &&& (255 : Int32)).toUInt32.toUInt16.toUInt32.toInt32)), .val (.int ((p2 &&& (2147483647 : Int32)) % (12 : Int32))), .val (.ref x331), .val (.ref b345), .val (.ref P1), .val (.ref y430), .unset] [.null, (.ref y430)])) rfl (by rw [hml]; rfl) (Steps.refl _) (argsL := [.null]) (rest := []) (lenOf pd_255 rfl) rfl (by show 2 * 0 + _ ≤ _; exact Nat.le_of_eq rfl) (hb hby at_122) (fun _ _ => ⟨rfl, rfl, (by decide : 9 + 0 ≤ _), (by decide : 97 + 0 ≤ _)⟩)
        dsimp only [Pt.U, Pt.locs, Pt.cells, Pt.slots] at X437 l437 y437 z437 st437 hQ437
        subst l437 y437 z437
        obtain ⟨rfl, Nq437, Eq437⟩ := hQ437
        have N438 := Fr.app N431 Nq437
        refine ownSt st437 ?_
        show ownG p.tables e below _ (T437.setTop (mkF m 125 #[.val (.int p1), .val (.int p2), .val (.int p3), .val (.int p4), .val (.int ((p1 &&& (2147483647 : Int32)) % (8 : Int32))), .val (.int ((p4 &&& (255 : Int32)).toUInt32.toUInt16.toUInt32.toInt32)), .val (.int ((p3 &&& (255 : Int32)).toUInt32.toUInt16.toUInt32.toInt32)), .val (.int ((p2 &&& (2147483647 : Int32)) % (12 : Int32))), .val (.ref x331), .val (.ref b345), .val (.ref P1), .val (.ref y430), .unset] [(.ref P1)]))
        have f439 := (f425.keep Kq430 all0)
        have f440 := EP1.ext f439.2
        obtain ⟨T441, X441, e441, st441⟩ := castY X437 hx hZ410 hown410 (hw _ (List.mem_of_getElem? (i := 101) rfl)) Eq437 (Ins.self f440) (g := (mkF m 125 #[.val (.int p1), .val (.int p2), .val (.int p3), .val (.int p4), .val (.int ((p1 &&& (2147483647 : Int32)) % (8 : Int32))), .val (.int ((p4 &&& (255 : Int32)).toUInt32.toUInt16.toUInt32.toInt32)), .val (.int ((p3 &&& (255 : Int32)).toUInt32.toUInt16.toUInt32.toInt32)), .val (.int ((p2 &&& (2147483647 : Int32)) % (12 : Int32))), .val (.ref x331), .val (.ref b345), .val (.ref P1), .val (.ref y430), .unset] [(.ref P1)])) rfl rfl (hb hby at_125)
        refine ownBy st441 ?_
        show ownG p.tables e below _ (T441.setTop (mkF m 128 #[.val (.int p1), .val (.int p2), .val (.int p3), .val (.int p4), .val (.int ((p1 &&& (2147483647 : Int32)) % (8 : Int32))), .val (.int ((p4 &&& (255 : Int32)).toUInt32.toUInt16.toUInt32.toInt32)), .val (.int ((p3 &&& (255 : Int32)).toUInt32.toUInt16.toUInt32.toInt32)), .val (.int ((p2 &&& (2147483647 : Int32)) % (12 : Int32))), .val (.ref x331), .val (.ref b345), .val (.ref P1), .val (.ref y430), .unset] [(.ref P1)]))
        refine ownBy (A := T441.setTop (mkF m 142 #[.val (.int p1), .val (.int p2), .val (.int p3), .val (.int p4), .val (.int ((p1 &&& (2147483647 : Int32)) % (8 : Int32))), .val (.int ((p4 &&& (255 : Int32)).toUInt32.toUInt16.toUInt32.toInt32)), .val (.int ((p3 &&& (255 : Int32)).toUInt32.toUInt16.toUInt32.toInt32)), .val (.int ((p2 &&& (2147483647 : Int32)) % (12 : Int32))), .val (.ref x331), .val (.ref b345), .val (.ref P1), .val (.ref y430), .val (.ref P1)] [(.int (1 : Int32))])) (fun t kt => ?_) ?_
        · show Steps p.tables e below (T441.setTop (mkF m 128 #[.val (.int p1), .val (.int p2), .val (.int p3), .val (.int p4), .val (.int ((p1 &&& (2147483647 : Int32)) % (8 : Int32))), .val (.int ((p4 &&& (255 : Int32)).toUInt32.toUInt16.toUInt32.toInt32)), .val (.int ((p3 &&& (255 : Int32)).toUInt32.toUInt16.toUInt32.toInt32)), .val (.int ((p2 &&& (2147483647 : Int32)) % (12 : Int32))), .val (.ref x331), .val (.ref b345), .val (.ref P1), .val (.ref y430), .unset] [(.ref P1)])) t
          refine XS.astore X441.here hx rfl (hb hby at_128) rfl rfl (l' := #[.val (.int p1), .val (.int p2), .val (.int p3), .val (.int p4), .val (.int ((p1 &&& (2147483647 : Int32)) % (8 : Int32))), .val (.int ((p4 &&& (255 : Int32)).toUInt32.toUInt16.toUInt32.toInt32)), .val (.int ((p3 &&& (255 : Int32)).toUInt32.toUInt16.toUInt32.toInt32)), .val (.int ((p2 &&& (2147483647 : Int32)) % (12 : Int32))), .val (.ref x331), .val (.ref b345), .val (.ref P1), .val (.ref y430), .val (.ref P1)]) rfl ?_
          refine XS.aload X441.here hx rfl (hb hby at_130) rfl rfl ?_
          show Steps p.tables e below (T441.setTop (mkF m 132 #[.val (.int p1), .val (.int p2), .val (.int p3), .val (.int p4), .val (.int ((p1 &&& (2147483647 : Int32)) % (8 : Int32))), .val (.int ((p4 &&& (255 : Int32)).toUInt32.toUInt16.toUInt32.toInt32)), .val (.int ((p3 &&& (255 : Int32)).toUInt32.toUInt16.toUInt32.toInt32)), .val (.int ((p2 &&& (2147483647 : Int32)) % (12 : Int32))), .val (.ref x331), .val (.ref b345), .val (.ref P1), .val (.ref y430), .val (.ref P1)] [(.ref P1)])) t
          refine XS.aload X441.here hx rfl (hb hby at_132) rfl rfl ?_
          refine Jvm.RoadKit.acmp (g := (mkF m 134 #[.val (.int p1), .val (.int p2), .val (.int p3), .val (.int p4), .val (.int ((p1 &&& (2147483647 : Int32)) % (8 : Int32))), .val (.int ((p4 &&& (255 : Int32)).toUInt32.toUInt16.toUInt32.toInt32)), .val (.int ((p3 &&& (255 : Int32)).toUInt32.toUInt16.toUInt32.toInt32)), .val (.int ((p2 &&& (2147483647 : Int32)) % (12 : Int32))), .val (.ref x331), .val (.ref b345), .val (.ref P1), .val (.ref y430), .val (.ref P1)] [(.ref P1), (.ref P1)])) X441 hx rfl rfl rfl (pc0 := 134) (pc' := 137) (same := true) rfl (hb hby at_134) rfl (decide_eq_true rfl) (by decide) (by decide) ?_
          show Steps p.tables e below (T441.setTop (mkF m 137 #[.val (.int p1), .val (.int p2), .val (.int p3), .val (.int p4), .val (.int ((p1 &&& (2147483647 : Int32)) % (8 : Int32))), .val (.int ((p4 &&& (255 : Int32)).toUInt32.toUInt16.toUInt32.toInt32)), .val (.int ((p3 &&& (255 : Int32)).toUInt32.toUInt16.toUInt32.toInt32)), .val (.int ((p2 &&& (2147483647 : Int32)) % (12 : Int32))), .val (.ref x331), .val (.ref b345), .val (.ref P1), .val (.ref y430), .val (.ref P1)] [])) t
          refine XS.iconst X441.here hx rfl (hb hby at_137) ?_
          refine XS.goto X441.here hx rfl (pc0 := 138) (pc' := 142) rfl (hb hby at_138) (by decide) (by decide) ?_
          exact kt
        refine ownRetH X441 hS410 (by rw [e441]; exact (Nat.le_trans hk410 Kq430.1)) Bd.notSynchronized (v := some (.int (nar .boolean (1 : Int32)))) (fun h => by rw [Bd.returns] at h; cases h) ?_ (R432.trans ((by rw [e441]; exact CHv.at X441 hZ410 hEL R432.1))) (Nat.le_of_ble_eq_true rfl) (Nat.le_of_ble_eq_true rfl) (fun fs hr => retN X441 hx (t := .boolean) Bd.returns (by simp) (hb hby at_142) hr)
        show (Q_law Z p1 p2 p3 p4 A kA EM P0 P1 W0 W1 B0 B1 kb0 kb1 G1 h0 n0) (some (.int (nar .boolean (1 : Int32)))) T441.heap _
        rw [e441]
        exact ⟨rfl, N438⟩
      · skip
        have N443 := Fr.app N409 Nq426
        refine ownSt st426 ?_
        show ownG p.tables e below _ (T426.setTop (mkF m 97 #[.val (.int p1), .val (.int p2), .val (.int p3), .val (.int p4), .val (.int ((p1 &&& (2147483647 : Int32)) % (8 : Int32))), .val (.int ((p4 &&& (255 : Int32)).toUInt32.toUInt16.toUInt32.toInt32)), .val (.int ((p3 &&& (255 : Int32)).toUInt32.toUInt16.toUInt32.toInt32)), .val (.int ((p2 &&& (2147483647 : Int32)) % (12 : Int32))), .val (.ref x331), .val (.ref b345), .val .null, .unset, .unset] [(.int (0 : Int32))]))
        refine ownBy (A := T426.setTop (mkF m 107 #[.val (.int p1), .val (.int p2), .val (.int p3), .val (.int p4), .val (.int ((p1 &&& (2147483647 : Int32)) % (8 : Int32))), .val (.int ((p4 &&& (255 : Int32)).toUInt32.toUInt16.toUInt32.toInt32)), .val (.int ((p3 &&& (255 : Int32)).toUInt32.toUInt16.toUInt32.toInt32)), .val (.int ((p2 &&& (2147483647 : Int32)) % (12 : Int32))), .val (.ref x331), .val (.ref b345), .val .null, .unset, .unset] [(.ref b345)])) (fun t kt => ?_) ?_
        · show Steps p.tables e below (T426.setTop (mkF m 97 #[.val (.int p1), .val (.int p2), .val (.int p3), .val (.int p4), .val (.int ((p1 &&& (2147483647 : Int32)) % (8 : Int32))), .val (.int ((p4 &&& (255 : Int32)).toUInt32.toUInt16.toUInt32.toInt32)), .val (.int ((p3 &&& (255 : Int32)).toUInt32.toUInt16.toUInt32.toInt32)), .val (.int ((p2 &&& (2147483647 : Int32)) % (12 : Int32))), .val (.ref x331), .val (.ref b345), .val .null, .unset, .unset] [(.int (0 : Int32))])) t
          refine XS.ifYes X426.here hx rfl (pc0 := 97) (pc' := 105) rfl (hb hby at_97) rfl ((if0 _ _).trans (teq ((by decide) : (0 : Int32) = (0 : Int32))).1) (by decide) (by decide) ?_
          refine XS.aload X426.here hx rfl (hb hby at_105) rfl rfl ?_
          exact kt
        have f444 := (Nat.le_trans (Nat.le_trans (Nat.le_trans f357 Kq360.1) E373.1) E410.1)
        obtain ⟨vv445, _, ⟨T445, L445, k445, n445⟩, -, X445, ⟨Lc445, hQ445, l445, y445, z445⟩, st445⟩ := Jvm.LawKit.callS X426 hx (y := (⟨"com/example/vestline/vestline/TerminationReason", "named", "(Ljava/lang/String;)Ljava/util/Optional;"⟩ : MethodName)) hown410 (mvT hZ410 (hw _ (List.mem_of_getElem? (i := 40) rfl))) (mvT hZ410 (hw _ (List.mem_of_getElem? (i := 41) rfl))) (mvT hZ410 (hw _ (List.mem_of_getElem? (i := 42) rfl))) (mvT hZ410 (hw _ (List.mem_of_getElem? (i := 43) rfl))) (by decide) (backOf (W := 0) (c_named l Z a0 hw [] b345 t360 kb360 cs341 A kA EM P0 P1 W0 W1 B0 B1 kb0 kb1 G1 h410 n0 f444 f420 f421 f422 f423 hp341 hm341 SV KV EV SE EE FE SP0 EP0 FP0 EW0 FV0 FC0 KB0 SP1 EP1 FP1 EW1 FV1 FC1 KB1 O2 P5 f425) hZ410 (hw _ (List.mem_of_getElem? (i := 43) rfl)) (hw _ (List.mem_of_getElem? (i := 42) rfl)) (by decide) (by decide)) (g := (mkF m 107 #[.val (.int p1), .val (.int p2), .val (.int p3), .val (.int p4), .val (.int ((p1 &&& (2147483647 : Int32)) % (8 : Int32))), .val (.int ((p4 &&& (255 : Int32)).toUInt32.toUInt16.toUInt32.toInt32)), .val (.int ((p3 &&& (255 : Int32)).toUInt32.toUInt16.toUInt32.toInt32)), .val (.int ((p2 &&& (2147483647 : Int32)) % (12 : Int32))), .val (.ref x331), .val (.ref b345), .val .null, .unset, .unset] [(.ref b345)])) rfl (by rw [hml]; rfl) (argsL := [(.ref b345)]) (rest := []) (lenOf pd_396 rfl) rfl (by show 2 * 0 + _ ≤ _; exact Nat.le_of_eq rfl) (hb hby at_107) (fun _ _ => ⟨rfl, Eq426, (by decide : 7 + 2 ≤ _), (by decide : 94 + 3 ≤ _)⟩)
        dsimp only [Pt.U, Pt.locs, Pt.cells, Pt.slots] at X445 l445 y445 z445 st445 hQ445
        subst l445 y445 z445
        obtain ⟨y445, u445, rfl, Nq445, Kq445, Eq445, Fq445, hu445⟩ := hQ445
        obtain rfl : u445 = .null := hu445.elim (fun q => absurd q.2 hcq391) (fun q => q.elim (fun q => absurd q.2.2 hcq426) (fun q => q.1))
        have N446 := Fr.app N443 Nq445
        have R447 := R412.trans (CHr.keep Kq445 sf0 R412.1)
        have sf448 := Safe.keep Kq445 sf0 R412.1 sf413
        have sf449 := Safe.keep Kq445 sf0 R412.1 sf415
        have sf450 := Safe.keep Kq445 sf0 R412.1 sf416
        refine ownBy st445 ?_
        show ownG p.tables e below _ (T445.setTop (mkF m 110 #[.val (.int p1), .val (.int p2), .val (.int p3), .val (.int p4), .val (.int ((p1 &&& (2147483647 : Int32)) % (8 : Int32))), .val (.int ((p4 &&& (255 : Int32)).toUInt32.toUInt16.toUInt32.toInt32)), .val (.int ((p3 &&& (255 : Int32)).toUInt32.toUInt16.toUInt32.toInt32)), .val (.int ((p2 &&& (2147483647 : Int32)) % (12 : Int32))), .val (.ref x331), .val (.ref b345), .val .null, .unset, .unset] [(.ref y445)]))
        refine ownBy (A := T445.setTop (mkF m 122 #[.val (.int p1), .val (.int p2), .val (.int p3), .val (.int p4), .val (.int ((p1 &&& (2147483647 : Int32)) % (8 : Int32))), .val (.int ((p4 &&& (255 : Int32)).toUInt32.toUInt16.toUInt32.toInt32)), .val (.int ((p3 &&& (255 : Int32)).toUInt32.toUInt16.toUInt32.toInt32)), .val (.int ((p2 &&& (2147483647 : Int32)) % (12 : Int32))), .val (.ref x331), .val (.ref b345), .val .null, .val (.ref y445), .unset] [.null, (.ref y445)])) (fun t kt => ?_) ?_
        · show Steps p.tables e below (T445.setTop (mkF m 110 #[.val (.int p1), .val (.int p2), .val (.int p3), .val (.int p4), .val (.int ((p1 &&& (2147483647 : Int32)) % (8 : Int32))), .val (.int ((p4 &&& (255 : Int32)).toUInt32.toUInt16.toUInt32.toInt32)), .val (.int ((p3 &&& (255 : Int32)).toUInt32.toUInt16.toUInt32.toInt32)), .val (.int ((p2 &&& (2147483647 : Int32)) % (12 : Int32))), .val (.ref x331), .val (.ref b345), .val .null, .unset, .unset] [(.ref y445)])) t
          refine XS.astore X445.here hx rfl (hb hby at_110) rfl rfl (l' := #[.val (.int p1), .val (.int p2), .val (.int p3), .val (.int p4), .val (.int ((p1 &&& (2147483647 : Int32)) % (8 : Int32))), .val (.int ((p4 &&& (255 : Int32)).toUInt32.toUInt16.toUInt32.toInt32)), .val (.int ((p3 &&& (255 : Int32)).toUInt32.toUInt16.toUInt32.toInt32)), .val (.int ((p2 &&& (2147483647 : Int32)) % (12 : Int32))), .val (.ref x331), .val (.ref b345), .val .null, .val (.ref y445), .unset]) rfl ?_
          refine XS.aload X445.here hx rfl (hb hby at_112) rfl rfl ?_
          show Steps p.tables e below (T445.setTop (mkF m 114 #[.val (.int p1), .val (.int p2), .val (.int p3), .val (.int p4), .val (.int ((p1 &&& (2147483647 : Int32)) % (8 : Int32))), .val (.int ((p4 &&& (255 : Int32)).toUInt32.toUInt16.toUInt32.toInt32)), .val (.int ((p3 &&& (255 : Int32)).toUInt32.toUInt16.toUInt32.toInt32)), .val (.int ((p2 &&& (2147483647 : Int32)) % (12 : Int32))), .val (.ref x331), .val (.ref b345), .val .null, .val (.ref y445), .unset] [(.ref y445)])) t
          refine XS.ifnonnullYes X445.here hx rfl (pc0 := 114) (pc' := 119) rfl (hb hby at_114) rfl (by decide) (by decide) ?_
          refine XS.aload X445.here hx rfl (hb hby at_119) rfl rfl ?_
          show Steps p.tables e below (T445.setTop (mkF m 121 #[.val (.int p1), .val (.int p2), .val (.int p3), .val (.int p4), .val (.int ((p1 &&& (2147483647 : Int32)) % (8 : Int32))), .val (.int ((p4 &&& (255 : Int32)).toUInt32.toUInt16.toUInt32.toInt32)), .val (.int ((p3 &&& (255 : Int32)).toUInt32.toUInt16.toUInt32.toInt32)), .val (.int ((p2 &&& (2147483647 : Int32)) % (12 : Int32))), .val (.ref x331), .val (.ref b345), .val .null, .val (.ref y445), .unset] [(.ref y445)])) t
          refine XS.aconstNull X445.here hx rfl (hb hby at_121) ?_
          exact kt
        have f451 := (Nat.le_trans f444 Kq445.1)
        obtain ⟨cq452, kq452, q452a, q452b, q452c⟩ := isOf hZ410 rfl Eq445
        obtain ⟨vv452, _, ⟨T452, L452, k452, n452⟩, -, X452, ⟨Lc452, hQ452, l452, y452, z452⟩, st452⟩ := X445.virtualBack hx (y := (⟨"java/util/Optional", "orElse", "(Ljava/lang/Object;)Ljava/lang/Object;"⟩ : MethodName)) (z := (⟨"java/util/Optional", "orElse", "(Ljava/lang/Object;)Ljava/lang/Object;"⟩ : MethodName)) hown410 (mvT hZ410 (hw _ (List.mem_of_getElem? (i := 69) rfl))) (mvT hZ410 (hw _ (List.mem_of_getElem? (i := 70) rfl))) (notFace_of_selects (args := #[]) (mvT hZ410 (hw _ (List.mem_of_getElem? (i := 72) rfl)))) (mvT hZ410 (hw _ (List.mem_of_getElem? (i := 72) rfl))) (mvT hZ410 (hw _ (List.mem_of_getElem? (i := 71) rfl))) (by decide) (backOf (W := 0) (c_oren l Z a0 hw [] y445 T445.heap n0 f451 Fq445) hZ410 (hw _ (List.mem_of_getElem? (i := 73) rfl)) (hw _ (List.mem_of_getElem? (i := 46) rfl)) (by decide) (by decide)) q452a q452c (g := (mkF m 122 #[.val (.int p1), .val (.int p2), .val (.int p3), .val (.int p4), .val (.int ((p1 &&& (2147483647 : Int32)) % (8 : Int32))), .val (.int ((p4 &&& (255 : Int32)).toUInt32.toUInt16.toUInt32.toInt32)), .val (.int ((p3 &&& (255 : Int32)).toUInt32.toUInt16.toUInt32.toInt32)), .val (.int ((p2 &&& (2147483647 : Int32)) % (12 : Int32))), .val (.ref x331), .val (.ref b345), .val .null, .val (.ref y445), .unset] [.null, (.ref y445)])) rfl (by rw [hml]; rfl) (Steps.refl _) (argsL := [.null]) (rest := []) (lenOf pd_255 rfl) rfl (by show 2 * 0 + _ ≤ _; exact Nat.le_of_eq rfl) (hb hby at_122) (fun _ _ => ⟨rfl, rfl, (by decide : 9 + 0 ≤ _), (by decide : 97 + 0 ≤ _)⟩)
        dsimp only [Pt.U, Pt.locs, Pt.cells, Pt.slots] at X452 l452 y452 z452 st452 hQ452
        subst l452 y452 z452
        obtain ⟨rfl, Nq452, Eq452⟩ := hQ452
        have N453 := Fr.app N446 Nq452
        refine ownSt st452 ?_
        show ownG p.tables e below _ (T452.setTop (mkF m 125 #[.val (.int p1), .val (.int p2), .val (.int p3), .val (.int p4), .val (.int ((p1 &&& (2147483647 : Int32)) % (8 : Int32))), .val (.int ((p4 &&& (255 : Int32)).toUInt32.toUInt16.toUInt32.toInt32)), .val (.int ((p3 &&& (255 : Int32)).toUInt32.toUInt16.toUInt32.toInt32)), .val (.int ((p2 &&& (2147483647 : Int32)) % (12 : Int32))), .val (.ref x331), .val (.ref b345), .val .null, .val (.ref y445), .unset] [.null]))
        refine ownBy (X452.checkcastNull hx (g := (mkF m 125 #[.val (.int p1), .val (.int p2), .val (.int p3), .val (.int p4), .val (.int ((p1 &&& (2147483647 : Int32)) % (8 : Int32))), .val (.int ((p4 &&& (255 : Int32)).toUInt32.toUInt16.toUInt32.toInt32)), .val (.int ((p3 &&& (255 : Int32)).toUInt32.toUInt16.toUInt32.toInt32)), .val (.int ((p2 &&& (2147483647 : Int32)) % (12 : Int32))), .val (.ref x331), .val (.ref b345), .val .null, .val (.ref y445), .unset] [.null])) rfl rfl (hb hby at_125)) ?_
        show ownG p.tables e below _ (T452.setTop (mkF m 128 #[.val (.int p1), .val (.int p2), .val (.int p3), .val (.int p4), .val (.int ((p1 &&& (2147483647 : Int32)) % (8 : Int32))), .val (.int ((p4 &&& (255 : Int32)).toUInt32.toUInt16.toUInt32.toInt32)), .val (.int ((p3 &&& (255 : Int32)).toUInt32.toUInt16.toUInt32.toInt32)), .val (.int ((p2 &&& (2147483647 : Int32)) % (12 : Int32))), .val (.ref x331), .val (.ref b345), .val .null, .val (.ref y445), .unset] [.null]))
        refine ownBy (A := T452.setTop (mkF m 142 #[.val (.int p1), .val (.int p2), .val (.int p3), .val (.int p4), .val (.int ((p1 &&& (2147483647 : Int32)) % (8 : Int32))), .val (.int ((p4 &&& (255 : Int32)).toUInt32.toUInt16.toUInt32.toInt32)), .val (.int ((p3 &&& (255 : Int32)).toUInt32.toUInt16.toUInt32.toInt32)), .val (.int ((p2 &&& (2147483647 : Int32)) % (12 : Int32))), .val (.ref x331), .val (.ref b345), .val .null, .val (.ref y445), .val .null] [(.int (1 : Int32))])) (fun t kt => ?_) ?_
        · show Steps p.tables e below (T452.setTop (mkF m 128 #[.val (.int p1), .val (.int p2), .val (.int p3), .val (.int p4), .val (.int ((p1 &&& (2147483647 : Int32)) % (8 : Int32))), .val (.int ((p4 &&& (255 : Int32)).toUInt32.toUInt16.toUInt32.toInt32)), .val (.int ((p3 &&& (255 : Int32)).toUInt32.toUInt16.toUInt32.toInt32)), .val (.int ((p2 &&& (2147483647 : Int32)) % (12 : Int32))), .val (.ref x331), .val (.ref b345), .val .null, .val (.ref y445), .unset] [.null])) t
          refine XS.astore X452.here hx rfl (hb hby at_128) rfl rfl (l' := #[.val (.int p1), .val (.int p2), .val (.int p3), .val (.int p4), .val (.int ((p1 &&& (2147483647 : Int32)) % (8 : Int32))), .val (.int ((p4 &&& (255 : Int32)).toUInt32.toUInt16.toUInt32.toInt32)), .val (.int ((p3 &&& (255 : Int32)).toUInt32.toUInt16.toUInt32.toInt32)), .val (.int ((p2 &&& (2147483647 : Int32)) % (12 : Int32))), .val (.ref x331), .val (.ref b345), .val .null, .val (.ref y445), .val .null]) rfl ?_
          refine XS.aload X452.here hx rfl (hb hby at_130) rfl rfl ?_
          show Steps p.tables e below (T452.setTop (mkF m 132 #[.val (.int p1), .val (.int p2), .val (.int p3), .val (.int p4), .val (.int ((p1 &&& (2147483647 : Int32)) % (8 : Int32))), .val (.int ((p4 &&& (255 : Int32)).toUInt32.toUInt16.toUInt32.toInt32)), .val (.int ((p3 &&& (255 : Int32)).toUInt32.toUInt16.toUInt32.toInt32)), .val (.int ((p2 &&& (2147483647 : Int32)) % (12 : Int32))), .val (.ref x331), .val (.ref b345), .val .null, .val (.ref y445), .val .null] [.null])) t
          refine XS.aload X452.here hx rfl (hb hby at_132) rfl rfl ?_
          refine Jvm.RoadKit.acmp (g := (mkF m 134 #[.val (.int p1), .val (.int p2), .val (.int p3), .val (.int p4), .val (.int ((p1 &&& (2147483647 : Int32)) % (8 : Int32))), .val (.int ((p4 &&& (255 : Int32)).toUInt32.toUInt16.toUInt32.toInt32)), .val (.int ((p3 &&& (255 : Int32)).toUInt32.toUInt16.toUInt32.toInt32)), .val (.int ((p2 &&& (2147483647 : Int32)) % (12 : Int32))), .val (.ref x331), .val (.ref b345), .val .null, .val (.ref y445), .val .null] [.null, .null])) X452 hx rfl rfl rfl (pc0 := 134) (pc' := 137) (same := true) rfl (hb hby at_134) rfl (decide_eq_true rfl) (by decide) (by decide) ?_
          show Steps p.tables e below (T452.setTop (mkF m 137 #[.val (.int p1), .val (.int p2), .val (.int p3), .val (.int p4), .val (.int ((p1 &&& (2147483647 : Int32)) % (8 : Int32))), .val (.int ((p4 &&& (255 : Int32)).toUInt32.toUInt16.toUInt32.toInt32)), .val (.int ((p3 &&& (255 : Int32)).toUInt32.toUInt16.toUInt32.toInt32)), .val (.int ((p2 &&& (2147483647 : Int32)) % (12 : Int32))), .val (.ref x331), .val (.ref b345), .val .null, .val (.ref y445), .val .null] [])) t
          refine XS.iconst X452.here hx rfl (hb hby at_137) ?_
          refine XS.goto X452.here hx rfl (pc0 := 138) (pc' := 142) rfl (hb hby at_138) (by decide) (by decide) ?_
          exact kt
        refine ownRetH X452 hS410 (by rw [Eq452]; exact (Nat.le_trans hk410 Kq445.1)) Bd.notSynchronized (v := some (.int (nar .boolean (1 : Int32)))) (fun h => by rw [Bd.returns] at h; cases h) ?_ (R447.trans ((by rw [Eq452]; exact CHv.at X452 hZ410 hEL R447.1))) (Nat.le_of_ble_eq_true rfl) (Nat.le_of_ble_eq_true rfl) (fun fs hr => retN X452 hx (t := .boolean) Bd.returns (by simp) (hb hby at_142) hr)
        show (Q_law Z p1 p2 p3 p4 A kA EM P0 P1 W0 W1 B0 B1 kb0 kb1 G1 h0 n0) (some (.int (nar .boolean (1 : Int32)))) T452.heap _
        rw [Eq452]
        exact ⟨rfl, N453⟩
  · skip
    refine ownBy (A := T331.setTop (mkF m 58 #[.val (.int p1), .val (.int p2), .val (.int p3), .val (.int p4), .val (.int ((p1 &&& (2147483647 : Int32)) % (8 : Int32))), .val (.int ((p4 &&& (255 : Int32)).toUInt32.toUInt16.toUInt32.toInt32)), .val (.int ((p3 &&& (255 : Int32)).toUInt32.toUInt16.toUInt32.toInt32)), .val (.int ((p2 &&& (2147483647 : Int32)) % (12 : Int32))), .val (.ref x331), .unset, .unset, .unset, .unset] [])) (fun t kt => ?_) ?_
    · show Steps p.tables e below (T331.setTop (mkF m 48 #[.val (.int p1), .val (.int p2), .val (.int p3), .val (.int p4), .val (.int ((p1 &&& (2147483647 : Int32)) % (8 : Int32))), .val (.int ((p4 &&& (255 : Int32)).toUInt32.toUInt16.toUInt32.toInt32)), .val (.int ((p3 &&& (255 : Int32)).toUInt32.toUInt16.toUInt32.toInt32)), .val (.int ((p2 &&& (2147483647 : Int32)) % (12 : Int32))), .val (.ref x331), .unset, .unset, .unset, .unset] [(.int (Int32.ofNat cs331.length)), (.int ((p2 &&& (2147483647 : Int32)) % (12 : Int32)))])) t
      refine XS.icmpYes X331.here hx rfl (pc0 := 48) (pc' := 58) rfl (hb hby at_48) rfl (flt hc340).2.1 (by decide) (by decide) ?_
      exact kt
    obtain ⟨T455, h455, X455, e455, E455, A455, D455, -, st455⟩ := newO X331 hx hZ hown (hw _ (List.mem_of_getElem? (i := 6) rfl)) (hw _ (List.mem_of_getElem? (i := 7) rfl)) (hw _ (List.mem_of_getElem? (i := 8) rfl)) rfl (g := (mkF m 58 #[.val (.int p1), .val (.int p2), .val (.int p3), .val (.int p4), .val (.int ((p1 &&& (2147483647 : Int32)) % (8 : Int32))), .val (.int ((p4 &&& (255 : Int32)).toUInt32.toUInt16.toUInt32.toInt32)), .val (.int ((p3 &&& (255 : Int32)).toUInt32.toUInt16.toUInt32.toInt32)), .val (.int ((p2 &&& (2147483647 : Int32)) % (12 : Int32))), .val (.ref x331), .unset, .unset, .unset, .unset] [])) rfl (hb hby at_58) (by decide) (by decide)
    obtain ⟨b455, g455⟩ : ∃ z, z = T331.heap.size := ⟨_, rfl⟩
    rw [← g455] at A455 D455 st455
    have ne456 : x331 ≠ b455 := Nat.ne_of_lt (Nat.lt_of_lt_of_le Aq331.lt (Nat.le_of_eq g455.symm))
    have f458 := (Nat.le_trans Z0 Kq331.1)
    have g457 : n0 ≤ b455 := Nat.le_trans f458 (Nat.le_of_eq g455.symm)
    have sf459 : Safe Z ownEL s.vm T331.heap b455 := Safe.new (Nat.le_of_eq g455.symm)
    have f461 := ((Keep.refl h0 []).trans Kq331 all0)
    have z460 : h0.size ≤ b455 := Nat.le_trans f461.1 (Nat.le_of_eq g455.symm)
    have R462 := R337.trans (CHr.ext E455 R337.1)
    have sf463 := Safe.ext E455 R337.1 sf338
    have sf464 := Safe.ext E455 R337.1 sf459
    have F465 : Fld Z h455 b455 "java/lang/String" "value" "[B" .null := D455 (Or.inr (hw _ (List.mem_of_getElem? (i := 21) rfl))) (ty := (.array .byte)) (by decide)
    have F466 : Fld Z h455 b455 "java/lang/String" "coder" "B" (.int (0 : Int32)) := D455 (Or.inr (hw _ (List.mem_of_getElem? (i := 22) rfl))) (ty := .byte) (by decide)
    refine ownBy st455 ?_
    show ownG p.tables e below _ (T455.setTop (mkF m 61 #[.val (.int p1), .val (.int p2), .val (.int p3), .val (.int p4), .val (.int ((p1 &&& (2147483647 : Int32)) % (8 : Int32))), .val (.int ((p4 &&& (255 : Int32)).toUInt32.toUInt16.toUInt32.toInt32)), .val (.int ((p3 &&& (255 : Int32)).toUInt32.toUInt16.toUInt32.toInt32)), .val (.int ((p2 &&& (2147483647 : Int32)) % (12 : Int32))), .val (.ref x331), .unset, .unset, .unset, .unset] [(.ref b455)]))
    refine ownBy (A := T455.setTop (mkF m 64 #[.val (.int p1), .val (.int p2), .val (.int p3), .val (.int p4), .val (.int ((p1 &&& (2147483647 : Int32)) % (8 : Int32))), .val (.int ((p4 &&& (255 : Int32)).toUInt32.toUInt16.toUInt32.toInt32)), .val (.int ((p3 &&& (255 : Int32)).toUInt32.toUInt16.toUInt32.toInt32)), .val (.int ((p2 &&& (2147483647 : Int32)) % (12 : Int32))), .val (.ref x331), .unset, .unset, .unset, .unset] [(.ref x331), (.ref b455), (.ref b455)])) (fun t kt => ?_) ?_
    · show Steps p.tables e below (T455.setTop (mkF m 61 #[.val (.int p1), .val (.int p2), .val (.int p3), .val (.int p4), .val (.int ((p1 &&& (2147483647 : Int32)) % (8 : Int32))), .val (.int ((p4 &&& (255 : Int32)).toUInt32.toUInt16.toUInt32.toInt32)), .val (.int ((p3 &&& (255 : Int32)).toUInt32.toUInt16.toUInt32.toInt32)), .val (.int ((p2 &&& (2147483647 : Int32)) % (12 : Int32))), .val (.ref x331), .unset, .unset, .unset, .unset] [(.ref b455)])) t
      refine XS.dup X455.here hx rfl (hb hby at_61) rfl rfl ?_
      refine XS.aload X455.here hx rfl (hb hby at_62) rfl rfl ?_
      exact kt
    by_cases hz467 : cs331.length = 0
    · skip
      have hnil := List.eq_nil_of_length_eq_zero hz467
      subst hnil
      have f468 := (Aq331.ext E455)
      have f469 := (Nat.le_trans f458 E455.1)
      obtain ⟨vv470, _, ⟨T470, L470, k470, n470⟩, -, X470, hS470, hg470, ⟨Lc470, hQ470, l470, y470, z470, hC470⟩, st470⟩ := X455.specialBackS hx (y := (⟨"java/lang/String", "<init>", "([C)V"⟩ : MethodName)) rfl hown (mvT hZ (hw _ (List.mem_of_getElem? (i := 9) rfl))) (mvT hZ (hw _ (List.mem_of_getElem? (i := 10) rfl))) (mvT hZ (hw _ (List.mem_of_getElem? (i := 11) rfl))) (by decide) (backOfSH (W := 1) (s := s) (EL := ownEL) (c_ini0 l Z a0 hw [] b455 x331 _ kx331 h455 n0 f469 A455 F465 F466 g457 f468 (Ne.symm ne456)) hZ (hw _ (List.mem_of_getElem? (i := 11) rfl)) (hw _ (List.mem_of_getElem? (i := 8) rfl)) (by decide) (by decide) hEL R462.1) (g := (mkF m 64 #[.val (.int p1), .val (.int p2), .val (.int p3), .val (.int p4), .val (.int ((p1 &&& (2147483647 : Int32)) % (8 : Int32))), .val (.int ((p4 &&& (255 : Int32)).toUInt32.toUInt16.toUInt32.toInt32)), .val (.int ((p3 &&& (255 : Int32)).toUInt32.toUInt16.toUInt32.toInt32)), .val (.int ((p2 &&& (2147483647 : Int32)) % (12 : Int32))), .val (.ref x331), .unset, .unset, .unset, .unset] [(.ref x331), (.ref b455), (.ref b455)])) rfl (by rw [hml]; rfl) (Steps.refl _) (a := b455) (argsL := [(.ref x331)]) (rest := [(.ref b455)]) (lenOf pd_361 rfl) rfl (by show 2 * 0 + _ ≤ _; exact Nat.le_of_eq rfl) (hb hby at_64) (fun _ _ => ⟨rfl, e455, (by decide : 2 + 4 ≤ _), (by decide : 15 + 8 ≤ _)⟩)
      dsimp only [Pt.U, Pt.locs, Pt.cells, Pt.slots] at X470 l470 y470 z470 st470 hQ470 hS470 hg470 hC470
      subst l470 y470 z470
      obtain ⟨rfl, Nq470, Kq470, Eq470, Cq470, t470, kb470, Vq470, Aq470⟩ := hQ470
      have N471 := Fr.app N336 Nq470
      have R473 := R462.trans hC470
      have sf474 := CHr.safe hC470 f468.lt sf463
      have sf475 := CHr.safe hC470 A455.lt sf464
      obtain ⟨XR476, hSR476, hZ476, hown476⟩ := rebS hS0 (by rw [e455]; exact (Nat.le_trans (Nat.le_trans (Nat.le_refl _) Kq331.1) E455.1)) X470 hS470 hg470 hZ hown
      refine ownSt st470 ?_
      show ownG p.tables e below _ (T470.setTop (mkF m 67 #[.val (.int p1), .val (.int p2), .val (.int p3), .val (.int p4), .val (.int ((p1 &&& (2147483647 : Int32)) % (8 : Int32))), .val (.int ((p4 &&& (255 : Int32)).toUInt32.toUInt16.toUInt32.toInt32)), .val (.int ((p3 &&& (255 : Int32)).toUInt32.toUInt16.toUInt32.toInt32)), .val (.int ((p2 &&& (2147483647 : Int32)) % (12 : Int32))), .val (.ref x331), .unset, .unset, .unset, .unset] [(.ref b455)]))
      have hpe : ∀ c ∈ ([] : List Int32), ¬ c < 0 ∧ ¬ (255 : Int32) < c := fun c hc => nomatch hc
      have hle : ([] : List Int32).length ≤ 11 := by decide
      refine ownBy (A := T470.setTop (mkF m 74 #[.val (.int p1), .val (.int p2), .val (.int p3), .val (.int p4), .val (.int ((p1 &&& (2147483647 : Int32)) % (8 : Int32))), .val (.int ((p4 &&& (255 : Int32)).toUInt32.toUInt16.toUInt32.toInt32)), .val (.int ((p3 &&& (255 : Int32)).toUInt32.toUInt16.toUInt32.toInt32)), .val (.int ((p2 &&& (2147483647 : Int32)) % (12 : Int32))), .val (.ref x331), .val (.ref b455), .val .null, .unset, .unset] [(.ref b455)])) (fun t kt => ?_) ?_
      · show Steps p.tables e below (T470.setTop (mkF m 67 #[.val (.int p1), .val (.int p2), .val (.int p3), .val (.int p4), .val (.int ((p1 &&& (2147483647 : Int32)) % (8 : Int32))), .val (.int ((p4 &&& (255 : Int32)).toUInt32.toUInt16.toUInt32.toInt32)), .val (.int ((p3 &&& (255 : Int32)).toUInt32.toUInt16.toUInt32.toInt32)), .val (.int ((p2 &&& (2147483647 : Int32)) % (12 : Int32))), .val (.ref x331), .unset, .unset, .unset, .unset] [(.ref b455)])) t
        refine XS.astore XR476.here hx rfl (hb hby at_67) rfl rfl (l' := #[.val (.int p1), .val (.int p2), .val (.int p3), .val (.int p4), .val (.int ((p1 &&& (2147483647 : Int32)) % (8 : Int32))), .val (.int ((p4 &&& (255 : Int32)).toUInt32.toUInt16.toUInt32.toInt32)), .val (.int ((p3 &&& (255 : Int32)).toUInt32.toUInt16.toUInt32.toInt32)), .val (.int ((p2 &&& (2147483647 : Int32)) % (12 : Int32))), .val (.ref x331), .val (.ref b455), .unset, .unset, .unset]) rfl ?_
        refine XS.aconstNull XR476.here hx rfl (hb hby at_69) ?_
        show Steps p.tables e below (T470.setTop (mkF m 70 #[.val (.int p1), .val (.int p2), .val (.int p3), .val (.int p4), .val (.int ((p1 &&& (2147483647 : Int32)) % (8 : Int32))), .val (.int ((p4 &&& (255 : Int32)).toUInt32.toUInt16.toUInt32.toInt32)), .val (.int ((p3 &&& (255 : Int32)).toUInt32.toUInt16.toUInt32.toInt32)), .val (.int ((p2 &&& (2147483647 : Int32)) % (12 : Int32))), .val (.ref x331), .val (.ref b455), .unset, .unset, .unset] [.null])) t
        refine XS.astore XR476.here hx rfl (hb hby at_70) rfl rfl (l' := #[.val (.int p1), .val (.int p2), .val (.int p3), .val (.int p4), .val (.int ((p1 &&& (2147483647 : Int32)) % (8 : Int32))), .val (.int ((p4 &&& (255 : Int32)).toUInt32.toUInt16.toUInt32.toInt32)), .val (.int ((p3 &&& (255 : Int32)).toUInt32.toUInt16.toUInt32.toInt32)), .val (.int ((p2 &&& (2147483647 : Int32)) % (12 : Int32))), .val (.ref x331), .val (.ref b455), .val .null, .unset, .unset]) rfl ?_
        refine XS.aload XR476.here hx rfl (hb hby at_72) rfl rfl ?_
        exact kt
      obtain ⟨a477, T477, h477, k477, b477, kb477, X477, e477, E477, hS477, hk477, hZ477, hown477, A477, C477, V477, Ab477, -, -, hC477, Lt477, hne477, st477⟩ := ldcCH (text := "death") XR476 hx hZ476 hown476 (hw _ (List.mem_of_getElem? (i := 27) rfl)) wS rfl hSR476 (Nat.le_refl _) hEL (by simp [ownEL]) R473.1 (vs := [(.int (100 : Int32)), (.int (101 : Int32)), (.int (97 : Int32)), (.int (116 : Int32)), (.int (104 : Int32))]) (z := (5 : Int32)) ⟨by decide, by decide⟩ (by decide) rfl (g := (mkF m 74 #[.val (.int p1), .val (.int p2), .val (.int p3), .val (.int p4), .val (.int ((p1 &&& (2147483647 : Int32)) % (8 : Int32))), .val (.int ((p4 &&& (255 : Int32)).toUInt32.toUInt16.toUInt32.toInt32)), .val (.int ((p3 &&& (255 : Int32)).toUInt32.toUInt16.toUInt32.toInt32)), .val (.int ((p2 &&& (2147483647 : Int32)) % (12 : Int32))), .val (.ref x331), .val (.ref b455), .val .null, .unset, .unset] [(.ref b455)])) rfl (hb hby at_74) (n := 20) (by decide) (by decide) (by decide) (by decide)
      have R479 := R473.trans hC477
      have f481 := (f468.keep Kq470 (ninS ne456 nin0))
      have sf480 := CHr.safe hC477 f481.lt sf474
      have f483 := (A455.keep Kq470)
      have sf482 := CHr.safe hC477 f483.lt sf475
      have ne484 := hne477 x331 sf480
      have ne485 := hne477 b455 sf482
      refine ownBy st477 ?_
      show ownG p.tables e below _ (T477.setTop (mkF m 76 #[.val (.int p1), .val (.int p2), .val (.int p3), .val (.int p4), .val (.int ((p1 &&& (2147483647 : Int32)) % (8 : Int32))), .val (.int ((p4 &&& (255 : Int32)).toUInt32.toUInt16.toUInt32.toInt32)), .val (.int ((p3 &&& (255 : Int32)).toUInt32.toUInt16.toUInt32.toInt32)), .val (.int ((p2 &&& (2147483647 : Int32)) % (12 : Int32))), .val (.ref x331), .val (.ref b455), .val .null, .unset, .unset] [(.ref a477), (.ref b455)]))
      have hcd486 : StrChars.Road.CodA ([] : List Int32) 0 (Int32.ofNat ([] : List Int32).length) ((([] : List Int32).map (fun c => c.toInt8.toInt32)).map Value.int) := StrChars.Road.codOf rfl (fun x hx => (hpe x hx).2)
      have hbd486 : ∀ x ∈ ([] : List Int32), ¬ x < 0 ∧ ¬ (65535 : Int32) < x := own_up _ hpe
      have f487 := (f483.ext E477)
      have f488 := (Vq470.ext E477)
      have f489 := (Cq470.ext E477)
      have f490 := (Aq470.ext E477)
      have hpl491 : ∀ c ∈ ([(100 : Int32), (101 : Int32), (97 : Int32), (116 : Int32), (104 : Int32)] : List Int32), ¬ c < 0 ∧ ¬ (255 : Int32) < c := by decide
      have hcd491 : StrChars.Road.CodA ([(100 : Int32), (101 : Int32), (97 : Int32), (116 : Int32), (104 : Int32)] : List Int32) 0 (5 : Int32) ((([(100 : Int32), (101 : Int32), (97 : Int32), (116 : Int32), (104 : Int32)] : List Int32).map (fun c => c.toInt8.toInt32)).map Value.int) := StrChars.Road.codOf (n := 5) rfl (fun x hx => (hpl491 x hx).2)
      have hbd491 : ∀ x ∈ ([(100 : Int32), (101 : Int32), (97 : Int32), (116 : Int32), (104 : Int32)] : List Int32), ¬ x < 0 ∧ ¬ (65535 : Int32) < x := own_up _ hpl491
      have f492 := ((((X00.keep Kq331 all0).ext E455).keep Kq470 (allS g457 all0)).ext E477)
      obtain ⟨cq493, kq493, q493a, q493b, q493c⟩ := isOf hZ477 e477 f487
      obtain ⟨vv493, _, ⟨T493, L493, k493, n493⟩, -, X493, ⟨Lc493, hQ493, l493, y493, z493⟩, st493⟩ := X477.virtualBack hx (y := (⟨"java/lang/String", "equals", "(Ljava/lang/Object;)Z"⟩ : MethodName)) (z := (⟨"java/lang/String", "equals", "(Ljava/lang/Object;)Z"⟩ : MethodName)) hown477 (mvT hZ477 (hw _ (List.mem_of_getElem? (i := 28) rfl))) (mvT hZ477 (hw _ (List.mem_of_getElem? (i := 29) rfl))) (notFace_of_selects (args := #[]) (mvT hZ477 (hw _ (List.mem_of_getElem? (i := 31) rfl)))) (mvT hZ477 (hw _ (List.mem_of_getElem? (i := 31) rfl))) (mvT hZ477 (hw _ (List.mem_of_getElem? (i := 30) rfl))) (by decide) (StrChars.Road.eqW (W := 0) hZ477 heq (kI := 4) (hw _ (List.mem_of_getElem? (i := 7) rfl)) f487 f488 f489 f490 hcd486 hbd486 (Nat.le_trans hle (by decide)) A477 V477 C477 Ab477 hcd491 hbd491 (Nat.le_of_ble_eq_true rfl) (O2.ext f492.2) P5 (by decide) (by decide)) q493a q493c (g := (mkF m 76 #[.val (.int p1), .val (.int p2), .val (.int p3), .val (.int p4), .val (.int ((p1 &&& (2147483647 : Int32)) % (8 : Int32))), .val (.int ((p4 &&& (255 : Int32)).toUInt32.toUInt16.toUInt32.toInt32)), .val (.int ((p3 &&& (255 : Int32)).toUInt32.toUInt16.toUInt32.toInt32)), .val (.int ((p2 &&& (2147483647 : Int32)) % (12 : Int32))), .val (.ref x331), .val (.ref b455), .val .null, .unset, .unset] [(.ref a477), (.ref b455)])) rfl (by rw [hml]; rfl) (Steps.refl _) (argsL := [(.ref a477)]) (rest := []) (lenOf pd_291 rfl) rfl (by show 2 * 0 + _ ≤ _; exact Nat.le_of_eq rfl) (hb hby at_76) (fun _ _ => ⟨rfl, e477, (by decide : 8 + 0 ≤ _), (by decide : 47 + 0 ≤ _)⟩)
      dsimp only [Pt.U, Pt.locs, Pt.cells, Pt.slots] at X493 l493 y493 z493 st493 hQ493
      subst l493 y493 z493
      obtain ⟨hE493, rfl, Eq493⟩ := hQ493
      have Nq493 : Fr n0 ([] : List Loc) := Fr.nil n0
      rcases hE493 with ⟨rfl, hcq493⟩ | ⟨rfl, hcq493⟩
      · skip
        have N494 := Fr.app N471 Nq493
        refine ownSt st493 ?_
        show ownG p.tables e below _ (T493.setTop (mkF m 79 #[.val (.int p1), .val (.int p2), .val (.int p3), .val (.int p4), .val (.int ((p1 &&& (2147483647 : Int32)) % (8 : Int32))), .val (.int ((p4 &&& (255 : Int32)).toUInt32.toUInt16.toUInt32.toInt32)), .val (.int ((p3 &&& (255 : Int32)).toUInt32.toUInt16.toUInt32.toInt32)), .val (.int ((p2 &&& (2147483647 : Int32)) % (12 : Int32))), .val (.ref x331), .val (.ref b455), .val .null, .unset, .unset] [(.int (1 : Int32))]))
        refine ownBy (A := T493.setTop (mkF m 82 #[.val (.int p1), .val (.int p2), .val (.int p3), .val (.int p4), .val (.int ((p1 &&& (2147483647 : Int32)) % (8 : Int32))), .val (.int ((p4 &&& (255 : Int32)).toUInt32.toUInt16.toUInt32.toInt32)), .val (.int ((p3 &&& (255 : Int32)).toUInt32.toUInt16.toUInt32.toInt32)), .val (.int ((p2 &&& (2147483647 : Int32)) % (12 : Int32))), .val (.ref x331), .val (.ref b455), .val .null, .unset, .unset] [])) (fun t kt => ?_) ?_
        · show Steps p.tables e below (T493.setTop (mkF m 79 #[.val (.int p1), .val (.int p2), .val (.int p3), .val (.int p4), .val (.int ((p1 &&& (2147483647 : Int32)) % (8 : Int32))), .val (.int ((p4 &&& (255 : Int32)).toUInt32.toUInt16.toUInt32.toInt32)), .val (.int ((p3 &&& (255 : Int32)).toUInt32.toUInt16.toUInt32.toInt32)), .val (.int ((p2 &&& (2147483647 : Int32)) % (12 : Int32))), .val (.ref x331), .val (.ref b455), .val .null, .unset, .unset] [(.int (1 : Int32))])) t
          refine XS.ifNo X493.here hx rfl (hb hby at_79) rfl ((if0 _ _).trans (feq ((by decide) : ¬ ((1 : Int32) = (0 : Int32)))).1) ?_
          exact kt
        obtain ⟨T495, X495, e495, st495⟩ := getS2 X493 hx hZ477 hown477 (host := "") (Or.inl (hw _ (List.mem_of_getElem? (i := 86) rfl))) Via.refl Eq493 (SP0.ext f492.2) (g := (mkF m 82 #[.val (.int p1), .val (.int p2), .val (.int p3), .val (.int p4), .val (.int ((p1 &&& (2147483647 : Int32)) % (8 : Int32))), .val (.int ((p4 &&& (255 : Int32)).toUInt32.toUInt16.toUInt32.toInt32)), .val (.int ((p3 &&& (255 : Int32)).toUInt32.toUInt16.toUInt32.toInt32)), .val (.int ((p2 &&& (2147483647 : Int32)) % (12 : Int32))), .val (.ref x331), .val (.ref b455), .val .null, .unset, .unset] [])) rfl (hb hby at_82)
        refine ownBy st495 ?_
        show ownG p.tables e below _ (T495.setTop (mkF m 85 #[.val (.int p1), .val (.int p2), .val (.int p3), .val (.int p4), .val (.int ((p1 &&& (2147483647 : Int32)) % (8 : Int32))), .val (.int ((p4 &&& (255 : Int32)).toUInt32.toUInt16.toUInt32.toInt32)), .val (.int ((p3 &&& (255 : Int32)).toUInt32.toUInt16.toUInt32.toInt32)), .val (.int ((p2 &&& (2147483647 : Int32)) % (12 : Int32))), .val (.ref x331), .val (.ref b455), .val .null, .unset, .unset] [(.ref P0)]))
        refine ownBy (A := T495.setTop (mkF m 107 #[.val (.int p1), .val (.int p2), .val (.int p3), .val (.int p4), .val (.int ((p1 &&& (2147483647 : Int32)) % (8 : Int32))), .val (.int ((p4 &&& (255 : Int32)).toUInt32.toUInt16.toUInt32.toInt32)), .val (.int ((p3 &&& (255 : Int32)).toUInt32.toUInt16.toUInt32.toInt32)), .val (.int ((p2 &&& (2147483647 : Int32)) % (12 : Int32))), .val (.ref x331), .val (.ref b455), .val (.ref P0), .unset, .unset] [(.ref b455)])) (fun t kt => ?_) ?_
        · show Steps p.tables e below (T495.setTop (mkF m 85 #[.val (.int p1), .val (.int p2), .val (.int p3), .val (.int p4), .val (.int ((p1 &&& (2147483647 : Int32)) % (8 : Int32))), .val (.int ((p4 &&& (255 : Int32)).toUInt32.toUInt16.toUInt32.toInt32)), .val (.int ((p3 &&& (255 : Int32)).toUInt32.toUInt16.toUInt32.toInt32)), .val (.int ((p2 &&& (2147483647 : Int32)) % (12 : Int32))), .val (.ref x331), .val (.ref b455), .val .null, .unset, .unset] [(.ref P0)])) t
          refine XS.astore X495.here hx rfl (hb hby at_85) rfl rfl (l' := #[.val (.int p1), .val (.int p2), .val (.int p3), .val (.int p4), .val (.int ((p1 &&& (2147483647 : Int32)) % (8 : Int32))), .val (.int ((p4 &&& (255 : Int32)).toUInt32.toUInt16.toUInt32.toInt32)), .val (.int ((p3 &&& (255 : Int32)).toUInt32.toUInt16.toUInt32.toInt32)), .val (.int ((p2 &&& (2147483647 : Int32)) % (12 : Int32))), .val (.ref x331), .val (.ref b455), .val (.ref P0), .unset, .unset]) rfl ?_
          refine XS.goto X495.here hx rfl (pc0 := 87) (pc' := 105) rfl (hb hby at_87) (by decide) (by decide) ?_
          show Steps p.tables e below (T495.setTop (mkF m 105 #[.val (.int p1), .val (.int p2), .val (.int p3), .val (.int p4), .val (.int ((p1 &&& (2147483647 : Int32)) % (8 : Int32))), .val (.int ((p4 &&& (255 : Int32)).toUInt32.toUInt16.toUInt32.toInt32)), .val (.int ((p3 &&& (255 : Int32)).toUInt32.toUInt16.toUInt32.toInt32)), .val (.int ((p2 &&& (2147483647 : Int32)) % (12 : Int32))), .val (.ref x331), .val (.ref b455), .val (.ref P0), .unset, .unset] [])) t
          refine XS.aload X495.here hx rfl (hb hby at_105) rfl rfl ?_
          exact kt
        have f496 := (Nat.le_trans (Nat.le_trans f469 Kq470.1) E477.1)
        obtain ⟨vv497, _, ⟨T497, L497, k497, n497⟩, -, X497, ⟨Lc497, hQ497, l497, y497, z497⟩, st497⟩ := Jvm.LawKit.callS X495 hx (y := (⟨"com/example/vestline/vestline/TerminationReason", "named", "(Ljava/lang/String;)Ljava/util/Optional;"⟩ : MethodName)) hown477 (mvT hZ477 (hw _ (List.mem_of_getElem? (i := 40) rfl))) (mvT hZ477 (hw _ (List.mem_of_getElem? (i := 41) rfl))) (mvT hZ477 (hw _ (List.mem_of_getElem? (i := 42) rfl))) (mvT hZ477 (hw _ (List.mem_of_getElem? (i := 43) rfl))) (by decide) (backOf (W := 0) (c_named l Z a0 hw [] b455 t470 kb470 ([] : List Int32) A kA EM P0 P1 W0 W1 B0 B1 kb0 kb1 G1 h477 n0 f496 f487 f488 f489 f490 hpe hle SV KV EV SE EE FE SP0 EP0 FP0 EW0 FV0 FC0 KB0 SP1 EP1 FP1 EW1 FV1 FC1 KB1 O2 P5 f492) hZ477 (hw _ (List.mem_of_getElem? (i := 43) rfl)) (hw _ (List.mem_of_getElem? (i := 42) rfl)) (by decide) (by decide)) (g := (mkF m 107 #[.val (.int p1), .val (.int p2), .val (.int p3), .val (.int p4), .val (.int ((p1 &&& (2147483647 : Int32)) % (8 : Int32))), .val (.int ((p4 &&& (255 : Int32)).toUInt32.toUInt16.toUInt32.toInt32)), .val (.int ((p3 &&& (255 : Int32)).toUInt32.toUInt16.toUInt32.toInt32)), .val (.int ((p2 &&& (2147483647 : Int32)) % (12 : Int32))), .val (.ref x331), .val (.ref b455), .val (.ref P0), .unset, .unset] [(.ref b455)])) rfl (by rw [hml]; rfl) (argsL := [(.ref b455)]) (rest := []) (lenOf pd_396 rfl) rfl (by show 2 * 0 + _ ≤ _; exact Nat.le_of_eq rfl) (hb hby at_107) (fun _ _ => ⟨rfl, e495, (by decide : 8 + 2 ≤ _), (by decide : 47 + 3 ≤ _)⟩)
        dsimp only [Pt.U, Pt.locs, Pt.cells, Pt.slots] at X497 l497 y497 z497 st497 hQ497
        subst l497 y497 z497
        obtain ⟨y497, u497, rfl, Nq497, Kq497, Eq497, Fq497, hu497⟩ := hQ497
        obtain rfl : u497 = (.ref P0) := hu497.elim (fun q => q.1) (fun q => q.elim (fun q => absurd hcq493 q.2.1) (fun q => absurd hcq493 q.2.1))
        have N498 := Fr.app N494 Nq497
        have R499 := R479.trans (CHr.keep Kq497 sf0 R479.1)
        have sf500 := Safe.keep Kq497 sf0 R479.1 sf480
        have sf501 := Safe.keep Kq497 sf0 R479.1 sf482
        refine ownBy st497 ?_
        show ownG p.tables e below _ (T497.setTop (mkF m 110 #[.val (.int p1), .val (.int p2), .val (.int p3), .val (.int p4), .val (.int ((p1 &&& (2147483647 : Int32)) % (8 : Int32))), .val (.int ((p4 &&& (255 : Int32)).toUInt32.toUInt16.toUInt32.toInt32)), .val (.int ((p3 &&& (255 : Int32)).toUInt32.toUInt16.toUInt32.toInt32)), .val (.int ((p2 &&& (2147483647 : Int32)) % (12 : Int32))), .val (.ref x331), .val (.ref b455), .val (.ref P0), .unset, .unset] [(.ref y497)]))
        refine ownBy (A := T497.setTop (mkF m 122 #[.val (.int p1), .val (.int p2), .val (.int p3), .val (.int p4), .val (.int ((p1 &&& (2147483647 : Int32)) % (8 : Int32))), .val (.int ((p4 &&& (255 : Int32)).toUInt32.toUInt16.toUInt32.toInt32)), .val (.int ((p3 &&& (255 : Int32)).toUInt32.toUInt16.toUInt32.toInt32)), .val (.int ((p2 &&& (2147483647 : Int32)) % (12 : Int32))), .val (.ref x331), .val (.ref b455), .val (.ref P0), .val (.ref y497), .unset] [.null, (.ref y497)])) (fun t kt => ?_) ?_
        · show Steps p.tables e below (T497.setTop (mkF m 110 #[.val (.int p1), .val (.int p2), .val (.int p3), .val (.int p4), .val (.int ((p1 &&& (2147483647 : Int32)) % (8 : Int32))), .val (.int ((p4 &&& (255 : Int32)).toUInt32.toUInt16.toUInt32.toInt32)), .val (.int ((p3 &&& (255 : Int32)).toUInt32.toUInt16.toUInt32.toInt32)), .val (.int ((p2 &&& (2147483647 : Int32)) % (12 : Int32))), .val (.ref x331), .val (.ref b455), .val (.ref P0), .unset, .unset] [(.ref y497)])) t
          refine XS.astore X497.here hx rfl (hb hby at_110) rfl rfl (l' := #[.val (.int p1), .val (.int p2), .val (.int p3), .val (.int p4), .val (.int ((p1 &&& (2147483647 : Int32)) % (8 : Int32))), .val (.int ((p4 &&& (255 : Int32)).toUInt32.toUInt16.toUInt32.toInt32)), .val (.int ((p3 &&& (255 : Int32)).toUInt32.toUInt16.toUInt32.toInt32)), .val (.int ((p2 &&& (2147483647 : Int32)) % (12 : Int32))), .val (.ref x331), .val (.ref b455), .val (.ref P0), .val (.ref y497), .unset]) rfl ?_
          refine XS.aload X497.here hx rfl (hb hby at_112) rfl rfl ?_
          show Steps p.tables e below (T497.setTop (mkF m 114 #[.val (.int p1), .val (.int p2), .val (.int p3), .val (.int p4), .val (.int ((p1 &&& (2147483647 : Int32)) % (8 : Int32))), .val (.int ((p4 &&& (255 : Int32)).toUInt32.toUInt16.toUInt32.toInt32)), .val (.int ((p3 &&& (255 : Int32)).toUInt32.toUInt16.toUInt32.toInt32)), .val (.int ((p2 &&& (2147483647 : Int32)) % (12 : Int32))), .val (.ref x331), .val (.ref b455), .val (.ref P0), .val (.ref y497), .unset] [(.ref y497)])) t
          refine XS.ifnonnullYes X497.here hx rfl (pc0 := 114) (pc' := 119) rfl (hb hby at_114) rfl (by decide) (by decide) ?_
          refine XS.aload X497.here hx rfl (hb hby at_119) rfl rfl ?_
          show Steps p.tables e below (T497.setTop (mkF m 121 #[.val (.int p1), .val (.int p2), .val (.int p3), .val (.int p4), .val (.int ((p1 &&& (2147483647 : Int32)) % (8 : Int32))), .val (.int ((p4 &&& (255 : Int32)).toUInt32.toUInt16.toUInt32.toInt32)), .val (.int ((p3 &&& (255 : Int32)).toUInt32.toUInt16.toUInt32.toInt32)), .val (.int ((p2 &&& (2147483647 : Int32)) % (12 : Int32))), .val (.ref x331), .val (.ref b455), .val (.ref P0), .val (.ref y497), .unset] [(.ref y497)])) t
          refine XS.aconstNull X497.here hx rfl (hb hby at_121) ?_
          exact kt
        have f502 := (Nat.le_trans f496 Kq497.1)
        obtain ⟨cq503, kq503, q503a, q503b, q503c⟩ := isOf hZ477 rfl Eq497
        obtain ⟨vv503, _, ⟨T503, L503, k503, n503⟩, -, X503, ⟨Lc503, hQ503, l503, y503, z503⟩, st503⟩ := X497.virtualBack hx (y := (⟨"java/util/Optional", "orElse", "(Ljava/lang/Object;)Ljava/lang/Object;"⟩ : MethodName)) (z := (⟨"java/util/Optional", "orElse", "(Ljava/lang/Object;)Ljava/lang/Object;"⟩ : MethodName)) hown477 (mvT hZ477 (hw _ (List.mem_of_getElem? (i := 69) rfl))) (mvT hZ477 (hw _ (List.mem_of_getElem? (i := 70) rfl))) (notFace_of_selects (args := #[]) (mvT hZ477 (hw _ (List.mem_of_getElem? (i := 72) rfl)))) (mvT hZ477 (hw _ (List.mem_of_getElem? (i := 72) rfl))) (mvT hZ477 (hw _ (List.mem_of_getElem? (i := 71) rfl))) (by decide) (backOf (W := 0) (c_orer l Z a0 hw [] y497 P0 T497.heap n0 f502 Fq497) hZ477 (hw _ (List.mem_of_getElem? (i := 73) rfl)) (hw _ (List.mem_of_getElem? (i := 46) rfl)) (by decide) (by decide)) q503a q503c (g := (mkF m 122 #[.val (.int p1), .val (.int p2), .val (.int p3), .val (.int p4), .val (.int ((p1 &&& (2147483647 : Int32)) % (8 : Int32))), .val (.int ((p4 &&& (255 : Int32)).toUInt32.toUInt16.toUInt32.toInt32)), .val (.int ((p3 &&& (255 : Int32)).toUInt32.toUInt16.toUInt32.toInt32)), .val (.int ((p2 &&& (2147483647 : Int32)) % (12 : Int32))), .val (.ref x331), .val (.ref b455), .val (.ref P0), .val (.ref y497), .unset] [.null, (.ref y497)])) rfl (by rw [hml]; rfl) (Steps.refl _) (argsL := [.null]) (rest := []) (lenOf pd_255 rfl) rfl (by show 2 * 0 + _ ≤ _; exact Nat.le_of_eq rfl) (hb hby at_122) (fun _ _ => ⟨rfl, rfl, (by decide : 10 + 0 ≤ _), (by decide : 50 + 0 ≤ _)⟩)
        dsimp only [Pt.U, Pt.locs, Pt.cells, Pt.slots] at X503 l503 y503 z503 st503 hQ503
        subst l503 y503 z503
        obtain ⟨rfl, Nq503, Eq503⟩ := hQ503
        have N504 := Fr.app N498 Nq503
        refine ownSt st503 ?_
        show ownG p.tables e below _ (T503.setTop (mkF m 125 #[.val (.int p1), .val (.int p2), .val (.int p3), .val (.int p4), .val (.int ((p1 &&& (2147483647 : Int32)) % (8 : Int32))), .val (.int ((p4 &&& (255 : Int32)).toUInt32.toUInt16.toUInt32.toInt32)), .val (.int ((p3 &&& (255 : Int32)).toUInt32.toUInt16.toUInt32.toInt32)), .val (.int ((p2 &&& (2147483647 : Int32)) % (12 : Int32))), .val (.ref x331), .val (.ref b455), .val (.ref P0), .val (.ref y497), .unset] [(.ref P0)]))
        have f505 := (f492.keep Kq497 all0)
        have f506 := EP0.ext f505.2
        obtain ⟨T507, X507, e507, st507⟩ := castY X503 hx hZ477 hown477 (hw _ (List.mem_of_getElem? (i := 101) rfl)) Eq503 (Ins.self f506) (g := (mkF m 125 #[.val (.int p1), .val (.int p2), .val (.int p3), .val (.int p4), .val (.int ((p1 &&& (2147483647 : Int32)) % (8 : Int32))), .val (.int ((p4 &&& (255 : Int32)).toUInt32.toUInt16.toUInt32.toInt32)), .val (.int ((p3 &&& (255 : Int32)).toUInt32.toUInt16.toUInt32.toInt32)), .val (.int ((p2 &&& (2147483647 : Int32)) % (12 : Int32))), .val (.ref x331), .val (.ref b455), .val (.ref P0), .val (.ref y497), .unset] [(.ref P0)])) rfl rfl (hb hby at_125)
        refine ownBy st507 ?_
        show ownG p.tables e below _ (T507.setTop (mkF m 128 #[.val (.int p1), .val (.int p2), .val (.int p3), .val (.int p4), .val (.int ((p1 &&& (2147483647 : Int32)) % (8 : Int32))), .val (.int ((p4 &&& (255 : Int32)).toUInt32.toUInt16.toUInt32.toInt32)), .val (.int ((p3 &&& (255 : Int32)).toUInt32.toUInt16.toUInt32.toInt32)), .val (.int ((p2 &&& (2147483647 : Int32)) % (12 : Int32))), .val (.ref x331), .val (.ref b455), .val (.ref P0), .val (.ref y497), .unset] [(.ref P0)]))
        refine ownBy (A := T507.setTop (mkF m 142 #[.val (.int p1), .val (.int p2), .val (.int p3), .val (.int p4), .val (.int ((p1 &&& (2147483647 : Int32)) % (8 : Int32))), .val (.int ((p4 &&& (255 : Int32)).toUInt32.toUInt16.toUInt32.toInt32)), .val (.int ((p3 &&& (255 : Int32)).toUInt32.toUInt16.toUInt32.toInt32)), .val (.int ((p2 &&& (2147483647 : Int32)) % (12 : Int32))), .val (.ref x331), .val (.ref b455), .val (.ref P0), .val (.ref y497), .val (.ref P0)] [(.int (1 : Int32))])) (fun t kt => ?_) ?_
        · show Steps p.tables e below (T507.setTop (mkF m 128 #[.val (.int p1), .val (.int p2), .val (.int p3), .val (.int p4), .val (.int ((p1 &&& (2147483647 : Int32)) % (8 : Int32))), .val (.int ((p4 &&& (255 : Int32)).toUInt32.toUInt16.toUInt32.toInt32)), .val (.int ((p3 &&& (255 : Int32)).toUInt32.toUInt16.toUInt32.toInt32)), .val (.int ((p2 &&& (2147483647 : Int32)) % (12 : Int32))), .val (.ref x331), .val (.ref b455), .val (.ref P0), .val (.ref y497), .unset] [(.ref P0)])) t
          refine XS.astore X507.here hx rfl (hb hby at_128) rfl rfl (l' := #[.val (.int p1), .val (.int p2), .val (.int p3), .val (.int p4), .val (.int ((p1 &&& (2147483647 : Int32)) % (8 : Int32))), .val (.int ((p4 &&& (255 : Int32)).toUInt32.toUInt16.toUInt32.toInt32)), .val (.int ((p3 &&& (255 : Int32)).toUInt32.toUInt16.toUInt32.toInt32)), .val (.int ((p2 &&& (2147483647 : Int32)) % (12 : Int32))), .val (.ref x331), .val (.ref b455), .val (.ref P0), .val (.ref y497), .val (.ref P0)]) rfl ?_
          refine XS.aload X507.here hx rfl (hb hby at_130) rfl rfl ?_
          show Steps p.tables e below (T507.setTop (mkF m 132 #[.val (.int p1), .val (.int p2), .val (.int p3), .val (.int p4), .val (.int ((p1 &&& (2147483647 : Int32)) % (8 : Int32))), .val (.int ((p4 &&& (255 : Int32)).toUInt32.toUInt16.toUInt32.toInt32)), .val (.int ((p3 &&& (255 : Int32)).toUInt32.toUInt16.toUInt32.toInt32)), .val (.int ((p2 &&& (2147483647 : Int32)) % (12 : Int32))), .val (.ref x331), .val (.ref b455), .val (.ref P0), .val (.ref y497), .val (.ref P0)] [(.ref P0)])) t
          refine XS.aload X507.here hx rfl (hb hby at_132) rfl rfl ?_
          refine Jvm.RoadKit.acmp (g := (mkF m 134 #[.val (.int p1), .val (.int p2), .val (.int p3), .val (.int p4), .val (.int ((p1 &&& (2147483647 : Int32)) % (8 : Int32))), .val (.int ((p4 &&& (255 : Int32)).toUInt32.toUInt16.toUInt32.toInt32)), .val (.int ((p3 &&& (255 : Int32)).toUInt32.toUInt16.toUInt32.toInt32)), .val (.int ((p2 &&& (2147483647 : Int32)) % (12 : Int32))), .val (.ref x331), .val (.ref b455), .val (.ref P0), .val (.ref y497), .val (.ref P0)] [(.ref P0), (.ref P0)])) X507 hx rfl rfl rfl (pc0 := 134) (pc' := 137) (same := true) rfl (hb hby at_134) rfl (decide_eq_true rfl) (by decide) (by decide) ?_
          show Steps p.tables e below (T507.setTop (mkF m 137 #[.val (.int p1), .val (.int p2), .val (.int p3), .val (.int p4), .val (.int ((p1 &&& (2147483647 : Int32)) % (8 : Int32))), .val (.int ((p4 &&& (255 : Int32)).toUInt32.toUInt16.toUInt32.toInt32)), .val (.int ((p3 &&& (255 : Int32)).toUInt32.toUInt16.toUInt32.toInt32)), .val (.int ((p2 &&& (2147483647 : Int32)) % (12 : Int32))), .val (.ref x331), .val (.ref b455), .val (.ref P0), .val (.ref y497), .val (.ref P0)] [])) t
          refine XS.iconst X507.here hx rfl (hb hby at_137) ?_
          refine XS.goto X507.here hx rfl (pc0 := 138) (pc' := 142) rfl (hb hby at_138) (by decide) (by decide) ?_
          exact kt
        refine ownRetH X507 hS477 (by rw [e507]; exact (Nat.le_trans hk477 Kq497.1)) Bd.notSynchronized (v := some (.int (nar .boolean (1 : Int32)))) (fun h => by rw [Bd.returns] at h; cases h) ?_ (R499.trans ((by rw [e507]; exact CHv.at X507 hZ477 hEL R499.1))) (Nat.le_of_ble_eq_true rfl) (Nat.le_of_ble_eq_true rfl) (fun fs hr => retN X507 hx (t := .boolean) Bd.returns (by simp) (hb hby at_142) hr)
        show (Q_law Z p1 p2 p3 p4 A kA EM P0 P1 W0 W1 B0 B1 kb0 kb1 G1 h0 n0) (some (.int (nar .boolean (1 : Int32)))) T507.heap _
        rw [e507]
        exact ⟨rfl, N504⟩
      · skip
        have N509 := Fr.app N471 Nq493
        refine ownSt st493 ?_
        show ownG p.tables e below _ (T493.setTop (mkF m 79 #[.val (.int p1), .val (.int p2), .val (.int p3), .val (.int p4), .val (.int ((p1 &&& (2147483647 : Int32)) % (8 : Int32))), .val (.int ((p4 &&& (255 : Int32)).toUInt32.toUInt16.toUInt32.toInt32)), .val (.int ((p3 &&& (255 : Int32)).toUInt32.toUInt16.toUInt32.toInt32)), .val (.int ((p2 &&& (2147483647 : Int32)) % (12 : Int32))), .val (.ref x331), .val (.ref b455), .val .null, .unset, .unset] [(.int (0 : Int32))]))
        refine ownBy (A := T493.setTop (mkF m 92 #[.val (.int p1), .val (.int p2), .val (.int p3), .val (.int p4), .val (.int ((p1 &&& (2147483647 : Int32)) % (8 : Int32))), .val (.int ((p4 &&& (255 : Int32)).toUInt32.toUInt16.toUInt32.toInt32)), .val (.int ((p3 &&& (255 : Int32)).toUInt32.toUInt16.toUInt32.toInt32)), .val (.int ((p2 &&& (2147483647 : Int32)) % (12 : Int32))), .val (.ref x331), .val (.ref b455), .val .null, .unset, .unset] [(.ref b455)])) (fun t kt => ?_) ?_
        · show Steps p.tables e below (T493.setTop (mkF m 79 #[.val (.int p1), .val (.int p2), .val (.int p3), .val (.int p4), .val (.int ((p1 &&& (2147483647 : Int32)) % (8 : Int32))), .val (.int ((p4 &&& (255 : Int32)).toUInt32.toUInt16.toUInt32.toInt32)), .val (.int ((p3 &&& (255 : Int32)).toUInt32.toUInt16.toUInt32.toInt32)), .val (.int ((p2 &&& (2147483647 : Int32)) % (12 : Int32))), .val (.ref x331), .val (.ref b455), .val .null, .unset, .unset] [(.int (0 : Int32))])) t
          refine XS.ifYes X493.here hx rfl (pc0 := 79) (pc' := 90) rfl (hb hby at_79) rfl ((if0 _ _).trans (teq ((by decide) : (0 : Int32) = (0 : Int32))).1) (by decide) (by decide) ?_
          refine XS.aload X493.here hx rfl (hb hby at_90) rfl rfl ?_
          exact kt
        obtain ⟨a510, T510, h510, k510, b510, kb510, X510, e510, E510, hS510, hk510, hZ510, hown510, A510, C510, V510, Ab510, -, -, hC510, Lt510, hne510, st510⟩ := ldcCH (text := "disability") X493 hx hZ477 hown477 (hw _ (List.mem_of_getElem? (i := 39) rfl)) wS Eq493 hS477 hk477 hEL (by simp [ownEL]) R479.1 (vs := [(.int (100 : Int32)), (.int (105 : Int32)), (.int (115 : Int32)), (.int (97 : Int32)), (.int (98 : Int32)), (.int (105 : Int32)), (.int (108 : Int32)), (.int (105 : Int32)), (.int (116 : Int32)), (.int (121 : Int32))]) (z := (10 : Int32)) ⟨by decide, by decide⟩ (by decide) rfl (g := (mkF m 92 #[.val (.int p1), .val (.int p2), .val (.int p3), .val (.int p4), .val (.int ((p1 &&& (2147483647 : Int32)) % (8 : Int32))), .val (.int ((p4 &&& (255 : Int32)).toUInt32.toUInt16.toUInt32.toInt32)), .val (.int ((p3 &&& (255 : Int32)).toUInt32.toUInt16.toUInt32.toInt32)), .val (.int ((p2 &&& (2147483647 : Int32)) % (12 : Int32))), .val (.ref x331), .val (.ref b455), .val .null, .unset, .unset] [(.ref b455)])) rfl (hb hby at_92) (n := 40) (by decide) (by decide) (by decide) (by decide)
        have R512 := R479.trans hC510
        have f514 := (f481.ext E477)
        have sf513 := CHr.safe hC510 f514.lt sf480
        have sf515 := CHr.safe hC510 f487.lt sf482
        have ne516 := hne510 x331 sf513
        have ne517 := hne510 b455 sf515
        refine ownBy st510 ?_
        show ownG p.tables e below _ (T510.setTop (mkF m 94 #[.val (.int p1), .val (.int p2), .val (.int p3), .val (.int p4), .val (.int ((p1 &&& (2147483647 : Int32)) % (8 : Int32))), .val (.int ((p4 &&& (255 : Int32)).toUInt32.toUInt16.toUInt32.toInt32)), .val (.int ((p3 &&& (255 : Int32)).toUInt32.toUInt16.toUInt32.toInt32)), .val (.int ((p2 &&& (2147483647 : Int32)) % (12 : Int32))), .val (.ref x331), .val (.ref b455), .val .null, .unset, .unset] [(.ref a510), (.ref b455)]))
        have f518 := (f487.ext E510)
        have f519 := (f488.ext E510)
        have f520 := (f489.ext E510)
        have f521 := (f490.ext E510)
        have hpl522 : ∀ c ∈ ([(100 : Int32), (105 : Int32), (115 : Int32), (97 : Int32), (98 : Int32), (105 : Int32), (108 : Int32), (105 : Int32), (116 : Int32), (121 : Int32)] : List Int32), ¬ c < 0 ∧ ¬ (255 : Int32) < c := by decide
        have hcd522 : StrChars.Road.CodA ([(100 : Int32), (105 : Int32), (115 : Int32), (97 : Int32), (98 : Int32), (105 : Int32), (108 : Int32), (105 : Int32), (116 : Int32), (121 : Int32)] : List Int32) 0 (10 : Int32) ((([(100 : Int32), (105 : Int32), (115 : Int32), (97 : Int32), (98 : Int32), (105 : Int32), (108 : Int32), (105 : Int32), (116 : Int32), (121 : Int32)] : List Int32).map (fun c => c.toInt8.toInt32)).map Value.int) := StrChars.Road.codOf (n := 10) rfl (fun x hx => (hpl522 x hx).2)
        have hbd522 : ∀ x ∈ ([(100 : Int32), (105 : Int32), (115 : Int32), (97 : Int32), (98 : Int32), (105 : Int32), (108 : Int32), (105 : Int32), (116 : Int32), (121 : Int32)] : List Int32), ¬ x < 0 ∧ ¬ (65535 : Int32) < x := own_up _ hpl522
        have f523 := (f492.ext E510)
        obtain ⟨cq524, kq524, q524a, q524b, q524c⟩ := isOf hZ510 e510 f518
        obtain ⟨vv524, _, ⟨T524, L524, k524, n524⟩, -, X524, ⟨Lc524, hQ524, l524, y524, z524⟩, st524⟩ := X510.virtualBack hx (y := (⟨"java/lang/String", "equals", "(Ljava/lang/Object;)Z"⟩ : MethodName)) (z := (⟨"java/lang/String", "equals", "(Ljava/lang/Object;)Z"⟩ : MethodName)) hown510 (mvT hZ510 (hw _ (List.mem_of_getElem? (i := 28) rfl))) (mvT hZ510 (hw _ (List.mem_of_getElem? (i := 29) rfl))) (notFace_of_selects (args := #[]) (mvT hZ510 (hw _ (List.mem_of_getElem? (i := 31) rfl)))) (mvT hZ510 (hw _ (List.mem_of_getElem? (i := 31) rfl))) (mvT hZ510 (hw _ (List.mem_of_getElem? (i := 30) rfl))) (by decide) (StrChars.Road.eqW (W := 0) hZ510 heq (kI := 4) (hw _ (List.mem_of_getElem? (i := 7) rfl)) f518 f519 f520 f521 hcd486 hbd486 (Nat.le_trans hle (by decide)) A510 V510 C510 Ab510 hcd522 hbd522 (Nat.le_of_ble_eq_true rfl) (O2.ext f523.2) P5 (by decide) (by decide)) q524a q524c (g := (mkF m 94 #[.val (.int p1), .val (.int p2), .val (.int p3), .val (.int p4), .val (.int ((p1 &&& (2147483647 : Int32)) % (8 : Int32))), .val (.int ((p4 &&& (255 : Int32)).toUInt32.toUInt16.toUInt32.toInt32)), .val (.int ((p3 &&& (255 : Int32)).toUInt32.toUInt16.toUInt32.toInt32)), .val (.int ((p2 &&& (2147483647 : Int32)) % (12 : Int32))), .val (.ref x331), .val (.ref b455), .val .null, .unset, .unset] [(.ref a510), (.ref b455)])) rfl (by rw [hml]; rfl) (Steps.refl _) (argsL := [(.ref a510)]) (rest := []) (lenOf pd_291 rfl) rfl (by show 2 * 0 + _ ≤ _; exact Nat.le_of_eq rfl) (hb hby at_94) (fun _ _ => ⟨rfl, e510, (by decide : 10 + 0 ≤ _), (by decide : 91 + 0 ≤ _)⟩)
        dsimp only [Pt.U, Pt.locs, Pt.cells, Pt.slots] at X524 l524 y524 z524 st524 hQ524
        subst l524 y524 z524
        obtain ⟨hE524, rfl, Eq524⟩ := hQ524
        have Nq524 : Fr n0 ([] : List Loc) := Fr.nil n0
        rcases hE524 with ⟨rfl, hcq524⟩ | ⟨rfl, hcq524⟩
        · skip
          have N525 := Fr.app N509 Nq524
          refine ownSt st524 ?_
          show ownG p.tables e below _ (T524.setTop (mkF m 97 #[.val (.int p1), .val (.int p2), .val (.int p3), .val (.int p4), .val (.int ((p1 &&& (2147483647 : Int32)) % (8 : Int32))), .val (.int ((p4 &&& (255 : Int32)).toUInt32.toUInt16.toUInt32.toInt32)), .val (.int ((p3 &&& (255 : Int32)).toUInt32.toUInt16.toUInt32.toInt32)), .val (.int ((p2 &&& (2147483647 : Int32)) % (12 : Int32))), .val (.ref x331), .val (.ref b455), .val .null, .unset, .unset] [(.int (1 : Int32))]))
          refine ownBy (A := T524.setTop (mkF m 100 #[.val (.int p1), .val (.int p2), .val (.int p3), .val (.int p4), .val (.int ((p1 &&& (2147483647 : Int32)) % (8 : Int32))), .val (.int ((p4 &&& (255 : Int32)).toUInt32.toUInt16.toUInt32.toInt32)), .val (.int ((p3 &&& (255 : Int32)).toUInt32.toUInt16.toUInt32.toInt32)), .val (.int ((p2 &&& (2147483647 : Int32)) % (12 : Int32))), .val (.ref x331), .val (.ref b455), .val .null, .unset, .unset] [])) (fun t kt => ?_) ?_
          · show Steps p.tables e below (T524.setTop (mkF m 97 #[.val (.int p1), .val (.int p2), .val (.int p3), .val (.int p4), .val (.int ((p1 &&& (2147483647 : Int32)) % (8 : Int32))), .val (.int ((p4 &&& (255 : Int32)).toUInt32.toUInt16.toUInt32.toInt32)), .val (.int ((p3 &&& (255 : Int32)).toUInt32.toUInt16.toUInt32.toInt32)), .val (.int ((p2 &&& (2147483647 : Int32)) % (12 : Int32))), .val (.ref x331), .val (.ref b455), .val .null, .unset, .unset] [(.int (1 : Int32))])) t
            refine XS.ifNo X524.here hx rfl (hb hby at_97) rfl ((if0 _ _).trans (feq ((by decide) : ¬ ((1 : Int32) = (0 : Int32)))).1) ?_
            exact kt
          obtain ⟨T526, X526, e526, st526⟩ := getS2 X524 hx hZ510 hown510 (host := "") (Or.inl (hw _ (List.mem_of_getElem? (i := 103) rfl))) Via.refl Eq524 (SP1.ext f523.2) (g := (mkF m 100 #[.val (.int p1), .val (.int p2), .val (.int p3), .val (.int p4), .val (.int ((p1 &&& (2147483647 : Int32)) % (8 : Int32))), .val (.int ((p4 &&& (255 : Int32)).toUInt32.toUInt16.toUInt32.toInt32)), .val (.int ((p3 &&& (255 : Int32)).toUInt32.toUInt16.toUInt32.toInt32)), .val (.int ((p2 &&& (2147483647 : Int32)) % (12 : Int32))), .val (.ref x331), .val (.ref b455), .val .null, .unset, .unset] [])) rfl (hb hby at_100)
          refine ownBy st526 ?_
          show ownG p.tables e below _ (T526.setTop (mkF m 103 #[.val (.int p1), .val (.int p2), .val (.int p3), .val (.int p4), .val (.int ((p1 &&& (2147483647 : Int32)) % (8 : Int32))), .val (.int ((p4 &&& (255 : Int32)).toUInt32.toUInt16.toUInt32.toInt32)), .val (.int ((p3 &&& (255 : Int32)).toUInt32.toUInt16.toUInt32.toInt32)), .val (.int ((p2 &&& (2147483647 : Int32)) % (12 : Int32))), .val (.ref x331), .val (.ref b455), .val .null, .unset, .unset] [(.ref P1)]))
          refine ownBy (A := T526.setTop (mkF m 107 #[.val (.int p1), .val (.int p2), .val (.int p3), .val (.int p4), .val (.int ((p1 &&& (2147483647 : Int32)) % (8 : Int32))), .val (.int ((p4 &&& (255 : Int32)).toUInt32.toUInt16.toUInt32.toInt32)), .val (.int ((p3 &&& (255 : Int32)).toUInt32.toUInt16.toUInt32.toInt32)), .val (.int ((p2 &&& (2147483647 : Int32)) % (12 : Int32))), .val (.ref x331), .val (.ref b455), .val (.ref P1), .unset, .unset] [(.ref b455)])) (fun t kt => ?_) ?_
          · show Steps p.tables e below (T526.setTop (mkF m 103 #[.val (.int p1), .val (.int p2), .val (.int p3), .val (.int p4), .val (.int ((p1 &&& (2147483647 : Int32)) % (8 : Int32))), .val (.int ((p4 &&& (255 : Int32)).toUInt32.toUInt16.toUInt32.toInt32)), .val (.int ((p3 &&& (255 : Int32)).toUInt32.toUInt16.toUInt32.toInt32)), .val (.int ((p2 &&& (2147483647 : Int32)) % (12 : Int32))), .val (.ref x331), .val (.ref b455), .val .null, .unset, .unset] [(.ref P1)])) t
            refine XS.astore X526.here hx rfl (hb hby at_103) rfl rfl (l' := #[.val (.int p1), .val (.int p2), .val (.int p3), .val (.int p4), .val (.int ((p1 &&& (2147483647 : Int32)) % (8 : Int32))), .val (.int ((p4 &&& (255 : Int32)).toUInt32.toUInt16.toUInt32.toInt32)), .val (.int ((p3 &&& (255 : Int32)).toUInt32.toUInt16.toUInt32.toInt32)), .val (.int ((p2 &&& (2147483647 : Int32)) % (12 : Int32))), .val (.ref x331), .val (.ref b455), .val (.ref P1), .unset, .unset]) rfl ?_
            refine XS.aload X526.here hx rfl (hb hby at_105) rfl rfl ?_
            exact kt
          have f527 := (Nat.le_trans (Nat.le_trans (Nat.le_trans f469 Kq470.1) E477.1) E510.1)
          obtain ⟨vv528, _, ⟨T528, L528, k528, n528⟩, -, X528, ⟨Lc528, hQ528, l528, y528, z528⟩, st528⟩ := Jvm.LawKit.callS X526 hx (y := (⟨"com/example/vestline/vestline/TerminationReason", "named", "(Ljava/lang/String;)Ljava/util/Optional;"⟩ : MethodName)) hown510 (mvT hZ510 (hw _ (List.mem_of_getElem? (i := 40) rfl))) (mvT hZ510 (hw _ (List.mem_of_getElem? (i := 41) rfl))) (mvT hZ510 (hw _ (List.mem_of_getElem? (i := 42) rfl))) (mvT hZ510 (hw _ (List.mem_of_getElem? (i := 43) rfl))) (by decide) (backOf (W := 0) (c_named l Z a0 hw [] b455 t470 kb470 ([] : List Int32) A kA EM P0 P1 W0 W1 B0 B1 kb0 kb1 G1 h510 n0 f527 f518 f519 f520 f521 hpe hle SV KV EV SE EE FE SP0 EP0 FP0 EW0 FV0 FC0 KB0 SP1 EP1 FP1 EW1 FV1 FC1 KB1 O2 P5 f523) hZ510 (hw _ (List.mem_of_getElem? (i := 43) rfl)) (hw _ (List.mem_of_getElem? (i := 42) rfl)) (by decide) (by decide)) (g := (mkF m 107 #[.val (.int p1), .val (.int p2), .val (.int p3), .val (.int p4), .val (.int ((p1 &&& (2147483647 : Int32)) % (8 : Int32))), .val (.int ((p4 &&& (255 : Int32)).toUInt32.toUInt16.toUInt32.toInt32)), .val (.int ((p3 &&& (255 : Int32)).toUInt32.toUInt16.toUInt32.toInt32)), .val (.int ((p2 &&& (2147483647 : Int32)) % (12 : Int32))), .val (.ref x331), .val (.ref b455), .val (.ref P1), .unset, .unset] [(.ref b455)])) rfl (by rw [hml]; rfl) (argsL := [(.ref b455)]) (rest := []) (lenOf pd_396 rfl) rfl (by show 2 * 0 + _ ≤ _; exact Nat.le_of_eq rfl) (hb hby at_107) (fun _ _ => ⟨rfl, e526, (by decide : 10 + 2 ≤ _), (by decide : 91 + 3 ≤ _)⟩)
          dsimp only [Pt.U, Pt.locs, Pt.cells, Pt.slots] at X528 l528 y528 z528 st528 hQ528
          subst l528 y528 z528
          obtain ⟨y528, u528, rfl, Nq528, Kq528, Eq528, Fq528, hu528⟩ := hQ528
          obtain rfl : u528 = (.ref P1) := hu528.elim (fun q => absurd q.2 hcq493) (fun q => q.elim (fun q => q.1) (fun q => absurd hcq524 q.2.2))
          have N529 := Fr.app N525 Nq528
          have R530 := R512.trans (CHr.keep Kq528 sf0 R512.1)
          have sf531 := Safe.keep Kq528 sf0 R512.1 sf513
          have sf532 := Safe.keep Kq528 sf0 R512.1 sf515
          refine ownBy st528 ?_
          show ownG p.tables e below _ (T528.setTop (mkF m 110 #[.val (.int p1), .val (.int p2), .val (.int p3), .val (.int p4), .val (.int ((p1 &&& (2147483647 : Int32)) % (8 : Int32))), .val (.int ((p4 &&& (255 : Int32)).toUInt32.toUInt16.toUInt32.toInt32)), .val (.int ((p3 &&& (255 : Int32)).toUInt32.toUInt16.toUInt32.toInt32)), .val (.int ((p2 &&& (2147483647 : Int32)) % (12 : Int32))), .val (.ref x331), .val (.ref b455), .val (.ref P1), .unset, .unset] [(.ref y528)]))
          refine ownBy (A := T528.setTop (mkF m 122 #[.val (.int p1), .val (.int p2), .val (.int p3), .val (.int p4), .val (.int ((p1 &&& (2147483647 : Int32)) % (8 : Int32))), .val (.int ((p4 &&& (255 : Int32)).toUInt32.toUInt16.toUInt32.toInt32)), .val (.int ((p3 &&& (255 : Int32)).toUInt32.toUInt16.toUInt32.toInt32)), .val (.int ((p2 &&& (2147483647 : Int32)) % (12 : Int32))), .val (.ref x331), .val (.ref b455), .val (.ref P1), .val (.ref y528), .unset] [.null, (.ref y528)])) (fun t kt => ?_) ?_
          · show Steps p.tables e below (T528.setTop (mkF m 110 #[.val (.int p1), .val (.int p2), .val (.int p3), .val (.int p4), .val (.int ((p1 &&& (2147483647 : Int32)) % (8 : Int32))), .val (.int ((p4 &&& (255 : Int32)).toUInt32.toUInt16.toUInt32.toInt32)), .val (.int ((p3 &&& (255 : Int32)).toUInt32.toUInt16.toUInt32.toInt32)), .val (.int ((p2 &&& (2147483647 : Int32)) % (12 : Int32))), .val (.ref x331), .val (.ref b455), .val (.ref P1), .unset, .unset] [(.ref y528)])) t
            refine XS.astore X528.here hx rfl (hb hby at_110) rfl rfl (l' := #[.val (.int p1), .val (.int p2), .val (.int p3), .val (.int p4), .val (.int ((p1 &&& (2147483647 : Int32)) % (8 : Int32))), .val (.int ((p4 &&& (255 : Int32)).toUInt32.toUInt16.toUInt32.toInt32)), .val (.int ((p3 &&& (255 : Int32)).toUInt32.toUInt16.toUInt32.toInt32)), .val (.int ((p2 &&& (2147483647 : Int32)) % (12 : Int32))), .val (.ref x331), .val (.ref b455), .val (.ref P1), .val (.ref y528), .unset]) rfl ?_
            refine XS.aload X528.here hx rfl (hb hby at_112) rfl rfl ?_
            show Steps p.tables e below (T528.setTop (mkF m 114 #[.val (.int p1), .val (.int p2), .val (.int p3), .val (.int p4), .val (.int ((p1 &&& (2147483647 : Int32)) % (8 : Int32))), .val (.int ((p4 &&& (255 : Int32)).toUInt32.toUInt16.toUInt32.toInt32)), .val (.int ((p3 &&& (255 : Int32)).toUInt32.toUInt16.toUInt32.toInt32)), .val (.int ((p2 &&& (2147483647 : Int32)) % (12 : Int32))), .val (.ref x331), .val (.ref b455), .val (.ref P1), .val (.ref y528), .unset] [(.ref y528)])) t
            refine XS.ifnonnullYes X528.here hx rfl (pc0 := 114) (pc' := 119) rfl (hb hby at_114) rfl (by decide) (by decide) ?_
            refine XS.aload X528.here hx rfl (hb hby at_119) rfl rfl ?_
            show Steps p.tables e below (T528.setTop (mkF m 121 #[.val (.int p1), .val (.int p2), .val (.int p3), .val (.int p4), .val (.int ((p1 &&& (2147483647 : Int32)) % (8 : Int32))), .val (.int ((p4 &&& (255 : Int32)).toUInt32.toUInt16.toUInt32.toInt32)), .val (.int ((p3 &&& (255 : Int32)).toUInt32.toUInt16.toUInt32.toInt32)), .val (.int ((p2 &&& (2147483647 : Int32)) % (12 : Int32))), .val (.ref x331), .val (.ref b455), .val (.ref P1), .val (.ref y528), .unset] [(.ref y528)])) t
            refine XS.aconstNull X528.here hx rfl (hb hby at_121) ?_
            exact kt
          have f533 := (Nat.le_trans f527 Kq528.1)
          obtain ⟨cq534, kq534, q534a, q534b, q534c⟩ := isOf hZ510 rfl Eq528
          obtain ⟨vv534, _, ⟨T534, L534, k534, n534⟩, -, X534, ⟨Lc534, hQ534, l534, y534, z534⟩, st534⟩ := X528.virtualBack hx (y := (⟨"java/util/Optional", "orElse", "(Ljava/lang/Object;)Ljava/lang/Object;"⟩ : MethodName)) (z := (⟨"java/util/Optional", "orElse", "(Ljava/lang/Object;)Ljava/lang/Object;"⟩ : MethodName)) hown510 (mvT hZ510 (hw _ (List.mem_of_getElem? (i := 69) rfl))) (mvT hZ510 (hw _ (List.mem_of_getElem? (i := 70) rfl))) (notFace_of_selects (args := #[]) (mvT hZ510 (hw _ (List.mem_of_getElem? (i := 72) rfl)))) (mvT hZ510 (hw _ (List.mem_of_getElem? (i := 72) rfl))) (mvT hZ510 (hw _ (List.mem_of_getElem? (i := 71) rfl))) (by decide) (backOf (W := 0) (c_orer l Z a0 hw [] y528 P1 T528.heap n0 f533 Fq528) hZ510 (hw _ (List.mem_of_getElem? (i := 73) rfl)) (hw _ (List.mem_of_getElem? (i := 46) rfl)) (by decide) (by decide)) q534a q534c (g := (mkF m 122 #[.val (.int p1), .val (.int p2), .val (.int p3), .val (.int p4), .val (.int ((p1 &&& (2147483647 : Int32)) % (8 : Int32))), .val (.int ((p4 &&& (255 : Int32)).toUInt32.toUInt16.toUInt32.toInt32)), .val (.int ((p3 &&& (255 : Int32)).toUInt32.toUInt16.toUInt32.toInt32)), .val (.int ((p2 &&& (2147483647 : Int32)) % (12 : Int32))), .val (.ref x331), .val (.ref b455), .val (.ref P1), .val (.ref y528), .unset] [.null, (.ref y528)])) rfl (by rw [hml]; rfl) (Steps.refl _) (argsL := [.null]) (rest := []) (lenOf pd_255 rfl) rfl (by show 2 * 0 + _ ≤ _; exact Nat.le_of_eq rfl) (hb hby at_122) (fun _ _ => ⟨rfl, rfl, (by decide : 12 + 0 ≤ _), (by decide : 94 + 0 ≤ _)⟩)
          dsimp only [Pt.U, Pt.locs, Pt.cells, Pt.slots] at X534 l534 y534 z534 st534 hQ534
          subst l534 y534 z534
          obtain ⟨rfl, Nq534, Eq534⟩ := hQ534
          have N535 := Fr.app N529 Nq534
          refine ownSt st534 ?_
          show ownG p.tables e below _ (T534.setTop (mkF m 125 #[.val (.int p1), .val (.int p2), .val (.int p3), .val (.int p4), .val (.int ((p1 &&& (2147483647 : Int32)) % (8 : Int32))), .val (.int ((p4 &&& (255 : Int32)).toUInt32.toUInt16.toUInt32.toInt32)), .val (.int ((p3 &&& (255 : Int32)).toUInt32.toUInt16.toUInt32.toInt32)), .val (.int ((p2 &&& (2147483647 : Int32)) % (12 : Int32))), .val (.ref x331), .val (.ref b455), .val (.ref P1), .val (.ref y528), .unset] [(.ref P1)]))
          have f536 := (f523.keep Kq528 all0)
          have f537 := EP1.ext f536.2
          obtain ⟨T538, X538, e538, st538⟩ := castY X534 hx hZ510 hown510 (hw _ (List.mem_of_getElem? (i := 101) rfl)) Eq534 (Ins.self f537) (g := (mkF m 125 #[.val (.int p1), .val (.int p2), .val (.int p3), .val (.int p4), .val (.int ((p1 &&& (2147483647 : Int32)) % (8 : Int32))), .val (.int ((p4 &&& (255 : Int32)).toUInt32.toUInt16.toUInt32.toInt32)), .val (.int ((p3 &&& (255 : Int32)).toUInt32.toUInt16.toUInt32.toInt32)), .val (.int ((p2 &&& (2147483647 : Int32)) % (12 : Int32))), .val (.ref x331), .val (.ref b455), .val (.ref P1), .val (.ref y528), .unset] [(.ref P1)])) rfl rfl (hb hby at_125)
          refine ownBy st538 ?_
          show ownG p.tables e below _ (T538.setTop (mkF m 128 #[.val (.int p1), .val (.int p2), .val (.int p3), .val (.int p4), .val (.int ((p1 &&& (2147483647 : Int32)) % (8 : Int32))), .val (.int ((p4 &&& (255 : Int32)).toUInt32.toUInt16.toUInt32.toInt32)), .val (.int ((p3 &&& (255 : Int32)).toUInt32.toUInt16.toUInt32.toInt32)), .val (.int ((p2 &&& (2147483647 : Int32)) % (12 : Int32))), .val (.ref x331), .val (.ref b455), .val (.ref P1), .val (.ref y528), .unset] [(.ref P1)]))
          refine ownBy (A := T538.setTop (mkF m 142 #[.val (.int p1), .val (.int p2), .val (.int p3), .val (.int p4), .val (.int ((p1 &&& (2147483647 : Int32)) % (8 : Int32))), .val (.int ((p4 &&& (255 : Int32)).toUInt32.toUInt16.toUInt32.toInt32)), .val (.int ((p3 &&& (255 : Int32)).toUInt32.toUInt16.toUInt32.toInt32)), .val (.int ((p2 &&& (2147483647 : Int32)) % (12 : Int32))), .val (.ref x331), .val (.ref b455), .val (.ref P1), .val (.ref y528), .val (.ref P1)] [(.int (1 : Int32))])) (fun t kt => ?_) ?_
          · show Steps p.tables e below (T538.setTop (mkF m 128 #[.val (.int p1), .val (.int p2), .val (.int p3), .val (.int p4), .val (.int ((p1 &&& (2147483647 : Int32)) % (8 : Int32))), .val (.int ((p4 &&& (255 : Int32)).toUInt32.toUInt16.toUInt32.toInt32)), .val (.int ((p3 &&& (255 : Int32)).toUInt32.toUInt16.toUInt32.toInt32)), .val (.int ((p2 &&& (2147483647 : Int32)) % (12 : Int32))), .val (.ref x331), .val (.ref b455), .val (.ref P1), .val (.ref y528), .unset] [(.ref P1)])) t
            refine XS.astore X538.here hx rfl (hb hby at_128) rfl rfl (l' := #[.val (.int p1), .val (.int p2), .val (.int p3), .val (.int p4), .val (.int ((p1 &&& (2147483647 : Int32)) % (8 : Int32))), .val (.int ((p4 &&& (255 : Int32)).toUInt32.toUInt16.toUInt32.toInt32)), .val (.int ((p3 &&& (255 : Int32)).toUInt32.toUInt16.toUInt32.toInt32)), .val (.int ((p2 &&& (2147483647 : Int32)) % (12 : Int32))), .val (.ref x331), .val (.ref b455), .val (.ref P1), .val (.ref y528), .val (.ref P1)]) rfl ?_
            refine XS.aload X538.here hx rfl (hb hby at_130) rfl rfl ?_
            show Steps p.tables e below (T538.setTop (mkF m 132 #[.val (.int p1), .val (.int p2), .val (.int p3), .val (.int p4), .val (.int ((p1 &&& (2147483647 : Int32)) % (8 : Int32))), .val (.int ((p4 &&& (255 : Int32)).toUInt32.toUInt16.toUInt32.toInt32)), .val (.int ((p3 &&& (255 : Int32)).toUInt32.toUInt16.toUInt32.toInt32)), .val (.int ((p2 &&& (2147483647 : Int32)) % (12 : Int32))), .val (.ref x331), .val (.ref b455), .val (.ref P1), .val (.ref y528), .val (.ref P1)] [(.ref P1)])) t
            refine XS.aload X538.here hx rfl (hb hby at_132) rfl rfl ?_
            refine Jvm.RoadKit.acmp (g := (mkF m 134 #[.val (.int p1), .val (.int p2), .val (.int p3), .val (.int p4), .val (.int ((p1 &&& (2147483647 : Int32)) % (8 : Int32))), .val (.int ((p4 &&& (255 : Int32)).toUInt32.toUInt16.toUInt32.toInt32)), .val (.int ((p3 &&& (255 : Int32)).toUInt32.toUInt16.toUInt32.toInt32)), .val (.int ((p2 &&& (2147483647 : Int32)) % (12 : Int32))), .val (.ref x331), .val (.ref b455), .val (.ref P1), .val (.ref y528), .val (.ref P1)] [(.ref P1), (.ref P1)])) X538 hx rfl rfl rfl (pc0 := 134) (pc' := 137) (same := true) rfl (hb hby at_134) rfl (decide_eq_true rfl) (by decide) (by decide) ?_
            show Steps p.tables e below (T538.setTop (mkF m 137 #[.val (.int p1), .val (.int p2), .val (.int p3), .val (.int p4), .val (.int ((p1 &&& (2147483647 : Int32)) % (8 : Int32))), .val (.int ((p4 &&& (255 : Int32)).toUInt32.toUInt16.toUInt32.toInt32)), .val (.int ((p3 &&& (255 : Int32)).toUInt32.toUInt16.toUInt32.toInt32)), .val (.int ((p2 &&& (2147483647 : Int32)) % (12 : Int32))), .val (.ref x331), .val (.ref b455), .val (.ref P1), .val (.ref y528), .val (.ref P1)] [])) t
            refine XS.iconst X538.here hx rfl (hb hby at_137) ?_
            refine XS.goto X538.here hx rfl (pc0 := 138) (pc' := 142) rfl (hb hby at_138) (by decide) (by decide) ?_
            exact kt
          refine ownRetH X538 hS510 (by rw [e538]; exact (Nat.le_trans hk510 Kq528.1)) Bd.notSynchronized (v := some (.int (nar .boolean (1 : Int32)))) (fun h => by rw [Bd.returns] at h; cases h) ?_ (R530.trans ((by rw [e538]; exact CHv.at X538 hZ510 hEL R530.1))) (Nat.le_of_ble_eq_true rfl) (Nat.le_of_ble_eq_true rfl) (fun fs hr => retN X538 hx (t := .boolean) Bd.returns (by simp) (hb hby at_142) hr)
          show (Q_law Z p1 p2 p3 p4 A kA EM P0 P1 W0 W1 B0 B1 kb0 kb1 G1 h0 n0) (some (.int (nar .boolean (1 : Int32)))) T538.heap _
          rw [e538]
          exact ⟨rfl, N535⟩
        · skip
          have N540 := Fr.app N509 Nq524
          refine ownSt st524 ?_
          show ownG p.tables e below _ (T524.setTop (mkF m 97 #[.val (.int p1), .val (.int p2), .val (.int p3), .val (.int p4), .val (.int ((p1 &&& (2147483647 : Int32)) % (8 : Int32))), .val (.int ((p4 &&& (255 : Int32)).toUInt32.toUInt16.toUInt32.toInt32)), .val (.int ((p3 &&& (255 : Int32)).toUInt32.toUInt16.toUInt32.toInt32)), .val (.int ((p2 &&& (2147483647 : Int32)) % (12 : Int32))), .val (.ref x331), .val (.ref b455), .val .null, .unset, .unset] [(.int (0 : Int32))]))
          refine ownBy (A := T524.setTop (mkF m 107 #[.val (.int p1), .val (.int p2), .val (.int p3), .val (.int p4), .val (.int ((p1 &&& (2147483647 : Int32)) % (8 : Int32))), .val (.int ((p4 &&& (255 : Int32)).toUInt32.toUInt16.toUInt32.toInt32)), .val (.int ((p3 &&& (255 : Int32)).toUInt32.toUInt16.toUInt32.toInt32)), .val (.int ((p2 &&& (2147483647 : Int32)) % (12 : Int32))), .val (.ref x331), .val (.ref b455), .val .null, .unset, .unset] [(.ref b455)])) (fun t kt => ?_) ?_
          · show Steps p.tables e below (T524.setTop (mkF m 97 #[.val (.int p1), .val (.int p2), .val (.int p3), .val (.int p4), .val (.int ((p1 &&& (2147483647 : Int32)) % (8 : Int32))), .val (.int ((p4 &&& (255 : Int32)).toUInt32.toUInt16.toUInt32.toInt32)), .val (.int ((p3 &&& (255 : Int32)).toUInt32.toUInt16.toUInt32.toInt32)), .val (.int ((p2 &&& (2147483647 : Int32)) % (12 : Int32))), .val (.ref x331), .val (.ref b455), .val .null, .unset, .unset] [(.int (0 : Int32))])) t
            refine XS.ifYes X524.here hx rfl (pc0 := 97) (pc' := 105) rfl (hb hby at_97) rfl ((if0 _ _).trans (teq ((by decide) : (0 : Int32) = (0 : Int32))).1) (by decide) (by decide) ?_
            refine XS.aload X524.here hx rfl (hb hby at_105) rfl rfl ?_
            exact kt
          have f541 := (Nat.le_trans (Nat.le_trans (Nat.le_trans f469 Kq470.1) E477.1) E510.1)
          obtain ⟨vv542, _, ⟨T542, L542, k542, n542⟩, -, X542, ⟨Lc542, hQ542, l542, y542, z542⟩, st542⟩ := Jvm.LawKit.callS X524 hx (y := (⟨"com/example/vestline/vestline/TerminationReason", "named", "(Ljava/lang/String;)Ljava/util/Optional;"⟩ : MethodName)) hown510 (mvT hZ510 (hw _ (List.mem_of_getElem? (i := 40) rfl))) (mvT hZ510 (hw _ (List.mem_of_getElem? (i := 41) rfl))) (mvT hZ510 (hw _ (List.mem_of_getElem? (i := 42) rfl))) (mvT hZ510 (hw _ (List.mem_of_getElem? (i := 43) rfl))) (by decide) (backOf (W := 0) (c_named l Z a0 hw [] b455 t470 kb470 ([] : List Int32) A kA EM P0 P1 W0 W1 B0 B1 kb0 kb1 G1 h510 n0 f541 f518 f519 f520 f521 hpe hle SV KV EV SE EE FE SP0 EP0 FP0 EW0 FV0 FC0 KB0 SP1 EP1 FP1 EW1 FV1 FC1 KB1 O2 P5 f523) hZ510 (hw _ (List.mem_of_getElem? (i := 43) rfl)) (hw _ (List.mem_of_getElem? (i := 42) rfl)) (by decide) (by decide)) (g := (mkF m 107 #[.val (.int p1), .val (.int p2), .val (.int p3), .val (.int p4), .val (.int ((p1 &&& (2147483647 : Int32)) % (8 : Int32))), .val (.int ((p4 &&& (255 : Int32)).toUInt32.toUInt16.toUInt32.toInt32)), .val (.int ((p3 &&& (255 : Int32)).toUInt32.toUInt16.toUInt32.toInt32)), .val (.int ((p2 &&& (2147483647 : Int32)) % (12 : Int32))), .val (.ref x331), .val (.ref b455), .val .null, .unset, .unset] [(.ref b455)])) rfl (by rw [hml]; rfl) (argsL := [(.ref b455)]) (rest := []) (lenOf pd_396 rfl) rfl (by show 2 * 0 + _ ≤ _; exact Nat.le_of_eq rfl) (hb hby at_107) (fun _ _ => ⟨rfl, Eq524, (by decide : 10 + 2 ≤ _), (by decide : 91 + 3 ≤ _)⟩)
          dsimp only [Pt.U, Pt.locs, Pt.cells, Pt.slots] at X542 l542 y542 z542 st542 hQ542
          subst l542 y542 z542
          obtain ⟨y542, u542, rfl, Nq542, Kq542, Eq542, Fq542, hu542⟩ := hQ542
          obtain rfl : u542 = .null := hu542.elim (fun q => absurd q.2 hcq493) (fun q => q.elim (fun q => absurd q.2.2 hcq524) (fun q => q.1))
          have N543 := Fr.app N540 Nq542
          have R544 := R512.trans (CHr.keep Kq542 sf0 R512.1)
          have sf545 := Safe.keep Kq542 sf0 R512.1 sf513
          have sf546 := Safe.keep Kq542 sf0 R512.1 sf515
          refine ownBy st542 ?_
          show ownG p.tables e below _ (T542.setTop (mkF m 110 #[.val (.int p1), .val (.int p2), .val (.int p3), .val (.int p4), .val (.int ((p1 &&& (2147483647 : Int32)) % (8 : Int32))), .val (.int ((p4 &&& (255 : Int32)).toUInt32.toUInt16.toUInt32.toInt32)), .val (.int ((p3 &&& (255 : Int32)).toUInt32.toUInt16.toUInt32.toInt32)), .val (.int ((p2 &&& (2147483647 : Int32)) % (12 : Int32))), .val (.ref x331), .val (.ref b455), .val .null, .unset, .unset] [(.ref y542)]))
          refine ownBy (A := T542.setTop (mkF m 122 #[.val (.int p1), .val (.int p2), .val (.int p3), .val (.int p4), .val (.int ((p1 &&& (2147483647 : Int32)) % (8 : Int32))), .val (.int ((p4 &&& (255 : Int32)).toUInt32.toUInt16.toUInt32.toInt32)), .val (.int ((p3 &&& (255 : Int32)).toUInt32.toUInt16.toUInt32.toInt32)), .val (.int ((p2 &&& (2147483647 : Int32)) % (12 : Int32))), .val (.ref x331), .val (.ref b455), .val .null, .val (.ref y542), .unset] [.null, (.ref y542)])) (fun t kt => ?_) ?_
          · show Steps p.tables e below (T542.setTop (mkF m 110 #[.val (.int p1), .val (.int p2), .val (.int p3), .val (.int p4), .val (.int ((p1 &&& (2147483647 : Int32)) % (8 : Int32))), .val (.int ((p4 &&& (255 : Int32)).toUInt32.toUInt16.toUInt32.toInt32)), .val (.int ((p3 &&& (255 : Int32)).toUInt32.toUInt16.toUInt32.toInt32)), .val (.int ((p2 &&& (2147483647 : Int32)) % (12 : Int32))), .val (.ref x331), .val (.ref b455), .val .null, .unset, .unset] [(.ref y542)])) t
            refine XS.astore X542.here hx rfl (hb hby at_110) rfl rfl (l' := #[.val (.int p1), .val (.int p2), .val (.int p3), .val (.int p4), .val (.int ((p1 &&& (2147483647 : Int32)) % (8 : Int32))), .val (.int ((p4 &&& (255 : Int32)).toUInt32.toUInt16.toUInt32.toInt32)), .val (.int ((p3 &&& (255 : Int32)).toUInt32.toUInt16.toUInt32.toInt32)), .val (.int ((p2 &&& (2147483647 : Int32)) % (12 : Int32))), .val (.ref x331), .val (.ref b455), .val .null, .val (.ref y542), .unset]) rfl ?_
            refine XS.aload X542.here hx rfl (hb hby at_112) rfl rfl ?_
            show Steps p.tables e below (T542.setTop (mkF m 114 #[.val (.int p1), .val (.int p2), .val (.int p3), .val (.int p4), .val (.int ((p1 &&& (2147483647 : Int32)) % (8 : Int32))), .val (.int ((p4 &&& (255 : Int32)).toUInt32.toUInt16.toUInt32.toInt32)), .val (.int ((p3 &&& (255 : Int32)).toUInt32.toUInt16.toUInt32.toInt32)), .val (.int ((p2 &&& (2147483647 : Int32)) % (12 : Int32))), .val (.ref x331), .val (.ref b455), .val .null, .val (.ref y542), .unset] [(.ref y542)])) t
            refine XS.ifnonnullYes X542.here hx rfl (pc0 := 114) (pc' := 119) rfl (hb hby at_114) rfl (by decide) (by decide) ?_
            refine XS.aload X542.here hx rfl (hb hby at_119) rfl rfl ?_
            show Steps p.tables e below (T542.setTop (mkF m 121 #[.val (.int p1), .val (.int p2), .val (.int p3), .val (.int p4), .val (.int ((p1 &&& (2147483647 : Int32)) % (8 : Int32))), .val (.int ((p4 &&& (255 : Int32)).toUInt32.toUInt16.toUInt32.toInt32)), .val (.int ((p3 &&& (255 : Int32)).toUInt32.toUInt16.toUInt32.toInt32)), .val (.int ((p2 &&& (2147483647 : Int32)) % (12 : Int32))), .val (.ref x331), .val (.ref b455), .val .null, .val (.ref y542), .unset] [(.ref y542)])) t
            refine XS.aconstNull X542.here hx rfl (hb hby at_121) ?_
            exact kt
          have f547 := (Nat.le_trans f541 Kq542.1)
          obtain ⟨cq548, kq548, q548a, q548b, q548c⟩ := isOf hZ510 rfl Eq542
          obtain ⟨vv548, _, ⟨T548, L548, k548, n548⟩, -, X548, ⟨Lc548, hQ548, l548, y548, z548⟩, st548⟩ := X542.virtualBack hx (y := (⟨"java/util/Optional", "orElse", "(Ljava/lang/Object;)Ljava/lang/Object;"⟩ : MethodName)) (z := (⟨"java/util/Optional", "orElse", "(Ljava/lang/Object;)Ljava/lang/Object;"⟩ : MethodName)) hown510 (mvT hZ510 (hw _ (List.mem_of_getElem? (i := 69) rfl))) (mvT hZ510 (hw _ (List.mem_of_getElem? (i := 70) rfl))) (notFace_of_selects (args := #[]) (mvT hZ510 (hw _ (List.mem_of_getElem? (i := 72) rfl)))) (mvT hZ510 (hw _ (List.mem_of_getElem? (i := 72) rfl))) (mvT hZ510 (hw _ (List.mem_of_getElem? (i := 71) rfl))) (by decide) (backOf (W := 0) (c_oren l Z a0 hw [] y542 T542.heap n0 f547 Fq542) hZ510 (hw _ (List.mem_of_getElem? (i := 73) rfl)) (hw _ (List.mem_of_getElem? (i := 46) rfl)) (by decide) (by decide)) q548a q548c (g := (mkF m 122 #[.val (.int p1), .val (.int p2), .val (.int p3), .val (.int p4), .val (.int ((p1 &&& (2147483647 : Int32)) % (8 : Int32))), .val (.int ((p4 &&& (255 : Int32)).toUInt32.toUInt16.toUInt32.toInt32)), .val (.int ((p3 &&& (255 : Int32)).toUInt32.toUInt16.toUInt32.toInt32)), .val (.int ((p2 &&& (2147483647 : Int32)) % (12 : Int32))), .val (.ref x331), .val (.ref b455), .val .null, .val (.ref y542), .unset] [.null, (.ref y542)])) rfl (by rw [hml]; rfl) (Steps.refl _) (argsL := [.null]) (rest := []) (lenOf pd_255 rfl) rfl (by show 2 * 0 + _ ≤ _; exact Nat.le_of_eq rfl) (hb hby at_122) (fun _ _ => ⟨rfl, rfl, (by decide : 12 + 0 ≤ _), (by decide : 94 + 0 ≤ _)⟩)
          dsimp only [Pt.U, Pt.locs, Pt.cells, Pt.slots] at X548 l548 y548 z548 st548 hQ548
          subst l548 y548 z548
          obtain ⟨rfl, Nq548, Eq548⟩ := hQ548
          have N549 := Fr.app N543 Nq548
          refine ownSt st548 ?_
          show ownG p.tables e below _ (T548.setTop (mkF m 125 #[.val (.int p1), .val (.int p2), .val (.int p3), .val (.int p4), .val (.int ((p1 &&& (2147483647 : Int32)) % (8 : Int32))), .val (.int ((p4 &&& (255 : Int32)).toUInt32.toUInt16.toUInt32.toInt32)), .val (.int ((p3 &&& (255 : Int32)).toUInt32.toUInt16.toUInt32.toInt32)), .val (.int ((p2 &&& (2147483647 : Int32)) % (12 : Int32))), .val (.ref x331), .val (.ref b455), .val .null, .val (.ref y542), .unset] [.null]))
          refine ownBy (X548.checkcastNull hx (g := (mkF m 125 #[.val (.int p1), .val (.int p2), .val (.int p3), .val (.int p4), .val (.int ((p1 &&& (2147483647 : Int32)) % (8 : Int32))), .val (.int ((p4 &&& (255 : Int32)).toUInt32.toUInt16.toUInt32.toInt32)), .val (.int ((p3 &&& (255 : Int32)).toUInt32.toUInt16.toUInt32.toInt32)), .val (.int ((p2 &&& (2147483647 : Int32)) % (12 : Int32))), .val (.ref x331), .val (.ref b455), .val .null, .val (.ref y542), .unset] [.null])) rfl rfl (hb hby at_125)) ?_
          show ownG p.tables e below _ (T548.setTop (mkF m 128 #[.val (.int p1), .val (.int p2), .val (.int p3), .val (.int p4), .val (.int ((p1 &&& (2147483647 : Int32)) % (8 : Int32))), .val (.int ((p4 &&& (255 : Int32)).toUInt32.toUInt16.toUInt32.toInt32)), .val (.int ((p3 &&& (255 : Int32)).toUInt32.toUInt16.toUInt32.toInt32)), .val (.int ((p2 &&& (2147483647 : Int32)) % (12 : Int32))), .val (.ref x331), .val (.ref b455), .val .null, .val (.ref y542), .unset] [.null]))
          refine ownBy (A := T548.setTop (mkF m 142 #[.val (.int p1), .val (.int p2), .val (.int p3), .val (.int p4), .val (.int ((p1 &&& (2147483647 : Int32)) % (8 : Int32))), .val (.int ((p4 &&& (255 : Int32)).toUInt32.toUInt16.toUInt32.toInt32)), .val (.int ((p3 &&& (255 : Int32)).toUInt32.toUInt16.toUInt32.toInt32)), .val (.int ((p2 &&& (2147483647 : Int32)) % (12 : Int32))), .val (.ref x331), .val (.ref b455), .val .null, .val (.ref y542), .val .null] [(.int (1 : Int32))])) (fun t kt => ?_) ?_
          · show Steps p.tables e below (T548.setTop (mkF m 128 #[.val (.int p1), .val (.int p2), .val (.int p3), .val (.int p4), .val (.int ((p1 &&& (2147483647 : Int32)) % (8 : Int32))), .val (.int ((p4 &&& (255 : Int32)).toUInt32.toUInt16.toUInt32.toInt32)), .val (.int ((p3 &&& (255 : Int32)).toUInt32.toUInt16.toUInt32.toInt32)), .val (.int ((p2 &&& (2147483647 : Int32)) % (12 : Int32))), .val (.ref x331), .val (.ref b455), .val .null, .val (.ref y542), .unset] [.null])) t
            refine XS.astore X548.here hx rfl (hb hby at_128) rfl rfl (l' := #[.val (.int p1), .val (.int p2), .val (.int p3), .val (.int p4), .val (.int ((p1 &&& (2147483647 : Int32)) % (8 : Int32))), .val (.int ((p4 &&& (255 : Int32)).toUInt32.toUInt16.toUInt32.toInt32)), .val (.int ((p3 &&& (255 : Int32)).toUInt32.toUInt16.toUInt32.toInt32)), .val (.int ((p2 &&& (2147483647 : Int32)) % (12 : Int32))), .val (.ref x331), .val (.ref b455), .val .null, .val (.ref y542), .val .null]) rfl ?_
            refine XS.aload X548.here hx rfl (hb hby at_130) rfl rfl ?_
            show Steps p.tables e below (T548.setTop (mkF m 132 #[.val (.int p1), .val (.int p2), .val (.int p3), .val (.int p4), .val (.int ((p1 &&& (2147483647 : Int32)) % (8 : Int32))), .val (.int ((p4 &&& (255 : Int32)).toUInt32.toUInt16.toUInt32.toInt32)), .val (.int ((p3 &&& (255 : Int32)).toUInt32.toUInt16.toUInt32.toInt32)), .val (.int ((p2 &&& (2147483647 : Int32)) % (12 : Int32))), .val (.ref x331), .val (.ref b455), .val .null, .val (.ref y542), .val .null] [.null])) t
            refine XS.aload X548.here hx rfl (hb hby at_132) rfl rfl ?_
            refine Jvm.RoadKit.acmp (g := (mkF m 134 #[.val (.int p1), .val (.int p2), .val (.int p3), .val (.int p4), .val (.int ((p1 &&& (2147483647 : Int32)) % (8 : Int32))), .val (.int ((p4 &&& (255 : Int32)).toUInt32.toUInt16.toUInt32.toInt32)), .val (.int ((p3 &&& (255 : Int32)).toUInt32.toUInt16.toUInt32.toInt32)), .val (.int ((p2 &&& (2147483647 : Int32)) % (12 : Int32))), .val (.ref x331), .val (.ref b455), .val .null, .val (.ref y542), .val .null] [.null, .null])) X548 hx rfl rfl rfl (pc0 := 134) (pc' := 137) (same := true) rfl (hb hby at_134) rfl (decide_eq_true rfl) (by decide) (by decide) ?_
            show Steps p.tables e below (T548.setTop (mkF m 137 #[.val (.int p1), .val (.int p2), .val (.int p3), .val (.int p4), .val (.int ((p1 &&& (2147483647 : Int32)) % (8 : Int32))), .val (.int ((p4 &&& (255 : Int32)).toUInt32.toUInt16.toUInt32.toInt32)), .val (.int ((p3 &&& (255 : Int32)).toUInt32.toUInt16.toUInt32.toInt32)), .val (.int ((p2 &&& (2147483647 : Int32)) % (12 : Int32))), .val (.ref x331), .val (.ref b455), .val .null, .val (.ref y542), .val .null] [])) t
            refine XS.iconst X548.here hx rfl (hb hby at_137) ?_
            refine XS.goto X548.here hx rfl (pc0 := 138) (pc' := 142) rfl (hb hby at_138) (by decide) (by decide) ?_
            exact kt
          refine ownRetH X548 hS510 (by rw [Eq548]; exact (Nat.le_trans hk510 Kq542.1)) Bd.notSynchronized (v := some (.int (nar .boolean (1 : Int32)))) (fun h => by rw [Bd.returns] at h; cases h) ?_ (R544.trans ((by rw [Eq548]; exact CHv.at X548 hZ510 hEL R544.1))) (Nat.le_of_ble_eq_true rfl) (Nat.le_of_ble_eq_true rfl) (fun fs hr => retN X548 hx (t := .boolean) Bd.returns (by simp) (hb hby at_142) hr)
          show (Q_law Z p1 p2 p3 p4 A kA EM P0 P1 W0 W1 B0 B1 kb0 kb1 G1 h0 n0) (some (.int (nar .boolean (1 : Int32)))) T548.heap _
          rw [Eq548]
          exact ⟨rfl, N549⟩
    · skip
      have f551 := (Nat.le_trans f458 E455.1)
      have f552 := (Aq331.ext E455)
      have f553 := ((X00.keep Kq331 all0).ext E455)
      obtain ⟨vv554, _, ⟨T554, L554, k554, n554⟩, -, X554, ⟨Lc554, hQ554, l554, y554, z554⟩, st554⟩ := X455.specialBack hx (y := (⟨"java/lang/String", "<init>", "([C)V"⟩ : MethodName)) rfl hown (mvT hZ (hw _ (List.mem_of_getElem? (i := 9) rfl))) (mvT hZ (hw _ (List.mem_of_getElem? (i := 10) rfl))) (mvT hZ (hw _ (List.mem_of_getElem? (i := 11) rfl))) (by decide) (StrChars.Road.backV (W := 1) hZ hws (kI := 4) (hw _ (List.mem_of_getElem? (i := 7) rfl)) (cs := cs331) (bs := cs331.map (fun c => c.toInt8.toInt32)) (n := cs331.length) g457 f551 A455 F465 F466 f552 (O2.ext f553.2) P5 rfl rfl (Nat.pos_of_ne_zero hz467) (Nat.le_trans hl331 (by decide)) hp331 rfl (by decide) (by decide)) (g := (mkF m 64 #[.val (.int p1), .val (.int p2), .val (.int p3), .val (.int p4), .val (.int ((p1 &&& (2147483647 : Int32)) % (8 : Int32))), .val (.int ((p4 &&& (255 : Int32)).toUInt32.toUInt16.toUInt32.toInt32)), .val (.int ((p3 &&& (255 : Int32)).toUInt32.toUInt16.toUInt32.toInt32)), .val (.int ((p2 &&& (2147483647 : Int32)) % (12 : Int32))), .val (.ref x331), .unset, .unset, .unset, .unset] [(.ref x331), (.ref b455), (.ref b455)])) rfl (by rw [hml]; rfl) (Steps.refl _) (a := b455) (argsL := [(.ref x331)]) (rest := [(.ref b455)]) (lenOf pd_361 rfl) rfl (by show 2 * 0 + _ ≤ _; exact Nat.le_of_eq rfl) (hb hby at_64) (fun _ _ => ⟨rfl, e455, (by decide : 2 + 1 ≤ _), (Nat.le_trans (Nat.add_le_add_left hl331 _) (by decide : 15 + 11 ≤ _))⟩)
      dsimp only [Pt.U, Pt.locs, Pt.cells, Pt.slots] at X554 l554 y554 z554 st554 hQ554
      subst l554 y554 z554
      obtain ⟨rfl, Nq554, Kq554, Eq554, Cq554, t554, kb554, u554, v554, w554, Vq554, Aq554⟩ := hQ554
      have X554 := X554.more (Nat.le_refl _) (show _ ≤ 15 + 11 from Nat.add_le_add_left hl331 _)
      have f556 := (Aq331.ext E455)
      have ne555 : x331 ≠ t554 := Nat.ne_of_lt (Nat.lt_of_lt_of_le f556.lt v554)
      have ne557 : b455 ≠ t554 := Nat.ne_of_lt (Nat.lt_of_lt_of_le A455.lt v554)
      have g558 : n0 ≤ t554 := Nat.le_trans f551 v554
      have sf559 : Safe Z ownEL s.vm h455 t554 := Safe.new v554
      have f561 := (f461.ext E455)
      have z560 : h0.size ≤ t554 := Nat.le_trans f561.1 v554
      have N562 := Fr.app N336 Nq554
      have R563 := R462.trans (CHr.keep Kq554 (sfS sf464 sf0) R462.1)
      have sf564 := Safe.keep Kq554 (sfS sf464 sf0) R462.1 sf463
      have sf565 := Safe.keep Kq554 (sfS sf464 sf0) R462.1 sf464
      have sf566 := Safe.keep Kq554 (sfS sf464 sf0) R462.1 sf559
      refine ownSt st554 ?_
      show ownG p.tables e below _ (T554.setTop (mkF m 67 #[.val (.int p1), .val (.int p2), .val (.int p3), .val (.int p4), .val (.int ((p1 &&& (2147483647 : Int32)) % (8 : Int32))), .val (.int ((p4 &&& (255 : Int32)).toUInt32.toUInt16.toUInt32.toInt32)), .val (.int ((p3 &&& (255 : Int32)).toUInt32.toUInt16.toUInt32.toInt32)), .val (.int ((p2 &&& (2147483647 : Int32)) % (12 : Int32))), .val (.ref x331), .unset, .unset, .unset, .unset] [(.ref b455)]))
      refine ownBy (A := T554.setTop (mkF m 74 #[.val (.int p1), .val (.int p2), .val (.int p3), .val (.int p4), .val (.int ((p1 &&& (2147483647 : Int32)) % (8 : Int32))), .val (.int ((p4 &&& (255 : Int32)).toUInt32.toUInt16.toUInt32.toInt32)), .val (.int ((p3 &&& (255 : Int32)).toUInt32.toUInt16.toUInt32.toInt32)), .val (.int ((p2 &&& (2147483647 : Int32)) % (12 : Int32))), .val (.ref x331), .val (.ref b455), .val .null, .unset, .unset] [(.ref b455)])) (fun t kt => ?_) ?_
      · show Steps p.tables e below (T554.setTop (mkF m 67 #[.val (.int p1), .val (.int p2), .val (.int p3), .val (.int p4), .val (.int ((p1 &&& (2147483647 : Int32)) % (8 : Int32))), .val (.int ((p4 &&& (255 : Int32)).toUInt32.toUInt16.toUInt32.toInt32)), .val (.int ((p3 &&& (255 : Int32)).toUInt32.toUInt16.toUInt32.toInt32)), .val (.int ((p2 &&& (2147483647 : Int32)) % (12 : Int32))), .val (.ref x331), .unset, .unset, .unset, .unset] [(.ref b455)])) t
        refine XS.astore X554.here hx rfl (hb hby at_67) rfl rfl (l' := #[.val (.int p1), .val (.int p2), .val (.int p3), .val (.int p4), .val (.int ((p1 &&& (2147483647 : Int32)) % (8 : Int32))), .val (.int ((p4 &&& (255 : Int32)).toUInt32.toUInt16.toUInt32.toInt32)), .val (.int ((p3 &&& (255 : Int32)).toUInt32.toUInt16.toUInt32.toInt32)), .val (.int ((p2 &&& (2147483647 : Int32)) % (12 : Int32))), .val (.ref x331), .val (.ref b455), .unset, .unset, .unset]) rfl ?_
        refine XS.aconstNull X554.here hx rfl (hb hby at_69) ?_
        show Steps p.tables e below (T554.setTop (mkF m 70 #[.val (.int p1), .val (.int p2), .val (.int p3), .val (.int p4), .val (.int ((p1 &&& (2147483647 : Int32)) % (8 : Int32))), .val (.int ((p4 &&& (255 : Int32)).toUInt32.toUInt16.toUInt32.toInt32)), .val (.int ((p3 &&& (255 : Int32)).toUInt32.toUInt16.toUInt32.toInt32)), .val (.int ((p2 &&& (2147483647 : Int32)) % (12 : Int32))), .val (.ref x331), .val (.ref b455), .unset, .unset, .unset] [.null])) t
        refine XS.astore X554.here hx rfl (hb hby at_70) rfl rfl (l' := #[.val (.int p1), .val (.int p2), .val (.int p3), .val (.int p4), .val (.int ((p1 &&& (2147483647 : Int32)) % (8 : Int32))), .val (.int ((p4 &&& (255 : Int32)).toUInt32.toUInt16.toUInt32.toInt32)), .val (.int ((p3 &&& (255 : Int32)).toUInt32.toUInt16.toUInt32.toInt32)), .val (.int ((p2 &&& (2147483647 : Int32)) % (12 : Int32))), .val (.ref x331), .val (.ref b455), .val .null, .unset, .unset]) rfl ?_
        refine XS.aload X554.here hx rfl (hb hby at_72) rfl rfl ?_
        exact kt
      obtain ⟨a567, T567, h567, k567, b567, kb567, X567, e567, E567, hS567, hk567, hZ567, hown567, A567, C567, V567, Ab567, -, -, hC567, Lt567, hne567, st567⟩ := ldcCH (text := "death") X554 hx hZ hown (hw _ (List.mem_of_getElem? (i := 27) rfl)) wS rfl hS0 (Nat.le_trans (Nat.le_trans (Nat.le_trans (Nat.le_refl _) Kq331.1) E455.1) Kq554.1) hEL (by simp [ownEL]) R563.1 (vs := [(.int (100 : Int32)), (.int (101 : Int32)), (.int (97 : Int32)), (.int (116 : Int32)), (.int (104 : Int32))]) (z := (5 : Int32)) ⟨by decide, by decide⟩ (by decide) rfl (g := (mkF m 74 #[.val (.int p1), .val (.int p2), .val (.int p3), .val (.int p4), .val (.int ((p1 &&& (2147483647 : Int32)) % (8 : Int32))), .val (.int ((p4 &&& (255 : Int32)).toUInt32.toUInt16.toUInt32.toInt32)), .val (.int ((p3 &&& (255 : Int32)).toUInt32.toUInt16.toUInt32.toInt32)), .val (.int ((p2 &&& (2147483647 : Int32)) % (12 : Int32))), .val (.ref x331), .val (.ref b455), .val .null, .unset, .unset] [(.ref b455)])) rfl (hb hby at_74) (n := 20) (by decide) (by decide) (by decide) (by decide)
      have R569 := R563.trans hC567
      have f571 := (f556.keep Kq554 (ninS ne456 nin0))
      have sf570 := CHr.safe hC567 f571.lt sf564
      have f573 := (A455.keep Kq554)
      have sf572 := CHr.safe hC567 f573.lt sf565
      have sf574 := CHr.safe hC567 Aq554.lt sf566
      have ne575 := hne567 x331 sf570
      have ne576 := hne567 b455 sf572
      have ne577 := hne567 t554 sf574
      refine ownBy st567 ?_
      show ownG p.tables e below _ (T567.setTop (mkF m 76 #[.val (.int p1), .val (.int p2), .val (.int p3), .val (.int p4), .val (.int ((p1 &&& (2147483647 : Int32)) % (8 : Int32))), .val (.int ((p4 &&& (255 : Int32)).toUInt32.toUInt16.toUInt32.toInt32)), .val (.int ((p3 &&& (255 : Int32)).toUInt32.toUInt16.toUInt32.toInt32)), .val (.int ((p2 &&& (2147483647 : Int32)) % (12 : Int32))), .val (.ref x331), .val (.ref b455), .val .null, .unset, .unset] [(.ref a567), (.ref b455)]))
      have hcd578 : StrChars.Road.CodA cs331 0 (Int32.ofNat cs331.length) ((cs331.map (fun c => c.toInt8.toInt32)).map Value.int) := StrChars.Road.codOf rfl (fun x hx => (hp331 x hx).2)
      have hbd578 : ∀ x ∈ cs331, ¬ x < 0 ∧ ¬ (65535 : Int32) < x := own_up _ hp331
      have f579 := (f573.ext E567)
      have f580 := (Vq554.ext E567)
      have f581 := (Cq554.ext E567)
      have f582 := (Aq554.ext E567)
      have hpl583 : ∀ c ∈ ([(100 : Int32), (101 : Int32), (97 : Int32), (116 : Int32), (104 : Int32)] : List Int32), ¬ c < 0 ∧ ¬ (255 : Int32) < c := by decide
      have hcd583 : StrChars.Road.CodA ([(100 : Int32), (101 : Int32), (97 : Int32), (116 : Int32), (104 : Int32)] : List Int32) 0 (5 : Int32) ((([(100 : Int32), (101 : Int32), (97 : Int32), (116 : Int32), (104 : Int32)] : List Int32).map (fun c => c.toInt8.toInt32)).map Value.int) := StrChars.Road.codOf (n := 5) rfl (fun x hx => (hpl583 x hx).2)
      have hbd583 : ∀ x ∈ ([(100 : Int32), (101 : Int32), (97 : Int32), (116 : Int32), (104 : Int32)] : List Int32), ¬ x < 0 ∧ ¬ (65535 : Int32) < x := own_up _ hpl583
      have f584 := ((f553.keep Kq554 (allS g457 all0)).ext E567)
      obtain ⟨cq585, kq585, q585a, q585b, q585c⟩ := isOf hZ567 e567 f579
      obtain ⟨vv585, _, ⟨T585, L585, k585, n585⟩, -, X585, ⟨Lc585, hQ585, l585, y585, z585⟩, st585⟩ := X567.virtualBack hx (y := (⟨"java/lang/String", "equals", "(Ljava/lang/Object;)Z"⟩ : MethodName)) (z := (⟨"java/lang/String", "equals", "(Ljava/lang/Object;)Z"⟩ : MethodName)) hown567 (mvT hZ567 (hw _ (List.mem_of_getElem? (i := 28) rfl))) (mvT hZ567 (hw _ (List.mem_of_getElem? (i := 29) rfl))) (notFace_of_selects (args := #[]) (mvT hZ567 (hw _ (List.mem_of_getElem? (i := 31) rfl)))) (mvT hZ567 (hw _ (List.mem_of_getElem? (i := 31) rfl))) (mvT hZ567 (hw _ (List.mem_of_getElem? (i := 30) rfl))) (by decide) (StrChars.Road.eqW (W := 0) hZ567 heq (kI := 4) (hw _ (List.mem_of_getElem? (i := 7) rfl)) f579 f580 f581 f582 hcd578 hbd578 (Nat.le_trans hl331 (by decide)) A567 V567 C567 Ab567 hcd583 hbd583 (Nat.le_of_ble_eq_true rfl) (O2.ext f584.2) P5 (by decide) (by decide)) q585a q585c (g := (mkF m 76 #[.val (.int p1), .val (.int p2), .val (.int p3), .val (.int p4), .val (.int ((p1 &&& (2147483647 : Int32)) % (8 : Int32))), .val (.int ((p4 &&& (255 : Int32)).toUInt32.toUInt16.toUInt32.toInt32)), .val (.int ((p3 &&& (255 : Int32)).toUInt32.toUInt16.toUInt32.toInt32)), .val (.int ((p2 &&& (2147483647 : Int32)) % (12 : Int32))), .val (.ref x331), .val (.ref b455), .val .null, .unset, .unset] [(.ref a567), (.ref b455)])) rfl (by rw [hml]; rfl) (Steps.refl _) (argsL := [(.ref a567)]) (rest := []) (lenOf pd_291 rfl) rfl (by show 2 * 0 + _ ≤ _; exact Nat.le_of_eq rfl) (hb hby at_76) (fun _ _ => ⟨rfl, e567, (by decide : 5 + 0 ≤ _), (by decide : 50 + 0 ≤ _)⟩)
      dsimp only [Pt.U, Pt.locs, Pt.cells, Pt.slots] at X585 l585 y585 z585 st585 hQ585
      subst l585 y585 z585
      obtain ⟨hE585, rfl, Eq585⟩ := hQ585
      have Nq585 : Fr n0 ([] : List Loc) := Fr.nil n0
      rcases hE585 with ⟨rfl, hcq585⟩ | ⟨rfl, hcq585⟩
      · skip
        have N586 := Fr.app N562 Nq585
        refine ownSt st585 ?_
        show ownG p.tables e below _ (T585.setTop (mkF m 79 #[.val (.int p1), .val (.int p2), .val (.int p3), .val (.int p4), .val (.int ((p1 &&& (2147483647 : Int32)) % (8 : Int32))), .val (.int ((p4 &&& (255 : Int32)).toUInt32.toUInt16.toUInt32.toInt32)), .val (.int ((p3 &&& (255 : Int32)).toUInt32.toUInt16.toUInt32.toInt32)), .val (.int ((p2 &&& (2147483647 : Int32)) % (12 : Int32))), .val (.ref x331), .val (.ref b455), .val .null, .unset, .unset] [(.int (1 : Int32))]))
        refine ownBy (A := T585.setTop (mkF m 82 #[.val (.int p1), .val (.int p2), .val (.int p3), .val (.int p4), .val (.int ((p1 &&& (2147483647 : Int32)) % (8 : Int32))), .val (.int ((p4 &&& (255 : Int32)).toUInt32.toUInt16.toUInt32.toInt32)), .val (.int ((p3 &&& (255 : Int32)).toUInt32.toUInt16.toUInt32.toInt32)), .val (.int ((p2 &&& (2147483647 : Int32)) % (12 : Int32))), .val (.ref x331), .val (.ref b455), .val .null, .unset, .unset] [])) (fun t kt => ?_) ?_
        · show Steps p.tables e below (T585.setTop (mkF m 79 #[.val (.int p1), .val (.int p2), .val (.int p3), .val (.int p4), .val (.int ((p1 &&& (2147483647 : Int32)) % (8 : Int32))), .val (.int ((p4 &&& (255 : Int32)).toUInt32.toUInt16.toUInt32.toInt32)), .val (.int ((p3 &&& (255 : Int32)).toUInt32.toUInt16.toUInt32.toInt32)), .val (.int ((p2 &&& (2147483647 : Int32)) % (12 : Int32))), .val (.ref x331), .val (.ref b455), .val .null, .unset, .unset] [(.int (1 : Int32))])) t
          refine XS.ifNo X585.here hx rfl (hb hby at_79) rfl ((if0 _ _).trans (feq ((by decide) : ¬ ((1 : Int32) = (0 : Int32)))).1) ?_
          exact kt
        obtain ⟨T587, X587, e587, st587⟩ := getS2 X585 hx hZ567 hown567 (host := "") (Or.inl (hw _ (List.mem_of_getElem? (i := 86) rfl))) Via.refl Eq585 (SP0.ext f584.2) (g := (mkF m 82 #[.val (.int p1), .val (.int p2), .val (.int p3), .val (.int p4), .val (.int ((p1 &&& (2147483647 : Int32)) % (8 : Int32))), .val (.int ((p4 &&& (255 : Int32)).toUInt32.toUInt16.toUInt32.toInt32)), .val (.int ((p3 &&& (255 : Int32)).toUInt32.toUInt16.toUInt32.toInt32)), .val (.int ((p2 &&& (2147483647 : Int32)) % (12 : Int32))), .val (.ref x331), .val (.ref b455), .val .null, .unset, .unset] [])) rfl (hb hby at_82)
        refine ownBy st587 ?_
        show ownG p.tables e below _ (T587.setTop (mkF m 85 #[.val (.int p1), .val (.int p2), .val (.int p3), .val (.int p4), .val (.int ((p1 &&& (2147483647 : Int32)) % (8 : Int32))), .val (.int ((p4 &&& (255 : Int32)).toUInt32.toUInt16.toUInt32.toInt32)), .val (.int ((p3 &&& (255 : Int32)).toUInt32.toUInt16.toUInt32.toInt32)), .val (.int ((p2 &&& (2147483647 : Int32)) % (12 : Int32))), .val (.ref x331), .val (.ref b455), .val .null, .unset, .unset] [(.ref P0)]))
        refine ownBy (A := T587.setTop (mkF m 107 #[.val (.int p1), .val (.int p2), .val (.int p3), .val (.int p4), .val (.int ((p1 &&& (2147483647 : Int32)) % (8 : Int32))), .val (.int ((p4 &&& (255 : Int32)).toUInt32.toUInt16.toUInt32.toInt32)), .val (.int ((p3 &&& (255 : Int32)).toUInt32.toUInt16.toUInt32.toInt32)), .val (.int ((p2 &&& (2147483647 : Int32)) % (12 : Int32))), .val (.ref x331), .val (.ref b455), .val (.ref P0), .unset, .unset] [(.ref b455)])) (fun t kt => ?_) ?_
        · show Steps p.tables e below (T587.setTop (mkF m 85 #[.val (.int p1), .val (.int p2), .val (.int p3), .val (.int p4), .val (.int ((p1 &&& (2147483647 : Int32)) % (8 : Int32))), .val (.int ((p4 &&& (255 : Int32)).toUInt32.toUInt16.toUInt32.toInt32)), .val (.int ((p3 &&& (255 : Int32)).toUInt32.toUInt16.toUInt32.toInt32)), .val (.int ((p2 &&& (2147483647 : Int32)) % (12 : Int32))), .val (.ref x331), .val (.ref b455), .val .null, .unset, .unset] [(.ref P0)])) t
          refine XS.astore X587.here hx rfl (hb hby at_85) rfl rfl (l' := #[.val (.int p1), .val (.int p2), .val (.int p3), .val (.int p4), .val (.int ((p1 &&& (2147483647 : Int32)) % (8 : Int32))), .val (.int ((p4 &&& (255 : Int32)).toUInt32.toUInt16.toUInt32.toInt32)), .val (.int ((p3 &&& (255 : Int32)).toUInt32.toUInt16.toUInt32.toInt32)), .val (.int ((p2 &&& (2147483647 : Int32)) % (12 : Int32))), .val (.ref x331), .val (.ref b455), .val (.ref P0), .unset, .unset]) rfl ?_
          refine XS.goto X587.here hx rfl (pc0 := 87) (pc' := 105) rfl (hb hby at_87) (by decide) (by decide) ?_
          show Steps p.tables e below (T587.setTop (mkF m 105 #[.val (.int p1), .val (.int p2), .val (.int p3), .val (.int p4), .val (.int ((p1 &&& (2147483647 : Int32)) % (8 : Int32))), .val (.int ((p4 &&& (255 : Int32)).toUInt32.toUInt16.toUInt32.toInt32)), .val (.int ((p3 &&& (255 : Int32)).toUInt32.toUInt16.toUInt32.toInt32)), .val (.int ((p2 &&& (2147483647 : Int32)) % (12 : Int32))), .val (.ref x331), .val (.ref b455), .val (.ref P0), .unset, .unset] [])) t
          refine XS.aload X587.here hx rfl (hb hby at_105) rfl rfl ?_
          exact kt
        have f588 := (Nat.le_trans (Nat.le_trans f551 Kq554.1) E567.1)
        obtain ⟨vv589, _, ⟨T589, L589, k589, n589⟩, -, X589, ⟨Lc589, hQ589, l589, y589, z589⟩, st589⟩ := Jvm.LawKit.callS X587 hx (y := (⟨"com/example/vestline/vestline/TerminationReason", "named", "(Ljava/lang/String;)Ljava/util/Optional;"⟩ : MethodName)) hown567 (mvT hZ567 (hw _ (List.mem_of_getElem? (i := 40) rfl))) (mvT hZ567 (hw _ (List.mem_of_getElem? (i := 41) rfl))) (mvT hZ567 (hw _ (List.mem_of_getElem? (i := 42) rfl))) (mvT hZ567 (hw _ (List.mem_of_getElem? (i := 43) rfl))) (by decide) (backOf (W := 0) (c_named l Z a0 hw [] b455 t554 kb554 cs331 A kA EM P0 P1 W0 W1 B0 B1 kb0 kb1 G1 h567 n0 f588 f579 f580 f581 f582 hp331 hl331 SV KV EV SE EE FE SP0 EP0 FP0 EW0 FV0 FC0 KB0 SP1 EP1 FP1 EW1 FV1 FC1 KB1 O2 P5 f584) hZ567 (hw _ (List.mem_of_getElem? (i := 43) rfl)) (hw _ (List.mem_of_getElem? (i := 42) rfl)) (by decide) (by decide)) (g := (mkF m 107 #[.val (.int p1), .val (.int p2), .val (.int p3), .val (.int p4), .val (.int ((p1 &&& (2147483647 : Int32)) % (8 : Int32))), .val (.int ((p4 &&& (255 : Int32)).toUInt32.toUInt16.toUInt32.toInt32)), .val (.int ((p3 &&& (255 : Int32)).toUInt32.toUInt16.toUInt32.toInt32)), .val (.int ((p2 &&& (2147483647 : Int32)) % (12 : Int32))), .val (.ref x331), .val (.ref b455), .val (.ref P0), .unset, .unset] [(.ref b455)])) rfl (by rw [hml]; rfl) (argsL := [(.ref b455)]) (rest := []) (lenOf pd_396 rfl) rfl (by show 2 * 0 + _ ≤ _; exact Nat.le_of_eq rfl) (hb hby at_107) (fun _ _ => ⟨rfl, e587, (by decide : 5 + 2 ≤ _), (by decide : 50 + 3 ≤ _)⟩)
        dsimp only [Pt.U, Pt.locs, Pt.cells, Pt.slots] at X589 l589 y589 z589 st589 hQ589
        subst l589 y589 z589
        obtain ⟨y589, u589, rfl, Nq589, Kq589, Eq589, Fq589, hu589⟩ := hQ589
        obtain rfl : u589 = (.ref P0) := hu589.elim (fun q => q.1) (fun q => q.elim (fun q => absurd hcq585 q.2.1) (fun q => absurd hcq585 q.2.1))
        have N590 := Fr.app N586 Nq589
        have R591 := R569.trans (CHr.keep Kq589 sf0 R569.1)
        have sf592 := Safe.keep Kq589 sf0 R569.1 sf570
        have sf593 := Safe.keep Kq589 sf0 R569.1 sf572
        have sf594 := Safe.keep Kq589 sf0 R569.1 sf574
        refine ownBy st589 ?_
        show ownG p.tables e below _ (T589.setTop (mkF m 110 #[.val (.int p1), .val (.int p2), .val (.int p3), .val (.int p4), .val (.int ((p1 &&& (2147483647 : Int32)) % (8 : Int32))), .val (.int ((p4 &&& (255 : Int32)).toUInt32.toUInt16.toUInt32.toInt32)), .val (.int ((p3 &&& (255 : Int32)).toUInt32.toUInt16.toUInt32.toInt32)), .val (.int ((p2 &&& (2147483647 : Int32)) % (12 : Int32))), .val (.ref x331), .val (.ref b455), .val (.ref P0), .unset, .unset] [(.ref y589)]))
        refine ownBy (A := T589.setTop (mkF m 122 #[.val (.int p1), .val (.int p2), .val (.int p3), .val (.int p4), .val (.int ((p1 &&& (2147483647 : Int32)) % (8 : Int32))), .val (.int ((p4 &&& (255 : Int32)).toUInt32.toUInt16.toUInt32.toInt32)), .val (.int ((p3 &&& (255 : Int32)).toUInt32.toUInt16.toUInt32.toInt32)), .val (.int ((p2 &&& (2147483647 : Int32)) % (12 : Int32))), .val (.ref x331), .val (.ref b455), .val (.ref P0), .val (.ref y589), .unset] [.null, (.ref y589)])) (fun t kt => ?_) ?_
        · show Steps p.tables e below (T589.setTop (mkF m 110 #[.val (.int p1), .val (.int p2), .val (.int p3), .val (.int p4), .val (.int ((p1 &&& (2147483647 : Int32)) % (8 : Int32))), .val (.int ((p4 &&& (255 : Int32)).toUInt32.toUInt16.toUInt32.toInt32)), .val (.int ((p3 &&& (255 : Int32)).toUInt32.toUInt16.toUInt32.toInt32)), .val (.int ((p2 &&& (2147483647 : Int32)) % (12 : Int32))), .val (.ref x331), .val (.ref b455), .val (.ref P0), .unset, .unset] [(.ref y589)])) t
          refine XS.astore X589.here hx rfl (hb hby at_110) rfl rfl (l' := #[.val (.int p1), .val (.int p2), .val (.int p3), .val (.int p4), .val (.int ((p1 &&& (2147483647 : Int32)) % (8 : Int32))), .val (.int ((p4 &&& (255 : Int32)).toUInt32.toUInt16.toUInt32.toInt32)), .val (.int ((p3 &&& (255 : Int32)).toUInt32.toUInt16.toUInt32.toInt32)), .val (.int ((p2 &&& (2147483647 : Int32)) % (12 : Int32))), .val (.ref x331), .val (.ref b455), .val (.ref P0), .val (.ref y589), .unset]) rfl ?_
          refine XS.aload X589.here hx rfl (hb hby at_112) rfl rfl ?_
          show Steps p.tables e below (T589.setTop (mkF m 114 #[.val (.int p1), .val (.int p2), .val (.int p3), .val (.int p4), .val (.int ((p1 &&& (2147483647 : Int32)) % (8 : Int32))), .val (.int ((p4 &&& (255 : Int32)).toUInt32.toUInt16.toUInt32.toInt32)), .val (.int ((p3 &&& (255 : Int32)).toUInt32.toUInt16.toUInt32.toInt32)), .val (.int ((p2 &&& (2147483647 : Int32)) % (12 : Int32))), .val (.ref x331), .val (.ref b455), .val (.ref P0), .val (.ref y589), .unset] [(.ref y589)])) t
          refine XS.ifnonnullYes X589.here hx rfl (pc0 := 114) (pc' := 119) rfl (hb hby at_114) rfl (by decide) (by decide) ?_
          refine XS.aload X589.here hx rfl (hb hby at_119) rfl rfl ?_
          show Steps p.tables e below (T589.setTop (mkF m 121 #[.val (.int p1), .val (.int p2), .val (.int p3), .val (.int p4), .val (.int ((p1 &&& (2147483647 : Int32)) % (8 : Int32))), .val (.int ((p4 &&& (255 : Int32)).toUInt32.toUInt16.toUInt32.toInt32)), .val (.int ((p3 &&& (255 : Int32)).toUInt32.toUInt16.toUInt32.toInt32)), .val (.int ((p2 &&& (2147483647 : Int32)) % (12 : Int32))), .val (.ref x331), .val (.ref b455), .val (.ref P0), .val (.ref y589), .unset] [(.ref y589)])) t
          refine XS.aconstNull X589.here hx rfl (hb hby at_121) ?_
          exact kt
        have f595 := (Nat.le_trans f588 Kq589.1)
        obtain ⟨cq596, kq596, q596a, q596b, q596c⟩ := isOf hZ567 rfl Eq589
        obtain ⟨vv596, _, ⟨T596, L596, k596, n596⟩, -, X596, ⟨Lc596, hQ596, l596, y596, z596⟩, st596⟩ := X589.virtualBack hx (y := (⟨"java/util/Optional", "orElse", "(Ljava/lang/Object;)Ljava/lang/Object;"⟩ : MethodName)) (z := (⟨"java/util/Optional", "orElse", "(Ljava/lang/Object;)Ljava/lang/Object;"⟩ : MethodName)) hown567 (mvT hZ567 (hw _ (List.mem_of_getElem? (i := 69) rfl))) (mvT hZ567 (hw _ (List.mem_of_getElem? (i := 70) rfl))) (notFace_of_selects (args := #[]) (mvT hZ567 (hw _ (List.mem_of_getElem? (i := 72) rfl)))) (mvT hZ567 (hw _ (List.mem_of_getElem? (i := 72) rfl))) (mvT hZ567 (hw _ (List.mem_of_getElem? (i := 71) rfl))) (by decide) (backOf (W := 0) (c_orer l Z a0 hw [] y589 P0 T589.heap n0 f595 Fq589) hZ567 (hw _ (List.mem_of_getElem? (i := 73) rfl)) (hw _ (List.mem_of_getElem? (i := 46) rfl)) (by decide) (by decide)) q596a q596c (g := (mkF m 122 #[.val (.int p1), .val (.int p2), .val (.int p3), .val (.int p4), .val (.int ((p1 &&& (2147483647 : Int32)) % (8 : Int32))), .val (.int ((p4 &&& (255 : Int32)).toUInt32.toUInt16.toUInt32.toInt32)), .val (.int ((p3 &&& (255 : Int32)).toUInt32.toUInt16.toUInt32.toInt32)), .val (.int ((p2 &&& (2147483647 : Int32)) % (12 : Int32))), .val (.ref x331), .val (.ref b455), .val (.ref P0), .val (.ref y589), .unset] [.null, (.ref y589)])) rfl (by rw [hml]; rfl) (Steps.refl _) (argsL := [.null]) (rest := []) (lenOf pd_255 rfl) rfl (by show 2 * 0 + _ ≤ _; exact Nat.le_of_eq rfl) (hb hby at_122) (fun _ _ => ⟨rfl, rfl, (by decide : 7 + 0 ≤ _), (by decide : 53 + 0 ≤ _)⟩)
        dsimp only [Pt.U, Pt.locs, Pt.cells, Pt.slots] at X596 l596 y596 z596 st596 hQ596
        subst l596 y596 z596
        obtain ⟨rfl, Nq596, Eq596⟩ := hQ596
        have N597 := Fr.app N590 Nq596
        refine ownSt st596 ?_
        show ownG p.tables e below _ (T596.setTop (mkF m 125 #[.val (.int p1), .val (.int p2), .val (.int p3), .val (.int p4), .val (.int ((p1 &&& (2147483647 : Int32)) % (8 : Int32))), .val (.int ((p4 &&& (255 : Int32)).toUInt32.toUInt16.toUInt32.toInt32)), .val (.int ((p3 &&& (255 : Int32)).toUInt32.toUInt16.toUInt32.toInt32)), .val (.int ((p2 &&& (2147483647 : Int32)) % (12 : Int32))), .val (.ref x331), .val (.ref b455), .val (.ref P0), .val (.ref y589), .unset] [(.ref P0)]))
        have f598 := (f584.keep Kq589 all0)
        have f599 := EP0.ext f598.2
        obtain ⟨T600, X600, e600, st600⟩ := castY X596 hx hZ567 hown567 (hw _ (List.mem_of_getElem? (i := 101) rfl)) Eq596 (Ins.self f599) (g := (mkF m 125 #[.val (.int p1), .val (.int p2), .val (.int p3), .val (.int p4), .val (.int ((p1 &&& (2147483647 : Int32)) % (8 : Int32))), .val (.int ((p4 &&& (255 : Int32)).toUInt32.toUInt16.toUInt32.toInt32)), .val (.int ((p3 &&& (255 : Int32)).toUInt32.toUInt16.toUInt32.toInt32)), .val (.int ((p2 &&& (2147483647 : Int32)) % (12 : Int32))), .val (.ref x331), .val (.ref b455), .val (.ref P0), .val (.ref y589), .unset] [(.ref P0)])) rfl rfl (hb hby at_125)
        refine ownBy st600 ?_
        show ownG p.tables e below _ (T600.setTop (mkF m 128 #[.val (.int p1), .val (.int p2), .val (.int p3), .val (.int p4), .val (.int ((p1 &&& (2147483647 : Int32)) % (8 : Int32))), .val (.int ((p4 &&& (255 : Int32)).toUInt32.toUInt16.toUInt32.toInt32)), .val (.int ((p3 &&& (255 : Int32)).toUInt32.toUInt16.toUInt32.toInt32)), .val (.int ((p2 &&& (2147483647 : Int32)) % (12 : Int32))), .val (.ref x331), .val (.ref b455), .val (.ref P0), .val (.ref y589), .unset] [(.ref P0)]))
        refine ownBy (A := T600.setTop (mkF m 142 #[.val (.int p1), .val (.int p2), .val (.int p3), .val (.int p4), .val (.int ((p1 &&& (2147483647 : Int32)) % (8 : Int32))), .val (.int ((p4 &&& (255 : Int32)).toUInt32.toUInt16.toUInt32.toInt32)), .val (.int ((p3 &&& (255 : Int32)).toUInt32.toUInt16.toUInt32.toInt32)), .val (.int ((p2 &&& (2147483647 : Int32)) % (12 : Int32))), .val (.ref x331), .val (.ref b455), .val (.ref P0), .val (.ref y589), .val (.ref P0)] [(.int (1 : Int32))])) (fun t kt => ?_) ?_
        · show Steps p.tables e below (T600.setTop (mkF m 128 #[.val (.int p1), .val (.int p2), .val (.int p3), .val (.int p4), .val (.int ((p1 &&& (2147483647 : Int32)) % (8 : Int32))), .val (.int ((p4 &&& (255 : Int32)).toUInt32.toUInt16.toUInt32.toInt32)), .val (.int ((p3 &&& (255 : Int32)).toUInt32.toUInt16.toUInt32.toInt32)), .val (.int ((p2 &&& (2147483647 : Int32)) % (12 : Int32))), .val (.ref x331), .val (.ref b455), .val (.ref P0), .val (.ref y589), .unset] [(.ref P0)])) t
          refine XS.astore X600.here hx rfl (hb hby at_128) rfl rfl (l' := #[.val (.int p1), .val (.int p2), .val (.int p3), .val (.int p4), .val (.int ((p1 &&& (2147483647 : Int32)) % (8 : Int32))), .val (.int ((p4 &&& (255 : Int32)).toUInt32.toUInt16.toUInt32.toInt32)), .val (.int ((p3 &&& (255 : Int32)).toUInt32.toUInt16.toUInt32.toInt32)), .val (.int ((p2 &&& (2147483647 : Int32)) % (12 : Int32))), .val (.ref x331), .val (.ref b455), .val (.ref P0), .val (.ref y589), .val (.ref P0)]) rfl ?_
          refine XS.aload X600.here hx rfl (hb hby at_130) rfl rfl ?_
          show Steps p.tables e below (T600.setTop (mkF m 132 #[.val (.int p1), .val (.int p2), .val (.int p3), .val (.int p4), .val (.int ((p1 &&& (2147483647 : Int32)) % (8 : Int32))), .val (.int ((p4 &&& (255 : Int32)).toUInt32.toUInt16.toUInt32.toInt32)), .val (.int ((p3 &&& (255 : Int32)).toUInt32.toUInt16.toUInt32.toInt32)), .val (.int ((p2 &&& (2147483647 : Int32)) % (12 : Int32))), .val (.ref x331), .val (.ref b455), .val (.ref P0), .val (.ref y589), .val (.ref P0)] [(.ref P0)])) t
          refine XS.aload X600.here hx rfl (hb hby at_132) rfl rfl ?_
          refine Jvm.RoadKit.acmp (g := (mkF m 134 #[.val (.int p1), .val (.int p2), .val (.int p3), .val (.int p4), .val (.int ((p1 &&& (2147483647 : Int32)) % (8 : Int32))), .val (.int ((p4 &&& (255 : Int32)).toUInt32.toUInt16.toUInt32.toInt32)), .val (.int ((p3 &&& (255 : Int32)).toUInt32.toUInt16.toUInt32.toInt32)), .val (.int ((p2 &&& (2147483647 : Int32)) % (12 : Int32))), .val (.ref x331), .val (.ref b455), .val (.ref P0), .val (.ref y589), .val (.ref P0)] [(.ref P0), (.ref P0)])) X600 hx rfl rfl rfl (pc0 := 134) (pc' := 137) (same := true) rfl (hb hby at_134) rfl (decide_eq_true rfl) (by decide) (by decide) ?_
          show Steps p.tables e below (T600.setTop (mkF m 137 #[.val (.int p1), .val (.int p2), .val (.int p3), .val (.int p4), .val (.int ((p1 &&& (2147483647 : Int32)) % (8 : Int32))), .val (.int ((p4 &&& (255 : Int32)).toUInt32.toUInt16.toUInt32.toInt32)), .val (.int ((p3 &&& (255 : Int32)).toUInt32.toUInt16.toUInt32.toInt32)), .val (.int ((p2 &&& (2147483647 : Int32)) % (12 : Int32))), .val (.ref x331), .val (.ref b455), .val (.ref P0), .val (.ref y589), .val (.ref P0)] [])) t
          refine XS.iconst X600.here hx rfl (hb hby at_137) ?_
          refine XS.goto X600.here hx rfl (pc0 := 138) (pc' := 142) rfl (hb hby at_138) (by decide) (by decide) ?_
          exact kt
        refine ownRetH X600 hS567 (by rw [e600]; exact (Nat.le_trans hk567 Kq589.1)) Bd.notSynchronized (v := some (.int (nar .boolean (1 : Int32)))) (fun h => by rw [Bd.returns] at h; cases h) ?_ (R591.trans ((by rw [e600]; exact CHv.at X600 hZ567 hEL R591.1))) (Nat.le_of_ble_eq_true rfl) (Nat.le_of_ble_eq_true rfl) (fun fs hr => retN X600 hx (t := .boolean) Bd.returns (by simp) (hb hby at_142) hr)
        show (Q_law Z p1 p2 p3 p4 A kA EM P0 P1 W0 W1 B0 B1 kb0 kb1 G1 h0 n0) (some (.int (nar .boolean (1 : Int32)))) T600.heap _
        rw [e600]
        exact ⟨rfl, N597⟩
      · skip
        have N602 := Fr.app N562 Nq585
        refine ownSt st585 ?_
        show ownG p.tables e below _ (T585.setTop (mkF m 79 #[.val (.int p1), .val (.int p2), .val (.int p3), .val (.int p4), .val (.int ((p1 &&& (2147483647 : Int32)) % (8 : Int32))), .val (.int ((p4 &&& (255 : Int32)).toUInt32.toUInt16.toUInt32.toInt32)), .val (.int ((p3 &&& (255 : Int32)).toUInt32.toUInt16.toUInt32.toInt32)), .val (.int ((p2 &&& (2147483647 : Int32)) % (12 : Int32))), .val (.ref x331), .val (.ref b455), .val .null, .unset, .unset] [(.int (0 : Int32))]))
        refine ownBy (A := T585.setTop (mkF m 92 #[.val (.int p1), .val (.int p2), .val (.int p3), .val (.int p4), .val (.int ((p1 &&& (2147483647 : Int32)) % (8 : Int32))), .val (.int ((p4 &&& (255 : Int32)).toUInt32.toUInt16.toUInt32.toInt32)), .val (.int ((p3 &&& (255 : Int32)).toUInt32.toUInt16.toUInt32.toInt32)), .val (.int ((p2 &&& (2147483647 : Int32)) % (12 : Int32))), .val (.ref x331), .val (.ref b455), .val .null, .unset, .unset] [(.ref b455)])) (fun t kt => ?_) ?_
        · show Steps p.tables e below (T585.setTop (mkF m 79 #[.val (.int p1), .val (.int p2), .val (.int p3), .val (.int p4), .val (.int ((p1 &&& (2147483647 : Int32)) % (8 : Int32))), .val (.int ((p4 &&& (255 : Int32)).toUInt32.toUInt16.toUInt32.toInt32)), .val (.int ((p3 &&& (255 : Int32)).toUInt32.toUInt16.toUInt32.toInt32)), .val (.int ((p2 &&& (2147483647 : Int32)) % (12 : Int32))), .val (.ref x331), .val (.ref b455), .val .null, .unset, .unset] [(.int (0 : Int32))])) t
          refine XS.ifYes X585.here hx rfl (pc0 := 79) (pc' := 90) rfl (hb hby at_79) rfl ((if0 _ _).trans (teq ((by decide) : (0 : Int32) = (0 : Int32))).1) (by decide) (by decide) ?_
          refine XS.aload X585.here hx rfl (hb hby at_90) rfl rfl ?_
          exact kt
        obtain ⟨a603, T603, h603, k603, b603, kb603, X603, e603, E603, hS603, hk603, hZ603, hown603, A603, C603, V603, Ab603, -, -, hC603, Lt603, hne603, st603⟩ := ldcCH (text := "disability") X585 hx hZ567 hown567 (hw _ (List.mem_of_getElem? (i := 39) rfl)) wS Eq585 hS567 hk567 hEL (by simp [ownEL]) R569.1 (vs := [(.int (100 : Int32)), (.int (105 : Int32)), (.int (115 : Int32)), (.int (97 : Int32)), (.int (98 : Int32)), (.int (105 : Int32)), (.int (108 : Int32)), (.int (105 : Int32)), (.int (116 : Int32)), (.int (121 : Int32))]) (z := (10 : Int32)) ⟨by decide, by decide⟩ (by decide) rfl (g := (mkF m 92 #[.val (.int p1), .val (.int p2), .val (.int p3), .val (.int p4), .val (.int ((p1 &&& (2147483647 : Int32)) % (8 : Int32))), .val (.int ((p4 &&& (255 : Int32)).toUInt32.toUInt16.toUInt32.toInt32)), .val (.int ((p3 &&& (255 : Int32)).toUInt32.toUInt16.toUInt32.toInt32)), .val (.int ((p2 &&& (2147483647 : Int32)) % (12 : Int32))), .val (.ref x331), .val (.ref b455), .val .null, .unset, .unset] [(.ref b455)])) rfl (hb hby at_92) (n := 40) (by decide) (by decide) (by decide) (by decide)
        have R605 := R569.trans hC603
        have f607 := (f571.ext E567)
        have sf606 := CHr.safe hC603 f607.lt sf570
        have sf608 := CHr.safe hC603 f579.lt sf572
        have sf609 := CHr.safe hC603 f582.lt sf574
        have ne610 := hne603 x331 sf606
        have ne611 := hne603 b455 sf608
        have ne612 := hne603 t554 sf609
        refine ownBy st603 ?_
        show ownG p.tables e below _ (T603.setTop (mkF m 94 #[.val (.int p1), .val (.int p2), .val (.int p3), .val (.int p4), .val (.int ((p1 &&& (2147483647 : Int32)) % (8 : Int32))), .val (.int ((p4 &&& (255 : Int32)).toUInt32.toUInt16.toUInt32.toInt32)), .val (.int ((p3 &&& (255 : Int32)).toUInt32.toUInt16.toUInt32.toInt32)), .val (.int ((p2 &&& (2147483647 : Int32)) % (12 : Int32))), .val (.ref x331), .val (.ref b455), .val .null, .unset, .unset] [(.ref a603), (.ref b455)]))
        have f613 := (f579.ext E603)
        have f614 := (f580.ext E603)
        have f615 := (f581.ext E603)
        have f616 := (f582.ext E603)
        have hpl617 : ∀ c ∈ ([(100 : Int32), (105 : Int32), (115 : Int32), (97 : Int32), (98 : Int32), (105 : Int32), (108 : Int32), (105 : Int32), (116 : Int32), (121 : Int32)] : List Int32), ¬ c < 0 ∧ ¬ (255 : Int32) < c := by decide
        have hcd617 : StrChars.Road.CodA ([(100 : Int32), (105 : Int32), (115 : Int32), (97 : Int32), (98 : Int32), (105 : Int32), (108 : Int32), (105 : Int32), (116 : Int32), (121 : Int32)] : List Int32) 0 (10 : Int32) ((([(100 : Int32), (105 : Int32), (115 : Int32), (97 : Int32), (98 : Int32), (105 : Int32), (108 : Int32), (105 : Int32), (116 : Int32), (121 : Int32)] : List Int32).map (fun c => c.toInt8.toInt32)).map Value.int) := StrChars.Road.codOf (n := 10) rfl (fun x hx => (hpl617 x hx).2)
        have hbd617 : ∀ x ∈ ([(100 : Int32), (105 : Int32), (115 : Int32), (97 : Int32), (98 : Int32), (105 : Int32), (108 : Int32), (105 : Int32), (116 : Int32), (121 : Int32)] : List Int32), ¬ x < 0 ∧ ¬ (65535 : Int32) < x := own_up _ hpl617
        have f618 := (f584.ext E603)
        obtain ⟨cq619, kq619, q619a, q619b, q619c⟩ := isOf hZ603 e603 f613
        obtain ⟨vv619, _, ⟨T619, L619, k619, n619⟩, -, X619, ⟨Lc619, hQ619, l619, y619, z619⟩, st619⟩ := X603.virtualBack hx (y := (⟨"java/lang/String", "equals", "(Ljava/lang/Object;)Z"⟩ : MethodName)) (z := (⟨"java/lang/String", "equals", "(Ljava/lang/Object;)Z"⟩ : MethodName)) hown603 (mvT hZ603 (hw _ (List.mem_of_getElem? (i := 28) rfl))) (mvT hZ603 (hw _ (List.mem_of_getElem? (i := 29) rfl))) (notFace_of_selects (args := #[]) (mvT hZ603 (hw _ (List.mem_of_getElem? (i := 31) rfl)))) (mvT hZ603 (hw _ (List.mem_of_getElem? (i := 31) rfl))) (mvT hZ603 (hw _ (List.mem_of_getElem? (i := 30) rfl))) (by decide) (StrChars.Road.eqW (W := 0) hZ603 heq (kI := 4) (hw _ (List.mem_of_getElem? (i := 7) rfl)) f613 f614 f615 f616 hcd578 hbd578 (Nat.le_trans hl331 (by decide)) A603 V603 C603 Ab603 hcd617 hbd617 (Nat.le_of_ble_eq_true rfl) (O2.ext f618.2) P5 (by decide) (by decide)) q619a q619c (g := (mkF m 94 #[.val (.int p1), .val (.int p2), .val (.int p3), .val (.int p4), .val (.int ((p1 &&& (2147483647 : Int32)) % (8 : Int32))), .val (.int ((p4 &&& (255 : Int32)).toUInt32.toUInt16.toUInt32.toInt32)), .val (.int ((p3 &&& (255 : Int32)).toUInt32.toUInt16.toUInt32.toInt32)), .val (.int ((p2 &&& (2147483647 : Int32)) % (12 : Int32))), .val (.ref x331), .val (.ref b455), .val .null, .unset, .unset] [(.ref a603), (.ref b455)])) rfl (by rw [hml]; rfl) (Steps.refl _) (argsL := [(.ref a603)]) (rest := []) (lenOf pd_291 rfl) rfl (by show 2 * 0 + _ ≤ _; exact Nat.le_of_eq rfl) (hb hby at_94) (fun _ _ => ⟨rfl, e603, (by decide : 7 + 0 ≤ _), (by decide : 94 + 0 ≤ _)⟩)
        dsimp only [Pt.U, Pt.locs, Pt.cells, Pt.slots] at X619 l619 y619 z619 st619 hQ619
        subst l619 y619 z619
        obtain ⟨hE619, rfl, Eq619⟩ := hQ619
        have Nq619 : Fr n0 ([] : List Loc) := Fr.nil n0
        rcases hE619 with ⟨rfl, hcq619⟩ | ⟨rfl, hcq619⟩
        · skip
          have N620 := Fr.app N602 Nq619
          refine ownSt st619 ?_
          show ownG p.tables e below _ (T619.setTop (mkF m 97 #[.val (.int p1), .val (.int p2), .val (.int p3), .val (.int p4), .val (.int ((p1 &&& (2147483647 : Int32)) % (8 : Int32))), .val (.int ((p4 &&& (255 : Int32)).toUInt32.toUInt16.toUInt32.toInt32)), .val (.int ((p3 &&& (255 : Int32)).toUInt32.toUInt16.toUInt32.toInt32)), .val (.int ((p2 &&& (2147483647 : Int32)) % (12 : Int32))), .val (.ref x331), .val (.ref b455), .val .null, .unset, .unset] [(.int (1 : Int32))]))
          refine ownBy (A := T619.setTop (mkF m 100 #[.val (.int p1), .val (.int p2), .val (.int p3), .val (.int p4), .val (.int ((p1 &&& (2147483647 : Int32)) % (8 : Int32))), .val (.int ((p4 &&& (255 : Int32)).toUInt32.toUInt16.toUInt32.toInt32)), .val (.int ((p3 &&& (255 : Int32)).toUInt32.toUInt16.toUInt32.toInt32)), .val (.int ((p2 &&& (2147483647 : Int32)) % (12 : Int32))), .val (.ref x331), .val (.ref b455), .val .null, .unset, .unset] [])) (fun t kt => ?_) ?_
          · show Steps p.tables e below (T619.setTop (mkF m 97 #[.val (.int p1), .val (.int p2), .val (.int p3), .val (.int p4), .val (.int ((p1 &&& (2147483647 : Int32)) % (8 : Int32))), .val (.int ((p4 &&& (255 : Int32)).toUInt32.toUInt16.toUInt32.toInt32)), .val (.int ((p3 &&& (255 : Int32)).toUInt32.toUInt16.toUInt32.toInt32)), .val (.int ((p2 &&& (2147483647 : Int32)) % (12 : Int32))), .val (.ref x331), .val (.ref b455), .val .null, .unset, .unset] [(.int (1 : Int32))])) t
            refine XS.ifNo X619.here hx rfl (hb hby at_97) rfl ((if0 _ _).trans (feq ((by decide) : ¬ ((1 : Int32) = (0 : Int32)))).1) ?_
            exact kt
          obtain ⟨T621, X621, e621, st621⟩ := getS2 X619 hx hZ603 hown603 (host := "") (Or.inl (hw _ (List.mem_of_getElem? (i := 103) rfl))) Via.refl Eq619 (SP1.ext f618.2) (g := (mkF m 100 #[.val (.int p1), .val (.int p2), .val (.int p3), .val (.int p4), .val (.int ((p1 &&& (2147483647 : Int32)) % (8 : Int32))), .val (.int ((p4 &&& (255 : Int32)).toUInt32.toUInt16.toUInt32.toInt32)), .val (.int ((p3 &&& (255 : Int32)).toUInt32.toUInt16.toUInt32.toInt32)), .val (.int ((p2 &&& (2147483647 : Int32)) % (12 : Int32))), .val (.ref x331), .val (.ref b455), .val .null, .unset, .unset] [])) rfl (hb hby at_100)
          refine ownBy st621 ?_
          show ownG p.tables e below _ (T621.setTop (mkF m 103 #[.val (.int p1), .val (.int p2), .val (.int p3), .val (.int p4), .val (.int ((p1 &&& (2147483647 : Int32)) % (8 : Int32))), .val (.int ((p4 &&& (255 : Int32)).toUInt32.toUInt16.toUInt32.toInt32)), .val (.int ((p3 &&& (255 : Int32)).toUInt32.toUInt16.toUInt32.toInt32)), .val (.int ((p2 &&& (2147483647 : Int32)) % (12 : Int32))), .val (.ref x331), .val (.ref b455), .val .null, .unset, .unset] [(.ref P1)]))
          refine ownBy (A := T621.setTop (mkF m 107 #[.val (.int p1), .val (.int p2), .val (.int p3), .val (.int p4), .val (.int ((p1 &&& (2147483647 : Int32)) % (8 : Int32))), .val (.int ((p4 &&& (255 : Int32)).toUInt32.toUInt16.toUInt32.toInt32)), .val (.int ((p3 &&& (255 : Int32)).toUInt32.toUInt16.toUInt32.toInt32)), .val (.int ((p2 &&& (2147483647 : Int32)) % (12 : Int32))), .val (.ref x331), .val (.ref b455), .val (.ref P1), .unset, .unset] [(.ref b455)])) (fun t kt => ?_) ?_
          · show Steps p.tables e below (T621.setTop (mkF m 103 #[.val (.int p1), .val (.int p2), .val (.int p3), .val (.int p4), .val (.int ((p1 &&& (2147483647 : Int32)) % (8 : Int32))), .val (.int ((p4 &&& (255 : Int32)).toUInt32.toUInt16.toUInt32.toInt32)), .val (.int ((p3 &&& (255 : Int32)).toUInt32.toUInt16.toUInt32.toInt32)), .val (.int ((p2 &&& (2147483647 : Int32)) % (12 : Int32))), .val (.ref x331), .val (.ref b455), .val .null, .unset, .unset] [(.ref P1)])) t
            refine XS.astore X621.here hx rfl (hb hby at_103) rfl rfl (l' := #[.val (.int p1), .val (.int p2), .val (.int p3), .val (.int p4), .val (.int ((p1 &&& (2147483647 : Int32)) % (8 : Int32))), .val (.int ((p4 &&& (255 : Int32)).toUInt32.toUInt16.toUInt32.toInt32)), .val (.int ((p3 &&& (255 : Int32)).toUInt32.toUInt16.toUInt32.toInt32)), .val (.int ((p2 &&& (2147483647 : Int32)) % (12 : Int32))), .val (.ref x331), .val (.ref b455), .val (.ref P1), .unset, .unset]) rfl ?_
            refine XS.aload X621.here hx rfl (hb hby at_105) rfl rfl ?_
            exact kt
          have f622 := (Nat.le_trans (Nat.le_trans (Nat.le_trans f551 Kq554.1) E567.1) E603.1)
          obtain ⟨vv623, _, ⟨T623, L623, k623, n623⟩, -, X623, ⟨Lc623, hQ623, l623, y623, z623⟩, st623⟩ := Jvm.LawKit.callS X621 hx (y := (⟨"com/example/vestline/vestline/TerminationReason", "named", "(Ljava/lang/String;)Ljava/util/Optional;"⟩ : MethodName)) hown603 (mvT hZ603 (hw _ (List.mem_of_getElem? (i := 40) rfl))) (mvT hZ603 (hw _ (List.mem_of_getElem? (i := 41) rfl))) (mvT hZ603 (hw _ (List.mem_of_getElem? (i := 42) rfl))) (mvT hZ603 (hw _ (List.mem_of_getElem? (i := 43) rfl))) (by decide) (backOf (W := 0) (c_named l Z a0 hw [] b455 t554 kb554 cs331 A kA EM P0 P1 W0 W1 B0 B1 kb0 kb1 G1 h603 n0 f622 f613 f614 f615 f616 hp331 hl331 SV KV EV SE EE FE SP0 EP0 FP0 EW0 FV0 FC0 KB0 SP1 EP1 FP1 EW1 FV1 FC1 KB1 O2 P5 f618) hZ603 (hw _ (List.mem_of_getElem? (i := 43) rfl)) (hw _ (List.mem_of_getElem? (i := 42) rfl)) (by decide) (by decide)) (g := (mkF m 107 #[.val (.int p1), .val (.int p2), .val (.int p3), .val (.int p4), .val (.int ((p1 &&& (2147483647 : Int32)) % (8 : Int32))), .val (.int ((p4 &&& (255 : Int32)).toUInt32.toUInt16.toUInt32.toInt32)), .val (.int ((p3 &&& (255 : Int32)).toUInt32.toUInt16.toUInt32.toInt32)), .val (.int ((p2 &&& (2147483647 : Int32)) % (12 : Int32))), .val (.ref x331), .val (.ref b455), .val (.ref P1), .unset, .unset] [(.ref b455)])) rfl (by rw [hml]; rfl) (argsL := [(.ref b455)]) (rest := []) (lenOf pd_396 rfl) rfl (by show 2 * 0 + _ ≤ _; exact Nat.le_of_eq rfl) (hb hby at_107) (fun _ _ => ⟨rfl, e621, (by decide : 7 + 2 ≤ _), (by decide : 94 + 3 ≤ _)⟩)
          dsimp only [Pt.U, Pt.locs, Pt.cells, Pt.slots] at X623 l623 y623 z623 st623 hQ623
          subst l623 y623 z623
          obtain ⟨y623, u623, rfl, Nq623, Kq623, Eq623, Fq623, hu623⟩ := hQ623
          obtain rfl : u623 = (.ref P1) := hu623.elim (fun q => absurd q.2 hcq585) (fun q => q.elim (fun q => q.1) (fun q => absurd hcq619 q.2.2))
          have N624 := Fr.app N620 Nq623
          have R625 := R605.trans (CHr.keep Kq623 sf0 R605.1)
          have sf626 := Safe.keep Kq623 sf0 R605.1 sf606
          have sf627 := Safe.keep Kq623 sf0 R605.1 sf608
          have sf628 := Safe.keep Kq623 sf0 R605.1 sf609
          refine ownBy st623 ?_
          show ownG p.tables e below _ (T623.setTop (mkF m 110 #[.val (.int p1), .val (.int p2), .val (.int p3), .val (.int p4), .val (.int ((p1 &&& (2147483647 : Int32)) % (8 : Int32))), .val (.int ((p4 &&& (255 : Int32)).toUInt32.toUInt16.toUInt32.toInt32)), .val (.int ((p3 &&& (255 : Int32)).toUInt32.toUInt16.toUInt32.toInt32)), .val (.int ((p2 &&& (2147483647 : Int32)) % (12 : Int32))), .val (.ref x331), .val (.ref b455), .val (.ref P1), .unset, .unset] [(.ref y623)]))
          refine ownBy (A := T623.setTop (mkF m 122 #[.val (.int p1), .val (.int p2), .val (.int p3), .val (.int p4), .val (.int ((p1 &&& (2147483647 : Int32)) % (8 : Int32))), .val (.int ((p4 &&& (255 : Int32)).toUInt32.toUInt16.toUInt32.toInt32)), .val (.int ((p3 &&& (255 : Int32)).toUInt32.toUInt16.toUInt32.toInt32)), .val (.int ((p2 &&& (2147483647 : Int32)) % (12 : Int32))), .val (.ref x331), .val (.ref b455), .val (.ref P1), .val (.ref y623), .unset] [.null, (.ref y623)])) (fun t kt => ?_) ?_
          · show Steps p.tables e below (T623.setTop (mkF m 110 #[.val (.int p1), .val (.int p2), .val (.int p3), .val (.int p4), .val (.int ((p1 &&& (2147483647 : Int32)) % (8 : Int32))), .val (.int ((p4 &&& (255 : Int32)).toUInt32.toUInt16.toUInt32.toInt32)), .val (.int ((p3 &&& (255 : Int32)).toUInt32.toUInt16.toUInt32.toInt32)), .val (.int ((p2 &&& (2147483647 : Int32)) % (12 : Int32))), .val (.ref x331), .val (.ref b455), .val (.ref P1), .unset, .unset] [(.ref y623)])) t
            refine XS.astore X623.here hx rfl (hb hby at_110) rfl rfl (l' := #[.val (.int p1), .val (.int p2), .val (.int p3), .val (.int p4), .val (.int ((p1 &&& (2147483647 : Int32)) % (8 : Int32))), .val (.int ((p4 &&& (255 : Int32)).toUInt32.toUInt16.toUInt32.toInt32)), .val (.int ((p3 &&& (255 : Int32)).toUInt32.toUInt16.toUInt32.toInt32)), .val (.int ((p2 &&& (2147483647 : Int32)) % (12 : Int32))), .val (.ref x331), .val (.ref b455), .val (.ref P1), .val (.ref y623), .unset]) rfl ?_
            refine XS.aload X623.here hx rfl (hb hby at_112) rfl rfl ?_
            show Steps p.tables e below (T623.setTop (mkF m 114 #[.val (.int p1), .val (.int p2), .val (.int p3), .val (.int p4), .val (.int ((p1 &&& (2147483647 : Int32)) % (8 : Int32))), .val (.int ((p4 &&& (255 : Int32)).toUInt32.toUInt16.toUInt32.toInt32)), .val (.int ((p3 &&& (255 : Int32)).toUInt32.toUInt16.toUInt32.toInt32)), .val (.int ((p2 &&& (2147483647 : Int32)) % (12 : Int32))), .val (.ref x331), .val (.ref b455), .val (.ref P1), .val (.ref y623), .unset] [(.ref y623)])) t
            refine XS.ifnonnullYes X623.here hx rfl (pc0 := 114) (pc' := 119) rfl (hb hby at_114) rfl (by decide) (by decide) ?_
            refine XS.aload X623.here hx rfl (hb hby at_119) rfl rfl ?_
            show Steps p.tables e below (T623.setTop (mkF m 121 #[.val (.int p1), .val (.int p2), .val (.int p3), .val (.int p4), .val (.int ((p1 &&& (2147483647 : Int32)) % (8 : Int32))), .val (.int ((p4 &&& (255 : Int32)).toUInt32.toUInt16.toUInt32.toInt32)), .val (.int ((p3 &&& (255 : Int32)).toUInt32.toUInt16.toUInt32.toInt32)), .val (.int ((p2 &&& (2147483647 : Int32)) % (12 : Int32))), .val (.ref x331), .val (.ref b455), .val (.ref P1), .val (.ref y623), .unset] [(.ref y623)])) t
            refine XS.aconstNull X623.here hx rfl (hb hby at_121) ?_
            exact kt
          have f629 := (Nat.le_trans f622 Kq623.1)
          obtain ⟨cq630, kq630, q630a, q630b, q630c⟩ := isOf hZ603 rfl Eq623
          obtain ⟨vv630, _, ⟨T630, L630, k630, n630⟩, -, X630, ⟨Lc630, hQ630, l630, y630, z630⟩, st630⟩ := X623.virtualBack hx (y := (⟨"java/util/Optional", "orElse", "(Ljava/lang/Object;)Ljava/lang/Object;"⟩ : MethodName)) (z := (⟨"java/util/Optional", "orElse", "(Ljava/lang/Object;)Ljava/lang/Object;"⟩ : MethodName)) hown603 (mvT hZ603 (hw _ (List.mem_of_getElem? (i := 69) rfl))) (mvT hZ603 (hw _ (List.mem_of_getElem? (i := 70) rfl))) (notFace_of_selects (args := #[]) (mvT hZ603 (hw _ (List.mem_of_getElem? (i := 72) rfl)))) (mvT hZ603 (hw _ (List.mem_of_getElem? (i := 72) rfl))) (mvT hZ603 (hw _ (List.mem_of_getElem? (i := 71) rfl))) (by decide) (backOf (W := 0) (c_orer l Z a0 hw [] y623 P1 T623.heap n0 f629 Fq623) hZ603 (hw _ (List.mem_of_getElem? (i := 73) rfl)) (hw _ (List.mem_of_getElem? (i := 46) rfl)) (by decide) (by decide)) q630a q630c (g := (mkF m 122 #[.val (.int p1), .val (.int p2), .val (.int p3), .val (.int p4), .val (.int ((p1 &&& (2147483647 : Int32)) % (8 : Int32))), .val (.int ((p4 &&& (255 : Int32)).toUInt32.toUInt16.toUInt32.toInt32)), .val (.int ((p3 &&& (255 : Int32)).toUInt32.toUInt16.toUInt32.toInt32)), .val (.int ((p2 &&& (2147483647 : Int32)) % (12 : Int32))), .val (.ref x331), .val (.ref b455), .val (.ref P1), .val (.ref y623), .unset] [.null, (.ref y623)])) rfl (by rw [hml]; rfl) (Steps.refl _) (argsL := [.null]) (rest := []) (lenOf pd_255 rfl) rfl (by show 2 * 0 + _ ≤ _; exact Nat.le_of_eq rfl) (hb hby at_122) (fun _ _ => ⟨rfl, rfl, (by decide : 9 + 0 ≤ _), (by decide : 97 + 0 ≤ _)⟩)
          dsimp only [Pt.U, Pt.locs, Pt.cells, Pt.slots] at X630 l630 y630 z630 st630 hQ630
          subst l630 y630 z630
          obtain ⟨rfl, Nq630, Eq630⟩ := hQ630
          have N631 := Fr.app N624 Nq630
          refine ownSt st630 ?_
          show ownG p.tables e below _ (T630.setTop (mkF m 125 #[.val (.int p1), .val (.int p2), .val (.int p3), .val (.int p4), .val (.int ((p1 &&& (2147483647 : Int32)) % (8 : Int32))), .val (.int ((p4 &&& (255 : Int32)).toUInt32.toUInt16.toUInt32.toInt32)), .val (.int ((p3 &&& (255 : Int32)).toUInt32.toUInt16.toUInt32.toInt32)), .val (.int ((p2 &&& (2147483647 : Int32)) % (12 : Int32))), .val (.ref x331), .val (.ref b455), .val (.ref P1), .val (.ref y623), .unset] [(.ref P1)]))
          have f632 := (f618.keep Kq623 all0)
          have f633 := EP1.ext f632.2
          obtain ⟨T634, X634, e634, st634⟩ := castY X630 hx hZ603 hown603 (hw _ (List.mem_of_getElem? (i := 101) rfl)) Eq630 (Ins.self f633) (g := (mkF m 125 #[.val (.int p1), .val (.int p2), .val (.int p3), .val (.int p4), .val (.int ((p1 &&& (2147483647 : Int32)) % (8 : Int32))), .val (.int ((p4 &&& (255 : Int32)).toUInt32.toUInt16.toUInt32.toInt32)), .val (.int ((p3 &&& (255 : Int32)).toUInt32.toUInt16.toUInt32.toInt32)), .val (.int ((p2 &&& (2147483647 : Int32)) % (12 : Int32))), .val (.ref x331), .val (.ref b455), .val (.ref P1), .val (.ref y623), .unset] [(.ref P1)])) rfl rfl (hb hby at_125)
          refine ownBy st634 ?_
          show ownG p.tables e below _ (T634.setTop (mkF m 128 #[.val (.int p1), .val (.int p2), .val (.int p3), .val (.int p4), .val (.int ((p1 &&& (2147483647 : Int32)) % (8 : Int32))), .val (.int ((p4 &&& (255 : Int32)).toUInt32.toUInt16.toUInt32.toInt32)), .val (.int ((p3 &&& (255 : Int32)).toUInt32.toUInt16.toUInt32.toInt32)), .val (.int ((p2 &&& (2147483647 : Int32)) % (12 : Int32))), .val (.ref x331), .val (.ref b455), .val (.ref P1), .val (.ref y623), .unset] [(.ref P1)]))
          refine ownBy (A := T634.setTop (mkF m 142 #[.val (.int p1), .val (.int p2), .val (.int p3), .val (.int p4), .val (.int ((p1 &&& (2147483647 : Int32)) % (8 : Int32))), .val (.int ((p4 &&& (255 : Int32)).toUInt32.toUInt16.toUInt32.toInt32)), .val (.int ((p3 &&& (255 : Int32)).toUInt32.toUInt16.toUInt32.toInt32)), .val (.int ((p2 &&& (2147483647 : Int32)) % (12 : Int32))), .val (.ref x331), .val (.ref b455), .val (.ref P1), .val (.ref y623), .val (.ref P1)] [(.int (1 : Int32))])) (fun t kt => ?_) ?_
          · show Steps p.tables e below (T634.setTop (mkF m 128 #[.val (.int p1), .val (.int p2), .val (.int p3), .val (.int p4), .val (.int ((p1 &&& (2147483647 : Int32)) % (8 : Int32))), .val (.int ((p4 &&& (255 : Int32)).toUInt32.toUInt16.toUInt32.toInt32)), .val (.int ((p3 &&& (255 : Int32)).toUInt32.toUInt16.toUInt32.toInt32)), .val (.int ((p2 &&& (2147483647 : Int32)) % (12 : Int32))), .val (.ref x331), .val (.ref b455), .val (.ref P1), .val (.ref y623), .unset] [(.ref P1)])) t
            refine XS.astore X634.here hx rfl (hb hby at_128) rfl rfl (l' := #[.val (.int p1), .val (.int p2), .val (.int p3), .val (.int p4), .val (.int ((p1 &&& (2147483647 : Int32)) % (8 : Int32))), .val (.int ((p4 &&& (255 : Int32)).toUInt32.toUInt16.toUInt32.toInt32)), .val (.int ((p3 &&& (255 : Int32)).toUInt32.toUInt16.toUInt32.toInt32)), .val (.int ((p2 &&& (2147483647 : Int32)) % (12 : Int32))), .val (.ref x331), .val (.ref b455), .val (.ref P1), .val (.ref y623), .val (.ref P1)]) rfl ?_
            refine XS.aload X634.here hx rfl (hb hby at_130) rfl rfl ?_
            show Steps p.tables e below (T634.setTop (mkF m 132 #[.val (.int p1), .val (.int p2), .val (.int p3), .val (.int p4), .val (.int ((p1 &&& (2147483647 : Int32)) % (8 : Int32))), .val (.int ((p4 &&& (255 : Int32)).toUInt32.toUInt16.toUInt32.toInt32)), .val (.int ((p3 &&& (255 : Int32)).toUInt32.toUInt16.toUInt32.toInt32)), .val (.int ((p2 &&& (2147483647 : Int32)) % (12 : Int32))), .val (.ref x331), .val (.ref b455), .val (.ref P1), .val (.ref y623), .val (.ref P1)] [(.ref P1)])) t
            refine XS.aload X634.here hx rfl (hb hby at_132) rfl rfl ?_
            refine Jvm.RoadKit.acmp (g := (mkF m 134 #[.val (.int p1), .val (.int p2), .val (.int p3), .val (.int p4), .val (.int ((p1 &&& (2147483647 : Int32)) % (8 : Int32))), .val (.int ((p4 &&& (255 : Int32)).toUInt32.toUInt16.toUInt32.toInt32)), .val (.int ((p3 &&& (255 : Int32)).toUInt32.toUInt16.toUInt32.toInt32)), .val (.int ((p2 &&& (2147483647 : Int32)) % (12 : Int32))), .val (.ref x331), .val (.ref b455), .val (.ref P1), .val (.ref y623), .val (.ref P1)] [(.ref P1), (.ref P1)])) X634 hx rfl rfl rfl (pc0 := 134) (pc' := 137) (same := true) rfl (hb hby at_134) rfl (decide_eq_true rfl) (by decide) (by decide) ?_
            show Steps p.tables e below (T634.setTop (mkF m 137 #[.val (.int p1), .val (.int p2), .val (.int p3), .val (.int p4), .val (.int ((p1 &&& (2147483647 : Int32)) % (8 : Int32))), .val (.int ((p4 &&& (255 : Int32)).toUInt32.toUInt16.toUInt32.toInt32)), .val (.int ((p3 &&& (255 : Int32)).toUInt32.toUInt16.toUInt32.toInt32)), .val (.int ((p2 &&& (2147483647 : Int32)) % (12 : Int32))), .val (.ref x331), .val (.ref b455), .val (.ref P1), .val (.ref y623), .val (.ref P1)] [])) t
            refine XS.iconst X634.here hx rfl (hb hby at_137) ?_
            refine XS.goto X634.here hx rfl (pc0 := 138) (pc' := 142) rfl (hb hby at_138) (by decide) (by decide) ?_
            exact kt
          refine ownRetH X634 hS603 (by rw [e634]; exact (Nat.le_trans hk603 Kq623.1)) Bd.notSynchronized (v := some (.int (nar .boolean (1 : Int32)))) (fun h => by rw [Bd.returns] at h; cases h) ?_ (R625.trans ((by rw [e634]; exact CHv.at X634 hZ603 hEL R625.1))) (Nat.le_of_ble_eq_true rfl) (Nat.le_of_ble_eq_true rfl) (fun fs hr => retN X634 hx (t := .boolean) Bd.returns (by simp) (hb hby at_142) hr)
          show (Q_law Z p1 p2 p3 p4 A kA EM P0 P1 W0 W1 B0 B1 kb0 kb1 G1 h0 n0) (some (.int (nar .boolean (1 : Int32)))) T634.heap _
          rw [e634]
          exact ⟨rfl, N631⟩
        · skip
          have N636 := Fr.app N602 Nq619
          refine ownSt st619 ?_
          show ownG p.tables e below _ (T619.setTop (mkF m 97 #[.val (.int p1), .val (.int p2), .val (.int p3), .val (.int p4), .val (.int ((p1 &&& (2147483647 : Int32)) % (8 : Int32))), .val (.int ((p4 &&& (255 : Int32)).toUInt32.toUInt16.toUInt32.toInt32)), .val (.int ((p3 &&& (255 : Int32)).toUInt32.toUInt16.toUInt32.toInt32)), .val (.int ((p2 &&& (2147483647 : Int32)) % (12 : Int32))), .val (.ref x331), .val (.ref b455), .val .null, .unset, .unset] [(.int (0 : Int32))]))
          refine ownBy (A := T619.setTop (mkF m 107 #[.val (.int p1), .val (.int p2), .val (.int p3), .val (.int p4), .val (.int ((p1 &&& (2147483647 : Int32)) % (8 : Int32))), .val (.int ((p4 &&& (255 : Int32)).toUInt32.toUInt16.toUInt32.toInt32)), .val (.int ((p3 &&& (255 : Int32)).toUInt32.toUInt16.toUInt32.toInt32)), .val (.int ((p2 &&& (2147483647 : Int32)) % (12 : Int32))), .val (.ref x331), .val (.ref b455), .val .null, .unset, .unset] [(.ref b455)])) (fun t kt => ?_) ?_
          · show Steps p.tables e below (T619.setTop (mkF m 97 #[.val (.int p1), .val (.int p2), .val (.int p3), .val (.int p4), .val (.int ((p1 &&& (2147483647 : Int32)) % (8 : Int32))), .val (.int ((p4 &&& (255 : Int32)).toUInt32.toUInt16.toUInt32.toInt32)), .val (.int ((p3 &&& (255 : Int32)).toUInt32.toUInt16.toUInt32.toInt32)), .val (.int ((p2 &&& (2147483647 : Int32)) % (12 : Int32))), .val (.ref x331), .val (.ref b455), .val .null, .unset, .unset] [(.int (0 : Int32))])) t
            refine XS.ifYes X619.here hx rfl (pc0 := 97) (pc' := 105) rfl (hb hby at_97) rfl ((if0 _ _).trans (teq ((by decide) : (0 : Int32) = (0 : Int32))).1) (by decide) (by decide) ?_
            refine XS.aload X619.here hx rfl (hb hby at_105) rfl rfl ?_
            exact kt
          have f637 := (Nat.le_trans (Nat.le_trans (Nat.le_trans f551 Kq554.1) E567.1) E603.1)
          obtain ⟨vv638, _, ⟨T638, L638, k638, n638⟩, -, X638, ⟨Lc638, hQ638, l638, y638, z638⟩, st638⟩ := Jvm.LawKit.callS X619 hx (y := (⟨"com/example/vestline/vestline/TerminationReason", "named", "(Ljava/lang/String;)Ljava/util/Optional;"⟩ : MethodName)) hown603 (mvT hZ603 (hw _ (List.mem_of_getElem? (i := 40) rfl))) (mvT hZ603 (hw _ (List.mem_of_getElem? (i := 41) rfl))) (mvT hZ603 (hw _ (List.mem_of_getElem? (i := 42) rfl))) (mvT hZ603 (hw _ (List.mem_of_getElem? (i := 43) rfl))) (by decide) (backOf (W := 0) (c_named l Z a0 hw [] b455 t554 kb554 cs331 A kA EM P0 P1 W0 W1 B0 B1 kb0 kb1 G1 h603 n0 f637 f613 f614 f615 f616 hp331 hl331 SV KV EV SE EE FE SP0 EP0 FP0 EW0 FV0 FC0 KB0 SP1 EP1 FP1 EW1 FV1 FC1 KB1 O2 P5 f618) hZ603 (hw _ (List.mem_of_getElem? (i := 43) rfl)) (hw _ (List.mem_of_getElem? (i := 42) rfl)) (by decide) (by decide)) (g := (mkF m 107 #[.val (.int p1), .val (.int p2), .val (.int p3), .val (.int p4), .val (.int ((p1 &&& (2147483647 : Int32)) % (8 : Int32))), .val (.int ((p4 &&& (255 : Int32)).toUInt32.toUInt16.toUInt32.toInt32)), .val (.int ((p3 &&& (255 : Int32)).toUInt32.toUInt16.toUInt32.toInt32)), .val (.int ((p2 &&& (2147483647 : Int32)) % (12 : Int32))), .val (.ref x331), .val (.ref b455), .val .null, .unset, .unset] [(.ref b455)])) rfl (by rw [hml]; rfl) (argsL := [(.ref b455)]) (rest := []) (lenOf pd_396 rfl) rfl (by show 2 * 0 + _ ≤ _; exact Nat.le_of_eq rfl) (hb hby at_107) (fun _ _ => ⟨rfl, Eq619, (by decide : 7 + 2 ≤ _), (by decide : 94 + 3 ≤ _)⟩)
          dsimp only [Pt.U, Pt.locs, Pt.cells, Pt.slots] at X638 l638 y638 z638 st638 hQ638
          subst l638 y638 z638
          obtain ⟨y638, u638, rfl, Nq638, Kq638, Eq638, Fq638, hu638⟩ := hQ638
          obtain rfl : u638 = .null := hu638.elim (fun q => absurd q.2 hcq585) (fun q => q.elim (fun q => absurd q.2.2 hcq619) (fun q => q.1))
          have N639 := Fr.app N636 Nq638
          have R640 := R605.trans (CHr.keep Kq638 sf0 R605.1)
          have sf641 := Safe.keep Kq638 sf0 R605.1 sf606
          have sf642 := Safe.keep Kq638 sf0 R605.1 sf608
          have sf643 := Safe.keep Kq638 sf0 R605.1 sf609
          refine ownBy st638 ?_
          show ownG p.tables e below _ (T638.setTop (mkF m 110 #[.val (.int p1), .val (.int p2), .val (.int p3), .val (.int p4), .val (.int ((p1 &&& (2147483647 : Int32)) % (8 : Int32))), .val (.int ((p4 &&& (255 : Int32)).toUInt32.toUInt16.toUInt32.toInt32)), .val (.int ((p3 &&& (255 : Int32)).toUInt32.toUInt16.toUInt32.toInt32)), .val (.int ((p2 &&& (2147483647 : Int32)) % (12 : Int32))), .val (.ref x331), .val (.ref b455), .val .null, .unset, .unset] [(.ref y638)]))
          refine ownBy (A := T638.setTop (mkF m 122 #[.val (.int p1), .val (.int p2), .val (.int p3), .val (.int p4), .val (.int ((p1 &&& (2147483647 : Int32)) % (8 : Int32))), .val (.int ((p4 &&& (255 : Int32)).toUInt32.toUInt16.toUInt32.toInt32)), .val (.int ((p3 &&& (255 : Int32)).toUInt32.toUInt16.toUInt32.toInt32)), .val (.int ((p2 &&& (2147483647 : Int32)) % (12 : Int32))), .val (.ref x331), .val (.ref b455), .val .null, .val (.ref y638), .unset] [.null, (.ref y638)])) (fun t kt => ?_) ?_
          · show Steps p.tables e below (T638.setTop (mkF m 110 #[.val (.int p1), .val (.int p2), .val (.int p3), .val (.int p4), .val (.int ((p1 &&& (2147483647 : Int32)) % (8 : Int32))), .val (.int ((p4 &&& (255 : Int32)).toUInt32.toUInt16.toUInt32.toInt32)), .val (.int ((p3 &&& (255 : Int32)).toUInt32.toUInt16.toUInt32.toInt32)), .val (.int ((p2 &&& (2147483647 : Int32)) % (12 : Int32))), .val (.ref x331), .val (.ref b455), .val .null, .unset, .unset] [(.ref y638)])) t
            refine XS.astore X638.here hx rfl (hb hby at_110) rfl rfl (l' := #[.val (.int p1), .val (.int p2), .val (.int p3), .val (.int p4), .val (.int ((p1 &&& (2147483647 : Int32)) % (8 : Int32))), .val (.int ((p4 &&& (255 : Int32)).toUInt32.toUInt16.toUInt32.toInt32)), .val (.int ((p3 &&& (255 : Int32)).toUInt32.toUInt16.toUInt32.toInt32)), .val (.int ((p2 &&& (2147483647 : Int32)) % (12 : Int32))), .val (.ref x331), .val (.ref b455), .val .null, .val (.ref y638), .unset]) rfl ?_
            refine XS.aload X638.here hx rfl (hb hby at_112) rfl rfl ?_
            show Steps p.tables e below (T638.setTop (mkF m 114 #[.val (.int p1), .val (.int p2), .val (.int p3), .val (.int p4), .val (.int ((p1 &&& (2147483647 : Int32)) % (8 : Int32))), .val (.int ((p4 &&& (255 : Int32)).toUInt32.toUInt16.toUInt32.toInt32)), .val (.int ((p3 &&& (255 : Int32)).toUInt32.toUInt16.toUInt32.toInt32)), .val (.int ((p2 &&& (2147483647 : Int32)) % (12 : Int32))), .val (.ref x331), .val (.ref b455), .val .null, .val (.ref y638), .unset] [(.ref y638)])) t
            refine XS.ifnonnullYes X638.here hx rfl (pc0 := 114) (pc' := 119) rfl (hb hby at_114) rfl (by decide) (by decide) ?_
            refine XS.aload X638.here hx rfl (hb hby at_119) rfl rfl ?_
            show Steps p.tables e below (T638.setTop (mkF m 121 #[.val (.int p1), .val (.int p2), .val (.int p3), .val (.int p4), .val (.int ((p1 &&& (2147483647 : Int32)) % (8 : Int32))), .val (.int ((p4 &&& (255 : Int32)).toUInt32.toUInt16.toUInt32.toInt32)), .val (.int ((p3 &&& (255 : Int32)).toUInt32.toUInt16.toUInt32.toInt32)), .val (.int ((p2 &&& (2147483647 : Int32)) % (12 : Int32))), .val (.ref x331), .val (.ref b455), .val .null, .val (.ref y638), .unset] [(.ref y638)])) t
            refine XS.aconstNull X638.here hx rfl (hb hby at_121) ?_
            exact kt
          have f644 := (Nat.le_trans f637 Kq638.1)
          obtain ⟨cq645, kq645, q645a, q645b, q645c⟩ := isOf hZ603 rfl Eq638
          obtain ⟨vv645, _, ⟨T645, L645, k645, n645⟩, -, X645, ⟨Lc645, hQ645, l645, y645, z645⟩, st645⟩ := X638.virtualBack hx (y := (⟨"java/util/Optional", "orElse", "(Ljava/lang/Object;)Ljava/lang/Object;"⟩ : MethodName)) (z := (⟨"java/util/Optional", "orElse", "(Ljava/lang/Object;)Ljava/lang/Object;"⟩ : MethodName)) hown603 (mvT hZ603 (hw _ (List.mem_of_getElem? (i := 69) rfl))) (mvT hZ603 (hw _ (List.mem_of_getElem? (i := 70) rfl))) (notFace_of_selects (args := #[]) (mvT hZ603 (hw _ (List.mem_of_getElem? (i := 72) rfl)))) (mvT hZ603 (hw _ (List.mem_of_getElem? (i := 72) rfl))) (mvT hZ603 (hw _ (List.mem_of_getElem? (i := 71) rfl))) (by decide) (backOf (W := 0) (c_oren l Z a0 hw [] y638 T638.heap n0 f644 Fq638) hZ603 (hw _ (List.mem_of_getElem? (i := 73) rfl)) (hw _ (List.mem_of_getElem? (i := 46) rfl)) (by decide) (by decide)) q645a q645c (g := (mkF m 122 #[.val (.int p1), .val (.int p2), .val (.int p3), .val (.int p4), .val (.int ((p1 &&& (2147483647 : Int32)) % (8 : Int32))), .val (.int ((p4 &&& (255 : Int32)).toUInt32.toUInt16.toUInt32.toInt32)), .val (.int ((p3 &&& (255 : Int32)).toUInt32.toUInt16.toUInt32.toInt32)), .val (.int ((p2 &&& (2147483647 : Int32)) % (12 : Int32))), .val (.ref x331), .val (.ref b455), .val .null, .val (.ref y638), .unset] [.null, (.ref y638)])) rfl (by rw [hml]; rfl) (Steps.refl _) (argsL := [.null]) (rest := []) (lenOf pd_255 rfl) rfl (by show 2 * 0 + _ ≤ _; exact Nat.le_of_eq rfl) (hb hby at_122) (fun _ _ => ⟨rfl, rfl, (by decide : 9 + 0 ≤ _), (by decide : 97 + 0 ≤ _)⟩)
          dsimp only [Pt.U, Pt.locs, Pt.cells, Pt.slots] at X645 l645 y645 z645 st645 hQ645
          subst l645 y645 z645
          obtain ⟨rfl, Nq645, Eq645⟩ := hQ645
          have N646 := Fr.app N639 Nq645
          refine ownSt st645 ?_
          show ownG p.tables e below _ (T645.setTop (mkF m 125 #[.val (.int p1), .val (.int p2), .val (.int p3), .val (.int p4), .val (.int ((p1 &&& (2147483647 : Int32)) % (8 : Int32))), .val (.int ((p4 &&& (255 : Int32)).toUInt32.toUInt16.toUInt32.toInt32)), .val (.int ((p3 &&& (255 : Int32)).toUInt32.toUInt16.toUInt32.toInt32)), .val (.int ((p2 &&& (2147483647 : Int32)) % (12 : Int32))), .val (.ref x331), .val (.ref b455), .val .null, .val (.ref y638), .unset] [.null]))
          refine ownBy (X645.checkcastNull hx (g := (mkF m 125 #[.val (.int p1), .val (.int p2), .val (.int p3), .val (.int p4), .val (.int ((p1 &&& (2147483647 : Int32)) % (8 : Int32))), .val (.int ((p4 &&& (255 : Int32)).toUInt32.toUInt16.toUInt32.toInt32)), .val (.int ((p3 &&& (255 : Int32)).toUInt32.toUInt16.toUInt32.toInt32)), .val (.int ((p2 &&& (2147483647 : Int32)) % (12 : Int32))), .val (.ref x331), .val (.ref b455), .val .null, .val (.ref y638), .unset] [.null])) rfl rfl (hb hby at_125)) ?_
          show ownG p.tables e below _ (T645.setTop (mkF m 128 #[.val (.int p1), .val (.int p2), .val (.int p3), .val (.int p4), .val (.int ((p1 &&& (2147483647 : Int32)) % (8 : Int32))), .val (.int ((p4 &&& (255 : Int32)).toUInt32.toUInt16.toUInt32.toInt32)), .val (.int ((p3 &&& (255 : Int32)).toUInt32.toUInt16.toUInt32.toInt32)), .val (.int ((p2 &&& (2147483647 : Int32)) % (12 : Int32))), .val (.ref x331), .val (.ref b455), .val .null, .val (.ref y638), .unset] [.null]))
          refine ownBy (A := T645.setTop (mkF m 142 #[.val (.int p1), .val (.int p2), .val (.int p3), .val (.int p4), .val (.int ((p1 &&& (2147483647 : Int32)) % (8 : Int32))), .val (.int ((p4 &&& (255 : Int32)).toUInt32.toUInt16.toUInt32.toInt32)), .val (.int ((p3 &&& (255 : Int32)).toUInt32.toUInt16.toUInt32.toInt32)), .val (.int ((p2 &&& (2147483647 : Int32)) % (12 : Int32))), .val (.ref x331), .val (.ref b455), .val .null, .val (.ref y638), .val .null] [(.int (1 : Int32))])) (fun t kt => ?_) ?_
          · show Steps p.tables e below (T645.setTop (mkF m 128 #[.val (.int p1), .val (.int p2), .val (.int p3), .val (.int p4), .val (.int ((p1 &&& (2147483647 : Int32)) % (8 : Int32))), .val (.int ((p4 &&& (255 : Int32)).toUInt32.toUInt16.toUInt32.toInt32)), .val (.int ((p3 &&& (255 : Int32)).toUInt32.toUInt16.toUInt32.toInt32)), .val (.int ((p2 &&& (2147483647 : Int32)) % (12 : Int32))), .val (.ref x331), .val (.ref b455), .val .null, .val (.ref y638), .unset] [.null])) t
            refine XS.astore X645.here hx rfl (hb hby at_128) rfl rfl (l' := #[.val (.int p1), .val (.int p2), .val (.int p3), .val (.int p4), .val (.int ((p1 &&& (2147483647 : Int32)) % (8 : Int32))), .val (.int ((p4 &&& (255 : Int32)).toUInt32.toUInt16.toUInt32.toInt32)), .val (.int ((p3 &&& (255 : Int32)).toUInt32.toUInt16.toUInt32.toInt32)), .val (.int ((p2 &&& (2147483647 : Int32)) % (12 : Int32))), .val (.ref x331), .val (.ref b455), .val .null, .val (.ref y638), .val .null]) rfl ?_
            refine XS.aload X645.here hx rfl (hb hby at_130) rfl rfl ?_
            show Steps p.tables e below (T645.setTop (mkF m 132 #[.val (.int p1), .val (.int p2), .val (.int p3), .val (.int p4), .val (.int ((p1 &&& (2147483647 : Int32)) % (8 : Int32))), .val (.int ((p4 &&& (255 : Int32)).toUInt32.toUInt16.toUInt32.toInt32)), .val (.int ((p3 &&& (255 : Int32)).toUInt32.toUInt16.toUInt32.toInt32)), .val (.int ((p2 &&& (2147483647 : Int32)) % (12 : Int32))), .val (.ref x331), .val (.ref b455), .val .null, .val (.ref y638), .val .null] [.null])) t
            refine XS.aload X645.here hx rfl (hb hby at_132) rfl rfl ?_
            refine Jvm.RoadKit.acmp (g := (mkF m 134 #[.val (.int p1), .val (.int p2), .val (.int p3), .val (.int p4), .val (.int ((p1 &&& (2147483647 : Int32)) % (8 : Int32))), .val (.int ((p4 &&& (255 : Int32)).toUInt32.toUInt16.toUInt32.toInt32)), .val (.int ((p3 &&& (255 : Int32)).toUInt32.toUInt16.toUInt32.toInt32)), .val (.int ((p2 &&& (2147483647 : Int32)) % (12 : Int32))), .val (.ref x331), .val (.ref b455), .val .null, .val (.ref y638), .val .null] [.null, .null])) X645 hx rfl rfl rfl (pc0 := 134) (pc' := 137) (same := true) rfl (hb hby at_134) rfl (decide_eq_true rfl) (by decide) (by decide) ?_
            show Steps p.tables e below (T645.setTop (mkF m 137 #[.val (.int p1), .val (.int p2), .val (.int p3), .val (.int p4), .val (.int ((p1 &&& (2147483647 : Int32)) % (8 : Int32))), .val (.int ((p4 &&& (255 : Int32)).toUInt32.toUInt16.toUInt32.toInt32)), .val (.int ((p3 &&& (255 : Int32)).toUInt32.toUInt16.toUInt32.toInt32)), .val (.int ((p2 &&& (2147483647 : Int32)) % (12 : Int32))), .val (.ref x331), .val (.ref b455), .val .null, .val (.ref y638), .val .null] [])) t
            refine XS.iconst X645.here hx rfl (hb hby at_137) ?_
            refine XS.goto X645.here hx rfl (pc0 := 138) (pc' := 142) rfl (hb hby at_138) (by decide) (by decide) ?_
            exact kt
          refine ownRetH X645 hS603 (by rw [Eq645]; exact (Nat.le_trans hk603 Kq638.1)) Bd.notSynchronized (v := some (.int (nar .boolean (1 : Int32)))) (fun h => by rw [Bd.returns] at h; cases h) ?_ (R640.trans ((by rw [Eq645]; exact CHv.at X645 hZ603 hEL R640.1))) (Nat.le_of_ble_eq_true rfl) (Nat.le_of_ble_eq_true rfl) (fun fs hr => retN X645 hx (t := .boolean) Bd.returns (by simp) (hb hby at_142) hr)
          show (Q_law Z p1 p2 p3 p4 A kA EM P0 P1 W0 W1 B0 B1 kb0 kb1 G1 h0 n0) (some (.int (nar .boolean (1 : Int32)))) T645.heap _
          rw [Eq645]
          exact ⟨rfl, N646⟩
set_option maxRecDepth 65536 in
set_option maxHeartbeats 40000000 in
theorem comes_1 {Post : Tables → Env → Array Value → State → Outcome → State → Prop} (hpost : ∀ tb e args s v u, (limb_1_1.after args s (.returned v) u = true ∧ limb_1_2.after args s (.returned v) u = true ∧ True) → ReturnedEndW s (.returned v) u (Jvm.fieldLocs frame_1_writes args s ++ Jvm.arrayLocs frame_1_arrays args s ++ Jvm.staticLocs frame_1_statics s) 24 3264 → Post tb e args s (.returned v) u) :
    ArmFor flags0 classFile x code maxLocals ret World_1 tables_1 room_1 Calls_1 rest_1 Pre_1 Post := by
  intro l hfl _ _ p e ha hc hk s m args below hf hA hF happ hP
  obtain ⟨hcalls, hrest, hpre⟩ := hP
  obtain ⟨-, -, -, hnamed, -, -, -, hat⟩ := (Spec.applies_iff hf).mp happ
  obtain ⟨hg, hn⟩ := and_e (Cond.before_iff.mp (show (Jvm.Cond.and given_1 narrow_1).before args s = true from hpre))
  obtain ⟨g697, g698⟩ := and_e hg
  obtain ⟨g699, g700⟩ := and_e g698
  obtain ⟨g701, g702⟩ := and_e g700
  obtain ⟨g703, g704⟩ := and_e g702
  obtain ⟨w0, w1, w2, w3, rfl⟩ : ∃ w0 w1 w2 w3 : Value, args = #[w0, w1, w2, w3] := by
    have hs : args.size = 4 := by simpa [Cond.value, given_1] using g697
    obtain ⟨L⟩ := args
    match L, hs with
    | [w0, w1, w2, w3], _ => exact ⟨w0, w1, w2, w3, rfl⟩
  have hw := fun d (hd : d ∈ tables_1) => atoms_spec (ws := Jvm.Cond.code x code maxLocals ret :: tables_1) hat d (List.mem_cons_of_mem _ hd)
  have hfit : Fit s := fun {y c} hc i hi => by
    obtain ⟨ha, rfl⟩ := Array.getElem?_eq_some_iff.mp hc
    have q := List.all_eq_true.mp ((Array.all_eq_true_iff_forall_mem.mp hF) _ (Array.getElem_mem ha)) i (List.mem_range.mpr hi)
    simpa [Array.getElem?_eq_getElem hi] using q
  obtain ⟨hsets, hown0⟩ := atoms_of _ (rest_1_c_eq ▸ (show rest_1_c.before _ s = true from hrest))
  have hr0 := Cond.before_iff.mp hown0
  obtain ⟨i0, ei0⟩ := is_v g699
  obtain rfl : w0 = (.int i0) := Option.some.inj ei0
  obtain ⟨i1, ei1⟩ := is_v g701
  obtain rfl : w1 = (.int i1) := Option.some.inj ei1
  obtain ⟨i2, ei2⟩ := is_v g703
  obtain rfl : w2 = (.int i2) := Option.some.inj ei2
  obtain ⟨i3, ei3⟩ := is_v g704
  obtain rfl : w3 = (.int i3) := Option.some.inj ei3
  obtain ⟨G1, eG1⟩ := is_v (Cond.before_iff.mp (hsets _ (List.mem_of_getElem? (i := 1) rfl)))
  have O2 := Sta.start eG1 (Or.inl (hsets _ (List.mem_of_getElem? (i := 0) rfl)))
  have P5 : ¬ (G1 = (0 : Int32)) := own_nz eG1 (Cond.before_iff.mp (hsets _ (List.mem_of_getElem? (i := 2) rfl)))
  have hCH : CHv s ownEL s.vm s.heap := CHv.start (own_EW hw) (fun q hq => hcalls.1 q hq) (hsets _ (List.mem_of_getElem? (i := 2) rfl)) (hw _ (List.mem_of_getElem? (i := 20) rfl)) (hw _ (List.mem_of_getElem? (i := 7) rfl))
  obtain ⟨nc0, nr0⟩ := and_e hn
  obtain ⟨nc1, nr1⟩ := and_e nr0
  obtain ⟨nc2, nr2⟩ := and_e nr1
  obtain ⟨nc3, nr3⟩ := and_e nr2
  obtain ⟨nc4, nr4⟩ := and_e nr3
  obtain ⟨nc5, nr5⟩ := and_e nr4
  obtain ⟨nc6, nr6⟩ := and_e nr5
  obtain ⟨nc7, nr7⟩ := and_e nr6
  obtain ⟨nc8, nr8⟩ := and_e nr7
  obtain ⟨nc9, nr9⟩ := and_e nr8
  obtain ⟨nc10, nr10⟩ := and_e nr9
  obtain ⟨nc11, nr11⟩ := and_e nr10
  obtain ⟨nc12, nr12⟩ := and_e nr11
  obtain ⟨nc13, nr13⟩ := and_e nr12
  obtain ⟨nc14, nr14⟩ := and_e nr13
  obtain ⟨nc15, nr15⟩ := and_e nr14
  obtain ⟨nc16, nr16⟩ := and_e nr15
  obtain ⟨nc17, nr17⟩ := and_e nr16
  obtain ⟨nc18, nr18⟩ := and_e nr17
  obtain ⟨nc19, nr19⟩ := and_e nr18
  obtain ⟨nc20, nr20⟩ := and_e nr19
  obtain ⟨nc21, nr21⟩ := and_e nr20
  obtain ⟨nc22, nr22⟩ := and_e nr21
  obtain ⟨nc23, nr23⟩ := and_e nr22
  obtain ⟨nc24, nr24⟩ := and_e nr23
  obtain ⟨nc25, nr25⟩ := and_e nr24
  obtain ⟨nc26, nr26⟩ := and_e nr25
  obtain ⟨nc27, nr27⟩ := and_e nr26
  obtain ⟨nc28, nr28⟩ := and_e nr27
  obtain ⟨o648, eo648⟩ := exa_v nc1
  have S649 := Sta.start eo648 (Or.inr ⟨(hw _ (List.mem_of_getElem? (i := 42) rfl)), (hw _ (List.mem_of_getElem? (i := 53) rfl))⟩)
  have E650 := Exa.start eo648 nc1
  obtain ⟨o651, eo651⟩ := exa_v nc3
  have S652 := Sta.start eo651 (Or.inr ⟨(hw _ (List.mem_of_getElem? (i := 42) rfl)), (hw _ (List.mem_of_getElem? (i := 61) rfl))⟩)
  have E653 := Exa.start eo651 nc3
  obtain ⟨o654, eo654⟩ := exa_v nc5
  have S655 := Sta.start eo654 (Or.inr ⟨(hw _ (List.mem_of_getElem? (i := 42) rfl)), (hw _ (List.mem_of_getElem? (i := 62) rfl))⟩)
  have E656 := Exa.start eo654 nc5
  obtain ⟨o657, eo657⟩ := exa_v nc7
  have F658 := Fld.start ((fld_at eo651).symm.trans eo657)
  have E659 := Exa.start eo657 nc7
  obtain ⟨o660, eo660⟩ := exa_v nc11
  have F661 := Fld.start ((fld_at eo654).symm.trans eo660)
  have E662 := Exa.start eo660 nc11
  obtain ⟨c663, Ac663⟩ := Arr.start eo648 nc0
  obtain ⟨o664, eo664⟩ := arr_v nc9
  have F665 := Fld.start ((fld_at eo657).symm.trans eo664)
  obtain ⟨c666, Ac666⟩ := Arr.start eo664 nc9
  obtain ⟨o667, eo667⟩ := arr_v nc13
  have F668 := Fld.start ((fld_at eo660).symm.trans eo667)
  obtain ⟨c669, Ac669⟩ := Arr.start eo667 nc13
  obtain ⟨l670, l670'⟩ := own_len eo648 Ac663 nc2
  have m671 := own_elem eo648 Ac663 (own_eqv eo651 nc4)
  have m672 := own_elem eo648 Ac663 (own_eqv eo654 nc6)
  have e673 := eqv_i rfl nc8
  have F674 := Fld.start ((fld_at eo657).symm.trans e673)
  obtain ⟨l675, l675'⟩ := own_len eo664 Ac666 nc10
  have e676 := eqv_i rfl nc12
  have F677 := Fld.start ((fld_at eo660).symm.trans e676)
  obtain ⟨l678, l678'⟩ := own_len eo667 Ac669 nc14
  have m679 := own_elem eo664 Ac666 (eqv_i rfl nc15)
  have m680 := own_elem eo664 Ac666 (eqv_i rfl nc16)
  have m681 := own_elem eo664 Ac666 (eqv_i rfl nc17)
  have m682 := own_elem eo664 Ac666 (eqv_i rfl nc18)
  have m683 := own_elem eo664 Ac666 (eqv_i rfl nc19)
  have m684 := own_elem eo667 Ac669 (eqv_i rfl nc20)
  have m685 := own_elem eo667 Ac669 (eqv_i rfl nc21)
  have m686 := own_elem eo667 Ac669 (eqv_i rfl nc22)
  have m687 := own_elem eo667 Ac669 (eqv_i rfl nc23)
  have m688 := own_elem eo667 Ac669 (eqv_i rfl nc24)
  have m689 := own_elem eo667 Ac669 (eqv_i rfl nc25)
  have m690 := own_elem eo667 Ac669 (eqv_i rfl nc26)
  have m691 := own_elem eo667 Ac669 (eqv_i rfl nc27)
  have m692 := own_elem eo667 Ac669 (eqv_i rfl nc28)
  have m693 := own_elem eo667 Ac669 (eqv_i rfl nr28)
  have K694 : Arv s s.heap o648 c663.cls (.object "com/example/vestline/vestline/TerminationReason") (2 : Int32) [(.ref o651), (.ref o654)] .null := Arv.start hfit Ac663 l670 l670' (by decide) rfl ⟨m671, ⟨m672, trivial⟩⟩
  have K695 : Arv s s.heap o664 c666.cls .byte (5 : Int32) [(.int (100 : Int32)), (.int (101 : Int32)), (.int (97 : Int32)), (.int (116 : Int32)), (.int (104 : Int32))] (.int (0 : Int32)) := Arv.start hfit Ac666 l675 l675' (by decide) rfl ⟨m679, ⟨m680, ⟨m681, ⟨m682, ⟨m683, trivial⟩⟩⟩⟩⟩
  rw [show ([(.int (100 : Int32)), (.int (101 : Int32)), (.int (97 : Int32)), (.int (116 : Int32)), (.int (104 : Int32))] : List Value) = ((([(100 : Int32), (101 : Int32), (97 : Int32), (116 : Int32), (104 : Int32)] : List Int32).map (fun c => c.toInt8.toInt32)).map Value.int) from by decide] at K695
  have K696 : Arv s s.heap o667 c669.cls .byte (10 : Int32) [(.int (100 : Int32)), (.int (105 : Int32)), (.int (115 : Int32)), (.int (97 : Int32)), (.int (98 : Int32)), (.int (105 : Int32)), (.int (108 : Int32)), (.int (105 : Int32)), (.int (116 : Int32)), (.int (121 : Int32))] (.int (0 : Int32)) := Arv.start hfit Ac669 l678 l678' (by decide) rfl ⟨m684, ⟨m685, ⟨m686, ⟨m687, ⟨m688, ⟨m689, ⟨m690, ⟨m691, ⟨m692, ⟨m693, trivial⟩⟩⟩⟩⟩⟩⟩⟩⟩⟩
  rw [show ([(.int (100 : Int32)), (.int (105 : Int32)), (.int (115 : Int32)), (.int (97 : Int32)), (.int (98 : Int32)), (.int (105 : Int32)), (.int (108 : Int32)), (.int (105 : Int32)), (.int (116 : Int32)), (.int (121 : Int32))] : List Value) = ((([(100 : Int32), (105 : Int32), (115 : Int32), (97 : Int32), (98 : Int32), (105 : Int32), (108 : Int32), (105 : Int32), (116 : Int32), (121 : Int32)] : List Int32).map (fun c => c.toInt8.toInt32)).map Value.int) from by decide] at K696
  have xE := Cond.before_iff.mp (hsets _ (List.mem_of_getElem? (i := 11) rfl))
  obtain ⟨EM, eEM⟩ := exa_v xE
  have SE := Sta.start eEM (Or.inl (hsets _ (List.mem_of_getElem? (i := 10) rfl)))
  have EE := Exa.start eEM xE
  have FE := Fld.start ((fld_at eEM).symm.trans (null_v (Cond.before_iff.mp (hsets _ (List.mem_of_getElem? (i := 12) rfl)))))
  obtain ⟨n, o, h1, h2, h3, _, L, rfl, ⟨rfl, N⟩, -, hq⟩ := c_law l s _ hw tables_1 i0 i1 i2 i3 o648 c663.cls EM o651 o654 o657 o660 o664 o667 c666.cls c669.cls G1 s.heap s.heap.size (Nat.le_refl _) S649 K694 E650 SE EE FE S652 E653 F658 E659 F665 F674 K695 S655 E656 F661 E662 F668 F677 K696 O2 P5 (Old.start s) p e ha hc hk s m _ below hf ((Spec.applies_iff_loose hf).mp happ).1 ⟨rfl, State.Warmed39.refl s, rfl, hCH⟩ trivial
  refine ⟨n, _, h1, h2, h3, hpost _ _ _ _ _ _ ⟨Cond.after_iff.mpr rfl, Cond.after_iff.mpr (eq_i res_at (Term.int_eval (1)) rfl), trivial⟩ ⟨hq.1, hq.2.1, hq.2.2.1, (hq.2.2.2.sift fun y hy => Or.inr (N y hy)).mono (by decide) (by decide)⟩⟩
theorem main_1_1 : Claimed_1_1 := comes_1 fun _ _ _ _ _ _ h hF => ⟨h.1, hF⟩
theorem main_1_2 : Claimed_1_2 := comes_1 fun _ _ _ _ _ _ h hF => ⟨h.2.1, hF⟩
end Jvm.Pilot.@@N@@
namespace Jvm.Pilot.@@N@@
open Jvm Jvm.ClassFile Sem Op Lib Jvm.Free Jvm.Stand Jvm.Pilot.@@N@@.Jvm.D
/-! MADE BY PROGRAM (witnessworld.py) out of the Statement's table words and the real class files: 24 classes; the members and pool entries that the words name. The judged class is class 1, her method 2. -/
namespace start1
open Jvm.ClassFile
def u (s : String) : CpInfo := .utf8 (stringToUtf16 s)
/-- a pool by its gaps: so many unusable entries, then the entry; so many at the end -/
def gap : Nat → List CpInfo → List CpInfo
  | 0, r => r
  | n + 1, r => .unusable :: gap n r
def poolList (es : List (Nat × CpInfo)) (last : Nat) : List CpInfo := es.foldr (fun e r => gap e.1 (e.2 :: r)) (gap last [])
def pool (es : List (Nat × CpInfo)) (last : Nat) : Array CpInfo := ⟨poolList es last⟩
def fileOf (pool : Array CpInfo) (this : Nat) (attrs : Array Attribute := #[]) (ms : Array MethodInfo := #[]) (fl : Nat := 33) (sup : Nat := 0) (ifs : Array Nat := #[]) (fds : Array FieldInfo := #[]) : ClassFile where
  minorVersion := 0
  majorVersion := 65
  constantPool := pool
  accessFlags := fl
  thisClass := this
  superClass := sup
  interfaces := ifs
  fields := fds
  methods := ms
  attributes := attrs
def plain (name : String) (sup : Option ClassId) : Class where
  name := name
  kind := .ordinary
  loader := none
  accessFlags := 33
  super := sup
  interfaces := #[]
  cf := none
  fields := #[]
  methods := #[]
  instanceTypes := #[]
  staticTypes := #[]
  resolved := #[]
  callSites := []
  init := .initialized
  statics := none
  mirror := none

def pool0 : Array CpInfo := pool [(5, u "<init>"), (0, u "()V"), (1, .class_ 10), (1, u "java/lang/Object"), (85, u "clone"), (0, u "()Ljava/lang/Object;")] 26

def k0c0 : Code := { maxStack := 0, maxLocals := 1, code := object_method_1_code, exceptionTable := #[], attributes := #[] }
def k0m0 : Method := { name := "<init>", desc := "()V", sig := { parameters := [], returnType := none }, accessFlags := 1, code := some k0c0 }
def k0m1 : Method := { name := "clone", desc := "()Ljava/lang/Object;", sig := { parameters := [], returnType := some (.object "java/lang/Object") }, accessFlags := 260, code := none }
/-- java/lang/Object -/
def k0 : Class := { plain "java/lang/Object" none with
  accessFlags := 33
  interfaces := #[]
  cf := some (fileOf pool0 8 #[] #[{ accessFlags := 1, nameIndex := 5, descriptorIndex := 6, attributes := #[] }, { accessFlags := 260, nameIndex := 96, descriptorIndex := 97, attributes := #[] }] 33 0 #[] #[])
  fields := #[]
  methods := #[k0m0, k0m1]
  instanceTypes := #[]
  staticTypes := #[]
  resolved := Array.replicate 124 none
  statics := none }

def pool1 : Array CpInfo := pool [(2, .class_ 4), (1, u "java/lang/Object"), (0, u "<init>"), (0, u "()V"), (0, .integer 2147483647), (0, .methodref 9 10), (0, .class_ 11), (0, .nameAndType 12 13), (0, u "com/example/vestline/vestline/TerminationReasonNamedPinLaw"), (0, u "build"), (0, u "(IC)[C"), (0, .class_ 15), (0, u "java/lang/String"), (0, .methodref 14 17), (0, .nameAndType 5 18), (0, u "([C)V"), (0, .string 20), (0, u "death"), (0, .methodref 14 22), (0, .nameAndType 23 24), (0, u "equals"), (0, u "(Ljava/lang/Object;)Z"), (0, .fieldref 26 27), (0, .class_ 28), (0, .nameAndType 29 30), (0, u "com/example/vestline/vestline/TerminationReason"), (0, u "DEATH"), (0, u "Lcom/example/vestline/vestline/TerminationReason;"), (0, .string 32), (0, u "disability"), (0, .fieldref 26 34), (0, .nameAndType 35 30), (0, u "DISABILITY"), (0, .methodref 26 37), (0, .nameAndType 38 39), (0, u "named"), (0, u "(Ljava/lang/String;)Ljava/util/Optional;"), (0, .methodref 41 42), (0, .class_ 43), (0, .nameAndType 44 45), (0, u "java/util/Optional"), (0, u "orElse"), (0, u "(Ljava/lang/Object;)Ljava/lang/Object;"), (3, u "law"), (0, u "(IIII)Z")] 4

def k1m0 : Method := { name := "<init>", desc := "()V", sig := { parameters := [], returnType := none }, accessFlags := 2, code := none }
def k1c1 : Code := { maxStack := 4, maxLocals := 2, code := method_2_code, exceptionTable := #[], attributes := #[] }
def k1m1 : Method := { name := "build", desc := "(IC)[C", sig := { parameters := [.int, .char], returnType := some (.array .char) }, accessFlags := 10, code := some k1c1 }
def k1c2 : Code := { maxStack := 3, maxLocals := 13, code := code, exceptionTable := #[], attributes := #[] }
def k1m2 : Method := { name := "law", desc := "(IIII)Z", sig := { parameters := [.int, .int, .int, .int], returnType := some .boolean }, accessFlags := 9, code := some k1c2 }
/-- com/example/vestline/vestline/TerminationReasonNamedPinLaw -/
def k1 : Class := { plain "com/example/vestline/vestline/TerminationReasonNamedPinLaw" (some 0) with
  accessFlags := 49
  interfaces := #[]
  cf := some (fileOf pool1 9 #[] #[{ accessFlags := 2, nameIndex := 5, descriptorIndex := 6, attributes := #[] }, { accessFlags := 10, nameIndex := 12, descriptorIndex := 13, attributes := #[] }, { accessFlags := 9, nameIndex := 49, descriptorIndex := 50, attributes := #[] }] 49 2 #[] #[])
  fields := #[]
  methods := #[k1m0, k1m1, k1m2]
  instanceTypes := #[]
  staticTypes := #[]
  resolved := Array.replicate 55 none
  statics := none }

def pool2 : Array CpInfo := pool [(1, .class_ 2), (0, u "java/io/Serializable"), (0, .class_ 4), (0, u "java/lang/Object")] 2

/-- java/io/Serializable -/
def k2 : Class := { plain "java/io/Serializable" (some 0) with
  accessFlags := 1537
  interfaces := #[]
  cf := some (fileOf pool2 1 #[] #[] 1537 3 #[] #[])
  fields := #[]
  methods := #[]
  instanceTypes := #[]
  staticTypes := #[]
  resolved := Array.replicate 7 none
  statics := none }

def pool3 : Array CpInfo := pool [(1, .class_ 2), (0, u "java/lang/Comparable"), (0, .class_ 4), (0, u "java/lang/Object")] 7

/-- java/lang/Comparable -/
def k3 : Class := { plain "java/lang/Comparable" (some 0) with
  accessFlags := 1537
  interfaces := #[]
  cf := some (fileOf pool3 1 #[] #[] 1537 3 #[] #[])
  fields := #[]
  methods := #[]
  instanceTypes := #[]
  staticTypes := #[]
  resolved := Array.replicate 12 none
  statics := none }

def pool4 : Array CpInfo := pool [(2, .class_ 4), (1, u "java/lang/CharSequence"), (42, .class_ 48), (0, u "java/lang/CharSequence$1CodePointIterator"), (10, .class_ 60), (0, u "java/lang/CharSequence$1CharIterator"), (5, .class_ 67), (0, u "java/lang/Object")] 63

/-- java/lang/CharSequence -/
def k4 : Class := { plain "java/lang/CharSequence" (some 0) with
  accessFlags := 1537
  interfaces := #[]
  cf := some (fileOf pool4 2 #[.nestMembers #[47, 59]] #[] 1537 66 #[] #[])
  fields := #[]
  methods := #[]
  instanceTypes := #[]
  staticTypes := #[]
  resolved := Array.replicate 131 none
  statics := none }

def pool5 : Array CpInfo := pool [(1, .class_ 2), (0, u "java/lang/constant/Constable"), (0, .class_ 4), (0, u "java/lang/Object")] 6

/-- java/lang/constant/Constable -/
def k5 : Class := { plain "java/lang/constant/Constable" (some 0) with
  accessFlags := 1537
  interfaces := #[]
  cf := some (fileOf pool5 1 #[] #[] 1537 3 #[] #[])
  fields := #[]
  methods := #[]
  instanceTypes := #[]
  staticTypes := #[]
  resolved := Array.replicate 11 none
  statics := none }

def pool6 : Array CpInfo := pool [(1, .class_ 2), (0, u "java/lang/constant/ConstantDesc"), (0, .class_ 4), (0, u "java/lang/Object")] 32

/-- java/lang/constant/ConstantDesc -/
def k6 : Class := { plain "java/lang/constant/ConstantDesc" (some 0) with
  accessFlags := 1537
  interfaces := #[]
  cf := some (fileOf pool6 1 #[] #[] 1537 3 #[] #[])
  fields := #[]
  methods := #[]
  instanceTypes := #[]
  staticTypes := #[]
  resolved := Array.replicate 37 none
  statics := none }

def pool7 : Array CpInfo := pool [(1, .methodref 2 3), (0, .class_ 4), (0, .nameAndType 5 6), (0, u "java/lang/Object"), (0, u "<init>"), (0, u "()V"), (0, .string 8), (0, u ""), (0, .fieldref 10 11), (0, .class_ 12), (0, .nameAndType 13 14), (0, u "java/lang/String"), (0, u "value"), (0, u "[B"), (0, .fieldref 10 16), (0, .nameAndType 17 18), (0, u "coder"), (0, u "B"), (2, u "hash"), (0, u "I"), (2, u "hashIsZero"), (0, u "Z"), (0, .methodref 10 28), (0, .nameAndType 5 29), (0, u "([CIILjava/lang/Void;)V"), (8, .fieldref 10 39), (0, .nameAndType 40 26), (0, u "COMPACT_STRINGS"), (1, .class_ 44), (1, u "java/lang/StringUTF16"), (0, u "compress"), (1, .methodref 42 48), (0, .nameAndType 49 50), (0, u "coderFromArrayLen"), (0, u "([BI)B"), (56, .class_ 109), (1, u "java/lang/StringLatin1"), (67, .methodref 42 178), (0, .nameAndType 45 179), (0, u "([CII)[B"), (361, .methodref 107 542), (0, .nameAndType 543 544), (0, u "equals"), (0, u "([B[B)Z"), (28, u "(Ljava/lang/Object;)Z"), (1, .class_ 576), (0, u "java/lang/CharSequence"), (22, u "CASE_INSENSITIVE_ORDER"), (0, u "Ljava/util/Comparator;"), (409, u "([C)V"), (90, u "serialPersistentFields"), (0, u "[Ljava/io/ObjectStreamField;"), (0, .class_ 1104), (0, u "java/lang/String$CaseInsensitiveComparator"), (1, .class_ 1107), (0, u "java/io/Serializable"), (0, .class_ 1109), (0, u "java/lang/Comparable"), (0, .class_ 1111), (0, u "java/lang/constant/Constable"), (0, .class_ 1113), (0, u "java/lang/constant/ConstantDesc"), (2, u "serialVersionUID"), (0, u "J"), (3, u "REPL"), (0, u "C"), (2, u "LATIN1"), (1, u "UTF16")] 323

def k7m0 : Method := { name := "<init>", desc := "()V", sig := { parameters := [], returnType := none }, accessFlags := 1, code := none }
def k7c1 : Code := { maxStack := 5, maxLocals := 2, code := jdk_42_method_3_code, exceptionTable := #[], attributes := #[] }
def k7m1 : Method := { name := "<init>", desc := "([C)V", sig := { parameters := [(.array .char)], returnType := none }, accessFlags := 1, code := some k7c1 }
def k7c2 : Code := { maxStack := 2, maxLocals := 3, code := jdk_42_method_66_code, exceptionTable := #[], attributes := #[] }
def k7m2 : Method := { name := "equals", desc := "(Ljava/lang/Object;)Z", sig := { parameters := [(.object "java/lang/Object")], returnType := some .boolean }, accessFlags := 1, code := some k7c2 }
def k7c3 : Code := { maxStack := 4, maxLocals := 6, code := jdk_42_method_149_code, exceptionTable := #[], attributes := #[] }
def k7m3 : Method := { name := "<init>", desc := "([CIILjava/lang/Void;)V", sig := { parameters := [(.array .char), .int, .int, (.object "java/lang/Void")], returnType := none }, accessFlags := 2, code := some k7c3 }
/-- java/lang/String -/
def k7 : Class := { plain "java/lang/String" (some 0) with
  accessFlags := 49
  interfaces := #[2, 3, 4, 5, 6]
  cf := some (fileOf pool7 10 #[.nestMembers #[1103]] #[{ accessFlags := 1, nameIndex := 5, descriptorIndex := 6, attributes := #[] }, { accessFlags := 1, nameIndex := 5, descriptorIndex := 1010, attributes := #[] }, { accessFlags := 1, nameIndex := 543, descriptorIndex := 573, attributes := #[] }, { accessFlags := 2, nameIndex := 5, descriptorIndex := 29, attributes := #[] }] 49 2 #[1106, 1108, 575, 1110, 1112] #[{ accessFlags := 18, nameIndex := 13, descriptorIndex := 14, attributes := #[] }, { accessFlags := 18, nameIndex := 17, descriptorIndex := 18, attributes := #[] }, { accessFlags := 2, nameIndex := 21, descriptorIndex := 22, attributes := #[] }, { accessFlags := 2, nameIndex := 25, descriptorIndex := 26, attributes := #[] }, { accessFlags := 26, nameIndex := 1116, descriptorIndex := 1117, attributes := #[] }, { accessFlags := 24, nameIndex := 40, descriptorIndex := 26, attributes := #[] }, { accessFlags := 26, nameIndex := 1101, descriptorIndex := 1102, attributes := #[] }, { accessFlags := 26, nameIndex := 1121, descriptorIndex := 1122, attributes := #[] }, { accessFlags := 25, nameIndex := 599, descriptorIndex := 600, attributes := #[] }, { accessFlags := 24, nameIndex := 1125, descriptorIndex := 18, attributes := #[] }, { accessFlags := 24, nameIndex := 1127, descriptorIndex := 18, attributes := #[] }])
  fields := #[{ name := "value", type := (.array .byte), accessFlags := 18, slot := 0, constantValue := 0 }, { name := "coder", type := .byte, accessFlags := 18, slot := 1, constantValue := 0 }, { name := "hash", type := .int, accessFlags := 2, slot := 2, constantValue := 0 }, { name := "hashIsZero", type := .boolean, accessFlags := 2, slot := 3, constantValue := 0 }, { name := "serialVersionUID", type := .long, accessFlags := 26, slot := 0, constantValue := 0 }, { name := "COMPACT_STRINGS", type := .boolean, accessFlags := 24, slot := 1, constantValue := 0 }, { name := "serialPersistentFields", type := (.array (.object "java/io/ObjectStreamField")), accessFlags := 26, slot := 2, constantValue := 0 }, { name := "REPL", type := .char, accessFlags := 26, slot := 3, constantValue := 0 }, { name := "CASE_INSENSITIVE_ORDER", type := (.object "java/util/Comparator"), accessFlags := 25, slot := 4, constantValue := 0 }, { name := "LATIN1", type := .byte, accessFlags := 24, slot := 5, constantValue := 0 }, { name := "UTF16", type := .byte, accessFlags := 24, slot := 6, constantValue := 0 }]
  methods := #[k7m0, k7m1, k7m2, k7m3]
  instanceTypes := #[(.array .byte), .byte, .int, .boolean]
  staticTypes := #[.long, .boolean, (.array (.object "java/io/ObjectStreamField")), .char, (.object "java/util/Comparator"), .byte, .byte]
  resolved := Array.replicate 1451 none
  statics := some 0 }

def pool8 : Array CpInfo := pool [(4, .class_ 6), (1, u "java/lang/Object"), (0, u "<init>"), (0, u "()V"), (5, .class_ 16), (1, u "java/lang/StringLatin1"), (104, u "$assertionsDisabled"), (0, u "Z"), (98, .class_ 223), (1, u "java/lang/StringLatin1$LinesSpliterator"), (57, u "equals"), (0, u "([B[B)Z"), (107, .class_ 391), (0, u "java/lang/StringLatin1$CharsSpliterator")] 3

def k8m0 : Method := { name := "<init>", desc := "()V", sig := { parameters := [], returnType := none }, accessFlags := 0, code := none }
def k8c1 : Code := { maxStack := 3, maxLocals := 3, code := jdk_43_method_13_code, exceptionTable := #[], attributes := #[] }
def k8m1 : Method := { name := "equals", desc := "([B[B)Z", sig := { parameters := [(.array .byte), (.array .byte)], returnType := some .boolean }, accessFlags := 9, code := some k8c1 }
/-- java/lang/StringLatin1 -/
def k8 : Class := { plain "java/lang/StringLatin1" (some 0) with
  accessFlags := 48
  interfaces := #[]
  cf := some (fileOf pool8 14 #[.nestMembers #[390, 221]] #[{ accessFlags := 0, nameIndex := 7, descriptorIndex := 8, attributes := #[] }, { accessFlags := 9, nameIndex := 281, descriptorIndex := 282, attributes := #[] }] 48 4 #[] #[{ accessFlags := 4120, nameIndex := 121, descriptorIndex := 122, attributes := #[] }])
  fields := #[{ name := "$assertionsDisabled", type := .boolean, accessFlags := 4120, slot := 0, constantValue := 0 }]
  methods := #[k8m0, k8m1]
  instanceTypes := #[]
  staticTypes := #[.boolean]
  resolved := Array.replicate 395 none
  statics := none }

def pool9 : Array CpInfo := pool [(2, .class_ 4), (1, u "java/lang/Enum"), (0, u "name"), (0, u "Ljava/lang/String;"), (2, u "ordinal"), (0, u "I"), (1, .class_ 14), (1, u "java/lang/Object"), (4, u "hash"), (86, .class_ 108), (1, u "java/lang/Enum$EnumDesc"), (2, .class_ 112), (0, u "java/lang/constant/Constable"), (0, .class_ 114), (0, u "java/lang/Comparable"), (0, .class_ 116), (0, u "java/io/Serializable")] 87

/-- java/lang/Enum -/
def k9 : Class := { plain "java/lang/Enum" (some 0) with
  accessFlags := 1057
  interfaces := #[5, 3, 2]
  cf := some (fileOf pool9 2 #[.nestMembers #[106]] #[] 1057 12 #[111, 113, 115] #[{ accessFlags := 18, nameIndex := 5, descriptorIndex := 6, attributes := #[] }, { accessFlags := 18, nameIndex := 9, descriptorIndex := 10, attributes := #[] }, { accessFlags := 2, nameIndex := 19, descriptorIndex := 10, attributes := #[] }])
  fields := #[{ name := "name", type := (.object "java/lang/String"), accessFlags := 18, slot := 0, constantValue := 0 }, { name := "ordinal", type := .int, accessFlags := 18, slot := 1, constantValue := 0 }, { name := "hash", type := .int, accessFlags := 2, slot := 2, constantValue := 0 }]
  methods := #[]
  instanceTypes := #[(.object "java/lang/String"), .int, .int]
  staticTypes := #[]
  resolved := Array.replicate 204 none
  statics := none }

def pool10 : Array CpInfo := pool [(1, .class_ 2), (0, u "com/example/vestline/vestline/TerminationReason"), (2, u "DEATH"), (0, u "Lcom/example/vestline/vestline/TerminationReason;"), (2, u "DISABILITY"), (0, .fieldref 1 11), (0, .nameAndType 12 13), (0, u "$VALUES"), (0, u "[Lcom/example/vestline/vestline/TerminationReason;"), (0, .methodref 15 16), (0, .class_ 13), (0, .nameAndType 17 18), (0, u "clone"), (0, u "()Ljava/lang/Object;"), (1, .class_ 22), (1, u "java/lang/Enum"), (6, .fieldref 1 30), (0, .nameAndType 31 32), (0, u "word"), (0, u "Ljava/lang/String;"), (0, .methodref 34 35), (0, .class_ 36), (0, .nameAndType 37 38), (0, u "java/util/Optional"), (0, u "empty"), (0, u "()Ljava/util/Optional;"), (0, .methodref 1 40), (0, .nameAndType 41 42), (0, u "values"), (0, u "()[Lcom/example/vestline/vestline/TerminationReason;"), (0, .methodref 44 45), (0, .class_ 46), (0, .nameAndType 47 48), (0, u "java/lang/String"), (0, u "equals"), (0, u "(Ljava/lang/Object;)Z"), (0, .methodref 34 50), (0, .nameAndType 51 52), (0, u "of"), (0, u "(Ljava/lang/Object;)Ljava/util/Optional;"), (19, u "named"), (0, u "(Ljava/lang/String;)Ljava/util/Optional;")] 7

def k10c0 : Code := { maxStack := 1, maxLocals := 0, code := prog_17_method_1_code, exceptionTable := #[], attributes := #[] }
def k10m0 : Method := { name := "values", desc := "()[Lcom/example/vestline/vestline/TerminationReason;", sig := { parameters := [], returnType := some (.array (.object "com/example/vestline/vestline/TerminationReason")) }, accessFlags := 9, code := some k10c0 }
def k10c1 : Code := { maxStack := 2, maxLocals := 6, code := prog_17_method_5_code, exceptionTable := #[], attributes := #[] }
def k10m1 : Method := { name := "named", desc := "(Ljava/lang/String;)Ljava/util/Optional;", sig := { parameters := [(.object "java/lang/String")], returnType := some (.object "java/util/Optional") }, accessFlags := 8, code := some k10c1 }
/-- com/example/vestline/vestline/TerminationReason -/
def k10 : Class := { plain "com/example/vestline/vestline/TerminationReason" (some 9) with
  accessFlags := 16433
  interfaces := #[]
  cf := some (fileOf pool10 1 #[] #[{ accessFlags := 9, nameIndex := 41, descriptorIndex := 42, attributes := #[] }, { accessFlags := 8, nameIndex := 72, descriptorIndex := 73, attributes := #[] }] 16433 20 #[] #[{ accessFlags := 16409, nameIndex := 5, descriptorIndex := 6, attributes := #[] }, { accessFlags := 16409, nameIndex := 9, descriptorIndex := 6, attributes := #[] }, { accessFlags := 18, nameIndex := 31, descriptorIndex := 32, attributes := #[] }, { accessFlags := 4122, nameIndex := 12, descriptorIndex := 13, attributes := #[] }])
  fields := #[{ name := "DEATH", type := (.object "com/example/vestline/vestline/TerminationReason"), accessFlags := 16409, slot := 0, constantValue := 0 }, { name := "DISABILITY", type := (.object "com/example/vestline/vestline/TerminationReason"), accessFlags := 16409, slot := 1, constantValue := 0 }, { name := "word", type := (.object "java/lang/String"), accessFlags := 18, slot := 3, constantValue := 0 }, { name := "$VALUES", type := (.array (.object "com/example/vestline/vestline/TerminationReason")), accessFlags := 4122, slot := 2, constantValue := 0 }]
  methods := #[k10m0, k10m1]
  instanceTypes := #[(.object "java/lang/String"), .int, .int, (.object "java/lang/String")]
  staticTypes := #[(.object "com/example/vestline/vestline/TerminationReason"), (.object "com/example/vestline/vestline/TerminationReason"), (.array (.object "com/example/vestline/vestline/TerminationReason"))]
  resolved := Array.replicate 81 none
  statics := some 1 }

def pool11 : Array CpInfo := pool [(1, .fieldref 2 3), (0, .class_ 4), (0, .nameAndType 5 6), (0, u "java/util/Optional"), (0, u "EMPTY"), (0, u "Ljava/util/Optional;"), (0, .methodref 8 9), (0, .class_ 10), (0, .nameAndType 11 12), (0, u "java/lang/Object"), (0, u "<init>"), (0, u "()V"), (0, .fieldref 2 14), (0, .nameAndType 15 16), (0, u "value"), (0, u "Ljava/lang/Object;"), (0, .methodref 18 19), (0, .class_ 20), (0, .nameAndType 21 22), (0, u "java/util/Objects"), (0, u "requireNonNull"), (0, u "(Ljava/lang/Object;)Ljava/lang/Object;"), (0, .methodref 2 24), (0, .nameAndType 11 25), (0, u "(Ljava/lang/Object;)V"), (29, u "empty"), (0, u "()Ljava/util/Optional;"), (8, u "(Ljava/lang/Object;)Ljava/util/Optional;"), (16, u "of"), (82, u "orElse")] 21

def k11c0 : Code := { maxStack := 1, maxLocals := 1, code := jdk_32_method_1_code, exceptionTable := #[], attributes := #[] }
def k11m0 : Method := { name := "empty", desc := "()Ljava/util/Optional;", sig := { parameters := [], returnType := some (.object "java/util/Optional") }, accessFlags := 9, code := some k11c0 }
def k11c1 : Code := { maxStack := 2, maxLocals := 2, code := jdk_32_method_2_code, exceptionTable := #[], attributes := #[] }
def k11m1 : Method := { name := "<init>", desc := "(Ljava/lang/Object;)V", sig := { parameters := [(.object "java/lang/Object")], returnType := none }, accessFlags := 2, code := some k11c1 }
def k11c2 : Code := { maxStack := 3, maxLocals := 1, code := jdk_32_method_3_code, exceptionTable := #[], attributes := #[] }
def k11m2 : Method := { name := "of", desc := "(Ljava/lang/Object;)Ljava/util/Optional;", sig := { parameters := [(.object "java/lang/Object")], returnType := some (.object "java/util/Optional") }, accessFlags := 9, code := some k11c2 }
def k11c3 : Code := { maxStack := 1, maxLocals := 2, code := jdk_32_method_15_code, exceptionTable := #[], attributes := #[] }
def k11m3 : Method := { name := "orElse", desc := "(Ljava/lang/Object;)Ljava/lang/Object;", sig := { parameters := [(.object "java/lang/Object")], returnType := some (.object "java/lang/Object") }, accessFlags := 1, code := some k11c3 }
/-- java/util/Optional -/
def k11 : Class := { plain "java/util/Optional" (some 0) with
  accessFlags := 49
  interfaces := #[]
  cf := some (fileOf pool11 2 #[] #[{ accessFlags := 9, nameIndex := 55, descriptorIndex := 56, attributes := #[] }, { accessFlags := 2, nameIndex := 11, descriptorIndex := 25, attributes := #[] }, { accessFlags := 9, nameIndex := 82, descriptorIndex := 65, attributes := #[] }, { accessFlags := 1, nameIndex := 165, descriptorIndex := 22, attributes := #[] }] 49 8 #[] #[{ accessFlags := 26, nameIndex := 5, descriptorIndex := 6, attributes := #[] }, { accessFlags := 18, nameIndex := 15, descriptorIndex := 16, attributes := #[] }])
  fields := #[{ name := "EMPTY", type := (.object "java/util/Optional"), accessFlags := 26, slot := 0, constantValue := 0 }, { name := "value", type := (.object "java/lang/Object"), accessFlags := 18, slot := 0, constantValue := 0 }]
  methods := #[k11m0, k11m1, k11m2, k11m3]
  instanceTypes := #[(.object "java/lang/Object")]
  staticTypes := #[(.object "java/util/Optional")]
  resolved := Array.replicate 187 none
  statics := some 2 }

def pool12 : Array CpInfo := pool [(1, .class_ 2), (0, u "java/lang/Cloneable"), (0, .class_ 4), (0, u "java/lang/Object")] 2

/-- java/lang/Cloneable -/
def k12 : Class := { plain "java/lang/Cloneable" (some 0) with
  accessFlags := 1537
  interfaces := #[]
  cf := some (fileOf pool12 1 #[] #[] 1537 3 #[] #[])
  fields := #[]
  methods := #[]
  instanceTypes := #[]
  staticTypes := #[]
  resolved := Array.replicate 7 none
  statics := none }

def pool13 : Array CpInfo := pool [(6, .class_ 8), (1, u "java/lang/Object"), (0, u "<init>"), (0, u "()V"), (1, .class_ 14), (1, u "java/lang/StringUTF16"), (31, u "$assertionsDisabled"), (0, u "Z"), (13, u "HI_BYTE_SHIFT"), (0, u "I"), (2, u "LO_BYTE_SHIFT"), (49, .methodref 12 116), (0, .nameAndType 117 118), (0, u "compress"), (0, u "([CI[BII)I"), (3, u "([CII)[B"), (138, u "coderFromArrayLen"), (0, u "([BI)B"), (106, .class_ 371), (1, u "java/lang/StringUTF16$LinesSpliterator"), (58, u "MAX_LENGTH"), (196, .class_ 628), (0, u "java/lang/StringUTF16$CodePointsSpliterator"), (0, .class_ 630), (0, u "java/lang/StringUTF16$CharsSpliterator")] 4

def k13m0 : Method := { name := "<init>", desc := "()V", sig := { parameters := [], returnType := none }, accessFlags := 0, code := none }
def k13c1 : Code := { maxStack := 2, maxLocals := 2, code := jdk_52_method_15_code, exceptionTable := #[], attributes := #[] }
def k13m1 : Method := { name := "coderFromArrayLen", desc := "([BI)B", sig := { parameters := [(.array .byte), .int], returnType := some .byte }, accessFlags := 8, code := some k13c1 }
def k13c2 : Code := { maxStack := 5, maxLocals := 6, code := jdk_52_method_16_code, exceptionTable := #[], attributes := #[] }
def k13m2 : Method := { name := "compress", desc := "([CII)[B", sig := { parameters := [(.array .char), .int, .int], returnType := some (.array .byte) }, accessFlags := 9, code := some k13c2 }
def k13c3 : Code := { maxStack := 3, maxLocals := 7, code := jdk_52_method_21_code, exceptionTable := #[], attributes := #[] }
def k13m3 : Method := { name := "compress", desc := "([CI[BII)I", sig := { parameters := [(.array .char), .int, (.array .byte), .int, .int], returnType := some .int }, accessFlags := 9, code := some k13c3 }
/-- java/lang/StringUTF16 -/
def k13 : Class := { plain "java/lang/StringUTF16" (some 0) with
  accessFlags := 48
  interfaces := #[]
  cf := some (fileOf pool13 12 #[.nestMembers #[627, 629, 369]] #[{ accessFlags := 0, nameIndex := 9, descriptorIndex := 10, attributes := #[] }, { accessFlags := 8, nameIndex := 261, descriptorIndex := 262, attributes := #[] }, { accessFlags := 9, nameIndex := 117, descriptorIndex := 122, attributes := #[] }, { accessFlags := 9, nameIndex := 117, descriptorIndex := 118, attributes := #[] }] 48 6 #[] #[{ accessFlags := 26, nameIndex := 61, descriptorIndex := 62, attributes := #[] }, { accessFlags := 26, nameIndex := 65, descriptorIndex := 62, attributes := #[] }, { accessFlags := 24, nameIndex := 430, descriptorIndex := 62, attributes := #[] }, { accessFlags := 4120, nameIndex := 46, descriptorIndex := 47, attributes := #[] }])
  fields := #[{ name := "HI_BYTE_SHIFT", type := .int, accessFlags := 26, slot := 0, constantValue := 0 }, { name := "LO_BYTE_SHIFT", type := .int, accessFlags := 26, slot := 1, constantValue := 0 }, { name := "MAX_LENGTH", type := .int, accessFlags := 24, slot := 2, constantValue := 0 }, { name := "$assertionsDisabled", type := .boolean, accessFlags := 4120, slot := 3, constantValue := 0 }]
  methods := #[k13m0, k13m1, k13m2, k13m3]
  instanceTypes := #[]
  staticTypes := #[.int, .int, .int, .boolean]
  resolved := Array.replicate 635 none
  statics := none }

def pool14 : Array CpInfo := pool [(2, .class_ 4), (1, u "java/lang/Object"), (0, u "<init>"), (0, u "()V"), (35, .class_ 44), (1, u "java/util/Objects"), (0, u "requireNonNull"), (0, u "(Ljava/lang/Object;)Ljava/lang/Object;")] 137

def k14m0 : Method := { name := "<init>", desc := "()V", sig := { parameters := [], returnType := none }, accessFlags := 2, code := none }
def k14c1 : Code := { maxStack := 2, maxLocals := 1, code := jdk_31_method_10_code, exceptionTable := #[], attributes := #[] }
def k14m1 : Method := { name := "requireNonNull", desc := "(Ljava/lang/Object;)Ljava/lang/Object;", sig := { parameters := [(.object "java/lang/Object")], returnType := some (.object "java/lang/Object") }, accessFlags := 9, code := some k14c1 }
/-- java/util/Objects -/
def k14 : Class := { plain "java/util/Objects" (some 0) with
  accessFlags := 49
  interfaces := #[]
  cf := some (fileOf pool14 42 #[] #[{ accessFlags := 2, nameIndex := 5, descriptorIndex := 6, attributes := #[] }, { accessFlags := 9, nameIndex := 45, descriptorIndex := 46, attributes := #[] }] 49 2 #[] #[])
  fields := #[]
  methods := #[k14m0, k14m1]
  instanceTypes := #[]
  staticTypes := #[]
  resolved := Array.replicate 184 none
  statics := none }

def pool15 : Array CpInfo := pool [(2, .class_ 4), (1, u "java/lang/Object"), (0, u "<init>"), (0, u "()V"), (17, .class_ 26), (1, u "jdk/internal/util/Preconditions"), (28, .class_ 56), (0, u "jdk/internal/util/Preconditions$4"), (57, .class_ 115), (0, u "jdk/internal/util/Preconditions$1"), (7, u "SIOOBE_FORMATTER"), (0, u "Ljava/util/function/BiFunction;"), (0, .class_ 126), (0, u "jdk/internal/util/Preconditions$2"), (3, u "AIOOBE_FORMATTER"), (0, .class_ 132), (0, u "jdk/internal/util/Preconditions$3"), (3, u "IOOBE_FORMATTER")] 57

def k15m0 : Method := { name := "<init>", desc := "()V", sig := { parameters := [], returnType := none }, accessFlags := 1, code := none }
/-- jdk/internal/util/Preconditions -/
def k15 : Class := { plain "jdk/internal/util/Preconditions" (some 0) with
  accessFlags := 33
  interfaces := #[]
  cf := some (fileOf pool15 24 #[.nestMembers #[55, 131, 125, 114]] #[{ accessFlags := 1, nameIndex := 5, descriptorIndex := 6, attributes := #[] }] 33 2 #[] #[{ accessFlags := 25, nameIndex := 123, descriptorIndex := 124, attributes := #[] }, { accessFlags := 25, nameIndex := 130, descriptorIndex := 124, attributes := #[] }, { accessFlags := 25, nameIndex := 136, descriptorIndex := 124, attributes := #[] }])
  fields := #[{ name := "SIOOBE_FORMATTER", type := (.object "java/util/function/BiFunction"), accessFlags := 25, slot := 0, constantValue := 0 }, { name := "AIOOBE_FORMATTER", type := (.object "java/util/function/BiFunction"), accessFlags := 25, slot := 1, constantValue := 0 }, { name := "IOOBE_FORMATTER", type := (.object "java/util/function/BiFunction"), accessFlags := 25, slot := 2, constantValue := 0 }]
  methods := #[k15m0]
  instanceTypes := #[]
  staticTypes := #[(.object "java/util/function/BiFunction"), (.object "java/util/function/BiFunction"), (.object "java/util/function/BiFunction")]
  resolved := Array.replicate 194 none
  statics := some 3 }

def pool16 : Array CpInfo := pool [(9, u "<init>"), (6, .class_ 18), (1, u "java/lang/Object"), (0, u "()V"), (1, .class_ 23), (1, u "jdk/internal/util/ArraysSupport"), (0, u "LOG2_ARRAY_LONG_INDEX_SCALE"), (0, u "I"), (2, u "U"), (0, u "Ljdk/internal/misc/Unsafe;"), (8, u "BIG_ENDIAN"), (0, u "Z"), (8, u "LOG2_BYTE_BIT_SIZE"), (4, u "LOG2_ARRAY_INT_INDEX_SCALE"), (54, u "JLA"), (0, u "Ljdk/internal/access/JavaLangAccess;"), (11, u "LOG2_ARRAY_BOOLEAN_INDEX_SCALE"), (9, u "LOG2_ARRAY_BYTE_INDEX_SCALE"), (5, u "LOG2_ARRAY_CHAR_INDEX_SCALE"), (5, u "LOG2_ARRAY_SHORT_INDEX_SCALE"), (18, u "LOG2_ARRAY_FLOAT_INDEX_SCALE"), (24, u "LOG2_ARRAY_DOUBLE_INDEX_SCALE"), (89, u "T_BOOLEAN"), (2, u "T_CHAR"), (1, u "T_FLOAT"), (1, u "T_DOUBLE"), (1, u "T_BYTE"), (1, u "T_SHORT"), (1, u "T_INT"), (1, u "T_LONG"), (1, u "SOFT_MAX_ARRAY_LENGTH")] 83

def k16m0 : Method := { name := "<init>", desc := "()V", sig := { parameters := [], returnType := none }, accessFlags := 2, code := none }
/-- jdk/internal/util/ArraysSupport -/
def k16 : Class := { plain "jdk/internal/util/ArraysSupport" (some 0) with
  accessFlags := 33
  interfaces := #[]
  cf := some (fileOf pool16 21 #[] #[{ accessFlags := 2, nameIndex := 9, descriptorIndex := 19, attributes := #[] }] 33 16 #[] #[{ accessFlags := 24, nameIndex := 28, descriptorIndex := 29, attributes := #[] }, { accessFlags := 26, nameIndex := 38, descriptorIndex := 39, attributes := #[] }, { accessFlags := 25, nameIndex := 121, descriptorIndex := 25, attributes := #[] }, { accessFlags := 25, nameIndex := 131, descriptorIndex := 25, attributes := #[] }, { accessFlags := 25, nameIndex := 137, descriptorIndex := 25, attributes := #[] }, { accessFlags := 25, nameIndex := 143, descriptorIndex := 25, attributes := #[] }, { accessFlags := 25, nameIndex := 53, descriptorIndex := 25, attributes := #[] }, { accessFlags := 25, nameIndex := 24, descriptorIndex := 25, attributes := #[] }, { accessFlags := 25, nameIndex := 162, descriptorIndex := 25, attributes := #[] }, { accessFlags := 25, nameIndex := 187, descriptorIndex := 25, attributes := #[] }, { accessFlags := 26, nameIndex := 48, descriptorIndex := 25, attributes := #[] }, { accessFlags := 25, nameIndex := 277, descriptorIndex := 25, attributes := #[] }, { accessFlags := 25, nameIndex := 280, descriptorIndex := 25, attributes := #[] }, { accessFlags := 25, nameIndex := 282, descriptorIndex := 25, attributes := #[] }, { accessFlags := 25, nameIndex := 284, descriptorIndex := 25, attributes := #[] }, { accessFlags := 25, nameIndex := 286, descriptorIndex := 25, attributes := #[] }, { accessFlags := 25, nameIndex := 288, descriptorIndex := 25, attributes := #[] }, { accessFlags := 25, nameIndex := 290, descriptorIndex := 25, attributes := #[] }, { accessFlags := 25, nameIndex := 292, descriptorIndex := 25, attributes := #[] }, { accessFlags := 26, nameIndex := 108, descriptorIndex := 109, attributes := #[] }, { accessFlags := 25, nameIndex := 294, descriptorIndex := 25, attributes := #[] }])
  fields := #[{ name := "U", type := (.object "jdk/internal/misc/Unsafe"), accessFlags := 24, slot := 0, constantValue := 0 }, { name := "BIG_ENDIAN", type := .boolean, accessFlags := 26, slot := 1, constantValue := 0 }, { name := "LOG2_ARRAY_BOOLEAN_INDEX_SCALE", type := .int, accessFlags := 25, slot := 2, constantValue := 0 }, { name := "LOG2_ARRAY_BYTE_INDEX_SCALE", type := .int, accessFlags := 25, slot := 3, constantValue := 0 }, { name := "LOG2_ARRAY_CHAR_INDEX_SCALE", type := .int, accessFlags := 25, slot := 4, constantValue := 0 }, { name := "LOG2_ARRAY_SHORT_INDEX_SCALE", type := .int, accessFlags := 25, slot := 5, constantValue := 0 }, { name := "LOG2_ARRAY_INT_INDEX_SCALE", type := .int, accessFlags := 25, slot := 6, constantValue := 0 }, { name := "LOG2_ARRAY_LONG_INDEX_SCALE", type := .int, accessFlags := 25, slot := 7, constantValue := 0 }, { name := "LOG2_ARRAY_FLOAT_INDEX_SCALE", type := .int, accessFlags := 25, slot := 8, constantValue := 0 }, { name := "LOG2_ARRAY_DOUBLE_INDEX_SCALE", type := .int, accessFlags := 25, slot := 9, constantValue := 0 }, { name := "LOG2_BYTE_BIT_SIZE", type := .int, accessFlags := 26, slot := 10, constantValue := 0 }, { name := "T_BOOLEAN", type := .int, accessFlags := 25, slot := 11, constantValue := 0 }, { name := "T_CHAR", type := .int, accessFlags := 25, slot := 12, constantValue := 0 }, { name := "T_FLOAT", type := .int, accessFlags := 25, slot := 13, constantValue := 0 }, { name := "T_DOUBLE", type := .int, accessFlags := 25, slot := 14, constantValue := 0 }, { name := "T_BYTE", type := .int, accessFlags := 25, slot := 15, constantValue := 0 }, { name := "T_SHORT", type := .int, accessFlags := 25, slot := 16, constantValue := 0 }, { name := "T_INT", type := .int, accessFlags := 25, slot := 17, constantValue := 0 }, { name := "T_LONG", type := .int, accessFlags := 25, slot := 18, constantValue := 0 }, { name := "JLA", type := (.object "jdk/internal/access/JavaLangAccess"), accessFlags := 26, slot := 19, constantValue := 0 }, { name := "SOFT_MAX_ARRAY_LENGTH", type := .int, accessFlags := 25, slot := 20, constantValue := 0 }]
  methods := #[k16m0]
  instanceTypes := #[]
  staticTypes := #[(.object "jdk/internal/misc/Unsafe"), .boolean, .int, .int, .int, .int, .int, .int, .int, .int, .int, .int, .int, .int, .int, .int, .int, .int, .int, (.object "jdk/internal/access/JavaLangAccess"), .int]
  resolved := Array.replicate 378 none
  statics := none }

/-- the primitive byte -/
def k17 : Class := { plain "byte" none with kind := .primitive 'B', accessFlags := 0x411 }
/-- [B -/
def k18 : Class := { plain "[B" (some 0) with kind := .array 17 .byte, interfaces := #[12, 2], accessFlags := 1041 }

/-- the primitive char -/
def k19 : Class := { plain "char" none with kind := .primitive 'C', accessFlags := 0x411 }
/-- [C -/
def k20 : Class := { plain "[C" (some 0) with kind := .array 19 .char, interfaces := #[12, 2], accessFlags := 1041 }

/-- the primitive int -/
def k21 : Class := { plain "int" none with kind := .primitive 'I', accessFlags := 0x411 }
/-- [I -/
def k22 : Class := { plain "[I" (some 0) with kind := .array 21 .int, interfaces := #[12, 2], accessFlags := 1041 }

/-- [Lcom/example/vestline/vestline/TerminationReason; -/
def k23 : Class := { plain "[Lcom/example/vestline/vestline/TerminationReason;" (some 0) with kind := .array 10 (.object "com/example/vestline/vestline/TerminationReason"), interfaces := #[12, 2], accessFlags := 1041 }

def heap : Heap := #[{ cls := 7, slots := #[.long 0, .int 1, .null, .int 0, .null, .int 0, .int 0], vm := .statics 7 },
  { cls := 10, slots := #[.ref 5, .ref 6, .ref 4], vm := .statics 10 },
  { cls := 11, slots := #[.ref 11], vm := .statics 11 },
  { cls := 15, slots := #[.null, .null, .null], vm := .statics 15 },
  { cls := 23, slots := #[.ref 5, .ref 6], vm := .none },
  { cls := 10, slots := #[.null, .int 0, .int 0, .ref 7], vm := .none },
  { cls := 10, slots := #[.null, .int 0, .int 0, .ref 8], vm := .none },
  { cls := 7, slots := #[.ref 9, .int 0, .int 0, .int 0], vm := .none },
  { cls := 7, slots := #[.ref 10, .int 0, .int 0, .int 0], vm := .none },
  { cls := 18, slots := #[.int 100, .int 101, .int 97, .int 116, .int 104], vm := .none },
  { cls := 18, slots := #[.int 100, .int 105, .int 115, .int 97, .int 98, .int 105, .int 108, .int 105, .int 116, .int 121], vm := .none },
  { cls := 11, slots := #[.null], vm := .none }]
def classes : Array Class := #[k0, k1, k2, k3, k4, k5, k6, k7, k8, k9, k10, k11, k12, k13, k14, k15, k16, k17, k18, k19, k20, k21, k22, k23]
def interned : List (Array UInt16 × Addr) := []
def slotsUsed : Nat := 48
def theMethod : MethodId := ⟨1, 2⟩
def args0 : Array Value := #[.int 1, .int 5, .int 3, .int 2]
def aboutOver (below : List Frame) : State where
  vm := { classes := classes, interned := interned.toArray }
  heap := heap
  slotsUsed := slotsUsed
  threads := #[{ frames := .invoking theMethod args0 :: below }]
def below0 : List Frame := [.native { method := ⟨0, 0⟩, args := #[] }]
def about1 : State := aboutOver below0
def p0 : Program := .bare "" "" ""
def e0 : Env := launch0.env 0 0 0
theorem w_frames : about1.frames = Frame.invoking theMethod args0 :: below0 := rfl
set_option maxRecDepth 65536 in
theorem w_args : argsFit about1.vm theMethod args0 = true := by decide +kernel
set_option maxRecDepth 65536 in
theorem w_heap : heapFits about1 = true := by decide +kernel
set_option maxRecDepth 65536 in
theorem w_runnable : about1.curStatus? = some .runnable := by decide +kernel
set_option maxRecDepth 65536 in
theorem w_alone : about1.alone = true := by decide +kernel
set_option maxRecDepth 65536 in
theorem w_named : about1.methodNamed? x = some theMethod := by decide +kernel
set_option maxRecDepth 65536 in
theorem w_hears : about1.hears theMethod below0 = true := by decide +kernel
set_option maxRecDepth 65536 in
theorem w_ripe : about1.ripe theMethod args0 below0 = true := by decide +kernel
theorem w_running : about1.status = .running := rfl
set_option maxRecDepth 65536 in
theorem w_room : about1.hasRoom e0.platform room_1 = true :=
  launch0.hasRoom_least _ room_1 (by decide +kernel) (by decide +kernel) (by decide +kernel) (by decide +kernel) (by decide +kernel) (by decide +kernel)
theorem allAtoms_all (ts : List Jvm.Cond) (a : Array Jvm.Value) (st : Jvm.State) : (allAtoms ts).before a st = ts.all (fun c => c.before a st) := by
  induction ts with
  | nil => rfl
  | cons c t ih =>
    show (Jvm.Cond.and c (allAtoms t)).before a st = _
    rw [Jvm.Cond.before_and, ih, List.all_cons]
def words1 : List Jvm.Cond := Jvm.Cond.code x code maxLocals ret :: tables_1
/-- a 'code' word, met by the world's own term for the bytes: nothing is compared byte by byte -/
theorem code_word {y : MethodName} {bytes : ByteArray} {mx : Nat} {rt : Option FieldType} {a : Array Value} {s : State} {m : MethodId} {meth : Method} {c : Code} (h1 : s.methodNamed? y = some m) (h2 : s.vm.method? m = some meth) (h3 : meth.code = some c) (h4 : c.code = bytes)
    (h5 : (c.maxLocals == mx && c.exceptionTable.isEmpty && decide (c.maxStack ≤ mostOperands) && decide (meth.sig.returnType = rt) && !meth.locks && decide (parseMethodDescriptor y.desc = some meth.sig)) = true) : (Jvm.Cond.code y bytes mx rt).before a s = true := by
  simp only [Bool.and_eq_true, beq_iff_eq, Bool.not_eq_true', decide_eq_true_eq] at h5
  obtain ⟨⟨⟨⟨⟨g1, g2⟩, g3⟩, g4⟩, g5⟩, g6⟩ := h5
  simp [Cond.before, Cond.holds, Cond.value, h1, h2, h3, h4, g1, g2, g3, g4, g5, g6]
def isCode : Jvm.Cond → Bool
  | .code _ _ _ _ => true
  | _ => false
theorem all_split {L : List Jvm.Cond} {P : Jvm.Cond → Bool} (h1 : L.all (fun c => isCode c || P c) = true) (h2 : ∀ c ∈ L.filter isCode, P c = true) : L.all P = true := by
  refine List.all_eq_true.mpr fun c hc => ?_
  have h := List.all_eq_true.mp h1 c hc
  rcases Bool.eq_false_or_eq_true (isCode c) with hi | hi
  · exact h2 c (List.mem_filter.mpr ⟨hc, hi⟩)
  · simpa [hi] using h
set_option maxRecDepth 65536 in
theorem w_c0 : (Jvm.Cond.code x code maxLocals ret).before args0 about1 = true := code_word (m := ⟨1, 2⟩) (meth := k1m2) (c := k1c2) (by decide +kernel) rfl rfl rfl (by decide +kernel)
set_option maxRecDepth 65536 in
theorem w_c1 : (Jvm.Cond.code ({ cls := "com/example/vestline/vestline/TerminationReasonNamedPinLaw", name := "build", desc := "(IC)[C" } : Jvm.MethodName) method_2_code (2 : Nat) (Option.some (Jvm.ClassFile.FieldType.array Jvm.ClassFile.FieldType.char))).before args0 about1 = true := code_word (m := ⟨1, 1⟩) (meth := k1m1) (c := k1c1) (by decide +kernel) rfl rfl rfl (by decide +kernel)
set_option maxRecDepth 65536 in
theorem w_c2 : (Jvm.Cond.code ({ cls := "java/lang/String", name := "<init>", desc := "([C)V" } : Jvm.MethodName) jdk_42_method_3_code (2 : Nat) (Option.none : Option Jvm.ClassFile.FieldType)).before args0 about1 = true := code_word (m := ⟨7, 1⟩) (meth := k7m1) (c := k7c1) (by decide +kernel) rfl rfl rfl (by decide +kernel)
set_option maxRecDepth 65536 in
theorem w_c3 : (Jvm.Cond.code ({ cls := "java/lang/String", name := "<init>", desc := "([CIILjava/lang/Void;)V" } : Jvm.MethodName) jdk_42_method_149_code (6 : Nat) (Option.none : Option Jvm.ClassFile.FieldType)).before args0 about1 = true := code_word (m := ⟨7, 3⟩) (meth := k7m3) (c := k7c3) (by decide +kernel) rfl rfl rfl (by decide +kernel)
set_option maxRecDepth 65536 in
theorem w_c4 : (Jvm.Cond.code ({ cls := "java/lang/Object", name := "<init>", desc := "()V" } : Jvm.MethodName) object_method_1_code (1 : Nat) (Option.none : Option Jvm.ClassFile.FieldType)).before args0 about1 = true := code_word (m := ⟨0, 0⟩) (meth := k0m0) (c := k0c0) (by decide +kernel) rfl rfl rfl (by decide +kernel)
set_option maxRecDepth 65536 in
theorem w_c5 : (Jvm.Cond.code ({ cls := "java/lang/String", name := "equals", desc := "(Ljava/lang/Object;)Z" } : Jvm.MethodName) jdk_42_method_66_code (3 : Nat) (Option.some Jvm.ClassFile.FieldType.boolean)).before args0 about1 = true := code_word (m := ⟨7, 2⟩) (meth := k7m2) (c := k7c2) (by decide +kernel) rfl rfl rfl (by decide +kernel)
set_option maxRecDepth 65536 in
theorem w_c6 : (Jvm.Cond.code ({ cls := "java/lang/StringLatin1", name := "equals", desc := "([B[B)Z" } : Jvm.MethodName) jdk_43_method_13_code (3 : Nat) (Option.some Jvm.ClassFile.FieldType.boolean)).before args0 about1 = true := code_word (m := ⟨8, 1⟩) (meth := k8m1) (c := k8c1) (by decide +kernel) rfl rfl rfl (by decide +kernel)
set_option maxRecDepth 65536 in
theorem w_c7 : (Jvm.Cond.code ({ cls := "com/example/vestline/vestline/TerminationReason", name := "named", desc := "(Ljava/lang/String;)Ljava/util/Optional;" } : Jvm.MethodName) prog_17_method_5_code (6 : Nat) (Option.some (Jvm.ClassFile.FieldType.object "java/util/Optional"))).before args0 about1 = true := code_word (m := ⟨10, 1⟩) (meth := k10m1) (c := k10c1) (by decide +kernel) rfl rfl rfl (by decide +kernel)
set_option maxRecDepth 65536 in
theorem w_c8 : (Jvm.Cond.code ({ cls := "java/util/Optional", name := "empty", desc := "()Ljava/util/Optional;" } : Jvm.MethodName) jdk_32_method_1_code (1 : Nat) (Option.some (Jvm.ClassFile.FieldType.object "java/util/Optional"))).before args0 about1 = true := code_word (m := ⟨11, 0⟩) (meth := k11m0) (c := k11c0) (by decide +kernel) rfl rfl rfl (by decide +kernel)
set_option maxRecDepth 65536 in
theorem w_c9 : (Jvm.Cond.code ({ cls := "com/example/vestline/vestline/TerminationReason", name := "values", desc := "()[Lcom/example/vestline/vestline/TerminationReason;" } : Jvm.MethodName) prog_17_method_1_code (0 : Nat) (Option.some (Jvm.ClassFile.FieldType.array (Jvm.ClassFile.FieldType.object "com/example/vestline/vestline/TerminationReason")))).before args0 about1 = true := code_word (m := ⟨10, 0⟩) (meth := k10m0) (c := k10c0) (by decide +kernel) rfl rfl rfl (by decide +kernel)
set_option maxRecDepth 65536 in
theorem w_c10 : (Jvm.Cond.code ({ cls := "java/util/Optional", name := "orElse", desc := "(Ljava/lang/Object;)Ljava/lang/Object;" } : Jvm.MethodName) jdk_32_method_15_code (2 : Nat) (Option.some (Jvm.ClassFile.FieldType.object "java/lang/Object"))).before args0 about1 = true := code_word (m := ⟨11, 3⟩) (meth := k11m3) (c := k11c3) (by decide +kernel) rfl rfl rfl (by decide +kernel)
set_option maxRecDepth 65536 in
theorem w_c11 : (Jvm.Cond.code ({ cls := "java/lang/StringUTF16", name := "compress", desc := "([CII)[B" } : Jvm.MethodName) jdk_52_method_16_code (6 : Nat) (Option.some (Jvm.ClassFile.FieldType.array Jvm.ClassFile.FieldType.byte))).before args0 about1 = true := code_word (m := ⟨13, 2⟩) (meth := k13m2) (c := k13c2) (by decide +kernel) rfl rfl rfl (by decide +kernel)
set_option maxRecDepth 65536 in
theorem w_c12 : (Jvm.Cond.code ({ cls := "java/lang/StringUTF16", name := "compress", desc := "([CI[BII)I" } : Jvm.MethodName) jdk_52_method_21_code (7 : Nat) (Option.some Jvm.ClassFile.FieldType.int)).before args0 about1 = true := code_word (m := ⟨13, 3⟩) (meth := k13m3) (c := k13c3) (by decide +kernel) rfl rfl rfl (by decide +kernel)
set_option maxRecDepth 65536 in
theorem w_c13 : (Jvm.Cond.code ({ cls := "java/lang/StringUTF16", name := "coderFromArrayLen", desc := "([BI)B" } : Jvm.MethodName) jdk_52_method_15_code (2 : Nat) (Option.some Jvm.ClassFile.FieldType.byte)).before args0 about1 = true := code_word (m := ⟨13, 1⟩) (meth := k13m1) (c := k13c1) (by decide +kernel) rfl rfl rfl (by decide +kernel)
set_option maxRecDepth 65536 in
theorem w_c14 : (Jvm.Cond.code ({ cls := "java/util/Optional", name := "of", desc := "(Ljava/lang/Object;)Ljava/util/Optional;" } : Jvm.MethodName) jdk_32_method_3_code (1 : Nat) (Option.some (Jvm.ClassFile.FieldType.object "java/util/Optional"))).before args0 about1 = true := code_word (m := ⟨11, 2⟩) (meth := k11m2) (c := k11c2) (by decide +kernel) rfl rfl rfl (by decide +kernel)
set_option maxRecDepth 65536 in
theorem w_c15 : (Jvm.Cond.code ({ cls := "java/util/Objects", name := "requireNonNull", desc := "(Ljava/lang/Object;)Ljava/lang/Object;" } : Jvm.MethodName) jdk_31_method_10_code (1 : Nat) (Option.some (Jvm.ClassFile.FieldType.object "java/lang/Object"))).before args0 about1 = true := code_word (m := ⟨14, 1⟩) (meth := k14m1) (c := k14c1) (by decide +kernel) rfl rfl rfl (by decide +kernel)
set_option maxRecDepth 65536 in
theorem w_c16 : (Jvm.Cond.code ({ cls := "java/util/Optional", name := "<init>", desc := "(Ljava/lang/Object;)V" } : Jvm.MethodName) jdk_32_method_2_code (2 : Nat) (Option.none : Option Jvm.ClassFile.FieldType)).before args0 about1 = true := code_word (m := ⟨11, 1⟩) (meth := k11m1) (c := k11c1) (by decide +kernel) rfl rfl rfl (by decide +kernel)
def codes1 : List Jvm.Cond := [Jvm.Cond.code x code maxLocals ret, Jvm.Cond.code ({ cls := "com/example/vestline/vestline/TerminationReasonNamedPinLaw", name := "build", desc := "(IC)[C" } : Jvm.MethodName) method_2_code (2 : Nat) (Option.some (Jvm.ClassFile.FieldType.array Jvm.ClassFile.FieldType.char)), Jvm.Cond.code ({ cls := "java/lang/String", name := "<init>", desc := "([C)V" } : Jvm.MethodName) jdk_42_method_3_code (2 : Nat) (Option.none : Option Jvm.ClassFile.FieldType), Jvm.Cond.code ({ cls := "java/lang/String", name := "<init>", desc := "([CIILjava/lang/Void;)V" } : Jvm.MethodName) jdk_42_method_149_code (6 : Nat) (Option.none : Option Jvm.ClassFile.FieldType), Jvm.Cond.code ({ cls := "java/lang/Object", name := "<init>", desc := "()V" } : Jvm.MethodName) object_method_1_code (1 : Nat) (Option.none : Option Jvm.ClassFile.FieldType), Jvm.Cond.code ({ cls := "java/lang/String", name := "equals", desc := "(Ljava/lang/Object;)Z" } : Jvm.MethodName) jdk_42_method_66_code (3 : Nat) (Option.some Jvm.ClassFile.FieldType.boolean), Jvm.Cond.code ({ cls := "java/lang/StringLatin1", name := "equals", desc := "([B[B)Z" } : Jvm.MethodName) jdk_43_method_13_code (3 : Nat) (Option.some Jvm.ClassFile.FieldType.boolean), Jvm.Cond.code ({ cls := "com/example/vestline/vestline/TerminationReason", name := "named", desc := "(Ljava/lang/String;)Ljava/util/Optional;" } : Jvm.MethodName) prog_17_method_5_code (6 : Nat) (Option.some (Jvm.ClassFile.FieldType.object "java/util/Optional")), Jvm.Cond.code ({ cls := "java/util/Optional", name := "empty", desc := "()Ljava/util/Optional;" } : Jvm.MethodName) jdk_32_method_1_code (1 : Nat) (Option.some (Jvm.ClassFile.FieldType.object "java/util/Optional")), Jvm.Cond.code ({ cls := "com/example/vestline/vestline/TerminationReason", name := "values", desc := "()[Lcom/example/vestline/vestline/TerminationReason;" } : Jvm.MethodName) prog_17_method_1_code (0 : Nat) (Option.some (Jvm.ClassFile.FieldType.array (Jvm.ClassFile.FieldType.object "com/example/vestline/vestline/TerminationReason"))), Jvm.Cond.code ({ cls := "java/util/Optional", name := "orElse", desc := "(Ljava/lang/Object;)Ljava/lang/Object;" } : Jvm.MethodName) jdk_32_method_15_code (2 : Nat) (Option.some (Jvm.ClassFile.FieldType.object "java/lang/Object")), Jvm.Cond.code ({ cls := "java/lang/StringUTF16", name := "compress", desc := "([CII)[B" } : Jvm.MethodName) jdk_52_method_16_code (6 : Nat) (Option.some (Jvm.ClassFile.FieldType.array Jvm.ClassFile.FieldType.byte)), Jvm.Cond.code ({ cls := "java/lang/StringUTF16", name := "compress", desc := "([CI[BII)I" } : Jvm.MethodName) jdk_52_method_21_code (7 : Nat) (Option.some Jvm.ClassFile.FieldType.int), Jvm.Cond.code ({ cls := "java/lang/StringUTF16", name := "coderFromArrayLen", desc := "([BI)B" } : Jvm.MethodName) jdk_52_method_15_code (2 : Nat) (Option.some Jvm.ClassFile.FieldType.byte), Jvm.Cond.code ({ cls := "java/util/Optional", name := "of", desc := "(Ljava/lang/Object;)Ljava/util/Optional;" } : Jvm.MethodName) jdk_32_method_3_code (1 : Nat) (Option.some (Jvm.ClassFile.FieldType.object "java/util/Optional")), Jvm.Cond.code ({ cls := "java/util/Objects", name := "requireNonNull", desc := "(Ljava/lang/Object;)Ljava/lang/Object;" } : Jvm.MethodName) jdk_31_method_10_code (1 : Nat) (Option.some (Jvm.ClassFile.FieldType.object "java/lang/Object")), Jvm.Cond.code ({ cls := "java/util/Optional", name := "<init>", desc := "(Ljava/lang/Object;)V" } : Jvm.MethodName) jdk_32_method_2_code (2 : Nat) (Option.none : Option Jvm.ClassFile.FieldType)]
set_option maxRecDepth 65536 in
theorem codes_eq : words1.filter isCode = codes1 := rfl
theorem w_codes : ∀ c ∈ words1.filter isCode, c.before args0 about1 = true := by
  rw [codes_eq]
  intro c hc
  simp only [codes1, List.mem_cons, List.not_mem_nil, or_false] at hc
  rcases hc with rfl | rfl | rfl | rfl | rfl | rfl | rfl | rfl | rfl | rfl | rfl | rfl | rfl | rfl | rfl | rfl | rfl
  · exact w_c0
  · exact w_c1
  · exact w_c2
  · exact w_c3
  · exact w_c4
  · exact w_c5
  · exact w_c6
  · exact w_c7
  · exact w_c8
  · exact w_c9
  · exact w_c10
  · exact w_c11
  · exact w_c12
  · exact w_c13
  · exact w_c14
  · exact w_c15
  · exact w_c16
set_option maxRecDepth 65536 in
theorem w_t1 : (words1.take 24).all (fun c => isCode c || c.before args0 about1) = true := by decide +kernel
set_option maxRecDepth 65536 in
theorem w_t2 : ((words1.drop 24).take 24).all (fun c => isCode c || c.before args0 about1) = true := by decide +kernel
set_option maxRecDepth 65536 in
theorem w_t3 : (((words1.drop 24).drop 24).take 24).all (fun c => isCode c || c.before args0 about1) = true := by decide +kernel
set_option maxRecDepth 65536 in
theorem w_t4 : ((((words1.drop 24).drop 24).drop 24).take 24).all (fun c => isCode c || c.before args0 about1) = true := by decide +kernel
set_option maxRecDepth 65536 in
theorem w_t5 : ((((words1.drop 24).drop 24).drop 24).drop 24).all (fun c => isCode c || c.before args0 about1) = true := by decide +kernel
theorem w_tables : (allAtoms (Jvm.Cond.code x code maxLocals ret :: tables_1)).before args0 about1 = true := by
  rw [allAtoms_all]
  show words1.all (fun c => c.before args0 about1) = true
  refine all_split ?_ w_codes
  rw [← List.take_append_drop 24 words1, List.all_append, w_t1, ← List.take_append_drop 24 (words1.drop 24), List.all_append, w_t2, ← List.take_append_drop 24 ((words1.drop 24).drop 24), List.all_append, w_t3, ← List.take_append_drop 24 (((words1.drop 24).drop 24).drop 24), List.all_append, w_t4, w_t5]
  rfl
set_option maxRecDepth 65536 in
theorem w_rest : rest_1_c.before args0 about1 = true := by decide +kernel
set_option maxRecDepth 65536 in
theorem w_case : (Jvm.Cond.and given_1 narrow_1).before args0 about1 = true := by decide +kernel
set_option maxRecDepth 65536 in
theorem w_consts : constsHeld consts_1 about1 := Jvm.Lit.constsHeldB_iff.mp (by decide +kernel)
theorem w_applies : (headSpec (Jvm.Cond.code x code maxLocals ret :: tables_1) room_1).applies x e0.platform about1 = true :=
  (Spec.applies_iff w_frames).mpr ⟨w_running, w_runnable, w_alone, w_named, w_hears, w_ripe, w_room, w_tables⟩
theorem atStart : AtStart classFile x code maxLocals ret World_1 tables_1 room_1 Calls_1 rest_1 Pre_1 launch0 p0 e0 about1 theMethod args0 below0 :=
  ⟨lists_1, trivial, launch0.admits_env _ _ _, launch0.least_env, fairChoices_fair.cas, fairChoices_fair.clock, w_frames, w_args, w_heap, w_applies, ⟨w_consts, trivial⟩, w_rest, w_case⟩
end start1
theorem witness_1 : WitnessClaimed_1 := ⟨start1.p0, start1.e0, start1.about1, start1.theMethod, start1.args0, start1.below0, start1.atStart⟩
end Jvm.Pilot.@@N@@
