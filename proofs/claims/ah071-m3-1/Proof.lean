import JvmDerived
import JvmDerived.Pilot.@@N@@Statement
import JvmDerived.Pilot.@@N@@Code
set_option linter.unusedVariables false
set_option linter.unusedSimpArgs false
namespace Jvm.RoadKit
open Sem ClassFile Op Lib Jvm.Stand Jvm.Free Jvm.LawKit
section New
variable {p : Program} {l : Launch} {e : Env} {R : Room} {s : State} {m : MethodId} {args : Array Value} {below : List Frame} {meth : Method} {c : Code} {T : State} {locs : List Loc} {cells slots : Nat}
theorem retI (X : Stand p l e R s m args below meth c T locs cells slots) (hx : p.tables.exec = Jvm.exec) {pc : Nat} {Ls : Array Slot} {z : Int32} {rest : List Value} (hret : meth.sig.returnType = some .int) (hd : decode c.code pc = .ok (.ireturn, 1)) {fs : List Frame}
    (hl : ∀ (f : JFrame) (acts : List Action), f.method = m → f.locked = none → f.entered = [] → (doReturn e (T.setTop f) acts (some (.int z))).1 = T.setFrames fs) : Steps p.tables e below (T.setTop (mkF m pc Ls (.int z :: rest))) (T.setFrames fs) := by
  have hm' : T.vm.method? m = some meth := X.method'
  have hn : narrow .int (.int z) = .int z := rfl
  show Steps p.tables e below (T.setTop { method := m, pc := pc, locals := Ls, stack := _ :: rest, locked := none }) _
  jvm_step X.here [X.here.top, hx, hd, hm', hret, hn]
  first | (intro acts; rw [hl _ acts rfl rfl rfl]) | rw [hl _ _ rfl rfl rfl]
  exact Steps.refl _
end New
end Jvm.RoadKit
/- laws to paste: Road.codOf, Road.backV, Road.lenW, Road.chN, Road.empW (cut by pick.py; bodies as the Statement names them) -/
namespace Jvm.Pilot.@@N@@
namespace StrChars
open Jvm Sem ClassFile Op Lib Jvm.Stand Jvm.Free.XT Jvm.Free.ALB Jvm.Free.JM Jvm.Free
open Jvm.Lib.Cold (StaticIs)
/-- a char array whose places are chars -/
def Ch (a : Addr) (A : Cell) (U : State) : Prop := Arr .char a A U ∧ Typed .char A
theorem Ch.mv {a : Addr} {A : Cell} {U U' : State} (h : Ch a A U) (hal : U.vm.Alike U'.vm) (hh : U'.heap = U.heap) : Ch a A U' := ⟨h.1.mv hal hh, h.2⟩
theorem Ch.keep {a : Addr} {A : Cell} {U U' : State} (h : Ch a A U) (hal : U.vm.Alike U'.vm) (hk : U'.heap[a]? = some A) : Ch a A U' := ⟨h.1.keep hal hk, h.2⟩
/-- what place i of a char[]'s cell holds -/
def cv (A : Cell) (i : Nat) : Int32 := match A.slots[i]? with | some (.int x) => x | _ => 0
theorem Ch.get {a : Addr} {A : Cell} {U : State} (h : Ch a A U) {i : Nat} (hi : i < A.slots.size) : A.slots[i]? = some (.int (cv A i)) := by
  have e := Array.getElem?_eq_getElem hi
  have f := h.2 i _ e
  unfold cv; rw [e]
  generalize A.slots[i] = v at f
  cases v <;> simp [fits] at f ⊢
/-- the byte that i2b leaves of a char -/
def lo8 (x : Int32) : Int32 := x.toInt8.toInt32
theorem fits_lo8 (y : Int32) : fits .byte (.int (lo8 y)) = true := by
  have h1 := y.toInt8.le_toInt
  have h2 := y.toInt8.toInt_lt
  simp only [lo8, fits, Bool.and_eq_true, decide_eq_true_eq, Int32.le_iff_toInt_le, Int8.toInt_toInt32, show (-128 : Int32).toInt = -128 from by decide, show (127 : Int32).toInt = 127 from by decide]
  omega
/-- A' is A but that each place j of lo .. hi - 1 holds f j -/
def Laid (A A' : Cell) (lo hi : Nat) (f : Nat → Value) : Prop := A'.cls = A.cls ∧ A'.vm = A.vm ∧ A'.slots.size = A.slots.size ∧ ∀ i, A'.slots[i]? = if lo ≤ i ∧ i < hi then some (f i) else A.slots[i]?
theorem Laid.zero (A : Cell) (lo : Nat) (f : Nat → Value) : Laid A A lo (lo + 0) f := ⟨rfl, rfl, rfl, fun i => by rw [if_neg (by omega)]⟩
theorem Laid.step {A Ak : Cell} {lo k : Nat} {f : Nat → Value} {v : Value} (h : Laid A Ak lo k f) (hlo : lo ≤ k) (hk : k < Ak.slots.size) (hv : v = f k) : Laid A (Ak.setSlot k v) lo (k + 1) f := by
  refine ⟨h.1, h.2.1, by simpa [Cell.setSlot] using h.2.2.1, fun i => ?_⟩
  by_cases e : k = i
  · subst e; rw [Cell.slots_setSlot_self v hk, if_pos (by omega), hv]
  · rw [Cell.slots_setSlot_ne v e, h.2.2.2 i]
    by_cases q : lo ≤ i ∧ i < k
    · rw [if_pos q, if_pos (by omega)]
    · rw [if_neg q, if_neg (by omega)]
def U16 : String := "java/lang/StringUTF16"
namespace Cmp5
def yN : MethodName := ⟨"java/lang/StringUTF16", "compress", "([CI[BII)I"⟩
abbrev yB : ByteArray := jdk_52_method_21_code
theorem d0 : decode yB 0 = .ok (.iconst 0, 1) := by decide +kernel
theorem d1 : decode yB 1 = .ok (.istore 5, 2) := by decide +kernel
theorem d3 : decode yB 3 = .ok (.iload 5, 2) := by decide +kernel
theorem d5 : decode yB 5 = .ok (.iload 4, 2) := by decide +kernel
theorem d7 : decode yB 7 = .ok (.if_icmp (.ge) 37, 3) := by decide +kernel
theorem d10 : decode yB 10 = .ok (.aload_n 0, 1) := by decide +kernel
theorem d11 : decode yB 11 = .ok (.iload_n 1, 1) := by decide +kernel
theorem d12 : decode yB 12 = .ok (.caload, 1) := by decide +kernel
theorem d13 : decode yB 13 = .ok (.istore 6, 2) := by decide +kernel
theorem d15 : decode yB 15 = .ok (.iload 6, 2) := by decide +kernel
theorem d17 : decode yB 17 = .ok (.sipush 255, 3) := by decide +kernel
theorem d20 : decode yB 20 = .ok (.if_icmp (.le) 6, 3) := by decide +kernel
theorem d26 : decode yB 26 = .ok (.aload_n 2, 1) := by decide +kernel
theorem d27 : decode yB 27 = .ok (.iload_n 3, 1) := by decide +kernel
theorem d28 : decode yB 28 = .ok (.iload 6, 2) := by decide +kernel
theorem d30 : decode yB 30 = .ok (.i2b, 1) := by decide +kernel
theorem d31 : decode yB 31 = .ok (.bastore, 1) := by decide +kernel
theorem d32 : decode yB 32 = .ok (.iinc 1 1, 3) := by decide +kernel
theorem d35 : decode yB 35 = .ok (.iinc 3 1, 3) := by decide +kernel
theorem d38 : decode yB 38 = .ok (.iinc 5 1, 3) := by decide +kernel
theorem d41 : decode yB 41 = .ok (.goto (-38), 3) := by decide +kernel
theorem d44 : decode yB 44 = .ok (.iload 4, 2) := by decide +kernel
theorem d46 : decode yB 46 = .ok (.ireturn, 1) := by decide +kernel
def site : List Cond := []
def tab : Cond := tabOf yN yB 7 (some .int) site
def P (b : Addr) (A : Cell) (d : Addr) (B : Cell) (o q len : Nat) (args : Array Value) (s : State) : Prop := args = #[.ref b, .int (Int32.ofNat o), .ref d, .int (Int32.ofNat q), .int (Int32.ofNat len)] ∧ Ch b A s ∧ Arr .byte d B s ∧ b ≠ d ∧ o + len ≤ A.slots.size ∧ q + len ≤ B.slots.size ∧ ∀ i, i < len → ¬ 255 < cv A (o + i)
def E (b : Addr) (A : Cell) (d : Addr) (B : Cell) (o q len : Nat) (r : Option Value) (s u : State) : Prop := r = some (.int (Int32.ofNat len)) ∧ ∃ B', Put d B' s u ∧ Laid B B' q (q + len) (fun j => Value.int (lo8 (cv A (o + (j - q)))))
/-- no char of the range above 255: len; the places written hold each char's low byte -/
theorem law (l : Launch) (b : Addr) (A : Cell) (d : Addr) (B : Cell) (o q len : Nat) : Law l yN 5 5 0 0 yB 7 (some .int) site (P b A d B o q len) (E b A d B o q len) (copyLocs d q len) 0 0 := by
  refine Law.of_walk (plainFor_of_name (by decide +kernel)) (by decide +kernel) (by decide +kernel) (by decide) (fun _ _ h => by rw [h.1]; rfl) (fun _ U U' hal hh h => ⟨h.1, h.2.1.mv hal hh, h.2.2.1.mv hal hh, h.2.2.2⟩) (fun r U U' V V' h1 hal h2 h => ⟨h.1, h.2.elim fun B' q => ⟨B', q.1.mv h1 h2, q.2⟩⟩) ?_
  intro p e s m args below meth c s₁ X0 hexec hbytes hml hret hlk hnm hown hh0 W hP
  obtain ⟨rfl, hA, hB, hne, l1, l2, hp⟩ := hP
  have c1 : Steps p.tables e below (s₁.setTop (entryFrame m #[.ref b, .int (Int32.ofNat o), .ref d, .int (Int32.ofNat q), .int (Int32.ofNat len)] 7)) (s₁.setTop (mkF m 0 #[.val (.ref b), .val (.int (Int32.ofNat o)), .val (.ref d), .val (.int (Int32.ofNat q)), .val (.int (Int32.ofNat len)), .unset, .unset] [])) := entry rfl
  have hA0 := hA.1.mv X0.warmed.alike hh0
  have hB0 := hB.mv X0.warmed.alike hh0
  have a31 := hA.1.2.2.2
  have c2 : Steps p.tables e below (s₁.setTop (entryFrame m #[.ref b, .int (Int32.ofNat o), .ref d, .int (Int32.ofNat q), .int (Int32.ofNat len)] 7)) (s₁.setTop (mkF m 3 #[.val (.ref b), .val (.int (Int32.ofNat o)), .val (.ref d), .val (.int (Int32.ofNat q)), .val (.int (Int32.ofNat len)), .val (.int 0), .unset] [])) := c1.trans (by
    refine iconstV X0.here hexec rfl 0 (hb hbytes d0) (by decide) ?_
    refine XS.istore X0.here hexec rfl (hb hbytes d1) rfl rfl ?_
    exact Steps.refl _)
  have loop : ∀ (r i : Nat), i + r = len → ∀ (z : Slot), (z = .unset ∨ ∃ w, z = .val w ∧ w.category = 1) → ∀ (Tl : State) (Bk : Cell), Stand p l e { frames := 0, locals := 0, cells := 0, slots := 0 } s m #[.ref b, .int (Int32.ofNat o), .ref d, .int (Int32.ofNat q), .int (Int32.ofNat len)] below meth c Tl ([] ++ copyLocs d q i) 0 0 → Put d Bk s₁ Tl → Laid B Bk q (q + i) (fun j => Value.int (lo8 (cv A (o + (j - q))))) →
      Steps p.tables e below (s₁.setTop (entryFrame m #[.ref b, .int (Int32.ofNat o), .ref d, .int (Int32.ofNat q), .int (Int32.ofNat len)] 7)) (Tl.setTop (mkF m 3 #[.val (.ref b), .val (.int (Int32.ofNat (o + i))), .val (.ref d), .val (.int (Int32.ofNat (q + i))), .val (.int (Int32.ofNat len)), .val (.int (Int32.ofNat i)), z] [])) → ∃ (T' : State) (B' : Cell) (z' : Slot), Stand p l e { frames := 0, locals := 0, cells := 0, slots := 0 } s m #[.ref b, .int (Int32.ofNat o), .ref d, .int (Int32.ofNat q), .int (Int32.ofNat len)] below meth c T' ([] ++ copyLocs d q len) 0 0 ∧ Put d B' s₁ T' ∧ Laid B B' q (q + len) (fun j => Value.int (lo8 (cv A (o + (j - q))))) ∧
      Steps p.tables e below (s₁.setTop (entryFrame m #[.ref b, .int (Int32.ofNat o), .ref d, .int (Int32.ofNat q), .int (Int32.ofNat len)] 7)) (T'.setTop (mkF m 3 #[.val (.ref b), .val (.int (Int32.ofNat (o + len))), .val (.ref d), .val (.int (Int32.ofNat (q + len))), .val (.int (Int32.ofNat len)), .val (.int (Int32.ofNat len)), z'] [])) := by
    intro r
    induction r with
    | zero =>
      intro i hi z hz Tl Bk Xl pl fl cl
      have hil : i = len := by omega
      rw [hil] at Xl fl cl
      exact ⟨Tl, Bk, z, Xl, pl, fl, cl⟩
    | succ r ih =>
      intro i hi z hz Tl Bk Xl pl fl cl
      have all := X0.warmed.alike.symm.trans Xl.warmed.alike
      have hAl := hA0.keep all (pl.other hne hA0.1)
      have hBk := hB0.like all pl.1 fl.1 fl.2.1 fl.2.2.1
      have hlt : q + i < Bk.slots.size := by rw [fl.2.2.1]; omega
      have c3 : Steps p.tables e below (s₁.setTop (entryFrame m #[.ref b, .int (Int32.ofNat o), .ref d, .int (Int32.ofNat q), .int (Int32.ofNat len)] 7)) (Tl.setTop (mkF m 12 #[.val (.ref b), .val (.int (Int32.ofNat (o + i))), .val (.ref d), .val (.int (Int32.ofNat (q + i))), .val (.int (Int32.ofNat len)), .val (.int (Int32.ofNat i)), z] [.int (Int32.ofNat (o + i)), .ref b])) := cl.trans (by
        refine XS.iload Xl.here hexec rfl (hb hbytes d3) rfl ?_
        refine XS.iload Xl.here hexec rfl (hb hbytes d5) rfl ?_
        refine XS.icmpNo Xl.here hexec rfl (hb hbytes d7) rfl (ii_ge_f (lt32 (by omega) (by omega))) ?_
        refine XS.aloadN Xl.here hexec rfl (hb hbytes d10) rfl rfl ?_
        refine XS.iloadN Xl.here hexec rfl (hb hbytes d11) rfl ?_
        exact Steps.refl _)
      have c4 : Steps p.tables e below (s₁.setTop (entryFrame m #[.ref b, .int (Int32.ofNat o), .ref d, .int (Int32.ofNat q), .int (Int32.ofNat len)] 7)) (Tl.setTop (mkF m 13 #[.val (.ref b), .val (.int (Int32.ofNat (o + i))), .val (.ref d), .val (.int (Int32.ofNat (q + i))), .val (.int (Int32.ofNat len)), .val (.int (Int32.ofNat i)), z] [.int (cv A (o + i))])) := c3.trans (by
        refine Xl.aget hexec hAl rfl (hA.get (i := o + i) (by omega)) rfl rfl (hb hbytes d12) ?_
        exact Steps.refl _)
      have c5 : Steps p.tables e below (s₁.setTop (entryFrame m #[.ref b, .int (Int32.ofNat o), .ref d, .int (Int32.ofNat q), .int (Int32.ofNat len)] 7)) (Tl.setTop (mkF m 15 #[.val (.ref b), .val (.int (Int32.ofNat (o + i))), .val (.ref d), .val (.int (Int32.ofNat (q + i))), .val (.int (Int32.ofNat len)), .val (.int (Int32.ofNat i)), .val (.int (cv A (o + i)))] [])) := c4.trans (by
        refine XS.istoreS Xl.here hexec rfl (hb hbytes d13) rfl rfl hz ?_
        exact Steps.refl _)
      have c6 : Steps p.tables e below (s₁.setTop (entryFrame m #[.ref b, .int (Int32.ofNat o), .ref d, .int (Int32.ofNat q), .int (Int32.ofNat len)] 7)) (Tl.setTop (mkF m 31 #[.val (.ref b), .val (.int (Int32.ofNat (o + i))), .val (.ref d), .val (.int (Int32.ofNat (q + i))), .val (.int (Int32.ofNat len)), .val (.int (Int32.ofNat i)), .val (.int (cv A (o + i)))] [.int (lo8 (cv A (o + i))), .int (Int32.ofNat (q + i)), .ref d])) := c5.trans (by
        refine XS.iload Xl.here hexec rfl (hb hbytes d15) rfl ?_
        refine sipushV Xl.here hexec rfl 255 (hb hbytes d17) (by decide) ?_
        refine XS.icmpYes Xl.here hexec rfl (pc0 := 20) rfl (hb hbytes d20) rfl (ii_le_t (hp i (by omega))) (by decide) rfl ?_
        refine XS.aloadN Xl.here hexec rfl (hb hbytes d26) rfl rfl ?_
        refine XS.iloadN Xl.here hexec rfl (hb hbytes d27) rfl ?_
        refine XS.iload Xl.here hexec rfl (hb hbytes d28) rfl ?_
        refine i2b Xl.here hexec rfl (hb hbytes d30) rfl ?_
        exact Steps.refl _)
      obtain ⟨T7, X7, p7, st7⟩ := Xl.aput hexec hBk rfl hlt rfl (fits_lo8 (cv A (o + i))) (g := (mkF m 31 #[.val (.ref b), .val (.int (Int32.ofNat (o + i))), .val (.ref d), .val (.int (Int32.ofNat (q + i))), .val (.int (Int32.ofNat len)), .val (.int (Int32.ofNat i)), .val (.int (cv A (o + i)))] [.int (lo8 (cv A (o + i))), .int (Int32.ofNat (q + i)), .ref d])) rfl (rest := []) rfl (hb hbytes d31)
      have c8 : Steps p.tables e below (s₁.setTop (entryFrame m #[.ref b, .int (Int32.ofNat o), .ref d, .int (Int32.ofNat q), .int (Int32.ofNat len)] 7)) (T7.setTop (mkF m 32 #[.val (.ref b), .val (.int (Int32.ofNat (o + i))), .val (.ref d), .val (.int (Int32.ofNat (q + i))), .val (.int (Int32.ofNat len)), .val (.int (Int32.ofNat i)), .val (.int (cv A (o + i)))] [])) := c6.trans (st7 _ (Steps.refl _))
      have c9 : Steps p.tables e below (s₁.setTop (entryFrame m #[.ref b, .int (Int32.ofNat o), .ref d, .int (Int32.ofNat q), .int (Int32.ofNat len)] 7)) (T7.setTop (mkF m 3 #[.val (.ref b), .val (.int (Int32.ofNat (o + i) + 1)), .val (.ref d), .val (.int (Int32.ofNat (q + i) + 1)), .val (.int (Int32.ofNat len)), .val (.int (Int32.ofNat i + 1)), .val (.int (cv A (o + i)))] [])) := c8.trans (by
        refine iincV X7.here hexec rfl 1 (hb hbytes d32) (by decide) rfl rfl ?_
        refine iincV X7.here hexec rfl 1 (hb hbytes d35) (by decide) rfl rfl ?_
        refine iincV X7.here hexec rfl 1 (hb hbytes d38) (by decide) rfl rfl ?_
        refine XS.goto X7.here hexec rfl (pc0 := 41) rfl (hb hbytes d41) (by decide) rfl ?_
        exact Steps.refl _)
      have c10 : Steps p.tables e below (s₁.setTop (entryFrame m #[.ref b, .int (Int32.ofNat o), .ref d, .int (Int32.ofNat q), .int (Int32.ofNat len)] 7)) (T7.setTop (mkF m 3 #[.val (.ref b), .val (.int (Int32.ofNat (o + (i + 1)))), .val (.ref d), .val (.int (Int32.ofNat (q + (i + 1)))), .val (.int (Int32.ofNat len)), .val (.int (Int32.ofNat (i + 1))), .val (.int (cv A (o + i)))] [])) := by
        have := c9
        rw [succ32, succ32, succ32] at this
        exact this
      exact ih (i + 1) (by omega) _ (Or.inr ⟨_, rfl, rfl⟩) T7 _ (by rw [copyLocs_step, ← List.append_assoc]; exact X7) (pl.trans p7) (fl.step (by omega) hlt (by simp)) c10
  obtain ⟨T9, B9, z9, X9, p9, f9, g9⟩ := loop len 0 (by omega) .unset (Or.inl rfl) s₁ B (by simpa [copyLocs] using X0) ⟨hB0.1, fun _ _ => rfl, rfl⟩ (Laid.zero _ _ _) c2
  have c11 : Steps p.tables e below (s₁.setTop (entryFrame m #[.ref b, .int (Int32.ofNat o), .ref d, .int (Int32.ofNat q), .int (Int32.ofNat len)] 7)) (T9.setTop (mkF m 46 #[.val (.ref b), .val (.int (Int32.ofNat (o + len))), .val (.ref d), .val (.int (Int32.ofNat (q + len))), .val (.int (Int32.ofNat len)), .val (.int (Int32.ofNat len)), z9] [.int (Int32.ofNat len)])) := g9.trans (by
    refine XS.iload X9.here hexec rfl (hb hbytes d3) rfl ?_
    refine XS.iload X9.here hexec rfl (hb hbytes d5) rfl ?_
    refine XS.icmpYes X9.here hexec rfl (pc0 := 7) rfl (hb hbytes d7) rfl (ii_ge_t (nlt32 (by omega) (Nat.le_refl _))) (by decide) rfl ?_
    refine XS.iload X9.here hexec rfl (hb hbytes d44) rfl ?_
    exact Steps.refl _)
  exact ⟨T9, some (.int (Int32.ofNat len)), _, _, _, X9, by simp, rfl, rfl, (fun h => by cases h), ⟨rfl, B9, p9.from hh0, f9⟩, fun fs hl => c11.trans (X9.ireturnOut hexec hret rfl (Or.inl rfl) (hb hbytes d46) hl)⟩
end Cmp5
namespace Cmp3
def yN : MethodName := ⟨"java/lang/StringUTF16", "compress", "([CII)[B"⟩
abbrev yB : ByteArray := jdk_52_method_16_code
theorem d0 : decode yB 0 = .ok (.iload_n 2, 1) := by decide +kernel
theorem d1 : decode yB 1 = .ok (.newarray .byte, 2) := by decide +kernel
theorem d3 : decode yB 3 = .ok (.astore_n 3, 1) := by decide +kernel
theorem d4 : decode yB 4 = .ok (.aload_n 0, 1) := by decide +kernel
theorem d5 : decode yB 5 = .ok (.iload_n 1, 1) := by decide +kernel
theorem d6 : decode yB 6 = .ok (.aload_n 3, 1) := by decide +kernel
theorem d7 : decode yB 7 = .ok (.iconst 0, 1) := by decide +kernel
theorem d8 : decode yB 8 = .ok (.iload_n 2, 1) := by decide +kernel
theorem d9 : decode yB 9 = .ok (.invokestatic 115, 3) := by decide +kernel
theorem d12 : decode yB 12 = .ok (.istore 4, 2) := by decide +kernel
theorem d14 : decode yB 14 = .ok (.iload 4, 2) := by decide +kernel
theorem d16 : decode yB 16 = .ok (.iload_n 2, 1) := by decide +kernel
theorem d17 : decode yB 17 = .ok (.if_icmp (.eq) 40, 3) := by decide +kernel
theorem d57 : decode yB 57 = .ok (.aload_n 3, 1) := by decide +kernel
theorem d58 : decode yB 58 = .ok (.areturn, 1) := by decide +kernel
def site : List Cond := [.arrayClass .byte, Cmp5.tab] ++ staticW U16 115 Cmp5.yN
def tab : Cond := tabOf yN yB 6 (some (.array .byte)) site
def P (b : Addr) (A : Cell) (o len : Nat) (args : Array Value) (s : State) : Prop := args = #[.ref b, .int (Int32.ofNat o), .int (Int32.ofNat len)] ∧ Ch b A s ∧ o + len ≤ A.slots.size ∧ len ≤ 536870912 ∧ ∀ i, i < len → ¬ 255 < cv A (o + i)
def E (b : Addr) (A : Cell) (o len : Nat) (r : Option Value) (s u : State) : Prop := NewArr .byte "[B" len (fun j => .int (lo8 (cv A (o + j)))) r s u ∧ u.heap.size = s.heap.size + 1
/-- no char of the range above 255: a new byte[] of their low bytes -/
theorem law (l : Launch) (b : Addr) (A : Cell) (o len : Nat) : Law l yN 3 3 1 18 yB 6 (some (.array .byte)) site (P b A o len) (E b A o len) [] 1 len := by
  refine Law.of_walk (plainFor_of_name (by decide +kernel)) (by decide +kernel) (by decide +kernel) (by decide) (fun _ _ h => by rw [h.1]; rfl) (fun _ U U' hal hh h => ⟨h.1, h.2.1.mv hal hh, h.2.2⟩) (fun r U U' V V' h1 hal h2 h => ⟨NewArr.mv r U U' V V' h1 hal h2 h.1, by rw [h1, h2]; exact h.2⟩) ?_
  intro p e s m args below meth c s₁ X0 hexec hbytes hml hret hlk hnm hown hh0 W hP
  obtain ⟨rfl, hA, l1, l2, hp⟩ := hP
  have a31 := hA.1.2.2.2
  have c1 : Steps p.tables e below (s₁.setTop (entryFrame m #[.ref b, .int (Int32.ofNat o), .int (Int32.ofNat len)] 6)) (s₁.setTop (mkF m 0 #[.val (.ref b), .val (.int (Int32.ofNat o)), .val (.int (Int32.ofNat len)), .unset, .unset, .unset] [])) := entry rfl
  have c2 : Steps p.tables e below (s₁.setTop (entryFrame m #[.ref b, .int (Int32.ofNat o), .int (Int32.ofNat len)] 6)) (s₁.setTop (mkF m 1 #[.val (.ref b), .val (.int (Int32.ofNat o)), .val (.int (Int32.ofNat len)), .unset, .unset, .unset] [.int (Int32.ofNat len)])) := c1.trans (by
    refine XS.iloadN X0.here hexec rfl (hb hbytes d0) rfl ?_
    exact Steps.refl _)
  obtain ⟨T3, B3, X3, ba3, bs3, bv3, bh3, bf3, st3⟩ := X0.anew hexec (atype := .byte) (wk W (.arrayClass .byte)) rfl (by show len * 1 ≤ _; omega) (by omega) (g := (mkF m 1 #[.val (.ref b), .val (.int (Int32.ofNat o)), .val (.int (Int32.ofNat len)), .unset, .unset, .unset] [.int (Int32.ofNat len)])) rfl (hb hbytes d1) (rest := []) rfl (Nat.le_refl _) (by show 0 + len ≤ len; omega)
  rw [hh0] at ba3 st3
  have kp3 : XT.Kept s T3 := (XT.Kept.of_eq hh0).push bh3
  have hA3 := hA.keep X3.warmed.alike (kp3 _ _ hA.1.1)
  have hne : b ≠ s.heap.size := hA.1.ne
  have c4 : Steps p.tables e below (s₁.setTop (entryFrame m #[.ref b, .int (Int32.ofNat o), .int (Int32.ofNat len)] 6)) (T3.setTop (mkF m 3 #[.val (.ref b), .val (.int (Int32.ofNat o)), .val (.int (Int32.ofNat len)), .unset, .unset, .unset] [.ref s.heap.size])) := c2.trans (st3 _ (Steps.refl _))
  have c5 : Steps p.tables e below (s₁.setTop (entryFrame m #[.ref b, .int (Int32.ofNat o), .int (Int32.ofNat len)] 6)) (T3.setTop (mkF m 9 #[.val (.ref b), .val (.int (Int32.ofNat o)), .val (.int (Int32.ofNat len)), .val (.ref s.heap.size), .unset, .unset] [.int (Int32.ofNat len), .int 0, .ref s.heap.size, .int (Int32.ofNat o), .ref b])) := c4.trans (by
    refine XS.astoreN X3.here hexec rfl (hb hbytes d3) rfl rfl rfl ?_
    refine XS.aloadN X3.here hexec rfl (hb hbytes d4) rfl rfl ?_
    refine XS.iloadN X3.here hexec rfl (hb hbytes d5) rfl ?_
    refine XS.aloadN X3.here hexec rfl (hb hbytes d6) rfl rfl ?_
    refine iconstV X3.here hexec rfl 0 (hb hbytes d7) (by decide) ?_
    refine XS.iloadN X3.here hexec rfl (hb hbytes d8) rfl ?_
    exact Steps.refl _)
  obtain ⟨v6, T6, X6, E6, g6⟩ := X3.callS hexec (Cmp5.law l b A s.heap.size B3 o 0 len) hown (wks W (staticW U16 115 Cmp5.yN)) (wk W Cmp5.tab) (W := 0) (Nat.le_of_ble_eq_true rfl) (Nat.le_of_ble_eq_true rfl) (Nat.le_refl _) (by show 0 + len + 0 ≤ len; omega) (g := (mkF m 9 #[.val (.ref b), .val (.int (Int32.ofNat o)), .val (.int (Int32.ofNat len)), .val (.ref s.heap.size), .unset, .unset] [.int (Int32.ofNat len), .int (Int32.ofNat 0), .ref s.heap.size, .int (Int32.ofNat o), .ref b])) rfl (by rw [hml]; rfl) c5 (argsL := [.ref b, .int (Int32.ofNat o), .ref s.heap.size, .int (Int32.ofNat 0), .int (Int32.ofNat len)]) (rest := []) rfl rfl (by show 2 * 0 + 0 ≤ _; decide) (hb hbytes d9) (⟨rfl, hA3, ba3, hne, l1, by rw [bs3]; simp, hp⟩)
  obtain ⟨rfl, B6, p6, f6⟩ := E6
  have c7 : Steps p.tables e below (s₁.setTop (entryFrame m #[.ref b, .int (Int32.ofNat o), .int (Int32.ofNat len)] 6)) (T6.setTop (mkF m 12 #[.val (.ref b), .val (.int (Int32.ofNat o)), .val (.int (Int32.ofNat len)), .val (.ref s.heap.size), .unset, .unset] [.int (Int32.ofNat len)])) := g6
  have c8 : Steps p.tables e below (s₁.setTop (entryFrame m #[.ref b, .int (Int32.ofNat o), .int (Int32.ofNat len)] 6)) (T6.setTop (mkF m 58 #[.val (.ref b), .val (.int (Int32.ofNat o)), .val (.int (Int32.ofNat len)), .val (.ref s.heap.size), .val (.int (Int32.ofNat len)), .unset] [.ref s.heap.size])) := c7.trans (by
    refine XS.istore X6.here hexec rfl (hb hbytes d12) rfl rfl ?_
    refine XS.iload X6.here hexec rfl (hb hbytes d14) rfl ?_
    refine XS.iloadN X6.here hexec rfl (hb hbytes d16) rfl ?_
    refine XS.icmpYes X6.here hexec rfl (pc0 := 17) rfl (hb hbytes d17) rfl (ii_eq_t rfl) (by decide) rfl ?_
    refine XS.aloadN X6.here hexec rfl (hb hbytes d57) rfl rfl ?_
    exact Steps.refl _)
  have X8 := X6.wide (L' := []) (cells' := 1) (slots' := len) (fun x hx hlt => by
    simp only [List.nil_append, copyLocs, List.mem_map, List.mem_range] at hx
    obtain ⟨i, -, rfl⟩ := hx
    exact absurd hlt (Nat.lt_irrefl _)) (Nat.le_refl _) (by omega)
  exact ⟨T6, some (.ref s.heap.size), _, _, _, X8, rfl, rfl, rfl, (fun h => by cases h), ⟨⟨rfl, B6, ba3.like (X3.warmed.alike.symm.trans X6.warmed.alike) p6.1 f6.1 f6.2.1 f6.2.2.1, f6.2.1.trans bv3, by rw [X6.warmed.alike.findClass, f6.1]; exact bf3, by rw [f6.2.2.1, bs3]; simp, fun j hj => by rw [f6.2.2.2 j, if_pos (by omega)]; rfl, kp3.put p6 (Nat.le_refl _)⟩, by rw [p6.2.2, bh3, hh0]; simp⟩, fun fs hl => c8.trans (X8.areturnOut hexec rfl hret rfl (hb hbytes d58) hl)⟩
end Cmp3
namespace CodL
def yN : MethodName := ⟨"java/lang/StringUTF16", "coderFromArrayLen", "([BI)B"⟩
abbrev yB : ByteArray := jdk_52_method_15_code
theorem d0 : decode yB 0 = .ok (.iload_n 1, 1) := by decide +kernel
theorem d1 : decode yB 1 = .ok (.aload_n 0, 1) := by decide +kernel
theorem d2 : decode yB 2 = .ok (.arraylength, 1) := by decide +kernel
theorem d3 : decode yB 3 = .ok (.isub, 1) := by decide +kernel
theorem d4 : decode yB 4 = .ok (.bipush 31, 2) := by decide +kernel
theorem d6 : decode yB 6 = .ok (.iushr, 1) := by decide +kernel
theorem d7 : decode yB 7 = .ok (.i2b, 1) := by decide +kernel
theorem d8 : decode yB 8 = .ok (.ireturn, 1) := by decide +kernel
def site : List Cond := []
def tab : Cond := tabOf yN yB 2 (some .byte) site
def P (d : Addr) (B : Cell) (args : Array Value) (s : State) : Prop := args = #[.ref d, .int (Int32.ofNat B.slots.size)] ∧ Arr .byte d B s
def E (r : Option Value) (s u : State) : Prop := XT.PureE (some (.int 0)) r s u
/-- an array as long as the number of chars: LATIN1 -/
theorem law (l : Launch) (d : Addr) (B : Cell) : Law l yN 2 2 0 0 yB 2 (some .byte) site (P d B) E [] 0 0 := by
  refine Law.of_walk (plainFor_of_name (by decide +kernel)) (by decide +kernel) (by decide +kernel) (by decide) (fun _ _ h => by rw [h.1]; rfl) (fun _ U U' hal hh h => ⟨h.1, h.2.mv hal hh⟩) (fun r U U' V V' h1 hal h2 h => XT.PureE.mv r U U' V V' h1 hal h2 h) ?_
  intro p e s m args below meth c s₁ X0 hexec hbytes hml hret hlk hnm hown hh0 W hP
  obtain ⟨rfl, hB⟩ := hP
  have hB0 := hB.mv X0.warmed.alike hh0
  have c1 : Steps p.tables e below (s₁.setTop (entryFrame m #[.ref d, .int (Int32.ofNat B.slots.size)] 2)) (s₁.setTop (mkF m 0 #[.val (.ref d), .val (.int (Int32.ofNat B.slots.size))] [])) := entry rfl
  have c2 : Steps p.tables e below (s₁.setTop (entryFrame m #[.ref d, .int (Int32.ofNat B.slots.size)] 2)) (s₁.setTop (mkF m 2 #[.val (.ref d), .val (.int (Int32.ofNat B.slots.size))] [.ref d, .int (Int32.ofNat B.slots.size)])) := c1.trans (by
    refine XS.iloadN X0.here hexec rfl (hb hbytes d0) rfl ?_
    refine XS.aloadN X0.here hexec rfl (hb hbytes d1) rfl rfl ?_
    exact Steps.refl _)
  have c3 : Steps p.tables e below (s₁.setTop (entryFrame m #[.ref d, .int (Int32.ofNat B.slots.size)] 2)) (s₁.setTop (mkF m 8 #[.val (.ref d), .val (.int (Int32.ofNat B.slots.size))] [.int (lo8 (ushr (Int32.ofNat B.slots.size - Int32.ofNat B.slots.size) 31))])) := c2.trans (by
    refine X0.alen hexec hB0 rfl rfl (hb hbytes d2) ?_
    refine XS.isub X0.here hexec rfl (hb hbytes d3) rfl ?_
    refine bipushV X0.here hexec rfl 31 (hb hbytes d4) (by decide) ?_
    refine iushr X0.here hexec rfl (hb hbytes d6) rfl ?_
    refine i2b X0.here hexec rfl (hb hbytes d7) rfl ?_
    exact Steps.refl _)
  have e0 : lo8 (ushr (Int32.ofNat B.slots.size - Int32.ofNat B.slots.size) 31) = 0 := by rw [Int32.sub_self]; decide
  rw [e0] at c3
  exact ⟨s₁, some (.int 0), _, _, _, X0, rfl, rfl, rfl, (fun h => by cases h), ⟨rfl, hh0⟩, fun fs hl => c3.trans (X0.ireturnOut hexec hret rfl (Or.inr (Or.inr (Or.inl rfl))) (hb hbytes d8) hl)⟩
end CodL
/-- the String at a is Latin-1 over a new byte[] (the heap's one new cell): the low bytes of the len chars of A from o on; every cell but a is kept -/
def Got (a : Addr) (D : Cell) (fV fC : Field) (A : Cell) (o len : Nat) (r : Option Value) (s u : State) : Prop := r = none ∧ ∃ D' V : Cell, Blank "java/lang/String" a D' u ∧ Same D D' [fV.slot, fC.slot] ∧ D'.slots[fV.slot]? = some (.ref s.heap.size) ∧ D'.slots[fC.slot]? = some (.int 0) ∧ Arr .byte s.heap.size V u ∧ V.vm = .none ∧ u.vm.findClass "[B" = some V.cls ∧ V.slots.size = len ∧ (∀ j, j < len → V.slots[j]? = some (.int (lo8 (cv A (o + j))))) ∧ (∀ (y : Addr) (c : Cell), y ≠ a → s.heap[y]? = some c → u.heap[y]? = some c) ∧ u.heap.size = s.heap.size + 1
theorem Got.mv {a : Addr} {D A : Cell} {fV fC : Field} {o len : Nat} : ∀ r (U U' V V' : State), U'.heap = U.heap → V.vm.Alike V'.vm → V'.heap = V.heap → Got a D fV fC A o len r U V → Got a D fV fC A o len r U' V' :=
  fun r U U' V V' h1 hal h2 ⟨e0, D', X, a1, a2, a3, a4, a5, a6, a7, a8, a9, a10, a11⟩ => ⟨e0, D', X, a1.mv hal h2, a2, by rw [h1]; exact a3, a4, by rw [h1]; exact a5.mv hal h2, a6, by rw [hal.findClass]; exact a7, a8, a9, by rw [h1, h2]; exact a10, by rw [h1, h2]; exact a11⟩
namespace New4
def yN : MethodName := ⟨"java/lang/String", "<init>", "([CIILjava/lang/Void;)V"⟩
abbrev yB : ByteArray := jdk_42_method_149_code
theorem d0 : decode yB 0 = .ok (.aload_n 0, 1) := by decide +kernel
theorem d1 : decode yB 1 = .ok (.invokespecial 1, 3) := by decide +kernel
theorem d4 : decode yB 4 = .ok (.iload_n 3, 1) := by decide +kernel
theorem d5 : decode yB 5 = .ok (.ifCond (.ne) 22, 3) := by decide +kernel
theorem d27 : decode yB 27 = .ok (.getstatic 38, 3) := by decide +kernel
theorem d30 : decode yB 30 = .ok (.ifCond (.eq) 28, 3) := by decide +kernel
theorem d33 : decode yB 33 = .ok (.aload_n 1, 1) := by decide +kernel
theorem d34 : decode yB 34 = .ok (.iload_n 2, 1) := by decide +kernel
theorem d35 : decode yB 35 = .ok (.iload_n 3, 1) := by decide +kernel
theorem d36 : decode yB 36 = .ok (.invokestatic 177, 3) := by decide +kernel
theorem d39 : decode yB 39 = .ok (.astore 5, 2) := by decide +kernel
theorem d41 : decode yB 41 = .ok (.aload_n 0, 1) := by decide +kernel
theorem d42 : decode yB 42 = .ok (.aload 5, 2) := by decide +kernel
theorem d44 : decode yB 44 = .ok (.iload_n 3, 1) := by decide +kernel
theorem d45 : decode yB 45 = .ok (.invokestatic 47, 3) := by decide +kernel
theorem d48 : decode yB 48 = .ok (.putfield 15, 3) := by decide +kernel
theorem d51 : decode yB 51 = .ok (.aload_n 0, 1) := by decide +kernel
theorem d52 : decode yB 52 = .ok (.aload 5, 2) := by decide +kernel
theorem d54 : decode yB 54 = .ok (.putfield 9, 3) := by decide +kernel
theorem d57 : decode yB 57 = .ok (.return_, 1) := by decide +kernel
def site : List Cond := [.fieldLink "java/lang/String" 38 "java/lang/String" "COMPACT_STRINGS" "Z", Cmp3.tab, CodL.tab, .laysFinal "java/lang/String" "java/lang/String" "value" "[B", .fieldLink "java/lang/String" 9 "java/lang/String" "value" "[B", .laysFinal "java/lang/String" "java/lang/String" "coder" "B", .fieldLink "java/lang/String" 15 "java/lang/String" "coder" "B"] ++ objW "java/lang/String" 1 ++ staticW "java/lang/String" 177 Cmp3.yN ++ staticW "java/lang/String" 47 CodL.yN
def tab : Cond := tabOf yN yB 6 none site
def P (a : Addr) (D : Cell) (fV fC : Field) (b : Addr) (A : Cell) (z : Int32) (o len : Nat) (args : Array Value) (s : State) : Prop := args = #[.ref a, .ref b, .int (Int32.ofNat o), .int (Int32.ofNat len), .null] ∧ Blank "java/lang/String" a D s ∧ Found "java/lang/String" "value" "[B" fV s ∧ Found "java/lang/String" "coder" "B" fC s ∧ Ch b A s ∧ StaticIs s "java/lang/String" "COMPACT_STRINGS" "Z" (.int z) ∧ ¬ z = 0 ∧ 0 < len ∧ o + len ≤ A.slots.size ∧ len ≤ 536870912 ∧ ∀ i, i < len → ¬ 255 < cv A (o + i)
def E (a : Addr) (D : Cell) (fV fC : Field) (A : Cell) (o len : Nat) (r : Option Value) (s u : State) : Prop := Got a D fV fC A o len r s u
/-- len > 0, no char of the range above 255: a Latin-1 String of their low bytes -/
theorem law (l : Launch) (a : Addr) (D : Cell) (fV fC : Field) (b : Addr) (A : Cell) (z : Int32) (o len : Nat) : Law l yN 5 4 2 35 yB 6 none site (P a D fV fC b A z o len) (E a D fV fC A o len) [⟨a, fC.slot⟩, ⟨a, fV.slot⟩] 1 len := by
  refine Law.of_walk (plainFor_of_name (by decide +kernel)) (by decide +kernel) (by decide +kernel) (by decide) (fun _ _ h => by rw [h.1]; rfl) (fun _ U U' hal hh h => ⟨h.1, h.2.1.mv hal hh, h.2.2.1.al hal, h.2.2.2.1.al hal, h.2.2.2.2.1.mv hal hh, h.2.2.2.2.2.1.there hal hh, h.2.2.2.2.2.2⟩) (fun r U U' V V' h1 hal h2 h => Got.mv r U U' V V' h1 hal h2 h) ?_
  intro p e s m args below meth c s₁ X0 hexec hbytes hml hret hlk hnm hown hh0 W hP
  obtain ⟨rfl, hB, f1, f2, hA, s1, hz, l0, l1, l2, hp⟩ := hP
  have a31 := hA.1.2.2.2
  have c1 : Steps p.tables e below (s₁.setTop (entryFrame m #[.ref a, .ref b, .int (Int32.ofNat o), .int (Int32.ofNat len), .null] 6)) (s₁.setTop (mkF m 0 #[.val (.ref a), .val (.ref b), .val (.int (Int32.ofNat o)), .val (.int (Int32.ofNat len)), .val .null, .unset] [])) := entry rfl
  have c2 : Steps p.tables e below (s₁.setTop (entryFrame m #[.ref a, .ref b, .int (Int32.ofNat o), .int (Int32.ofNat len), .null] 6)) (s₁.setTop (mkF m 1 #[.val (.ref a), .val (.ref b), .val (.int (Int32.ofNat o)), .val (.int (Int32.ofNat len)), .val .null, .unset] [.ref a])) := c1.trans (by
    refine XS.aloadN X0.here hexec rfl (hb hbytes d0) rfl rfl ?_
    exact Steps.refl _)
  obtain ⟨T3, X3, q3, st3⟩ := X0.oinit hexec hown (wks W (objW "java/lang/String" 1)) (g := (mkF m 1 #[.val (.ref a), .val (.ref b), .val (.int (Int32.ofNat o)), .val (.int (Int32.ofNat len)), .val .null, .unset] [.ref a])) rfl (by rw [hml]; rfl) (rest := []) rfl (hb hbytes d1) (W := 0) (by show 2 * 0 + 0 ≤ _; decide) (Nat.le_of_ble_eq_true rfl) (Nat.le_of_ble_eq_true rfl)
  have hh3 := q3.trans hh0
  have c4 : Steps p.tables e below (s₁.setTop (entryFrame m #[.ref a, .ref b, .int (Int32.ofNat o), .int (Int32.ofNat len), .null] 6)) (T3.setTop (mkF m 27 #[.val (.ref a), .val (.ref b), .val (.int (Int32.ofNat o)), .val (.int (Int32.ofNat len)), .val .null, .unset] [])) := (c2.trans (st3 _ (Steps.refl _))).trans (by
    refine XS.iloadN X3.here hexec rfl (hb hbytes d4) rfl ?_
    refine XS.ifYes X3.here hexec rfl (pc0 := 5) rfl (hb hbytes d5) rfl (i0_ne_t (nz32 (by omega) l0)) (by decide) rfl ?_
    exact Steps.refl _)
  obtain ⟨T5, X5, q5, st5⟩ := X3.sget hexec hown (wk W (.fieldLink "java/lang/String" 38 "java/lang/String" "COMPACT_STRINGS" "Z")) s1 (fun _ _ h => by rw [hh3]; exact h) (g := (mkF m 27 #[.val (.ref a), .val (.ref b), .val (.int (Int32.ofNat o)), .val (.int (Int32.ofNat len)), .val .null, .unset] [])) rfl (hb hbytes d27)
  have hh5 := q5.trans hh3
  have c6 : Steps p.tables e below (s₁.setTop (entryFrame m #[.ref a, .ref b, .int (Int32.ofNat o), .int (Int32.ofNat len), .null] 6)) (T5.setTop (mkF m 30 #[.val (.ref a), .val (.ref b), .val (.int (Int32.ofNat o)), .val (.int (Int32.ofNat len)), .val .null, .unset] [.int z])) := c4.trans (st5 _ (Steps.refl _))
  have c7 : Steps p.tables e below (s₁.setTop (entryFrame m #[.ref a, .ref b, .int (Int32.ofNat o), .int (Int32.ofNat len), .null] 6)) (T5.setTop (mkF m 36 #[.val (.ref a), .val (.ref b), .val (.int (Int32.ofNat o)), .val (.int (Int32.ofNat len)), .val .null, .unset] [.int (Int32.ofNat len), .int (Int32.ofNat o), .ref b])) := c6.trans (by
    refine XS.ifNo X5.here hexec rfl (hb hbytes d30) rfl (i0_eq_f hz) ?_
    refine XS.aloadN X5.here hexec rfl (hb hbytes d33) rfl rfl ?_
    refine XS.iloadN X5.here hexec rfl (hb hbytes d34) rfl ?_
    refine XS.iloadN X5.here hexec rfl (hb hbytes d35) rfl ?_
    exact Steps.refl _)
  obtain ⟨v8, T8, X8, E8, g8⟩ := X5.callS hexec (Cmp3.law l b A o len) hown (wks W (staticW "java/lang/String" 177 Cmp3.yN)) (wk W Cmp3.tab) (W := 0) (Nat.le_of_ble_eq_true rfl) (Nat.le_of_ble_eq_true rfl) (Nat.le_refl _) (by show 0 + len ≤ len; omega) (g := (mkF m 36 #[.val (.ref a), .val (.ref b), .val (.int (Int32.ofNat o)), .val (.int (Int32.ofNat len)), .val .null, .unset] [.int (Int32.ofNat len), .int (Int32.ofNat o), .ref b])) rfl (by rw [hml]; rfl) c7 (argsL := [.ref b, .int (Int32.ofNat o), .int (Int32.ofNat len)]) (rest := []) rfl rfl (by show 2 * 0 + 0 ≤ _; decide) (hb hbytes d36) (⟨rfl, hA.mv X5.warmed.alike hh5, l1, l2, hp⟩)
  obtain ⟨e8, z8⟩ := E8
  obtain ⟨rfl, N, n1, n2, n3, n4, n5, n6⟩ := NewArr.mv _ T5 s _ _ hh5.symm (Vm.Alike.refl _) rfl e8
  rw [hh5] at z8
  have hB1 := hB.keep X8.warmed.alike (n6 _ _ hB.1)
  have hne : s.heap.size ≠ a := (Nat.ne_of_lt (Array.getElem?_eq_some_iff.mp hB.1).1).symm
  have c9 : Steps p.tables e below (s₁.setTop (entryFrame m #[.ref a, .ref b, .int (Int32.ofNat o), .int (Int32.ofNat len), .null] 6)) (T8.setTop (mkF m 39 #[.val (.ref a), .val (.ref b), .val (.int (Int32.ofNat o)), .val (.int (Int32.ofNat len)), .val .null, .unset] [.ref s.heap.size])) := g8
  have c10 : Steps p.tables e below (s₁.setTop (entryFrame m #[.ref a, .ref b, .int (Int32.ofNat o), .int (Int32.ofNat len), .null] 6)) (T8.setTop (mkF m 45 #[.val (.ref a), .val (.ref b), .val (.int (Int32.ofNat o)), .val (.int (Int32.ofNat len)), .val .null, .val (.ref s.heap.size)] [.int (Int32.ofNat N.slots.size), .ref s.heap.size, .ref a])) := by
    have hc : Steps p.tables e below (s₁.setTop (entryFrame m #[.ref a, .ref b, .int (Int32.ofNat o), .int (Int32.ofNat len), .null] 6)) (T8.setTop (mkF m 45 #[.val (.ref a), .val (.ref b), .val (.int (Int32.ofNat o)), .val (.int (Int32.ofNat len)), .val .null, .val (.ref s.heap.size)] [.int (Int32.ofNat len), .ref s.heap.size, .ref a])) := c9.trans (by
      refine XS.astore X8.here hexec rfl (hb hbytes d39) rfl rfl rfl ?_
      refine XS.aloadN X8.here hexec rfl (hb hbytes d41) rfl rfl ?_
      refine XS.aload X8.here hexec rfl (hb hbytes d42) rfl rfl ?_
      refine XS.iloadN X8.here hexec rfl (hb hbytes d44) rfl ?_
      exact Steps.refl _)
    rw [n4]; exact hc
  obtain ⟨v11, T11, X11, E11, g11⟩ := X8.callS hexec (CodL.law l s.heap.size N) hown (wks W (staticW "java/lang/String" 47 CodL.yN)) (wk W CodL.tab) (W := 1) (Nat.le_of_ble_eq_true rfl) (Nat.le_of_ble_eq_true rfl) (Nat.le_refl _) (by show 0 + len + 0 ≤ len; omega) (g := (mkF m 45 #[.val (.ref a), .val (.ref b), .val (.int (Int32.ofNat o)), .val (.int (Int32.ofNat len)), .val .null, .val (.ref s.heap.size)] [.int (Int32.ofNat N.slots.size), .ref s.heap.size, .ref a])) rfl (by rw [hml]; rfl) c10 (argsL := [.ref s.heap.size, .int (Int32.ofNat N.slots.size)]) (rest := [.ref a]) rfl rfl (by show 2 * 0 + (1 + 0) ≤ _; decide) (hb hbytes d45) (⟨rfl, n1⟩)
  obtain ⟨rfl, q11⟩ := E11
  have hB11 := hB1.mv (X8.warmed.alike.symm.trans X11.warmed.alike) q11
  have c12 : Steps p.tables e below (s₁.setTop (entryFrame m #[.ref a, .ref b, .int (Int32.ofNat o), .int (Int32.ofNat len), .null] 6)) (T11.setTop (mkF m 48 #[.val (.ref a), .val (.ref b), .val (.int (Int32.ofNat o)), .val (.int (Int32.ofNat len)), .val .null, .val (.ref s.heap.size)] [.int 0, .ref a])) := g11
  obtain ⟨T13, X13, p13, bl13, sl13, st13⟩ := X11.finit hexec hown (wk W (.fieldLink "java/lang/String" 15 "java/lang/String" "coder" "B")) (Or.inr ⟨_, (wk W (.laysFinal "java/lang/String" "java/lang/String" "coder" "B"))⟩) (Or.inl ⟨rfl, hnm⟩) f2 (Or.inl rfl) hB11 (t := .byte) (by decide +kernel) rfl (g := (mkF m 48 #[.val (.ref a), .val (.ref b), .val (.int (Int32.ofNat o)), .val (.int (Int32.ofNat len)), .val .null, .val (.ref s.heap.size)] [.int 0, .ref a])) rfl (rest := []) rfl (hb hbytes d48)
  have c14 : Steps p.tables e below (s₁.setTop (entryFrame m #[.ref a, .ref b, .int (Int32.ofNat o), .int (Int32.ofNat len), .null] 6)) (T13.setTop (mkF m 54 #[.val (.ref a), .val (.ref b), .val (.int (Int32.ofNat o)), .val (.int (Int32.ofNat len)), .val .null, .val (.ref s.heap.size)] [.ref s.heap.size, .ref a])) := (c12.trans (st13 _ (Steps.refl _))).trans (by
    refine XS.aloadN X13.here hexec rfl (hb hbytes d51) rfl rfl ?_
    refine XS.aload X13.here hexec rfl (hb hbytes d52) rfl rfl ?_
    exact Steps.refl _)
  obtain ⟨T15, X15, p15, bl15, sl15, st15⟩ := X13.finit hexec hown (wk W (.fieldLink "java/lang/String" 9 "java/lang/String" "value" "[B")) (Or.inr ⟨_, (wk W (.laysFinal "java/lang/String" "java/lang/String" "value" "[B"))⟩) (Or.inl ⟨rfl, hnm⟩) f1 (Or.inl rfl) bl13 (t := (.array .byte)) (by decide +kernel) rfl (g := (mkF m 54 #[.val (.ref a), .val (.ref b), .val (.int (Int32.ofNat o)), .val (.int (Int32.ofNat len)), .val .null, .val (.ref s.heap.size)] [.ref s.heap.size, .ref a])) rfl (rest := []) rfl (hb hbytes d54)
  have c16 : Steps p.tables e below (s₁.setTop (entryFrame m #[.ref a, .ref b, .int (Int32.ofNat o), .int (Int32.ofNat len), .null] 6)) (T15.setTop (mkF m 57 #[.val (.ref a), .val (.ref b), .val (.int (Int32.ofNat o)), .val (.int (Int32.ofNat len)), .val .null, .val (.ref s.heap.size)] [])) := c14.trans (st15 _ (Steps.refl _))
  have ap := apart (Or.inr ⟨_, (wk W (.laysFinal "java/lang/String" "java/lang/String" "value" "[B"))⟩) (Or.inr ⟨_, (wk W (.laysFinal "java/lang/String" "java/lang/String" "coder" "B"))⟩) f1 f2 (t₁ := .array .byte) (t₂ := .byte) (by decide +kernel) (by decide +kernel) (by decide)
  have al := X8.warmed.alike.symm.trans X15.warmed.alike
  have n7 : T11.heap[s.heap.size]? = some N := by rw [q11]; exact n1.1
  exact ⟨T15, none, _, _, _, X15, by simp, rfl, by omega, (fun _ => rfl), ⟨rfl, _, N, bl15, ((Same.refl D _).set _ (by simp)).set _ (by simp), sl15, (Cell.slots_setSlot_ne _ ap).trans sl13, n1.keep al (p15.other hne (p13.other hne n7)), n2, by rw [al.findClass]; exact n3, n4, n5, fun y c h1 h2 => p15.other h1 (p13.other h1 (by rw [q11]; exact n6 y c h2)), by rw [p15.2.2, p13.2.2, q11]; exact z8⟩, fun fs hl => c16.trans (X15.returnOut hexec hret (hb hbytes d57) hl)⟩
end New4
namespace New1
def yN : MethodName := ⟨"java/lang/String", "<init>", "([C)V"⟩
abbrev yB : ByteArray := jdk_42_method_3_code
theorem d0 : decode yB 0 = .ok (.aload_n 0, 1) := by decide +kernel
theorem d1 : decode yB 1 = .ok (.aload_n 1, 1) := by decide +kernel
theorem d2 : decode yB 2 = .ok (.iconst 0, 1) := by decide +kernel
theorem d3 : decode yB 3 = .ok (.aload_n 1, 1) := by decide +kernel
theorem d4 : decode yB 4 = .ok (.arraylength, 1) := by decide +kernel
theorem d5 : decode yB 5 = .ok (.aconst_null, 1) := by decide +kernel
theorem d6 : decode yB 6 = .ok (.invokespecial 27, 3) := by decide +kernel
theorem d9 : decode yB 9 = .ok (.return_, 1) := by decide +kernel
def site : List Cond := [New4.tab] ++ initW "java/lang/String" 27 New4.yN
def tab : Cond := tabOf yN yB 2 none site
def P (a : Addr) (D : Cell) (fV fC : Field) (b : Addr) (A : Cell) (z : Int32) (args : Array Value) (s : State) : Prop := args = #[.ref a, .ref b] ∧ Blank "java/lang/String" a D s ∧ Found "java/lang/String" "value" "[B" fV s ∧ Found "java/lang/String" "coder" "B" fC s ∧ Ch b A s ∧ StaticIs s "java/lang/String" "COMPACT_STRINGS" "Z" (.int z) ∧ ¬ z = 0 ∧ 0 < A.slots.size ∧ A.slots.size ≤ 536870912 ∧ ∀ i, i < A.slots.size → ¬ 255 < cv A i
def E (a : Addr) (D : Cell) (fV fC : Field) (A : Cell) (r : Option Value) (s u : State) : Prop := Got a D fV fC A 0 A.slots.size r s u
/-- new String(chars), not empty, no char above 255: a Latin-1 String of their low bytes -/
theorem law (l : Launch) (a : Addr) (D : Cell) (fV fC : Field) (b : Addr) (A : Cell) (z : Int32) : Law l yN 2 1 3 52 yB 2 none site (P a D fV fC b A z) (E a D fV fC A) [⟨a, fC.slot⟩, ⟨a, fV.slot⟩] 1 A.slots.size := by
  refine Law.of_walk (plainFor_of_name (by decide +kernel)) (by decide +kernel) (by decide +kernel) (by decide) (fun _ _ h => by rw [h.1]; rfl) (fun _ U U' hal hh h => ⟨h.1, h.2.1.mv hal hh, h.2.2.1.al hal, h.2.2.2.1.al hal, h.2.2.2.2.1.mv hal hh, h.2.2.2.2.2.1.there hal hh, h.2.2.2.2.2.2⟩) (fun r U U' V V' h1 hal h2 h => Got.mv r U U' V V' h1 hal h2 h) ?_
  intro p e s m args below meth c s₁ X0 hexec hbytes hml hret hlk hnm hown hh0 W hP
  obtain ⟨rfl, hB, f1, f2, hA, s1, hz, l0, l2, hp⟩ := hP
  have c1 : Steps p.tables e below (s₁.setTop (entryFrame m #[.ref a, .ref b] 2)) (s₁.setTop (mkF m 0 #[.val (.ref a), .val (.ref b)] [])) := entry rfl
  have c2 : Steps p.tables e below (s₁.setTop (entryFrame m #[.ref a, .ref b] 2)) (s₁.setTop (mkF m 6 #[.val (.ref a), .val (.ref b)] [.null, .int (Int32.ofNat A.slots.size), .int 0, .ref b, .ref a])) := c1.trans (by
    refine XS.aloadN X0.here hexec rfl (hb hbytes d0) rfl rfl ?_
    refine XS.aloadN X0.here hexec rfl (hb hbytes d1) rfl rfl ?_
    refine iconstV X0.here hexec rfl 0 (hb hbytes d2) (by decide) ?_
    refine XS.aloadN X0.here hexec rfl (hb hbytes d3) rfl rfl ?_
    refine X0.alen hexec (hA.1.mv X0.warmed.alike hh0) rfl rfl (hb hbytes d4) ?_
    refine XS.aconstNull X0.here hexec rfl (hb hbytes d5) ?_
    exact Steps.refl _)
  obtain ⟨v3, T3, X3, E3, g3⟩ := X0.callN hexec (New4.law l a D fV fC b A z 0 A.slots.size) rfl hown (wks W (initW "java/lang/String" 27 New4.yN)) (W New4.tab (by simp only [site, List.mem_cons, List.mem_append, true_or, or_true])) (W := 0) (Nat.le_of_ble_eq_true rfl) (Nat.le_of_ble_eq_true rfl) (Nat.le_refl _) (by show 0 + A.slots.size ≤ A.slots.size; omega) (g := (mkF m 6 #[.val (.ref a), .val (.ref b)] [.null, .int (Int32.ofNat A.slots.size), .int (Int32.ofNat 0), .ref b, .ref a])) rfl (by rw [hml]; rfl) c2 (argsL := [.ref b, .int (Int32.ofNat 0), .int (Int32.ofNat A.slots.size), .null]) (rest := []) rfl rfl (by show 2 * 0 + 0 ≤ _; decide) (hb hbytes d6) (⟨rfl, hB.mv X0.warmed.alike hh0, f1.al X0.warmed.alike, f2.al X0.warmed.alike, hA.mv X0.warmed.alike hh0, s1.there X0.warmed.alike hh0, hz, l0, by omega, l2, fun i hi => by rw [Nat.zero_add]; exact hp i hi⟩)
  have e0 := Got.mv _ s₁ s _ _ hh0.symm (Vm.Alike.refl _) rfl E3
  obtain rfl := e0.1
  have c4 : Steps p.tables e below (s₁.setTop (entryFrame m #[.ref a, .ref b] 2)) (T3.setTop (mkF m 9 #[.val (.ref a), .val (.ref b)] [])) := g3
  exact ⟨T3, none, _, _, _, X3, by simp, rfl, by omega, (fun _ => rfl), e0, fun fs hl => c4.trans (X3.returnOut hexec hret (hb hbytes d9) hl)⟩
theorem pays {l : Launch} {R : Room} {p : Program} {e : Env} {below : List Frame} {s : State} {sargs : Array Value} {len W : Nat} (a : Addr) (D : Cell) (fV fC : Field) (b : Addr) (A : Cell) (z : Int32) (htab : tab.before sargs s = true) (hfr : 4 ≤ R.frames) (hlo : W + 65 ≤ R.locals) :
    Back l R p e below s sargs yN len W (fun A₁ a₁ => A₁.cells + 1 ≤ R.cells ∧ A₁.slots + A.slots.size ≤ R.slots ∧ P a D fV fC b A z a₁ A₁.U) (fun A₁ _ v₁ B₁ => E a D fV fC A v₁ A₁.U B₁.U ∧ B₁.locs = A₁.locs ++ [⟨a, fC.slot⟩, ⟨a, fV.slot⟩] ∧ B₁.cells = A₁.cells + 1 ∧ B₁.slots = A₁.slots + A.slots.size) :=
  (law l a D fV fC b A z).pays htab hfr (by omega)
end New1
/-- the byte, read back as charAt reads it, is the char -/
theorem lo8_mask {x : Int32} (h0 : ¬ x < 0) (h1 : ¬ 255 < x) : lo8 x &&& 255 = x := by
  have t : ∀ k : Fin 256, lo8 (Int32.ofNat k.val) &&& 255 = Int32.ofNat k.val := by decide +kernel
  rw [Int32.lt_iff_toInt_lt] at h0 h1
  have e0 : (0 : Int32).toInt = 0 := rfl
  have e1 : (255 : Int32).toInt = 255 := rfl
  obtain ⟨k, hk⟩ : ∃ k : Nat, x.toInt = k := ⟨x.toInt.toNat, by omega⟩
  have hx : x = Int32.ofNat k := Int32.toInt_inj.mp (by rw [hk, Int32.toInt_ofNat_small (by omega)])
  rw [hx]
  exact t ⟨k, by omega⟩
end StrChars
namespace StrChars.Road
open Jvm Sem ClassFile Op Lib Jvm.Stand Jvm.Free Jvm.Free.XT
open Jvm.Lib.Cold (StaticIs)
abbrev ST : String := "java/lang/String"
/-- every table word that New1's law asks, flat -/
abbrev words : List Jvm.Cond := [.code New1.yN New1.yB 2 none, .initialized ST, .methodLink ST 27 New4.yN, .instanceMethod New4.yN,
  .code New4.yN New4.yB 6 none, .fieldLink ST 38 ST "COMPACT_STRINGS" "Z", .laysFinal ST ST "value" "[B", .fieldLink ST 9 ST "value" "[B", .laysFinal ST ST "coder" "B", .fieldLink ST 15 ST "coder" "B",
  .methodLink ST 1 Lib.objectInit, .instanceMethod Lib.objectInit, .code Lib.objectInit ⟨#[0xb1]⟩ 1 none, .methodLink ST 177 Cmp3.yN, .static Cmp3.yN, .methodLink ST 47 CodL.yN, .static CodL.yN,
  .code Cmp3.yN Cmp3.yB 6 (some (.array .byte)), .initialized U16, .arrayClass .byte, .methodLink U16 115 Cmp5.yN, .static Cmp5.yN, .code Cmp5.yN Cmp5.yB 7 (some .int), .code CodL.yN CodL.yB 2 (some .byte)]
theorem tab_of {a : Array Value} {s : State} (h : ∀ w ∈ words, w.before a s = true) : New1.tab.before a s = true := by
  have h5 : Cmp5.tab.before a s = true := unparts (wk h (.code Cmp5.yN Cmp5.yB 7 (some .int))) (wks h (.initialized Cmp5.yN.cls :: Cmp5.site))
  have hc : CodL.tab.before a s = true := unparts (wk h (.code CodL.yN CodL.yB 2 (some .byte))) (wks h (.initialized CodL.yN.cls :: CodL.site))
  have q5 : ∀ w ∈ Cmp5.tab :: words, w.before a s = true := fun w hw => (List.mem_cons.mp hw).elim (fun e => e ▸ h5) (h w)
  have h3 : Cmp3.tab.before a s = true := unparts (wk q5 (.code Cmp3.yN Cmp3.yB 6 (some (.array .byte)))) (wks q5 (.initialized Cmp3.yN.cls :: Cmp3.site))
  have q3 : ∀ w ∈ Cmp3.tab :: CodL.tab :: words, w.before a s = true := fun w hw => (List.mem_cons.mp hw).elim (fun e => e ▸ h3) fun hw => (List.mem_cons.mp hw).elim (fun e => e ▸ hc) (h w)
  have h4 : New4.tab.before a s = true := unparts (wk q3 (.code New4.yN New4.yB 6 none)) (wks q3 (.initialized New4.yN.cls :: New4.site))
  have q4 : ∀ w ∈ New4.tab :: words, w.before a s = true := fun w hw => (List.mem_cons.mp hw).elim (fun e => e ▸ h4) (h w)
  exact unparts (wk q4 (.code New1.yN New1.yB 2 none)) (wks q4 (.initialized New1.yN.cls :: New1.site))
/-- the words ride from the start Z to the walk's own state -/
theorem moved {Z s : State} {a0 args : Array Value} (hZ : Z.Warmed39 s.vm) (hw : ∀ d ∈ words, d.before a0 Z = true) : ∀ d ∈ words, d.before args s = true := fun d hd => by
  have q := hw d hd
  have t : ∀ d ∈ words, d = .arrayClass .byte ∨ (d.onTables && d.keepsFace) = true := by decide +kernel
  rcases t d hd with rfl | t
  · exact RoadKit.mvA hZ q
  · exact RoadKit.mv hZ q t
/-- WHAT COMES BACK, over the tables of the start Z: h the heap at the call, h' behind it -/
def Q (Z : State) (x : Addr) (A : Cell) (h : Heap) (v : Option Value) (h' : Heap) (L : List Loc) : Prop := v = none ∧ (∀ y ∈ L, y.base = x) ∧ RoadKit.Keep h h' [x] ∧ h'.size = h.size + 1 ∧ RoadKit.Exa Z h' x ST ∧ RoadKit.Fld Z h' x ST "value" "[B" (.ref h.size) ∧ RoadKit.Fld Z h' x ST "coder" "B" (.int 0) ∧
  (∃ V : Cell, RoadKit.Arr Z h' h.size V .byte ∧ V.vm = .none ∧ Z.vm.findClass "[B" = some V.cls ∧ V.slots.size = A.slots.size ∧ ∀ j, j < A.slots.size → V.slots[j]? = some (.int (lo8 (cv A j)))) ∧
  ∀ (O n d : String) (w : Value), RoadKit.Fld Z h x O n d w → RoadKit.slotOf Z O n d ≠ RoadKit.slotOf Z ST "value" "[B" → RoadKit.slotOf Z O n d ≠ RoadKit.slotOf Z ST "coder" "B" → RoadKit.Fld Z h' x O n d w
/-- **new String(chars) AT A CALL, IN THE ROAD'S FORM**: for specialBack behind newO: x the fresh String, b the char[] with the cell A -/
theorem back {p : Program} {l : Launch} {e : Env} {R : Room} {s : State} {args : Array Value} {below : List Frame} {len W : Nat} {Z : State} {a0 : Array Value} {h : Heap} (hZ : Z.Warmed39 s.vm) (hw : ∀ d ∈ words, d.before a0 Z = true) {kI : Nat} (wi : (Jvm.Cond.instantiable ST kI).before a0 Z = true)
    {x b : Addr} {A : Cell} {z : Int32} {v0 c0 : Value} (E : RoadKit.Exa Z h x ST) (V : RoadKit.Fld Z h x ST "value" "[B" v0) (C : RoadKit.Fld Z h x ST "coder" "B" c0) (K : RoadKit.Arr Z h b A .char) (hty : Typed .char A) (S : RoadKit.Sta Z h ST "COMPACT_STRINGS" "Z" (.int z)) (hz : ¬ z = 0)
    (l0 : 0 < A.slots.size) (l2 : A.slots.size ≤ 536870912) (hp : ∀ i, i < A.slots.size → ¬ 255 < cv A i) (hfr : 4 ≤ R.frames) (hlo : W + 65 ≤ R.locals) :
    Back l R p e below s args New1.yN len W (fun P a => a = #[.ref x, .ref b] ∧ P.U.heap = h ∧ P.cells + 1 ≤ R.cells ∧ P.slots + A.slots.size ≤ R.slots)
      (fun P _ v B => ∃ L, Q Z x A h v B.U.heap L ∧ B.locs = P.locs ++ L ∧ B.cells = P.cells + 1 ∧ B.slots = P.slots + A.slots.size) := by
  intro m meth c P g ig mk a X hg hsize hdg hW hn hp'
  obtain ⟨rfl, rfl, r1, r2⟩ := hp'
  have al : Z.vm.Alike P.U.vm := hZ.alike.trans X.warmed.alike
  obtain ⟨D, cfV, kV, iV, fV, hD, gV, stV, knV, obV, asV, slV⟩ := id V
  obtain ⟨D', cfC, kC, iC, fC, hD', gC, stC, -, -, asC, slC⟩ := id C
  cases hD.symm.trans hD'
  obtain ⟨D2, kD, e1, e2, e3, e4, e5⟩ := id E
  cases hD.symm.trans e1
  obtain ⟨c2, k2, i1, i2, i3, -⟩ := Cond.instantiable_spec wi
  cases e2.symm.trans i1
  cases e3.symm.trans i2
  obtain ⟨kU, u1, u2⟩ := al.2.2 _ _ e3
  have hB : Blank ST x D P.U := ⟨hD, ⟨knV, fun q hq => by rw [hq] at obV; cases obV⟩, by rw [al.findClass]; exact e2, kU, u1, by rw [u2]; exact i3, by rw [u2]; exact e5 i3⟩
  have F1 : Found ST "value" "[B" fV P.U := ⟨SBG.found_only al ⟨cfV, kV, iV, gV⟩, stV⟩
  have F2 : Found ST "coder" "B" fC P.U := ⟨SBG.found_only al ⟨cfC, kC, iC, gC⟩, stC⟩
  have hA : Ch b A P.U := ⟨⟨K.1, State.isArrayOf_alike al K.2.1, K.2.2, by omega⟩, hty⟩
  have hS : StaticIs P.U ST "COMPACT_STRINGS" "Z" (.int z) := by
    obtain ⟨cfS, iS, kS, fS, st, cS, t1, t2, t3, t4, t5, t6, t7⟩ := S
    exact StaticIs.there (s := { Z with heap := P.U.heap }) ⟨cfS, iS, kS, fS, st, cS, t1, t2, t3, t4, t5, (fun q => by rw [q] at t6; cases t6), t7⟩ al rfl
  obtain ⟨v, B, X', ⟨⟨hv, E', V', q1, q2, q3, q4, q5, q6, q7, q8, q9, q10, q11⟩, hl, hc, hs⟩, st⟩ := New1.pays x D fV fC b A z (tab_of (moved hZ hw)) hfr hlo m meth c P g ig mk _ X hg hsize hdg hW hn ⟨r1, r2, rfl, hB, F1, F2, hA, hS, hz, l0, l2, hp⟩
  have al' : Z.vm.Alike B.U.vm := hZ.alike.trans X'.warmed.alike
  have hsz : E'.slots.size = D.slots.size := by
    obtain ⟨-, -, -, kB, w1, w2, w3⟩ := q1
    obtain ⟨kB', y1, y2⟩ := al'.2.2 _ _ e3
    rw [q2.2.1] at w1
    cases w1.symm.trans y1
    rw [w3, e5 i3, y2]
  refine ⟨v, B, X', ⟨_, ⟨hv, ?_, ⟨by omega, fun y cy hy hn' => q10 y cy (by simpa using hn') hy, fun y cy hy => ?_⟩, q11, ⟨E', _, q1.1, by rw [q2.2.1]; exact e2, by rw [q2.2.1]; exact e3, by rw [q2.1]; exact obV, fun _ => by rw [hsz]; exact e5 i3⟩,
    ⟨E', cfV, kV, iV, fV, q1.1, gV, stV, by rw [q2.1]; exact knV, by rw [q2.1]; exact obV, by rw [q2.2.1]; exact asV, q3⟩, ⟨E', cfC, kC, iC, fC, q1.1, gC, stC, by rw [q2.1]; exact knV, by rw [q2.1]; exact obV, by rw [q2.2.1]; exact asC, q4⟩,
    ⟨V', ⟨q5.1, State.isArrayOf_alike al'.symm q5.2.1, q5.2.2.1⟩, q6, by rw [← al'.findClass]; exact q7, q8, fun j hj => by have := q9 j hj; rwa [Nat.zero_add] at this⟩, fun O n d w F n1 n2 => ?_⟩, hl, hc, hs⟩, st⟩
  · intro y hy
    simp only [List.mem_cons, List.not_mem_nil, or_false] at hy
    rcases hy with rfl | rfl <;> rfl
  · by_cases q : y = x
    · subst q
      cases hD.symm.trans hy
      exact ⟨E', q1.1, q2.2.1, q2.1, hsz⟩
    · exact ⟨cy, q10 y cy q hy, rfl, rfl, rfl⟩
  · obtain ⟨D3, cf, k, i, f, g1, g2, g3, g4, g5, g6, g7⟩ := F
    cases hD.symm.trans g1
    simp only [RoadKit.slotOf, g2, gV, gC, Option.map_some, Option.getD_some] at n1 n2
    exact ⟨E', cf, k, i, f, q1.1, g2, g3, by rw [q2.1]; exact g4, by rw [q2.1]; exact g5, by rw [q2.2.1]; exact g6, by rw [q2.2.2 f.slot (by simp [n1, n2])]; exact g7⟩
end StrChars.Road
namespace StrChars.Road
open Jvm Sem ClassFile Op Lib Jvm.Stand Jvm.Free Jvm.Free.XT
/-- WHAT COMES BACK, the byte[] as a list of values -/
def QA (Z : State) (x : Addr) (zn : Int32) (cs : List Int32) (h : Heap) (v : Option Value) (h' : Heap) (L : List Loc) : Prop := v = none ∧ (∀ y ∈ L, y.base = x) ∧ RoadKit.Keep h h' [x] ∧ h'.size = h.size + 1 ∧ RoadKit.Exa Z h' x ST ∧ RoadKit.Fld Z h' x ST "value" "[B" (.ref h.size) ∧ RoadKit.Fld Z h' x ST "coder" "B" (.int 0) ∧
  (∃ kb, Z.vm.findClass "[B" = some kb ∧ RoadKit.Arv Z h' h.size kb .byte zn (cs.map fun c => .int (lo8 c)) (.int 0)) ∧
  ∀ (O n d : String) (w : Value), RoadKit.Fld Z h x O n d w → RoadKit.slotOf Z O n d ≠ RoadKit.slotOf Z ST "value" "[B" → RoadKit.slotOf Z O n d ≠ RoadKit.slotOf Z ST "coder" "B" → RoadKit.Fld Z h' x O n d w
/-- **new String(chars) AT A CALL, THE ARRAYS AS LISTS**: the char[] at b holds cs, not empty, no char above 255 -/
theorem backArv {p : Program} {l : Launch} {e : Env} {R : Room} {s : State} {args : Array Value} {below : List Frame} {len W : Nat} {Z : State} {a0 : Array Value} {h : Heap} (hZ : Z.Warmed39 s.vm) (hw : ∀ d ∈ words, d.before a0 Z = true) {kI : Nat} (wi : (Jvm.Cond.instantiable ST kI).before a0 Z = true)
    {x b : Addr} {k : ClassId} {zn z : Int32} {cs : List Int32} {dv v0 c0 : Value} (E : RoadKit.Exa Z h x ST) (V : RoadKit.Fld Z h x ST "value" "[B" v0) (C : RoadKit.Fld Z h x ST "coder" "B" c0) (K : RoadKit.Arv Z h b k .char zn (cs.map Value.int) dv) (S : RoadKit.Sta Z h ST "COMPACT_STRINGS" "Z" (.int z)) (hz : ¬ z = 0)
    (hlen : zn.toNatClampNeg = cs.length) (h0 : 0 < cs.length) (hbig : cs.length ≤ 536870912) (hall : ∀ c ∈ cs, ¬ 255 < c) (hfr : 4 ≤ R.frames) (hlo : W + 65 ≤ R.locals) :
    Back l R p e below s args New1.yN len W (fun P a => a = #[.ref x, .ref b] ∧ P.U.heap = h ∧ P.cells + 1 ≤ R.cells ∧ P.slots + cs.length ≤ R.slots)
      (fun P _ v B => ∃ L, QA Z x zn cs h v B.U.heap L ∧ B.locs = P.locs ++ L ∧ B.cells = P.cells + 1 ∧ B.slots = P.slots + cs.length) := by
  obtain ⟨A, K1, K2, K3, K4, K5, K6⟩ := K
  have e : A.slots.size = cs.length := K3.trans hlen
  have hat : ∀ (i : Nat) (hi : i < cs.length), A.slots[i]? = some (.int cs[i]) := fun i hi => by rw [K5 i (by omega)]; simp [List.getD_eq_getElem?_getD, hi]
  have hcv : ∀ (i : Nat) (hi : i < cs.length), cv A i = cs[i] := fun i hi => by unfold cv; rw [hat i hi]
  have hty : Typed .char A := fun i v hv => by
    have hi : i < A.slots.size := (Array.getElem?_eq_some_iff.mp hv).1
    have q := K5 i hi
    rw [hv] at q
    rw [Option.some.inj q]
    exact K6 i hi
  refine Back.mono (back hZ hw wi E V C K1 hty S hz (by omega) (by omega) (fun i hi => by rw [hcv i (by omega)]; exact hall _ (List.getElem_mem _)) hfr hlo) (fun P a hp => ⟨hp.1, hp.2.1, hp.2.2.1, by rw [e]; exact hp.2.2.2⟩) (fun P a v B hp hq => ?_)
  obtain ⟨L, ⟨q1, q2, q3, q4, q5, q6, q7, ⟨V', v1, v2, v3, v4, v5⟩, q9⟩, hl, hc, hs⟩ := hq
  refine ⟨L, ⟨q1, q2, q3, q4, q5, q6, q7, ⟨V'.cls, v3, V', v1, rfl, by rw [v4, e, hlen], K4, fun i hi => ?_, fun i hi => ?_⟩, q9⟩, hl, hc, by rw [hs, e]⟩
  · have hi' : i < cs.length := by omega
    rw [v5 i (by omega), hcv i hi']; simp [List.getD_eq_getElem?_getD, hi']
  · have hi' : i < cs.length := by omega
    simp only [List.getD_eq_getElem?_getD, List.getElem?_map, List.getElem?_eq_getElem hi', Option.map_some, Option.getD_some]
    exact fits_lo8 _
end StrChars.Road
namespace StrChars.Road
open Jvm Sem ClassFile Op Lib Jvm.Stand Jvm.Free Jvm.Free.XT
/-- WHAT COMES BACK, in the writer's own shape -/
def QV (Z : State) (x : Addr) (N : Int32) (bs : List Int32) (h : Heap) (n0 : Nat) (v : Option Value) (h' : Heap) (L : List Loc) : Prop := v = none ∧ RoadKit.Fr n0 L ∧ RoadKit.Keep h h' [x] ∧ RoadKit.Exa Z h' x ST ∧ RoadKit.Fld Z h' x ST "coder" "B" (.int 0) ∧
  ∃ (t : Addr) (kb : ClassId), n0 ≤ t ∧ h.size ≤ t ∧ ¬ t = x ∧ RoadKit.Fld Z h' x ST "value" "[B" (.ref t) ∧ RoadKit.Arv Z h' t kb .byte N (bs.map Value.int) (.int 0)
/-- **new String(chars) AT A CALL, FOR THE WRITER**: a char[] of n known ints, each 0 to 255 -/
theorem backV {p : Program} {l : Launch} {e : Env} {R : Room} {s : State} {args : Array Value} {below : List Frame} {len W : Nat} {Z : State} {a0 : Array Value} {h : Heap} (hZ : Z.Warmed39 s.vm) (hw : ∀ d ∈ words, d.before a0 Z = true) {kI : Nat} (wi : (Jvm.Cond.instantiable ST kI).before a0 Z = true)
    {x b : Addr} {kC : ClassId} {cs bs : List Int32} {d v0 c0 : Value} {z N : Int32} {n n0 : Nat} (hx0 : n0 ≤ x) (hh0 : n0 ≤ h.size) (E : RoadKit.Exa Z h x ST) (V : RoadKit.Fld Z h x ST "value" "[B" v0) (C : RoadKit.Fld Z h x ST "coder" "B" c0) (K : RoadKit.Arv Z h b kC .char N (cs.map Value.int) d) (S : RoadKit.Sta Z h ST "COMPACT_STRINGS" "Z" (.int z)) (hz : ¬ z = 0)
    (hn : cs.length = n) (hN : N = Int32.ofNat n) (l0 : 0 < n) (l2 : n ≤ 4000) (hp : ∀ c ∈ cs, ¬ c < 0 ∧ ¬ (255 : Int32) < c) (hb : bs = cs.map (fun c => c.toInt8.toInt32)) (hfr : 4 ≤ R.frames) (hlo : W + 65 ≤ R.locals) :
    Back l R p e below s args (⟨"java/lang/String", "<init>", "([C)V"⟩ : MethodName) len W (fun P a => a = #[.ref x, .ref b] ∧ P.U.heap = h ∧ P.cells + 1 ≤ R.cells ∧ P.slots + n ≤ R.slots)
      (fun P _ v B => ∃ L, QV Z x N bs h n0 v B.U.heap L ∧ B.locs = P.locs ++ L ∧ B.cells = P.cells + 1 ∧ B.slots = P.slots + n) := by
  subst hn hN hb
  refine Back.mono (backArv hZ hw wi E V C K S hz (n32 (by omega)) l0 (by omega) (fun c hc => (hp c hc).2) hfr hlo) (fun P a hp => hp) (fun P a v B hp hq => ?_)
  obtain ⟨L, ⟨q1, q2, q3, q4, q5, q6, q7, ⟨kb, v1, v2⟩, q9⟩, hl, hc, hs⟩ := hq
  exact ⟨L, ⟨q1, fun y hy => by rw [q2 y hy]; exact hx0, q3, q5, q7, h.size, kb, hh0, Nat.le_refl _, Nat.ne_of_gt E.lt, q6, by rw [List.map_map]; exact v2⟩, hl, hc, hs⟩
end StrChars.Road
namespace StrChars
open Jvm Sem ClassFile Op Lib Jvm.Stand Jvm.Free.XT Jvm.Free.ALB Jvm.Free.JM Jvm.Free
open Jvm.Lib.Cold (StaticIs)
def hi8 (x : Int32) : Int32 := lo8 (x >>> ((8 : Int32) &&& 31))
/-- what StringUTF16.getChar makes of two bytes -/
def pairCh (u v : Int32) : Int32 := (((u &&& 255) <<< ((0 : Int32) &&& 31)) ||| ((v &&& 255) <<< ((8 : Int32) &&& 31))).toUInt32.toUInt16.toUInt32.toInt32
theorem shr0 (c : Int32) : c >>> ((0 : Int32) &&& 31) = c := by
  have e : ((0 : Int32) &&& 31) = 0 := by decide
  rw [e]
  apply Int32.toBitVec_inj.mp
  rw [Int32.toBitVec_shiftRight]
  have e1 : ((0 : Int32).toBitVec.smod 32) = 0#32 := by decide
  rw [e1, BitVec.sshiftRight_eq']
  exact BitVec.sshiftRight_zero
theorem lo8_and (x : Int32) : (lo8 x &&& 255).toBitVec.toNat = x.toBitVec.toNat % 256 := by
  have h : (lo8 x).toBitVec = (x.toBitVec.signExtend 8).signExtend 32 := by rw [lo8, Int8.toBitVec_toInt32, Int32.toBitVec_toInt8]
  rw [Int32.toBitVec_and, BitVec.toNat_and, h]
  have e : ((x.toBitVec.signExtend 8).signExtend 32).toNat % 256 = x.toBitVec.toNat % 256 := by
    rw [BitVec.toNat_signExtend]
    have hlt := x.toBitVec.isLt
    simp only [BitVec.toNat_setWidth, BitVec.toNat_signExtend]
    split <;> split <;> omega
  rw [← e]
  exact Nat.and_two_pow_sub_one_eq_mod _ 8
theorem pair_says {c : Int32} (h0 : ¬ c < 0) (h1 : ¬ 65535 < c) : pairCh (lo8 c) (hi8 c) = c := by
  rw [Int32.lt_iff_toInt_lt] at h0 h1
  have e0 : (0 : Int32).toInt = 0 := rfl
  have e1 : (65535 : Int32).toInt = 65535 := rfl
  have hc : c.toInt = c.toBitVec.toNat := by
    have := c.toBitVec.isLt
    have e : c.toInt = c.toBitVec.toInt := rfl
    rw [e] at h0 h1
    rw [e]
    rw [BitVec.toInt_eq_toNat_cond] at h0 h1 ⊢
    split at h0 <;> split <;> omega
  have hn : c.toBitVec.toNat < 65536 := by omega
  have a1 := lo8_and c
  have a2 : (hi8 c &&& 255).toBitVec.toNat = c.toBitVec.toNat / 256 := by
    rw [hi8, lo8_and]
    have e : ((8 : Int32) &&& 31) = 8 := by decide
    rw [e, Int32.toBitVec_shiftRight]
    have e2 : ((8 : Int32).toBitVec.smod 32) = 8#32 := by decide
    rw [e2, BitVec.sshiftRight_eq', BitVec.toNat_sshiftRight_of_msb_false (by rw [BitVec.msb_eq_false_iff_two_mul_lt]; omega)]
    show c.toBitVec.toNat >>> 8 % 256 = _
    rw [Nat.shiftRight_eq_div_pow]
    omega
  unfold pairCh
  apply Int32.toBitVec_inj.mp
  apply BitVec.eq_of_toNat_eq
  have f0 : ((0 : Int32) &&& 31) = 0 := by decide
  have f8 : ((8 : Int32) &&& 31) = 8 := by decide
  rw [f0, f8]
  have g : (((lo8 c &&& 255) <<< (0 : Int32)) ||| ((hi8 c &&& 255) <<< (8 : Int32))).toBitVec.toNat = c.toBitVec.toNat := by
    rw [Int32.toBitVec_or, Int32.toBitVec_shiftLeft, Int32.toBitVec_shiftLeft]
    have s0 : ((0 : Int32).toBitVec.smod 32) = 0#32 := by decide
    have s8 : ((8 : Int32).toBitVec.smod 32) = 8#32 := by decide
    rw [s0, s8, BitVec.toNat_or]
    simp only [BitVec.shiftLeft_eq', BitVec.toNat_shiftLeft, a1, a2]
    show (c.toBitVec.toNat % 256) <<< 0 % 2 ^ 32 ||| (c.toBitVec.toNat / 256) <<< 8 % 2 ^ 32 = _
    rw [Nat.shiftLeft_zero, Nat.mod_eq_of_lt (show c.toBitVec.toNat % 256 < 2 ^ 32 by omega), Nat.mod_eq_of_lt (show (c.toBitVec.toNat / 256) <<< 8 < 2 ^ 32 by rw [Nat.shiftLeft_eq]; omega), Nat.or_comm, ← Nat.shiftLeft_add_eq_or_of_lt (by omega), Nat.shiftLeft_eq]
    omega
  show BitVec.toNat (((((lo8 c &&& 255) <<< (0 : Int32)) ||| ((hi8 c &&& 255) <<< (8 : Int32))).toBitVec.setWidth 16).setWidth 32) = _
  rw [BitVec.toNat_setWidth, BitVec.toNat_setWidth, g]
  omega
end StrChars
namespace StrChars
open Jvm Sem ClassFile Op Lib Jvm.Stand Jvm.Free.XT Jvm.Free.ALB Jvm.Free.JM Jvm.Free
open Jvm.Lib.Cold (StaticIs)
theorem shr1 {n : Nat} (h : 2 * n < 2 ^ 31) : Int32.ofNat (2 * n) >>> ((1 : Int32) &&& 31) = Int32.ofNat n := by
  have e : ((1 : Int32) &&& 31) = 1 := by decide
  rw [e]
  apply Int32.toBitVec_inj.mp
  rw [Int32.toBitVec_shiftRight]
  have e1 : ((1 : Int32).toBitVec.smod 32) = 1#32 := by decide
  have hm : (BitVec.ofNat 32 (2 * n)).toNat = 2 * n := by rw [BitVec.toNat_ofNat, Nat.mod_eq_of_lt (by omega)]
  rw [e1, BitVec.sshiftRight_eq']
  apply BitVec.eq_of_toNat_eq
  show ((BitVec.ofNat 32 (2 * n)).sshiftRight 1).toNat = (BitVec.ofNat 32 n).toNat
  rw [BitVec.toNat_sshiftRight_of_msb_false (by rw [BitVec.msb_eq_false_iff_two_mul_lt, hm]; omega), hm, BitVec.toNat_ofNat, Nat.shiftRight_eq_div_pow]
  omega
/-- charAt's cast of a byte read back -/
def chr8 (u : Int32) : Int32 := (u &&& 255).toUInt32.toUInt16.toUInt32.toInt32
theorem chr8_lo8 {c : Int32} (h0 : ¬ c < 0) (h1 : ¬ 255 < c) : chr8 (lo8 c) = c := by
  have t : ∀ k : Fin 256, (Int32.ofNat k.val).toUInt32.toUInt16.toUInt32.toInt32 = Int32.ofNat k.val := by decide +kernel
  unfold chr8
  rw [lo8_mask h0 h1]
  rw [Int32.lt_iff_toInt_lt] at h0 h1
  have e0 : (0 : Int32).toInt = 0 := rfl
  have e1 : (255 : Int32).toInt = 255 := rfl
  obtain ⟨k, hk⟩ : ∃ k : Nat, c.toInt = k := ⟨c.toInt.toNat, by omega⟩
  have hx : c = Int32.ofNat k := Int32.toInt_inj.mp (by rw [hk, Int32.toInt_ofNat_small (by omega)])
  rw [hx]
  exact t ⟨k, by omega⟩
theorem narrow_ch {c : Int32} (h0 : ¬ c < 0) (h1 : ¬ 65535 < c) : narrow .char (.int c) = .int c := by
  have q : narrow .char (.int (pairCh (lo8 c) (hi8 c))) = .int (pairCh (lo8 c) (hi8 c)) := narrow_c _
  rwa [pair_says h0 h1] at q
/-- the array's cell V codes the n chars f 0 .. f (n - 1) by the coder cd, as the JDK does: coder 1 just where some char is above 255 -/
def Cod (cd : Int32) (n : Nat) (f : Nat → Int32) (V : Cell) : Prop := (cd = 0 ∧ V.slots.size = n ∧ ∀ j, j < n → V.slots[j]? = some (.int (lo8 (f j))) ∧ ¬ 255 < f j) ∨ (cd = 1 ∧ V.slots.size = 2 * n ∧ (∀ j, j < n → V.slots[2 * j]? = some (.int (lo8 (f j))) ∧ V.slots[2 * j + 1]? = some (.int (hi8 (f j)))) ∧ ∃ j, j < n ∧ 255 < f j)
theorem Cod.cd {cd : Int32} {n : Nat} {f : Nat → Int32} {V : Cell} (h : Cod cd n f V) : cd = 0 ∨ cd = 1 := h.imp (fun q => q.1) fun q => q.1
theorem Cod.len {cd : Int32} {n : Nat} {f : Nat → Int32} {V : Cell} (h : Cod cd n f V) (hs : V.slots.size < 2 ^ 31) : Int32.ofNat V.slots.size >>> (cd &&& 31) = Int32.ofNat n := by
  rcases h with ⟨rfl, h, -⟩ | ⟨rfl, h, -⟩
  · rw [shr0, h]
  · rw [h, shr1 (by omega)]
/-- **x is a String of the n chars f 0 .. f (n - 1)**, Latin-1 or UTF-16; its array at t has the cell V -/
def Txt (x t : Addr) (V : Cell) (cd : Int32) (n : Nat) (f : Nat → Int32) (U : State) : Prop := Exact "java/lang/String" x U ∧ Has x "java/lang/String" "value" "[B" (.ref t) U ∧ Has x "java/lang/String" "coder" "B" (.int cd) U ∧ XT.Arr .byte t V U ∧ Cod cd n f V ∧ ∀ j, j < n → ¬ f j < 0 ∧ ¬ 65535 < f j
theorem Txt.mv {x t : Addr} {V : Cell} {cd : Int32} {n : Nat} {f : Nat → Int32} {U U' : State} (h : Txt x t V cd n f U) (hal : U.vm.Alike U'.vm) (hh : U'.heap = U.heap) : Txt x t V cd n f U' := ⟨h.1.mv hal hh, h.2.1.mv hal hh, h.2.2.1.mv hal hh, h.2.2.2.1.mv hal hh, h.2.2.2.2⟩
namespace Cdr
def yN : MethodName := ⟨"java/lang/String", "coder", "()B"⟩
abbrev yB : ByteArray := jdk_42_method_152_code
theorem d0 : decode yB 0 = .ok (.getstatic 38, 3) := by decide +kernel
theorem d3 : decode yB 3 = .ok (.ifCond (.eq) 10, 3) := by decide +kernel
theorem d6 : decode yB 6 = .ok (.aload_n 0, 1) := by decide +kernel
theorem d7 : decode yB 7 = .ok (.getfield 15, 3) := by decide +kernel
theorem d10 : decode yB 10 = .ok (.goto 4, 3) := by decide +kernel
theorem d14 : decode yB 14 = .ok (.ireturn, 1) := by decide +kernel
def site : List Cond := [.fieldLink "java/lang/String" 38 "java/lang/String" "COMPACT_STRINGS" "Z", .fieldLink "java/lang/String" 15 "java/lang/String" "coder" "B"]
def tab : Cond := tabOf yN yB 1 (some .byte) site
def P (x : Addr) (cd z : Int32) (args : Array Value) (s : State) : Prop := args = #[.ref x] ∧ Has x "java/lang/String" "coder" "B" (.int cd) s ∧ (cd = 0 ∨ cd = 1) ∧ StaticIs s "java/lang/String" "COMPACT_STRINGS" "Z" (.int z) ∧ ¬ z = 0
def E (cd : Int32) (r : Option Value) (s u : State) : Prop := XT.PureE (some (.int cd)) r s u
theorem law (l : Launch) (x : Addr) (cd z : Int32) : Law l yN 1 0 0 0 yB 1 (some .byte) site (P x cd z) (E cd) [] 0 0 := by
  refine Law.of_walk (plainFor_of_name (by decide +kernel)) (by decide +kernel) (by decide +kernel) (by decide) (fun _ _ h => by rw [h.1]; rfl) (fun _ U U' hal hh h => ⟨h.1, h.2.1.mv hal hh, h.2.2.1, h.2.2.2.1.there hal hh, h.2.2.2.2⟩) (fun r U U' V V' h1 hal h2 h => XT.PureE.mv r U U' V V' h1 hal h2 h) ?_
  intro p e s m args below meth c s₁ X0 hexec hbytes hml hret hlk hnm hown hh0 W hP
  obtain ⟨rfl, hx, hc, s1, hz⟩ := hP
  have c1 : Steps p.tables e below (s₁.setTop (entryFrame m #[.ref x] 1)) (s₁.setTop (mkF m 0 #[.val (.ref x)] [])) := entry rfl
  obtain ⟨T2, X2, q2, st2⟩ := X0.sget hexec hown (wk W (.fieldLink "java/lang/String" 38 "java/lang/String" "COMPACT_STRINGS" "Z")) s1 (fun _ _ h => by rw [hh0]; exact h) (g := (mkF m 0 #[.val (.ref x)] [])) rfl (hb hbytes d0)
  have hh2 := q2.trans hh0
  have c3 : Steps p.tables e below (s₁.setTop (entryFrame m #[.ref x] 1)) (T2.setTop (mkF m 7 #[.val (.ref x)] [.ref x])) := (c1.trans (st2 _ (Steps.refl _))).trans (by
    refine XS.ifNo X2.here hexec rfl (hb hbytes d3) rfl (i0_eq_f hz) ?_
    refine XS.aloadN X2.here hexec rfl (hb hbytes d6) rfl rfl ?_
    exact Steps.refl _)
  obtain ⟨T4, X4, q4, st4⟩ := X2.hget hexec hown (wk W (.fieldLink "java/lang/String" 15 "java/lang/String" "coder" "B")) (hx.mv X2.warmed.alike hh2) (g := (mkF m 7 #[.val (.ref x)] [.ref x])) rfl (rest := []) rfl (hb hbytes d7)
  have c5 : Steps p.tables e below (s₁.setTop (entryFrame m #[.ref x] 1)) (T4.setTop (mkF m 14 #[.val (.ref x)] [.int cd])) := (c3.trans (st4 _ (Steps.refl _))).trans (by
    refine XS.goto X4.here hexec rfl (pc0 := 10) rfl (hb hbytes d10) (by decide) rfl ?_
    exact Steps.refl _)
  exact ⟨T4, some (.int cd), _, _, _, X4, rfl, rfl, rfl, (fun h => by cases h), ⟨rfl, q4.trans hh2⟩, fun fs hl => c5.trans (X4.ireturnOut hexec hret (by rcases hc with rfl | rfl <;> rfl) (Or.inr (Or.inr (Or.inl rfl))) (hb hbytes d14) hl)⟩
end Cdr
namespace Len
def yN : MethodName := ⟨"java/lang/String", "length", "()I"⟩
abbrev yB : ByteArray := jdk_42_method_54_code
theorem d0 : decode yB 0 = .ok (.aload_n 0, 1) := by decide +kernel
theorem d1 : decode yB 1 = .ok (.getfield 9, 3) := by decide +kernel
theorem d4 : decode yB 4 = .ok (.arraylength, 1) := by decide +kernel
theorem d5 : decode yB 5 = .ok (.aload_n 0, 1) := by decide +kernel
theorem d6 : decode yB 6 = .ok (.invokevirtual 335, 3) := by decide +kernel
theorem d9 : decode yB 9 = .ok (.ishr, 1) := by decide +kernel
theorem d10 : decode yB 10 = .ok (.ireturn, 1) := by decide +kernel
def site : List Cond := [.fieldLink "java/lang/String" 9 "java/lang/String" "value" "[B", Cdr.tab] ++ virtW "java/lang/String" 335 "java/lang/String" Cdr.yN Cdr.yN
def tab : Cond := tabOf yN yB 1 (some .int) site
def P (x t : Addr) (V : Cell) (cd : Int32) (n : Nat) (f : Nat → Int32) (z : Int32) (args : Array Value) (s : State) : Prop := args = #[.ref x] ∧ Txt x t V cd n f s ∧ StaticIs s "java/lang/String" "COMPACT_STRINGS" "Z" (.int z) ∧ ¬ z = 0
def E (n : Nat) (r : Option Value) (s u : State) : Prop := XT.PureE (some (.int (Int32.ofNat n))) r s u
/-- length() of a String of n chars, in either coding -/
theorem law (l : Launch) (x t : Addr) (V : Cell) (cd : Int32) (n : Nat) (f : Nat → Int32) (z : Int32) : Law l yN 1 0 1 13 yB 1 (some .int) site (P x t V cd n f z) (E n) [] 0 0 := by
  refine Law.of_walk (plainFor_of_name (by decide +kernel)) (by decide +kernel) (by decide +kernel) (by decide) (fun _ _ h => by rw [h.1]; rfl) (fun _ U U' hal hh h => ⟨h.1, h.2.1.mv hal hh, h.2.2.1.there hal hh, h.2.2.2⟩) (fun r U U' V V' h1 hal h2 h => XT.PureE.mv r U U' V V' h1 hal h2 h) ?_
  intro p e s m args below meth c s₁ X0 hexec hbytes hml hret hlk hnm hown hh0 W hP
  obtain ⟨rfl, hx, s1, hz⟩ := hP
  have v31 := hx.2.2.2.1.2.2.2
  have c1 : Steps p.tables e below (s₁.setTop (entryFrame m #[.ref x] 1)) (s₁.setTop (mkF m 1 #[.val (.ref x)] [.ref x])) := Steps.trans (entry rfl) (by
    show Steps p.tables e below (s₁.setTop (mkF m 0 #[.val (.ref x)] [])) _
    refine XS.aloadN X0.here hexec rfl (hb hbytes d0) rfl rfl ?_
    exact Steps.refl _)
  obtain ⟨T2, X2, q2, st2⟩ := X0.hget hexec hown (wk W (.fieldLink "java/lang/String" 9 "java/lang/String" "value" "[B")) (hx.mv X0.warmed.alike hh0).2.1 (g := (mkF m 1 #[.val (.ref x)] [.ref x])) rfl (rest := []) rfl (hb hbytes d1)
  have hh2 := q2.trans hh0
  have hx2 := hx.mv X2.warmed.alike hh2
  have c3 : Steps p.tables e below (s₁.setTop (entryFrame m #[.ref x] 1)) (T2.setTop (mkF m 6 #[.val (.ref x)] [.ref x, .int (Int32.ofNat V.slots.size)])) := (c1.trans (st2 _ (Steps.refl _))).trans (by
    refine X2.alen hexec hx2.2.2.2.1 rfl rfl (hb hbytes d4) ?_
    refine XS.aloadN X2.here hexec rfl (hb hbytes d5) rfl rfl ?_
    exact Steps.refl _)
  obtain ⟨v4, T4, X4, E4, g4⟩ := X2.callV hexec (Cdr.law l x cd z) hown (wks W (virtW "java/lang/String" 335 "java/lang/String" Cdr.yN Cdr.yN)) rfl (by decide) (wk W Cdr.tab) (W := 1) (Nat.le_of_ble_eq_true rfl) (Nat.le_of_ble_eq_true rfl) (Nat.le_refl _) (Nat.le_refl _) (hx2.1.fc X2.warmed.alike) hx2.1.is (g := (mkF m 6 #[.val (.ref x)] [.ref x, .int (Int32.ofNat V.slots.size)])) rfl (by rw [hml]; rfl) c3 (argsL := []) (rest := [.int (Int32.ofNat V.slots.size)]) rfl rfl (by show 2 * 0 + (1 + 0) ≤ _; decide) (hb hbytes d6) (⟨rfl, hx2.2.2.1, hx.2.2.2.2.1.cd, s1.there X2.warmed.alike hh2, hz⟩)
  obtain ⟨rfl, q4⟩ := E4
  have c5 : Steps p.tables e below (s₁.setTop (entryFrame m #[.ref x] 1)) (T4.setTop (mkF m 10 #[.val (.ref x)] [.int (Int32.ofNat V.slots.size >>> (cd &&& 31))])) := Steps.trans g4 (by
    refine ishr X4.here hexec rfl (hb hbytes d9) rfl ?_
    exact Steps.refl _)
  rw [hx.2.2.2.2.1.len v31] at c5
  exact ⟨T4, some (.int (Int32.ofNat n)), _, _, _, X4, rfl, rfl, rfl, (fun h => by cases h), ⟨rfl, q4.trans hh2⟩, fun fs hl => c5.trans (X4.ireturnOut hexec hret rfl (Or.inl rfl) (hb hbytes d10) hl)⟩
theorem pays {l : Launch} {R : Room} {p : Program} {e : Env} {below : List Frame} {s : State} {sargs : Array Value} {len W : Nat} (x t : Addr) (V : Cell) (cd : Int32) (n : Nat) (f : Nat → Int32) (z : Int32) (htab : tab.before sargs s = true) (hfr : 2 ≤ R.frames) (hlo : W + 25 ≤ R.locals) :
    Back l R p e below s sargs yN len W (fun A₁ a₁ => A₁.cells + 0 ≤ R.cells ∧ A₁.slots + 0 ≤ R.slots ∧ P x t V cd n f z a₁ A₁.U) (fun A₁ _ v₁ B₁ => E n v₁ A₁.U B₁.U ∧ B₁.locs = A₁.locs ++ [] ∧ B₁.cells = A₁.cells + 0 ∧ B₁.slots = A₁.slots + 0) :=
  (law l x t V cd n f z).pays htab hfr (by omega)
end Len
namespace IsL
def yN : MethodName := ⟨"java/lang/String", "isLatin1", "()Z"⟩
abbrev yB : ByteArray := jdk_42_method_154_code
theorem d0 : decode yB 0 = .ok (.getstatic 38, 3) := by decide +kernel
theorem d3 : decode yB 3 = .ok (.ifCond (.eq) 14, 3) := by decide +kernel
theorem d6 : decode yB 6 = .ok (.aload_n 0, 1) := by decide +kernel
theorem d7 : decode yB 7 = .ok (.getfield 15, 3) := by decide +kernel
theorem d10 : decode yB 10 = .ok (.ifCond (.ne) 7, 3) := by decide +kernel
theorem d13 : decode yB 13 = .ok (.iconst 1, 1) := by decide +kernel
theorem d14 : decode yB 14 = .ok (.goto 4, 3) := by decide +kernel
theorem d17 : decode yB 17 = .ok (.iconst 0, 1) := by decide +kernel
theorem d18 : decode yB 18 = .ok (.ireturn, 1) := by decide +kernel
def site : List Cond := [.fieldLink "java/lang/String" 38 "java/lang/String" "COMPACT_STRINGS" "Z", .fieldLink "java/lang/String" 15 "java/lang/String" "coder" "B"]
def tab : Cond := tabOf yN yB 1 (some .boolean) site
def P (x : Addr) (cd z : Int32) (args : Array Value) (s : State) : Prop := args = #[.ref x] ∧ Has x "java/lang/String" "coder" "B" (.int cd) s ∧ (cd = 0 ∨ cd = 1) ∧ StaticIs s "java/lang/String" "COMPACT_STRINGS" "Z" (.int z) ∧ ¬ z = 0
def E (cd : Int32) (r : Option Value) (s u : State) : Prop := XT.PureE (some (.int (1 - cd))) r s u
theorem law (l : Launch) (x : Addr) (cd z : Int32) : Law l yN 1 0 0 0 yB 1 (some .boolean) site (P x cd z) (E cd) [] 0 0 := by
  refine Law.of_walk (plainFor_of_name (by decide +kernel)) (by decide +kernel) (by decide +kernel) (by decide) (fun _ _ h => by rw [h.1]; rfl) (fun _ U U' hal hh h => ⟨h.1, h.2.1.mv hal hh, h.2.2.1, h.2.2.2.1.there hal hh, h.2.2.2.2⟩) (fun r U U' V V' h1 hal h2 h => XT.PureE.mv r U U' V V' h1 hal h2 h) ?_
  intro p e s m args below meth c s₁ X0 hexec hbytes hml hret hlk hnm hown hh0 W hP
  obtain ⟨rfl, hx, hc, s1, hz⟩ := hP
  have c1 : Steps p.tables e below (s₁.setTop (entryFrame m #[.ref x] 1)) (s₁.setTop (mkF m 0 #[.val (.ref x)] [])) := entry rfl
  obtain ⟨T2, X2, q2, st2⟩ := X0.sget hexec hown (wk W (.fieldLink "java/lang/String" 38 "java/lang/String" "COMPACT_STRINGS" "Z")) s1 (fun _ _ h => by rw [hh0]; exact h) (g := (mkF m 0 #[.val (.ref x)] [])) rfl (hb hbytes d0)
  have hh2 := q2.trans hh0
  have c3 : Steps p.tables e below (s₁.setTop (entryFrame m #[.ref x] 1)) (T2.setTop (mkF m 7 #[.val (.ref x)] [.ref x])) := (c1.trans (st2 _ (Steps.refl _))).trans (by
    refine XS.ifNo X2.here hexec rfl (hb hbytes d3) rfl (i0_eq_f hz) ?_
    refine XS.aloadN X2.here hexec rfl (hb hbytes d6) rfl rfl ?_
    exact Steps.refl _)
  obtain ⟨T4, X4, q4, st4⟩ := X2.hget hexec hown (wk W (.fieldLink "java/lang/String" 15 "java/lang/String" "coder" "B")) (hx.mv X2.warmed.alike hh2) (g := (mkF m 7 #[.val (.ref x)] [.ref x])) rfl (rest := []) rfl (hb hbytes d7)
  have c5 : Steps p.tables e below (s₁.setTop (entryFrame m #[.ref x] 1)) (T4.setTop (mkF m 10 #[.val (.ref x)] [.int cd])) := c3.trans (st4 _ (Steps.refl _))
  have c6 : Steps p.tables e below (s₁.setTop (entryFrame m #[.ref x] 1)) (T4.setTop (mkF m 18 #[.val (.ref x)] [.int (1 - cd)])) := by
    rcases hc with rfl | rfl
    · exact c5.trans (by
        refine XS.ifNo X4.here hexec rfl (hb hbytes d10) rfl (i0_ne_f rfl) ?_
        refine iconstV X4.here hexec rfl 1 (hb hbytes d13) (by decide) ?_
        refine XS.goto X4.here hexec rfl (pc0 := 14) rfl (hb hbytes d14) (by decide) rfl ?_
        exact Steps.refl _)
    · exact c5.trans (by
        refine XS.ifYes X4.here hexec rfl (pc0 := 10) rfl (hb hbytes d10) rfl (i0_ne_t (by decide)) (by decide) rfl ?_
        refine iconstV X4.here hexec rfl 0 (hb hbytes d17) (by decide) ?_
        exact Steps.refl _)
  exact ⟨T4, some (.int (1 - cd)), _, _, _, X4, rfl, rfl, rfl, (fun h => by cases h), ⟨rfl, q4.trans hh2⟩, fun fs hl => c6.trans (X4.ireturnOut hexec hret (by rcases hc with rfl | rfl <;> rfl) (Or.inr (Or.inl rfl)) (hb hbytes d18) hl)⟩
end IsL
namespace LChA
def yN : MethodName := ⟨"java/lang/StringLatin1", "charAt", "([BI)C"⟩
abbrev yB : ByteArray := jdk_43_method_2_code
theorem d0 : decode yB 0 = .ok (.iload_n 1, 1) := by decide +kernel
theorem d1 : decode yB 1 = .ok (.aload_n 0, 1) := by decide +kernel
theorem d2 : decode yB 2 = .ok (.arraylength, 1) := by decide +kernel
theorem d3 : decode yB 3 = .ok (.invokestatic 9, 3) := by decide +kernel
theorem d6 : decode yB 6 = .ok (.aload_n 0, 1) := by decide +kernel
theorem d7 : decode yB 7 = .ok (.iload_n 1, 1) := by decide +kernel
theorem d8 : decode yB 8 = .ok (.baload, 1) := by decide +kernel
theorem d9 : decode yB 9 = .ok (.sipush 255, 3) := by decide +kernel
theorem d12 : decode yB 12 = .ok (.iand, 1) := by decide +kernel
theorem d13 : decode yB 13 = .ok (.i2c, 1) := by decide +kernel
theorem d14 : decode yB 14 = .ok (.ireturn, 1) := by decide +kernel
def site : List Cond := [JO.Str_checkIndex.tab] ++ staticW "java/lang/StringLatin1" 9 JO.Str_checkIndex.yN
def tab : Cond := tabOf yN yB 2 (some .char) site
def P (t : Addr) (V : Cell) (i : Nat) (u : Int32) (fm : Value) (args : Array Value) (s : State) : Prop := args = #[.ref t, .int (Int32.ofNat i)] ∧ XT.Arr .byte t V s ∧ V.slots[i]? = some (.int u) ∧ (StaticIs s "jdk/internal/util/Preconditions" "SIOOBE_FORMATTER" "Ljava/util/function/BiFunction;" fm ∧ fm.isRef = true)
def E (u : Int32) (r : Option Value) (s w : State) : Prop := XT.PureE (some (.int (chr8 u))) r s w
theorem law (l : Launch) (t : Addr) (V : Cell) (i : Nat) (u : Int32) (fm : Value) : Law l yN 2 2 2 27 yB 2 (some .char) site (P t V i u fm) (E u) [] 0 0 := by
  refine Law.of_walk (plainFor_of_name (by decide +kernel)) (by decide +kernel) (by decide +kernel) (by decide) (fun _ _ h => by rw [h.1]; rfl) (fun _ U U' hal hh h => ⟨h.1, h.2.1.mv hal hh, h.2.2.1, h.2.2.2.1.there hal hh, h.2.2.2.2⟩) (fun r U U' V V' h1 hal h2 h => XT.PureE.mv r U U' V V' h1 hal h2 h) ?_
  intro p e s m args below meth c s₁ X0 hexec hbytes hml hret hlk hnm hown hh0 W hP
  obtain ⟨rfl, hV, hu, s1, rf⟩ := hP
  have v31 := hV.2.2.2
  have hi : i < V.slots.size := (Array.getElem?_eq_some_iff.mp hu).1
  have c1 : Steps p.tables e below (s₁.setTop (entryFrame m #[.ref t, .int (Int32.ofNat i)] 2)) (s₁.setTop (mkF m 0 #[.val (.ref t), .val (.int (Int32.ofNat i))] [])) := entry rfl
  have c2 : Steps p.tables e below (s₁.setTop (entryFrame m #[.ref t, .int (Int32.ofNat i)] 2)) (s₁.setTop (mkF m 3 #[.val (.ref t), .val (.int (Int32.ofNat i))] [.int (Int32.ofNat V.slots.size), .int (Int32.ofNat i)])) := c1.trans (by
    refine XS.iloadN X0.here hexec rfl (hb hbytes d0) rfl ?_
    refine XS.aloadN X0.here hexec rfl (hb hbytes d1) rfl rfl ?_
    refine X0.alen hexec (hV.mv X0.warmed.alike hh0) rfl rfl (hb hbytes d2) ?_
    exact Steps.refl _)
  obtain ⟨v3, T3, X3, E3, g3⟩ := X0.callS hexec (JO.Str_checkIndex.law l (Int32.ofNat i) (Int32.ofNat V.slots.size) fm) hown (wks W (staticW "java/lang/StringLatin1" 9 JO.Str_checkIndex.yN)) (wk W JO.Str_checkIndex.tab) (W := 0) (Nat.le_of_ble_eq_true rfl) (Nat.le_of_ble_eq_true rfl) (Nat.le_refl _) (Nat.le_refl _) (g := (mkF m 3 #[.val (.ref t), .val (.int (Int32.ofNat i))] [.int (Int32.ofNat V.slots.size), .int (Int32.ofNat i)])) rfl (by rw [hml]; rfl) c2 (argsL := [.int (Int32.ofNat i), .int (Int32.ofNat V.slots.size)]) (rest := []) rfl rfl (by show 2 * 0 + 0 ≤ _; decide) (hb hbytes d3) (⟨rfl, rf, s1.there X0.warmed.alike hh0, Int32.ofNat_not_neg (by omega), lt32 v31 hi⟩)
  obtain ⟨rfl, q3⟩ := E3
  have hh3 := q3.trans hh0
  have c4 : Steps p.tables e below (s₁.setTop (entryFrame m #[.ref t, .int (Int32.ofNat i)] 2)) (T3.setTop (mkF m 14 #[.val (.ref t), .val (.int (Int32.ofNat i))] [.int (chr8 u)])) := Steps.trans g3 (by
    refine XS.aloadN X3.here hexec rfl (hb hbytes d6) rfl rfl ?_
    refine XS.iloadN X3.here hexec rfl (hb hbytes d7) rfl ?_
    refine X3.aget hexec (hV.mv X3.warmed.alike hh3) rfl hu rfl rfl (hb hbytes d8) ?_
    refine sipushV X3.here hexec rfl 255 (hb hbytes d9) (by decide) ?_
    refine XS.iand X3.here hexec rfl (hb hbytes d12) rfl ?_
    refine i2c X3.here hexec rfl (hb hbytes d13) rfl ?_
    exact Steps.refl _)
  exact ⟨T3, some (.int (chr8 u)), _, _, _, X3, rfl, rfl, rfl, (fun h => by cases h), ⟨rfl, hh3⟩, fun fs hl => c4.trans (X3.ireturnOut hexec hret (narrow_c _) (Or.inr (Or.inr (Or.inr (Or.inl rfl)))) (hb hbytes d14) hl)⟩
end LChA
end StrChars
namespace StrChars.Road
open Jvm Sem ClassFile Op Lib Jvm.Stand Jvm.Free Jvm.Free.XT
open Jvm.Lib.Cold (StaticIs)
theorem consq {a : Array Value} {s : State} {c : Jvm.Cond} {L : List Jvm.Cond} (h0 : c.before a s = true) (h : ∀ w ∈ L, w.before a s = true) : ∀ w ∈ c :: L, w.before a s = true := fun w hw => (List.mem_cons.mp hw).elim (fun e => e ▸ h0) (h w)
/-- the words of String.length(), either coding -/
abbrev wordsLen : List Jvm.Cond := [.code Len.yN Len.yB 1 (some .int), .initialized ST, .fieldLink ST 9 ST "value" "[B", .fieldLink ST 38 ST "COMPACT_STRINGS" "Z", .fieldLink ST 15 ST "coder" "B", .code Cdr.yN Cdr.yB 1 (some .byte), .methodLink ST 335 Cdr.yN, .declares Cdr.yN, .selects ST Cdr.yN Cdr.yN, .instanceMethod Cdr.yN]
theorem tabLen_of {a : Array Value} {s : State} (h : ∀ w ∈ wordsLen, w.before a s = true) : Len.tab.before a s = true := by
  have hc : Cdr.tab.before a s = true := unparts (wk h (.code Cdr.yN Cdr.yB 1 (some .byte))) (wks h (.initialized Cdr.yN.cls :: Cdr.site))
  have q := consq hc h
  exact unparts (wk q (.code Len.yN Len.yB 1 (some .int))) (wks q (.initialized Len.yN.cls :: Len.site))
theorem movedLen {Z s : State} {a0 args : Array Value} (hZ : Z.Warmed39 s.vm) (hw : ∀ d ∈ wordsLen, d.before a0 Z = true) : ∀ d ∈ wordsLen, d.before args s = true := fun d hd => by
  have q := hw d hd
  have t : ∀ d ∈ wordsLen, d = .arrayClass .byte ∨ (d.onTables && d.keepsFace) = true := by decide +kernel
  rcases t d hd with rfl | t
  · exact RoadKit.mvA hZ q
  · exact RoadKit.mv hZ q t
/-- the bytes of the chars cs, low before high -/
def wideBytes : List Int32 → List Value
  | [] => []
  | c :: cs => .int (lo8 c) :: .int (hi8 c) :: wideBytes cs
theorem wide_lo (d : Value) : ∀ (cs : List Int32) (j : Nat), j < cs.length → (wideBytes cs).getD (2 * j) d = .int (lo8 (cs.getD j 0))
  | [], j, h => absurd h (Nat.not_lt_zero j)
  | c :: cs, 0, _ => rfl
  | c :: cs, j + 1, h => by
    have q := wide_lo d cs j (by simpa using h)
    rw [show 2 * (j + 1) = 2 * j + 1 + 1 from by omega]
    simpa [wideBytes] using q
theorem wide_hi (d : Value) : ∀ (cs : List Int32) (j : Nat), j < cs.length → (wideBytes cs).getD (2 * j + 1) d = .int (hi8 (cs.getD j 0))
  | [], j, h => absurd h (Nat.not_lt_zero j)
  | c :: cs, 0, _ => rfl
  | c :: cs, j + 1, h => by
    have q := wide_hi d cs j (by simpa using h)
    rw [show 2 * (j + 1) + 1 = 2 * j + 1 + 1 + 1 from by omega]
    simpa [wideBytes] using q
theorem low_at (d : Value) (cs : List Int32) (j : Nat) (h : j < cs.length) : (cs.map fun c => Value.int (lo8 c)).getD j d = .int (lo8 (cs.getD j 0)) := by
  simp [List.getD_eq_getElem?_getD, h]
/-- an array of N2 bytes vs codes the chars cs by the coder cd -/
def CodA (cs : List Int32) (cd N2 : Int32) (vs : List Value) : Prop := (cd = 0 ∧ N2 = Int32.ofNat cs.length ∧ vs = (cs.map fun c => Value.int (lo8 c)) ∧ ∀ c ∈ cs, ¬ 255 < c) ∨ (cd = 1 ∧ N2 = Int32.ofNat (2 * cs.length) ∧ vs = wideBytes cs ∧ ∃ c ∈ cs, 255 < c)
theorem CodA.cod {cs : List Int32} {cd N2 : Int32} {vs : List Value} {V : Cell} (h : CodA cs cd N2 vs) (hn : 2 * cs.length < 2 ^ 31) (hs : V.slots.size = N2.toNatClampNeg) (hv : RoadKit.Has V vs (.int 0)) : Cod cd cs.length (fun j => cs.getD j 0) V := by
  rcases h with ⟨rfl, rfl, rfl, h⟩ | ⟨rfl, rfl, rfl, c, hc, hw⟩
  · rw [n32 (by omega)] at hs
    exact Or.inl ⟨rfl, hs, fun j hj => ⟨by rw [hv j (by omega), low_at _ _ _ hj], by
      have e : cs.getD j 0 = cs[j] := by simp [List.getD_eq_getElem?_getD, hj]
      show ¬ 255 < cs.getD j 0
      rw [e]; exact h _ (List.getElem_mem _)⟩⟩
  · rw [n32 (by omega)] at hs
    obtain ⟨j, hj, rfl⟩ := List.getElem_of_mem hc
    exact Or.inr ⟨rfl, hs, fun j hj => ⟨by rw [hv _ (by omega), wide_lo _ _ _ hj], by rw [hv _ (by omega), wide_hi _ _ _ hj]⟩, j, hj, by
      have e : cs.getD j 0 = cs[j] := by simp [List.getD_eq_getElem?_getD, hj]
      show 255 < cs.getD j 0
      rw [e]; exact hw⟩
/-- an object of exactly java/lang/String, its two fields found: as the laws ask it -/
theorem strObj {Z U : State} {a0 : Array Value} {kI : Nat} (wi : (Jvm.Cond.instantiable ST kI).before a0 Z = true) (al : Z.vm.Alike U.vm) {x : Addr} {v0 c0 : Value} (E : RoadKit.Exa Z U.heap x ST) (V : RoadKit.Fld Z U.heap x ST "value" "[B" v0) (C : RoadKit.Fld Z U.heap x ST "coder" "B" c0) :
    ∃ (D : Cell) (fV fC : Field), Blank ST x D U ∧ Found ST "value" "[B" fV U ∧ Found ST "coder" "B" fC U ∧ D.slots[fV.slot]? = some v0 ∧ D.slots[fC.slot]? = some c0 ∧ RoadKit.slotOf Z ST "value" "[B" = fV.slot ∧ RoadKit.slotOf Z ST "coder" "B" = fC.slot := by
  obtain ⟨D, cfV, kV, iV, fV, hD, gV, stV, knV, obV, asV, slV⟩ := V
  obtain ⟨D', cfC, kC, iC, fC, hD', gC, stC, -, -, asC, slC⟩ := C
  cases hD.symm.trans hD'
  obtain ⟨D2, kD, e1, e2, e3, e4, e5⟩ := E
  cases hD.symm.trans e1
  obtain ⟨c2, k2, i1, i2, i3, -⟩ := Cond.instantiable_spec wi
  cases e2.symm.trans i1
  cases e3.symm.trans i2
  obtain ⟨kU, u1, u2⟩ := al.2.2 _ _ e3
  exact ⟨D, fV, fC, ⟨hD, ⟨knV, fun q hq => by rw [hq] at obV; cases obV⟩, by rw [al.findClass]; exact e2, kU, u1, by rw [u2]; exact i3, by rw [u2]; exact e5 i3⟩, ⟨SBG.found_only al ⟨cfV, kV, iV, gV⟩, stV⟩, ⟨SBG.found_only al ⟨cfC, kC, iC, gC⟩, stC⟩, slV, slC, by simp [RoadKit.slotOf, gV], by simp [RoadKit.slotOf, gC]⟩
theorem sta_is {Z U : State} (al : Z.vm.Alike U.vm) {C n d : String} {v : Value} (S : RoadKit.Sta Z U.heap C n d v) : StaticIs U C n d v := by
  obtain ⟨cfS, iS, kS, fS, st, cS, t1, t2, t3, t4, t5, t6, t7⟩ := S
  exact StaticIs.there (s := { Z with heap := U.heap }) ⟨cfS, iS, kS, fS, st, cS, t1, t2, t3, t4, t5, (fun q => by rw [q] at t6; cases t6), t7⟩ al rfl
/-- **length() OF SUCH A STRING** -/
theorem lenW {p : Program} {l : Launch} {e : Env} {R : Room} {s : State} {args : Array Value} {below : List Frame} {len W : Nat} {Z : State} {a0 : Array Value} {h : Heap} (hZ : Z.Warmed39 s.vm) (hw : ∀ d ∈ wordsLen, d.before a0 Z = true) {kI : Nat} (wi : (Jvm.Cond.instantiable ST kI).before a0 Z = true)
    {x t : Addr} {kb : ClassId} {cs : List Int32} {cd N2 z : Int32} {vs : List Value} (E : RoadKit.Exa Z h x ST) (V : RoadKit.Fld Z h x ST "value" "[B" (.ref t)) (C : RoadKit.Fld Z h x ST "coder" "B" (.int cd)) (K : RoadKit.Arv Z h t kb .byte N2 vs (.int 0)) (hc : CodA cs cd N2 vs) (hb : ∀ c ∈ cs, ¬ c < 0 ∧ ¬ (65535 : Int32) < c)
    (S : RoadKit.Sta Z h ST "COMPACT_STRINGS" "Z" (.int z)) (hz : ¬ z = 0) (l2 : cs.length ≤ 4000) (hfr : 2 ≤ R.frames) (hlo : W + 25 ≤ R.locals) :
    Back l R p e below s args (⟨"java/lang/String", "length", "()I"⟩ : MethodName) len W (fun P a => a = #[.ref x] ∧ P.U.heap = h ∧ P.cells + 0 ≤ R.cells ∧ P.slots + 0 ≤ R.slots)
      (fun P _ v B => ∃ L, (v = some (.int (Int32.ofNat cs.length)) ∧ L = [] ∧ B.U.heap = h) ∧ B.locs = P.locs ++ L ∧ B.cells = P.cells + 0 ∧ B.slots = P.slots + 0) := by
  obtain ⟨A, K1, K2, K3, K4, K5, K6⟩ := K
  have hcod := hc.cod (by omega) K3 K5
  intro m meth c P g ig mk a X hg hsize hdg hW hn hp'
  obtain ⟨rfl, rfl, r1, r2⟩ := hp'
  have al : Z.vm.Alike P.U.vm := hZ.alike.trans X.warmed.alike
  obtain ⟨D, fV, fC, hB, F1, F2, g1, g2, -, -⟩ := strObj wi al E V C
  have hx : Txt x t A cd cs.length (fun j => cs.getD j 0) P.U := ⟨⟨_, hB.2.2.1, D, hB.1, rfl, by cases q : D.vm <;> first | rfl | exact absurd q (hB.2.1.2 _)⟩, Has.of hB F1 g1, Has.of hB F2 g2, ⟨K1.1, State.isArrayOf_alike al K1.2.1, K1.2.2, by rcases hcod with ⟨-, q, -⟩ | ⟨-, q, -⟩ <;> omega⟩, hcod, fun j hj => by
    have e : cs.getD j 0 = cs[j] := by simp [List.getD_eq_getElem?_getD, hj]
    show ¬ cs.getD j 0 < 0 ∧ ¬ 65535 < cs.getD j 0
    rw [e]; exact hb _ (List.getElem_mem _)⟩
  obtain ⟨v, B, X', ⟨⟨hv, hh⟩, hl, hk, hs⟩, st⟩ := Len.pays x t A cd cs.length (fun j => cs.getD j 0) z (tabLen_of (movedLen hZ hw)) hfr hlo m meth c P g ig mk _ X hg hsize hdg hW hn ⟨r1, r2, rfl, hx, sta_is al S, hz⟩
  exact ⟨v, B, X', ⟨[], ⟨hv, rfl, hh⟩, hl, hk, hs⟩, st⟩
end StrChars.Road
namespace StrChars
open Jvm Sem ClassFile Op Lib Jvm.Stand Jvm.Free.XT Jvm.Free.ALB Jvm.Free.JM Jvm.Free
open Jvm.Lib.Cold (StaticIs)
namespace Emp
def yN : MethodName := ⟨"java/lang/String", "isEmpty", "()Z"⟩
abbrev yB : ByteArray := jdk_42_method_55_code
theorem d0 : decode yB 0 = .ok (.aload_n 0, 1) := by decide +kernel
theorem d1 : decode yB 1 = .ok (.getfield 9, 3) := by decide +kernel
theorem d4 : decode yB 4 = .ok (.arraylength, 1) := by decide +kernel
theorem d5 : decode yB 5 = .ok (.ifCond (.ne) 7, 3) := by decide +kernel
theorem d8 : decode yB 8 = .ok (.iconst 1, 1) := by decide +kernel
theorem d9 : decode yB 9 = .ok (.goto 4, 3) := by decide +kernel
theorem d12 : decode yB 12 = .ok (.iconst 0, 1) := by decide +kernel
theorem d13 : decode yB 13 = .ok (.ireturn, 1) := by decide +kernel
def site : List Cond := [.fieldLink "java/lang/String" 9 "java/lang/String" "value" "[B"]
def tab : Cond := tabOf yN yB 1 (some .boolean) site
def P (x t : Addr) (V : Cell) (cd : Int32) (n : Nat) (f : Nat → Int32) (args : Array Value) (s : State) : Prop := args = #[.ref x] ∧ Txt x t V cd n f s
def E (n : Nat) (r : Option Value) (s u : State) : Prop := XT.PureE (some (.int (if n = 0 then 1 else 0))) r s u
/-- isEmpty() of a String of n chars -/
theorem law (l : Launch) (x t : Addr) (V : Cell) (cd : Int32) (n : Nat) (f : Nat → Int32) : Law l yN 1 0 0 0 yB 1 (some .boolean) site (P x t V cd n f) (E n) [] 0 0 := by
  refine Law.of_walk (plainFor_of_name (by decide +kernel)) (by decide +kernel) (by decide +kernel) (by decide) (fun _ _ h => by rw [h.1]; rfl) (fun _ U U' hal hh h => ⟨h.1, h.2.mv hal hh⟩) (fun r U U' V V' h1 hal h2 h => XT.PureE.mv r U U' V V' h1 hal h2 h) ?_
  intro p e s m args below meth c s₁ X0 hexec hbytes hml hret hlk hnm hown hh0 W hP
  obtain ⟨rfl, hx⟩ := hP
  have v31 := hx.2.2.2.1.2.2.2
  have c1 : Steps p.tables e below (s₁.setTop (entryFrame m #[.ref x] 1)) (s₁.setTop (mkF m 1 #[.val (.ref x)] [.ref x])) := Steps.trans (entry rfl) (by
    show Steps p.tables e below (s₁.setTop (mkF m 0 #[.val (.ref x)] [])) _
    refine XS.aloadN X0.here hexec rfl (hb hbytes d0) rfl rfl ?_
    exact Steps.refl _)
  obtain ⟨T2, X2, q2, st2⟩ := X0.hget hexec hown (wk W (.fieldLink "java/lang/String" 9 "java/lang/String" "value" "[B")) (hx.mv X0.warmed.alike hh0).2.1 (g := (mkF m 1 #[.val (.ref x)] [.ref x])) rfl (rest := []) rfl (hb hbytes d1)
  have hh2 := q2.trans hh0
  have hx2 := hx.mv X2.warmed.alike hh2
  have c3 : Steps p.tables e below (s₁.setTop (entryFrame m #[.ref x] 1)) (T2.setTop (mkF m 5 #[.val (.ref x)] [.int (Int32.ofNat V.slots.size)])) := (c1.trans (st2 _ (Steps.refl _))).trans (by
    refine X2.alen hexec hx2.2.2.2.1 rfl rfl (hb hbytes d4) ?_
    exact Steps.refl _)
  have hz : V.slots.size = 0 ↔ n = 0 := by
    rcases hx.2.2.2.2.1 with ⟨-, q, -⟩ | ⟨-, q, -⟩ <;> omega
  by_cases h0 : n = 0
  · have c4 : Steps p.tables e below (s₁.setTop (entryFrame m #[.ref x] 1)) (T2.setTop (mkF m 13 #[.val (.ref x)] [.int 1])) := c3.trans (by
      refine XS.ifNo X2.here hexec rfl (hb hbytes d5) rfl (i0_ne_f (by rw [hz.mpr h0]; rfl)) ?_
      refine iconstV X2.here hexec rfl 1 (hb hbytes d8) (by decide) ?_
      refine XS.goto X2.here hexec rfl (pc0 := 9) rfl (hb hbytes d9) (by decide) rfl ?_
      exact Steps.refl _)
    exact ⟨T2, some (.int 1), _, _, _, X2, rfl, rfl, rfl, (fun h => by cases h), ⟨by rw [if_pos h0], hh2⟩, fun fs hl => c4.trans (X2.ireturnOut hexec hret rfl (Or.inr (Or.inl rfl)) (hb hbytes d13) hl)⟩
  · have c4 : Steps p.tables e below (s₁.setTop (entryFrame m #[.ref x] 1)) (T2.setTop (mkF m 13 #[.val (.ref x)] [.int 0])) := c3.trans (by
      refine XS.ifYes X2.here hexec rfl (pc0 := 5) rfl (hb hbytes d5) rfl (i0_ne_t (nz32 v31 (by omega))) (by decide) rfl ?_
      refine iconstV X2.here hexec rfl 0 (hb hbytes d12) (by decide) ?_
      exact Steps.refl _)
    exact ⟨T2, some (.int 0), _, _, _, X2, rfl, rfl, rfl, (fun h => by cases h), ⟨by rw [if_neg h0], hh2⟩, fun fs hl => c4.trans (X2.ireturnOut hexec hret rfl (Or.inr (Or.inl rfl)) (hb hbytes d13) hl)⟩
theorem pays {l : Launch} {R : Room} {p : Program} {e : Env} {below : List Frame} {s : State} {sargs : Array Value} {len W : Nat} (x t : Addr) (V : Cell) (cd : Int32) (n : Nat) (f : Nat → Int32) (htab : tab.before sargs s = true) (hfr : 1 ≤ R.frames) (hlo : W + 12 ≤ R.locals) :
    Back l R p e below s sargs yN len W (fun A₁ a₁ => A₁.cells + 0 ≤ R.cells ∧ A₁.slots + 0 ≤ R.slots ∧ P x t V cd n f a₁ A₁.U) (fun A₁ _ v₁ B₁ => E n v₁ A₁.U B₁.U ∧ B₁.locs = A₁.locs ++ [] ∧ B₁.cells = A₁.cells + 0 ∧ B₁.slots = A₁.slots + 0) :=
  (law l x t V cd n f).pays htab hfr (by omega)
end Emp
end StrChars
namespace StrChars.Road
open Jvm Sem ClassFile Op Lib Jvm.Stand Jvm.Free Jvm.Free.XT
open Jvm.Lib.Cold (StaticIs)
/-- the words of String.isEmpty() -/
abbrev wordsEmp : List Jvm.Cond := [.code Emp.yN Emp.yB 1 (some .boolean), .initialized ST, .fieldLink ST 9 ST "value" "[B"]
theorem tabEmp_of {a : Array Value} {s : State} (h : ∀ w ∈ wordsEmp, w.before a s = true) : Emp.tab.before a s = true := unparts (wk h (.code Emp.yN Emp.yB 1 (some .boolean))) (wks h (.initialized Emp.yN.cls :: Emp.site))
theorem movedEmp {Z s : State} {a0 args : Array Value} (hZ : Z.Warmed39 s.vm) (hw : ∀ d ∈ wordsEmp, d.before a0 Z = true) : ∀ d ∈ wordsEmp, d.before args s = true := fun d hd => by
  have t : ∀ d ∈ wordsEmp, (d.onTables && d.keepsFace) = true := by decide +kernel
  exact RoadKit.mv hZ (hw d hd) (t d hd)
/-- the road's facts of a String, as the laws ask it -/
theorem txt_of {Z U : State} {a0 : Array Value} {kI : Nat} (wi : (Jvm.Cond.instantiable ST kI).before a0 Z = true) (al : Z.vm.Alike U.vm) {x t : Addr} {kb : ClassId} {cs : List Int32} {cd N2 : Int32} {vs : List Value} (E : RoadKit.Exa Z U.heap x ST) (V : RoadKit.Fld Z U.heap x ST "value" "[B" (.ref t)) (C : RoadKit.Fld Z U.heap x ST "coder" "B" (.int cd)) (K : RoadKit.Arv Z U.heap t kb .byte N2 vs (.int 0)) (hc : CodA cs cd N2 vs) (hb : ∀ c ∈ cs, ¬ c < 0 ∧ ¬ (65535 : Int32) < c) (l2 : cs.length ≤ 4000) :
    ∃ A, Txt x t A cd cs.length (fun j => cs.getD j 0) U := by
  obtain ⟨A, K1, K2, K3, K4, K5, K6⟩ := K
  have hcod := hc.cod (by omega) K3 K5
  obtain ⟨D, fV, fC, hB, F1, F2, g1, g2, -, -⟩ := strObj wi al E V C
  exact ⟨A, ⟨_, hB.2.2.1, D, hB.1, rfl, by cases q : D.vm <;> first | rfl | exact absurd q (hB.2.1.2 _)⟩, Has.of hB F1 g1, Has.of hB F2 g2, ⟨K1.1, State.isArrayOf_alike al K1.2.1, K1.2.2, by rcases hcod with ⟨-, q, -⟩ | ⟨-, q, -⟩ <;> omega⟩, hcod, fun j hj => by
    have e : cs.getD j 0 = cs[j] := by simp [List.getD_eq_getElem?_getD, hj]
    show ¬ cs.getD j 0 < 0 ∧ ¬ 65535 < cs.getD j 0
    rw [e]; exact hb _ (List.getElem_mem _)⟩
/-- **isEmpty() OF SUCH A STRING** -/
theorem empW {p : Program} {l : Launch} {e : Env} {R : Room} {s : State} {args : Array Value} {below : List Frame} {len W : Nat} {Z : State} {a0 : Array Value} {h : Heap} (hZ : Z.Warmed39 s.vm) (hw : ∀ d ∈ wordsEmp, d.before a0 Z = true) {kI : Nat} (wi : (Jvm.Cond.instantiable ST kI).before a0 Z = true)
    {x t : Addr} {kb : ClassId} {cs : List Int32} {cd N2 : Int32} {vs : List Value} (E : RoadKit.Exa Z h x ST) (V : RoadKit.Fld Z h x ST "value" "[B" (.ref t)) (C : RoadKit.Fld Z h x ST "coder" "B" (.int cd)) (K : RoadKit.Arv Z h t kb .byte N2 vs (.int 0)) (hc : CodA cs cd N2 vs) (hb : ∀ c ∈ cs, ¬ c < 0 ∧ ¬ (65535 : Int32) < c) (l2 : cs.length ≤ 4000) (hfr : 1 ≤ R.frames) (hlo : W + 12 ≤ R.locals) :
    Back l R p e below s args (⟨"java/lang/String", "isEmpty", "()Z"⟩ : MethodName) len W (fun P a => a = #[.ref x] ∧ P.U.heap = h ∧ P.cells + 0 ≤ R.cells ∧ P.slots + 0 ≤ R.slots)
      (fun P _ v B => ∃ L, (v = some (.int (if cs.length = 0 then 1 else 0)) ∧ L = [] ∧ B.U.heap = h) ∧ B.locs = P.locs ++ L ∧ B.cells = P.cells + 0 ∧ B.slots = P.slots + 0) := by
  intro m meth c P g ig mk a X hg hsize hdg hW hn hp'
  obtain ⟨rfl, rfl, r1, r2⟩ := hp'
  have al : Z.vm.Alike P.U.vm := hZ.alike.trans X.warmed.alike
  obtain ⟨A, hx⟩ := txt_of wi al E V C K hc hb l2
  obtain ⟨v, B, X', ⟨⟨hv, hh⟩, hl, hk, hs⟩, st⟩ := Emp.pays x t A cd cs.length (fun j => cs.getD j 0) (tabEmp_of (movedEmp hZ hw)) hfr hlo m meth c P g ig mk _ X hg hsize hdg hW hn ⟨r1, r2, rfl, hx⟩
  exact ⟨v, B, X', ⟨[], ⟨hv, rfl, hh⟩, hl, hk, hs⟩, st⟩
end StrChars.Road
namespace StrChars
open Jvm Sem ClassFile Op Lib Jvm.Stand Jvm.Free.XT Jvm.Free.ALB Jvm.Free.JM Jvm.Free
open Jvm.Lib.Cold (StaticIs)
namespace ChN
def yN : MethodName := ⟨"java/lang/String", "charAt", "(I)C"⟩
abbrev yB : ByteArray := jdk_42_method_56_code
theorem d0 : decode yB 0 = .ok (.aload_n 0, 1) := by decide +kernel
theorem d1 : decode yB 1 = .ok (.invokevirtual 492, 3) := by decide +kernel
theorem d4 : decode yB 4 = .ok (.ifCond (.eq) 12, 3) := by decide +kernel
theorem d7 : decode yB 7 = .ok (.aload_n 0, 1) := by decide +kernel
theorem d8 : decode yB 8 = .ok (.getfield 9, 3) := by decide +kernel
theorem d11 : decode yB 11 = .ok (.iload_n 1, 1) := by decide +kernel
theorem d12 : decode yB 12 = .ok (.invokestatic 495, 3) := by decide +kernel
theorem d15 : decode yB 15 = .ok (.ireturn, 1) := by decide +kernel
def site : List Cond := [.fieldLink "java/lang/String" 9 "java/lang/String" "value" "[B", IsL.tab, LChA.tab] ++ virtW "java/lang/String" 492 "java/lang/String" IsL.yN IsL.yN ++ staticW "java/lang/String" 495 LChA.yN
def tab : Cond := tabOf yN yB 2 (some .char) site
def P (x t : Addr) (V : Cell) (n : Nat) (f : Nat → Int32) (z : Int32) (fm : Value) (i : Nat) (args : Array Value) (s : State) : Prop := args = #[.ref x, .int (Int32.ofNat i)] ∧ Txt x t V 0 n f s ∧ i < n ∧ StaticIs s "java/lang/String" "COMPACT_STRINGS" "Z" (.int z) ∧ ¬ z = 0 ∧ StaticIs s "jdk/internal/util/Preconditions" "SIOOBE_FORMATTER" "Ljava/util/function/BiFunction;" fm ∧ fm.isRef = true
def E (f : Nat → Int32) (i : Nat) (r : Option Value) (s u : State) : Prop := XT.PureE (some (.int (f i))) r s u
/-- charAt(i) of a Latin-1 String of n chars, i < n: f i -/
theorem law (l : Launch) (x t : Addr) (V : Cell) (n : Nat) (f : Nat → Int32) (z : Int32) (fm : Value) (i : Nat) : Law l yN 2 1 3 40 yB 2 (some .char) site (P x t V n f z fm i) (E f i) [] 0 0 := by
  refine Law.of_walk (plainFor_of_name (by decide +kernel)) (by decide +kernel) (by decide +kernel) (by decide) (fun _ _ h => by rw [h.1]; rfl) (fun _ U U' hal hh h => ⟨h.1, h.2.1.mv hal hh, h.2.2.1, h.2.2.2.1.there hal hh, h.2.2.2.2.1, h.2.2.2.2.2.1.there hal hh, h.2.2.2.2.2.2⟩) (fun r U U' V V' h1 hal h2 h => XT.PureE.mv r U U' V V' h1 hal h2 h) ?_
  intro p e s m args below meth c s₁ X0 hexec hbytes hml hret hlk hnm hown hh0 W hP
  obtain ⟨rfl, hx, hi, s1, hz, s3, rf⟩ := hP
  have v31 := hx.2.2.2.1.2.2.2
  have hr := hx.2.2.2.2.2 i hi
  have hx0 := hx.mv X0.warmed.alike hh0
  have c1 : Steps p.tables e below (s₁.setTop (entryFrame m #[.ref x, .int (Int32.ofNat i)] 2)) (s₁.setTop (mkF m 1 #[.val (.ref x), .val (.int (Int32.ofNat i))] [.ref x])) := Steps.trans (entry rfl) (by
    show Steps p.tables e below (s₁.setTop (mkF m 0 #[.val (.ref x), .val (.int (Int32.ofNat i))] [])) _
    refine XS.aloadN X0.here hexec rfl (hb hbytes d0) rfl rfl ?_
    exact Steps.refl _)
  obtain ⟨v2, T2, X2, E2, g2⟩ := X0.callV hexec (IsL.law l x 0 z) hown (wks W (virtW "java/lang/String" 492 "java/lang/String" IsL.yN IsL.yN)) rfl (by decide) (wk W IsL.tab) (W := 0) (Nat.le_of_ble_eq_true rfl) (Nat.le_of_ble_eq_true rfl) (Nat.le_refl _) (Nat.le_refl _) (hx0.1.fc X0.warmed.alike) hx0.1.is (g := (mkF m 1 #[.val (.ref x), .val (.int (Int32.ofNat i))] [.ref x])) rfl (by rw [hml]; rfl) c1 (argsL := []) (rest := []) rfl rfl (by show 2 * 0 + 0 ≤ _; decide) (hb hbytes d1) (⟨rfl, hx0.2.2.1, hx.2.2.2.2.1.cd, s1.there X0.warmed.alike hh0, hz⟩)
  obtain ⟨rfl, q2⟩ := E2
  have hh2 := q2.trans hh0
  have hx2 := hx.mv X2.warmed.alike hh2
  obtain ⟨-, k1, k2⟩ | ⟨k0, -⟩ := hx.2.2.2.2.1
  · have c3 : Steps p.tables e below (s₁.setTop (entryFrame m #[.ref x, .int (Int32.ofNat i)] 2)) (T2.setTop (mkF m 8 #[.val (.ref x), .val (.int (Int32.ofNat i))] [.ref x])) := Steps.trans g2 (by
      refine XS.ifNo X2.here hexec rfl (hb hbytes d4) rfl (i0_eq_f (by decide)) ?_
      refine XS.aloadN X2.here hexec rfl (hb hbytes d7) rfl rfl ?_
      exact Steps.refl _)
    obtain ⟨T4, X4, q4, st4⟩ := X2.hget hexec hown (wk W (.fieldLink "java/lang/String" 9 "java/lang/String" "value" "[B")) hx2.2.1 (g := (mkF m 8 #[.val (.ref x), .val (.int (Int32.ofNat i))] [.ref x])) rfl (rest := []) rfl (hb hbytes d8)
    have hh4 := q4.trans hh2
    have c5 : Steps p.tables e below (s₁.setTop (entryFrame m #[.ref x, .int (Int32.ofNat i)] 2)) (T4.setTop (mkF m 12 #[.val (.ref x), .val (.int (Int32.ofNat i))] [.int (Int32.ofNat i), .ref t])) := (c3.trans (st4 _ (Steps.refl _))).trans (by
      refine XS.iloadN X4.here hexec rfl (hb hbytes d11) rfl ?_
      exact Steps.refl _)
    obtain ⟨v6, T6, X6, E6, g6⟩ := X4.callS hexec (LChA.law l t V i (lo8 (f i)) fm) hown (wks W (staticW "java/lang/String" 495 LChA.yN)) (wk W LChA.tab) (W := 0) (Nat.le_of_ble_eq_true rfl) (Nat.le_of_ble_eq_true rfl) (Nat.le_refl _) (Nat.le_refl _) (g := (mkF m 12 #[.val (.ref x), .val (.int (Int32.ofNat i))] [.int (Int32.ofNat i), .ref t])) rfl (by rw [hml]; rfl) c5 (argsL := [.ref t, .int (Int32.ofNat i)]) (rest := []) rfl rfl (by show 2 * 0 + 0 ≤ _; decide) (hb hbytes d12) (⟨rfl, hx.2.2.2.1.mv X4.warmed.alike hh4, (k2 i hi).1, s3.there X4.warmed.alike hh4, rf⟩)
    obtain ⟨rfl, q6⟩ := E6
    rw [chr8_lo8 hr.1 (k2 i hi).2] at g6
    exact ⟨T6, some (.int (f i)), _, _, _, X6, rfl, rfl, rfl, (fun h => by cases h), ⟨rfl, q6.trans hh4⟩, fun fs hl => Steps.trans g6 (X6.ireturnOut hexec hret (narrow_ch hr.1 hr.2) (Or.inr (Or.inr (Or.inr (Or.inl rfl)))) (hb hbytes d15) hl)⟩
  · exact absurd k0 (by decide)
theorem pays {l : Launch} {R : Room} {p : Program} {e : Env} {below : List Frame} {s : State} {sargs : Array Value} {len W : Nat} (x t : Addr) (V : Cell) (n : Nat) (f : Nat → Int32) (z : Int32) (fm : Value) (i : Nat) (htab : tab.before sargs s = true) (hfr : 4 ≤ R.frames) (hlo : W + 53 ≤ R.locals) :
    Back l R p e below s sargs yN len W (fun A₁ a₁ => A₁.cells + 0 ≤ R.cells ∧ A₁.slots + 0 ≤ R.slots ∧ P x t V n f z fm i a₁ A₁.U) (fun A₁ _ v₁ B₁ => E f i v₁ A₁.U B₁.U ∧ B₁.locs = A₁.locs ++ [] ∧ B₁.cells = A₁.cells + 0 ∧ B₁.slots = A₁.slots + 0) :=
  (law l x t V n f z fm i).pays htab hfr (by omega)
end ChN
end StrChars
namespace StrChars.Road
open Jvm Sem ClassFile Op Lib Jvm.Stand Jvm.Free Jvm.Free.XT
open Jvm.Lib.Cold (StaticIs)
/-- the words of String.charAt(int), the Latin-1 road alone -/
abbrev wordsChN : List Jvm.Cond := [.code ChN.yN ChN.yB 2 (some .char), .initialized ST, .fieldLink ST 9 ST "value" "[B", .fieldLink ST 38 ST "COMPACT_STRINGS" "Z", .fieldLink ST 15 ST "coder" "B", .code IsL.yN IsL.yB 1 (some .boolean), .methodLink ST 492 IsL.yN, .declares IsL.yN, .selects ST IsL.yN IsL.yN, .instanceMethod IsL.yN,
  .methodLink ST 495 LChA.yN, .static LChA.yN, .code LChA.yN LChA.yB 2 (some .char), .initialized "java/lang/StringLatin1", .methodLink "java/lang/StringLatin1" 9 JO.Str_checkIndex.yN, .static JO.Str_checkIndex.yN, .code JO.Str_checkIndex.yN JO.Str_checkIndex.yB 2 none,
  .fieldLink ST 1053 "jdk/internal/util/Preconditions" "SIOOBE_FORMATTER" "Ljava/util/function/BiFunction;", .methodLink ST 1059 JC.PreCheck.yN, .static JC.PreCheck.yN, .code JC.PreCheck.yN JC.PreCheck.yB 3 (some .int), .initialized "jdk/internal/util/Preconditions"]
theorem tabChN_of {a : Array Value} {s : State} (h : ∀ w ∈ wordsChN, w.before a s = true) : ChN.tab.before a s = true := by
  have hp : JC.PreCheck.tab.before a s = true := unparts (wk h (.code JC.PreCheck.yN JC.PreCheck.yB 3 (some .int))) (wks h (.initialized JC.PreCheck.yN.cls :: JC.PreCheck.site))
  have qk := consq hp h
  have hk : JO.Str_checkIndex.tab.before a s = true := unparts (wk qk (.code JO.Str_checkIndex.yN JO.Str_checkIndex.yB 2 none)) (wks qk (.initialized JO.Str_checkIndex.yN.cls :: JO.Str_checkIndex.site))
  have ql := consq hk h
  have hl : LChA.tab.before a s = true := unparts (wk ql (.code LChA.yN LChA.yB 2 (some .char))) (wks ql (.initialized LChA.yN.cls :: LChA.site))
  have hi : IsL.tab.before a s = true := unparts (wk h (.code IsL.yN IsL.yB 1 (some .boolean))) (wks h (.initialized IsL.yN.cls :: IsL.site))
  have q := consq hi (consq hl h)
  exact unparts (wk q (.code ChN.yN ChN.yB 2 (some .char))) (wks q (.initialized ChN.yN.cls :: ChN.site))
theorem movedChN {Z s : State} {a0 args : Array Value} (hZ : Z.Warmed39 s.vm) (hw : ∀ d ∈ wordsChN, d.before a0 Z = true) : ∀ d ∈ wordsChN, d.before args s = true := fun d hd => by
  have t : ∀ d ∈ wordsChN, (d.onTables && d.keepsFace) = true := by decide +kernel
  exact RoadKit.mv hZ (hw d hd) (t d hd)
/-- **charAt(i) OF A LATIN-1 STRING**, i < n: the char -/
theorem chN {p : Program} {l : Launch} {e : Env} {R : Room} {s : State} {args : Array Value} {below : List Frame} {len W : Nat} {Z : State} {a0 : Array Value} {h : Heap} (hZ : Z.Warmed39 s.vm) (hw : ∀ d ∈ wordsChN, d.before a0 Z = true) {kI : Nat} (wi : (Jvm.Cond.instantiable ST kI).before a0 Z = true)
    {x t : Addr} {kb : ClassId} {cs : List Int32} {N2 z : Int32} {vs : List Value} {fm : Value} {i : Nat} {j : Int32} (E : RoadKit.Exa Z h x ST) (V : RoadKit.Fld Z h x ST "value" "[B" (.ref t)) (C : RoadKit.Fld Z h x ST "coder" "B" (.int 0)) (K : RoadKit.Arv Z h t kb .byte N2 vs (.int 0)) (hc : CodA cs 0 N2 vs) (hb : ∀ c ∈ cs, ¬ c < 0 ∧ ¬ (65535 : Int32) < c)
    (S : RoadKit.Sta Z h ST "COMPACT_STRINGS" "Z" (.int z)) (hz : ¬ z = 0) (F : RoadKit.Sta Z h "jdk/internal/util/Preconditions" "SIOOBE_FORMATTER" "Ljava/util/function/BiFunction;" fm) (rf : fm.isRef = true) (l2 : cs.length ≤ 4000) (hi : i < cs.length) (hj : j = Int32.ofNat i) (hfr : 4 ≤ R.frames) (hlo : W + 53 ≤ R.locals) :
    Back l R p e below s args (⟨"java/lang/String", "charAt", "(I)C"⟩ : MethodName) len W (fun P a => a = #[.ref x, .int j] ∧ P.U.heap = h ∧ P.cells + 0 ≤ R.cells ∧ P.slots + 0 ≤ R.slots)
      (fun P _ v B => ∃ L, (v = some (.int (cs.getD i 0)) ∧ L = [] ∧ B.U.heap = h) ∧ B.locs = P.locs ++ L ∧ B.cells = P.cells + 0 ∧ B.slots = P.slots + 0) := by
  subst hj
  intro m meth c P g ig mk a X hg hsize hdg hW hn hp'
  obtain ⟨rfl, rfl, r1, r2⟩ := hp'
  have al : Z.vm.Alike P.U.vm := hZ.alike.trans X.warmed.alike
  obtain ⟨A, hx⟩ := txt_of wi al E V C K hc hb l2
  obtain ⟨v, B, X', ⟨⟨hv, hh⟩, hl, hk, hs⟩, st⟩ := ChN.pays x t A cs.length (fun j => cs.getD j 0) z fm i (tabChN_of (movedChN hZ hw)) hfr hlo m meth c P g ig mk _ X hg hsize hdg hW hn ⟨r1, r2, rfl, hx, hi, sta_is al S, hz, sta_is al F, rf⟩
  exact ⟨v, B, X', ⟨[], ⟨hv, rfl, hh⟩, hl, hk, hs⟩, st⟩
/-- what backV says of its String, as the contracts of this text ask it: cs's low bytes, coder 0 -/
theorem codOf {cs : List Int32} {n : Nat} (hn : cs.length = n) (hb : ∀ c ∈ cs, ¬ 255 < c) : CodA cs 0 (Int32.ofNat n) ((cs.map lo8).map Value.int) := Or.inl ⟨rfl, by rw [hn], by simp [List.map_map, Function.comp_def], hb⟩
end StrChars.Road
end Jvm.Pilot.@@N@@
namespace Jvm.Pilot.@@N@@
open Jvm Jvm.ClassFile Sem Op Lib Jvm.Free Jvm.Stand Jvm.LawKit Jvm.RoadKit Bundle Jvm.Pilot.@@N@@.Jvm.D
theorem Wd0 {Z : State} {a0 : Array Value} (hw : ∀ d ∈ tables_1, d.before a0 Z = true) : (Jvm.Cond.methodLink "com/example/boring_outbox/boringoutbox/EventTypeOfPinLaw" (14 : Nat) ({ cls := "com/example/boring_outbox/boringoutbox/EventTypeOfPinLaw", name := "draw", desc := "(I)C" } : Jvm.MethodName)).before a0 Z = true := hw _ (List.mem_of_getElem? (i := 0) rfl)
theorem Wd1 {Z : State} {a0 : Array Value} (hw : ∀ d ∈ tables_1, d.before a0 Z = true) : (Jvm.Cond.static ({ cls := "com/example/boring_outbox/boringoutbox/EventTypeOfPinLaw", name := "draw", desc := "(I)C" } : Jvm.MethodName)).before a0 Z = true := hw _ (List.mem_of_getElem? (i := 1) rfl)
theorem Wd2 {Z : State} {a0 : Array Value} (hw : ∀ d ∈ tables_1, d.before a0 Z = true) : (Jvm.Cond.initialized "com/example/boring_outbox/boringoutbox/EventTypeOfPinLaw").before a0 Z = true := hw _ (List.mem_of_getElem? (i := 2) rfl)
theorem Wd3 {Z : State} {a0 : Array Value} (hw : ∀ d ∈ tables_1, d.before a0 Z = true) : (Jvm.Cond.code ({ cls := "com/example/boring_outbox/boringoutbox/EventTypeOfPinLaw", name := "draw", desc := "(I)C" } : Jvm.MethodName) method_3_code (1 : Nat) (Option.some Jvm.ClassFile.FieldType.char)).before a0 Z = true := hw _ (List.mem_of_getElem? (i := 3) rfl)
theorem Wd4 {Z : State} {a0 : Array Value} (hw : ∀ d ∈ tables_1, d.before a0 Z = true) : (Jvm.Cond.constant "com/example/boring_outbox/boringoutbox/EventTypeOfPinLaw" (7 : Nat) (2147483647 : Int32)).before a0 Z = true := hw _ (List.mem_of_getElem? (i := 4) rfl)
theorem Wd5 {Z : State} {a0 : Array Value} (hw : ∀ d ∈ tables_1, d.before a0 Z = true) : (Jvm.Cond.methodLink "com/example/boring_outbox/boringoutbox/EventTypeOfPinLaw" (8 : Nat) ({ cls := "com/example/boring_outbox/boringoutbox/EventTypeOfPinLaw", name := "idChar", desc := "(I)C" } : Jvm.MethodName)).before a0 Z = true := hw _ (List.mem_of_getElem? (i := 5) rfl)
theorem Wd6 {Z : State} {a0 : Array Value} (hw : ∀ d ∈ tables_1, d.before a0 Z = true) : (Jvm.Cond.static ({ cls := "com/example/boring_outbox/boringoutbox/EventTypeOfPinLaw", name := "idChar", desc := "(I)C" } : Jvm.MethodName)).before a0 Z = true := hw _ (List.mem_of_getElem? (i := 6) rfl)
theorem Wd7 {Z : State} {a0 : Array Value} (hw : ∀ d ∈ tables_1, d.before a0 Z = true) : (Jvm.Cond.code ({ cls := "com/example/boring_outbox/boringoutbox/EventTypeOfPinLaw", name := "idChar", desc := "(I)C" } : Jvm.MethodName) method_2_code (1 : Nat) (Option.some Jvm.ClassFile.FieldType.char)).before a0 Z = true := hw _ (List.mem_of_getElem? (i := 7) rfl)
theorem Wd8 {Z : State} {a0 : Array Value} (hw : ∀ d ∈ tables_1, d.before a0 Z = true) : (Jvm.Cond.classLink "com/example/boring_outbox/boringoutbox/EventTypeOfPinLaw" (17 : Nat) "java/lang/String").before a0 Z = true := hw _ (List.mem_of_getElem? (i := 8) rfl)
theorem Wd9 {Z : State} {a0 : Array Value} (hw : ∀ d ∈ tables_1, d.before a0 Z = true) : (Jvm.Cond.instantiable "java/lang/String" (4 : Nat)).before a0 Z = true := hw _ (List.mem_of_getElem? (i := 9) rfl)
theorem Wd10 {Z : State} {a0 : Array Value} (hw : ∀ d ∈ tables_1, d.before a0 Z = true) : (Jvm.Cond.initialized "java/lang/String").before a0 Z = true := hw _ (List.mem_of_getElem? (i := 10) rfl)
theorem Wd11 {Z : State} {a0 : Array Value} (hw : ∀ d ∈ tables_1, d.before a0 Z = true) : (Jvm.Cond.arrayClass Jvm.ClassFile.FieldType.char).before a0 Z = true := hw _ (List.mem_of_getElem? (i := 11) rfl)
theorem Wd12 {Z : State} {a0 : Array Value} (hw : ∀ d ∈ tables_1, d.before a0 Z = true) : (Jvm.Cond.methodLink "com/example/boring_outbox/boringoutbox/EventTypeOfPinLaw" (19 : Nat) ({ cls := "java/lang/String", name := "<init>", desc := "([C)V" } : Jvm.MethodName)).before a0 Z = true := hw _ (List.mem_of_getElem? (i := 12) rfl)
theorem Wd13 {Z : State} {a0 : Array Value} (hw : ∀ d ∈ tables_1, d.before a0 Z = true) : (Jvm.Cond.instanceMethod ({ cls := "java/lang/String", name := "<init>", desc := "([C)V" } : Jvm.MethodName)).before a0 Z = true := hw _ (List.mem_of_getElem? (i := 13) rfl)
theorem Wd14 {Z : State} {a0 : Array Value} (hw : ∀ d ∈ tables_1, d.before a0 Z = true) : (Jvm.Cond.code ({ cls := "java/lang/String", name := "<init>", desc := "([C)V" } : Jvm.MethodName) jdk_42_method_3_code (2 : Nat) (Option.none : Option Jvm.ClassFile.FieldType)).before a0 Z = true := hw _ (List.mem_of_getElem? (i := 14) rfl)
theorem Wd20 {Z : State} {a0 : Array Value} (hw : ∀ d ∈ tables_1, d.before a0 Z = true) : (Jvm.Cond.instanceMethod ({ cls := "java/lang/Object", name := "<init>", desc := "()V" } : Jvm.MethodName)).before a0 Z = true := hw _ (List.mem_of_getElem? (i := 20) rfl)
theorem Wd21 {Z : State} {a0 : Array Value} (hw : ∀ d ∈ tables_1, d.before a0 Z = true) : (Jvm.Cond.code ({ cls := "java/lang/Object", name := "<init>", desc := "()V" } : Jvm.MethodName) object_method_1_code (1 : Nat) (Option.none : Option Jvm.ClassFile.FieldType)).before a0 Z = true := hw _ (List.mem_of_getElem? (i := 21) rfl)
theorem Wd35 {Z : State} {a0 : Array Value} (hw : ∀ d ∈ tables_1, d.before a0 Z = true) : (Jvm.Cond.laysFinal "java/lang/String" "java/lang/String" "coder" "B").before a0 Z = true := hw _ (List.mem_of_getElem? (i := 35) rfl)
theorem Wd37 {Z : State} {a0 : Array Value} (hw : ∀ d ∈ tables_1, d.before a0 Z = true) : (Jvm.Cond.laysFinal "java/lang/String" "java/lang/String" "value" "[B").before a0 Z = true := hw _ (List.mem_of_getElem? (i := 37) rfl)
theorem Wd38 {Z : State} {a0 : Array Value} (hw : ∀ d ∈ tables_1, d.before a0 Z = true) : (Jvm.Cond.methodLink "com/example/boring_outbox/boringoutbox/EventTypeOfPinLaw" (22 : Nat) ({ cls := "com/example/boring_outbox/boringoutbox/EventType", name := "of", desc := "(Ljava/lang/String;)Lcom/example/boring_outbox/boringoutbox/EventType;" } : Jvm.MethodName)).before a0 Z = true := hw _ (List.mem_of_getElem? (i := 38) rfl)
theorem Wd39 {Z : State} {a0 : Array Value} (hw : ∀ d ∈ tables_1, d.before a0 Z = true) : (Jvm.Cond.static ({ cls := "com/example/boring_outbox/boringoutbox/EventType", name := "of", desc := "(Ljava/lang/String;)Lcom/example/boring_outbox/boringoutbox/EventType;" } : Jvm.MethodName)).before a0 Z = true := hw _ (List.mem_of_getElem? (i := 39) rfl)
theorem Wd40 {Z : State} {a0 : Array Value} (hw : ∀ d ∈ tables_1, d.before a0 Z = true) : (Jvm.Cond.initialized "com/example/boring_outbox/boringoutbox/EventType").before a0 Z = true := hw _ (List.mem_of_getElem? (i := 40) rfl)
theorem Wd41 {Z : State} {a0 : Array Value} (hw : ∀ d ∈ tables_1, d.before a0 Z = true) : (Jvm.Cond.code ({ cls := "com/example/boring_outbox/boringoutbox/EventType", name := "of", desc := "(Ljava/lang/String;)Lcom/example/boring_outbox/boringoutbox/EventType;" } : Jvm.MethodName) prog_15_method_2_code (3 : Nat) (Option.some (Jvm.ClassFile.FieldType.object "com/example/boring_outbox/boringoutbox/EventType"))).before a0 Z = true := hw _ (List.mem_of_getElem? (i := 41) rfl)
theorem Wd42 {Z : State} {a0 : Array Value} (hw : ∀ d ∈ tables_1, d.before a0 Z = true) : (Jvm.Cond.stringLink "com/example/boring_outbox/boringoutbox/EventType" (13 : Nat) "event type is null").before a0 Z = true := hw _ (List.mem_of_getElem? (i := 42) rfl)
theorem Wd45 {Z : State} {a0 : Array Value} (hw : ∀ d ∈ tables_1, d.before a0 Z = true) : (Jvm.Cond.methodLink "com/example/boring_outbox/boringoutbox/EventType" (15 : Nat) ({ cls := "java/util/Objects", name := "requireNonNull", desc := "(Ljava/lang/Object;Ljava/lang/String;)Ljava/lang/Object;" } : Jvm.MethodName)).before a0 Z = true := hw _ (List.mem_of_getElem? (i := 45) rfl)
theorem Wd46 {Z : State} {a0 : Array Value} (hw : ∀ d ∈ tables_1, d.before a0 Z = true) : (Jvm.Cond.static ({ cls := "java/util/Objects", name := "requireNonNull", desc := "(Ljava/lang/Object;Ljava/lang/String;)Ljava/lang/Object;" } : Jvm.MethodName)).before a0 Z = true := hw _ (List.mem_of_getElem? (i := 46) rfl)
theorem Wd47 {Z : State} {a0 : Array Value} (hw : ∀ d ∈ tables_1, d.before a0 Z = true) : (Jvm.Cond.initialized "java/util/Objects").before a0 Z = true := hw _ (List.mem_of_getElem? (i := 47) rfl)
theorem Wd48 {Z : State} {a0 : Array Value} (hw : ∀ d ∈ tables_1, d.before a0 Z = true) : (Jvm.Cond.code ({ cls := "java/util/Objects", name := "requireNonNull", desc := "(Ljava/lang/Object;Ljava/lang/String;)Ljava/lang/Object;" } : Jvm.MethodName) jdk_31_method_11_code (2 : Nat) (Option.some (Jvm.ClassFile.FieldType.object "java/lang/Object"))).before a0 Z = true := hw _ (List.mem_of_getElem? (i := 48) rfl)
theorem Wd49 {Z : State} {a0 : Array Value} (hw : ∀ d ∈ tables_1, d.before a0 Z = true) : (Jvm.Cond.methodLink "com/example/boring_outbox/boringoutbox/EventType" (21 : Nat) ({ cls := "java/lang/String", name := "isEmpty", desc := "()Z" } : Jvm.MethodName)).before a0 Z = true := hw _ (List.mem_of_getElem? (i := 49) rfl)
theorem Wd50 {Z : State} {a0 : Array Value} (hw : ∀ d ∈ tables_1, d.before a0 Z = true) : (Jvm.Cond.declares ({ cls := "java/lang/String", name := "isEmpty", desc := "()Z" } : Jvm.MethodName)).before a0 Z = true := hw _ (List.mem_of_getElem? (i := 50) rfl)
theorem Wd51 {Z : State} {a0 : Array Value} (hw : ∀ d ∈ tables_1, d.before a0 Z = true) : (Jvm.Cond.instanceMethod ({ cls := "java/lang/String", name := "isEmpty", desc := "()Z" } : Jvm.MethodName)).before a0 Z = true := hw _ (List.mem_of_getElem? (i := 51) rfl)
theorem Wd52 {Z : State} {a0 : Array Value} (hw : ∀ d ∈ tables_1, d.before a0 Z = true) : (Jvm.Cond.selects "java/lang/String" ({ cls := "java/lang/String", name := "isEmpty", desc := "()Z" } : Jvm.MethodName) ({ cls := "java/lang/String", name := "isEmpty", desc := "()Z" } : Jvm.MethodName)).before a0 Z = true := hw _ (List.mem_of_getElem? (i := 52) rfl)
theorem Wd54 {Z : State} {a0 : Array Value} (hw : ∀ d ∈ tables_1, d.before a0 Z = true) : (Jvm.Cond.methodLink "com/example/boring_outbox/boringoutbox/EventType" (34 : Nat) ({ cls := "java/lang/String", name := "length", desc := "()I" } : Jvm.MethodName)).before a0 Z = true := hw _ (List.mem_of_getElem? (i := 54) rfl)
theorem Wd55 {Z : State} {a0 : Array Value} (hw : ∀ d ∈ tables_1, d.before a0 Z = true) : (Jvm.Cond.declares ({ cls := "java/lang/String", name := "length", desc := "()I" } : Jvm.MethodName)).before a0 Z = true := hw _ (List.mem_of_getElem? (i := 55) rfl)
theorem Wd56 {Z : State} {a0 : Array Value} (hw : ∀ d ∈ tables_1, d.before a0 Z = true) : (Jvm.Cond.instanceMethod ({ cls := "java/lang/String", name := "length", desc := "()I" } : Jvm.MethodName)).before a0 Z = true := hw _ (List.mem_of_getElem? (i := 56) rfl)
theorem Wd57 {Z : State} {a0 : Array Value} (hw : ∀ d ∈ tables_1, d.before a0 Z = true) : (Jvm.Cond.selects "java/lang/String" ({ cls := "java/lang/String", name := "length", desc := "()I" } : Jvm.MethodName) ({ cls := "java/lang/String", name := "length", desc := "()I" } : Jvm.MethodName)).before a0 Z = true := hw _ (List.mem_of_getElem? (i := 57) rfl)
theorem Wd64 {Z : State} {a0 : Array Value} (hw : ∀ d ∈ tables_1, d.before a0 Z = true) : (Jvm.Cond.methodLink "com/example/boring_outbox/boringoutbox/EventType" (42 : Nat) ({ cls := "java/lang/String", name := "charAt", desc := "(I)C" } : Jvm.MethodName)).before a0 Z = true := hw _ (List.mem_of_getElem? (i := 64) rfl)
theorem Wd65 {Z : State} {a0 : Array Value} (hw : ∀ d ∈ tables_1, d.before a0 Z = true) : (Jvm.Cond.declares ({ cls := "java/lang/String", name := "charAt", desc := "(I)C" } : Jvm.MethodName)).before a0 Z = true := hw _ (List.mem_of_getElem? (i := 65) rfl)
theorem Wd66 {Z : State} {a0 : Array Value} (hw : ∀ d ∈ tables_1, d.before a0 Z = true) : (Jvm.Cond.instanceMethod ({ cls := "java/lang/String", name := "charAt", desc := "(I)C" } : Jvm.MethodName)).before a0 Z = true := hw _ (List.mem_of_getElem? (i := 66) rfl)
theorem Wd67 {Z : State} {a0 : Array Value} (hw : ∀ d ∈ tables_1, d.before a0 Z = true) : (Jvm.Cond.selects "java/lang/String" ({ cls := "java/lang/String", name := "charAt", desc := "(I)C" } : Jvm.MethodName) ({ cls := "java/lang/String", name := "charAt", desc := "(I)C" } : Jvm.MethodName)).before a0 Z = true := hw _ (List.mem_of_getElem? (i := 67) rfl)
theorem Wd86 {Z : State} {a0 : Array Value} (hw : ∀ d ∈ tables_1, d.before a0 Z = true) : (Jvm.Cond.methodLink "com/example/boring_outbox/boringoutbox/EventType" (51 : Nat) ({ cls := "com/example/boring_outbox/boringoutbox/EventType", name := "isIdentifierCharacter", desc := "(C)Z" } : Jvm.MethodName)).before a0 Z = true := hw _ (List.mem_of_getElem? (i := 86) rfl)
theorem Wd87 {Z : State} {a0 : Array Value} (hw : ∀ d ∈ tables_1, d.before a0 Z = true) : (Jvm.Cond.static ({ cls := "com/example/boring_outbox/boringoutbox/EventType", name := "isIdentifierCharacter", desc := "(C)Z" } : Jvm.MethodName)).before a0 Z = true := hw _ (List.mem_of_getElem? (i := 87) rfl)
theorem Wd88 {Z : State} {a0 : Array Value} (hw : ∀ d ∈ tables_1, d.before a0 Z = true) : (Jvm.Cond.code ({ cls := "com/example/boring_outbox/boringoutbox/EventType", name := "isIdentifierCharacter", desc := "(C)Z" } : Jvm.MethodName) prog_15_method_7_code (1 : Nat) (Option.some Jvm.ClassFile.FieldType.boolean)).before a0 Z = true := hw _ (List.mem_of_getElem? (i := 88) rfl)
theorem Wd89 {Z : State} {a0 : Array Value} (hw : ∀ d ∈ tables_1, d.before a0 Z = true) : (Jvm.Cond.classLink "com/example/boring_outbox/boringoutbox/EventType" (8 : Nat) "com/example/boring_outbox/boringoutbox/EventType").before a0 Z = true := hw _ (List.mem_of_getElem? (i := 89) rfl)
theorem Wd90 {Z : State} {a0 : Array Value} (hw : ∀ d ∈ tables_1, d.before a0 Z = true) : (Jvm.Cond.instantiable "com/example/boring_outbox/boringoutbox/EventType" (1 : Nat)).before a0 Z = true := hw _ (List.mem_of_getElem? (i := 90) rfl)
theorem Wd91 {Z : State} {a0 : Array Value} (hw : ∀ d ∈ tables_1, d.before a0 Z = true) : (Jvm.Cond.methodLink "com/example/boring_outbox/boringoutbox/EventType" (71 : Nat) ({ cls := "com/example/boring_outbox/boringoutbox/EventType", name := "<init>", desc := "(Ljava/lang/String;)V" } : Jvm.MethodName)).before a0 Z = true := hw _ (List.mem_of_getElem? (i := 91) rfl)
theorem Wd92 {Z : State} {a0 : Array Value} (hw : ∀ d ∈ tables_1, d.before a0 Z = true) : (Jvm.Cond.instanceMethod ({ cls := "com/example/boring_outbox/boringoutbox/EventType", name := "<init>", desc := "(Ljava/lang/String;)V" } : Jvm.MethodName)).before a0 Z = true := hw _ (List.mem_of_getElem? (i := 92) rfl)
theorem Wd93 {Z : State} {a0 : Array Value} (hw : ∀ d ∈ tables_1, d.before a0 Z = true) : (Jvm.Cond.code ({ cls := "com/example/boring_outbox/boringoutbox/EventType", name := "<init>", desc := "(Ljava/lang/String;)V" } : Jvm.MethodName) prog_15_method_1_code (2 : Nat) (Option.none : Option Jvm.ClassFile.FieldType)).before a0 Z = true := hw _ (List.mem_of_getElem? (i := 93) rfl)
theorem Wd94 {Z : State} {a0 : Array Value} (hw : ∀ d ∈ tables_1, d.before a0 Z = true) : (Jvm.Cond.methodLink "com/example/boring_outbox/boringoutbox/EventType" (1 : Nat) ({ cls := "java/lang/Object", name := "<init>", desc := "()V" } : Jvm.MethodName)).before a0 Z = true := hw _ (List.mem_of_getElem? (i := 94) rfl)
theorem Wd95 {Z : State} {a0 : Array Value} (hw : ∀ d ∈ tables_1, d.before a0 Z = true) : (Jvm.Cond.fieldLink "com/example/boring_outbox/boringoutbox/EventType" (7 : Nat) "com/example/boring_outbox/boringoutbox/EventType" "name" "Ljava/lang/String;").before a0 Z = true := hw _ (List.mem_of_getElem? (i := 95) rfl)
theorem Wd96 {Z : State} {a0 : Array Value} (hw : ∀ d ∈ tables_1, d.before a0 Z = true) : (Jvm.Cond.laysFinal "com/example/boring_outbox/boringoutbox/EventType" "com/example/boring_outbox/boringoutbox/EventType" "name" "Ljava/lang/String;").before a0 Z = true := hw _ (List.mem_of_getElem? (i := 96) rfl)
theorem Wd97 {Z : State} {a0 : Array Value} (hw : ∀ d ∈ tables_1, d.before a0 Z = true) : (Jvm.Cond.methodLink "com/example/boring_outbox/boringoutbox/EventTypeOfPinLaw" (28 : Nat) ({ cls := "com/example/boring_outbox/boringoutbox/EventType", name := "name", desc := "()Ljava/lang/String;" } : Jvm.MethodName)).before a0 Z = true := hw _ (List.mem_of_getElem? (i := 97) rfl)
theorem Wd98 {Z : State} {a0 : Array Value} (hw : ∀ d ∈ tables_1, d.before a0 Z = true) : (Jvm.Cond.declares ({ cls := "com/example/boring_outbox/boringoutbox/EventType", name := "name", desc := "()Ljava/lang/String;" } : Jvm.MethodName)).before a0 Z = true := hw _ (List.mem_of_getElem? (i := 98) rfl)
theorem Wd99 {Z : State} {a0 : Array Value} (hw : ∀ d ∈ tables_1, d.before a0 Z = true) : (Jvm.Cond.instanceMethod ({ cls := "com/example/boring_outbox/boringoutbox/EventType", name := "name", desc := "()Ljava/lang/String;" } : Jvm.MethodName)).before a0 Z = true := hw _ (List.mem_of_getElem? (i := 99) rfl)
theorem Wd100 {Z : State} {a0 : Array Value} (hw : ∀ d ∈ tables_1, d.before a0 Z = true) : (Jvm.Cond.selects "com/example/boring_outbox/boringoutbox/EventType" ({ cls := "com/example/boring_outbox/boringoutbox/EventType", name := "name", desc := "()Ljava/lang/String;" } : Jvm.MethodName) ({ cls := "com/example/boring_outbox/boringoutbox/EventType", name := "name", desc := "()Ljava/lang/String;" } : Jvm.MethodName)).before a0 Z = true := hw _ (List.mem_of_getElem? (i := 100) rfl)
theorem Wd101 {Z : State} {a0 : Array Value} (hw : ∀ d ∈ tables_1, d.before a0 Z = true) : (Jvm.Cond.code ({ cls := "com/example/boring_outbox/boringoutbox/EventType", name := "name", desc := "()Ljava/lang/String;" } : Jvm.MethodName) prog_15_method_3_code (1 : Nat) (Option.some (Jvm.ClassFile.FieldType.object "java/lang/String"))).before a0 Z = true := hw _ (List.mem_of_getElem? (i := 101) rfl)
theorem Wd102 {Z : State} {a0 : Array Value} (hw : ∀ d ∈ tables_1, d.before a0 Z = true) : (Jvm.Cond.methodLink "com/example/boring_outbox/boringoutbox/EventTypeOfPinLaw" (32 : Nat) ({ cls := "java/lang/String", name := "equals", desc := "(Ljava/lang/Object;)Z" } : Jvm.MethodName)).before a0 Z = true := hw _ (List.mem_of_getElem? (i := 102) rfl)
theorem Wd103 {Z : State} {a0 : Array Value} (hw : ∀ d ∈ tables_1, d.before a0 Z = true) : (Jvm.Cond.declares ({ cls := "java/lang/String", name := "equals", desc := "(Ljava/lang/Object;)Z" } : Jvm.MethodName)).before a0 Z = true := hw _ (List.mem_of_getElem? (i := 103) rfl)
theorem Wd104 {Z : State} {a0 : Array Value} (hw : ∀ d ∈ tables_1, d.before a0 Z = true) : (Jvm.Cond.instanceMethod ({ cls := "java/lang/String", name := "equals", desc := "(Ljava/lang/Object;)Z" } : Jvm.MethodName)).before a0 Z = true := hw _ (List.mem_of_getElem? (i := 104) rfl)
theorem Wd105 {Z : State} {a0 : Array Value} (hw : ∀ d ∈ tables_1, d.before a0 Z = true) : (Jvm.Cond.selects "java/lang/String" ({ cls := "java/lang/String", name := "equals", desc := "(Ljava/lang/Object;)Z" } : Jvm.MethodName) ({ cls := "java/lang/String", name := "equals", desc := "(Ljava/lang/Object;)Z" } : Jvm.MethodName)).before a0 Z = true := hw _ (List.mem_of_getElem? (i := 105) rfl)
theorem Wd106 {Z : State} {a0 : Array Value} (hw : ∀ d ∈ tables_1, d.before a0 Z = true) : (Jvm.Cond.code ({ cls := "java/lang/String", name := "equals", desc := "(Ljava/lang/Object;)Z" } : Jvm.MethodName) jdk_42_method_66_code (3 : Nat) (Option.some Jvm.ClassFile.FieldType.boolean)).before a0 Z = true := hw _ (List.mem_of_getElem? (i := 106) rfl)
/-- the run comes from A to a state with P -/
def ownG (tb : Tables) (e : Env) (below : List Frame) (P : State → Prop) (A : State) : Prop := ∃ t, Steps tb e below A t ∧ P t
theorem ownBy {tb : Tables} {e : Env} {below : List Frame} {P : State → Prop} {A B : State} (st : ∀ t, Steps tb e below A t → Steps tb e below B t) (k : ownG tb e below P A) : ownG tb e below P B := by
  obtain ⟨t, h, q⟩ := k
  exact ⟨t, st t h, q⟩
theorem ownSt {tb : Tables} {e : Env} {below : List Frame} {P : State → Prop} {A B : State} (st : Steps tb e below B A) (k : ownG tb e below P A) : ownG tb e below P B := by
  obtain ⟨t, h, q⟩ := k
  exact ⟨t, st.trans h, q⟩
def ownE (s : State) (below : List Frame) (Q : Option Value → Heap → List Loc → Prop) (k n : Nat) (t : State) : Prop := t.status = .running ∧ ∃ v L, Ended t below (.returned v) ∧ Q v t.heap L ∧ FrameEnd s (.returned v) t L k n
def ownEH (s : State) (below : List Frame) (Q : Option Value → Heap → List Loc → Prop) (Z : State) (EL : List (String × Nat)) (h0 : Heap) (k n : Nat) (t : State) : Prop := t.status = .running ∧ ∃ v L, Ended t below (.returned v) ∧ Q v t.heap L ∧ CHr Z EL s.vm h0 t.vm t.heap ∧ ReturnedEndW s (.returned v) t L k n
theorem ownOut {tb : Tables} {e : Env} {below : List Frame} {P : Option Value → Heap → List Loc → Prop} {s A : State} {k n : Nat} (g : ownG tb e below (ownE s below P k n) A) :
    ∃ s₂ o, Steps tb e below A s₂ ∧ s₂.status = .running ∧ Ended s₂ below o ∧ ∃ v L, o = .returned v ∧ P v s₂.heap L ∧ FrameEnd s o s₂ L k n := by
  obtain ⟨t, h, r, v, L, e1, q, f⟩ := g
  exact ⟨t, _, h, r, e1, v, L, rfl, q, f⟩
theorem ownOutH {tb : Tables} {e : Env} {below : List Frame} {P : Option Value → Heap → List Loc → Prop} {s A Z : State} {EL : List (String × Nat)} {h0 : Heap} {k n : Nat} (hh : s.heap = h0) (g : ownG tb e below (ownEH s below P Z EL h0 k n) A) :
    ∃ s₂ o, Steps tb e below A s₂ ∧ s₂.status = .running ∧ Ended s₂ below o ∧ ∃ v L, o = .returned v ∧ P v s₂.heap L ∧ CHr Z EL s.vm s.heap s₂.vm s₂.heap ∧ ReturnedEndW s o s₂ L k n := by
  subst hh
  obtain ⟨t, h, r, v, L, e1, q, c, f⟩ := g
  exact ⟨t, _, h, r, e1, v, L, rfl, q, c, f⟩
theorem ownRet {p : Program} {l : Launch} {e : Env} {R : Room} {s : State} {m : MethodId} {args : Array Value} {below : List Frame} {meth : Method} {c : Code} {T A : State} {locs : List Loc} {cells slots k n : Nat} {P : Option Value → Heap → List Loc → Prop}
    (X : Stand p l e R s m args below meth c T locs cells slots) (hlk : meth.locks = false) {v : Option Value} (hv : meth.sig.returnType = none → v = none) (hQ : P v T.heap locs) (hk : cells ≤ k) (hn : slots ≤ n)
    (st : ∀ fs, (∀ (f : JFrame) (acts : List Action), f.method = m → f.locked = none → f.entered = [] → (doReturn e (T.setTop f) acts v).1 = T.setFrames fs) → Steps p.tables e below A (T.setFrames fs)) :
    ownG p.tables e below (ownE s below P k n) A := by
  obtain ⟨fs, hr, hrun, hended, hW, hsame⟩ := X.leave hv hlk
  exact ⟨_, st fs hr, hrun, v, locs, hended, hQ, ⟨_, rfl⟩, hW, hsame.mono hk hn⟩
theorem ownRetH {p : Program} {l : Launch} {e : Env} {R : Room} {s : State} {m : MethodId} {args : Array Value} {below : List Frame} {meth : Method} {c : Code} {T A Z : State} {EL : List (String × Nat)} {h0 : Heap} {locs : List Loc} {cells slots k n k1 : Nat} {vm1 : Vm} {P : Option Value → Heap → List Loc → Prop}
    (X : Stand p l e R (s.setVm vm1) m args below meth c T locs cells slots) (hS : s.Since vm1 k1) (hk1 : k1 ≤ T.heap.size) (hlk : meth.locks = false) {v : Option Value} (hv : meth.sig.returnType = none → v = none) (hQ : P v T.heap locs) (hC : CHr Z EL s.vm h0 T.vm T.heap) (hk : cells ≤ k) (hn : slots ≤ n)
    (st : ∀ fs, (∀ (f : JFrame) (acts : List Action), f.method = m → f.locked = none → f.entered = [] → (doReturn e (T.setTop f) acts v).1 = T.setFrames fs) → Steps p.tables e below A (T.setFrames fs)) :
    ownG p.tables e below (ownEH s below P Z EL h0 k n) A := by
  obtain ⟨fs, hr, hrun, hended, hR⟩ := X.leaveW hS hk1 hv hlk
  exact ⟨_, st fs hr, hrun, v, locs, hended, hQ, hC, hR.1, hR.2.1, hR.2.2.1, hR.2.2.2.mono hk hn⟩
theorem own_since {s : State} {n : Nat} : s.Since s.vm n := (State.WarmedH.refl s).since n
theorem own_cat {v : Value} (h : v.isRef = true) : v.category = 1 := by cases v <;> simp_all [Value.isRef, Value.category]
theorem own_narrow {t : FieldType} {v : Value} (ht : t.isReference = true) (h : v.isRef = true) : narrow t v = v := by
  rcases ref_cases h with rfl | ⟨a, rfl⟩ <;> cases t <;> simp_all [narrow, FieldType.isReference]
theorem own_fits {t : FieldType} {v : Value} (ht : t.isReference = true) (h : v.isRef = true) : fits t v = true := by
  rcases ref_cases h with rfl | ⟨a, rfl⟩ <;> cases t <;> simp_all [fits, FieldType.isReference]
theorem own_and255 (x : Int32) : ¬ nar .char ((x &&& (255 : Int32)).toUInt32.toUInt16.toUInt32.toInt32) < 0 ∧ ¬ (255 : Int32) < nar .char ((x &&& (255 : Int32)).toUInt32.toUInt16.toUInt32.toInt32) := by
  have t : ∀ k : Fin 256, ¬ nar .char ((Int32.ofNat k.val).toUInt32.toUInt16.toUInt32.toInt32) < 0 ∧ ¬ (255 : Int32) < nar .char ((Int32.ofNat k.val).toUInt32.toUInt16.toUInt32.toInt32) := by decide +kernel
  have h : (x &&& 255).toBitVec.toNat < 256 := by
    simp only [Int32.toBitVec_and, BitVec.toNat_and]
    exact Nat.lt_succ_of_le Nat.and_le_right
  have e : (x &&& 255) = Int32.ofNat (x &&& 255).toBitVec.toNat := by
    apply Int32.toBitVec_inj.mp
    show _ = BitVec.ofNat 32 _
    rw [BitVec.ofNat_toNat]; simp
  rw [e]
  exact t ⟨_, h⟩
theorem own_up (cs : List Int32) (h : ∀ c ∈ cs, ¬ c < 0 ∧ ¬ (255 : Int32) < c) : ∀ c ∈ cs, ¬ c < 0 ∧ ¬ (65535 : Int32) < c := fun c hc => ⟨(h c hc).1, fun q => (h c hc).2 (by rw [Int32.lt_iff_toInt_lt] at q ⊢; have e1 : (65535 : Int32).toInt = 65535 := rfl; have e2 : (255 : Int32).toInt = 255 := rfl; omega)⟩
theorem own_nz {args : Array Value} {s : State} {t : Jvm.Term} {g : Int32} (e : t.eval args s none [] s = some (.int g)) (h : (Jvm.Cond.not (Jvm.Cond.eq t (Jvm.Term.int (0 : Int32)))).value args s none s [] = some true) : ¬ (g = (0 : Int32)) := by
  intro q
  subst q
  simp [Jvm.Cond.value, Jvm.Term.eval, e] at h
theorem own_lcmp_self (x : Int64) : lcmpW x x = 0 := by rw [lcW]; exact (lc_eq x x).mpr rfl
theorem own_nar_byte (x : Int32) : nar .byte (x.toInt8.toInt32) = x.toInt8.toInt32 := by simp [nar]
theorem own_nar_char (x : Int32) : nar .char (x.toUInt32.toUInt16.toUInt32.toInt32) = x.toUInt32.toUInt16.toUInt32.toInt32 := by
  have q := c_i2c x
  have q2 := c_i2c (x.toUInt32.toUInt16.toUInt32.toInt32)
  exact Int32.toInt_inj.mp (by show ((x.toUInt32.toUInt16.toUInt32.toInt32).toUInt32.toUInt16.toUInt32.toInt32).toInt = _; omega)
theorem own_and255c (x : Int32) : ¬ ((255 : Int32) < (x &&& (255 : Int32)).toUInt32.toUInt16.toUInt32.toInt32) := by
  have h := (own_and255 x).2
  rwa [own_nar_char] at h
def own_b (p : Prop) [Decidable p] : Int32 := if p then 1 else 0
theorem own_bt0 {p : Prop} [Decidable p] (h : p) : ¬ (own_b p = (0 : Int32)) := by simp [own_b, h]
theorem own_bf0 {p : Prop} [Decidable p] (h : ¬ p) : own_b p = (0 : Int32) := by simp [own_b, h]
theorem own_bt1 {p : Prop} [Decidable p] (h : p) : own_b p = (1 : Int32) := by simp [own_b, h]
theorem own_bf1 {p : Prop} [Decidable p] (h : ¬ p) : ¬ (own_b p = (1 : Int32)) := by simp [own_b, h]
theorem own_eqv {s : State} {args : Array Value} {t u : Jvm.Term} {w : Addr} (eu : u.eval args s none [] s = some (.ref w)) (h : (Jvm.Cond.eq t u).value args s none s [] = some true) : t.eval args s none [] s = some (.ref w) := by
  obtain ⟨x, y, ex, ey, kx, -⟩ := cmp_v (Or.inl h)
  cases eu.symm.trans ey
  have hr : x.isRef = true := by cases x <;> simp_all [Kin, Value.isRef]
  have q := gotT (eq_R ex ey hr rfl) h
  rw [ex, q]
theorem own_len {s : State} {args : Array Value} {t : Jvm.Term} {a : Addr} {c : Cell} {ty : FieldType} {n : Int32} (ev : t.eval args s none [] s = some (.ref a)) (A : Arr s s.heap a c ty) (h : (Jvm.Cond.eq (Jvm.Term.length t) (Jvm.Term.int n)).value args s none s [] = some true) : c.slots.size < 2 ^ 31 ∧ c.slots.size.toInt32 = n := by
  have q := eqv_i (y := n) rfl h
  have ha := A.fin (Vm.Alike.refl _)
  simp only [Jvm.Term.eval, ev, ha, Option.bind_eq_bind, Option.bind_some] at q
  split at q
  · rename_i hl
    exact ⟨hl, by simpa using q⟩
  · simp at q
theorem own_elem {s : State} {args : Array Value} {t : Jvm.Term} {a : Addr} {c : Cell} {ty : FieldType} {j : Int32} {v : Value} (ev : t.eval args s none [] s = some (.ref a)) (A : Arr s s.heap a c ty) (h : (Jvm.Term.elem t (Jvm.Term.int j)).eval args s none [] s = some v) : c.slots[j.toNatClampNeg]? = some v :=
  (elem_in h ev rfl A.1).2
theorem own_nar_rng {c : Int32} (h0 : ¬ c < 0) (h1 : ¬ (255 : Int32) < c) : nar .char c = c := by
  have e0 : (0 : Int32).toInt = 0 := rfl
  have e1 : (255 : Int32).toInt = 255 := rfl
  simp only [Int32.lt_iff_toInt_lt] at h0 h1
  have q := c_i2c c
  exact Int32.toInt_inj.mp (by show (c.toUInt32.toUInt16.toUInt32.toInt32).toInt = _; omega)
theorem own_idx {p : Int32} {n : Nat} (h0 : ¬ p < 0) (h : p < Int32.ofNat n) (hn : n ≤ 4000) : p.toNatClampNeg < n := by
  have e0 : (0 : Int32).toInt = 0 := rfl
  simp only [Int32.lt_iff_toInt_lt] at h0 h
  rw [Int32.toInt_ofNat_of_lt (by omega)] at h
  show p.toInt.toNat < n
  omega
theorem own_set_rng {cs : List Int32} {i : Nat} {x : Int32} (h : ∀ c ∈ cs, ¬ c < 0 ∧ ¬ (255 : Int32) < c) (hx : ¬ x < 0 ∧ ¬ (255 : Int32) < x) : ∀ c ∈ cs.set i x, ¬ c < 0 ∧ ¬ (255 : Int32) < c := fun c hc =>
  (List.mem_or_eq_of_mem_set hc).elim (h c) (fun e => e ▸ hx)
theorem own_rem_nn (x y : Int32) (hy : 0 < y.toInt) : ¬ ((x &&& (2147483647 : Int32)) % y < 0) := by
  have h0 : 0 ≤ (x &&& (2147483647 : Int32)).toInt := (c_and x 2147483647 (by decide)).1
  have q := (c_iremV (x &&& 2147483647) y).1 h0 hy
  have e0 : (0 : Int32).toInt = 0 := rfl
  simp only [Int32.lt_iff_toInt_lt]
  omega
theorem own_and255p (x : Int32) : ¬ (x &&& (255 : Int32)).toUInt32.toUInt16.toUInt32.toInt32 < 0 ∧ ¬ ((255 : Int32) < (x &&& (255 : Int32)).toUInt32.toUInt16.toUInt32.toInt32) := by
  have h := own_and255 x
  rwa [own_nar_char] at h
theorem own_ty_ne {Z : State} {h : Heap} {a b : Addr} {k1 k2 : ClassId} {t1 t2 : FieldType} {z1 z2 : Int32} {v1 v2 : List Value} {d1 d2 : Value} (A : Arv Z h a k1 t1 z1 v1 d1) (B : Arv Z h b k2 t2 z2 v2 d2) (q : t1 ≠ t2) : a ≠ b := fun e => by
  subst e
  obtain ⟨c1, A1, -⟩ := A
  obtain ⟨c2, B1, -⟩ := B
  cases A1.1.symm.trans B1.1
  obtain ⟨-, k, hk, comp, hkind⟩ := A1.2.1
  obtain ⟨-, k', hk', comp', hkind'⟩ := B1.2.1
  cases hk.symm.trans hk'
  rw [hkind] at hkind'
  injection hkind' with _ e2
  exact q e2
theorem own_hide {p : Program} {l : Launch} {e : Env} {R : Room} {s : State} {m : MethodId} {args : Array Value} {below : List Frame} {meth : Method} {c : Code} {T : State} {locs : List Loc} {cells slots cells' slots' n0 : Nat} (X : Stand p l e R s m args below meth c T locs cells slots) (N : Fr n0 locs) (hc : cells ≤ cells') (hs : slots ≤ slots') : ∃ L, Stand p l e R s m args below meth c T L cells' slots' ∧ Fr n0 L := ⟨_, X.more hc hs, N⟩
theorem own_getF {p : Program} {l : Launch} {e : Env} {R : Room} {s : State} {m : MethodId} {args : Array Value} {below : List Frame} {meth : Method} {c : Code} {T Z : State} {locs : List Loc} {cells slots : Nat} {a0 : Array Value} {h : Heap} {P : State → Prop} (X : Stand p l e R s m args below meth c T locs cells slots) (hx : p.tables.exec = Jvm.exec) (hZ : Z.Warmed39 s.vm) {own R0 O n d host : String} {index : Nat} (hown : s.vm.findClass own = some m.cls) (w : (Jvm.Cond.fieldLink own index R0 n d).before a0 Z = true ∨ (Jvm.Cond.fieldLinkNest own index R0 n d host).before a0 Z = true) (via : Via Z R0 O n d)
    (eT : T.heap = h) {a : Addr} {v : Value} (F : Fld Z h a O n d v) {pc : Nat} {Ls : Array Slot} {rest : List Value} (hd : decode c.code pc = .ok (.getfield index, 3)) (k : ∀ T', Stand p l e R s m args below meth c T' locs cells slots → T'.heap = h → ownG p.tables e below P (T'.setTop (mkF m (pc + 3) Ls (v :: rest)))) : ownG p.tables e below P (T.setTop (mkF m pc Ls (.ref a :: rest))) := by
  obtain ⟨T', X', e', st⟩ := getF X hx hZ hown w via eT F (g := mkF m pc Ls (.ref a :: rest)) rfl rfl hd
  exact ownBy st (k T' X' e')
theorem own_safe_blank {Z : State} {EL : List (String × Nat)} {vm : Vm} {h : Heap} {x : Addr} (hal : Z.vm.Alike vm) (E : Exa Z h x "java/lang/String") (F : Fld Z h x "java/lang/String" "value" "[B" .null) : Safe Z EL vm h x := fun B => by
  obtain ⟨p, -, u, a, -, q, -, G, rfl | rfl⟩ := B
  · obtain ⟨cS, ⟨⟨s1, s2, s3, ⟨cv, kv, iv, s4, s4'⟩, -, s6, -, s8, -⟩, -⟩, -⟩ := G
    obtain ⟨cell, cf, kk, i, f, h1, h2, h3, -, -, -, h7⟩ := F
    cases (show h[q.sa]? = some q.sC from s1).symm.trans h1
    obtain ⟨kv', z4⟩ := ff_back (U := Wst Z vm h) hal s4
    cases h2.symm.trans z4
    rw [s8] at h7
    cases h7
  · obtain ⟨cell, k, e1, e2, e3, -, -⟩ := E
    cases (show h[q.sd]? = some q.SA from G.hd).symm.trans e1
    obtain ⟨cS, -, -, f, -⟩ := G
    have f' : vm.findClass "[B" = some q.SA.cls := f
    rw [hal.findClass] at f'
    obtain ⟨k1, q1, q2⟩ := Vm.findClass_spec f'
    obtain ⟨k2, q3, q4⟩ := Vm.findClass_spec e2
    cases q1.symm.trans q3
    exact absurd (q2.symm.trans q4) (by decide)
theorem own_wS {Z : State} {a0 : Array Value} (hw : ∀ d ∈ tables_1, d.before a0 Z = true) : ∀ a ∈ Bundle.stringAtoms, a.before a0 Z = true := fun d hd => hw d ((by decide +kernel : ∀ d ∈ Bundle.stringAtoms, d ∈ tables_1) d hd)
def ownEL : List (String × Nat) := []
theorem own_EW {Z : State} {a0 : Array Value} (hw : ∀ d ∈ tables_1, d.before a0 Z = true) : EW Z a0 ownEL := EW.nil
def ownId (c : Int32) : Prop := (¬ c < 97 ∧ ¬ 122 < c) ∨ (¬ c < 65 ∧ ¬ 90 < c) ∨ (¬ c < 48 ∧ ¬ 57 < c) ∨ c = 95
instance (c : Int32) : Decidable (ownId c) := inferInstanceAs (Decidable (_ ∨ _))
def ownIdc (j : Fin 63) : Int32 := if j.val < 26 then Int32.ofNat (97 + j.val) else if j.val < 52 then Int32.ofNat (65 + (j.val - 26)) else if j.val < 62 then Int32.ofNat (48 + (j.val - 52)) else 95
theorem own_idc : ∀ j : Fin 63, ownId (ownIdc j) := by decide +kernel
theorem own_id_rng {c : Int32} (h : c = 46 ∨ ownId c) : ¬ c < 0 ∧ ¬ (255 : Int32) < c := by
  have e0 : (0 : Int32).toInt = 0 := rfl
  have e1 : (255 : Int32).toInt = 255 := rfl
  have e2 : (97 : Int32).toInt = 97 := rfl
  have e3 : (122 : Int32).toInt = 122 := rfl
  have e4 : (65 : Int32).toInt = 65 := rfl
  have e5 : (90 : Int32).toInt = 90 := rfl
  have e6 : (48 : Int32).toInt = 48 := rfl
  have e7 : (57 : Int32).toInt = 57 := rfl
  rcases h with rfl | h | h | h | rfl
  · decide
  · simp only [Int32.lt_iff_toInt_lt] at h ⊢; omega
  · simp only [Int32.lt_iff_toInt_lt] at h ⊢; omega
  · simp only [Int32.lt_iff_toInt_lt] at h ⊢; omega
  · decide
theorem own_nar_id {c : Int32} (h : c = 46 ∨ ownId c) : nar .char c = c := own_nar_rng (own_id_rng h).1 (own_id_rng h).2
theorem own_rem63 (x : Int32) : ∃ j : Fin 63, (x &&& (2147483647 : Int32)) % (63 : Int32) = Int32.ofNat j.val := by
  have h := c_iremV (x &&& 2147483647) 63
  have h0 : 0 ≤ (x &&& (2147483647 : Int32)).toInt := (c_and x 2147483647 (by decide)).1
  have q := h.1 h0 (by decide)
  have e63 : (63 : Int32).toInt = 63 := rfl
  obtain ⟨k, hk⟩ : ∃ k : Nat, ((x &&& (2147483647 : Int32)) % (63 : Int32)).toInt = k := ⟨((x &&& (2147483647 : Int32)) % (63 : Int32)).toInt.toNat, by omega⟩
  refine ⟨⟨k, by omega⟩, ?_⟩
  apply Int32.toInt_inj.mp
  show _ = (Int32.ofNat k).toInt
  rw [Int32.toInt_ofNat_of_lt (by omega)]
  omega
theorem pn_1 : plainName "com/example/boring_outbox/boringoutbox/EventTypeOfPinLaw" = true := by first | (simp [plainName, overriddenIn]; done) | decide +kernel
theorem d2_0 : decode method_2_code 0 = .ok (.iload_n 0, 1) := by decide +kernel
theorem d2_1 : decode method_2_code 1 = .ok (.bipush 26, 2) := by decide +kernel
theorem d2_3 : decode method_2_code 3 = .ok (.if_icmp .ge 9, 3) := by decide +kernel
theorem d2_6 : decode method_2_code 6 = .ok (.bipush 97, 2) := by decide +kernel
theorem d2_8 : decode method_2_code 8 = .ok (.iload_n 0, 1) := by decide +kernel
theorem d2_9 : decode method_2_code 9 = .ok (.iadd, 1) := by decide +kernel
theorem d2_10 : decode method_2_code 10 = .ok (.i2c, 1) := by decide +kernel
theorem d2_11 : decode method_2_code 11 = .ok (.ireturn, 1) := by decide +kernel
theorem d2_12 : decode method_2_code 12 = .ok (.iload_n 0, 1) := by decide +kernel
theorem d2_13 : decode method_2_code 13 = .ok (.bipush 52, 2) := by decide +kernel
theorem d2_15 : decode method_2_code 15 = .ok (.if_icmp .ge 12, 3) := by decide +kernel
theorem d2_18 : decode method_2_code 18 = .ok (.bipush 65, 2) := by decide +kernel
theorem d2_20 : decode method_2_code 20 = .ok (.iload_n 0, 1) := by decide +kernel
theorem d2_21 : decode method_2_code 21 = .ok (.bipush 26, 2) := by decide +kernel
theorem d2_23 : decode method_2_code 23 = .ok (.isub, 1) := by decide +kernel
theorem d2_24 : decode method_2_code 24 = .ok (.iadd, 1) := by decide +kernel
theorem d2_25 : decode method_2_code 25 = .ok (.i2c, 1) := by decide +kernel
theorem d2_26 : decode method_2_code 26 = .ok (.ireturn, 1) := by decide +kernel
theorem d2_27 : decode method_2_code 27 = .ok (.iload_n 0, 1) := by decide +kernel
theorem d2_28 : decode method_2_code 28 = .ok (.bipush 62, 2) := by decide +kernel
theorem d2_30 : decode method_2_code 30 = .ok (.if_icmp .ge 12, 3) := by decide +kernel
theorem d2_33 : decode method_2_code 33 = .ok (.bipush 48, 2) := by decide +kernel
theorem d2_35 : decode method_2_code 35 = .ok (.iload_n 0, 1) := by decide +kernel
theorem d2_36 : decode method_2_code 36 = .ok (.bipush 52, 2) := by decide +kernel
theorem d2_38 : decode method_2_code 38 = .ok (.isub, 1) := by decide +kernel
theorem d2_39 : decode method_2_code 39 = .ok (.iadd, 1) := by decide +kernel
theorem d2_40 : decode method_2_code 40 = .ok (.i2c, 1) := by decide +kernel
theorem d2_41 : decode method_2_code 41 = .ok (.ireturn, 1) := by decide +kernel
theorem d2_42 : decode method_2_code 42 = .ok (.bipush 95, 2) := by decide +kernel
theorem d2_44 : decode method_2_code 44 = .ok (.ireturn, 1) := by decide +kernel
theorem d1_0 : decode method_3_code 0 = .ok (.iload_n 0, 1) := by decide +kernel
theorem d1_1 : decode method_3_code 1 = .ok (.bipush 8, 2) := by decide +kernel
theorem d1_3 : decode method_3_code 3 = .ok (.iushr, 1) := by decide +kernel
theorem d1_4 : decode method_3_code 4 = .ok (.iconst 3, 1) := by decide +kernel
theorem d1_5 : decode method_3_code 5 = .ok (.iand, 1) := by decide +kernel
theorem d1_6 : decode method_3_code 6 = .ok (.iconst 3, 1) := by decide +kernel
theorem d1_7 : decode method_3_code 7 = .ok (.if_icmp .ne 6, 3) := by decide +kernel
theorem d1_10 : decode method_3_code 10 = .ok (.bipush 46, 2) := by decide +kernel
theorem d1_12 : decode method_3_code 12 = .ok (.ireturn, 1) := by decide +kernel
theorem d1_13 : decode method_3_code 13 = .ok (.iload_n 0, 1) := by decide +kernel
theorem d1_14 : decode method_3_code 14 = .ok (.ldc 7, 2) := by decide +kernel
theorem d1_16 : decode method_3_code 16 = .ok (.iand, 1) := by decide +kernel
theorem d1_17 : decode method_3_code 17 = .ok (.bipush 63, 2) := by decide +kernel
theorem d1_19 : decode method_3_code 19 = .ok (.irem, 1) := by decide +kernel
theorem d1_20 : decode method_3_code 20 = .ok (.invokestatic 8, 3) := by decide +kernel
theorem pd_8 : parseMethodDescriptor "(I)C" = some ⟨[.int], some .char⟩ := by decide +kernel
theorem d1_23 : decode method_3_code 23 = .ok (.ireturn, 1) := by decide +kernel
theorem pn_11 : plainName "com/example/boring_outbox/boringoutbox/EventType" = true := by first | (simp [plainName, overriddenIn]; done) | decide +kernel
theorem d19_0 : decode prog_15_method_7_code 0 = .ok (.iload_n 0, 1) := by decide +kernel
theorem d19_1 : decode prog_15_method_7_code 1 = .ok (.bipush 97, 2) := by decide +kernel
theorem d19_3 : decode prog_15_method_7_code 3 = .ok (.if_icmp .lt 9, 3) := by decide +kernel
theorem d19_12 : decode prog_15_method_7_code 12 = .ok (.iload_n 0, 1) := by decide +kernel
theorem d19_13 : decode prog_15_method_7_code 13 = .ok (.bipush 65, 2) := by decide +kernel
theorem d19_15 : decode prog_15_method_7_code 15 = .ok (.if_icmp .lt 9, 3) := by decide +kernel
theorem d19_24 : decode prog_15_method_7_code 24 = .ok (.iload_n 0, 1) := by decide +kernel
theorem d19_25 : decode prog_15_method_7_code 25 = .ok (.bipush 48, 2) := by decide +kernel
theorem d19_27 : decode prog_15_method_7_code 27 = .ok (.if_icmp .lt 9, 3) := by decide +kernel
theorem d19_36 : decode prog_15_method_7_code 36 = .ok (.iload_n 0, 1) := by decide +kernel
theorem d19_37 : decode prog_15_method_7_code 37 = .ok (.bipush 95, 2) := by decide +kernel
theorem d19_39 : decode prog_15_method_7_code 39 = .ok (.if_icmp .ne 7, 3) := by decide +kernel
theorem d19_42 : decode prog_15_method_7_code 42 = .ok (.iconst 1, 1) := by decide +kernel
theorem d19_43 : decode prog_15_method_7_code 43 = .ok (.goto 4, 3) := by decide +kernel
theorem d19_47 : decode prog_15_method_7_code 47 = .ok (.ireturn, 1) := by decide +kernel
theorem d19_46 : decode prog_15_method_7_code 46 = .ok (.iconst 0, 1) := by decide +kernel
theorem d19_30 : decode prog_15_method_7_code 30 = .ok (.iload_n 0, 1) := by decide +kernel
theorem d19_31 : decode prog_15_method_7_code 31 = .ok (.bipush 57, 2) := by decide +kernel
theorem d19_33 : decode prog_15_method_7_code 33 = .ok (.if_icmp .le 9, 3) := by decide +kernel
theorem d19_18 : decode prog_15_method_7_code 18 = .ok (.iload_n 0, 1) := by decide +kernel
theorem d19_19 : decode prog_15_method_7_code 19 = .ok (.bipush 90, 2) := by decide +kernel
theorem d19_21 : decode prog_15_method_7_code 21 = .ok (.if_icmp .le 21, 3) := by decide +kernel
theorem d19_6 : decode prog_15_method_7_code 6 = .ok (.iload_n 0, 1) := by decide +kernel
theorem d19_7 : decode prog_15_method_7_code 7 = .ok (.bipush 122, 2) := by decide +kernel
theorem d19_9 : decode prog_15_method_7_code 9 = .ok (.if_icmp .le 33, 3) := by decide +kernel
theorem pn_34 : plainName "java/util/Objects" = true := by first | (simp [plainName, overriddenIn]; done) | decide +kernel
theorem d10_0 : decode jdk_31_method_11_code 0 = .ok (.aload_n 0, 1) := by decide +kernel
theorem d10_1 : decode jdk_31_method_11_code 1 = .ok (.ifnonnull 12, 3) := by decide +kernel
theorem d10_13 : decode jdk_31_method_11_code 13 = .ok (.aload_n 0, 1) := by decide +kernel
theorem d10_14 : decode jdk_31_method_11_code 14 = .ok (.areturn, 1) := by decide +kernel
theorem d20_0 : decode prog_15_method_1_code 0 = .ok (.aload_n 0, 1) := by decide +kernel
theorem d20_1 : decode prog_15_method_1_code 1 = .ok (.invokespecial 1, 3) := by decide +kernel
theorem d20_4 : decode prog_15_method_1_code 4 = .ok (.aload_n 0, 1) := by decide +kernel
theorem d20_5 : decode prog_15_method_1_code 5 = .ok (.aload_n 1, 1) := by decide +kernel
theorem d20_6 : decode prog_15_method_1_code 6 = .ok (.putfield 7, 3) := by decide +kernel
theorem d20_9 : decode prog_15_method_1_code 9 = .ok (.return_, 1) := by decide +kernel
theorem d21_0 : decode prog_15_method_3_code 0 = .ok (.aload_n 0, 1) := by decide +kernel
theorem d21_1 : decode prog_15_method_3_code 1 = .ok (.getfield 7, 3) := by decide +kernel
theorem d21_4 : decode prog_15_method_3_code 4 = .ok (.areturn, 1) := by decide +kernel
theorem pn_42 : plainName "java/lang/String" = true := by first | (simp [plainName, overriddenIn]; done) | decide +kernel
theorem d22_0 : decode jdk_42_method_66_code 0 = .ok (.aload_n 0, 1) := by decide +kernel
theorem d22_1 : decode jdk_42_method_66_code 1 = .ok (.aload_n 1, 1) := by decide +kernel
theorem d22_2 : decode jdk_42_method_66_code 2 = .ok (.if_acmp .ne 5, 3) := by decide +kernel
theorem d22_5 : decode jdk_42_method_66_code 5 = .ok (.iconst 1, 1) := by decide +kernel
theorem d22_6 : decode jdk_42_method_66_code 6 = .ok (.ireturn, 1) := by decide +kernel
theorem d9_0 : decode prog_15_method_2_code 0 = .ok (.aload_n 0, 1) := by decide +kernel
theorem d9_1 : decode prog_15_method_2_code 1 = .ok (.ldc 13, 2) := by decide +kernel
theorem d9_3 : decode prog_15_method_2_code 3 = .ok (.invokestatic 15, 3) := by decide +kernel
theorem pd_48 : parseMethodDescriptor "(Ljava/lang/Object;Ljava/lang/String;)Ljava/lang/Object;" = some ⟨[(.object "java/lang/Object"), (.object "java/lang/String")], some (.object "java/lang/Object")⟩ := by decide +kernel
theorem d9_6 : decode prog_15_method_2_code 6 = .ok (.pop, 1) := by decide +kernel
theorem d9_7 : decode prog_15_method_2_code 7 = .ok (.aload_n 0, 1) := by decide +kernel
theorem d9_8 : decode prog_15_method_2_code 8 = .ok (.invokevirtual 21, 3) := by decide +kernel
theorem pd_57 : parseMethodDescriptor "()Z" = some ⟨[], some .boolean⟩ := by decide +kernel
theorem d9_11 : decode prog_15_method_2_code 11 = .ok (.ifCond .eq 13, 3) := by decide +kernel
theorem d9_24 : decode prog_15_method_2_code 24 = .ok (.aload_n 0, 1) := by decide +kernel
theorem d9_25 : decode prog_15_method_2_code 25 = .ok (.invokevirtual 34, 3) := by decide +kernel
theorem pd_62 : parseMethodDescriptor "()I" = some ⟨[], some .int⟩ := by decide +kernel
theorem d9_28 : decode prog_15_method_2_code 28 = .ok (.sipush 255, 3) := by decide +kernel
theorem d9_31 : decode prog_15_method_2_code 31 = .ok (.if_icmp .le 20, 3) := by decide +kernel
theorem d9_51 : decode prog_15_method_2_code 51 = .ok (.iconst 0, 1) := by decide +kernel
theorem d9_52 : decode prog_15_method_2_code 52 = .ok (.istore_n 1, 1) := by decide +kernel
theorem d9_53 : decode prog_15_method_2_code 53 = .ok (.iconst 0, 1) := by decide +kernel
theorem d9_54 : decode prog_15_method_2_code 54 = .ok (.istore_n 2, 1) := by decide +kernel
theorem d9_55 : decode prog_15_method_2_code 55 = .ok (.iload_n 2, 1) := by decide +kernel
theorem d9_56 : decode prog_15_method_2_code 56 = .ok (.aload_n 0, 1) := by decide +kernel
theorem d9_57 : decode prog_15_method_2_code 57 = .ok (.invokevirtual 34, 3) := by decide +kernel
theorem d9_60 : decode prog_15_method_2_code 60 = .ok (.if_icmp .gt 93, 3) := by decide +kernel
theorem d9_63 : decode prog_15_method_2_code 63 = .ok (.iload_n 2, 1) := by decide +kernel
theorem d9_64 : decode prog_15_method_2_code 64 = .ok (.aload_n 0, 1) := by decide +kernel
theorem d9_65 : decode prog_15_method_2_code 65 = .ok (.invokevirtual 34, 3) := by decide +kernel
theorem d9_68 : decode prog_15_method_2_code 68 = .ok (.if_icmp .eq 13, 3) := by decide +kernel
theorem d9_71 : decode prog_15_method_2_code 71 = .ok (.aload_n 0, 1) := by decide +kernel
theorem d9_72 : decode prog_15_method_2_code 72 = .ok (.iload_n 2, 1) := by decide +kernel
theorem d9_73 : decode prog_15_method_2_code 73 = .ok (.invokevirtual 42, 3) := by decide +kernel
theorem d9_76 : decode prog_15_method_2_code 76 = .ok (.bipush 46, 2) := by decide +kernel
theorem d9_78 : decode prog_15_method_2_code 78 = .ok (.if_icmp .ne 26, 3) := by decide +kernel
theorem d9_104 : decode prog_15_method_2_code 104 = .ok (.aload_n 0, 1) := by decide +kernel
theorem d9_105 : decode prog_15_method_2_code 105 = .ok (.iload_n 2, 1) := by decide +kernel
theorem d9_106 : decode prog_15_method_2_code 106 = .ok (.invokevirtual 42, 3) := by decide +kernel
theorem d9_109 : decode prog_15_method_2_code 109 = .ok (.invokestatic 51, 3) := by decide +kernel
theorem pd_78 : parseMethodDescriptor "(C)Z" = some ⟨[.char], some .boolean⟩ := by decide +kernel
theorem d9_112 : decode prog_15_method_2_code 112 = .ok (.ifCond .ne 35, 3) := by decide +kernel
theorem d9_147 : decode prog_15_method_2_code 147 = .ok (.iinc 2 1, 3) := by decide +kernel
theorem d9_150 : decode prog_15_method_2_code 150 = .ok (.goto (-95), 3) := by decide +kernel
theorem d9_81 : decode prog_15_method_2_code 81 = .ok (.iload_n 2, 1) := by decide +kernel
theorem d9_82 : decode prog_15_method_2_code 82 = .ok (.iload_n 1, 1) := by decide +kernel
theorem d9_83 : decode prog_15_method_2_code 83 = .ok (.if_icmp .ne 14, 3) := by decide +kernel
theorem d9_97 : decode prog_15_method_2_code 97 = .ok (.iload_n 2, 1) := by decide +kernel
theorem d9_98 : decode prog_15_method_2_code 98 = .ok (.iconst 1, 1) := by decide +kernel
theorem d9_99 : decode prog_15_method_2_code 99 = .ok (.iadd, 1) := by decide +kernel
theorem d9_100 : decode prog_15_method_2_code 100 = .ok (.istore_n 1, 1) := by decide +kernel
theorem d9_101 : decode prog_15_method_2_code 101 = .ok (.goto 46, 3) := by decide +kernel
theorem d9_153 : decode prog_15_method_2_code 153 = .ok (.new 8, 3) := by decide +kernel
theorem d9_156 : decode prog_15_method_2_code 156 = .ok (.dup, 1) := by decide +kernel
theorem d9_157 : decode prog_15_method_2_code 157 = .ok (.aload_n 0, 1) := by decide +kernel
theorem d9_158 : decode prog_15_method_2_code 158 = .ok (.invokespecial 71, 3) := by decide +kernel
theorem pd_102 : parseMethodDescriptor "(Ljava/lang/String;)V" = some ⟨[(.object "java/lang/String")], none⟩ := by decide +kernel
theorem d9_161 : decode prog_15_method_2_code 161 = .ok (.areturn, 1) := by decide +kernel
theorem own_n4 (x : Int32) : (1 : Int32) + (x &&& (3 : Int32)) = 1 ∨ (1 : Int32) + (x &&& (3 : Int32)) = 2 ∨ (1 : Int32) + (x &&& (3 : Int32)) = 3 ∨ (1 : Int32) + (x &&& (3 : Int32)) = 4 := by
  have t : ∀ k : Fin 4, (1 : Int32) + Int32.ofNat k.val = 1 ∨ (1 : Int32) + Int32.ofNat k.val = 2 ∨ (1 : Int32) + Int32.ofNat k.val = 3 ∨ (1 : Int32) + Int32.ofNat k.val = 4 := by decide +kernel
  have h : (x &&& 3).toBitVec.toNat < 4 := by
    simp only [Int32.toBitVec_and, BitVec.toNat_and]
    exact Nat.lt_succ_of_le Nat.and_le_right
  have e : (x &&& 3) = Int32.ofNat (x &&& 3).toBitVec.toNat := by
    apply Int32.toBitVec_inj.mp
    show _ = BitVec.ofNat 32 _
    rw [BitVec.ofNat_toNat]; simp
  rw [e]
  exact t ⟨_, h⟩
theorem pd_588 : parseMethodDescriptor "([C)V" = some ⟨[(.array .char)], none⟩ := by decide +kernel
theorem pd_607 : parseMethodDescriptor "(Ljava/lang/String;)Lcom/example/boring_outbox/boringoutbox/EventType;" = some ⟨[(.object "java/lang/String")], some (.object "com/example/boring_outbox/boringoutbox/EventType")⟩ := by decide +kernel
theorem pd_625 : parseMethodDescriptor "()Ljava/lang/String;" = some ⟨[], some (.object "java/lang/String")⟩ := by decide +kernel
theorem pd_629 : parseMethodDescriptor "(Ljava/lang/Object;)Z" = some ⟨[(.object "java/lang/Object")], some .boolean⟩ := by decide +kernel
abbrev fr_idc (m : MethodId) (j : Fin 63) (pc : Nat)  (st : List Value) : JFrame := mkF m pc #[.val (.int (Int32.ofNat j.val))] st
def Q_idc (Z : State) (j : Fin 63) (h0 : Heap) (n0 : Nat) (v : Option Value) (h : Heap) (L : List Loc) : Prop := v = some (.int (ownIdc j)) ∧ Fr n0 L ∧ h = h0
theorem ef_idc (m : MethodId) (x0 : Int32)  : entryFrame m #[(.int x0)] 1 = mkF m 0 #[.val (.int x0)] [] := by first | (simp [entryFrame, mkF, argsToLocals, Value.category]; done) | rfl
set_option maxRecDepth 65536 in
set_option maxHeartbeats 40000000 in
theorem c_idc (l : Launch) (Z : State) (a0 : Array Value) (hw : ∀ d ∈ tables_1, d.before a0 Z = true) (ws : List Jvm.Cond) (j : Fin 63) (h0 : Heap) (n0 : Nat) (Z0 : n0 ≤ h0.size) :
    MetFree l (⟨"com/example/boring_outbox/boringoutbox/EventTypeOfPinLaw", "idChar", "(I)C"⟩ : MethodName) (head1 (Jvm.Cond.code (⟨"com/example/boring_outbox/boringoutbox/EventTypeOfPinLaw", "idChar", "(I)C"⟩ : MethodName) method_2_code 1 (some .char) :: ws) ({ frames := 0, cells := 0, slots := 0, locals := 0 } : Room)) (fun a U => a = #[(.int (Int32.ofNat j.val))] ∧ Z.Warmed39 U.vm ∧ U.heap = h0) (fun _ _ _ _ _ => True) (fun _ U o U' => ∃ v L, o = .returned v ∧ (Q_idc Z j h0 n0) v U'.heap L ∧ FrameEnd U o U' L ({ frames := 0, cells := 0, slots := 0, locals := 0 } : Room).cells ({ frames := 0, cells := 0, slots := 0, locals := 0 } : Room).slots) := by
  refine MetFree.of_bodySF (plainFor_of_name pn_1) hisR ?_
  intro p e s m args below meth c s₁ Bd hml0 hP hK
  obtain ⟨rfl, hZ, hHp⟩ := hP
  have hx := Bd.exec
  have hby := Bd.bytes
  have hml : c.maxLocals = 1 := hml0
  have hown : s.vm.findClass "com/example/boring_outbox/boringoutbox/EventTypeOfPinLaw" = some m.cls := findClass_of_methodNamed Bd.named
  have hnm := (name_of_methodNamed Bd.named Bd.method).1
  have X0 : Stand p l e ({ frames := 0, cells := 0, slots := 0, locals := 0 } : Room) s m #[(.int (Int32.ofNat j.val))] below meth c s₁ [] 0 0 := Stand.of_body Bd
  have e0 : s₁.heap = h0 := by rw [← hHp, Bd.state]; rfl
  have N0 := Fr.nil n0
  refine ownOut (P := (Q_idc Z j h0 n0)) ?_
  refine ownBy (A := s₁.setTop (mkF m 0 #[.val (.int (Int32.ofNat j.val))] [])) (fun t k => castTop (ef_idc m (Int32.ofNat j.val)) k) ?_
  refine ownBy (A := s₁.setTop (fr_idc m j 3  [(.int (26 : Int32)), (.int (Int32.ofNat j.val))])) (fun t kt => ?_) ?_
  · refine XS.iloadN X0.here hx rfl (hb hby d2_0) rfl ?_
    show Steps p.tables e below (s₁.setTop (fr_idc m j 1  [(.int (Int32.ofNat j.val))])) t
    refine XS.bipush X0.here hx rfl (hb hby d2_1) ?_
    exact kt
  by_cases hc2 : (Int32.ofNat j.val) < (26 : Int32)
  · skip
    refine ownBy (A := s₁.setTop (fr_idc m j 11  [(.int (((97 : Int32) + (Int32.ofNat j.val)).toUInt32.toUInt16.toUInt32.toInt32))])) (fun t kt => ?_) ?_
    · refine XS.icmpNo X0.here hx rfl (hb hby d2_3) rfl (tlt hc2).2.1 ?_
      show Steps p.tables e below (s₁.setTop (fr_idc m j 6  [])) t
      refine XS.bipush X0.here hx rfl (hb hby d2_6) ?_
      show Steps p.tables e below (s₁.setTop (fr_idc m j 8  [(.int (97 : Int32))])) t
      refine XS.iloadN X0.here hx rfl (hb hby d2_8) rfl ?_
      show Steps p.tables e below (s₁.setTop (fr_idc m j 9  [(.int (Int32.ofNat j.val)), (.int (97 : Int32))])) t
      refine XS.iadd X0.here hx rfl (hb hby d2_9) rfl ?_
      show Steps p.tables e below (s₁.setTop (fr_idc m j 10  [(.int ((97 : Int32) + (Int32.ofNat j.val)))])) t
      refine XS.i2c X0.here hx rfl (hb hby d2_10) rfl ?_
      exact kt
    refine ownRet X0 Bd.notSynchronized (v := some (.int (nar .char (((97 : Int32) + (Int32.ofNat j.val)).toUInt32.toUInt16.toUInt32.toInt32)))) (fun h => by rw [Bd.returns] at h; cases h) ?_ (Nat.le_of_ble_eq_true rfl) (Nat.le_of_ble_eq_true rfl) (fun fs hr => retN X0 hx (t := .char) Bd.returns (by simp) (hb hby d2_11) hr)
    show (Q_idc Z j h0 n0) (some (.int (nar .char (((97 : Int32) + (Int32.ofNat j.val)).toUInt32.toUInt16.toUInt32.toInt32)))) s₁.heap _
    rw [e0]
    refine ⟨?_, N0, rfl⟩
    exact congrArg some (congrArg Value.int ((by decide +kernel : ∀ j : Fin 63, (Int32.ofNat j.val) < (26 : Int32) → nar .char (((97 : Int32) + (Int32.ofNat j.val)).toUInt32.toUInt16.toUInt32.toInt32) = ownIdc j) j hc2))
  · skip
    refine ownBy (A := s₁.setTop (fr_idc m j 15  [(.int (52 : Int32)), (.int (Int32.ofNat j.val))])) (fun t kt => ?_) ?_
    · refine XS.icmpYes X0.here hx rfl (pc0 := 3) (pc' := 12) rfl (hb hby d2_3) rfl (flt hc2).2.1 (by decide) (by decide) ?_
      show Steps p.tables e below (s₁.setTop (fr_idc m j 12  [])) t
      refine XS.iloadN X0.here hx rfl (hb hby d2_12) rfl ?_
      show Steps p.tables e below (s₁.setTop (fr_idc m j 13  [(.int (Int32.ofNat j.val))])) t
      refine XS.bipush X0.here hx rfl (hb hby d2_13) ?_
      exact kt
    by_cases hc3 : (Int32.ofNat j.val) < (52 : Int32)
    · skip
      refine ownBy (A := s₁.setTop (fr_idc m j 26  [(.int (((65 : Int32) + ((Int32.ofNat j.val) - (26 : Int32))).toUInt32.toUInt16.toUInt32.toInt32))])) (fun t kt => ?_) ?_
      · refine XS.icmpNo X0.here hx rfl (hb hby d2_15) rfl (tlt hc3).2.1 ?_
        show Steps p.tables e below (s₁.setTop (fr_idc m j 18  [])) t
        refine XS.bipush X0.here hx rfl (hb hby d2_18) ?_
        show Steps p.tables e below (s₁.setTop (fr_idc m j 20  [(.int (65 : Int32))])) t
        refine XS.iloadN X0.here hx rfl (hb hby d2_20) rfl ?_
        show Steps p.tables e below (s₁.setTop (fr_idc m j 21  [(.int (Int32.ofNat j.val)), (.int (65 : Int32))])) t
        refine XS.bipush X0.here hx rfl (hb hby d2_21) ?_
        show Steps p.tables e below (s₁.setTop (fr_idc m j 23  [(.int (26 : Int32)), (.int (Int32.ofNat j.val)), (.int (65 : Int32))])) t
        refine XS.isub X0.here hx rfl (hb hby d2_23) rfl ?_
        show Steps p.tables e below (s₁.setTop (fr_idc m j 24  [(.int ((Int32.ofNat j.val) - (26 : Int32))), (.int (65 : Int32))])) t
        refine XS.iadd X0.here hx rfl (hb hby d2_24) rfl ?_
        show Steps p.tables e below (s₁.setTop (fr_idc m j 25  [(.int ((65 : Int32) + ((Int32.ofNat j.val) - (26 : Int32))))])) t
        refine XS.i2c X0.here hx rfl (hb hby d2_25) rfl ?_
        exact kt
      refine ownRet X0 Bd.notSynchronized (v := some (.int (nar .char (((65 : Int32) + ((Int32.ofNat j.val) - (26 : Int32))).toUInt32.toUInt16.toUInt32.toInt32)))) (fun h => by rw [Bd.returns] at h; cases h) ?_ (Nat.le_of_ble_eq_true rfl) (Nat.le_of_ble_eq_true rfl) (fun fs hr => retN X0 hx (t := .char) Bd.returns (by simp) (hb hby d2_26) hr)
      show (Q_idc Z j h0 n0) (some (.int (nar .char (((65 : Int32) + ((Int32.ofNat j.val) - (26 : Int32))).toUInt32.toUInt16.toUInt32.toInt32)))) s₁.heap _
      rw [e0]
      refine ⟨?_, N0, rfl⟩
      exact congrArg some (congrArg Value.int ((by decide +kernel : ∀ j : Fin 63, ¬ ((Int32.ofNat j.val) < (26 : Int32)) → (Int32.ofNat j.val) < (52 : Int32) → nar .char (((65 : Int32) + ((Int32.ofNat j.val) - (26 : Int32))).toUInt32.toUInt16.toUInt32.toInt32) = ownIdc j) j hc2 hc3))
    · skip
      refine ownBy (A := s₁.setTop (fr_idc m j 30  [(.int (62 : Int32)), (.int (Int32.ofNat j.val))])) (fun t kt => ?_) ?_
      · refine XS.icmpYes X0.here hx rfl (pc0 := 15) (pc' := 27) rfl (hb hby d2_15) rfl (flt hc3).2.1 (by decide) (by decide) ?_
        show Steps p.tables e below (s₁.setTop (fr_idc m j 27  [])) t
        refine XS.iloadN X0.here hx rfl (hb hby d2_27) rfl ?_
        show Steps p.tables e below (s₁.setTop (fr_idc m j 28  [(.int (Int32.ofNat j.val))])) t
        refine XS.bipush X0.here hx rfl (hb hby d2_28) ?_
        exact kt
      by_cases hc4 : (Int32.ofNat j.val) < (62 : Int32)
      · skip
        refine ownBy (A := s₁.setTop (fr_idc m j 41  [(.int (((48 : Int32) + ((Int32.ofNat j.val) - (52 : Int32))).toUInt32.toUInt16.toUInt32.toInt32))])) (fun t kt => ?_) ?_
        · refine XS.icmpNo X0.here hx rfl (hb hby d2_30) rfl (tlt hc4).2.1 ?_
          show Steps p.tables e below (s₁.setTop (fr_idc m j 33  [])) t
          refine XS.bipush X0.here hx rfl (hb hby d2_33) ?_
          show Steps p.tables e below (s₁.setTop (fr_idc m j 35  [(.int (48 : Int32))])) t
          refine XS.iloadN X0.here hx rfl (hb hby d2_35) rfl ?_
          show Steps p.tables e below (s₁.setTop (fr_idc m j 36  [(.int (Int32.ofNat j.val)), (.int (48 : Int32))])) t
          refine XS.bipush X0.here hx rfl (hb hby d2_36) ?_
          show Steps p.tables e below (s₁.setTop (fr_idc m j 38  [(.int (52 : Int32)), (.int (Int32.ofNat j.val)), (.int (48 : Int32))])) t
          refine XS.isub X0.here hx rfl (hb hby d2_38) rfl ?_
          show Steps p.tables e below (s₁.setTop (fr_idc m j 39  [(.int ((Int32.ofNat j.val) - (52 : Int32))), (.int (48 : Int32))])) t
          refine XS.iadd X0.here hx rfl (hb hby d2_39) rfl ?_
          show Steps p.tables e below (s₁.setTop (fr_idc m j 40  [(.int ((48 : Int32) + ((Int32.ofNat j.val) - (52 : Int32))))])) t
          refine XS.i2c X0.here hx rfl (hb hby d2_40) rfl ?_
          exact kt
        refine ownRet X0 Bd.notSynchronized (v := some (.int (nar .char (((48 : Int32) + ((Int32.ofNat j.val) - (52 : Int32))).toUInt32.toUInt16.toUInt32.toInt32)))) (fun h => by rw [Bd.returns] at h; cases h) ?_ (Nat.le_of_ble_eq_true rfl) (Nat.le_of_ble_eq_true rfl) (fun fs hr => retN X0 hx (t := .char) Bd.returns (by simp) (hb hby d2_41) hr)
        show (Q_idc Z j h0 n0) (some (.int (nar .char (((48 : Int32) + ((Int32.ofNat j.val) - (52 : Int32))).toUInt32.toUInt16.toUInt32.toInt32)))) s₁.heap _
        rw [e0]
        refine ⟨?_, N0, rfl⟩
        exact congrArg some (congrArg Value.int ((by decide +kernel : ∀ j : Fin 63, ¬ ((Int32.ofNat j.val) < (26 : Int32)) → ¬ ((Int32.ofNat j.val) < (52 : Int32)) → (Int32.ofNat j.val) < (62 : Int32) → nar .char (((48 : Int32) + ((Int32.ofNat j.val) - (52 : Int32))).toUInt32.toUInt16.toUInt32.toInt32) = ownIdc j) j hc2 hc3 hc4))
      · skip
        refine ownBy (A := s₁.setTop (fr_idc m j 44  [(.int (95 : Int32))])) (fun t kt => ?_) ?_
        · refine XS.icmpYes X0.here hx rfl (pc0 := 30) (pc' := 42) rfl (hb hby d2_30) rfl (flt hc4).2.1 (by decide) (by decide) ?_
          show Steps p.tables e below (s₁.setTop (fr_idc m j 42  [])) t
          refine XS.bipush X0.here hx rfl (hb hby d2_42) ?_
          exact kt
        refine ownRet X0 Bd.notSynchronized (v := some (.int (nar .char (95 : Int32)))) (fun h => by rw [Bd.returns] at h; cases h) ?_ (Nat.le_of_ble_eq_true rfl) (Nat.le_of_ble_eq_true rfl) (fun fs hr => retN X0 hx (t := .char) Bd.returns (by simp) (hb hby d2_44) hr)
        show (Q_idc Z j h0 n0) (some (.int (nar .char (95 : Int32)))) s₁.heap _
        rw [e0]
        refine ⟨?_, N0, rfl⟩
        exact congrArg some (congrArg Value.int ((by decide +kernel : ∀ j : Fin 63, ¬ ((Int32.ofNat j.val) < (26 : Int32)) → ¬ ((Int32.ofNat j.val) < (52 : Int32)) → ¬ ((Int32.ofNat j.val) < (62 : Int32)) → nar .char (95 : Int32) = ownIdc j) j hc2 hc3 hc4))
abbrev fr_draw (m : MethodId) (p1 : Int32) (pc : Nat)  (st : List Value) : JFrame := mkF m pc #[.val (.int p1)] st
def Q_draw (Z : State) (p1 : Int32) (h0 : Heap) (n0 : Nat) (v : Option Value) (h : Heap) (L : List Loc) : Prop := ∃ c : Int32, v = some (.int c) ∧ Fr n0 L ∧ h = h0 ∧ (c = 46 ∨ ownId c)
theorem ef_draw (m : MethodId) (x0 : Int32)  : entryFrame m #[(.int x0)] 1 = mkF m 0 #[.val (.int x0)] [] := by first | (simp [entryFrame, mkF, argsToLocals, Value.category]; done) | rfl
set_option maxRecDepth 65536 in
set_option maxHeartbeats 40000000 in
theorem c_draw (l : Launch) (Z : State) (a0 : Array Value) (hw : ∀ d ∈ tables_1, d.before a0 Z = true) (ws : List Jvm.Cond) (p1 : Int32) (h0 : Heap) (n0 : Nat) (Z0 : n0 ≤ h0.size) :
    MetFree l (⟨"com/example/boring_outbox/boringoutbox/EventTypeOfPinLaw", "draw", "(I)C"⟩ : MethodName) (head1 (Jvm.Cond.code (⟨"com/example/boring_outbox/boringoutbox/EventTypeOfPinLaw", "draw", "(I)C"⟩ : MethodName) method_3_code 1 (some .char) :: ws) ({ frames := 1, cells := 0, slots := 0, locals := 12 } : Room)) (fun a U => a = #[(.int p1)] ∧ Z.Warmed39 U.vm ∧ U.heap = h0) (fun _ _ _ _ _ => True) (fun _ U o U' => ∃ v L, o = .returned v ∧ (Q_draw Z p1 h0 n0) v U'.heap L ∧ FrameEnd U o U' L ({ frames := 1, cells := 0, slots := 0, locals := 12 } : Room).cells ({ frames := 1, cells := 0, slots := 0, locals := 12 } : Room).slots) := by
  refine MetFree.of_bodySF (plainFor_of_name pn_1) hisR ?_
  intro p e s m args below meth c s₁ Bd hml0 hP hK
  obtain ⟨rfl, hZ, hHp⟩ := hP
  have hx := Bd.exec
  have hby := Bd.bytes
  have hml : c.maxLocals = 1 := hml0
  have hown : s.vm.findClass "com/example/boring_outbox/boringoutbox/EventTypeOfPinLaw" = some m.cls := findClass_of_methodNamed Bd.named
  have hnm := (name_of_methodNamed Bd.named Bd.method).1
  have X0 : Stand p l e ({ frames := 1, cells := 0, slots := 0, locals := 12 } : Room) s m #[(.int p1)] below meth c s₁ [] 0 0 := Stand.of_body Bd
  have e0 : s₁.heap = h0 := by rw [← hHp, Bd.state]; rfl
  have N0 := Fr.nil n0
  refine ownOut (P := (Q_draw Z p1 h0 n0)) ?_
  refine ownBy (A := s₁.setTop (mkF m 0 #[.val (.int p1)] [])) (fun t k => castTop (ef_draw m p1) k) ?_
  refine ownBy (A := s₁.setTop (fr_draw m p1 7  [(.int (3 : Int32)), (.int (((p1.toUInt32 >>> ((8 : Int32) &&& 31).toUInt32).toInt32) &&& (3 : Int32)))])) (fun t kt => ?_) ?_
  · refine XS.iloadN X0.here hx rfl (hb hby d1_0) rfl ?_
    show Steps p.tables e below (s₁.setTop (fr_draw m p1 1  [(.int p1)])) t
    refine XS.bipush X0.here hx rfl (hb hby d1_1) ?_
    show Steps p.tables e below (s₁.setTop (fr_draw m p1 3  [(.int (8 : Int32)), (.int p1)])) t
    refine XS.iushr X0.here hx rfl (hb hby d1_3) rfl ?_
    show Steps p.tables e below (s₁.setTop (fr_draw m p1 4  [(.int ((p1.toUInt32 >>> ((8 : Int32) &&& 31).toUInt32).toInt32))])) t
    refine XS.iconst X0.here hx rfl (hb hby d1_4) ?_
    show Steps p.tables e below (s₁.setTop (fr_draw m p1 5  [(.int (3 : Int32)), (.int ((p1.toUInt32 >>> ((8 : Int32) &&& 31).toUInt32).toInt32))])) t
    refine XS.iand X0.here hx rfl (hb hby d1_5) rfl ?_
    show Steps p.tables e below (s₁.setTop (fr_draw m p1 6  [(.int (((p1.toUInt32 >>> ((8 : Int32) &&& 31).toUInt32).toInt32) &&& (3 : Int32)))])) t
    refine XS.iconst X0.here hx rfl (hb hby d1_6) ?_
    exact kt
  by_cases hc5 : (((p1.toUInt32 >>> ((8 : Int32) &&& 31).toUInt32).toInt32) &&& (3 : Int32)) = (3 : Int32)
  · skip
    refine ownBy (A := s₁.setTop (fr_draw m p1 12  [(.int (46 : Int32))])) (fun t kt => ?_) ?_
    · refine XS.icmpNo X0.here hx rfl (hb hby d1_7) rfl (teq hc5).2 ?_
      show Steps p.tables e below (s₁.setTop (fr_draw m p1 10  [])) t
      refine XS.bipush X0.here hx rfl (hb hby d1_10) ?_
      exact kt
    refine ownRet X0 Bd.notSynchronized (v := some (.int (nar .char (46 : Int32)))) (fun h => by rw [Bd.returns] at h; cases h) ?_ (Nat.le_of_ble_eq_true rfl) (Nat.le_of_ble_eq_true rfl) (fun fs hr => retN X0 hx (t := .char) Bd.returns (by simp) (hb hby d1_12) hr)
    show (Q_draw Z p1 h0 n0) (some (.int (nar .char (46 : Int32)))) s₁.heap _
    rw [e0]
    exact ⟨_, rfl, N0, rfl, Or.inl (by decide)⟩
  · skip
    refine ownBy (A := s₁.setTop (fr_draw m p1 14  [(.int p1)])) (fun t kt => ?_) ?_
    · refine XS.icmpYes X0.here hx rfl (pc0 := 7) (pc' := 13) rfl (hb hby d1_7) rfl (feq hc5).2 (by decide) (by decide) ?_
      show Steps p.tables e below (s₁.setTop (fr_draw m p1 13  [])) t
      refine XS.iloadN X0.here hx rfl (hb hby d1_13) rfl ?_
      exact kt
    refine ownBy (X0.ldcInt hx hown (mvT hZ (Wd4 hw)) (g := (fr_draw m p1 14  [(.int p1)])) rfl (hb hby d1_14)) ?_
    show ownG p.tables e below _ (s₁.setTop (fr_draw m p1 16  [(.int (2147483647 : Int32)), (.int p1)]))
    refine ownBy (A := s₁.setTop (fr_draw m p1 20  [(.int ((p1 &&& (2147483647 : Int32)) % (63 : Int32)))])) (fun t kt => ?_) ?_
    · refine XS.iand X0.here hx rfl (hb hby d1_16) rfl ?_
      show Steps p.tables e below (s₁.setTop (fr_draw m p1 17  [(.int (p1 &&& (2147483647 : Int32)))])) t
      refine XS.bipush X0.here hx rfl (hb hby d1_17) ?_
      show Steps p.tables e below (s₁.setTop (fr_draw m p1 19  [(.int (63 : Int32)), (.int (p1 &&& (2147483647 : Int32)))])) t
      refine iremM X0 hx rfl (hb hby d1_19) rfl (by decide) ?_
      exact kt
    obtain ⟨j, hj⟩ := own_rem63 p1
    rw [hj]
    show ownG p.tables e below _ (s₁.setTop (fr_draw m p1 20  [(.int (Int32.ofNat j.val))]))
    obtain ⟨vv7, _, ⟨T7, L7, k7, n7⟩, -, X7, ⟨Lc7, hQ7, l7, y7, z7⟩, st7⟩ := Jvm.LawKit.callS X0 hx (y := (⟨"com/example/boring_outbox/boringoutbox/EventTypeOfPinLaw", "idChar", "(I)C"⟩ : MethodName)) hown (mvT hZ (Wd5 hw)) (mvT hZ (Wd6 hw)) (mvT hZ (Wd2 hw)) (mvT hZ (Wd7 hw)) (by decide) (backOf (W := 0) (c_idc l Z a0 hw [] j h0 n0 Z0 ) hZ (Wd7 hw) (Wd2 hw) (by decide) (by decide)) (g := (fr_draw m p1 20  [(.int (Int32.ofNat j.val))])) rfl (by rw [hml]; rfl) (argsL := [(.int (Int32.ofNat j.val))]) (rest := []) (lenOf pd_8 rfl) rfl (by show 2 * 0 + _ ≤ _; exact Nat.le_of_eq rfl) (hb hby d1_20) (fun _ _ => ⟨rfl, e0, (by decide : 0 + 0 ≤ _), (by decide : 0 + 0 ≤ _)⟩)
    dsimp only [Pt.U, Pt.locs, Pt.cells, Pt.slots] at X7 l7 y7 z7 st7 hQ7
    subst l7 y7 z7
    obtain ⟨rfl, Nq7, Eq7⟩ := hQ7
    have N9 := Fr.app N0 Nq7
    obtain ⟨Lh10, Xh10, Nh10⟩ := own_hide (cells' := 0) (slots' := 0) X7 N9 (Nat.le_of_ble_eq_true rfl) (Nat.le_of_ble_eq_true rfl)
    refine ownBy st7 ?_
    clear st7
    show ownG p.tables e below _ (T7.setTop (fr_draw m p1 23  [(.int (ownIdc j))]))
    refine ownRet Xh10 Bd.notSynchronized (v := some (.int (nar .char (ownIdc j)))) (fun h => by rw [Bd.returns] at h; cases h) ?_ (Nat.le_of_ble_eq_true rfl) (Nat.le_of_ble_eq_true rfl) (fun fs hr => retN Xh10 hx (t := .char) Bd.returns (by simp) (hb hby d1_23) hr)
    show (Q_draw Z p1 h0 n0) (some (.int (nar .char (ownIdc j)))) T7.heap _
    rw [Eq7]
    exact ⟨_, rfl, Nh10, rfl, Or.inr (by rw [own_nar_id (Or.inr (own_idc j))]; exact own_idc j)⟩
abbrev fr_isi (m : MethodId) (c1 : Int32) (pc : Nat)  (st : List Value) : JFrame := mkF m pc #[.val (.int c1)] st
def Q_isi (Z : State) (c1 : Int32) (h0 : Heap) (n0 : Nat) (v : Option Value) (h : Heap) (L : List Loc) : Prop := v = some (.int (1 : Int32)) ∧ Fr n0 L ∧ h = h0
theorem ef_isi (m : MethodId) (x0 : Int32)  : entryFrame m #[(.int x0)] 1 = mkF m 0 #[.val (.int x0)] [] := by first | (simp [entryFrame, mkF, argsToLocals, Value.category]; done) | rfl
set_option maxRecDepth 65536 in
set_option maxHeartbeats 40000000 in
theorem c_isi (l : Launch) (Z : State) (a0 : Array Value) (hw : ∀ d ∈ tables_1, d.before a0 Z = true) (ws : List Jvm.Cond) (c1 : Int32) (h0 : Heap) (n0 : Nat) (Z0 : n0 ≤ h0.size) (hid : ownId c1) :
    MetFree l (⟨"com/example/boring_outbox/boringoutbox/EventType", "isIdentifierCharacter", "(C)Z"⟩ : MethodName) (head1 (Jvm.Cond.code (⟨"com/example/boring_outbox/boringoutbox/EventType", "isIdentifierCharacter", "(C)Z"⟩ : MethodName) prog_15_method_7_code 1 (some .boolean) :: ws) ({ frames := 0, cells := 0, slots := 0, locals := 0 } : Room)) (fun a U => a = #[(.int c1)] ∧ Z.Warmed39 U.vm ∧ U.heap = h0) (fun _ _ _ _ _ => True) (fun _ U o U' => ∃ v L, o = .returned v ∧ (Q_isi Z c1 h0 n0) v U'.heap L ∧ FrameEnd U o U' L ({ frames := 0, cells := 0, slots := 0, locals := 0 } : Room).cells ({ frames := 0, cells := 0, slots := 0, locals := 0 } : Room).slots) := by
  refine MetFree.of_bodySF (plainFor_of_name pn_11) hisR ?_
  intro p e s m args below meth c s₁ Bd hml0 hP hK
  obtain ⟨rfl, hZ, hHp⟩ := hP
  have hx := Bd.exec
  have hby := Bd.bytes
  have hml : c.maxLocals = 1 := hml0
  have hown : s.vm.findClass "com/example/boring_outbox/boringoutbox/EventType" = some m.cls := findClass_of_methodNamed Bd.named
  have hnm := (name_of_methodNamed Bd.named Bd.method).1
  have X0 : Stand p l e ({ frames := 0, cells := 0, slots := 0, locals := 0 } : Room) s m #[(.int c1)] below meth c s₁ [] 0 0 := Stand.of_body Bd
  have e0 : s₁.heap = h0 := by rw [← hHp, Bd.state]; rfl
  have N0 := Fr.nil n0
  refine ownOut (P := (Q_isi Z c1 h0 n0)) ?_
  refine ownBy (A := s₁.setTop (mkF m 0 #[.val (.int c1)] [])) (fun t k => castTop (ef_isi m c1) k) ?_
  refine ownBy (A := s₁.setTop (fr_isi m c1 3  [(.int (97 : Int32)), (.int c1)])) (fun t kt => ?_) ?_
  · refine XS.iloadN X0.here hx rfl (hb hby d19_0) rfl ?_
    show Steps p.tables e below (s₁.setTop (fr_isi m c1 1  [(.int c1)])) t
    refine XS.bipush X0.here hx rfl (hb hby d19_1) ?_
    exact kt
  by_cases hc12 : c1 < (97 : Int32)
  · skip
    refine ownBy (A := s₁.setTop (fr_isi m c1 15  [(.int (65 : Int32)), (.int c1)])) (fun t kt => ?_) ?_
    · refine XS.icmpYes X0.here hx rfl (pc0 := 3) (pc' := 12) rfl (hb hby d19_3) rfl (tlt hc12).1 (by decide) (by decide) ?_
      show Steps p.tables e below (s₁.setTop (fr_isi m c1 12  [])) t
      refine XS.iloadN X0.here hx rfl (hb hby d19_12) rfl ?_
      show Steps p.tables e below (s₁.setTop (fr_isi m c1 13  [(.int c1)])) t
      refine XS.bipush X0.here hx rfl (hb hby d19_13) ?_
      exact kt
    by_cases hc13 : c1 < (65 : Int32)
    · skip
      refine ownBy (A := s₁.setTop (fr_isi m c1 27  [(.int (48 : Int32)), (.int c1)])) (fun t kt => ?_) ?_
      · refine XS.icmpYes X0.here hx rfl (pc0 := 15) (pc' := 24) rfl (hb hby d19_15) rfl (tlt hc13).1 (by decide) (by decide) ?_
        show Steps p.tables e below (s₁.setTop (fr_isi m c1 24  [])) t
        refine XS.iloadN X0.here hx rfl (hb hby d19_24) rfl ?_
        show Steps p.tables e below (s₁.setTop (fr_isi m c1 25  [(.int c1)])) t
        refine XS.bipush X0.here hx rfl (hb hby d19_25) ?_
        exact kt
      by_cases hc14 : c1 < (48 : Int32)
      · skip
        refine ownBy (A := s₁.setTop (fr_isi m c1 39  [(.int (95 : Int32)), (.int c1)])) (fun t kt => ?_) ?_
        · refine XS.icmpYes X0.here hx rfl (pc0 := 27) (pc' := 36) rfl (hb hby d19_27) rfl (tlt hc14).1 (by decide) (by decide) ?_
          show Steps p.tables e below (s₁.setTop (fr_isi m c1 36  [])) t
          refine XS.iloadN X0.here hx rfl (hb hby d19_36) rfl ?_
          show Steps p.tables e below (s₁.setTop (fr_isi m c1 37  [(.int c1)])) t
          refine XS.bipush X0.here hx rfl (hb hby d19_37) ?_
          exact kt
        by_cases hc15 : c1 = (95 : Int32)
        · skip
          refine ownBy (A := s₁.setTop (fr_isi m c1 47  [(.int (1 : Int32))])) (fun t kt => ?_) ?_
          · refine XS.icmpNo X0.here hx rfl (hb hby d19_39) rfl (teq hc15).2 ?_
            show Steps p.tables e below (s₁.setTop (fr_isi m c1 42  [])) t
            refine XS.iconst X0.here hx rfl (hb hby d19_42) ?_
            show Steps p.tables e below (s₁.setTop (fr_isi m c1 43  [(.int (1 : Int32))])) t
            refine XS.goto X0.here hx rfl (pc0 := 43) (pc' := 47) rfl (hb hby d19_43) (by decide) (by decide) ?_
            exact kt
          refine ownRet X0 Bd.notSynchronized (v := some (.int (nar .boolean (1 : Int32)))) (fun h => by rw [Bd.returns] at h; cases h) ?_ (Nat.le_of_ble_eq_true rfl) (Nat.le_of_ble_eq_true rfl) (fun fs hr => retN X0 hx (t := .boolean) Bd.returns (by simp) (hb hby d19_47) hr)
          show (Q_isi Z c1 h0 n0) (some (.int (nar .boolean (1 : Int32)))) s₁.heap _
          rw [e0]
          exact ⟨rfl, N0, rfl⟩
        · skip
          refine ownBy (A := s₁.setTop (fr_isi m c1 47  [(.int (0 : Int32))])) (fun t kt => ?_) ?_
          · refine XS.icmpYes X0.here hx rfl (pc0 := 39) (pc' := 46) rfl (hb hby d19_39) rfl (feq hc15).2 (by decide) (by decide) ?_
            show Steps p.tables e below (s₁.setTop (fr_isi m c1 46  [])) t
            refine XS.iconst X0.here hx rfl (hb hby d19_46) ?_
            exact kt
          refine ownRet X0 Bd.notSynchronized (v := some (.int (nar .boolean (0 : Int32)))) (fun h => by rw [Bd.returns] at h; cases h) ?_ (Nat.le_of_ble_eq_true rfl) (Nat.le_of_ble_eq_true rfl) (fun fs hr => retN X0 hx (t := .boolean) Bd.returns (by simp) (hb hby d19_47) hr)
          show (Q_isi Z c1 h0 n0) (some (.int (nar .boolean (0 : Int32)))) s₁.heap _
          rw [e0]
          exfalso
          have e97 : (97 : Int32).toInt = 97 := rfl
          have e122 : (122 : Int32).toInt = 122 := rfl
          have e65 : (65 : Int32).toInt = 65 := rfl
          have e90 : (90 : Int32).toInt = 90 := rfl
          have e48 : (48 : Int32).toInt = 48 := rfl
          have e57 : (57 : Int32).toInt = 57 := rfl
          have e95 : (95 : Int32).toInt = 95 := rfl
          simp only [ownId, Int32.lt_iff_toInt_lt, ← Int32.toInt_inj] at hid hc12 hc13 hc14 hc15
          omega
      · skip
        refine ownBy (A := s₁.setTop (fr_isi m c1 33  [(.int (57 : Int32)), (.int c1)])) (fun t kt => ?_) ?_
        · refine XS.icmpNo X0.here hx rfl (hb hby d19_27) rfl (flt hc14).1 ?_
          show Steps p.tables e below (s₁.setTop (fr_isi m c1 30  [])) t
          refine XS.iloadN X0.here hx rfl (hb hby d19_30) rfl ?_
          show Steps p.tables e below (s₁.setTop (fr_isi m c1 31  [(.int c1)])) t
          refine XS.bipush X0.here hx rfl (hb hby d19_31) ?_
          exact kt
        by_cases hc16 : (57 : Int32) < c1
        · skip
          refine ownBy (A := s₁.setTop (fr_isi m c1 39  [(.int (95 : Int32)), (.int c1)])) (fun t kt => ?_) ?_
          · refine XS.icmpNo X0.here hx rfl (hb hby d19_33) rfl (tlt hc16).2.2.2 ?_
            show Steps p.tables e below (s₁.setTop (fr_isi m c1 36  [])) t
            refine XS.iloadN X0.here hx rfl (hb hby d19_36) rfl ?_
            show Steps p.tables e below (s₁.setTop (fr_isi m c1 37  [(.int c1)])) t
            refine XS.bipush X0.here hx rfl (hb hby d19_37) ?_
            exact kt
          by_cases hc17 : c1 = (95 : Int32)
          · skip
            refine ownBy (A := s₁.setTop (fr_isi m c1 47  [(.int (1 : Int32))])) (fun t kt => ?_) ?_
            · refine XS.icmpNo X0.here hx rfl (hb hby d19_39) rfl (teq hc17).2 ?_
              show Steps p.tables e below (s₁.setTop (fr_isi m c1 42  [])) t
              refine XS.iconst X0.here hx rfl (hb hby d19_42) ?_
              show Steps p.tables e below (s₁.setTop (fr_isi m c1 43  [(.int (1 : Int32))])) t
              refine XS.goto X0.here hx rfl (pc0 := 43) (pc' := 47) rfl (hb hby d19_43) (by decide) (by decide) ?_
              exact kt
            refine ownRet X0 Bd.notSynchronized (v := some (.int (nar .boolean (1 : Int32)))) (fun h => by rw [Bd.returns] at h; cases h) ?_ (Nat.le_of_ble_eq_true rfl) (Nat.le_of_ble_eq_true rfl) (fun fs hr => retN X0 hx (t := .boolean) Bd.returns (by simp) (hb hby d19_47) hr)
            show (Q_isi Z c1 h0 n0) (some (.int (nar .boolean (1 : Int32)))) s₁.heap _
            rw [e0]
            exact ⟨rfl, N0, rfl⟩
          · skip
            refine ownBy (A := s₁.setTop (fr_isi m c1 47  [(.int (0 : Int32))])) (fun t kt => ?_) ?_
            · refine XS.icmpYes X0.here hx rfl (pc0 := 39) (pc' := 46) rfl (hb hby d19_39) rfl (feq hc17).2 (by decide) (by decide) ?_
              show Steps p.tables e below (s₁.setTop (fr_isi m c1 46  [])) t
              refine XS.iconst X0.here hx rfl (hb hby d19_46) ?_
              exact kt
            refine ownRet X0 Bd.notSynchronized (v := some (.int (nar .boolean (0 : Int32)))) (fun h => by rw [Bd.returns] at h; cases h) ?_ (Nat.le_of_ble_eq_true rfl) (Nat.le_of_ble_eq_true rfl) (fun fs hr => retN X0 hx (t := .boolean) Bd.returns (by simp) (hb hby d19_47) hr)
            show (Q_isi Z c1 h0 n0) (some (.int (nar .boolean (0 : Int32)))) s₁.heap _
            rw [e0]
            exfalso
            have e97 : (97 : Int32).toInt = 97 := rfl
            have e122 : (122 : Int32).toInt = 122 := rfl
            have e65 : (65 : Int32).toInt = 65 := rfl
            have e90 : (90 : Int32).toInt = 90 := rfl
            have e48 : (48 : Int32).toInt = 48 := rfl
            have e57 : (57 : Int32).toInt = 57 := rfl
            have e95 : (95 : Int32).toInt = 95 := rfl
            simp only [ownId, Int32.lt_iff_toInt_lt, ← Int32.toInt_inj] at hid hc12 hc13 hc14 hc16 hc17
            omega
        · skip
          refine ownBy (A := s₁.setTop (fr_isi m c1 47  [(.int (1 : Int32))])) (fun t kt => ?_) ?_
          · refine XS.icmpYes X0.here hx rfl (pc0 := 33) (pc' := 42) rfl (hb hby d19_33) rfl (flt hc16).2.2.2 (by decide) (by decide) ?_
            show Steps p.tables e below (s₁.setTop (fr_isi m c1 42  [])) t
            refine XS.iconst X0.here hx rfl (hb hby d19_42) ?_
            show Steps p.tables e below (s₁.setTop (fr_isi m c1 43  [(.int (1 : Int32))])) t
            refine XS.goto X0.here hx rfl (pc0 := 43) (pc' := 47) rfl (hb hby d19_43) (by decide) (by decide) ?_
            exact kt
          refine ownRet X0 Bd.notSynchronized (v := some (.int (nar .boolean (1 : Int32)))) (fun h => by rw [Bd.returns] at h; cases h) ?_ (Nat.le_of_ble_eq_true rfl) (Nat.le_of_ble_eq_true rfl) (fun fs hr => retN X0 hx (t := .boolean) Bd.returns (by simp) (hb hby d19_47) hr)
          show (Q_isi Z c1 h0 n0) (some (.int (nar .boolean (1 : Int32)))) s₁.heap _
          rw [e0]
          exact ⟨rfl, N0, rfl⟩
    · skip
      refine ownBy (A := s₁.setTop (fr_isi m c1 21  [(.int (90 : Int32)), (.int c1)])) (fun t kt => ?_) ?_
      · refine XS.icmpNo X0.here hx rfl (hb hby d19_15) rfl (flt hc13).1 ?_
        show Steps p.tables e below (s₁.setTop (fr_isi m c1 18  [])) t
        refine XS.iloadN X0.here hx rfl (hb hby d19_18) rfl ?_
        show Steps p.tables e below (s₁.setTop (fr_isi m c1 19  [(.int c1)])) t
        refine XS.bipush X0.here hx rfl (hb hby d19_19) ?_
        exact kt
      by_cases hc18 : (90 : Int32) < c1
      · skip
        refine ownBy (A := s₁.setTop (fr_isi m c1 27  [(.int (48 : Int32)), (.int c1)])) (fun t kt => ?_) ?_
        · refine XS.icmpNo X0.here hx rfl (hb hby d19_21) rfl (tlt hc18).2.2.2 ?_
          show Steps p.tables e below (s₁.setTop (fr_isi m c1 24  [])) t
          refine XS.iloadN X0.here hx rfl (hb hby d19_24) rfl ?_
          show Steps p.tables e below (s₁.setTop (fr_isi m c1 25  [(.int c1)])) t
          refine XS.bipush X0.here hx rfl (hb hby d19_25) ?_
          exact kt
        by_cases hc19 : c1 < (48 : Int32)
        · skip
          refine ownBy (A := s₁.setTop (fr_isi m c1 39  [(.int (95 : Int32)), (.int c1)])) (fun t kt => ?_) ?_
          · refine XS.icmpYes X0.here hx rfl (pc0 := 27) (pc' := 36) rfl (hb hby d19_27) rfl (tlt hc19).1 (by decide) (by decide) ?_
            show Steps p.tables e below (s₁.setTop (fr_isi m c1 36  [])) t
            refine XS.iloadN X0.here hx rfl (hb hby d19_36) rfl ?_
            show Steps p.tables e below (s₁.setTop (fr_isi m c1 37  [(.int c1)])) t
            refine XS.bipush X0.here hx rfl (hb hby d19_37) ?_
            exact kt
          by_cases hc20 : c1 = (95 : Int32)
          · skip
            refine ownBy (A := s₁.setTop (fr_isi m c1 47  [(.int (1 : Int32))])) (fun t kt => ?_) ?_
            · refine XS.icmpNo X0.here hx rfl (hb hby d19_39) rfl (teq hc20).2 ?_
              show Steps p.tables e below (s₁.setTop (fr_isi m c1 42  [])) t
              refine XS.iconst X0.here hx rfl (hb hby d19_42) ?_
              show Steps p.tables e below (s₁.setTop (fr_isi m c1 43  [(.int (1 : Int32))])) t
              refine XS.goto X0.here hx rfl (pc0 := 43) (pc' := 47) rfl (hb hby d19_43) (by decide) (by decide) ?_
              exact kt
            refine ownRet X0 Bd.notSynchronized (v := some (.int (nar .boolean (1 : Int32)))) (fun h => by rw [Bd.returns] at h; cases h) ?_ (Nat.le_of_ble_eq_true rfl) (Nat.le_of_ble_eq_true rfl) (fun fs hr => retN X0 hx (t := .boolean) Bd.returns (by simp) (hb hby d19_47) hr)
            show (Q_isi Z c1 h0 n0) (some (.int (nar .boolean (1 : Int32)))) s₁.heap _
            rw [e0]
            exact ⟨rfl, N0, rfl⟩
          · skip
            refine ownBy (A := s₁.setTop (fr_isi m c1 47  [(.int (0 : Int32))])) (fun t kt => ?_) ?_
            · refine XS.icmpYes X0.here hx rfl (pc0 := 39) (pc' := 46) rfl (hb hby d19_39) rfl (feq hc20).2 (by decide) (by decide) ?_
              show Steps p.tables e below (s₁.setTop (fr_isi m c1 46  [])) t
              refine XS.iconst X0.here hx rfl (hb hby d19_46) ?_
              exact kt
            refine ownRet X0 Bd.notSynchronized (v := some (.int (nar .boolean (0 : Int32)))) (fun h => by rw [Bd.returns] at h; cases h) ?_ (Nat.le_of_ble_eq_true rfl) (Nat.le_of_ble_eq_true rfl) (fun fs hr => retN X0 hx (t := .boolean) Bd.returns (by simp) (hb hby d19_47) hr)
            show (Q_isi Z c1 h0 n0) (some (.int (nar .boolean (0 : Int32)))) s₁.heap _
            rw [e0]
            exfalso
            have e97 : (97 : Int32).toInt = 97 := rfl
            have e122 : (122 : Int32).toInt = 122 := rfl
            have e65 : (65 : Int32).toInt = 65 := rfl
            have e90 : (90 : Int32).toInt = 90 := rfl
            have e48 : (48 : Int32).toInt = 48 := rfl
            have e57 : (57 : Int32).toInt = 57 := rfl
            have e95 : (95 : Int32).toInt = 95 := rfl
            simp only [ownId, Int32.lt_iff_toInt_lt, ← Int32.toInt_inj] at hid hc12 hc13 hc18 hc19 hc20
            omega
        · skip
          refine ownBy (A := s₁.setTop (fr_isi m c1 33  [(.int (57 : Int32)), (.int c1)])) (fun t kt => ?_) ?_
          · refine XS.icmpNo X0.here hx rfl (hb hby d19_27) rfl (flt hc19).1 ?_
            show Steps p.tables e below (s₁.setTop (fr_isi m c1 30  [])) t
            refine XS.iloadN X0.here hx rfl (hb hby d19_30) rfl ?_
            show Steps p.tables e below (s₁.setTop (fr_isi m c1 31  [(.int c1)])) t
            refine XS.bipush X0.here hx rfl (hb hby d19_31) ?_
            exact kt
          by_cases hc21 : (57 : Int32) < c1
          · skip
            refine ownBy (A := s₁.setTop (fr_isi m c1 39  [(.int (95 : Int32)), (.int c1)])) (fun t kt => ?_) ?_
            · refine XS.icmpNo X0.here hx rfl (hb hby d19_33) rfl (tlt hc21).2.2.2 ?_
              show Steps p.tables e below (s₁.setTop (fr_isi m c1 36  [])) t
              refine XS.iloadN X0.here hx rfl (hb hby d19_36) rfl ?_
              show Steps p.tables e below (s₁.setTop (fr_isi m c1 37  [(.int c1)])) t
              refine XS.bipush X0.here hx rfl (hb hby d19_37) ?_
              exact kt
            by_cases hc22 : c1 = (95 : Int32)
            · skip
              refine ownBy (A := s₁.setTop (fr_isi m c1 47  [(.int (1 : Int32))])) (fun t kt => ?_) ?_
              · refine XS.icmpNo X0.here hx rfl (hb hby d19_39) rfl (teq hc22).2 ?_
                show Steps p.tables e below (s₁.setTop (fr_isi m c1 42  [])) t
                refine XS.iconst X0.here hx rfl (hb hby d19_42) ?_
                show Steps p.tables e below (s₁.setTop (fr_isi m c1 43  [(.int (1 : Int32))])) t
                refine XS.goto X0.here hx rfl (pc0 := 43) (pc' := 47) rfl (hb hby d19_43) (by decide) (by decide) ?_
                exact kt
              refine ownRet X0 Bd.notSynchronized (v := some (.int (nar .boolean (1 : Int32)))) (fun h => by rw [Bd.returns] at h; cases h) ?_ (Nat.le_of_ble_eq_true rfl) (Nat.le_of_ble_eq_true rfl) (fun fs hr => retN X0 hx (t := .boolean) Bd.returns (by simp) (hb hby d19_47) hr)
              show (Q_isi Z c1 h0 n0) (some (.int (nar .boolean (1 : Int32)))) s₁.heap _
              rw [e0]
              exact ⟨rfl, N0, rfl⟩
            · skip
              refine ownBy (A := s₁.setTop (fr_isi m c1 47  [(.int (0 : Int32))])) (fun t kt => ?_) ?_
              · refine XS.icmpYes X0.here hx rfl (pc0 := 39) (pc' := 46) rfl (hb hby d19_39) rfl (feq hc22).2 (by decide) (by decide) ?_
                show Steps p.tables e below (s₁.setTop (fr_isi m c1 46  [])) t
                refine XS.iconst X0.here hx rfl (hb hby d19_46) ?_
                exact kt
              refine ownRet X0 Bd.notSynchronized (v := some (.int (nar .boolean (0 : Int32)))) (fun h => by rw [Bd.returns] at h; cases h) ?_ (Nat.le_of_ble_eq_true rfl) (Nat.le_of_ble_eq_true rfl) (fun fs hr => retN X0 hx (t := .boolean) Bd.returns (by simp) (hb hby d19_47) hr)
              show (Q_isi Z c1 h0 n0) (some (.int (nar .boolean (0 : Int32)))) s₁.heap _
              rw [e0]
              exfalso
              have e97 : (97 : Int32).toInt = 97 := rfl
              have e122 : (122 : Int32).toInt = 122 := rfl
              have e65 : (65 : Int32).toInt = 65 := rfl
              have e90 : (90 : Int32).toInt = 90 := rfl
              have e48 : (48 : Int32).toInt = 48 := rfl
              have e57 : (57 : Int32).toInt = 57 := rfl
              have e95 : (95 : Int32).toInt = 95 := rfl
              simp only [ownId, Int32.lt_iff_toInt_lt, ← Int32.toInt_inj] at hid hc12 hc13 hc18 hc19 hc21 hc22
              omega
          · skip
            refine ownBy (A := s₁.setTop (fr_isi m c1 47  [(.int (1 : Int32))])) (fun t kt => ?_) ?_
            · refine XS.icmpYes X0.here hx rfl (pc0 := 33) (pc' := 42) rfl (hb hby d19_33) rfl (flt hc21).2.2.2 (by decide) (by decide) ?_
              show Steps p.tables e below (s₁.setTop (fr_isi m c1 42  [])) t
              refine XS.iconst X0.here hx rfl (hb hby d19_42) ?_
              show Steps p.tables e below (s₁.setTop (fr_isi m c1 43  [(.int (1 : Int32))])) t
              refine XS.goto X0.here hx rfl (pc0 := 43) (pc' := 47) rfl (hb hby d19_43) (by decide) (by decide) ?_
              exact kt
            refine ownRet X0 Bd.notSynchronized (v := some (.int (nar .boolean (1 : Int32)))) (fun h => by rw [Bd.returns] at h; cases h) ?_ (Nat.le_of_ble_eq_true rfl) (Nat.le_of_ble_eq_true rfl) (fun fs hr => retN X0 hx (t := .boolean) Bd.returns (by simp) (hb hby d19_47) hr)
            show (Q_isi Z c1 h0 n0) (some (.int (nar .boolean (1 : Int32)))) s₁.heap _
            rw [e0]
            exact ⟨rfl, N0, rfl⟩
      · skip
        refine ownBy (A := s₁.setTop (fr_isi m c1 47  [(.int (1 : Int32))])) (fun t kt => ?_) ?_
        · refine XS.icmpYes X0.here hx rfl (pc0 := 21) (pc' := 42) rfl (hb hby d19_21) rfl (flt hc18).2.2.2 (by decide) (by decide) ?_
          show Steps p.tables e below (s₁.setTop (fr_isi m c1 42  [])) t
          refine XS.iconst X0.here hx rfl (hb hby d19_42) ?_
          show Steps p.tables e below (s₁.setTop (fr_isi m c1 43  [(.int (1 : Int32))])) t
          refine XS.goto X0.here hx rfl (pc0 := 43) (pc' := 47) rfl (hb hby d19_43) (by decide) (by decide) ?_
          exact kt
        refine ownRet X0 Bd.notSynchronized (v := some (.int (nar .boolean (1 : Int32)))) (fun h => by rw [Bd.returns] at h; cases h) ?_ (Nat.le_of_ble_eq_true rfl) (Nat.le_of_ble_eq_true rfl) (fun fs hr => retN X0 hx (t := .boolean) Bd.returns (by simp) (hb hby d19_47) hr)
        show (Q_isi Z c1 h0 n0) (some (.int (nar .boolean (1 : Int32)))) s₁.heap _
        rw [e0]
        exact ⟨rfl, N0, rfl⟩
  · skip
    refine ownBy (A := s₁.setTop (fr_isi m c1 9  [(.int (122 : Int32)), (.int c1)])) (fun t kt => ?_) ?_
    · refine XS.icmpNo X0.here hx rfl (hb hby d19_3) rfl (flt hc12).1 ?_
      show Steps p.tables e below (s₁.setTop (fr_isi m c1 6  [])) t
      refine XS.iloadN X0.here hx rfl (hb hby d19_6) rfl ?_
      show Steps p.tables e below (s₁.setTop (fr_isi m c1 7  [(.int c1)])) t
      refine XS.bipush X0.here hx rfl (hb hby d19_7) ?_
      exact kt
    by_cases hc23 : (122 : Int32) < c1
    · skip
      refine ownBy (A := s₁.setTop (fr_isi m c1 15  [(.int (65 : Int32)), (.int c1)])) (fun t kt => ?_) ?_
      · refine XS.icmpNo X0.here hx rfl (hb hby d19_9) rfl (tlt hc23).2.2.2 ?_
        show Steps p.tables e below (s₁.setTop (fr_isi m c1 12  [])) t
        refine XS.iloadN X0.here hx rfl (hb hby d19_12) rfl ?_
        show Steps p.tables e below (s₁.setTop (fr_isi m c1 13  [(.int c1)])) t
        refine XS.bipush X0.here hx rfl (hb hby d19_13) ?_
        exact kt
      by_cases hc24 : c1 < (65 : Int32)
      · skip
        refine ownBy (A := s₁.setTop (fr_isi m c1 27  [(.int (48 : Int32)), (.int c1)])) (fun t kt => ?_) ?_
        · refine XS.icmpYes X0.here hx rfl (pc0 := 15) (pc' := 24) rfl (hb hby d19_15) rfl (tlt hc24).1 (by decide) (by decide) ?_
          show Steps p.tables e below (s₁.setTop (fr_isi m c1 24  [])) t
          refine XS.iloadN X0.here hx rfl (hb hby d19_24) rfl ?_
          show Steps p.tables e below (s₁.setTop (fr_isi m c1 25  [(.int c1)])) t
          refine XS.bipush X0.here hx rfl (hb hby d19_25) ?_
          exact kt
        by_cases hc25 : c1 < (48 : Int32)
        · skip
          refine ownBy (A := s₁.setTop (fr_isi m c1 39  [(.int (95 : Int32)), (.int c1)])) (fun t kt => ?_) ?_
          · refine XS.icmpYes X0.here hx rfl (pc0 := 27) (pc' := 36) rfl (hb hby d19_27) rfl (tlt hc25).1 (by decide) (by decide) ?_
            show Steps p.tables e below (s₁.setTop (fr_isi m c1 36  [])) t
            refine XS.iloadN X0.here hx rfl (hb hby d19_36) rfl ?_
            show Steps p.tables e below (s₁.setTop (fr_isi m c1 37  [(.int c1)])) t
            refine XS.bipush X0.here hx rfl (hb hby d19_37) ?_
            exact kt
          by_cases hc26 : c1 = (95 : Int32)
          · skip
            refine ownBy (A := s₁.setTop (fr_isi m c1 47  [(.int (1 : Int32))])) (fun t kt => ?_) ?_
            · refine XS.icmpNo X0.here hx rfl (hb hby d19_39) rfl (teq hc26).2 ?_
              show Steps p.tables e below (s₁.setTop (fr_isi m c1 42  [])) t
              refine XS.iconst X0.here hx rfl (hb hby d19_42) ?_
              show Steps p.tables e below (s₁.setTop (fr_isi m c1 43  [(.int (1 : Int32))])) t
              refine XS.goto X0.here hx rfl (pc0 := 43) (pc' := 47) rfl (hb hby d19_43) (by decide) (by decide) ?_
              exact kt
            refine ownRet X0 Bd.notSynchronized (v := some (.int (nar .boolean (1 : Int32)))) (fun h => by rw [Bd.returns] at h; cases h) ?_ (Nat.le_of_ble_eq_true rfl) (Nat.le_of_ble_eq_true rfl) (fun fs hr => retN X0 hx (t := .boolean) Bd.returns (by simp) (hb hby d19_47) hr)
            show (Q_isi Z c1 h0 n0) (some (.int (nar .boolean (1 : Int32)))) s₁.heap _
            rw [e0]
            exact ⟨rfl, N0, rfl⟩
          · skip
            refine ownBy (A := s₁.setTop (fr_isi m c1 47  [(.int (0 : Int32))])) (fun t kt => ?_) ?_
            · refine XS.icmpYes X0.here hx rfl (pc0 := 39) (pc' := 46) rfl (hb hby d19_39) rfl (feq hc26).2 (by decide) (by decide) ?_
              show Steps p.tables e below (s₁.setTop (fr_isi m c1 46  [])) t
              refine XS.iconst X0.here hx rfl (hb hby d19_46) ?_
              exact kt
            refine ownRet X0 Bd.notSynchronized (v := some (.int (nar .boolean (0 : Int32)))) (fun h => by rw [Bd.returns] at h; cases h) ?_ (Nat.le_of_ble_eq_true rfl) (Nat.le_of_ble_eq_true rfl) (fun fs hr => retN X0 hx (t := .boolean) Bd.returns (by simp) (hb hby d19_47) hr)
            show (Q_isi Z c1 h0 n0) (some (.int (nar .boolean (0 : Int32)))) s₁.heap _
            rw [e0]
            exfalso
            have e97 : (97 : Int32).toInt = 97 := rfl
            have e122 : (122 : Int32).toInt = 122 := rfl
            have e65 : (65 : Int32).toInt = 65 := rfl
            have e90 : (90 : Int32).toInt = 90 := rfl
            have e48 : (48 : Int32).toInt = 48 := rfl
            have e57 : (57 : Int32).toInt = 57 := rfl
            have e95 : (95 : Int32).toInt = 95 := rfl
            simp only [ownId, Int32.lt_iff_toInt_lt, ← Int32.toInt_inj] at hid hc12 hc23 hc24 hc25 hc26
            omega
        · skip
          refine ownBy (A := s₁.setTop (fr_isi m c1 33  [(.int (57 : Int32)), (.int c1)])) (fun t kt => ?_) ?_
          · refine XS.icmpNo X0.here hx rfl (hb hby d19_27) rfl (flt hc25).1 ?_
            show Steps p.tables e below (s₁.setTop (fr_isi m c1 30  [])) t
            refine XS.iloadN X0.here hx rfl (hb hby d19_30) rfl ?_
            show Steps p.tables e below (s₁.setTop (fr_isi m c1 31  [(.int c1)])) t
            refine XS.bipush X0.here hx rfl (hb hby d19_31) ?_
            exact kt
          by_cases hc27 : (57 : Int32) < c1
          · skip
            refine ownBy (A := s₁.setTop (fr_isi m c1 39  [(.int (95 : Int32)), (.int c1)])) (fun t kt => ?_) ?_
            · refine XS.icmpNo X0.here hx rfl (hb hby d19_33) rfl (tlt hc27).2.2.2 ?_
              show Steps p.tables e below (s₁.setTop (fr_isi m c1 36  [])) t
              refine XS.iloadN X0.here hx rfl (hb hby d19_36) rfl ?_
              show Steps p.tables e below (s₁.setTop (fr_isi m c1 37  [(.int c1)])) t
              refine XS.bipush X0.here hx rfl (hb hby d19_37) ?_
              exact kt
            by_cases hc28 : c1 = (95 : Int32)
            · skip
              refine ownBy (A := s₁.setTop (fr_isi m c1 47  [(.int (1 : Int32))])) (fun t kt => ?_) ?_
              · refine XS.icmpNo X0.here hx rfl (hb hby d19_39) rfl (teq hc28).2 ?_
                show Steps p.tables e below (s₁.setTop (fr_isi m c1 42  [])) t
                refine XS.iconst X0.here hx rfl (hb hby d19_42) ?_
                show Steps p.tables e below (s₁.setTop (fr_isi m c1 43  [(.int (1 : Int32))])) t
                refine XS.goto X0.here hx rfl (pc0 := 43) (pc' := 47) rfl (hb hby d19_43) (by decide) (by decide) ?_
                exact kt
              refine ownRet X0 Bd.notSynchronized (v := some (.int (nar .boolean (1 : Int32)))) (fun h => by rw [Bd.returns] at h; cases h) ?_ (Nat.le_of_ble_eq_true rfl) (Nat.le_of_ble_eq_true rfl) (fun fs hr => retN X0 hx (t := .boolean) Bd.returns (by simp) (hb hby d19_47) hr)
              show (Q_isi Z c1 h0 n0) (some (.int (nar .boolean (1 : Int32)))) s₁.heap _
              rw [e0]
              exact ⟨rfl, N0, rfl⟩
            · skip
              refine ownBy (A := s₁.setTop (fr_isi m c1 47  [(.int (0 : Int32))])) (fun t kt => ?_) ?_
              · refine XS.icmpYes X0.here hx rfl (pc0 := 39) (pc' := 46) rfl (hb hby d19_39) rfl (feq hc28).2 (by decide) (by decide) ?_
                show Steps p.tables e below (s₁.setTop (fr_isi m c1 46  [])) t
                refine XS.iconst X0.here hx rfl (hb hby d19_46) ?_
                exact kt
              refine ownRet X0 Bd.notSynchronized (v := some (.int (nar .boolean (0 : Int32)))) (fun h => by rw [Bd.returns] at h; cases h) ?_ (Nat.le_of_ble_eq_true rfl) (Nat.le_of_ble_eq_true rfl) (fun fs hr => retN X0 hx (t := .boolean) Bd.returns (by simp) (hb hby d19_47) hr)
              show (Q_isi Z c1 h0 n0) (some (.int (nar .boolean (0 : Int32)))) s₁.heap _
              rw [e0]
              exfalso
              have e97 : (97 : Int32).toInt = 97 := rfl
              have e122 : (122 : Int32).toInt = 122 := rfl
              have e65 : (65 : Int32).toInt = 65 := rfl
              have e90 : (90 : Int32).toInt = 90 := rfl
              have e48 : (48 : Int32).toInt = 48 := rfl
              have e57 : (57 : Int32).toInt = 57 := rfl
              have e95 : (95 : Int32).toInt = 95 := rfl
              simp only [ownId, Int32.lt_iff_toInt_lt, ← Int32.toInt_inj] at hid hc12 hc23 hc24 hc25 hc27 hc28
              omega
          · skip
            refine ownBy (A := s₁.setTop (fr_isi m c1 47  [(.int (1 : Int32))])) (fun t kt => ?_) ?_
            · refine XS.icmpYes X0.here hx rfl (pc0 := 33) (pc' := 42) rfl (hb hby d19_33) rfl (flt hc27).2.2.2 (by decide) (by decide) ?_
              show Steps p.tables e below (s₁.setTop (fr_isi m c1 42  [])) t
              refine XS.iconst X0.here hx rfl (hb hby d19_42) ?_
              show Steps p.tables e below (s₁.setTop (fr_isi m c1 43  [(.int (1 : Int32))])) t
              refine XS.goto X0.here hx rfl (pc0 := 43) (pc' := 47) rfl (hb hby d19_43) (by decide) (by decide) ?_
              exact kt
            refine ownRet X0 Bd.notSynchronized (v := some (.int (nar .boolean (1 : Int32)))) (fun h => by rw [Bd.returns] at h; cases h) ?_ (Nat.le_of_ble_eq_true rfl) (Nat.le_of_ble_eq_true rfl) (fun fs hr => retN X0 hx (t := .boolean) Bd.returns (by simp) (hb hby d19_47) hr)
            show (Q_isi Z c1 h0 n0) (some (.int (nar .boolean (1 : Int32)))) s₁.heap _
            rw [e0]
            exact ⟨rfl, N0, rfl⟩
      · skip
        refine ownBy (A := s₁.setTop (fr_isi m c1 21  [(.int (90 : Int32)), (.int c1)])) (fun t kt => ?_) ?_
        · refine XS.icmpNo X0.here hx rfl (hb hby d19_15) rfl (flt hc24).1 ?_
          show Steps p.tables e below (s₁.setTop (fr_isi m c1 18  [])) t
          refine XS.iloadN X0.here hx rfl (hb hby d19_18) rfl ?_
          show Steps p.tables e below (s₁.setTop (fr_isi m c1 19  [(.int c1)])) t
          refine XS.bipush X0.here hx rfl (hb hby d19_19) ?_
          exact kt
        by_cases hc29 : (90 : Int32) < c1
        · skip
          refine ownBy (A := s₁.setTop (fr_isi m c1 27  [(.int (48 : Int32)), (.int c1)])) (fun t kt => ?_) ?_
          · refine XS.icmpNo X0.here hx rfl (hb hby d19_21) rfl (tlt hc29).2.2.2 ?_
            show Steps p.tables e below (s₁.setTop (fr_isi m c1 24  [])) t
            refine XS.iloadN X0.here hx rfl (hb hby d19_24) rfl ?_
            show Steps p.tables e below (s₁.setTop (fr_isi m c1 25  [(.int c1)])) t
            refine XS.bipush X0.here hx rfl (hb hby d19_25) ?_
            exact kt
          by_cases hc30 : c1 < (48 : Int32)
          · skip
            refine ownBy (A := s₁.setTop (fr_isi m c1 39  [(.int (95 : Int32)), (.int c1)])) (fun t kt => ?_) ?_
            · refine XS.icmpYes X0.here hx rfl (pc0 := 27) (pc' := 36) rfl (hb hby d19_27) rfl (tlt hc30).1 (by decide) (by decide) ?_
              show Steps p.tables e below (s₁.setTop (fr_isi m c1 36  [])) t
              refine XS.iloadN X0.here hx rfl (hb hby d19_36) rfl ?_
              show Steps p.tables e below (s₁.setTop (fr_isi m c1 37  [(.int c1)])) t
              refine XS.bipush X0.here hx rfl (hb hby d19_37) ?_
              exact kt
            by_cases hc31 : c1 = (95 : Int32)
            · skip
              refine ownBy (A := s₁.setTop (fr_isi m c1 47  [(.int (1 : Int32))])) (fun t kt => ?_) ?_
              · refine XS.icmpNo X0.here hx rfl (hb hby d19_39) rfl (teq hc31).2 ?_
                show Steps p.tables e below (s₁.setTop (fr_isi m c1 42  [])) t
                refine XS.iconst X0.here hx rfl (hb hby d19_42) ?_
                show Steps p.tables e below (s₁.setTop (fr_isi m c1 43  [(.int (1 : Int32))])) t
                refine XS.goto X0.here hx rfl (pc0 := 43) (pc' := 47) rfl (hb hby d19_43) (by decide) (by decide) ?_
                exact kt
              refine ownRet X0 Bd.notSynchronized (v := some (.int (nar .boolean (1 : Int32)))) (fun h => by rw [Bd.returns] at h; cases h) ?_ (Nat.le_of_ble_eq_true rfl) (Nat.le_of_ble_eq_true rfl) (fun fs hr => retN X0 hx (t := .boolean) Bd.returns (by simp) (hb hby d19_47) hr)
              show (Q_isi Z c1 h0 n0) (some (.int (nar .boolean (1 : Int32)))) s₁.heap _
              rw [e0]
              exact ⟨rfl, N0, rfl⟩
            · skip
              refine ownBy (A := s₁.setTop (fr_isi m c1 47  [(.int (0 : Int32))])) (fun t kt => ?_) ?_
              · refine XS.icmpYes X0.here hx rfl (pc0 := 39) (pc' := 46) rfl (hb hby d19_39) rfl (feq hc31).2 (by decide) (by decide) ?_
                show Steps p.tables e below (s₁.setTop (fr_isi m c1 46  [])) t
                refine XS.iconst X0.here hx rfl (hb hby d19_46) ?_
                exact kt
              refine ownRet X0 Bd.notSynchronized (v := some (.int (nar .boolean (0 : Int32)))) (fun h => by rw [Bd.returns] at h; cases h) ?_ (Nat.le_of_ble_eq_true rfl) (Nat.le_of_ble_eq_true rfl) (fun fs hr => retN X0 hx (t := .boolean) Bd.returns (by simp) (hb hby d19_47) hr)
              show (Q_isi Z c1 h0 n0) (some (.int (nar .boolean (0 : Int32)))) s₁.heap _
              rw [e0]
              exfalso
              have e97 : (97 : Int32).toInt = 97 := rfl
              have e122 : (122 : Int32).toInt = 122 := rfl
              have e65 : (65 : Int32).toInt = 65 := rfl
              have e90 : (90 : Int32).toInt = 90 := rfl
              have e48 : (48 : Int32).toInt = 48 := rfl
              have e57 : (57 : Int32).toInt = 57 := rfl
              have e95 : (95 : Int32).toInt = 95 := rfl
              simp only [ownId, Int32.lt_iff_toInt_lt, ← Int32.toInt_inj] at hid hc12 hc23 hc24 hc29 hc30 hc31
              omega
          · skip
            refine ownBy (A := s₁.setTop (fr_isi m c1 33  [(.int (57 : Int32)), (.int c1)])) (fun t kt => ?_) ?_
            · refine XS.icmpNo X0.here hx rfl (hb hby d19_27) rfl (flt hc30).1 ?_
              show Steps p.tables e below (s₁.setTop (fr_isi m c1 30  [])) t
              refine XS.iloadN X0.here hx rfl (hb hby d19_30) rfl ?_
              show Steps p.tables e below (s₁.setTop (fr_isi m c1 31  [(.int c1)])) t
              refine XS.bipush X0.here hx rfl (hb hby d19_31) ?_
              exact kt
            by_cases hc32 : (57 : Int32) < c1
            · skip
              refine ownBy (A := s₁.setTop (fr_isi m c1 39  [(.int (95 : Int32)), (.int c1)])) (fun t kt => ?_) ?_
              · refine XS.icmpNo X0.here hx rfl (hb hby d19_33) rfl (tlt hc32).2.2.2 ?_
                show Steps p.tables e below (s₁.setTop (fr_isi m c1 36  [])) t
                refine XS.iloadN X0.here hx rfl (hb hby d19_36) rfl ?_
                show Steps p.tables e below (s₁.setTop (fr_isi m c1 37  [(.int c1)])) t
                refine XS.bipush X0.here hx rfl (hb hby d19_37) ?_
                exact kt
              by_cases hc33 : c1 = (95 : Int32)
              · skip
                refine ownBy (A := s₁.setTop (fr_isi m c1 47  [(.int (1 : Int32))])) (fun t kt => ?_) ?_
                · refine XS.icmpNo X0.here hx rfl (hb hby d19_39) rfl (teq hc33).2 ?_
                  show Steps p.tables e below (s₁.setTop (fr_isi m c1 42  [])) t
                  refine XS.iconst X0.here hx rfl (hb hby d19_42) ?_
                  show Steps p.tables e below (s₁.setTop (fr_isi m c1 43  [(.int (1 : Int32))])) t
                  refine XS.goto X0.here hx rfl (pc0 := 43) (pc' := 47) rfl (hb hby d19_43) (by decide) (by decide) ?_
                  exact kt
                refine ownRet X0 Bd.notSynchronized (v := some (.int (nar .boolean (1 : Int32)))) (fun h => by rw [Bd.returns] at h; cases h) ?_ (Nat.le_of_ble_eq_true rfl) (Nat.le_of_ble_eq_true rfl) (fun fs hr => retN X0 hx (t := .boolean) Bd.returns (by simp) (hb hby d19_47) hr)
                show (Q_isi Z c1 h0 n0) (some (.int (nar .boolean (1 : Int32)))) s₁.heap _
                rw [e0]
                exact ⟨rfl, N0, rfl⟩
              · skip
                refine ownBy (A := s₁.setTop (fr_isi m c1 47  [(.int (0 : Int32))])) (fun t kt => ?_) ?_
                · refine XS.icmpYes X0.here hx rfl (pc0 := 39) (pc' := 46) rfl (hb hby d19_39) rfl (feq hc33).2 (by decide) (by decide) ?_
                  show Steps p.tables e below (s₁.setTop (fr_isi m c1 46  [])) t
                  refine XS.iconst X0.here hx rfl (hb hby d19_46) ?_
                  exact kt
                refine ownRet X0 Bd.notSynchronized (v := some (.int (nar .boolean (0 : Int32)))) (fun h => by rw [Bd.returns] at h; cases h) ?_ (Nat.le_of_ble_eq_true rfl) (Nat.le_of_ble_eq_true rfl) (fun fs hr => retN X0 hx (t := .boolean) Bd.returns (by simp) (hb hby d19_47) hr)
                show (Q_isi Z c1 h0 n0) (some (.int (nar .boolean (0 : Int32)))) s₁.heap _
                rw [e0]
                exfalso
                have e97 : (97 : Int32).toInt = 97 := rfl
                have e122 : (122 : Int32).toInt = 122 := rfl
                have e65 : (65 : Int32).toInt = 65 := rfl
                have e90 : (90 : Int32).toInt = 90 := rfl
                have e48 : (48 : Int32).toInt = 48 := rfl
                have e57 : (57 : Int32).toInt = 57 := rfl
                have e95 : (95 : Int32).toInt = 95 := rfl
                simp only [ownId, Int32.lt_iff_toInt_lt, ← Int32.toInt_inj] at hid hc12 hc23 hc24 hc29 hc30 hc32 hc33
                omega
            · skip
              refine ownBy (A := s₁.setTop (fr_isi m c1 47  [(.int (1 : Int32))])) (fun t kt => ?_) ?_
              · refine XS.icmpYes X0.here hx rfl (pc0 := 33) (pc' := 42) rfl (hb hby d19_33) rfl (flt hc32).2.2.2 (by decide) (by decide) ?_
                show Steps p.tables e below (s₁.setTop (fr_isi m c1 42  [])) t
                refine XS.iconst X0.here hx rfl (hb hby d19_42) ?_
                show Steps p.tables e below (s₁.setTop (fr_isi m c1 43  [(.int (1 : Int32))])) t
                refine XS.goto X0.here hx rfl (pc0 := 43) (pc' := 47) rfl (hb hby d19_43) (by decide) (by decide) ?_
                exact kt
              refine ownRet X0 Bd.notSynchronized (v := some (.int (nar .boolean (1 : Int32)))) (fun h => by rw [Bd.returns] at h; cases h) ?_ (Nat.le_of_ble_eq_true rfl) (Nat.le_of_ble_eq_true rfl) (fun fs hr => retN X0 hx (t := .boolean) Bd.returns (by simp) (hb hby d19_47) hr)
              show (Q_isi Z c1 h0 n0) (some (.int (nar .boolean (1 : Int32)))) s₁.heap _
              rw [e0]
              exact ⟨rfl, N0, rfl⟩
        · skip
          refine ownBy (A := s₁.setTop (fr_isi m c1 47  [(.int (1 : Int32))])) (fun t kt => ?_) ?_
          · refine XS.icmpYes X0.here hx rfl (pc0 := 21) (pc' := 42) rfl (hb hby d19_21) rfl (flt hc29).2.2.2 (by decide) (by decide) ?_
            show Steps p.tables e below (s₁.setTop (fr_isi m c1 42  [])) t
            refine XS.iconst X0.here hx rfl (hb hby d19_42) ?_
            show Steps p.tables e below (s₁.setTop (fr_isi m c1 43  [(.int (1 : Int32))])) t
            refine XS.goto X0.here hx rfl (pc0 := 43) (pc' := 47) rfl (hb hby d19_43) (by decide) (by decide) ?_
            exact kt
          refine ownRet X0 Bd.notSynchronized (v := some (.int (nar .boolean (1 : Int32)))) (fun h => by rw [Bd.returns] at h; cases h) ?_ (Nat.le_of_ble_eq_true rfl) (Nat.le_of_ble_eq_true rfl) (fun fs hr => retN X0 hx (t := .boolean) Bd.returns (by simp) (hb hby d19_47) hr)
          show (Q_isi Z c1 h0 n0) (some (.int (nar .boolean (1 : Int32)))) s₁.heap _
          rw [e0]
          exact ⟨rfl, N0, rfl⟩
    · skip
      refine ownBy (A := s₁.setTop (fr_isi m c1 47  [(.int (1 : Int32))])) (fun t kt => ?_) ?_
      · refine XS.icmpYes X0.here hx rfl (pc0 := 9) (pc' := 42) rfl (hb hby d19_9) rfl (flt hc23).2.2.2 (by decide) (by decide) ?_
        show Steps p.tables e below (s₁.setTop (fr_isi m c1 42  [])) t
        refine XS.iconst X0.here hx rfl (hb hby d19_42) ?_
        show Steps p.tables e below (s₁.setTop (fr_isi m c1 43  [(.int (1 : Int32))])) t
        refine XS.goto X0.here hx rfl (pc0 := 43) (pc' := 47) rfl (hb hby d19_43) (by decide) (by decide) ?_
        exact kt
      refine ownRet X0 Bd.notSynchronized (v := some (.int (nar .boolean (1 : Int32)))) (fun h => by rw [Bd.returns] at h; cases h) ?_ (Nat.le_of_ble_eq_true rfl) (Nat.le_of_ble_eq_true rfl) (fun fs hr => retN X0 hx (t := .boolean) Bd.returns (by simp) (hb hby d19_47) hr)
      show (Q_isi Z c1 h0 n0) (some (.int (nar .boolean (1 : Int32)))) s₁.heap _
      rw [e0]
      exact ⟨rfl, N0, rfl⟩
def Q_rnn (Z : State) (a1 : Addr) (a2 : Addr) (h0 : Heap) (n0 : Nat) (v : Option Value) (h : Heap) (L : List Loc) : Prop := v = some (.ref a1) ∧ Fr n0 L ∧ h = h0
theorem ef_rnn (m : MethodId) (x0 : Addr) (x1 : Addr)  : entryFrame m #[(.ref x0), (.ref x1)] 2 = mkF m 0 #[.val (.ref x0), .val (.ref x1)] [] := by first | (simp [entryFrame, mkF, argsToLocals, Value.category]; done) | rfl
set_option maxRecDepth 65536 in
set_option maxHeartbeats 40000000 in
theorem c_rnn (l : Launch) (Z : State) (a0 : Array Value) (hw : ∀ d ∈ tables_1, d.before a0 Z = true) (ws : List Jvm.Cond) (a1 : Addr) (a2 : Addr) (h0 : Heap) (n0 : Nat) (Z0 : n0 ≤ h0.size) :
    MetFree l (⟨"java/util/Objects", "requireNonNull", "(Ljava/lang/Object;Ljava/lang/String;)Ljava/lang/Object;"⟩ : MethodName) (head1 (Jvm.Cond.code (⟨"java/util/Objects", "requireNonNull", "(Ljava/lang/Object;Ljava/lang/String;)Ljava/lang/Object;"⟩ : MethodName) jdk_31_method_11_code 2 (some (.object "java/lang/Object")) :: ws) ({ frames := 0, cells := 0, slots := 0, locals := 0 } : Room)) (fun a U => a = #[(.ref a1), (.ref a2)] ∧ Z.Warmed39 U.vm ∧ U.heap = h0) (fun _ _ _ _ _ => True) (fun _ U o U' => ∃ v L, o = .returned v ∧ (Q_rnn Z a1 a2 h0 n0) v U'.heap L ∧ FrameEnd U o U' L ({ frames := 0, cells := 0, slots := 0, locals := 0 } : Room).cells ({ frames := 0, cells := 0, slots := 0, locals := 0 } : Room).slots) := by
  refine MetFree.of_bodySF (plainFor_of_name pn_34) hisR ?_
  intro p e s m args below meth c s₁ Bd hml0 hP hK
  obtain ⟨rfl, hZ, hHp⟩ := hP
  have hx := Bd.exec
  have hby := Bd.bytes
  have hml : c.maxLocals = 2 := hml0
  have hown : s.vm.findClass "java/util/Objects" = some m.cls := findClass_of_methodNamed Bd.named
  have hnm := (name_of_methodNamed Bd.named Bd.method).1
  have X0 : Stand p l e ({ frames := 0, cells := 0, slots := 0, locals := 0 } : Room) s m #[(.ref a1), (.ref a2)] below meth c s₁ [] 0 0 := Stand.of_body Bd
  have e0 : s₁.heap = h0 := by rw [← hHp, Bd.state]; rfl
  have N0 := Fr.nil n0
  refine ownOut (P := (Q_rnn Z a1 a2 h0 n0)) ?_
  refine ownBy (A := s₁.setTop (mkF m 0 #[.val (.ref a1), .val (.ref a2)] [])) (fun t k => castTop (ef_rnn m a1 a2) k) ?_
  refine ownBy (A := s₁.setTop (mkF m 14 #[.val (.ref a1), .val (.ref a2)] [(.ref a1)])) (fun t kt => ?_) ?_
  · refine XS.aloadN X0.here hx rfl (hb hby d10_0) rfl rfl ?_
    show Steps p.tables e below (s₁.setTop (mkF m 1 #[.val (.ref a1), .val (.ref a2)] [(.ref a1)])) t
    refine XS.ifnonnullYes X0.here hx rfl (pc0 := 1) (pc' := 13) rfl (hb hby d10_1) rfl (by decide) (by decide) ?_
    show Steps p.tables e below (s₁.setTop (mkF m 13 #[.val (.ref a1), .val (.ref a2)] [])) t
    refine XS.aloadN X0.here hx rfl (hb hby d10_13) rfl rfl ?_
    exact kt
  refine ownRet X0 Bd.notSynchronized (v := some (.ref a1)) (fun h => by rw [Bd.returns] at h; cases h) ?_ (Nat.le_of_ble_eq_true rfl) (Nat.le_of_ble_eq_true rfl) (fun fs hr => retOut X0 hx Bd.returns rfl (Or.inr (Or.inr (Or.inr (Or.inr ⟨rfl, rfl, rfl⟩)))) (hb hby d10_14) hr)
  show (Q_rnn Z a1 a2 h0 n0) (some (.ref a1)) s₁.heap _
  rw [e0]
  exact ⟨rfl, N0, rfl⟩
abbrev fr_ein (m : MethodId) (a1 : Addr) (a2 : Addr) (pc : Nat)  (st : List Value) : JFrame := mkF m pc #[.val (.ref a1), .val (.ref a2)] st
def Q_ein (Z : State) (a1 : Addr) (a2 : Addr) (d0 : Value) (h0 : Heap) (n0 : Nat) (v : Option Value) (h : Heap) (L : List Loc) : Prop := v = none ∧ Fr n0 L ∧ Keep h0 h [a1] ∧ Fld Z h a1 "com/example/boring_outbox/boringoutbox/EventType" "name" "Ljava/lang/String;" (.ref a2)
theorem ef_ein (m : MethodId) (x0 : Addr) (x1 : Addr)  : entryFrame m #[(.ref x0), (.ref x1)] 2 = mkF m 0 #[.val (.ref x0), .val (.ref x1)] [] := by first | (simp [entryFrame, mkF, argsToLocals, Value.category]; done) | rfl
set_option maxRecDepth 65536 in
set_option maxHeartbeats 40000000 in
theorem c_ein (l : Launch) (Z : State) (a0 : Array Value) (hw : ∀ d ∈ tables_1, d.before a0 Z = true) (ws : List Jvm.Cond) (a1 : Addr) (a2 : Addr) (d0 : Value) (h0 : Heap) (n0 : Nat) (Z0 : n0 ≤ h0.size) (E1 : Exa Z h0 a1 "com/example/boring_outbox/boringoutbox/EventType") (F1 : Fld Z h0 a1 "com/example/boring_outbox/boringoutbox/EventType" "name" "Ljava/lang/String;" d0) (g1 : n0 ≤ a1) :
    MetFree l (⟨"com/example/boring_outbox/boringoutbox/EventType", "<init>", "(Ljava/lang/String;)V"⟩ : MethodName) (head1 (Jvm.Cond.code (⟨"com/example/boring_outbox/boringoutbox/EventType", "<init>", "(Ljava/lang/String;)V"⟩ : MethodName) prog_15_method_1_code 2 none :: ws) ({ frames := 1, cells := 0, slots := 0, locals := 12 } : Room)) (fun a U => a = #[(.ref a1), (.ref a2)] ∧ Z.Warmed39 U.vm ∧ U.heap = h0) (fun _ _ _ _ _ => True) (fun _ U o U' => ∃ v L, o = .returned v ∧ (Q_ein Z a1 a2 d0 h0 n0) v U'.heap L ∧ FrameEnd U o U' L ({ frames := 1, cells := 0, slots := 0, locals := 12 } : Room).cells ({ frames := 1, cells := 0, slots := 0, locals := 12 } : Room).slots) := by
  refine MetFree.of_bodySF (plainFor_of_name pn_11) hisR ?_
  intro p e s m args below meth c s₁ Bd hml0 hP hK
  obtain ⟨rfl, hZ, hHp⟩ := hP
  have hx := Bd.exec
  have hby := Bd.bytes
  have hml : c.maxLocals = 2 := hml0
  have hown : s.vm.findClass "com/example/boring_outbox/boringoutbox/EventType" = some m.cls := findClass_of_methodNamed Bd.named
  have hnm := (name_of_methodNamed Bd.named Bd.method).1
  have X0 : Stand p l e ({ frames := 1, cells := 0, slots := 0, locals := 12 } : Room) s m #[(.ref a1), (.ref a2)] below meth c s₁ [] 0 0 := Stand.of_body Bd
  have e0 : s₁.heap = h0 := by rw [← hHp, Bd.state]; rfl
  have N0 := Fr.nil n0
  refine ownOut (P := (Q_ein Z a1 a2 d0 h0 n0)) ?_
  refine ownBy (A := s₁.setTop (mkF m 0 #[.val (.ref a1), .val (.ref a2)] [])) (fun t k => castTop (ef_ein m a1 a2) k) ?_
  refine ownBy (A := s₁.setTop (fr_ein m a1 a2 1  [(.ref a1)])) (fun t kt => ?_) ?_
  · refine XS.aloadN X0.here hx rfl (hb hby d20_0) rfl rfl ?_
    exact kt
  obtain ⟨T35, X35, e35, st35⟩ := initO X0 hx hZ hown (Wd94 hw) (Wd20 hw) (Wd21 hw) e0 (g := (fr_ein m a1 a2 1  [(.ref a1)])) rfl (by rw [hml]; rfl) rfl (hb hby d20_1) (by decide) (W := 0) (by show 2 * 0 + _ ≤ _; exact Nat.le_of_eq rfl) (by decide)
  refine ownBy st35 ?_
  clear st35
  show ownG p.tables e below _ (T35.setTop (fr_ein m a1 a2 4  []))
  refine ownBy (A := T35.setTop (fr_ein m a1 a2 6  [(.ref a2), (.ref a1)])) (fun t kt => ?_) ?_
  · refine XS.aloadN X35.here hx rfl (hb hby d20_4) rfl rfl ?_
    show Steps p.tables e below (T35.setTop (fr_ein m a1 a2 5  [(.ref a1)])) t
    refine XS.aloadN X35.here hx rfl (hb hby d20_5) rfl rfl ?_
    exact kt
  obtain ⟨T36, h36, X36, e36, W36, st36⟩ := putF X35 hx hZ hown (host := "") (Or.inl (Wd95 hw)) Via.refl e35 F1 E1 (Or.inr ⟨(Wd96 hw), rfl, hnm⟩) (Wd90 hw) (ty := (.object "java/lang/String")) (by decide) rfl rfl (g := (fr_ein m a1 a2 6  [(.ref a2), (.ref a1)])) rfl rfl (hb hby d20_6)
  have F37 := F1.same W36
  have N38 := Fr.snoc X36 N0 g1
  obtain ⟨Lh39, Xh39, Nh39⟩ := own_hide (cells' := 0) (slots' := 0) X36 N38 (Nat.le_of_ble_eq_true rfl) (Nat.le_of_ble_eq_true rfl)
  refine ownBy st36 ?_
  clear st36
  show ownG p.tables e below _ (T36.setTop (fr_ein m a1 a2 9  []))
  have f40 := ((Keep.refl h0 [a1]).wr W36 (Or.inl (List.mem_of_getElem? (i := 0) rfl)))
  refine ownRet Xh39 Bd.notSynchronized (v := none) (fun _ => rfl) ?_ (Nat.le_of_ble_eq_true rfl) (Nat.le_of_ble_eq_true rfl) (fun fs hr => Xh39.returnOut hx Bd.returns (hb hby d20_9) hr)
  show (Q_ein Z a1 a2 d0 h0 n0) (none) T36.heap _
  rw [e36]
  exact ⟨rfl, Nh39, f40, F37⟩
def Q_gname (Z : State) (a1 : Addr) (u : Value) (h0 : Heap) (n0 : Nat) (v : Option Value) (h : Heap) (L : List Loc) : Prop := v = some u ∧ Fr n0 L ∧ h = h0
theorem ef_gname (m : MethodId) (x0 : Addr)  : entryFrame m #[(.ref x0)] 1 = mkF m 0 #[.val (.ref x0)] [] := by first | (simp [entryFrame, mkF, argsToLocals, Value.category]; done) | rfl
set_option maxRecDepth 65536 in
set_option maxHeartbeats 40000000 in
theorem c_gname (l : Launch) (Z : State) (a0 : Array Value) (hw : ∀ d ∈ tables_1, d.before a0 Z = true) (ws : List Jvm.Cond) (a1 : Addr) (u : Value) (h0 : Heap) (n0 : Nat) (Z0 : n0 ≤ h0.size) (F1 : Fld Z h0 a1 "com/example/boring_outbox/boringoutbox/EventType" "name" "Ljava/lang/String;" u) (hu : u.isRef = true) :
    MetFree l (⟨"com/example/boring_outbox/boringoutbox/EventType", "name", "()Ljava/lang/String;"⟩ : MethodName) (head1 (Jvm.Cond.code (⟨"com/example/boring_outbox/boringoutbox/EventType", "name", "()Ljava/lang/String;"⟩ : MethodName) prog_15_method_3_code 1 (some (.object "java/lang/String")) :: ws) ({ frames := 0, cells := 0, slots := 0, locals := 0 } : Room)) (fun a U => a = #[(.ref a1)] ∧ Z.Warmed39 U.vm ∧ U.heap = h0) (fun _ _ _ _ _ => True) (fun _ U o U' => ∃ v L, o = .returned v ∧ (Q_gname Z a1 u h0 n0) v U'.heap L ∧ FrameEnd U o U' L ({ frames := 0, cells := 0, slots := 0, locals := 0 } : Room).cells ({ frames := 0, cells := 0, slots := 0, locals := 0 } : Room).slots) := by
  refine MetFree.of_bodySF (plainFor_of_name pn_11) hisR ?_
  intro p e s m args below meth c s₁ Bd hml0 hP hK
  obtain ⟨rfl, hZ, hHp⟩ := hP
  have hx := Bd.exec
  have hby := Bd.bytes
  have hml : c.maxLocals = 1 := hml0
  have hown : s.vm.findClass "com/example/boring_outbox/boringoutbox/EventType" = some m.cls := findClass_of_methodNamed Bd.named
  have hnm := (name_of_methodNamed Bd.named Bd.method).1
  have X0 : Stand p l e ({ frames := 0, cells := 0, slots := 0, locals := 0 } : Room) s m #[(.ref a1)] below meth c s₁ [] 0 0 := Stand.of_body Bd
  have e0 : s₁.heap = h0 := by rw [← hHp, Bd.state]; rfl
  have N0 := Fr.nil n0
  refine ownOut (P := (Q_gname Z a1 u h0 n0)) ?_
  refine ownBy (A := s₁.setTop (mkF m 0 #[.val (.ref a1)] [])) (fun t k => castTop (ef_gname m a1) k) ?_
  refine ownBy (A := s₁.setTop (mkF m 1 #[.val (.ref a1)] [(.ref a1)])) (fun t kt => ?_) ?_
  · refine XS.aloadN X0.here hx rfl (hb hby d21_0) rfl rfl ?_
    exact kt
  refine own_getF X0 hx hZ hown (host := "") (Or.inl (Wd95 hw)) Via.refl e0 F1 (hb hby d21_1) (fun T41 X41 e41 => ?_)
  refine ownRet X41 Bd.notSynchronized (v := some u) (fun h => by rw [Bd.returns] at h; cases h) ?_ (Nat.le_of_ble_eq_true rfl) (Nat.le_of_ble_eq_true rfl) (fun fs hr => retOut X41 hx Bd.returns (own_narrow rfl hu) (Or.inr (Or.inr (Or.inr (Or.inr ⟨rfl, rfl, hu⟩)))) (hb hby d21_4) hr)
  show (Q_gname Z a1 u h0 n0) (some u) T41.heap _
  rw [e41]
  exact ⟨rfl, N0, rfl⟩
abbrev fr_eqs (m : MethodId) (a1 : Addr) (pc : Nat)  (st : List Value) : JFrame := mkF m pc #[.val (.ref a1), .val (.ref a1), .unset] st
def Q_eqs (Z : State) (a1 : Addr) (h0 : Heap) (n0 : Nat) (v : Option Value) (h : Heap) (L : List Loc) : Prop := v = some (.int (1 : Int32)) ∧ Fr n0 L ∧ h = h0
theorem ef_eqs (m : MethodId) (x0 : Addr) (x1 : Addr)  : entryFrame m #[(.ref x0), (.ref x1)] 3 = mkF m 0 #[.val (.ref x0), .val (.ref x1), .unset] [] := by first | (simp [entryFrame, mkF, argsToLocals, Value.category]; done) | rfl
set_option maxRecDepth 65536 in
set_option maxHeartbeats 40000000 in
theorem c_eqs (l : Launch) (Z : State) (a0 : Array Value) (hw : ∀ d ∈ tables_1, d.before a0 Z = true) (ws : List Jvm.Cond) (a1 : Addr) (h0 : Heap) (n0 : Nat) (Z0 : n0 ≤ h0.size) :
    MetFree l (⟨"java/lang/String", "equals", "(Ljava/lang/Object;)Z"⟩ : MethodName) (head1 (Jvm.Cond.code (⟨"java/lang/String", "equals", "(Ljava/lang/Object;)Z"⟩ : MethodName) jdk_42_method_66_code 3 (some .boolean) :: ws) ({ frames := 0, cells := 0, slots := 0, locals := 0 } : Room)) (fun a U => a = #[(.ref a1), (.ref a1)] ∧ Z.Warmed39 U.vm ∧ U.heap = h0) (fun _ _ _ _ _ => True) (fun _ U o U' => ∃ v L, o = .returned v ∧ (Q_eqs Z a1 h0 n0) v U'.heap L ∧ FrameEnd U o U' L ({ frames := 0, cells := 0, slots := 0, locals := 0 } : Room).cells ({ frames := 0, cells := 0, slots := 0, locals := 0 } : Room).slots) := by
  refine MetFree.of_bodySF (plainFor_of_name pn_42) hisR ?_
  intro p e s m args below meth c s₁ Bd hml0 hP hK
  obtain ⟨rfl, hZ, hHp⟩ := hP
  have hx := Bd.exec
  have hby := Bd.bytes
  have hml : c.maxLocals = 3 := hml0
  have hown : s.vm.findClass "java/lang/String" = some m.cls := findClass_of_methodNamed Bd.named
  have hnm := (name_of_methodNamed Bd.named Bd.method).1
  have X0 : Stand p l e ({ frames := 0, cells := 0, slots := 0, locals := 0 } : Room) s m #[(.ref a1), (.ref a1)] below meth c s₁ [] 0 0 := Stand.of_body Bd
  have e0 : s₁.heap = h0 := by rw [← hHp, Bd.state]; rfl
  have N0 := Fr.nil n0
  refine ownOut (P := (Q_eqs Z a1 h0 n0)) ?_
  refine ownBy (A := s₁.setTop (mkF m 0 #[.val (.ref a1), .val (.ref a1), .unset] [])) (fun t k => castTop (ef_eqs m a1 a1) k) ?_
  refine ownBy (A := s₁.setTop (fr_eqs m a1 6  [(.int (1 : Int32))])) (fun t kt => ?_) ?_
  · refine XS.aloadN X0.here hx rfl (hb hby d22_0) rfl rfl ?_
    show Steps p.tables e below (s₁.setTop (fr_eqs m a1 1  [(.ref a1)])) t
    refine XS.aloadN X0.here hx rfl (hb hby d22_1) rfl rfl ?_
    show Steps p.tables e below (s₁.setTop (fr_eqs m a1 2  [(.ref a1), (.ref a1)])) t
    refine Jvm.RoadKit.acmp (g := (fr_eqs m a1 2  [(.ref a1), (.ref a1)])) X0 hx rfl rfl rfl (pc0 := 2) (pc' := 5) (same := true) rfl (hb hby d22_2) rfl (decide_eq_true rfl) (by decide) (by decide) ?_
    show Steps p.tables e below (s₁.setTop (fr_eqs m a1 5  [])) t
    refine XS.iconst X0.here hx rfl (hb hby d22_5) ?_
    exact kt
  refine ownRet X0 Bd.notSynchronized (v := some (.int (nar .boolean (1 : Int32)))) (fun h => by rw [Bd.returns] at h; cases h) ?_ (Nat.le_of_ble_eq_true rfl) (Nat.le_of_ble_eq_true rfl) (fun fs hr => retN X0 hx (t := .boolean) Bd.returns (by simp) (hb hby d22_6) hr)
  show (Q_eqs Z a1 h0 n0) (some (.int (nar .boolean (1 : Int32)))) s₁.heap _
  rw [e0]
  exact ⟨rfl, N0, rfl⟩
abbrev fr_of1 (m : MethodId) (a1 : Addr) (pc : Nat) (x1_ x2_ : Slot) (st : List Value) : JFrame := mkF m pc #[.val (.ref a1), x1_, x2_] st
def Q_of1 (Z : State) (a1 : Addr) (t1 : Addr) (kb1 : ClassId) (c0 : Int32) (G1 : Int32) (G3 : Value) (h0 : Heap) (n0 : Nat) (v : Option Value) (h : Heap) (L : List Loc) : Prop := ∃ x : Addr, v = some (.ref x) ∧ Fr n0 L ∧ Keep h0 h [] ∧ h0.size ≤ x ∧ Exa Z h x "com/example/boring_outbox/boringoutbox/EventType" ∧ Fld Z h x "com/example/boring_outbox/boringoutbox/EventType" "name" "Ljava/lang/String;" (.ref a1)
theorem ef_of1 (m : MethodId) (x0 : Addr)  : entryFrame m #[(.ref x0)] 3 = mkF m 0 #[.val (.ref x0), .unset, .unset] [] := by first | (simp [entryFrame, mkF, argsToLocals, Value.category]; done) | rfl
set_option maxRecDepth 65536 in
set_option maxHeartbeats 40000000 in
theorem c_of1 (l : Launch) (Z : State) (a0 : Array Value) (hw : ∀ d ∈ tables_1, d.before a0 Z = true) (ws : List Jvm.Cond) (a1 : Addr) (t1 : Addr) (kb1 : ClassId) (c0 : Int32) (G1 : Int32) (G3 : Value) (h0 : Heap) (n0 : Nat) (Z0 : n0 ≤ h0.size) (Es : Exa Z h0 a1 "java/lang/String") (Vs : Fld Z h0 a1 "java/lang/String" "value" "[B" (.ref t1)) (Cs : Fld Z h0 a1 "java/lang/String" "coder" "B" (.int (0 : Int32))) (Ks : Arv Z h0 t1 kb1 .byte (1 : Int32) ((([c0] : List Int32).map (fun c => c.toInt8.toInt32)).map Value.int) (.int (0 : Int32))) (hp : ∀ c ∈ ([c0] : List Int32), ¬ c < 0 ∧ ¬ (255 : Int32) < c) (hi0 : c0 = 46 ∨ ownId c0) (hn0 : ¬ (c0 = (46 : Int32))) (O2 : Sta Z Z.heap "java/lang/String" "COMPACT_STRINGS" "Z" (.int G1)) (P5 : ¬ (G1 = (0 : Int32))) (X00 : Old Z n0 h0) (O4 : Sta Z Z.heap "jdk/internal/util/Preconditions" "SIOOBE_FORMATTER" "Ljava/util/function/BiFunction;" G3) (rG3 : G3.isRef = true) :
    MetFree l (⟨"com/example/boring_outbox/boringoutbox/EventType", "of", "(Ljava/lang/String;)Lcom/example/boring_outbox/boringoutbox/EventType;"⟩ : MethodName) (head1 (Jvm.Cond.code (⟨"com/example/boring_outbox/boringoutbox/EventType", "of", "(Ljava/lang/String;)Lcom/example/boring_outbox/boringoutbox/EventType;"⟩ : MethodName) prog_15_method_2_code 3 (some (.object "com/example/boring_outbox/boringoutbox/EventType")) :: ws) ({ frames := 4, cells := 3, slots := 77, locals := 66 } : Room)) (fun a U => a = #[(.ref a1)] ∧ Z.Warmed39 U.vm ∧ U.heap = h0 ∧ CHv Z ownEL U.vm h0) (fun _ _ _ _ _ => True) (fun _ U o U' => ∃ v L, o = .returned v ∧ (Q_of1 Z a1 t1 kb1 c0 G1 G3 h0 n0) v U'.heap L ∧ CHr Z ownEL U.vm U.heap U'.vm U'.heap ∧ ReturnedEndW U o U' L ({ frames := 4, cells := 3, slots := 77, locals := 66 } : Room).cells ({ frames := 4, cells := 3, slots := 77, locals := 66 } : Room).slots) := by
  refine MetFree.of_bodySF (plainFor_of_name pn_11) hisR ?_
  intro p e s m args below meth c s₁ Bd hml0 hP hK
  obtain ⟨rfl, hZ, hHp, hCH⟩ := hP
  have hx := Bd.exec
  have hby := Bd.bytes
  have hml : c.maxLocals = 3 := hml0
  have hown : s.vm.findClass "com/example/boring_outbox/boringoutbox/EventType" = some m.cls := findClass_of_methodNamed Bd.named
  have hnm := (name_of_methodNamed Bd.named Bd.method).1
  have X0 : Stand p l e ({ frames := 4, cells := 3, slots := 77, locals := 66 } : Room) (s.setVm s.vm) m #[(.ref a1)] below meth c s₁ [] 0 0 := Stand.of_body Bd
  have e0 : s₁.heap = h0 := by rw [← hHp, Bd.state]; rfl
  have N0 := Fr.nil n0
  refine ownOutH hHp (P := (Q_of1 Z a1 t1 kb1 c0 G1 G3 h0 n0)) ?_
  refine ownBy (A := s₁.setTop (mkF m 0 #[.val (.ref a1), .unset, .unset] [])) (fun t k => castTop (ef_of1 m a1) k) ?_
  have hS0 : s.Since s.vm h0.size := own_since
  have hEL := own_EW hw
  have R0 := CHr.refl hCH
  have wS := own_wS hw
  have hln : ∀ d ∈ StrChars.Road.wordsLen, d.before a0 Z = true := fun d hd => hw d ((by decide +kernel : ∀ d ∈ StrChars.Road.wordsLen, d ∈ tables_1) d hd)
  have hem : ∀ d ∈ StrChars.Road.wordsEmp, d.before a0 Z = true := fun d hd => hw d ((by decide +kernel : ∀ d ∈ StrChars.Road.wordsEmp, d ∈ tables_1) d hd)
  have hch : ∀ d ∈ StrChars.Road.wordsChN, d.before a0 Z = true := fun d hd => hw d ((by decide +kernel : ∀ d ∈ StrChars.Road.wordsChN, d ∈ tables_1) d hd)
  refine ownBy (A := s₁.setTop (fr_of1 m a1 1 .unset .unset [(.ref a1)])) (fun t kt => ?_) ?_
  · refine XS.aloadN X0.here hx rfl (hb hby d9_0) rfl rfl ?_
    exact kt
  obtain ⟨a43, T43, h43, k43, X43, e43, E43, hS43, hk43, hZ43, hown43, hC43, Lt43, st43⟩ := ldcOH (text := "event type is null") X0 hx hZ hown (Wd42 hw) wS e0 hS0 (Nat.le_refl _) hEL R0.1 (g := (fr_of1 m a1 1 .unset .unset [(.ref a1)])) rfl (hb hby d9_1) (n := 72) (by decide) (by decide) (by decide) (by decide)
  have R45 := R0.trans hC43
  refine ownBy st43 ?_
  clear st43
  show ownG p.tables e below _ (T43.setTop (fr_of1 m a1 3 .unset .unset [(.ref a43), (.ref a1)]))
  have f46 := (Nat.le_trans Z0 E43.1)
  obtain ⟨vv47, _, ⟨T47, L47, k47, n47⟩, -, X47, ⟨Lc47, hQ47, l47, y47, z47⟩, st47⟩ := Jvm.LawKit.callS X43 hx (y := (⟨"java/util/Objects", "requireNonNull", "(Ljava/lang/Object;Ljava/lang/String;)Ljava/lang/Object;"⟩ : MethodName)) hown43 (mvT hZ43 (Wd45 hw)) (mvT hZ43 (Wd46 hw)) (mvT hZ43 (Wd47 hw)) (mvT hZ43 (Wd48 hw)) (by decide) (backOf (W := 0) (c_rnn l Z a0 hw [] a1 a43 h43 n0 f46 ) hZ43 (Wd48 hw) (Wd47 hw) (by decide) (by decide)) (g := (fr_of1 m a1 3 .unset .unset [(.ref a43), (.ref a1)])) rfl (by rw [hml]; rfl) (argsL := [(.ref a1), (.ref a43)]) (rest := []) (lenOf pd_48 rfl) rfl (by show 2 * 0 + _ ≤ _; exact Nat.le_of_eq rfl) (hb hby d9_3) (fun _ _ => ⟨rfl, e43, (by decide : 2 + 0 ≤ _), (by decide : 76 + 0 ≤ _)⟩)
  dsimp only [Pt.U, Pt.locs, Pt.cells, Pt.slots] at X47 l47 y47 z47 st47 hQ47
  subst l47 y47 z47
  obtain ⟨rfl, Nq47, Eq47⟩ := hQ47
  have N49 := Fr.app N0 Nq47
  obtain ⟨Lh50, Xh50, Nh50⟩ := own_hide (cells' := 2) (slots' := 76) X47 N49 (Nat.le_of_ble_eq_true rfl) (Nat.le_of_ble_eq_true rfl)
  refine ownBy st47 ?_
  clear st47
  show ownG p.tables e below _ (T47.setTop (fr_of1 m a1 6 .unset .unset [(.ref a1)]))
  refine ownBy (A := T47.setTop (fr_of1 m a1 8 .unset .unset [(.ref a1)])) (fun t kt => ?_) ?_
  · refine XS.pop Xh50.here hx rfl (hb hby d9_6) rfl rfl ?_
    show Steps p.tables e below (T47.setTop (fr_of1 m a1 7 .unset .unset [])) t
    refine XS.aloadN Xh50.here hx rfl (hb hby d9_7) rfl rfl ?_
    exact kt
  have hcd51 : StrChars.Road.CodA ([c0] : List Int32) 0 (1 : Int32) ((([c0] : List Int32).map (fun c => c.toInt8.toInt32)).map Value.int) := StrChars.Road.codOf (n := 1) rfl (fun x hx => (hp x hx).2)
  have hbd51 : ∀ x ∈ ([c0] : List Int32), ¬ x < 0 ∧ ¬ (65535 : Int32) < x := own_up _ hp
  have f52 := (Es.ext E43)
  have f53 := (Vs.ext E43)
  have f54 := (Cs.ext E43)
  have f55 := (Ks.ext E43)
  obtain ⟨cq56, kq56, q56a, q56b, q56c⟩ := isOf hZ43 Eq47 f52
  obtain ⟨vv56, _, ⟨T56, L56, k56, n56⟩, -, X56, ⟨Lc56, hQ56, l56, y56, z56⟩, st56⟩ := Xh50.virtualBack hx (y := (⟨"java/lang/String", "isEmpty", "()Z"⟩ : MethodName)) (z := (⟨"java/lang/String", "isEmpty", "()Z"⟩ : MethodName)) hown43 (mvT hZ43 (Wd49 hw)) (mvT hZ43 (Wd50 hw)) (notFace_of_selects (args := #[]) (mvT hZ43 (Wd52 hw))) (mvT hZ43 (Wd52 hw)) (mvT hZ43 (Wd51 hw)) (by decide) (StrChars.Road.empW (W := 0) hZ43 hem (kI := 4) (Wd9 hw) f52 f53 f54 f55 hcd51 hbd51 (Nat.le_of_ble_eq_true rfl) (by decide) (by decide)) q56a q56c (g := (fr_of1 m a1 8 .unset .unset [(.ref a1)])) rfl (by rw [hml]; rfl) (Steps.refl _) (argsL := []) (rest := []) (lenOf pd_57 rfl) rfl (by show 2 * 0 + _ ≤ _; exact Nat.le_of_eq rfl) (hb hby d9_8) (fun _ _ => ⟨rfl, Eq47, (by decide : 2 + 0 ≤ _), (by decide : 76 + 0 ≤ _)⟩)
  dsimp only [Pt.U, Pt.locs, Pt.cells, Pt.slots] at X56 l56 y56 z56 st56 hQ56
  subst l56 y56 z56
  obtain ⟨rfl, rfl, Eq56⟩ := hQ56
  have Nq56 : Fr n0 ([] : List Loc) := Fr.nil n0
  have N58 := Fr.app Nh50 Nq56
  obtain ⟨Lh59, Xh59, Nh59⟩ := own_hide (cells' := 2) (slots' := 76) X56 N58 (Nat.le_of_ble_eq_true rfl) (Nat.le_of_ble_eq_true rfl)
  refine ownSt st56 ?_
  clear st56
  show ownG p.tables e below _ (T56.setTop (fr_of1 m a1 11 .unset .unset [(.int (0 : Int32))]))
  refine ownBy (A := T56.setTop (fr_of1 m a1 25 .unset .unset [(.ref a1)])) (fun t kt => ?_) ?_
  · refine XS.ifYes Xh59.here hx rfl (pc0 := 11) (pc' := 24) rfl (hb hby d9_11) rfl ((if0 _ _).trans (teq ((by decide) : (0 : Int32) = (0 : Int32))).1) (by decide) (by decide) ?_
    show Steps p.tables e below (T56.setTop (fr_of1 m a1 24 .unset .unset [])) t
    refine XS.aloadN Xh59.here hx rfl (hb hby d9_24) rfl rfl ?_
    exact kt
  have f60 := (X00.ext E43)
  obtain ⟨cq61, kq61, q61a, q61b, q61c⟩ := isOf hZ43 Eq56 f52
  obtain ⟨vv61, _, ⟨T61, L61, k61, n61⟩, -, X61, ⟨Lc61, hQ61, l61, y61, z61⟩, st61⟩ := Xh59.virtualBack hx (y := (⟨"java/lang/String", "length", "()I"⟩ : MethodName)) (z := (⟨"java/lang/String", "length", "()I"⟩ : MethodName)) hown43 (mvT hZ43 (Wd54 hw)) (mvT hZ43 (Wd55 hw)) (notFace_of_selects (args := #[]) (mvT hZ43 (Wd57 hw))) (mvT hZ43 (Wd57 hw)) (mvT hZ43 (Wd56 hw)) (by decide) (StrChars.Road.lenW (W := 0) hZ43 hln (kI := 4) (Wd9 hw) f52 f53 f54 f55 hcd51 hbd51 (O2.ext f60.2) P5 (Nat.le_of_ble_eq_true rfl) (by decide) (by decide)) q61a q61c (g := (fr_of1 m a1 25 .unset .unset [(.ref a1)])) rfl (by rw [hml]; rfl) (Steps.refl _) (argsL := []) (rest := []) (lenOf pd_62 rfl) rfl (by show 2 * 0 + _ ≤ _; exact Nat.le_of_eq rfl) (hb hby d9_25) (fun _ _ => ⟨rfl, Eq56, (by decide : 2 + 0 ≤ _), (by decide : 76 + 0 ≤ _)⟩)
  dsimp only [Pt.U, Pt.locs, Pt.cells, Pt.slots] at X61 l61 y61 z61 st61 hQ61
  subst l61 y61 z61
  obtain ⟨rfl, rfl, Eq61⟩ := hQ61
  have Nq61 : Fr n0 ([] : List Loc) := Fr.nil n0
  have N63 := Fr.app Nh59 Nq61
  obtain ⟨Lh64, Xh64, Nh64⟩ := own_hide (cells' := 2) (slots' := 76) X61 N63 (Nat.le_of_ble_eq_true rfl) (Nat.le_of_ble_eq_true rfl)
  refine ownSt st61 ?_
  clear st61
  show ownG p.tables e below _ (T61.setTop (fr_of1 m a1 28 .unset .unset [(.int (1 : Int32))]))
  refine ownBy (A := T61.setTop (fr_of1 m a1 57 (.val (.int (0 : Int32))) (.val (.int (0 : Int32))) [(.ref a1), (.int (0 : Int32))])) (fun t kt => ?_) ?_
  · refine XS.sipush Xh64.here hx rfl (hb hby d9_28) ?_
    show Steps p.tables e below (T61.setTop (fr_of1 m a1 31 .unset .unset [(.int (255 : Int32)), (.int (1 : Int32))])) t
    refine XS.icmpYes Xh64.here hx rfl (pc0 := 31) (pc' := 51) rfl (hb hby d9_31) rfl (flt ((by decide) : ¬ ((255 : Int32) < (1 : Int32)))).2.2.2 (by decide) (by decide) ?_
    show Steps p.tables e below (T61.setTop (fr_of1 m a1 51 .unset .unset [])) t
    refine XS.iconst Xh64.here hx rfl (hb hby d9_51) ?_
    show Steps p.tables e below (T61.setTop (fr_of1 m a1 52 .unset .unset [(.int (0 : Int32))])) t
    refine XS.istoreN Xh64.here hx rfl (hb hby d9_52) rfl (l' := #[.val (.ref a1), .val (.int (0 : Int32)), .unset]) rfl ?_
    show Steps p.tables e below (T61.setTop (fr_of1 m a1 53 (.val (.int (0 : Int32))) .unset [])) t
    refine XS.iconst Xh64.here hx rfl (hb hby d9_53) ?_
    show Steps p.tables e below (T61.setTop (fr_of1 m a1 54 (.val (.int (0 : Int32))) .unset [(.int (0 : Int32))])) t
    refine XS.istoreN Xh64.here hx rfl (hb hby d9_54) rfl (l' := #[.val (.ref a1), .val (.int (0 : Int32)), .val (.int (0 : Int32))]) rfl ?_
    show Steps p.tables e below (T61.setTop (fr_of1 m a1 55 (.val (.int (0 : Int32))) (.val (.int (0 : Int32))) [])) t
    refine XS.iloadN Xh64.here hx rfl (hb hby d9_55) rfl ?_
    show Steps p.tables e below (T61.setTop (fr_of1 m a1 56 (.val (.int (0 : Int32))) (.val (.int (0 : Int32))) [(.int (0 : Int32))])) t
    refine XS.aloadN Xh64.here hx rfl (hb hby d9_56) rfl rfl ?_
    exact kt
  obtain ⟨cq65, kq65, q65a, q65b, q65c⟩ := isOf hZ43 Eq61 f52
  obtain ⟨vv65, _, ⟨T65, L65, k65, n65⟩, -, X65, ⟨Lc65, hQ65, l65, y65, z65⟩, st65⟩ := Xh64.virtualBack hx (y := (⟨"java/lang/String", "length", "()I"⟩ : MethodName)) (z := (⟨"java/lang/String", "length", "()I"⟩ : MethodName)) hown43 (mvT hZ43 (Wd54 hw)) (mvT hZ43 (Wd55 hw)) (notFace_of_selects (args := #[]) (mvT hZ43 (Wd57 hw))) (mvT hZ43 (Wd57 hw)) (mvT hZ43 (Wd56 hw)) (by decide) (StrChars.Road.lenW (W := 1) hZ43 hln (kI := 4) (Wd9 hw) f52 f53 f54 f55 hcd51 hbd51 (O2.ext f60.2) P5 (Nat.le_of_ble_eq_true rfl) (by decide) (by decide)) q65a q65c (g := (fr_of1 m a1 57 (.val (.int (0 : Int32))) (.val (.int (0 : Int32))) [(.ref a1), (.int (0 : Int32))])) rfl (by rw [hml]; rfl) (Steps.refl _) (argsL := []) (rest := [(.int (0 : Int32))]) (lenOf pd_62 rfl) rfl (by show 2 * 0 + _ ≤ _; exact Nat.le_of_eq rfl) (hb hby d9_57) (fun _ _ => ⟨rfl, Eq61, (by decide : 2 + 0 ≤ _), (by decide : 76 + 0 ≤ _)⟩)
  dsimp only [Pt.U, Pt.locs, Pt.cells, Pt.slots] at X65 l65 y65 z65 st65 hQ65
  subst l65 y65 z65
  obtain ⟨rfl, rfl, Eq65⟩ := hQ65
  have Nq65 : Fr n0 ([] : List Loc) := Fr.nil n0
  have N66 := Fr.app Nh64 Nq65
  obtain ⟨Lh67, Xh67, Nh67⟩ := own_hide (cells' := 2) (slots' := 76) X65 N66 (Nat.le_of_ble_eq_true rfl) (Nat.le_of_ble_eq_true rfl)
  refine ownSt st65 ?_
  clear st65
  show ownG p.tables e below _ (T65.setTop (fr_of1 m a1 60 (.val (.int (0 : Int32))) (.val (.int (0 : Int32))) [(.int (1 : Int32)), (.int (0 : Int32))]))
  refine ownBy (A := T65.setTop (fr_of1 m a1 65 (.val (.int (0 : Int32))) (.val (.int (0 : Int32))) [(.ref a1), (.int (0 : Int32))])) (fun t kt => ?_) ?_
  · refine XS.icmpNo Xh67.here hx rfl (hb hby d9_60) rfl (flt ((by decide) : ¬ ((1 : Int32) < (0 : Int32)))).2.2.1 ?_
    show Steps p.tables e below (T65.setTop (fr_of1 m a1 63 (.val (.int (0 : Int32))) (.val (.int (0 : Int32))) [])) t
    refine XS.iloadN Xh67.here hx rfl (hb hby d9_63) rfl ?_
    show Steps p.tables e below (T65.setTop (fr_of1 m a1 64 (.val (.int (0 : Int32))) (.val (.int (0 : Int32))) [(.int (0 : Int32))])) t
    refine XS.aloadN Xh67.here hx rfl (hb hby d9_64) rfl rfl ?_
    exact kt
  obtain ⟨cq68, kq68, q68a, q68b, q68c⟩ := isOf hZ43 Eq65 f52
  obtain ⟨vv68, _, ⟨T68, L68, k68, n68⟩, -, X68, ⟨Lc68, hQ68, l68, y68, z68⟩, st68⟩ := Xh67.virtualBack hx (y := (⟨"java/lang/String", "length", "()I"⟩ : MethodName)) (z := (⟨"java/lang/String", "length", "()I"⟩ : MethodName)) hown43 (mvT hZ43 (Wd54 hw)) (mvT hZ43 (Wd55 hw)) (notFace_of_selects (args := #[]) (mvT hZ43 (Wd57 hw))) (mvT hZ43 (Wd57 hw)) (mvT hZ43 (Wd56 hw)) (by decide) (StrChars.Road.lenW (W := 1) hZ43 hln (kI := 4) (Wd9 hw) f52 f53 f54 f55 hcd51 hbd51 (O2.ext f60.2) P5 (Nat.le_of_ble_eq_true rfl) (by decide) (by decide)) q68a q68c (g := (fr_of1 m a1 65 (.val (.int (0 : Int32))) (.val (.int (0 : Int32))) [(.ref a1), (.int (0 : Int32))])) rfl (by rw [hml]; rfl) (Steps.refl _) (argsL := []) (rest := [(.int (0 : Int32))]) (lenOf pd_62 rfl) rfl (by show 2 * 0 + _ ≤ _; exact Nat.le_of_eq rfl) (hb hby d9_65) (fun _ _ => ⟨rfl, Eq65, (by decide : 2 + 0 ≤ _), (by decide : 76 + 0 ≤ _)⟩)
  dsimp only [Pt.U, Pt.locs, Pt.cells, Pt.slots] at X68 l68 y68 z68 st68 hQ68
  subst l68 y68 z68
  obtain ⟨rfl, rfl, Eq68⟩ := hQ68
  have Nq68 : Fr n0 ([] : List Loc) := Fr.nil n0
  have N69 := Fr.app Nh67 Nq68
  obtain ⟨Lh70, Xh70, Nh70⟩ := own_hide (cells' := 2) (slots' := 76) X68 N69 (Nat.le_of_ble_eq_true rfl) (Nat.le_of_ble_eq_true rfl)
  refine ownSt st68 ?_
  clear st68
  show ownG p.tables e below _ (T68.setTop (fr_of1 m a1 68 (.val (.int (0 : Int32))) (.val (.int (0 : Int32))) [(.int (1 : Int32)), (.int (0 : Int32))]))
  refine ownBy (A := T68.setTop (fr_of1 m a1 73 (.val (.int (0 : Int32))) (.val (.int (0 : Int32))) [(.int (0 : Int32)), (.ref a1)])) (fun t kt => ?_) ?_
  · refine XS.icmpNo Xh70.here hx rfl (hb hby d9_68) rfl (feq ((by decide) : ¬ ((0 : Int32) = (1 : Int32)))).1 ?_
    show Steps p.tables e below (T68.setTop (fr_of1 m a1 71 (.val (.int (0 : Int32))) (.val (.int (0 : Int32))) [])) t
    refine XS.aloadN Xh70.here hx rfl (hb hby d9_71) rfl rfl ?_
    show Steps p.tables e below (T68.setTop (fr_of1 m a1 72 (.val (.int (0 : Int32))) (.val (.int (0 : Int32))) [(.ref a1)])) t
    refine XS.iloadN Xh70.here hx rfl (hb hby d9_72) rfl ?_
    exact kt
  obtain ⟨cq71, kq71, q71a, q71b, q71c⟩ := isOf hZ43 Eq68 f52
  obtain ⟨vv71, _, ⟨T71, L71, k71, n71⟩, -, X71, ⟨Lc71, hQ71, l71, y71, z71⟩, st71⟩ := Xh70.virtualBack hx (y := (⟨"java/lang/String", "charAt", "(I)C"⟩ : MethodName)) (z := (⟨"java/lang/String", "charAt", "(I)C"⟩ : MethodName)) hown43 (mvT hZ43 (Wd64 hw)) (mvT hZ43 (Wd65 hw)) (notFace_of_selects (args := #[]) (mvT hZ43 (Wd67 hw))) (mvT hZ43 (Wd67 hw)) (mvT hZ43 (Wd66 hw)) (by decide) (StrChars.Road.chN (W := 0) hZ43 hch (kI := 4) (Wd9 hw) f52 f53 f54 f55 hcd51 hbd51 (O2.ext f60.2) P5 (O4.ext f60.2) rG3 (Nat.le_of_ble_eq_true rfl) (i := 0) (Nat.le_of_ble_eq_true rfl) (j := (0 : Int32)) rfl (by decide) (by decide)) q71a q71c (g := (fr_of1 m a1 73 (.val (.int (0 : Int32))) (.val (.int (0 : Int32))) [(.int (0 : Int32)), (.ref a1)])) rfl (by rw [hml]; rfl) (Steps.refl _) (argsL := [(.int (0 : Int32))]) (rest := []) (lenOf pd_8 rfl) rfl (by show 2 * 0 + _ ≤ _; exact Nat.le_of_eq rfl) (hb hby d9_73) (fun _ _ => ⟨rfl, Eq68, (by decide : 2 + 0 ≤ _), (by decide : 76 + 0 ≤ _)⟩)
  dsimp only [Pt.U, Pt.locs, Pt.cells, Pt.slots] at X71 l71 y71 z71 st71 hQ71
  subst l71 y71 z71
  obtain ⟨rfl, rfl, Eq71⟩ := hQ71
  have Nq71 : Fr n0 ([] : List Loc) := Fr.nil n0
  have N72 := Fr.app Nh70 Nq71
  obtain ⟨Lh73, Xh73, Nh73⟩ := own_hide (cells' := 2) (slots' := 76) X71 N72 (Nat.le_of_ble_eq_true rfl) (Nat.le_of_ble_eq_true rfl)
  refine ownSt st71 ?_
  clear st71
  show ownG p.tables e below _ (T71.setTop (fr_of1 m a1 76 (.val (.int (0 : Int32))) (.val (.int (0 : Int32))) [(.int c0)]))
  refine ownBy (A := T71.setTop (fr_of1 m a1 106 (.val (.int (0 : Int32))) (.val (.int (0 : Int32))) [(.int (0 : Int32)), (.ref a1)])) (fun t kt => ?_) ?_
  · refine XS.bipush Xh73.here hx rfl (hb hby d9_76) ?_
    show Steps p.tables e below (T71.setTop (fr_of1 m a1 78 (.val (.int (0 : Int32))) (.val (.int (0 : Int32))) [(.int (46 : Int32)), (.int c0)])) t
    refine XS.icmpYes Xh73.here hx rfl (pc0 := 78) (pc' := 104) rfl (hb hby d9_78) rfl (feq hn0).2 (by decide) (by decide) ?_
    show Steps p.tables e below (T71.setTop (fr_of1 m a1 104 (.val (.int (0 : Int32))) (.val (.int (0 : Int32))) [])) t
    refine XS.aloadN Xh73.here hx rfl (hb hby d9_104) rfl rfl ?_
    show Steps p.tables e below (T71.setTop (fr_of1 m a1 105 (.val (.int (0 : Int32))) (.val (.int (0 : Int32))) [(.ref a1)])) t
    refine XS.iloadN Xh73.here hx rfl (hb hby d9_105) rfl ?_
    exact kt
  obtain ⟨cq74, kq74, q74a, q74b, q74c⟩ := isOf hZ43 Eq71 f52
  obtain ⟨vv74, _, ⟨T74, L74, k74, n74⟩, -, X74, ⟨Lc74, hQ74, l74, y74, z74⟩, st74⟩ := Xh73.virtualBack hx (y := (⟨"java/lang/String", "charAt", "(I)C"⟩ : MethodName)) (z := (⟨"java/lang/String", "charAt", "(I)C"⟩ : MethodName)) hown43 (mvT hZ43 (Wd64 hw)) (mvT hZ43 (Wd65 hw)) (notFace_of_selects (args := #[]) (mvT hZ43 (Wd67 hw))) (mvT hZ43 (Wd67 hw)) (mvT hZ43 (Wd66 hw)) (by decide) (StrChars.Road.chN (W := 0) hZ43 hch (kI := 4) (Wd9 hw) f52 f53 f54 f55 hcd51 hbd51 (O2.ext f60.2) P5 (O4.ext f60.2) rG3 (Nat.le_of_ble_eq_true rfl) (i := 0) (Nat.le_of_ble_eq_true rfl) (j := (0 : Int32)) rfl (by decide) (by decide)) q74a q74c (g := (fr_of1 m a1 106 (.val (.int (0 : Int32))) (.val (.int (0 : Int32))) [(.int (0 : Int32)), (.ref a1)])) rfl (by rw [hml]; rfl) (Steps.refl _) (argsL := [(.int (0 : Int32))]) (rest := []) (lenOf pd_8 rfl) rfl (by show 2 * 0 + _ ≤ _; exact Nat.le_of_eq rfl) (hb hby d9_106) (fun _ _ => ⟨rfl, Eq71, (by decide : 2 + 0 ≤ _), (by decide : 76 + 0 ≤ _)⟩)
  dsimp only [Pt.U, Pt.locs, Pt.cells, Pt.slots] at X74 l74 y74 z74 st74 hQ74
  subst l74 y74 z74
  obtain ⟨rfl, rfl, Eq74⟩ := hQ74
  have Nq74 : Fr n0 ([] : List Loc) := Fr.nil n0
  have N75 := Fr.app Nh73 Nq74
  obtain ⟨Lh76, Xh76, Nh76⟩ := own_hide (cells' := 2) (slots' := 76) X74 N75 (Nat.le_of_ble_eq_true rfl) (Nat.le_of_ble_eq_true rfl)
  refine ownSt st74 ?_
  clear st74
  show ownG p.tables e below _ (T74.setTop (fr_of1 m a1 109 (.val (.int (0 : Int32))) (.val (.int (0 : Int32))) [(.int c0)]))
  obtain ⟨vv77, _, ⟨T77, L77, k77, n77⟩, -, X77, ⟨Lc77, hQ77, l77, y77, z77⟩, st77⟩ := Jvm.LawKit.callS Xh76 hx (y := (⟨"com/example/boring_outbox/boringoutbox/EventType", "isIdentifierCharacter", "(C)Z"⟩ : MethodName)) hown43 (mvT hZ43 (Wd86 hw)) (mvT hZ43 (Wd87 hw)) (mvT hZ43 (Wd40 hw)) (mvT hZ43 (Wd88 hw)) (by decide) (backOf (W := 0) (c_isi l Z a0 hw [] c0 h43 n0 f46 (hi0.resolve_left hn0)) hZ43 (Wd88 hw) (Wd40 hw) (by decide) (by decide)) (g := (fr_of1 m a1 109 (.val (.int (0 : Int32))) (.val (.int (0 : Int32))) [(.int c0)])) rfl (by rw [hml]; rfl) (argsL := [(.int c0)]) (rest := []) (lenOf pd_78 rfl) rfl (by show 2 * 0 + _ ≤ _; exact Nat.le_of_eq rfl) (hb hby d9_109) (fun _ _ => ⟨rfl, Eq74, (by decide : 2 + 0 ≤ _), (by decide : 76 + 0 ≤ _)⟩)
  dsimp only [Pt.U, Pt.locs, Pt.cells, Pt.slots] at X77 l77 y77 z77 st77 hQ77
  subst l77 y77 z77
  obtain ⟨rfl, Nq77, Eq77⟩ := hQ77
  have N79 := Fr.app Nh76 Nq77
  obtain ⟨Lh80, Xh80, Nh80⟩ := own_hide (cells' := 2) (slots' := 76) X77 N79 (Nat.le_of_ble_eq_true rfl) (Nat.le_of_ble_eq_true rfl)
  refine ownBy st77 ?_
  clear st77
  show ownG p.tables e below _ (T77.setTop (fr_of1 m a1 112 (.val (.int (0 : Int32))) (.val (.int (0 : Int32))) [(.int (1 : Int32))]))
  refine ownBy (A := T77.setTop (fr_of1 m a1 57 (.val (.int (0 : Int32))) (.val (.int (1 : Int32))) [(.ref a1), (.int (1 : Int32))])) (fun t kt => ?_) ?_
  · refine XS.ifYes Xh80.here hx rfl (pc0 := 112) (pc' := 147) rfl (hb hby d9_112) rfl ((if0 _ _).trans (feq ((by decide) : ¬ ((1 : Int32) = (0 : Int32)))).2) (by decide) (by decide) ?_
    show Steps p.tables e below (T77.setTop (fr_of1 m a1 147 (.val (.int (0 : Int32))) (.val (.int (0 : Int32))) [])) t
    refine XS.iinc Xh80.here hx rfl (hb hby d9_147) rfl (l' := #[.val (.ref a1), .val (.int (0 : Int32)), .val (.int (1 : Int32))]) rfl ?_
    show Steps p.tables e below (T77.setTop (fr_of1 m a1 150 (.val (.int (0 : Int32))) (.val (.int (1 : Int32))) [])) t
    refine XS.goto Xh80.here hx rfl (pc0 := 150) (pc' := 55) rfl (hb hby d9_150) (by decide) (by decide) ?_
    show Steps p.tables e below (T77.setTop (fr_of1 m a1 55 (.val (.int (0 : Int32))) (.val (.int (1 : Int32))) [])) t
    refine XS.iloadN Xh80.here hx rfl (hb hby d9_55) rfl ?_
    show Steps p.tables e below (T77.setTop (fr_of1 m a1 56 (.val (.int (0 : Int32))) (.val (.int (1 : Int32))) [(.int (1 : Int32))])) t
    refine XS.aloadN Xh80.here hx rfl (hb hby d9_56) rfl rfl ?_
    exact kt
  obtain ⟨cq81, kq81, q81a, q81b, q81c⟩ := isOf hZ43 Eq77 f52
  obtain ⟨vv81, _, ⟨T81, L81, k81, n81⟩, -, X81, ⟨Lc81, hQ81, l81, y81, z81⟩, st81⟩ := Xh80.virtualBack hx (y := (⟨"java/lang/String", "length", "()I"⟩ : MethodName)) (z := (⟨"java/lang/String", "length", "()I"⟩ : MethodName)) hown43 (mvT hZ43 (Wd54 hw)) (mvT hZ43 (Wd55 hw)) (notFace_of_selects (args := #[]) (mvT hZ43 (Wd57 hw))) (mvT hZ43 (Wd57 hw)) (mvT hZ43 (Wd56 hw)) (by decide) (StrChars.Road.lenW (W := 1) hZ43 hln (kI := 4) (Wd9 hw) f52 f53 f54 f55 hcd51 hbd51 (O2.ext f60.2) P5 (Nat.le_of_ble_eq_true rfl) (by decide) (by decide)) q81a q81c (g := (fr_of1 m a1 57 (.val (.int (0 : Int32))) (.val (.int (1 : Int32))) [(.ref a1), (.int (1 : Int32))])) rfl (by rw [hml]; rfl) (Steps.refl _) (argsL := []) (rest := [(.int (1 : Int32))]) (lenOf pd_62 rfl) rfl (by show 2 * 0 + _ ≤ _; exact Nat.le_of_eq rfl) (hb hby d9_57) (fun _ _ => ⟨rfl, Eq77, (by decide : 2 + 0 ≤ _), (by decide : 76 + 0 ≤ _)⟩)
  dsimp only [Pt.U, Pt.locs, Pt.cells, Pt.slots] at X81 l81 y81 z81 st81 hQ81
  subst l81 y81 z81
  obtain ⟨rfl, rfl, Eq81⟩ := hQ81
  have Nq81 : Fr n0 ([] : List Loc) := Fr.nil n0
  have N82 := Fr.app Nh80 Nq81
  obtain ⟨Lh83, Xh83, Nh83⟩ := own_hide (cells' := 2) (slots' := 76) X81 N82 (Nat.le_of_ble_eq_true rfl) (Nat.le_of_ble_eq_true rfl)
  refine ownSt st81 ?_
  clear st81
  show ownG p.tables e below _ (T81.setTop (fr_of1 m a1 60 (.val (.int (0 : Int32))) (.val (.int (1 : Int32))) [(.int (1 : Int32)), (.int (1 : Int32))]))
  refine ownBy (A := T81.setTop (fr_of1 m a1 65 (.val (.int (0 : Int32))) (.val (.int (1 : Int32))) [(.ref a1), (.int (1 : Int32))])) (fun t kt => ?_) ?_
  · refine XS.icmpNo Xh83.here hx rfl (hb hby d9_60) rfl (flt ((by decide) : ¬ ((1 : Int32) < (1 : Int32)))).2.2.1 ?_
    show Steps p.tables e below (T81.setTop (fr_of1 m a1 63 (.val (.int (0 : Int32))) (.val (.int (1 : Int32))) [])) t
    refine XS.iloadN Xh83.here hx rfl (hb hby d9_63) rfl ?_
    show Steps p.tables e below (T81.setTop (fr_of1 m a1 64 (.val (.int (0 : Int32))) (.val (.int (1 : Int32))) [(.int (1 : Int32))])) t
    refine XS.aloadN Xh83.here hx rfl (hb hby d9_64) rfl rfl ?_
    exact kt
  obtain ⟨cq84, kq84, q84a, q84b, q84c⟩ := isOf hZ43 Eq81 f52
  obtain ⟨vv84, _, ⟨T84, L84, k84, n84⟩, -, X84, ⟨Lc84, hQ84, l84, y84, z84⟩, st84⟩ := Xh83.virtualBack hx (y := (⟨"java/lang/String", "length", "()I"⟩ : MethodName)) (z := (⟨"java/lang/String", "length", "()I"⟩ : MethodName)) hown43 (mvT hZ43 (Wd54 hw)) (mvT hZ43 (Wd55 hw)) (notFace_of_selects (args := #[]) (mvT hZ43 (Wd57 hw))) (mvT hZ43 (Wd57 hw)) (mvT hZ43 (Wd56 hw)) (by decide) (StrChars.Road.lenW (W := 1) hZ43 hln (kI := 4) (Wd9 hw) f52 f53 f54 f55 hcd51 hbd51 (O2.ext f60.2) P5 (Nat.le_of_ble_eq_true rfl) (by decide) (by decide)) q84a q84c (g := (fr_of1 m a1 65 (.val (.int (0 : Int32))) (.val (.int (1 : Int32))) [(.ref a1), (.int (1 : Int32))])) rfl (by rw [hml]; rfl) (Steps.refl _) (argsL := []) (rest := [(.int (1 : Int32))]) (lenOf pd_62 rfl) rfl (by show 2 * 0 + _ ≤ _; exact Nat.le_of_eq rfl) (hb hby d9_65) (fun _ _ => ⟨rfl, Eq81, (by decide : 2 + 0 ≤ _), (by decide : 76 + 0 ≤ _)⟩)
  dsimp only [Pt.U, Pt.locs, Pt.cells, Pt.slots] at X84 l84 y84 z84 st84 hQ84
  subst l84 y84 z84
  obtain ⟨rfl, rfl, Eq84⟩ := hQ84
  have Nq84 : Fr n0 ([] : List Loc) := Fr.nil n0
  have N85 := Fr.app Nh83 Nq84
  obtain ⟨Lh86, Xh86, Nh86⟩ := own_hide (cells' := 2) (slots' := 76) X84 N85 (Nat.le_of_ble_eq_true rfl) (Nat.le_of_ble_eq_true rfl)
  refine ownSt st84 ?_
  clear st84
  show ownG p.tables e below _ (T84.setTop (fr_of1 m a1 68 (.val (.int (0 : Int32))) (.val (.int (1 : Int32))) [(.int (1 : Int32)), (.int (1 : Int32))]))
  refine ownBy (A := T84.setTop (fr_of1 m a1 57 (.val (.int (2 : Int32))) (.val (.int (2 : Int32))) [(.ref a1), (.int (2 : Int32))])) (fun t kt => ?_) ?_
  · refine XS.icmpYes Xh86.here hx rfl (pc0 := 68) (pc' := 81) rfl (hb hby d9_68) rfl (teq ((by decide) : (1 : Int32) = (1 : Int32))).1 (by decide) (by decide) ?_
    show Steps p.tables e below (T84.setTop (fr_of1 m a1 81 (.val (.int (0 : Int32))) (.val (.int (1 : Int32))) [])) t
    refine XS.iloadN Xh86.here hx rfl (hb hby d9_81) rfl ?_
    show Steps p.tables e below (T84.setTop (fr_of1 m a1 82 (.val (.int (0 : Int32))) (.val (.int (1 : Int32))) [(.int (1 : Int32))])) t
    refine XS.iloadN Xh86.here hx rfl (hb hby d9_82) rfl ?_
    show Steps p.tables e below (T84.setTop (fr_of1 m a1 83 (.val (.int (0 : Int32))) (.val (.int (1 : Int32))) [(.int (0 : Int32)), (.int (1 : Int32))])) t
    refine XS.icmpYes Xh86.here hx rfl (pc0 := 83) (pc' := 97) rfl (hb hby d9_83) rfl (feq ((by decide) : ¬ ((1 : Int32) = (0 : Int32)))).2 (by decide) (by decide) ?_
    show Steps p.tables e below (T84.setTop (fr_of1 m a1 97 (.val (.int (0 : Int32))) (.val (.int (1 : Int32))) [])) t
    refine XS.iloadN Xh86.here hx rfl (hb hby d9_97) rfl ?_
    show Steps p.tables e below (T84.setTop (fr_of1 m a1 98 (.val (.int (0 : Int32))) (.val (.int (1 : Int32))) [(.int (1 : Int32))])) t
    refine XS.iconst Xh86.here hx rfl (hb hby d9_98) ?_
    show Steps p.tables e below (T84.setTop (fr_of1 m a1 99 (.val (.int (0 : Int32))) (.val (.int (1 : Int32))) [(.int (1 : Int32)), (.int (1 : Int32))])) t
    refine XS.iadd Xh86.here hx rfl (hb hby d9_99) rfl ?_
    show Steps p.tables e below (T84.setTop (fr_of1 m a1 100 (.val (.int (0 : Int32))) (.val (.int (1 : Int32))) [(.int (2 : Int32))])) t
    refine XS.istoreN Xh86.here hx rfl (hb hby d9_100) rfl (l' := #[.val (.ref a1), .val (.int (2 : Int32)), .val (.int (1 : Int32))]) rfl ?_
    show Steps p.tables e below (T84.setTop (fr_of1 m a1 101 (.val (.int (2 : Int32))) (.val (.int (1 : Int32))) [])) t
    refine XS.goto Xh86.here hx rfl (pc0 := 101) (pc' := 147) rfl (hb hby d9_101) (by decide) (by decide) ?_
    show Steps p.tables e below (T84.setTop (fr_of1 m a1 147 (.val (.int (2 : Int32))) (.val (.int (1 : Int32))) [])) t
    refine XS.iinc Xh86.here hx rfl (hb hby d9_147) rfl (l' := #[.val (.ref a1), .val (.int (2 : Int32)), .val (.int (2 : Int32))]) rfl ?_
    show Steps p.tables e below (T84.setTop (fr_of1 m a1 150 (.val (.int (2 : Int32))) (.val (.int (2 : Int32))) [])) t
    refine XS.goto Xh86.here hx rfl (pc0 := 150) (pc' := 55) rfl (hb hby d9_150) (by decide) (by decide) ?_
    show Steps p.tables e below (T84.setTop (fr_of1 m a1 55 (.val (.int (2 : Int32))) (.val (.int (2 : Int32))) [])) t
    refine XS.iloadN Xh86.here hx rfl (hb hby d9_55) rfl ?_
    show Steps p.tables e below (T84.setTop (fr_of1 m a1 56 (.val (.int (2 : Int32))) (.val (.int (2 : Int32))) [(.int (2 : Int32))])) t
    refine XS.aloadN Xh86.here hx rfl (hb hby d9_56) rfl rfl ?_
    exact kt
  obtain ⟨cq87, kq87, q87a, q87b, q87c⟩ := isOf hZ43 Eq84 f52
  obtain ⟨vv87, _, ⟨T87, L87, k87, n87⟩, -, X87, ⟨Lc87, hQ87, l87, y87, z87⟩, st87⟩ := Xh86.virtualBack hx (y := (⟨"java/lang/String", "length", "()I"⟩ : MethodName)) (z := (⟨"java/lang/String", "length", "()I"⟩ : MethodName)) hown43 (mvT hZ43 (Wd54 hw)) (mvT hZ43 (Wd55 hw)) (notFace_of_selects (args := #[]) (mvT hZ43 (Wd57 hw))) (mvT hZ43 (Wd57 hw)) (mvT hZ43 (Wd56 hw)) (by decide) (StrChars.Road.lenW (W := 1) hZ43 hln (kI := 4) (Wd9 hw) f52 f53 f54 f55 hcd51 hbd51 (O2.ext f60.2) P5 (Nat.le_of_ble_eq_true rfl) (by decide) (by decide)) q87a q87c (g := (fr_of1 m a1 57 (.val (.int (2 : Int32))) (.val (.int (2 : Int32))) [(.ref a1), (.int (2 : Int32))])) rfl (by rw [hml]; rfl) (Steps.refl _) (argsL := []) (rest := [(.int (2 : Int32))]) (lenOf pd_62 rfl) rfl (by show 2 * 0 + _ ≤ _; exact Nat.le_of_eq rfl) (hb hby d9_57) (fun _ _ => ⟨rfl, Eq84, (by decide : 2 + 0 ≤ _), (by decide : 76 + 0 ≤ _)⟩)
  dsimp only [Pt.U, Pt.locs, Pt.cells, Pt.slots] at X87 l87 y87 z87 st87 hQ87
  subst l87 y87 z87
  obtain ⟨rfl, rfl, Eq87⟩ := hQ87
  have Nq87 : Fr n0 ([] : List Loc) := Fr.nil n0
  have N88 := Fr.app Nh86 Nq87
  obtain ⟨Lh89, Xh89, Nh89⟩ := own_hide (cells' := 2) (slots' := 76) X87 N88 (Nat.le_of_ble_eq_true rfl) (Nat.le_of_ble_eq_true rfl)
  refine ownSt st87 ?_
  clear st87
  show ownG p.tables e below _ (T87.setTop (fr_of1 m a1 60 (.val (.int (2 : Int32))) (.val (.int (2 : Int32))) [(.int (1 : Int32)), (.int (2 : Int32))]))
  refine ownBy (A := T87.setTop (fr_of1 m a1 153 (.val (.int (2 : Int32))) (.val (.int (2 : Int32))) [])) (fun t kt => ?_) ?_
  · refine XS.icmpYes Xh89.here hx rfl (pc0 := 60) (pc' := 153) rfl (hb hby d9_60) rfl (tlt ((by decide) : (1 : Int32) < (2 : Int32))).2.2.1 (by decide) (by decide) ?_
    exact kt
  obtain ⟨T90, h90, X90, e90, E90, A90, D90, -, st90⟩ := newO Xh89 hx hZ43 hown43 (Wd89 hw) (Wd90 hw) (Wd40 hw) Eq87 (g := (fr_of1 m a1 153 (.val (.int (2 : Int32))) (.val (.int (2 : Int32))) [])) rfl (hb hby d9_153) (by decide) (by decide)
  obtain ⟨b90, g90⟩ : ∃ z, z = h43.size := ⟨_, rfl⟩
  rw [← g90] at A90 D90 st90
  have ne91 : a1 ≠ b90 := Nat.ne_of_lt (Nat.lt_of_lt_of_le f52.lt (Nat.le_of_eq g90.symm))
  have ne92 : t1 ≠ b90 := Nat.ne_of_lt (Nat.lt_of_lt_of_le f55.lt (Nat.le_of_eq g90.symm))
  have g93 : n0 ≤ b90 := Nat.le_trans f46 (Nat.le_of_eq g90.symm)
  have sf94 : Safe Z ownEL T43.vm h43 b90 := Safe.new (Nat.le_of_eq g90.symm)
  have f96 := ((Keep.refl h0 []).ext E43)
  have z95 : h0.size ≤ b90 := Nat.le_trans f96.1 (Nat.le_of_eq g90.symm)
  have R97 := R45.trans (CHr.ext E90 R45.1)
  have sf98 := Safe.ext E90 R45.1 sf94
  have F99 : Fld Z h90 b90 "com/example/boring_outbox/boringoutbox/EventType" "name" "Ljava/lang/String;" .null := D90 (Or.inr (Wd96 hw)) (ty := (.object "java/lang/String")) (by decide)
  refine ownBy st90 ?_
  clear st90
  show ownG p.tables e below _ (T90.setTop (fr_of1 m a1 156 (.val (.int (2 : Int32))) (.val (.int (2 : Int32))) [(.ref b90)]))
  refine ownBy (A := T90.setTop (fr_of1 m a1 158 (.val (.int (2 : Int32))) (.val (.int (2 : Int32))) [(.ref a1), (.ref b90), (.ref b90)])) (fun t kt => ?_) ?_
  · refine XS.dup X90.here hx rfl (hb hby d9_156) rfl rfl ?_
    show Steps p.tables e below (T90.setTop (fr_of1 m a1 157 (.val (.int (2 : Int32))) (.val (.int (2 : Int32))) [(.ref b90), (.ref b90)])) t
    refine XS.aloadN X90.here hx rfl (hb hby d9_157) rfl rfl ?_
    exact kt
  have f100 := (Nat.le_trans f46 E90.1)
  obtain ⟨vv101, _, ⟨T101, L101, k101, n101⟩, -, X101, ⟨Lc101, hQ101, l101, y101, z101⟩, st101⟩ := X90.specialBack hx (y := (⟨"com/example/boring_outbox/boringoutbox/EventType", "<init>", "(Ljava/lang/String;)V"⟩ : MethodName)) rfl hown43 (mvT hZ43 (Wd91 hw)) (mvT hZ43 (Wd92 hw)) (mvT hZ43 (Wd93 hw)) (by decide) (backOf (W := 1) (c_ein l Z a0 hw [] b90 a1 _ h90 n0 f100 A90 F99 g93) hZ43 (Wd93 hw) (Wd40 hw) (by decide) (by decide)) (g := (fr_of1 m a1 158 (.val (.int (2 : Int32))) (.val (.int (2 : Int32))) [(.ref a1), (.ref b90), (.ref b90)])) rfl (by rw [hml]; rfl) (Steps.refl _) (a := b90) (argsL := [(.ref a1)]) (rest := [(.ref b90)]) (lenOf pd_102 rfl) rfl (by show 2 * 0 + _ ≤ _; exact Nat.le_of_eq rfl) (hb hby d9_158) (fun _ _ => ⟨rfl, e90, (by decide : 3 + 0 ≤ _), (by decide : 77 + 0 ≤ _)⟩)
  dsimp only [Pt.U, Pt.locs, Pt.cells, Pt.slots] at X101 l101 y101 z101 st101 hQ101
  subst l101 y101 z101
  obtain ⟨rfl, Nq101, Kq101, Fa101⟩ := hQ101
  have N103 := Fr.app Nh89 Nq101
  have R104 := R97.trans (CHr.keep Kq101 (sfS sf98 sf0) R97.1)
  have sf105 := Safe.keep Kq101 (sfS sf98 sf0) R97.1 sf98
  obtain ⟨Lh106, Xh106, Nh106⟩ := own_hide (cells' := 3) (slots' := 77) X101 N103 (Nat.le_of_ble_eq_true rfl) (Nat.le_of_ble_eq_true rfl)
  refine ownSt st101 ?_
  clear st101
  show ownG p.tables e below _ (T101.setTop (fr_of1 m a1 161 (.val (.int (2 : Int32))) (.val (.int (2 : Int32))) [(.ref b90)]))
  have f107 := ((f96.ext E90).trans Kq101 (allS (Or.inr z95) all0))
  have f108 := (A90.keep Kq101)
  refine ownRetH Xh106 hS43 (Nat.le_trans (Nat.le_trans hk43 E90.1) Kq101.1) Bd.notSynchronized (v := some (.ref b90)) (fun h => by rw [Bd.returns] at h; cases h) ?_ (R104.trans (CHv.at Xh106 hZ43 hEL R104.1)) (Nat.le_of_ble_eq_true rfl) (Nat.le_of_ble_eq_true rfl) (fun fs hr => retOut Xh106 hx Bd.returns rfl (Or.inr (Or.inr (Or.inr (Or.inr ⟨rfl, rfl, rfl⟩)))) (hb hby d9_161) hr)
  show (Q_of1 Z a1 t1 kb1 c0 G1 G3 h0 n0) (some (.ref b90)) T101.heap _
  exact ⟨b90, rfl, Nh106, f107, z95, f108, Fa101⟩
abbrev fr_of2 (m : MethodId) (a1 : Addr) (pc : Nat) (x1_ x2_ : Slot) (st : List Value) : JFrame := mkF m pc #[.val (.ref a1), x1_, x2_] st
def Q_of2 (Z : State) (a1 : Addr) (t1 : Addr) (kb1 : ClassId) (c0 : Int32) (c1 : Int32) (G1 : Int32) (G3 : Value) (h0 : Heap) (n0 : Nat) (v : Option Value) (h : Heap) (L : List Loc) : Prop := ∃ x : Addr, v = some (.ref x) ∧ Fr n0 L ∧ Keep h0 h [] ∧ h0.size ≤ x ∧ Exa Z h x "com/example/boring_outbox/boringoutbox/EventType" ∧ Fld Z h x "com/example/boring_outbox/boringoutbox/EventType" "name" "Ljava/lang/String;" (.ref a1)
theorem ef_of2 (m : MethodId) (x0 : Addr)  : entryFrame m #[(.ref x0)] 3 = mkF m 0 #[.val (.ref x0), .unset, .unset] [] := by first | (simp [entryFrame, mkF, argsToLocals, Value.category]; done) | rfl
set_option maxRecDepth 65536 in
set_option maxHeartbeats 40000000 in
theorem c_of2 (l : Launch) (Z : State) (a0 : Array Value) (hw : ∀ d ∈ tables_1, d.before a0 Z = true) (ws : List Jvm.Cond) (a1 : Addr) (t1 : Addr) (kb1 : ClassId) (c0 : Int32) (c1 : Int32) (G1 : Int32) (G3 : Value) (h0 : Heap) (n0 : Nat) (Z0 : n0 ≤ h0.size) (Es : Exa Z h0 a1 "java/lang/String") (Vs : Fld Z h0 a1 "java/lang/String" "value" "[B" (.ref t1)) (Cs : Fld Z h0 a1 "java/lang/String" "coder" "B" (.int (0 : Int32))) (Ks : Arv Z h0 t1 kb1 .byte (2 : Int32) ((([c0, c1] : List Int32).map (fun c => c.toInt8.toInt32)).map Value.int) (.int (0 : Int32))) (hp : ∀ c ∈ ([c0, c1] : List Int32), ¬ c < 0 ∧ ¬ (255 : Int32) < c) (hi0 : c0 = 46 ∨ ownId c0) (hi1 : c1 = 46 ∨ ownId c1) (hn0 : ¬ (c0 = (46 : Int32))) (hnl : ¬ (c1 = (46 : Int32))) (O2 : Sta Z Z.heap "java/lang/String" "COMPACT_STRINGS" "Z" (.int G1)) (P5 : ¬ (G1 = (0 : Int32))) (X00 : Old Z n0 h0) (O4 : Sta Z Z.heap "jdk/internal/util/Preconditions" "SIOOBE_FORMATTER" "Ljava/util/function/BiFunction;" G3) (rG3 : G3.isRef = true) :
    MetFree l (⟨"com/example/boring_outbox/boringoutbox/EventType", "of", "(Ljava/lang/String;)Lcom/example/boring_outbox/boringoutbox/EventType;"⟩ : MethodName) (head1 (Jvm.Cond.code (⟨"com/example/boring_outbox/boringoutbox/EventType", "of", "(Ljava/lang/String;)Lcom/example/boring_outbox/boringoutbox/EventType;"⟩ : MethodName) prog_15_method_2_code 3 (some (.object "com/example/boring_outbox/boringoutbox/EventType")) :: ws) ({ frames := 4, cells := 3, slots := 77, locals := 66 } : Room)) (fun a U => a = #[(.ref a1)] ∧ Z.Warmed39 U.vm ∧ U.heap = h0 ∧ CHv Z ownEL U.vm h0) (fun _ _ _ _ _ => True) (fun _ U o U' => ∃ v L, o = .returned v ∧ (Q_of2 Z a1 t1 kb1 c0 c1 G1 G3 h0 n0) v U'.heap L ∧ CHr Z ownEL U.vm U.heap U'.vm U'.heap ∧ ReturnedEndW U o U' L ({ frames := 4, cells := 3, slots := 77, locals := 66 } : Room).cells ({ frames := 4, cells := 3, slots := 77, locals := 66 } : Room).slots) := by
  refine MetFree.of_bodySF (plainFor_of_name pn_11) hisR ?_
  intro p e s m args below meth c s₁ Bd hml0 hP hK
  obtain ⟨rfl, hZ, hHp, hCH⟩ := hP
  have hx := Bd.exec
  have hby := Bd.bytes
  have hml : c.maxLocals = 3 := hml0
  have hown : s.vm.findClass "com/example/boring_outbox/boringoutbox/EventType" = some m.cls := findClass_of_methodNamed Bd.named
  have hnm := (name_of_methodNamed Bd.named Bd.method).1
  have X0 : Stand p l e ({ frames := 4, cells := 3, slots := 77, locals := 66 } : Room) (s.setVm s.vm) m #[(.ref a1)] below meth c s₁ [] 0 0 := Stand.of_body Bd
  have e0 : s₁.heap = h0 := by rw [← hHp, Bd.state]; rfl
  have N0 := Fr.nil n0
  refine ownOutH hHp (P := (Q_of2 Z a1 t1 kb1 c0 c1 G1 G3 h0 n0)) ?_
  refine ownBy (A := s₁.setTop (mkF m 0 #[.val (.ref a1), .unset, .unset] [])) (fun t k => castTop (ef_of2 m a1) k) ?_
  have hS0 : s.Since s.vm h0.size := own_since
  have hEL := own_EW hw
  have R0 := CHr.refl hCH
  have wS := own_wS hw
  have hln : ∀ d ∈ StrChars.Road.wordsLen, d.before a0 Z = true := fun d hd => hw d ((by decide +kernel : ∀ d ∈ StrChars.Road.wordsLen, d ∈ tables_1) d hd)
  have hem : ∀ d ∈ StrChars.Road.wordsEmp, d.before a0 Z = true := fun d hd => hw d ((by decide +kernel : ∀ d ∈ StrChars.Road.wordsEmp, d ∈ tables_1) d hd)
  have hch : ∀ d ∈ StrChars.Road.wordsChN, d.before a0 Z = true := fun d hd => hw d ((by decide +kernel : ∀ d ∈ StrChars.Road.wordsChN, d ∈ tables_1) d hd)
  refine ownBy (A := s₁.setTop (fr_of2 m a1 1 .unset .unset [(.ref a1)])) (fun t kt => ?_) ?_
  · refine XS.aloadN X0.here hx rfl (hb hby d9_0) rfl rfl ?_
    exact kt
  obtain ⟨a110, T110, h110, k110, X110, e110, E110, hS110, hk110, hZ110, hown110, hC110, Lt110, st110⟩ := ldcOH (text := "event type is null") X0 hx hZ hown (Wd42 hw) wS e0 hS0 (Nat.le_refl _) hEL R0.1 (g := (fr_of2 m a1 1 .unset .unset [(.ref a1)])) rfl (hb hby d9_1) (n := 72) (by decide) (by decide) (by decide) (by decide)
  have R112 := R0.trans hC110
  refine ownBy st110 ?_
  clear st110
  show ownG p.tables e below _ (T110.setTop (fr_of2 m a1 3 .unset .unset [(.ref a110), (.ref a1)]))
  have f113 := (Nat.le_trans Z0 E110.1)
  obtain ⟨vv114, _, ⟨T114, L114, k114, n114⟩, -, X114, ⟨Lc114, hQ114, l114, y114, z114⟩, st114⟩ := Jvm.LawKit.callS X110 hx (y := (⟨"java/util/Objects", "requireNonNull", "(Ljava/lang/Object;Ljava/lang/String;)Ljava/lang/Object;"⟩ : MethodName)) hown110 (mvT hZ110 (Wd45 hw)) (mvT hZ110 (Wd46 hw)) (mvT hZ110 (Wd47 hw)) (mvT hZ110 (Wd48 hw)) (by decide) (backOf (W := 0) (c_rnn l Z a0 hw [] a1 a110 h110 n0 f113 ) hZ110 (Wd48 hw) (Wd47 hw) (by decide) (by decide)) (g := (fr_of2 m a1 3 .unset .unset [(.ref a110), (.ref a1)])) rfl (by rw [hml]; rfl) (argsL := [(.ref a1), (.ref a110)]) (rest := []) (lenOf pd_48 rfl) rfl (by show 2 * 0 + _ ≤ _; exact Nat.le_of_eq rfl) (hb hby d9_3) (fun _ _ => ⟨rfl, e110, (by decide : 2 + 0 ≤ _), (by decide : 76 + 0 ≤ _)⟩)
  dsimp only [Pt.U, Pt.locs, Pt.cells, Pt.slots] at X114 l114 y114 z114 st114 hQ114
  subst l114 y114 z114
  obtain ⟨rfl, Nq114, Eq114⟩ := hQ114
  have N115 := Fr.app N0 Nq114
  obtain ⟨Lh116, Xh116, Nh116⟩ := own_hide (cells' := 2) (slots' := 76) X114 N115 (Nat.le_of_ble_eq_true rfl) (Nat.le_of_ble_eq_true rfl)
  refine ownBy st114 ?_
  clear st114
  show ownG p.tables e below _ (T114.setTop (fr_of2 m a1 6 .unset .unset [(.ref a1)]))
  refine ownBy (A := T114.setTop (fr_of2 m a1 8 .unset .unset [(.ref a1)])) (fun t kt => ?_) ?_
  · refine XS.pop Xh116.here hx rfl (hb hby d9_6) rfl rfl ?_
    show Steps p.tables e below (T114.setTop (fr_of2 m a1 7 .unset .unset [])) t
    refine XS.aloadN Xh116.here hx rfl (hb hby d9_7) rfl rfl ?_
    exact kt
  have hcd117 : StrChars.Road.CodA ([c0, c1] : List Int32) 0 (2 : Int32) ((([c0, c1] : List Int32).map (fun c => c.toInt8.toInt32)).map Value.int) := StrChars.Road.codOf (n := 2) rfl (fun x hx => (hp x hx).2)
  have hbd117 : ∀ x ∈ ([c0, c1] : List Int32), ¬ x < 0 ∧ ¬ (65535 : Int32) < x := own_up _ hp
  have f118 := (Es.ext E110)
  have f119 := (Vs.ext E110)
  have f120 := (Cs.ext E110)
  have f121 := (Ks.ext E110)
  obtain ⟨cq122, kq122, q122a, q122b, q122c⟩ := isOf hZ110 Eq114 f118
  obtain ⟨vv122, _, ⟨T122, L122, k122, n122⟩, -, X122, ⟨Lc122, hQ122, l122, y122, z122⟩, st122⟩ := Xh116.virtualBack hx (y := (⟨"java/lang/String", "isEmpty", "()Z"⟩ : MethodName)) (z := (⟨"java/lang/String", "isEmpty", "()Z"⟩ : MethodName)) hown110 (mvT hZ110 (Wd49 hw)) (mvT hZ110 (Wd50 hw)) (notFace_of_selects (args := #[]) (mvT hZ110 (Wd52 hw))) (mvT hZ110 (Wd52 hw)) (mvT hZ110 (Wd51 hw)) (by decide) (StrChars.Road.empW (W := 0) hZ110 hem (kI := 4) (Wd9 hw) f118 f119 f120 f121 hcd117 hbd117 (Nat.le_of_ble_eq_true rfl) (by decide) (by decide)) q122a q122c (g := (fr_of2 m a1 8 .unset .unset [(.ref a1)])) rfl (by rw [hml]; rfl) (Steps.refl _) (argsL := []) (rest := []) (lenOf pd_57 rfl) rfl (by show 2 * 0 + _ ≤ _; exact Nat.le_of_eq rfl) (hb hby d9_8) (fun _ _ => ⟨rfl, Eq114, (by decide : 2 + 0 ≤ _), (by decide : 76 + 0 ≤ _)⟩)
  dsimp only [Pt.U, Pt.locs, Pt.cells, Pt.slots] at X122 l122 y122 z122 st122 hQ122
  subst l122 y122 z122
  obtain ⟨rfl, rfl, Eq122⟩ := hQ122
  have Nq122 : Fr n0 ([] : List Loc) := Fr.nil n0
  have N123 := Fr.app Nh116 Nq122
  obtain ⟨Lh124, Xh124, Nh124⟩ := own_hide (cells' := 2) (slots' := 76) X122 N123 (Nat.le_of_ble_eq_true rfl) (Nat.le_of_ble_eq_true rfl)
  refine ownSt st122 ?_
  clear st122
  show ownG p.tables e below _ (T122.setTop (fr_of2 m a1 11 .unset .unset [(.int (0 : Int32))]))
  refine ownBy (A := T122.setTop (fr_of2 m a1 25 .unset .unset [(.ref a1)])) (fun t kt => ?_) ?_
  · refine XS.ifYes Xh124.here hx rfl (pc0 := 11) (pc' := 24) rfl (hb hby d9_11) rfl ((if0 _ _).trans (teq ((by decide) : (0 : Int32) = (0 : Int32))).1) (by decide) (by decide) ?_
    show Steps p.tables e below (T122.setTop (fr_of2 m a1 24 .unset .unset [])) t
    refine XS.aloadN Xh124.here hx rfl (hb hby d9_24) rfl rfl ?_
    exact kt
  have f125 := (X00.ext E110)
  obtain ⟨cq126, kq126, q126a, q126b, q126c⟩ := isOf hZ110 Eq122 f118
  obtain ⟨vv126, _, ⟨T126, L126, k126, n126⟩, -, X126, ⟨Lc126, hQ126, l126, y126, z126⟩, st126⟩ := Xh124.virtualBack hx (y := (⟨"java/lang/String", "length", "()I"⟩ : MethodName)) (z := (⟨"java/lang/String", "length", "()I"⟩ : MethodName)) hown110 (mvT hZ110 (Wd54 hw)) (mvT hZ110 (Wd55 hw)) (notFace_of_selects (args := #[]) (mvT hZ110 (Wd57 hw))) (mvT hZ110 (Wd57 hw)) (mvT hZ110 (Wd56 hw)) (by decide) (StrChars.Road.lenW (W := 0) hZ110 hln (kI := 4) (Wd9 hw) f118 f119 f120 f121 hcd117 hbd117 (O2.ext f125.2) P5 (Nat.le_of_ble_eq_true rfl) (by decide) (by decide)) q126a q126c (g := (fr_of2 m a1 25 .unset .unset [(.ref a1)])) rfl (by rw [hml]; rfl) (Steps.refl _) (argsL := []) (rest := []) (lenOf pd_62 rfl) rfl (by show 2 * 0 + _ ≤ _; exact Nat.le_of_eq rfl) (hb hby d9_25) (fun _ _ => ⟨rfl, Eq122, (by decide : 2 + 0 ≤ _), (by decide : 76 + 0 ≤ _)⟩)
  dsimp only [Pt.U, Pt.locs, Pt.cells, Pt.slots] at X126 l126 y126 z126 st126 hQ126
  subst l126 y126 z126
  obtain ⟨rfl, rfl, Eq126⟩ := hQ126
  have Nq126 : Fr n0 ([] : List Loc) := Fr.nil n0
  have N127 := Fr.app Nh124 Nq126
  obtain ⟨Lh128, Xh128, Nh128⟩ := own_hide (cells' := 2) (slots' := 76) X126 N127 (Nat.le_of_ble_eq_true rfl) (Nat.le_of_ble_eq_true rfl)
  refine ownSt st126 ?_
  clear st126
  show ownG p.tables e below _ (T126.setTop (fr_of2 m a1 28 .unset .unset [(.int (2 : Int32))]))
  refine ownBy (A := T126.setTop (fr_of2 m a1 57 (.val (.int (0 : Int32))) (.val (.int (0 : Int32))) [(.ref a1), (.int (0 : Int32))])) (fun t kt => ?_) ?_
  · refine XS.sipush Xh128.here hx rfl (hb hby d9_28) ?_
    show Steps p.tables e below (T126.setTop (fr_of2 m a1 31 .unset .unset [(.int (255 : Int32)), (.int (2 : Int32))])) t
    refine XS.icmpYes Xh128.here hx rfl (pc0 := 31) (pc' := 51) rfl (hb hby d9_31) rfl (flt ((by decide) : ¬ ((255 : Int32) < (2 : Int32)))).2.2.2 (by decide) (by decide) ?_
    show Steps p.tables e below (T126.setTop (fr_of2 m a1 51 .unset .unset [])) t
    refine XS.iconst Xh128.here hx rfl (hb hby d9_51) ?_
    show Steps p.tables e below (T126.setTop (fr_of2 m a1 52 .unset .unset [(.int (0 : Int32))])) t
    refine XS.istoreN Xh128.here hx rfl (hb hby d9_52) rfl (l' := #[.val (.ref a1), .val (.int (0 : Int32)), .unset]) rfl ?_
    show Steps p.tables e below (T126.setTop (fr_of2 m a1 53 (.val (.int (0 : Int32))) .unset [])) t
    refine XS.iconst Xh128.here hx rfl (hb hby d9_53) ?_
    show Steps p.tables e below (T126.setTop (fr_of2 m a1 54 (.val (.int (0 : Int32))) .unset [(.int (0 : Int32))])) t
    refine XS.istoreN Xh128.here hx rfl (hb hby d9_54) rfl (l' := #[.val (.ref a1), .val (.int (0 : Int32)), .val (.int (0 : Int32))]) rfl ?_
    show Steps p.tables e below (T126.setTop (fr_of2 m a1 55 (.val (.int (0 : Int32))) (.val (.int (0 : Int32))) [])) t
    refine XS.iloadN Xh128.here hx rfl (hb hby d9_55) rfl ?_
    show Steps p.tables e below (T126.setTop (fr_of2 m a1 56 (.val (.int (0 : Int32))) (.val (.int (0 : Int32))) [(.int (0 : Int32))])) t
    refine XS.aloadN Xh128.here hx rfl (hb hby d9_56) rfl rfl ?_
    exact kt
  obtain ⟨cq129, kq129, q129a, q129b, q129c⟩ := isOf hZ110 Eq126 f118
  obtain ⟨vv129, _, ⟨T129, L129, k129, n129⟩, -, X129, ⟨Lc129, hQ129, l129, y129, z129⟩, st129⟩ := Xh128.virtualBack hx (y := (⟨"java/lang/String", "length", "()I"⟩ : MethodName)) (z := (⟨"java/lang/String", "length", "()I"⟩ : MethodName)) hown110 (mvT hZ110 (Wd54 hw)) (mvT hZ110 (Wd55 hw)) (notFace_of_selects (args := #[]) (mvT hZ110 (Wd57 hw))) (mvT hZ110 (Wd57 hw)) (mvT hZ110 (Wd56 hw)) (by decide) (StrChars.Road.lenW (W := 1) hZ110 hln (kI := 4) (Wd9 hw) f118 f119 f120 f121 hcd117 hbd117 (O2.ext f125.2) P5 (Nat.le_of_ble_eq_true rfl) (by decide) (by decide)) q129a q129c (g := (fr_of2 m a1 57 (.val (.int (0 : Int32))) (.val (.int (0 : Int32))) [(.ref a1), (.int (0 : Int32))])) rfl (by rw [hml]; rfl) (Steps.refl _) (argsL := []) (rest := [(.int (0 : Int32))]) (lenOf pd_62 rfl) rfl (by show 2 * 0 + _ ≤ _; exact Nat.le_of_eq rfl) (hb hby d9_57) (fun _ _ => ⟨rfl, Eq126, (by decide : 2 + 0 ≤ _), (by decide : 76 + 0 ≤ _)⟩)
  dsimp only [Pt.U, Pt.locs, Pt.cells, Pt.slots] at X129 l129 y129 z129 st129 hQ129
  subst l129 y129 z129
  obtain ⟨rfl, rfl, Eq129⟩ := hQ129
  have Nq129 : Fr n0 ([] : List Loc) := Fr.nil n0
  have N130 := Fr.app Nh128 Nq129
  obtain ⟨Lh131, Xh131, Nh131⟩ := own_hide (cells' := 2) (slots' := 76) X129 N130 (Nat.le_of_ble_eq_true rfl) (Nat.le_of_ble_eq_true rfl)
  refine ownSt st129 ?_
  clear st129
  show ownG p.tables e below _ (T129.setTop (fr_of2 m a1 60 (.val (.int (0 : Int32))) (.val (.int (0 : Int32))) [(.int (2 : Int32)), (.int (0 : Int32))]))
  refine ownBy (A := T129.setTop (fr_of2 m a1 65 (.val (.int (0 : Int32))) (.val (.int (0 : Int32))) [(.ref a1), (.int (0 : Int32))])) (fun t kt => ?_) ?_
  · refine XS.icmpNo Xh131.here hx rfl (hb hby d9_60) rfl (flt ((by decide) : ¬ ((2 : Int32) < (0 : Int32)))).2.2.1 ?_
    show Steps p.tables e below (T129.setTop (fr_of2 m a1 63 (.val (.int (0 : Int32))) (.val (.int (0 : Int32))) [])) t
    refine XS.iloadN Xh131.here hx rfl (hb hby d9_63) rfl ?_
    show Steps p.tables e below (T129.setTop (fr_of2 m a1 64 (.val (.int (0 : Int32))) (.val (.int (0 : Int32))) [(.int (0 : Int32))])) t
    refine XS.aloadN Xh131.here hx rfl (hb hby d9_64) rfl rfl ?_
    exact kt
  obtain ⟨cq132, kq132, q132a, q132b, q132c⟩ := isOf hZ110 Eq129 f118
  obtain ⟨vv132, _, ⟨T132, L132, k132, n132⟩, -, X132, ⟨Lc132, hQ132, l132, y132, z132⟩, st132⟩ := Xh131.virtualBack hx (y := (⟨"java/lang/String", "length", "()I"⟩ : MethodName)) (z := (⟨"java/lang/String", "length", "()I"⟩ : MethodName)) hown110 (mvT hZ110 (Wd54 hw)) (mvT hZ110 (Wd55 hw)) (notFace_of_selects (args := #[]) (mvT hZ110 (Wd57 hw))) (mvT hZ110 (Wd57 hw)) (mvT hZ110 (Wd56 hw)) (by decide) (StrChars.Road.lenW (W := 1) hZ110 hln (kI := 4) (Wd9 hw) f118 f119 f120 f121 hcd117 hbd117 (O2.ext f125.2) P5 (Nat.le_of_ble_eq_true rfl) (by decide) (by decide)) q132a q132c (g := (fr_of2 m a1 65 (.val (.int (0 : Int32))) (.val (.int (0 : Int32))) [(.ref a1), (.int (0 : Int32))])) rfl (by rw [hml]; rfl) (Steps.refl _) (argsL := []) (rest := [(.int (0 : Int32))]) (lenOf pd_62 rfl) rfl (by show 2 * 0 + _ ≤ _; exact Nat.le_of_eq rfl) (hb hby d9_65) (fun _ _ => ⟨rfl, Eq129, (by decide : 2 + 0 ≤ _), (by decide : 76 + 0 ≤ _)⟩)
  dsimp only [Pt.U, Pt.locs, Pt.cells, Pt.slots] at X132 l132 y132 z132 st132 hQ132
  subst l132 y132 z132
  obtain ⟨rfl, rfl, Eq132⟩ := hQ132
  have Nq132 : Fr n0 ([] : List Loc) := Fr.nil n0
  have N133 := Fr.app Nh131 Nq132
  obtain ⟨Lh134, Xh134, Nh134⟩ := own_hide (cells' := 2) (slots' := 76) X132 N133 (Nat.le_of_ble_eq_true rfl) (Nat.le_of_ble_eq_true rfl)
  refine ownSt st132 ?_
  clear st132
  show ownG p.tables e below _ (T132.setTop (fr_of2 m a1 68 (.val (.int (0 : Int32))) (.val (.int (0 : Int32))) [(.int (2 : Int32)), (.int (0 : Int32))]))
  refine ownBy (A := T132.setTop (fr_of2 m a1 73 (.val (.int (0 : Int32))) (.val (.int (0 : Int32))) [(.int (0 : Int32)), (.ref a1)])) (fun t kt => ?_) ?_
  · refine XS.icmpNo Xh134.here hx rfl (hb hby d9_68) rfl (feq ((by decide) : ¬ ((0 : Int32) = (2 : Int32)))).1 ?_
    show Steps p.tables e below (T132.setTop (fr_of2 m a1 71 (.val (.int (0 : Int32))) (.val (.int (0 : Int32))) [])) t
    refine XS.aloadN Xh134.here hx rfl (hb hby d9_71) rfl rfl ?_
    show Steps p.tables e below (T132.setTop (fr_of2 m a1 72 (.val (.int (0 : Int32))) (.val (.int (0 : Int32))) [(.ref a1)])) t
    refine XS.iloadN Xh134.here hx rfl (hb hby d9_72) rfl ?_
    exact kt
  obtain ⟨cq135, kq135, q135a, q135b, q135c⟩ := isOf hZ110 Eq132 f118
  obtain ⟨vv135, _, ⟨T135, L135, k135, n135⟩, -, X135, ⟨Lc135, hQ135, l135, y135, z135⟩, st135⟩ := Xh134.virtualBack hx (y := (⟨"java/lang/String", "charAt", "(I)C"⟩ : MethodName)) (z := (⟨"java/lang/String", "charAt", "(I)C"⟩ : MethodName)) hown110 (mvT hZ110 (Wd64 hw)) (mvT hZ110 (Wd65 hw)) (notFace_of_selects (args := #[]) (mvT hZ110 (Wd67 hw))) (mvT hZ110 (Wd67 hw)) (mvT hZ110 (Wd66 hw)) (by decide) (StrChars.Road.chN (W := 0) hZ110 hch (kI := 4) (Wd9 hw) f118 f119 f120 f121 hcd117 hbd117 (O2.ext f125.2) P5 (O4.ext f125.2) rG3 (Nat.le_of_ble_eq_true rfl) (i := 0) (Nat.le_of_ble_eq_true rfl) (j := (0 : Int32)) rfl (by decide) (by decide)) q135a q135c (g := (fr_of2 m a1 73 (.val (.int (0 : Int32))) (.val (.int (0 : Int32))) [(.int (0 : Int32)), (.ref a1)])) rfl (by rw [hml]; rfl) (Steps.refl _) (argsL := [(.int (0 : Int32))]) (rest := []) (lenOf pd_8 rfl) rfl (by show 2 * 0 + _ ≤ _; exact Nat.le_of_eq rfl) (hb hby d9_73) (fun _ _ => ⟨rfl, Eq132, (by decide : 2 + 0 ≤ _), (by decide : 76 + 0 ≤ _)⟩)
  dsimp only [Pt.U, Pt.locs, Pt.cells, Pt.slots] at X135 l135 y135 z135 st135 hQ135
  subst l135 y135 z135
  obtain ⟨rfl, rfl, Eq135⟩ := hQ135
  have Nq135 : Fr n0 ([] : List Loc) := Fr.nil n0
  have N136 := Fr.app Nh134 Nq135
  obtain ⟨Lh137, Xh137, Nh137⟩ := own_hide (cells' := 2) (slots' := 76) X135 N136 (Nat.le_of_ble_eq_true rfl) (Nat.le_of_ble_eq_true rfl)
  refine ownSt st135 ?_
  clear st135
  show ownG p.tables e below _ (T135.setTop (fr_of2 m a1 76 (.val (.int (0 : Int32))) (.val (.int (0 : Int32))) [(.int c0)]))
  refine ownBy (A := T135.setTop (fr_of2 m a1 106 (.val (.int (0 : Int32))) (.val (.int (0 : Int32))) [(.int (0 : Int32)), (.ref a1)])) (fun t kt => ?_) ?_
  · refine XS.bipush Xh137.here hx rfl (hb hby d9_76) ?_
    show Steps p.tables e below (T135.setTop (fr_of2 m a1 78 (.val (.int (0 : Int32))) (.val (.int (0 : Int32))) [(.int (46 : Int32)), (.int c0)])) t
    refine XS.icmpYes Xh137.here hx rfl (pc0 := 78) (pc' := 104) rfl (hb hby d9_78) rfl (feq hn0).2 (by decide) (by decide) ?_
    show Steps p.tables e below (T135.setTop (fr_of2 m a1 104 (.val (.int (0 : Int32))) (.val (.int (0 : Int32))) [])) t
    refine XS.aloadN Xh137.here hx rfl (hb hby d9_104) rfl rfl ?_
    show Steps p.tables e below (T135.setTop (fr_of2 m a1 105 (.val (.int (0 : Int32))) (.val (.int (0 : Int32))) [(.ref a1)])) t
    refine XS.iloadN Xh137.here hx rfl (hb hby d9_105) rfl ?_
    exact kt
  obtain ⟨cq138, kq138, q138a, q138b, q138c⟩ := isOf hZ110 Eq135 f118
  obtain ⟨vv138, _, ⟨T138, L138, k138, n138⟩, -, X138, ⟨Lc138, hQ138, l138, y138, z138⟩, st138⟩ := Xh137.virtualBack hx (y := (⟨"java/lang/String", "charAt", "(I)C"⟩ : MethodName)) (z := (⟨"java/lang/String", "charAt", "(I)C"⟩ : MethodName)) hown110 (mvT hZ110 (Wd64 hw)) (mvT hZ110 (Wd65 hw)) (notFace_of_selects (args := #[]) (mvT hZ110 (Wd67 hw))) (mvT hZ110 (Wd67 hw)) (mvT hZ110 (Wd66 hw)) (by decide) (StrChars.Road.chN (W := 0) hZ110 hch (kI := 4) (Wd9 hw) f118 f119 f120 f121 hcd117 hbd117 (O2.ext f125.2) P5 (O4.ext f125.2) rG3 (Nat.le_of_ble_eq_true rfl) (i := 0) (Nat.le_of_ble_eq_true rfl) (j := (0 : Int32)) rfl (by decide) (by decide)) q138a q138c (g := (fr_of2 m a1 106 (.val (.int (0 : Int32))) (.val (.int (0 : Int32))) [(.int (0 : Int32)), (.ref a1)])) rfl (by rw [hml]; rfl) (Steps.refl _) (argsL := [(.int (0 : Int32))]) (rest := []) (lenOf pd_8 rfl) rfl (by show 2 * 0 + _ ≤ _; exact Nat.le_of_eq rfl) (hb hby d9_106) (fun _ _ => ⟨rfl, Eq135, (by decide : 2 + 0 ≤ _), (by decide : 76 + 0 ≤ _)⟩)
  dsimp only [Pt.U, Pt.locs, Pt.cells, Pt.slots] at X138 l138 y138 z138 st138 hQ138
  subst l138 y138 z138
  obtain ⟨rfl, rfl, Eq138⟩ := hQ138
  have Nq138 : Fr n0 ([] : List Loc) := Fr.nil n0
  have N139 := Fr.app Nh137 Nq138
  obtain ⟨Lh140, Xh140, Nh140⟩ := own_hide (cells' := 2) (slots' := 76) X138 N139 (Nat.le_of_ble_eq_true rfl) (Nat.le_of_ble_eq_true rfl)
  refine ownSt st138 ?_
  clear st138
  show ownG p.tables e below _ (T138.setTop (fr_of2 m a1 109 (.val (.int (0 : Int32))) (.val (.int (0 : Int32))) [(.int c0)]))
  obtain ⟨vv141, _, ⟨T141, L141, k141, n141⟩, -, X141, ⟨Lc141, hQ141, l141, y141, z141⟩, st141⟩ := Jvm.LawKit.callS Xh140 hx (y := (⟨"com/example/boring_outbox/boringoutbox/EventType", "isIdentifierCharacter", "(C)Z"⟩ : MethodName)) hown110 (mvT hZ110 (Wd86 hw)) (mvT hZ110 (Wd87 hw)) (mvT hZ110 (Wd40 hw)) (mvT hZ110 (Wd88 hw)) (by decide) (backOf (W := 0) (c_isi l Z a0 hw [] c0 h110 n0 f113 (hi0.resolve_left hn0)) hZ110 (Wd88 hw) (Wd40 hw) (by decide) (by decide)) (g := (fr_of2 m a1 109 (.val (.int (0 : Int32))) (.val (.int (0 : Int32))) [(.int c0)])) rfl (by rw [hml]; rfl) (argsL := [(.int c0)]) (rest := []) (lenOf pd_78 rfl) rfl (by show 2 * 0 + _ ≤ _; exact Nat.le_of_eq rfl) (hb hby d9_109) (fun _ _ => ⟨rfl, Eq138, (by decide : 2 + 0 ≤ _), (by decide : 76 + 0 ≤ _)⟩)
  dsimp only [Pt.U, Pt.locs, Pt.cells, Pt.slots] at X141 l141 y141 z141 st141 hQ141
  subst l141 y141 z141
  obtain ⟨rfl, Nq141, Eq141⟩ := hQ141
  have N142 := Fr.app Nh140 Nq141
  obtain ⟨Lh143, Xh143, Nh143⟩ := own_hide (cells' := 2) (slots' := 76) X141 N142 (Nat.le_of_ble_eq_true rfl) (Nat.le_of_ble_eq_true rfl)
  refine ownBy st141 ?_
  clear st141
  show ownG p.tables e below _ (T141.setTop (fr_of2 m a1 112 (.val (.int (0 : Int32))) (.val (.int (0 : Int32))) [(.int (1 : Int32))]))
  refine ownBy (A := T141.setTop (fr_of2 m a1 57 (.val (.int (0 : Int32))) (.val (.int (1 : Int32))) [(.ref a1), (.int (1 : Int32))])) (fun t kt => ?_) ?_
  · refine XS.ifYes Xh143.here hx rfl (pc0 := 112) (pc' := 147) rfl (hb hby d9_112) rfl ((if0 _ _).trans (feq ((by decide) : ¬ ((1 : Int32) = (0 : Int32)))).2) (by decide) (by decide) ?_
    show Steps p.tables e below (T141.setTop (fr_of2 m a1 147 (.val (.int (0 : Int32))) (.val (.int (0 : Int32))) [])) t
    refine XS.iinc Xh143.here hx rfl (hb hby d9_147) rfl (l' := #[.val (.ref a1), .val (.int (0 : Int32)), .val (.int (1 : Int32))]) rfl ?_
    show Steps p.tables e below (T141.setTop (fr_of2 m a1 150 (.val (.int (0 : Int32))) (.val (.int (1 : Int32))) [])) t
    refine XS.goto Xh143.here hx rfl (pc0 := 150) (pc' := 55) rfl (hb hby d9_150) (by decide) (by decide) ?_
    show Steps p.tables e below (T141.setTop (fr_of2 m a1 55 (.val (.int (0 : Int32))) (.val (.int (1 : Int32))) [])) t
    refine XS.iloadN Xh143.here hx rfl (hb hby d9_55) rfl ?_
    show Steps p.tables e below (T141.setTop (fr_of2 m a1 56 (.val (.int (0 : Int32))) (.val (.int (1 : Int32))) [(.int (1 : Int32))])) t
    refine XS.aloadN Xh143.here hx rfl (hb hby d9_56) rfl rfl ?_
    exact kt
  obtain ⟨cq144, kq144, q144a, q144b, q144c⟩ := isOf hZ110 Eq141 f118
  obtain ⟨vv144, _, ⟨T144, L144, k144, n144⟩, -, X144, ⟨Lc144, hQ144, l144, y144, z144⟩, st144⟩ := Xh143.virtualBack hx (y := (⟨"java/lang/String", "length", "()I"⟩ : MethodName)) (z := (⟨"java/lang/String", "length", "()I"⟩ : MethodName)) hown110 (mvT hZ110 (Wd54 hw)) (mvT hZ110 (Wd55 hw)) (notFace_of_selects (args := #[]) (mvT hZ110 (Wd57 hw))) (mvT hZ110 (Wd57 hw)) (mvT hZ110 (Wd56 hw)) (by decide) (StrChars.Road.lenW (W := 1) hZ110 hln (kI := 4) (Wd9 hw) f118 f119 f120 f121 hcd117 hbd117 (O2.ext f125.2) P5 (Nat.le_of_ble_eq_true rfl) (by decide) (by decide)) q144a q144c (g := (fr_of2 m a1 57 (.val (.int (0 : Int32))) (.val (.int (1 : Int32))) [(.ref a1), (.int (1 : Int32))])) rfl (by rw [hml]; rfl) (Steps.refl _) (argsL := []) (rest := [(.int (1 : Int32))]) (lenOf pd_62 rfl) rfl (by show 2 * 0 + _ ≤ _; exact Nat.le_of_eq rfl) (hb hby d9_57) (fun _ _ => ⟨rfl, Eq141, (by decide : 2 + 0 ≤ _), (by decide : 76 + 0 ≤ _)⟩)
  dsimp only [Pt.U, Pt.locs, Pt.cells, Pt.slots] at X144 l144 y144 z144 st144 hQ144
  subst l144 y144 z144
  obtain ⟨rfl, rfl, Eq144⟩ := hQ144
  have Nq144 : Fr n0 ([] : List Loc) := Fr.nil n0
  have N145 := Fr.app Nh143 Nq144
  obtain ⟨Lh146, Xh146, Nh146⟩ := own_hide (cells' := 2) (slots' := 76) X144 N145 (Nat.le_of_ble_eq_true rfl) (Nat.le_of_ble_eq_true rfl)
  refine ownSt st144 ?_
  clear st144
  show ownG p.tables e below _ (T144.setTop (fr_of2 m a1 60 (.val (.int (0 : Int32))) (.val (.int (1 : Int32))) [(.int (2 : Int32)), (.int (1 : Int32))]))
  refine ownBy (A := T144.setTop (fr_of2 m a1 65 (.val (.int (0 : Int32))) (.val (.int (1 : Int32))) [(.ref a1), (.int (1 : Int32))])) (fun t kt => ?_) ?_
  · refine XS.icmpNo Xh146.here hx rfl (hb hby d9_60) rfl (flt ((by decide) : ¬ ((2 : Int32) < (1 : Int32)))).2.2.1 ?_
    show Steps p.tables e below (T144.setTop (fr_of2 m a1 63 (.val (.int (0 : Int32))) (.val (.int (1 : Int32))) [])) t
    refine XS.iloadN Xh146.here hx rfl (hb hby d9_63) rfl ?_
    show Steps p.tables e below (T144.setTop (fr_of2 m a1 64 (.val (.int (0 : Int32))) (.val (.int (1 : Int32))) [(.int (1 : Int32))])) t
    refine XS.aloadN Xh146.here hx rfl (hb hby d9_64) rfl rfl ?_
    exact kt
  obtain ⟨cq147, kq147, q147a, q147b, q147c⟩ := isOf hZ110 Eq144 f118
  obtain ⟨vv147, _, ⟨T147, L147, k147, n147⟩, -, X147, ⟨Lc147, hQ147, l147, y147, z147⟩, st147⟩ := Xh146.virtualBack hx (y := (⟨"java/lang/String", "length", "()I"⟩ : MethodName)) (z := (⟨"java/lang/String", "length", "()I"⟩ : MethodName)) hown110 (mvT hZ110 (Wd54 hw)) (mvT hZ110 (Wd55 hw)) (notFace_of_selects (args := #[]) (mvT hZ110 (Wd57 hw))) (mvT hZ110 (Wd57 hw)) (mvT hZ110 (Wd56 hw)) (by decide) (StrChars.Road.lenW (W := 1) hZ110 hln (kI := 4) (Wd9 hw) f118 f119 f120 f121 hcd117 hbd117 (O2.ext f125.2) P5 (Nat.le_of_ble_eq_true rfl) (by decide) (by decide)) q147a q147c (g := (fr_of2 m a1 65 (.val (.int (0 : Int32))) (.val (.int (1 : Int32))) [(.ref a1), (.int (1 : Int32))])) rfl (by rw [hml]; rfl) (Steps.refl _) (argsL := []) (rest := [(.int (1 : Int32))]) (lenOf pd_62 rfl) rfl (by show 2 * 0 + _ ≤ _; exact Nat.le_of_eq rfl) (hb hby d9_65) (fun _ _ => ⟨rfl, Eq144, (by decide : 2 + 0 ≤ _), (by decide : 76 + 0 ≤ _)⟩)
  dsimp only [Pt.U, Pt.locs, Pt.cells, Pt.slots] at X147 l147 y147 z147 st147 hQ147
  subst l147 y147 z147
  obtain ⟨rfl, rfl, Eq147⟩ := hQ147
  have Nq147 : Fr n0 ([] : List Loc) := Fr.nil n0
  have N148 := Fr.app Nh146 Nq147
  obtain ⟨Lh149, Xh149, Nh149⟩ := own_hide (cells' := 2) (slots' := 76) X147 N148 (Nat.le_of_ble_eq_true rfl) (Nat.le_of_ble_eq_true rfl)
  refine ownSt st147 ?_
  clear st147
  show ownG p.tables e below _ (T147.setTop (fr_of2 m a1 68 (.val (.int (0 : Int32))) (.val (.int (1 : Int32))) [(.int (2 : Int32)), (.int (1 : Int32))]))
  refine ownBy (A := T147.setTop (fr_of2 m a1 73 (.val (.int (0 : Int32))) (.val (.int (1 : Int32))) [(.int (1 : Int32)), (.ref a1)])) (fun t kt => ?_) ?_
  · refine XS.icmpNo Xh149.here hx rfl (hb hby d9_68) rfl (feq ((by decide) : ¬ ((1 : Int32) = (2 : Int32)))).1 ?_
    show Steps p.tables e below (T147.setTop (fr_of2 m a1 71 (.val (.int (0 : Int32))) (.val (.int (1 : Int32))) [])) t
    refine XS.aloadN Xh149.here hx rfl (hb hby d9_71) rfl rfl ?_
    show Steps p.tables e below (T147.setTop (fr_of2 m a1 72 (.val (.int (0 : Int32))) (.val (.int (1 : Int32))) [(.ref a1)])) t
    refine XS.iloadN Xh149.here hx rfl (hb hby d9_72) rfl ?_
    exact kt
  obtain ⟨cq150, kq150, q150a, q150b, q150c⟩ := isOf hZ110 Eq147 f118
  obtain ⟨vv150, _, ⟨T150, L150, k150, n150⟩, -, X150, ⟨Lc150, hQ150, l150, y150, z150⟩, st150⟩ := Xh149.virtualBack hx (y := (⟨"java/lang/String", "charAt", "(I)C"⟩ : MethodName)) (z := (⟨"java/lang/String", "charAt", "(I)C"⟩ : MethodName)) hown110 (mvT hZ110 (Wd64 hw)) (mvT hZ110 (Wd65 hw)) (notFace_of_selects (args := #[]) (mvT hZ110 (Wd67 hw))) (mvT hZ110 (Wd67 hw)) (mvT hZ110 (Wd66 hw)) (by decide) (StrChars.Road.chN (W := 0) hZ110 hch (kI := 4) (Wd9 hw) f118 f119 f120 f121 hcd117 hbd117 (O2.ext f125.2) P5 (O4.ext f125.2) rG3 (Nat.le_of_ble_eq_true rfl) (i := 1) (Nat.le_of_ble_eq_true rfl) (j := (1 : Int32)) rfl (by decide) (by decide)) q150a q150c (g := (fr_of2 m a1 73 (.val (.int (0 : Int32))) (.val (.int (1 : Int32))) [(.int (1 : Int32)), (.ref a1)])) rfl (by rw [hml]; rfl) (Steps.refl _) (argsL := [(.int (1 : Int32))]) (rest := []) (lenOf pd_8 rfl) rfl (by show 2 * 0 + _ ≤ _; exact Nat.le_of_eq rfl) (hb hby d9_73) (fun _ _ => ⟨rfl, Eq147, (by decide : 2 + 0 ≤ _), (by decide : 76 + 0 ≤ _)⟩)
  dsimp only [Pt.U, Pt.locs, Pt.cells, Pt.slots] at X150 l150 y150 z150 st150 hQ150
  subst l150 y150 z150
  obtain ⟨rfl, rfl, Eq150⟩ := hQ150
  have Nq150 : Fr n0 ([] : List Loc) := Fr.nil n0
  have N151 := Fr.app Nh149 Nq150
  obtain ⟨Lh152, Xh152, Nh152⟩ := own_hide (cells' := 2) (slots' := 76) X150 N151 (Nat.le_of_ble_eq_true rfl) (Nat.le_of_ble_eq_true rfl)
  refine ownSt st150 ?_
  clear st150
  show ownG p.tables e below _ (T150.setTop (fr_of2 m a1 76 (.val (.int (0 : Int32))) (.val (.int (1 : Int32))) [(.int c1)]))
  refine ownBy (A := T150.setTop (fr_of2 m a1 106 (.val (.int (0 : Int32))) (.val (.int (1 : Int32))) [(.int (1 : Int32)), (.ref a1)])) (fun t kt => ?_) ?_
  · refine XS.bipush Xh152.here hx rfl (hb hby d9_76) ?_
    show Steps p.tables e below (T150.setTop (fr_of2 m a1 78 (.val (.int (0 : Int32))) (.val (.int (1 : Int32))) [(.int (46 : Int32)), (.int c1)])) t
    refine XS.icmpYes Xh152.here hx rfl (pc0 := 78) (pc' := 104) rfl (hb hby d9_78) rfl (feq hnl).2 (by decide) (by decide) ?_
    show Steps p.tables e below (T150.setTop (fr_of2 m a1 104 (.val (.int (0 : Int32))) (.val (.int (1 : Int32))) [])) t
    refine XS.aloadN Xh152.here hx rfl (hb hby d9_104) rfl rfl ?_
    show Steps p.tables e below (T150.setTop (fr_of2 m a1 105 (.val (.int (0 : Int32))) (.val (.int (1 : Int32))) [(.ref a1)])) t
    refine XS.iloadN Xh152.here hx rfl (hb hby d9_105) rfl ?_
    exact kt
  obtain ⟨cq153, kq153, q153a, q153b, q153c⟩ := isOf hZ110 Eq150 f118
  obtain ⟨vv153, _, ⟨T153, L153, k153, n153⟩, -, X153, ⟨Lc153, hQ153, l153, y153, z153⟩, st153⟩ := Xh152.virtualBack hx (y := (⟨"java/lang/String", "charAt", "(I)C"⟩ : MethodName)) (z := (⟨"java/lang/String", "charAt", "(I)C"⟩ : MethodName)) hown110 (mvT hZ110 (Wd64 hw)) (mvT hZ110 (Wd65 hw)) (notFace_of_selects (args := #[]) (mvT hZ110 (Wd67 hw))) (mvT hZ110 (Wd67 hw)) (mvT hZ110 (Wd66 hw)) (by decide) (StrChars.Road.chN (W := 0) hZ110 hch (kI := 4) (Wd9 hw) f118 f119 f120 f121 hcd117 hbd117 (O2.ext f125.2) P5 (O4.ext f125.2) rG3 (Nat.le_of_ble_eq_true rfl) (i := 1) (Nat.le_of_ble_eq_true rfl) (j := (1 : Int32)) rfl (by decide) (by decide)) q153a q153c (g := (fr_of2 m a1 106 (.val (.int (0 : Int32))) (.val (.int (1 : Int32))) [(.int (1 : Int32)), (.ref a1)])) rfl (by rw [hml]; rfl) (Steps.refl _) (argsL := [(.int (1 : Int32))]) (rest := []) (lenOf pd_8 rfl) rfl (by show 2 * 0 + _ ≤ _; exact Nat.le_of_eq rfl) (hb hby d9_106) (fun _ _ => ⟨rfl, Eq150, (by decide : 2 + 0 ≤ _), (by decide : 76 + 0 ≤ _)⟩)
  dsimp only [Pt.U, Pt.locs, Pt.cells, Pt.slots] at X153 l153 y153 z153 st153 hQ153
  subst l153 y153 z153
  obtain ⟨rfl, rfl, Eq153⟩ := hQ153
  have Nq153 : Fr n0 ([] : List Loc) := Fr.nil n0
  have N154 := Fr.app Nh152 Nq153
  obtain ⟨Lh155, Xh155, Nh155⟩ := own_hide (cells' := 2) (slots' := 76) X153 N154 (Nat.le_of_ble_eq_true rfl) (Nat.le_of_ble_eq_true rfl)
  refine ownSt st153 ?_
  clear st153
  show ownG p.tables e below _ (T153.setTop (fr_of2 m a1 109 (.val (.int (0 : Int32))) (.val (.int (1 : Int32))) [(.int c1)]))
  obtain ⟨vv156, _, ⟨T156, L156, k156, n156⟩, -, X156, ⟨Lc156, hQ156, l156, y156, z156⟩, st156⟩ := Jvm.LawKit.callS Xh155 hx (y := (⟨"com/example/boring_outbox/boringoutbox/EventType", "isIdentifierCharacter", "(C)Z"⟩ : MethodName)) hown110 (mvT hZ110 (Wd86 hw)) (mvT hZ110 (Wd87 hw)) (mvT hZ110 (Wd40 hw)) (mvT hZ110 (Wd88 hw)) (by decide) (backOf (W := 0) (c_isi l Z a0 hw [] c1 h110 n0 f113 (hi1.resolve_left hnl)) hZ110 (Wd88 hw) (Wd40 hw) (by decide) (by decide)) (g := (fr_of2 m a1 109 (.val (.int (0 : Int32))) (.val (.int (1 : Int32))) [(.int c1)])) rfl (by rw [hml]; rfl) (argsL := [(.int c1)]) (rest := []) (lenOf pd_78 rfl) rfl (by show 2 * 0 + _ ≤ _; exact Nat.le_of_eq rfl) (hb hby d9_109) (fun _ _ => ⟨rfl, Eq153, (by decide : 2 + 0 ≤ _), (by decide : 76 + 0 ≤ _)⟩)
  dsimp only [Pt.U, Pt.locs, Pt.cells, Pt.slots] at X156 l156 y156 z156 st156 hQ156
  subst l156 y156 z156
  obtain ⟨rfl, Nq156, Eq156⟩ := hQ156
  have N157 := Fr.app Nh155 Nq156
  obtain ⟨Lh158, Xh158, Nh158⟩ := own_hide (cells' := 2) (slots' := 76) X156 N157 (Nat.le_of_ble_eq_true rfl) (Nat.le_of_ble_eq_true rfl)
  refine ownBy st156 ?_
  clear st156
  show ownG p.tables e below _ (T156.setTop (fr_of2 m a1 112 (.val (.int (0 : Int32))) (.val (.int (1 : Int32))) [(.int (1 : Int32))]))
  refine ownBy (A := T156.setTop (fr_of2 m a1 57 (.val (.int (0 : Int32))) (.val (.int (2 : Int32))) [(.ref a1), (.int (2 : Int32))])) (fun t kt => ?_) ?_
  · refine XS.ifYes Xh158.here hx rfl (pc0 := 112) (pc' := 147) rfl (hb hby d9_112) rfl ((if0 _ _).trans (feq ((by decide) : ¬ ((1 : Int32) = (0 : Int32)))).2) (by decide) (by decide) ?_
    show Steps p.tables e below (T156.setTop (fr_of2 m a1 147 (.val (.int (0 : Int32))) (.val (.int (1 : Int32))) [])) t
    refine XS.iinc Xh158.here hx rfl (hb hby d9_147) rfl (l' := #[.val (.ref a1), .val (.int (0 : Int32)), .val (.int (2 : Int32))]) rfl ?_
    show Steps p.tables e below (T156.setTop (fr_of2 m a1 150 (.val (.int (0 : Int32))) (.val (.int (2 : Int32))) [])) t
    refine XS.goto Xh158.here hx rfl (pc0 := 150) (pc' := 55) rfl (hb hby d9_150) (by decide) (by decide) ?_
    show Steps p.tables e below (T156.setTop (fr_of2 m a1 55 (.val (.int (0 : Int32))) (.val (.int (2 : Int32))) [])) t
    refine XS.iloadN Xh158.here hx rfl (hb hby d9_55) rfl ?_
    show Steps p.tables e below (T156.setTop (fr_of2 m a1 56 (.val (.int (0 : Int32))) (.val (.int (2 : Int32))) [(.int (2 : Int32))])) t
    refine XS.aloadN Xh158.here hx rfl (hb hby d9_56) rfl rfl ?_
    exact kt
  obtain ⟨cq159, kq159, q159a, q159b, q159c⟩ := isOf hZ110 Eq156 f118
  obtain ⟨vv159, _, ⟨T159, L159, k159, n159⟩, -, X159, ⟨Lc159, hQ159, l159, y159, z159⟩, st159⟩ := Xh158.virtualBack hx (y := (⟨"java/lang/String", "length", "()I"⟩ : MethodName)) (z := (⟨"java/lang/String", "length", "()I"⟩ : MethodName)) hown110 (mvT hZ110 (Wd54 hw)) (mvT hZ110 (Wd55 hw)) (notFace_of_selects (args := #[]) (mvT hZ110 (Wd57 hw))) (mvT hZ110 (Wd57 hw)) (mvT hZ110 (Wd56 hw)) (by decide) (StrChars.Road.lenW (W := 1) hZ110 hln (kI := 4) (Wd9 hw) f118 f119 f120 f121 hcd117 hbd117 (O2.ext f125.2) P5 (Nat.le_of_ble_eq_true rfl) (by decide) (by decide)) q159a q159c (g := (fr_of2 m a1 57 (.val (.int (0 : Int32))) (.val (.int (2 : Int32))) [(.ref a1), (.int (2 : Int32))])) rfl (by rw [hml]; rfl) (Steps.refl _) (argsL := []) (rest := [(.int (2 : Int32))]) (lenOf pd_62 rfl) rfl (by show 2 * 0 + _ ≤ _; exact Nat.le_of_eq rfl) (hb hby d9_57) (fun _ _ => ⟨rfl, Eq156, (by decide : 2 + 0 ≤ _), (by decide : 76 + 0 ≤ _)⟩)
  dsimp only [Pt.U, Pt.locs, Pt.cells, Pt.slots] at X159 l159 y159 z159 st159 hQ159
  subst l159 y159 z159
  obtain ⟨rfl, rfl, Eq159⟩ := hQ159
  have Nq159 : Fr n0 ([] : List Loc) := Fr.nil n0
  have N160 := Fr.app Nh158 Nq159
  obtain ⟨Lh161, Xh161, Nh161⟩ := own_hide (cells' := 2) (slots' := 76) X159 N160 (Nat.le_of_ble_eq_true rfl) (Nat.le_of_ble_eq_true rfl)
  refine ownSt st159 ?_
  clear st159
  show ownG p.tables e below _ (T159.setTop (fr_of2 m a1 60 (.val (.int (0 : Int32))) (.val (.int (2 : Int32))) [(.int (2 : Int32)), (.int (2 : Int32))]))
  refine ownBy (A := T159.setTop (fr_of2 m a1 65 (.val (.int (0 : Int32))) (.val (.int (2 : Int32))) [(.ref a1), (.int (2 : Int32))])) (fun t kt => ?_) ?_
  · refine XS.icmpNo Xh161.here hx rfl (hb hby d9_60) rfl (flt ((by decide) : ¬ ((2 : Int32) < (2 : Int32)))).2.2.1 ?_
    show Steps p.tables e below (T159.setTop (fr_of2 m a1 63 (.val (.int (0 : Int32))) (.val (.int (2 : Int32))) [])) t
    refine XS.iloadN Xh161.here hx rfl (hb hby d9_63) rfl ?_
    show Steps p.tables e below (T159.setTop (fr_of2 m a1 64 (.val (.int (0 : Int32))) (.val (.int (2 : Int32))) [(.int (2 : Int32))])) t
    refine XS.aloadN Xh161.here hx rfl (hb hby d9_64) rfl rfl ?_
    exact kt
  obtain ⟨cq162, kq162, q162a, q162b, q162c⟩ := isOf hZ110 Eq159 f118
  obtain ⟨vv162, _, ⟨T162, L162, k162, n162⟩, -, X162, ⟨Lc162, hQ162, l162, y162, z162⟩, st162⟩ := Xh161.virtualBack hx (y := (⟨"java/lang/String", "length", "()I"⟩ : MethodName)) (z := (⟨"java/lang/String", "length", "()I"⟩ : MethodName)) hown110 (mvT hZ110 (Wd54 hw)) (mvT hZ110 (Wd55 hw)) (notFace_of_selects (args := #[]) (mvT hZ110 (Wd57 hw))) (mvT hZ110 (Wd57 hw)) (mvT hZ110 (Wd56 hw)) (by decide) (StrChars.Road.lenW (W := 1) hZ110 hln (kI := 4) (Wd9 hw) f118 f119 f120 f121 hcd117 hbd117 (O2.ext f125.2) P5 (Nat.le_of_ble_eq_true rfl) (by decide) (by decide)) q162a q162c (g := (fr_of2 m a1 65 (.val (.int (0 : Int32))) (.val (.int (2 : Int32))) [(.ref a1), (.int (2 : Int32))])) rfl (by rw [hml]; rfl) (Steps.refl _) (argsL := []) (rest := [(.int (2 : Int32))]) (lenOf pd_62 rfl) rfl (by show 2 * 0 + _ ≤ _; exact Nat.le_of_eq rfl) (hb hby d9_65) (fun _ _ => ⟨rfl, Eq159, (by decide : 2 + 0 ≤ _), (by decide : 76 + 0 ≤ _)⟩)
  dsimp only [Pt.U, Pt.locs, Pt.cells, Pt.slots] at X162 l162 y162 z162 st162 hQ162
  subst l162 y162 z162
  obtain ⟨rfl, rfl, Eq162⟩ := hQ162
  have Nq162 : Fr n0 ([] : List Loc) := Fr.nil n0
  have N163 := Fr.app Nh161 Nq162
  obtain ⟨Lh164, Xh164, Nh164⟩ := own_hide (cells' := 2) (slots' := 76) X162 N163 (Nat.le_of_ble_eq_true rfl) (Nat.le_of_ble_eq_true rfl)
  refine ownSt st162 ?_
  clear st162
  show ownG p.tables e below _ (T162.setTop (fr_of2 m a1 68 (.val (.int (0 : Int32))) (.val (.int (2 : Int32))) [(.int (2 : Int32)), (.int (2 : Int32))]))
  refine ownBy (A := T162.setTop (fr_of2 m a1 57 (.val (.int (3 : Int32))) (.val (.int (3 : Int32))) [(.ref a1), (.int (3 : Int32))])) (fun t kt => ?_) ?_
  · refine XS.icmpYes Xh164.here hx rfl (pc0 := 68) (pc' := 81) rfl (hb hby d9_68) rfl (teq ((by decide) : (2 : Int32) = (2 : Int32))).1 (by decide) (by decide) ?_
    show Steps p.tables e below (T162.setTop (fr_of2 m a1 81 (.val (.int (0 : Int32))) (.val (.int (2 : Int32))) [])) t
    refine XS.iloadN Xh164.here hx rfl (hb hby d9_81) rfl ?_
    show Steps p.tables e below (T162.setTop (fr_of2 m a1 82 (.val (.int (0 : Int32))) (.val (.int (2 : Int32))) [(.int (2 : Int32))])) t
    refine XS.iloadN Xh164.here hx rfl (hb hby d9_82) rfl ?_
    show Steps p.tables e below (T162.setTop (fr_of2 m a1 83 (.val (.int (0 : Int32))) (.val (.int (2 : Int32))) [(.int (0 : Int32)), (.int (2 : Int32))])) t
    refine XS.icmpYes Xh164.here hx rfl (pc0 := 83) (pc' := 97) rfl (hb hby d9_83) rfl (feq ((by decide) : ¬ ((2 : Int32) = (0 : Int32)))).2 (by decide) (by decide) ?_
    show Steps p.tables e below (T162.setTop (fr_of2 m a1 97 (.val (.int (0 : Int32))) (.val (.int (2 : Int32))) [])) t
    refine XS.iloadN Xh164.here hx rfl (hb hby d9_97) rfl ?_
    show Steps p.tables e below (T162.setTop (fr_of2 m a1 98 (.val (.int (0 : Int32))) (.val (.int (2 : Int32))) [(.int (2 : Int32))])) t
    refine XS.iconst Xh164.here hx rfl (hb hby d9_98) ?_
    show Steps p.tables e below (T162.setTop (fr_of2 m a1 99 (.val (.int (0 : Int32))) (.val (.int (2 : Int32))) [(.int (1 : Int32)), (.int (2 : Int32))])) t
    refine XS.iadd Xh164.here hx rfl (hb hby d9_99) rfl ?_
    show Steps p.tables e below (T162.setTop (fr_of2 m a1 100 (.val (.int (0 : Int32))) (.val (.int (2 : Int32))) [(.int (3 : Int32))])) t
    refine XS.istoreN Xh164.here hx rfl (hb hby d9_100) rfl (l' := #[.val (.ref a1), .val (.int (3 : Int32)), .val (.int (2 : Int32))]) rfl ?_
    show Steps p.tables e below (T162.setTop (fr_of2 m a1 101 (.val (.int (3 : Int32))) (.val (.int (2 : Int32))) [])) t
    refine XS.goto Xh164.here hx rfl (pc0 := 101) (pc' := 147) rfl (hb hby d9_101) (by decide) (by decide) ?_
    show Steps p.tables e below (T162.setTop (fr_of2 m a1 147 (.val (.int (3 : Int32))) (.val (.int (2 : Int32))) [])) t
    refine XS.iinc Xh164.here hx rfl (hb hby d9_147) rfl (l' := #[.val (.ref a1), .val (.int (3 : Int32)), .val (.int (3 : Int32))]) rfl ?_
    show Steps p.tables e below (T162.setTop (fr_of2 m a1 150 (.val (.int (3 : Int32))) (.val (.int (3 : Int32))) [])) t
    refine XS.goto Xh164.here hx rfl (pc0 := 150) (pc' := 55) rfl (hb hby d9_150) (by decide) (by decide) ?_
    show Steps p.tables e below (T162.setTop (fr_of2 m a1 55 (.val (.int (3 : Int32))) (.val (.int (3 : Int32))) [])) t
    refine XS.iloadN Xh164.here hx rfl (hb hby d9_55) rfl ?_
    show Steps p.tables e below (T162.setTop (fr_of2 m a1 56 (.val (.int (3 : Int32))) (.val (.int (3 : Int32))) [(.int (3 : Int32))])) t
    refine XS.aloadN Xh164.here hx rfl (hb hby d9_56) rfl rfl ?_
    exact kt
  obtain ⟨cq165, kq165, q165a, q165b, q165c⟩ := isOf hZ110 Eq162 f118
  obtain ⟨vv165, _, ⟨T165, L165, k165, n165⟩, -, X165, ⟨Lc165, hQ165, l165, y165, z165⟩, st165⟩ := Xh164.virtualBack hx (y := (⟨"java/lang/String", "length", "()I"⟩ : MethodName)) (z := (⟨"java/lang/String", "length", "()I"⟩ : MethodName)) hown110 (mvT hZ110 (Wd54 hw)) (mvT hZ110 (Wd55 hw)) (notFace_of_selects (args := #[]) (mvT hZ110 (Wd57 hw))) (mvT hZ110 (Wd57 hw)) (mvT hZ110 (Wd56 hw)) (by decide) (StrChars.Road.lenW (W := 1) hZ110 hln (kI := 4) (Wd9 hw) f118 f119 f120 f121 hcd117 hbd117 (O2.ext f125.2) P5 (Nat.le_of_ble_eq_true rfl) (by decide) (by decide)) q165a q165c (g := (fr_of2 m a1 57 (.val (.int (3 : Int32))) (.val (.int (3 : Int32))) [(.ref a1), (.int (3 : Int32))])) rfl (by rw [hml]; rfl) (Steps.refl _) (argsL := []) (rest := [(.int (3 : Int32))]) (lenOf pd_62 rfl) rfl (by show 2 * 0 + _ ≤ _; exact Nat.le_of_eq rfl) (hb hby d9_57) (fun _ _ => ⟨rfl, Eq162, (by decide : 2 + 0 ≤ _), (by decide : 76 + 0 ≤ _)⟩)
  dsimp only [Pt.U, Pt.locs, Pt.cells, Pt.slots] at X165 l165 y165 z165 st165 hQ165
  subst l165 y165 z165
  obtain ⟨rfl, rfl, Eq165⟩ := hQ165
  have Nq165 : Fr n0 ([] : List Loc) := Fr.nil n0
  have N166 := Fr.app Nh164 Nq165
  obtain ⟨Lh167, Xh167, Nh167⟩ := own_hide (cells' := 2) (slots' := 76) X165 N166 (Nat.le_of_ble_eq_true rfl) (Nat.le_of_ble_eq_true rfl)
  refine ownSt st165 ?_
  clear st165
  show ownG p.tables e below _ (T165.setTop (fr_of2 m a1 60 (.val (.int (3 : Int32))) (.val (.int (3 : Int32))) [(.int (2 : Int32)), (.int (3 : Int32))]))
  refine ownBy (A := T165.setTop (fr_of2 m a1 153 (.val (.int (3 : Int32))) (.val (.int (3 : Int32))) [])) (fun t kt => ?_) ?_
  · refine XS.icmpYes Xh167.here hx rfl (pc0 := 60) (pc' := 153) rfl (hb hby d9_60) rfl (tlt ((by decide) : (2 : Int32) < (3 : Int32))).2.2.1 (by decide) (by decide) ?_
    exact kt
  obtain ⟨T168, h168, X168, e168, E168, A168, D168, -, st168⟩ := newO Xh167 hx hZ110 hown110 (Wd89 hw) (Wd90 hw) (Wd40 hw) Eq165 (g := (fr_of2 m a1 153 (.val (.int (3 : Int32))) (.val (.int (3 : Int32))) [])) rfl (hb hby d9_153) (by decide) (by decide)
  obtain ⟨b168, g168⟩ : ∃ z, z = h110.size := ⟨_, rfl⟩
  rw [← g168] at A168 D168 st168
  have ne169 : a1 ≠ b168 := Nat.ne_of_lt (Nat.lt_of_lt_of_le f118.lt (Nat.le_of_eq g168.symm))
  have ne170 : t1 ≠ b168 := Nat.ne_of_lt (Nat.lt_of_lt_of_le f121.lt (Nat.le_of_eq g168.symm))
  have g171 : n0 ≤ b168 := Nat.le_trans f113 (Nat.le_of_eq g168.symm)
  have sf172 : Safe Z ownEL T110.vm h110 b168 := Safe.new (Nat.le_of_eq g168.symm)
  have f174 := ((Keep.refl h0 []).ext E110)
  have z173 : h0.size ≤ b168 := Nat.le_trans f174.1 (Nat.le_of_eq g168.symm)
  have R175 := R112.trans (CHr.ext E168 R112.1)
  have sf176 := Safe.ext E168 R112.1 sf172
  have F177 : Fld Z h168 b168 "com/example/boring_outbox/boringoutbox/EventType" "name" "Ljava/lang/String;" .null := D168 (Or.inr (Wd96 hw)) (ty := (.object "java/lang/String")) (by decide)
  refine ownBy st168 ?_
  clear st168
  show ownG p.tables e below _ (T168.setTop (fr_of2 m a1 156 (.val (.int (3 : Int32))) (.val (.int (3 : Int32))) [(.ref b168)]))
  refine ownBy (A := T168.setTop (fr_of2 m a1 158 (.val (.int (3 : Int32))) (.val (.int (3 : Int32))) [(.ref a1), (.ref b168), (.ref b168)])) (fun t kt => ?_) ?_
  · refine XS.dup X168.here hx rfl (hb hby d9_156) rfl rfl ?_
    show Steps p.tables e below (T168.setTop (fr_of2 m a1 157 (.val (.int (3 : Int32))) (.val (.int (3 : Int32))) [(.ref b168), (.ref b168)])) t
    refine XS.aloadN X168.here hx rfl (hb hby d9_157) rfl rfl ?_
    exact kt
  have f178 := (Nat.le_trans f113 E168.1)
  obtain ⟨vv179, _, ⟨T179, L179, k179, n179⟩, -, X179, ⟨Lc179, hQ179, l179, y179, z179⟩, st179⟩ := X168.specialBack hx (y := (⟨"com/example/boring_outbox/boringoutbox/EventType", "<init>", "(Ljava/lang/String;)V"⟩ : MethodName)) rfl hown110 (mvT hZ110 (Wd91 hw)) (mvT hZ110 (Wd92 hw)) (mvT hZ110 (Wd93 hw)) (by decide) (backOf (W := 1) (c_ein l Z a0 hw [] b168 a1 _ h168 n0 f178 A168 F177 g171) hZ110 (Wd93 hw) (Wd40 hw) (by decide) (by decide)) (g := (fr_of2 m a1 158 (.val (.int (3 : Int32))) (.val (.int (3 : Int32))) [(.ref a1), (.ref b168), (.ref b168)])) rfl (by rw [hml]; rfl) (Steps.refl _) (a := b168) (argsL := [(.ref a1)]) (rest := [(.ref b168)]) (lenOf pd_102 rfl) rfl (by show 2 * 0 + _ ≤ _; exact Nat.le_of_eq rfl) (hb hby d9_158) (fun _ _ => ⟨rfl, e168, (by decide : 3 + 0 ≤ _), (by decide : 77 + 0 ≤ _)⟩)
  dsimp only [Pt.U, Pt.locs, Pt.cells, Pt.slots] at X179 l179 y179 z179 st179 hQ179
  subst l179 y179 z179
  obtain ⟨rfl, Nq179, Kq179, Fa179⟩ := hQ179
  have N180 := Fr.app Nh167 Nq179
  have R181 := R175.trans (CHr.keep Kq179 (sfS sf176 sf0) R175.1)
  have sf182 := Safe.keep Kq179 (sfS sf176 sf0) R175.1 sf176
  obtain ⟨Lh183, Xh183, Nh183⟩ := own_hide (cells' := 3) (slots' := 77) X179 N180 (Nat.le_of_ble_eq_true rfl) (Nat.le_of_ble_eq_true rfl)
  refine ownSt st179 ?_
  clear st179
  show ownG p.tables e below _ (T179.setTop (fr_of2 m a1 161 (.val (.int (3 : Int32))) (.val (.int (3 : Int32))) [(.ref b168)]))
  have f184 := ((f174.ext E168).trans Kq179 (allS (Or.inr z173) all0))
  have f185 := (A168.keep Kq179)
  refine ownRetH Xh183 hS110 (Nat.le_trans (Nat.le_trans hk110 E168.1) Kq179.1) Bd.notSynchronized (v := some (.ref b168)) (fun h => by rw [Bd.returns] at h; cases h) ?_ (R181.trans (CHv.at Xh183 hZ110 hEL R181.1)) (Nat.le_of_ble_eq_true rfl) (Nat.le_of_ble_eq_true rfl) (fun fs hr => retOut Xh183 hx Bd.returns rfl (Or.inr (Or.inr (Or.inr (Or.inr ⟨rfl, rfl, rfl⟩)))) (hb hby d9_161) hr)
  show (Q_of2 Z a1 t1 kb1 c0 c1 G1 G3 h0 n0) (some (.ref b168)) T179.heap _
  exact ⟨b168, rfl, Nh183, f184, z173, f185, Fa179⟩
abbrev fr_of3 (m : MethodId) (a1 : Addr) (pc : Nat) (x1_ x2_ : Slot) (st : List Value) : JFrame := mkF m pc #[.val (.ref a1), x1_, x2_] st
def Q_of3 (Z : State) (a1 : Addr) (t1 : Addr) (kb1 : ClassId) (c0 : Int32) (c1 : Int32) (c2 : Int32) (G1 : Int32) (G3 : Value) (h0 : Heap) (n0 : Nat) (v : Option Value) (h : Heap) (L : List Loc) : Prop := ∃ x : Addr, v = some (.ref x) ∧ Fr n0 L ∧ Keep h0 h [] ∧ h0.size ≤ x ∧ Exa Z h x "com/example/boring_outbox/boringoutbox/EventType" ∧ Fld Z h x "com/example/boring_outbox/boringoutbox/EventType" "name" "Ljava/lang/String;" (.ref a1)
theorem ef_of3 (m : MethodId) (x0 : Addr)  : entryFrame m #[(.ref x0)] 3 = mkF m 0 #[.val (.ref x0), .unset, .unset] [] := by first | (simp [entryFrame, mkF, argsToLocals, Value.category]; done) | rfl
set_option maxRecDepth 65536 in
set_option maxHeartbeats 40000000 in
theorem c_of3 (l : Launch) (Z : State) (a0 : Array Value) (hw : ∀ d ∈ tables_1, d.before a0 Z = true) (ws : List Jvm.Cond) (a1 : Addr) (t1 : Addr) (kb1 : ClassId) (c0 : Int32) (c1 : Int32) (c2 : Int32) (G1 : Int32) (G3 : Value) (h0 : Heap) (n0 : Nat) (Z0 : n0 ≤ h0.size) (Es : Exa Z h0 a1 "java/lang/String") (Vs : Fld Z h0 a1 "java/lang/String" "value" "[B" (.ref t1)) (Cs : Fld Z h0 a1 "java/lang/String" "coder" "B" (.int (0 : Int32))) (Ks : Arv Z h0 t1 kb1 .byte (3 : Int32) ((([c0, c1, c2] : List Int32).map (fun c => c.toInt8.toInt32)).map Value.int) (.int (0 : Int32))) (hp : ∀ c ∈ ([c0, c1, c2] : List Int32), ¬ c < 0 ∧ ¬ (255 : Int32) < c) (hi0 : c0 = 46 ∨ ownId c0) (hi1 : c1 = 46 ∨ ownId c1) (hi2 : c2 = 46 ∨ ownId c2) (hn0 : ¬ (c0 = (46 : Int32))) (hnl : ¬ (c2 = (46 : Int32))) (O2 : Sta Z Z.heap "java/lang/String" "COMPACT_STRINGS" "Z" (.int G1)) (P5 : ¬ (G1 = (0 : Int32))) (X00 : Old Z n0 h0) (O4 : Sta Z Z.heap "jdk/internal/util/Preconditions" "SIOOBE_FORMATTER" "Ljava/util/function/BiFunction;" G3) (rG3 : G3.isRef = true) :
    MetFree l (⟨"com/example/boring_outbox/boringoutbox/EventType", "of", "(Ljava/lang/String;)Lcom/example/boring_outbox/boringoutbox/EventType;"⟩ : MethodName) (head1 (Jvm.Cond.code (⟨"com/example/boring_outbox/boringoutbox/EventType", "of", "(Ljava/lang/String;)Lcom/example/boring_outbox/boringoutbox/EventType;"⟩ : MethodName) prog_15_method_2_code 3 (some (.object "com/example/boring_outbox/boringoutbox/EventType")) :: ws) ({ frames := 4, cells := 3, slots := 77, locals := 66 } : Room)) (fun a U => a = #[(.ref a1)] ∧ Z.Warmed39 U.vm ∧ U.heap = h0 ∧ CHv Z ownEL U.vm h0) (fun _ _ _ _ _ => True) (fun _ U o U' => ∃ v L, o = .returned v ∧ (Q_of3 Z a1 t1 kb1 c0 c1 c2 G1 G3 h0 n0) v U'.heap L ∧ CHr Z ownEL U.vm U.heap U'.vm U'.heap ∧ ReturnedEndW U o U' L ({ frames := 4, cells := 3, slots := 77, locals := 66 } : Room).cells ({ frames := 4, cells := 3, slots := 77, locals := 66 } : Room).slots) := by
  refine MetFree.of_bodySF (plainFor_of_name pn_11) hisR ?_
  intro p e s m args below meth c s₁ Bd hml0 hP hK
  obtain ⟨rfl, hZ, hHp, hCH⟩ := hP
  have hx := Bd.exec
  have hby := Bd.bytes
  have hml : c.maxLocals = 3 := hml0
  have hown : s.vm.findClass "com/example/boring_outbox/boringoutbox/EventType" = some m.cls := findClass_of_methodNamed Bd.named
  have hnm := (name_of_methodNamed Bd.named Bd.method).1
  have X0 : Stand p l e ({ frames := 4, cells := 3, slots := 77, locals := 66 } : Room) (s.setVm s.vm) m #[(.ref a1)] below meth c s₁ [] 0 0 := Stand.of_body Bd
  have e0 : s₁.heap = h0 := by rw [← hHp, Bd.state]; rfl
  have N0 := Fr.nil n0
  refine ownOutH hHp (P := (Q_of3 Z a1 t1 kb1 c0 c1 c2 G1 G3 h0 n0)) ?_
  refine ownBy (A := s₁.setTop (mkF m 0 #[.val (.ref a1), .unset, .unset] [])) (fun t k => castTop (ef_of3 m a1) k) ?_
  have hS0 : s.Since s.vm h0.size := own_since
  have hEL := own_EW hw
  have R0 := CHr.refl hCH
  have wS := own_wS hw
  have hln : ∀ d ∈ StrChars.Road.wordsLen, d.before a0 Z = true := fun d hd => hw d ((by decide +kernel : ∀ d ∈ StrChars.Road.wordsLen, d ∈ tables_1) d hd)
  have hem : ∀ d ∈ StrChars.Road.wordsEmp, d.before a0 Z = true := fun d hd => hw d ((by decide +kernel : ∀ d ∈ StrChars.Road.wordsEmp, d ∈ tables_1) d hd)
  have hch : ∀ d ∈ StrChars.Road.wordsChN, d.before a0 Z = true := fun d hd => hw d ((by decide +kernel : ∀ d ∈ StrChars.Road.wordsChN, d ∈ tables_1) d hd)
  refine ownBy (A := s₁.setTop (fr_of3 m a1 1 .unset .unset [(.ref a1)])) (fun t kt => ?_) ?_
  · refine XS.aloadN X0.here hx rfl (hb hby d9_0) rfl rfl ?_
    exact kt
  obtain ⟨a187, T187, h187, k187, X187, e187, E187, hS187, hk187, hZ187, hown187, hC187, Lt187, st187⟩ := ldcOH (text := "event type is null") X0 hx hZ hown (Wd42 hw) wS e0 hS0 (Nat.le_refl _) hEL R0.1 (g := (fr_of3 m a1 1 .unset .unset [(.ref a1)])) rfl (hb hby d9_1) (n := 72) (by decide) (by decide) (by decide) (by decide)
  have R189 := R0.trans hC187
  refine ownBy st187 ?_
  clear st187
  show ownG p.tables e below _ (T187.setTop (fr_of3 m a1 3 .unset .unset [(.ref a187), (.ref a1)]))
  have f190 := (Nat.le_trans Z0 E187.1)
  obtain ⟨vv191, _, ⟨T191, L191, k191, n191⟩, -, X191, ⟨Lc191, hQ191, l191, y191, z191⟩, st191⟩ := Jvm.LawKit.callS X187 hx (y := (⟨"java/util/Objects", "requireNonNull", "(Ljava/lang/Object;Ljava/lang/String;)Ljava/lang/Object;"⟩ : MethodName)) hown187 (mvT hZ187 (Wd45 hw)) (mvT hZ187 (Wd46 hw)) (mvT hZ187 (Wd47 hw)) (mvT hZ187 (Wd48 hw)) (by decide) (backOf (W := 0) (c_rnn l Z a0 hw [] a1 a187 h187 n0 f190 ) hZ187 (Wd48 hw) (Wd47 hw) (by decide) (by decide)) (g := (fr_of3 m a1 3 .unset .unset [(.ref a187), (.ref a1)])) rfl (by rw [hml]; rfl) (argsL := [(.ref a1), (.ref a187)]) (rest := []) (lenOf pd_48 rfl) rfl (by show 2 * 0 + _ ≤ _; exact Nat.le_of_eq rfl) (hb hby d9_3) (fun _ _ => ⟨rfl, e187, (by decide : 2 + 0 ≤ _), (by decide : 76 + 0 ≤ _)⟩)
  dsimp only [Pt.U, Pt.locs, Pt.cells, Pt.slots] at X191 l191 y191 z191 st191 hQ191
  subst l191 y191 z191
  obtain ⟨rfl, Nq191, Eq191⟩ := hQ191
  have N192 := Fr.app N0 Nq191
  obtain ⟨Lh193, Xh193, Nh193⟩ := own_hide (cells' := 2) (slots' := 76) X191 N192 (Nat.le_of_ble_eq_true rfl) (Nat.le_of_ble_eq_true rfl)
  refine ownBy st191 ?_
  clear st191
  show ownG p.tables e below _ (T191.setTop (fr_of3 m a1 6 .unset .unset [(.ref a1)]))
  refine ownBy (A := T191.setTop (fr_of3 m a1 8 .unset .unset [(.ref a1)])) (fun t kt => ?_) ?_
  · refine XS.pop Xh193.here hx rfl (hb hby d9_6) rfl rfl ?_
    show Steps p.tables e below (T191.setTop (fr_of3 m a1 7 .unset .unset [])) t
    refine XS.aloadN Xh193.here hx rfl (hb hby d9_7) rfl rfl ?_
    exact kt
  have hcd194 : StrChars.Road.CodA ([c0, c1, c2] : List Int32) 0 (3 : Int32) ((([c0, c1, c2] : List Int32).map (fun c => c.toInt8.toInt32)).map Value.int) := StrChars.Road.codOf (n := 3) rfl (fun x hx => (hp x hx).2)
  have hbd194 : ∀ x ∈ ([c0, c1, c2] : List Int32), ¬ x < 0 ∧ ¬ (65535 : Int32) < x := own_up _ hp
  have f195 := (Es.ext E187)
  have f196 := (Vs.ext E187)
  have f197 := (Cs.ext E187)
  have f198 := (Ks.ext E187)
  obtain ⟨cq199, kq199, q199a, q199b, q199c⟩ := isOf hZ187 Eq191 f195
  obtain ⟨vv199, _, ⟨T199, L199, k199, n199⟩, -, X199, ⟨Lc199, hQ199, l199, y199, z199⟩, st199⟩ := Xh193.virtualBack hx (y := (⟨"java/lang/String", "isEmpty", "()Z"⟩ : MethodName)) (z := (⟨"java/lang/String", "isEmpty", "()Z"⟩ : MethodName)) hown187 (mvT hZ187 (Wd49 hw)) (mvT hZ187 (Wd50 hw)) (notFace_of_selects (args := #[]) (mvT hZ187 (Wd52 hw))) (mvT hZ187 (Wd52 hw)) (mvT hZ187 (Wd51 hw)) (by decide) (StrChars.Road.empW (W := 0) hZ187 hem (kI := 4) (Wd9 hw) f195 f196 f197 f198 hcd194 hbd194 (Nat.le_of_ble_eq_true rfl) (by decide) (by decide)) q199a q199c (g := (fr_of3 m a1 8 .unset .unset [(.ref a1)])) rfl (by rw [hml]; rfl) (Steps.refl _) (argsL := []) (rest := []) (lenOf pd_57 rfl) rfl (by show 2 * 0 + _ ≤ _; exact Nat.le_of_eq rfl) (hb hby d9_8) (fun _ _ => ⟨rfl, Eq191, (by decide : 2 + 0 ≤ _), (by decide : 76 + 0 ≤ _)⟩)
  dsimp only [Pt.U, Pt.locs, Pt.cells, Pt.slots] at X199 l199 y199 z199 st199 hQ199
  subst l199 y199 z199
  obtain ⟨rfl, rfl, Eq199⟩ := hQ199
  have Nq199 : Fr n0 ([] : List Loc) := Fr.nil n0
  have N200 := Fr.app Nh193 Nq199
  obtain ⟨Lh201, Xh201, Nh201⟩ := own_hide (cells' := 2) (slots' := 76) X199 N200 (Nat.le_of_ble_eq_true rfl) (Nat.le_of_ble_eq_true rfl)
  refine ownSt st199 ?_
  clear st199
  show ownG p.tables e below _ (T199.setTop (fr_of3 m a1 11 .unset .unset [(.int (0 : Int32))]))
  refine ownBy (A := T199.setTop (fr_of3 m a1 25 .unset .unset [(.ref a1)])) (fun t kt => ?_) ?_
  · refine XS.ifYes Xh201.here hx rfl (pc0 := 11) (pc' := 24) rfl (hb hby d9_11) rfl ((if0 _ _).trans (teq ((by decide) : (0 : Int32) = (0 : Int32))).1) (by decide) (by decide) ?_
    show Steps p.tables e below (T199.setTop (fr_of3 m a1 24 .unset .unset [])) t
    refine XS.aloadN Xh201.here hx rfl (hb hby d9_24) rfl rfl ?_
    exact kt
  have f202 := (X00.ext E187)
  obtain ⟨cq203, kq203, q203a, q203b, q203c⟩ := isOf hZ187 Eq199 f195
  obtain ⟨vv203, _, ⟨T203, L203, k203, n203⟩, -, X203, ⟨Lc203, hQ203, l203, y203, z203⟩, st203⟩ := Xh201.virtualBack hx (y := (⟨"java/lang/String", "length", "()I"⟩ : MethodName)) (z := (⟨"java/lang/String", "length", "()I"⟩ : MethodName)) hown187 (mvT hZ187 (Wd54 hw)) (mvT hZ187 (Wd55 hw)) (notFace_of_selects (args := #[]) (mvT hZ187 (Wd57 hw))) (mvT hZ187 (Wd57 hw)) (mvT hZ187 (Wd56 hw)) (by decide) (StrChars.Road.lenW (W := 0) hZ187 hln (kI := 4) (Wd9 hw) f195 f196 f197 f198 hcd194 hbd194 (O2.ext f202.2) P5 (Nat.le_of_ble_eq_true rfl) (by decide) (by decide)) q203a q203c (g := (fr_of3 m a1 25 .unset .unset [(.ref a1)])) rfl (by rw [hml]; rfl) (Steps.refl _) (argsL := []) (rest := []) (lenOf pd_62 rfl) rfl (by show 2 * 0 + _ ≤ _; exact Nat.le_of_eq rfl) (hb hby d9_25) (fun _ _ => ⟨rfl, Eq199, (by decide : 2 + 0 ≤ _), (by decide : 76 + 0 ≤ _)⟩)
  dsimp only [Pt.U, Pt.locs, Pt.cells, Pt.slots] at X203 l203 y203 z203 st203 hQ203
  subst l203 y203 z203
  obtain ⟨rfl, rfl, Eq203⟩ := hQ203
  have Nq203 : Fr n0 ([] : List Loc) := Fr.nil n0
  have N204 := Fr.app Nh201 Nq203
  obtain ⟨Lh205, Xh205, Nh205⟩ := own_hide (cells' := 2) (slots' := 76) X203 N204 (Nat.le_of_ble_eq_true rfl) (Nat.le_of_ble_eq_true rfl)
  refine ownSt st203 ?_
  clear st203
  show ownG p.tables e below _ (T203.setTop (fr_of3 m a1 28 .unset .unset [(.int (3 : Int32))]))
  refine ownBy (A := T203.setTop (fr_of3 m a1 57 (.val (.int (0 : Int32))) (.val (.int (0 : Int32))) [(.ref a1), (.int (0 : Int32))])) (fun t kt => ?_) ?_
  · refine XS.sipush Xh205.here hx rfl (hb hby d9_28) ?_
    show Steps p.tables e below (T203.setTop (fr_of3 m a1 31 .unset .unset [(.int (255 : Int32)), (.int (3 : Int32))])) t
    refine XS.icmpYes Xh205.here hx rfl (pc0 := 31) (pc' := 51) rfl (hb hby d9_31) rfl (flt ((by decide) : ¬ ((255 : Int32) < (3 : Int32)))).2.2.2 (by decide) (by decide) ?_
    show Steps p.tables e below (T203.setTop (fr_of3 m a1 51 .unset .unset [])) t
    refine XS.iconst Xh205.here hx rfl (hb hby d9_51) ?_
    show Steps p.tables e below (T203.setTop (fr_of3 m a1 52 .unset .unset [(.int (0 : Int32))])) t
    refine XS.istoreN Xh205.here hx rfl (hb hby d9_52) rfl (l' := #[.val (.ref a1), .val (.int (0 : Int32)), .unset]) rfl ?_
    show Steps p.tables e below (T203.setTop (fr_of3 m a1 53 (.val (.int (0 : Int32))) .unset [])) t
    refine XS.iconst Xh205.here hx rfl (hb hby d9_53) ?_
    show Steps p.tables e below (T203.setTop (fr_of3 m a1 54 (.val (.int (0 : Int32))) .unset [(.int (0 : Int32))])) t
    refine XS.istoreN Xh205.here hx rfl (hb hby d9_54) rfl (l' := #[.val (.ref a1), .val (.int (0 : Int32)), .val (.int (0 : Int32))]) rfl ?_
    show Steps p.tables e below (T203.setTop (fr_of3 m a1 55 (.val (.int (0 : Int32))) (.val (.int (0 : Int32))) [])) t
    refine XS.iloadN Xh205.here hx rfl (hb hby d9_55) rfl ?_
    show Steps p.tables e below (T203.setTop (fr_of3 m a1 56 (.val (.int (0 : Int32))) (.val (.int (0 : Int32))) [(.int (0 : Int32))])) t
    refine XS.aloadN Xh205.here hx rfl (hb hby d9_56) rfl rfl ?_
    exact kt
  obtain ⟨cq206, kq206, q206a, q206b, q206c⟩ := isOf hZ187 Eq203 f195
  obtain ⟨vv206, _, ⟨T206, L206, k206, n206⟩, -, X206, ⟨Lc206, hQ206, l206, y206, z206⟩, st206⟩ := Xh205.virtualBack hx (y := (⟨"java/lang/String", "length", "()I"⟩ : MethodName)) (z := (⟨"java/lang/String", "length", "()I"⟩ : MethodName)) hown187 (mvT hZ187 (Wd54 hw)) (mvT hZ187 (Wd55 hw)) (notFace_of_selects (args := #[]) (mvT hZ187 (Wd57 hw))) (mvT hZ187 (Wd57 hw)) (mvT hZ187 (Wd56 hw)) (by decide) (StrChars.Road.lenW (W := 1) hZ187 hln (kI := 4) (Wd9 hw) f195 f196 f197 f198 hcd194 hbd194 (O2.ext f202.2) P5 (Nat.le_of_ble_eq_true rfl) (by decide) (by decide)) q206a q206c (g := (fr_of3 m a1 57 (.val (.int (0 : Int32))) (.val (.int (0 : Int32))) [(.ref a1), (.int (0 : Int32))])) rfl (by rw [hml]; rfl) (Steps.refl _) (argsL := []) (rest := [(.int (0 : Int32))]) (lenOf pd_62 rfl) rfl (by show 2 * 0 + _ ≤ _; exact Nat.le_of_eq rfl) (hb hby d9_57) (fun _ _ => ⟨rfl, Eq203, (by decide : 2 + 0 ≤ _), (by decide : 76 + 0 ≤ _)⟩)
  dsimp only [Pt.U, Pt.locs, Pt.cells, Pt.slots] at X206 l206 y206 z206 st206 hQ206
  subst l206 y206 z206
  obtain ⟨rfl, rfl, Eq206⟩ := hQ206
  have Nq206 : Fr n0 ([] : List Loc) := Fr.nil n0
  have N207 := Fr.app Nh205 Nq206
  obtain ⟨Lh208, Xh208, Nh208⟩ := own_hide (cells' := 2) (slots' := 76) X206 N207 (Nat.le_of_ble_eq_true rfl) (Nat.le_of_ble_eq_true rfl)
  refine ownSt st206 ?_
  clear st206
  show ownG p.tables e below _ (T206.setTop (fr_of3 m a1 60 (.val (.int (0 : Int32))) (.val (.int (0 : Int32))) [(.int (3 : Int32)), (.int (0 : Int32))]))
  refine ownBy (A := T206.setTop (fr_of3 m a1 65 (.val (.int (0 : Int32))) (.val (.int (0 : Int32))) [(.ref a1), (.int (0 : Int32))])) (fun t kt => ?_) ?_
  · refine XS.icmpNo Xh208.here hx rfl (hb hby d9_60) rfl (flt ((by decide) : ¬ ((3 : Int32) < (0 : Int32)))).2.2.1 ?_
    show Steps p.tables e below (T206.setTop (fr_of3 m a1 63 (.val (.int (0 : Int32))) (.val (.int (0 : Int32))) [])) t
    refine XS.iloadN Xh208.here hx rfl (hb hby d9_63) rfl ?_
    show Steps p.tables e below (T206.setTop (fr_of3 m a1 64 (.val (.int (0 : Int32))) (.val (.int (0 : Int32))) [(.int (0 : Int32))])) t
    refine XS.aloadN Xh208.here hx rfl (hb hby d9_64) rfl rfl ?_
    exact kt
  obtain ⟨cq209, kq209, q209a, q209b, q209c⟩ := isOf hZ187 Eq206 f195
  obtain ⟨vv209, _, ⟨T209, L209, k209, n209⟩, -, X209, ⟨Lc209, hQ209, l209, y209, z209⟩, st209⟩ := Xh208.virtualBack hx (y := (⟨"java/lang/String", "length", "()I"⟩ : MethodName)) (z := (⟨"java/lang/String", "length", "()I"⟩ : MethodName)) hown187 (mvT hZ187 (Wd54 hw)) (mvT hZ187 (Wd55 hw)) (notFace_of_selects (args := #[]) (mvT hZ187 (Wd57 hw))) (mvT hZ187 (Wd57 hw)) (mvT hZ187 (Wd56 hw)) (by decide) (StrChars.Road.lenW (W := 1) hZ187 hln (kI := 4) (Wd9 hw) f195 f196 f197 f198 hcd194 hbd194 (O2.ext f202.2) P5 (Nat.le_of_ble_eq_true rfl) (by decide) (by decide)) q209a q209c (g := (fr_of3 m a1 65 (.val (.int (0 : Int32))) (.val (.int (0 : Int32))) [(.ref a1), (.int (0 : Int32))])) rfl (by rw [hml]; rfl) (Steps.refl _) (argsL := []) (rest := [(.int (0 : Int32))]) (lenOf pd_62 rfl) rfl (by show 2 * 0 + _ ≤ _; exact Nat.le_of_eq rfl) (hb hby d9_65) (fun _ _ => ⟨rfl, Eq206, (by decide : 2 + 0 ≤ _), (by decide : 76 + 0 ≤ _)⟩)
  dsimp only [Pt.U, Pt.locs, Pt.cells, Pt.slots] at X209 l209 y209 z209 st209 hQ209
  subst l209 y209 z209
  obtain ⟨rfl, rfl, Eq209⟩ := hQ209
  have Nq209 : Fr n0 ([] : List Loc) := Fr.nil n0
  have N210 := Fr.app Nh208 Nq209
  obtain ⟨Lh211, Xh211, Nh211⟩ := own_hide (cells' := 2) (slots' := 76) X209 N210 (Nat.le_of_ble_eq_true rfl) (Nat.le_of_ble_eq_true rfl)
  refine ownSt st209 ?_
  clear st209
  show ownG p.tables e below _ (T209.setTop (fr_of3 m a1 68 (.val (.int (0 : Int32))) (.val (.int (0 : Int32))) [(.int (3 : Int32)), (.int (0 : Int32))]))
  refine ownBy (A := T209.setTop (fr_of3 m a1 73 (.val (.int (0 : Int32))) (.val (.int (0 : Int32))) [(.int (0 : Int32)), (.ref a1)])) (fun t kt => ?_) ?_
  · refine XS.icmpNo Xh211.here hx rfl (hb hby d9_68) rfl (feq ((by decide) : ¬ ((0 : Int32) = (3 : Int32)))).1 ?_
    show Steps p.tables e below (T209.setTop (fr_of3 m a1 71 (.val (.int (0 : Int32))) (.val (.int (0 : Int32))) [])) t
    refine XS.aloadN Xh211.here hx rfl (hb hby d9_71) rfl rfl ?_
    show Steps p.tables e below (T209.setTop (fr_of3 m a1 72 (.val (.int (0 : Int32))) (.val (.int (0 : Int32))) [(.ref a1)])) t
    refine XS.iloadN Xh211.here hx rfl (hb hby d9_72) rfl ?_
    exact kt
  obtain ⟨cq212, kq212, q212a, q212b, q212c⟩ := isOf hZ187 Eq209 f195
  obtain ⟨vv212, _, ⟨T212, L212, k212, n212⟩, -, X212, ⟨Lc212, hQ212, l212, y212, z212⟩, st212⟩ := Xh211.virtualBack hx (y := (⟨"java/lang/String", "charAt", "(I)C"⟩ : MethodName)) (z := (⟨"java/lang/String", "charAt", "(I)C"⟩ : MethodName)) hown187 (mvT hZ187 (Wd64 hw)) (mvT hZ187 (Wd65 hw)) (notFace_of_selects (args := #[]) (mvT hZ187 (Wd67 hw))) (mvT hZ187 (Wd67 hw)) (mvT hZ187 (Wd66 hw)) (by decide) (StrChars.Road.chN (W := 0) hZ187 hch (kI := 4) (Wd9 hw) f195 f196 f197 f198 hcd194 hbd194 (O2.ext f202.2) P5 (O4.ext f202.2) rG3 (Nat.le_of_ble_eq_true rfl) (i := 0) (Nat.le_of_ble_eq_true rfl) (j := (0 : Int32)) rfl (by decide) (by decide)) q212a q212c (g := (fr_of3 m a1 73 (.val (.int (0 : Int32))) (.val (.int (0 : Int32))) [(.int (0 : Int32)), (.ref a1)])) rfl (by rw [hml]; rfl) (Steps.refl _) (argsL := [(.int (0 : Int32))]) (rest := []) (lenOf pd_8 rfl) rfl (by show 2 * 0 + _ ≤ _; exact Nat.le_of_eq rfl) (hb hby d9_73) (fun _ _ => ⟨rfl, Eq209, (by decide : 2 + 0 ≤ _), (by decide : 76 + 0 ≤ _)⟩)
  dsimp only [Pt.U, Pt.locs, Pt.cells, Pt.slots] at X212 l212 y212 z212 st212 hQ212
  subst l212 y212 z212
  obtain ⟨rfl, rfl, Eq212⟩ := hQ212
  have Nq212 : Fr n0 ([] : List Loc) := Fr.nil n0
  have N213 := Fr.app Nh211 Nq212
  obtain ⟨Lh214, Xh214, Nh214⟩ := own_hide (cells' := 2) (slots' := 76) X212 N213 (Nat.le_of_ble_eq_true rfl) (Nat.le_of_ble_eq_true rfl)
  refine ownSt st212 ?_
  clear st212
  show ownG p.tables e below _ (T212.setTop (fr_of3 m a1 76 (.val (.int (0 : Int32))) (.val (.int (0 : Int32))) [(.int c0)]))
  refine ownBy (A := T212.setTop (fr_of3 m a1 106 (.val (.int (0 : Int32))) (.val (.int (0 : Int32))) [(.int (0 : Int32)), (.ref a1)])) (fun t kt => ?_) ?_
  · refine XS.bipush Xh214.here hx rfl (hb hby d9_76) ?_
    show Steps p.tables e below (T212.setTop (fr_of3 m a1 78 (.val (.int (0 : Int32))) (.val (.int (0 : Int32))) [(.int (46 : Int32)), (.int c0)])) t
    refine XS.icmpYes Xh214.here hx rfl (pc0 := 78) (pc' := 104) rfl (hb hby d9_78) rfl (feq hn0).2 (by decide) (by decide) ?_
    show Steps p.tables e below (T212.setTop (fr_of3 m a1 104 (.val (.int (0 : Int32))) (.val (.int (0 : Int32))) [])) t
    refine XS.aloadN Xh214.here hx rfl (hb hby d9_104) rfl rfl ?_
    show Steps p.tables e below (T212.setTop (fr_of3 m a1 105 (.val (.int (0 : Int32))) (.val (.int (0 : Int32))) [(.ref a1)])) t
    refine XS.iloadN Xh214.here hx rfl (hb hby d9_105) rfl ?_
    exact kt
  obtain ⟨cq215, kq215, q215a, q215b, q215c⟩ := isOf hZ187 Eq212 f195
  obtain ⟨vv215, _, ⟨T215, L215, k215, n215⟩, -, X215, ⟨Lc215, hQ215, l215, y215, z215⟩, st215⟩ := Xh214.virtualBack hx (y := (⟨"java/lang/String", "charAt", "(I)C"⟩ : MethodName)) (z := (⟨"java/lang/String", "charAt", "(I)C"⟩ : MethodName)) hown187 (mvT hZ187 (Wd64 hw)) (mvT hZ187 (Wd65 hw)) (notFace_of_selects (args := #[]) (mvT hZ187 (Wd67 hw))) (mvT hZ187 (Wd67 hw)) (mvT hZ187 (Wd66 hw)) (by decide) (StrChars.Road.chN (W := 0) hZ187 hch (kI := 4) (Wd9 hw) f195 f196 f197 f198 hcd194 hbd194 (O2.ext f202.2) P5 (O4.ext f202.2) rG3 (Nat.le_of_ble_eq_true rfl) (i := 0) (Nat.le_of_ble_eq_true rfl) (j := (0 : Int32)) rfl (by decide) (by decide)) q215a q215c (g := (fr_of3 m a1 106 (.val (.int (0 : Int32))) (.val (.int (0 : Int32))) [(.int (0 : Int32)), (.ref a1)])) rfl (by rw [hml]; rfl) (Steps.refl _) (argsL := [(.int (0 : Int32))]) (rest := []) (lenOf pd_8 rfl) rfl (by show 2 * 0 + _ ≤ _; exact Nat.le_of_eq rfl) (hb hby d9_106) (fun _ _ => ⟨rfl, Eq212, (by decide : 2 + 0 ≤ _), (by decide : 76 + 0 ≤ _)⟩)
  dsimp only [Pt.U, Pt.locs, Pt.cells, Pt.slots] at X215 l215 y215 z215 st215 hQ215
  subst l215 y215 z215
  obtain ⟨rfl, rfl, Eq215⟩ := hQ215
  have Nq215 : Fr n0 ([] : List Loc) := Fr.nil n0
  have N216 := Fr.app Nh214 Nq215
  obtain ⟨Lh217, Xh217, Nh217⟩ := own_hide (cells' := 2) (slots' := 76) X215 N216 (Nat.le_of_ble_eq_true rfl) (Nat.le_of_ble_eq_true rfl)
  refine ownSt st215 ?_
  clear st215
  show ownG p.tables e below _ (T215.setTop (fr_of3 m a1 109 (.val (.int (0 : Int32))) (.val (.int (0 : Int32))) [(.int c0)]))
  obtain ⟨vv218, _, ⟨T218, L218, k218, n218⟩, -, X218, ⟨Lc218, hQ218, l218, y218, z218⟩, st218⟩ := Jvm.LawKit.callS Xh217 hx (y := (⟨"com/example/boring_outbox/boringoutbox/EventType", "isIdentifierCharacter", "(C)Z"⟩ : MethodName)) hown187 (mvT hZ187 (Wd86 hw)) (mvT hZ187 (Wd87 hw)) (mvT hZ187 (Wd40 hw)) (mvT hZ187 (Wd88 hw)) (by decide) (backOf (W := 0) (c_isi l Z a0 hw [] c0 h187 n0 f190 (hi0.resolve_left hn0)) hZ187 (Wd88 hw) (Wd40 hw) (by decide) (by decide)) (g := (fr_of3 m a1 109 (.val (.int (0 : Int32))) (.val (.int (0 : Int32))) [(.int c0)])) rfl (by rw [hml]; rfl) (argsL := [(.int c0)]) (rest := []) (lenOf pd_78 rfl) rfl (by show 2 * 0 + _ ≤ _; exact Nat.le_of_eq rfl) (hb hby d9_109) (fun _ _ => ⟨rfl, Eq215, (by decide : 2 + 0 ≤ _), (by decide : 76 + 0 ≤ _)⟩)
  dsimp only [Pt.U, Pt.locs, Pt.cells, Pt.slots] at X218 l218 y218 z218 st218 hQ218
  subst l218 y218 z218
  obtain ⟨rfl, Nq218, Eq218⟩ := hQ218
  have N219 := Fr.app Nh217 Nq218
  obtain ⟨Lh220, Xh220, Nh220⟩ := own_hide (cells' := 2) (slots' := 76) X218 N219 (Nat.le_of_ble_eq_true rfl) (Nat.le_of_ble_eq_true rfl)
  refine ownBy st218 ?_
  clear st218
  show ownG p.tables e below _ (T218.setTop (fr_of3 m a1 112 (.val (.int (0 : Int32))) (.val (.int (0 : Int32))) [(.int (1 : Int32))]))
  refine ownBy (A := T218.setTop (fr_of3 m a1 57 (.val (.int (0 : Int32))) (.val (.int (1 : Int32))) [(.ref a1), (.int (1 : Int32))])) (fun t kt => ?_) ?_
  · refine XS.ifYes Xh220.here hx rfl (pc0 := 112) (pc' := 147) rfl (hb hby d9_112) rfl ((if0 _ _).trans (feq ((by decide) : ¬ ((1 : Int32) = (0 : Int32)))).2) (by decide) (by decide) ?_
    show Steps p.tables e below (T218.setTop (fr_of3 m a1 147 (.val (.int (0 : Int32))) (.val (.int (0 : Int32))) [])) t
    refine XS.iinc Xh220.here hx rfl (hb hby d9_147) rfl (l' := #[.val (.ref a1), .val (.int (0 : Int32)), .val (.int (1 : Int32))]) rfl ?_
    show Steps p.tables e below (T218.setTop (fr_of3 m a1 150 (.val (.int (0 : Int32))) (.val (.int (1 : Int32))) [])) t
    refine XS.goto Xh220.here hx rfl (pc0 := 150) (pc' := 55) rfl (hb hby d9_150) (by decide) (by decide) ?_
    show Steps p.tables e below (T218.setTop (fr_of3 m a1 55 (.val (.int (0 : Int32))) (.val (.int (1 : Int32))) [])) t
    refine XS.iloadN Xh220.here hx rfl (hb hby d9_55) rfl ?_
    show Steps p.tables e below (T218.setTop (fr_of3 m a1 56 (.val (.int (0 : Int32))) (.val (.int (1 : Int32))) [(.int (1 : Int32))])) t
    refine XS.aloadN Xh220.here hx rfl (hb hby d9_56) rfl rfl ?_
    exact kt
  obtain ⟨cq221, kq221, q221a, q221b, q221c⟩ := isOf hZ187 Eq218 f195
  obtain ⟨vv221, _, ⟨T221, L221, k221, n221⟩, -, X221, ⟨Lc221, hQ221, l221, y221, z221⟩, st221⟩ := Xh220.virtualBack hx (y := (⟨"java/lang/String", "length", "()I"⟩ : MethodName)) (z := (⟨"java/lang/String", "length", "()I"⟩ : MethodName)) hown187 (mvT hZ187 (Wd54 hw)) (mvT hZ187 (Wd55 hw)) (notFace_of_selects (args := #[]) (mvT hZ187 (Wd57 hw))) (mvT hZ187 (Wd57 hw)) (mvT hZ187 (Wd56 hw)) (by decide) (StrChars.Road.lenW (W := 1) hZ187 hln (kI := 4) (Wd9 hw) f195 f196 f197 f198 hcd194 hbd194 (O2.ext f202.2) P5 (Nat.le_of_ble_eq_true rfl) (by decide) (by decide)) q221a q221c (g := (fr_of3 m a1 57 (.val (.int (0 : Int32))) (.val (.int (1 : Int32))) [(.ref a1), (.int (1 : Int32))])) rfl (by rw [hml]; rfl) (Steps.refl _) (argsL := []) (rest := [(.int (1 : Int32))]) (lenOf pd_62 rfl) rfl (by show 2 * 0 + _ ≤ _; exact Nat.le_of_eq rfl) (hb hby d9_57) (fun _ _ => ⟨rfl, Eq218, (by decide : 2 + 0 ≤ _), (by decide : 76 + 0 ≤ _)⟩)
  dsimp only [Pt.U, Pt.locs, Pt.cells, Pt.slots] at X221 l221 y221 z221 st221 hQ221
  subst l221 y221 z221
  obtain ⟨rfl, rfl, Eq221⟩ := hQ221
  have Nq221 : Fr n0 ([] : List Loc) := Fr.nil n0
  have N222 := Fr.app Nh220 Nq221
  obtain ⟨Lh223, Xh223, Nh223⟩ := own_hide (cells' := 2) (slots' := 76) X221 N222 (Nat.le_of_ble_eq_true rfl) (Nat.le_of_ble_eq_true rfl)
  refine ownSt st221 ?_
  clear st221
  show ownG p.tables e below _ (T221.setTop (fr_of3 m a1 60 (.val (.int (0 : Int32))) (.val (.int (1 : Int32))) [(.int (3 : Int32)), (.int (1 : Int32))]))
  refine ownBy (A := T221.setTop (fr_of3 m a1 65 (.val (.int (0 : Int32))) (.val (.int (1 : Int32))) [(.ref a1), (.int (1 : Int32))])) (fun t kt => ?_) ?_
  · refine XS.icmpNo Xh223.here hx rfl (hb hby d9_60) rfl (flt ((by decide) : ¬ ((3 : Int32) < (1 : Int32)))).2.2.1 ?_
    show Steps p.tables e below (T221.setTop (fr_of3 m a1 63 (.val (.int (0 : Int32))) (.val (.int (1 : Int32))) [])) t
    refine XS.iloadN Xh223.here hx rfl (hb hby d9_63) rfl ?_
    show Steps p.tables e below (T221.setTop (fr_of3 m a1 64 (.val (.int (0 : Int32))) (.val (.int (1 : Int32))) [(.int (1 : Int32))])) t
    refine XS.aloadN Xh223.here hx rfl (hb hby d9_64) rfl rfl ?_
    exact kt
  obtain ⟨cq224, kq224, q224a, q224b, q224c⟩ := isOf hZ187 Eq221 f195
  obtain ⟨vv224, _, ⟨T224, L224, k224, n224⟩, -, X224, ⟨Lc224, hQ224, l224, y224, z224⟩, st224⟩ := Xh223.virtualBack hx (y := (⟨"java/lang/String", "length", "()I"⟩ : MethodName)) (z := (⟨"java/lang/String", "length", "()I"⟩ : MethodName)) hown187 (mvT hZ187 (Wd54 hw)) (mvT hZ187 (Wd55 hw)) (notFace_of_selects (args := #[]) (mvT hZ187 (Wd57 hw))) (mvT hZ187 (Wd57 hw)) (mvT hZ187 (Wd56 hw)) (by decide) (StrChars.Road.lenW (W := 1) hZ187 hln (kI := 4) (Wd9 hw) f195 f196 f197 f198 hcd194 hbd194 (O2.ext f202.2) P5 (Nat.le_of_ble_eq_true rfl) (by decide) (by decide)) q224a q224c (g := (fr_of3 m a1 65 (.val (.int (0 : Int32))) (.val (.int (1 : Int32))) [(.ref a1), (.int (1 : Int32))])) rfl (by rw [hml]; rfl) (Steps.refl _) (argsL := []) (rest := [(.int (1 : Int32))]) (lenOf pd_62 rfl) rfl (by show 2 * 0 + _ ≤ _; exact Nat.le_of_eq rfl) (hb hby d9_65) (fun _ _ => ⟨rfl, Eq221, (by decide : 2 + 0 ≤ _), (by decide : 76 + 0 ≤ _)⟩)
  dsimp only [Pt.U, Pt.locs, Pt.cells, Pt.slots] at X224 l224 y224 z224 st224 hQ224
  subst l224 y224 z224
  obtain ⟨rfl, rfl, Eq224⟩ := hQ224
  have Nq224 : Fr n0 ([] : List Loc) := Fr.nil n0
  have N225 := Fr.app Nh223 Nq224
  obtain ⟨Lh226, Xh226, Nh226⟩ := own_hide (cells' := 2) (slots' := 76) X224 N225 (Nat.le_of_ble_eq_true rfl) (Nat.le_of_ble_eq_true rfl)
  refine ownSt st224 ?_
  clear st224
  show ownG p.tables e below _ (T224.setTop (fr_of3 m a1 68 (.val (.int (0 : Int32))) (.val (.int (1 : Int32))) [(.int (3 : Int32)), (.int (1 : Int32))]))
  refine ownBy (A := T224.setTop (fr_of3 m a1 73 (.val (.int (0 : Int32))) (.val (.int (1 : Int32))) [(.int (1 : Int32)), (.ref a1)])) (fun t kt => ?_) ?_
  · refine XS.icmpNo Xh226.here hx rfl (hb hby d9_68) rfl (feq ((by decide) : ¬ ((1 : Int32) = (3 : Int32)))).1 ?_
    show Steps p.tables e below (T224.setTop (fr_of3 m a1 71 (.val (.int (0 : Int32))) (.val (.int (1 : Int32))) [])) t
    refine XS.aloadN Xh226.here hx rfl (hb hby d9_71) rfl rfl ?_
    show Steps p.tables e below (T224.setTop (fr_of3 m a1 72 (.val (.int (0 : Int32))) (.val (.int (1 : Int32))) [(.ref a1)])) t
    refine XS.iloadN Xh226.here hx rfl (hb hby d9_72) rfl ?_
    exact kt
  obtain ⟨cq227, kq227, q227a, q227b, q227c⟩ := isOf hZ187 Eq224 f195
  obtain ⟨vv227, _, ⟨T227, L227, k227, n227⟩, -, X227, ⟨Lc227, hQ227, l227, y227, z227⟩, st227⟩ := Xh226.virtualBack hx (y := (⟨"java/lang/String", "charAt", "(I)C"⟩ : MethodName)) (z := (⟨"java/lang/String", "charAt", "(I)C"⟩ : MethodName)) hown187 (mvT hZ187 (Wd64 hw)) (mvT hZ187 (Wd65 hw)) (notFace_of_selects (args := #[]) (mvT hZ187 (Wd67 hw))) (mvT hZ187 (Wd67 hw)) (mvT hZ187 (Wd66 hw)) (by decide) (StrChars.Road.chN (W := 0) hZ187 hch (kI := 4) (Wd9 hw) f195 f196 f197 f198 hcd194 hbd194 (O2.ext f202.2) P5 (O4.ext f202.2) rG3 (Nat.le_of_ble_eq_true rfl) (i := 1) (Nat.le_of_ble_eq_true rfl) (j := (1 : Int32)) rfl (by decide) (by decide)) q227a q227c (g := (fr_of3 m a1 73 (.val (.int (0 : Int32))) (.val (.int (1 : Int32))) [(.int (1 : Int32)), (.ref a1)])) rfl (by rw [hml]; rfl) (Steps.refl _) (argsL := [(.int (1 : Int32))]) (rest := []) (lenOf pd_8 rfl) rfl (by show 2 * 0 + _ ≤ _; exact Nat.le_of_eq rfl) (hb hby d9_73) (fun _ _ => ⟨rfl, Eq224, (by decide : 2 + 0 ≤ _), (by decide : 76 + 0 ≤ _)⟩)
  dsimp only [Pt.U, Pt.locs, Pt.cells, Pt.slots] at X227 l227 y227 z227 st227 hQ227
  subst l227 y227 z227
  obtain ⟨rfl, rfl, Eq227⟩ := hQ227
  have Nq227 : Fr n0 ([] : List Loc) := Fr.nil n0
  have N228 := Fr.app Nh226 Nq227
  obtain ⟨Lh229, Xh229, Nh229⟩ := own_hide (cells' := 2) (slots' := 76) X227 N228 (Nat.le_of_ble_eq_true rfl) (Nat.le_of_ble_eq_true rfl)
  refine ownSt st227 ?_
  clear st227
  show ownG p.tables e below _ (T227.setTop (fr_of3 m a1 76 (.val (.int (0 : Int32))) (.val (.int (1 : Int32))) [(.int c1)]))
  refine ownBy (A := T227.setTop (fr_of3 m a1 78 (.val (.int (0 : Int32))) (.val (.int (1 : Int32))) [(.int (46 : Int32)), (.int c1)])) (fun t kt => ?_) ?_
  · refine XS.bipush Xh229.here hx rfl (hb hby d9_76) ?_
    exact kt
  by_cases hc230 : c1 = (46 : Int32)
  · skip
    refine ownBy (A := T227.setTop (fr_of3 m a1 57 (.val (.int (2 : Int32))) (.val (.int (2 : Int32))) [(.ref a1), (.int (2 : Int32))])) (fun t kt => ?_) ?_
    · refine XS.icmpNo Xh229.here hx rfl (hb hby d9_78) rfl (teq hc230).2 ?_
      show Steps p.tables e below (T227.setTop (fr_of3 m a1 81 (.val (.int (0 : Int32))) (.val (.int (1 : Int32))) [])) t
      refine XS.iloadN Xh229.here hx rfl (hb hby d9_81) rfl ?_
      show Steps p.tables e below (T227.setTop (fr_of3 m a1 82 (.val (.int (0 : Int32))) (.val (.int (1 : Int32))) [(.int (1 : Int32))])) t
      refine XS.iloadN Xh229.here hx rfl (hb hby d9_82) rfl ?_
      show Steps p.tables e below (T227.setTop (fr_of3 m a1 83 (.val (.int (0 : Int32))) (.val (.int (1 : Int32))) [(.int (0 : Int32)), (.int (1 : Int32))])) t
      refine XS.icmpYes Xh229.here hx rfl (pc0 := 83) (pc' := 97) rfl (hb hby d9_83) rfl (feq ((by decide) : ¬ ((1 : Int32) = (0 : Int32)))).2 (by decide) (by decide) ?_
      show Steps p.tables e below (T227.setTop (fr_of3 m a1 97 (.val (.int (0 : Int32))) (.val (.int (1 : Int32))) [])) t
      refine XS.iloadN Xh229.here hx rfl (hb hby d9_97) rfl ?_
      show Steps p.tables e below (T227.setTop (fr_of3 m a1 98 (.val (.int (0 : Int32))) (.val (.int (1 : Int32))) [(.int (1 : Int32))])) t
      refine XS.iconst Xh229.here hx rfl (hb hby d9_98) ?_
      show Steps p.tables e below (T227.setTop (fr_of3 m a1 99 (.val (.int (0 : Int32))) (.val (.int (1 : Int32))) [(.int (1 : Int32)), (.int (1 : Int32))])) t
      refine XS.iadd Xh229.here hx rfl (hb hby d9_99) rfl ?_
      show Steps p.tables e below (T227.setTop (fr_of3 m a1 100 (.val (.int (0 : Int32))) (.val (.int (1 : Int32))) [(.int (2 : Int32))])) t
      refine XS.istoreN Xh229.here hx rfl (hb hby d9_100) rfl (l' := #[.val (.ref a1), .val (.int (2 : Int32)), .val (.int (1 : Int32))]) rfl ?_
      show Steps p.tables e below (T227.setTop (fr_of3 m a1 101 (.val (.int (2 : Int32))) (.val (.int (1 : Int32))) [])) t
      refine XS.goto Xh229.here hx rfl (pc0 := 101) (pc' := 147) rfl (hb hby d9_101) (by decide) (by decide) ?_
      show Steps p.tables e below (T227.setTop (fr_of3 m a1 147 (.val (.int (2 : Int32))) (.val (.int (1 : Int32))) [])) t
      refine XS.iinc Xh229.here hx rfl (hb hby d9_147) rfl (l' := #[.val (.ref a1), .val (.int (2 : Int32)), .val (.int (2 : Int32))]) rfl ?_
      show Steps p.tables e below (T227.setTop (fr_of3 m a1 150 (.val (.int (2 : Int32))) (.val (.int (2 : Int32))) [])) t
      refine XS.goto Xh229.here hx rfl (pc0 := 150) (pc' := 55) rfl (hb hby d9_150) (by decide) (by decide) ?_
      show Steps p.tables e below (T227.setTop (fr_of3 m a1 55 (.val (.int (2 : Int32))) (.val (.int (2 : Int32))) [])) t
      refine XS.iloadN Xh229.here hx rfl (hb hby d9_55) rfl ?_
      show Steps p.tables e below (T227.setTop (fr_of3 m a1 56 (.val (.int (2 : Int32))) (.val (.int (2 : Int32))) [(.int (2 : Int32))])) t
      refine XS.aloadN Xh229.here hx rfl (hb hby d9_56) rfl rfl ?_
      exact kt
    obtain ⟨cq231, kq231, q231a, q231b, q231c⟩ := isOf hZ187 Eq227 f195
    obtain ⟨vv231, _, ⟨T231, L231, k231, n231⟩, -, X231, ⟨Lc231, hQ231, l231, y231, z231⟩, st231⟩ := Xh229.virtualBack hx (y := (⟨"java/lang/String", "length", "()I"⟩ : MethodName)) (z := (⟨"java/lang/String", "length", "()I"⟩ : MethodName)) hown187 (mvT hZ187 (Wd54 hw)) (mvT hZ187 (Wd55 hw)) (notFace_of_selects (args := #[]) (mvT hZ187 (Wd57 hw))) (mvT hZ187 (Wd57 hw)) (mvT hZ187 (Wd56 hw)) (by decide) (StrChars.Road.lenW (W := 1) hZ187 hln (kI := 4) (Wd9 hw) f195 f196 f197 f198 hcd194 hbd194 (O2.ext f202.2) P5 (Nat.le_of_ble_eq_true rfl) (by decide) (by decide)) q231a q231c (g := (fr_of3 m a1 57 (.val (.int (2 : Int32))) (.val (.int (2 : Int32))) [(.ref a1), (.int (2 : Int32))])) rfl (by rw [hml]; rfl) (Steps.refl _) (argsL := []) (rest := [(.int (2 : Int32))]) (lenOf pd_62 rfl) rfl (by show 2 * 0 + _ ≤ _; exact Nat.le_of_eq rfl) (hb hby d9_57) (fun _ _ => ⟨rfl, Eq227, (by decide : 2 + 0 ≤ _), (by decide : 76 + 0 ≤ _)⟩)
    dsimp only [Pt.U, Pt.locs, Pt.cells, Pt.slots] at X231 l231 y231 z231 st231 hQ231
    subst l231 y231 z231
    obtain ⟨rfl, rfl, Eq231⟩ := hQ231
    have Nq231 : Fr n0 ([] : List Loc) := Fr.nil n0
    have N232 := Fr.app Nh229 Nq231
    obtain ⟨Lh233, Xh233, Nh233⟩ := own_hide (cells' := 2) (slots' := 76) X231 N232 (Nat.le_of_ble_eq_true rfl) (Nat.le_of_ble_eq_true rfl)
    refine ownSt st231 ?_
    clear st231
    show ownG p.tables e below _ (T231.setTop (fr_of3 m a1 60 (.val (.int (2 : Int32))) (.val (.int (2 : Int32))) [(.int (3 : Int32)), (.int (2 : Int32))]))
    refine ownBy (A := T231.setTop (fr_of3 m a1 65 (.val (.int (2 : Int32))) (.val (.int (2 : Int32))) [(.ref a1), (.int (2 : Int32))])) (fun t kt => ?_) ?_
    · refine XS.icmpNo Xh233.here hx rfl (hb hby d9_60) rfl (flt ((by decide) : ¬ ((3 : Int32) < (2 : Int32)))).2.2.1 ?_
      show Steps p.tables e below (T231.setTop (fr_of3 m a1 63 (.val (.int (2 : Int32))) (.val (.int (2 : Int32))) [])) t
      refine XS.iloadN Xh233.here hx rfl (hb hby d9_63) rfl ?_
      show Steps p.tables e below (T231.setTop (fr_of3 m a1 64 (.val (.int (2 : Int32))) (.val (.int (2 : Int32))) [(.int (2 : Int32))])) t
      refine XS.aloadN Xh233.here hx rfl (hb hby d9_64) rfl rfl ?_
      exact kt
    obtain ⟨cq234, kq234, q234a, q234b, q234c⟩ := isOf hZ187 Eq231 f195
    obtain ⟨vv234, _, ⟨T234, L234, k234, n234⟩, -, X234, ⟨Lc234, hQ234, l234, y234, z234⟩, st234⟩ := Xh233.virtualBack hx (y := (⟨"java/lang/String", "length", "()I"⟩ : MethodName)) (z := (⟨"java/lang/String", "length", "()I"⟩ : MethodName)) hown187 (mvT hZ187 (Wd54 hw)) (mvT hZ187 (Wd55 hw)) (notFace_of_selects (args := #[]) (mvT hZ187 (Wd57 hw))) (mvT hZ187 (Wd57 hw)) (mvT hZ187 (Wd56 hw)) (by decide) (StrChars.Road.lenW (W := 1) hZ187 hln (kI := 4) (Wd9 hw) f195 f196 f197 f198 hcd194 hbd194 (O2.ext f202.2) P5 (Nat.le_of_ble_eq_true rfl) (by decide) (by decide)) q234a q234c (g := (fr_of3 m a1 65 (.val (.int (2 : Int32))) (.val (.int (2 : Int32))) [(.ref a1), (.int (2 : Int32))])) rfl (by rw [hml]; rfl) (Steps.refl _) (argsL := []) (rest := [(.int (2 : Int32))]) (lenOf pd_62 rfl) rfl (by show 2 * 0 + _ ≤ _; exact Nat.le_of_eq rfl) (hb hby d9_65) (fun _ _ => ⟨rfl, Eq231, (by decide : 2 + 0 ≤ _), (by decide : 76 + 0 ≤ _)⟩)
    dsimp only [Pt.U, Pt.locs, Pt.cells, Pt.slots] at X234 l234 y234 z234 st234 hQ234
    subst l234 y234 z234
    obtain ⟨rfl, rfl, Eq234⟩ := hQ234
    have Nq234 : Fr n0 ([] : List Loc) := Fr.nil n0
    have N235 := Fr.app Nh233 Nq234
    obtain ⟨Lh236, Xh236, Nh236⟩ := own_hide (cells' := 2) (slots' := 76) X234 N235 (Nat.le_of_ble_eq_true rfl) (Nat.le_of_ble_eq_true rfl)
    refine ownSt st234 ?_
    clear st234
    show ownG p.tables e below _ (T234.setTop (fr_of3 m a1 68 (.val (.int (2 : Int32))) (.val (.int (2 : Int32))) [(.int (3 : Int32)), (.int (2 : Int32))]))
    refine ownBy (A := T234.setTop (fr_of3 m a1 73 (.val (.int (2 : Int32))) (.val (.int (2 : Int32))) [(.int (2 : Int32)), (.ref a1)])) (fun t kt => ?_) ?_
    · refine XS.icmpNo Xh236.here hx rfl (hb hby d9_68) rfl (feq ((by decide) : ¬ ((2 : Int32) = (3 : Int32)))).1 ?_
      show Steps p.tables e below (T234.setTop (fr_of3 m a1 71 (.val (.int (2 : Int32))) (.val (.int (2 : Int32))) [])) t
      refine XS.aloadN Xh236.here hx rfl (hb hby d9_71) rfl rfl ?_
      show Steps p.tables e below (T234.setTop (fr_of3 m a1 72 (.val (.int (2 : Int32))) (.val (.int (2 : Int32))) [(.ref a1)])) t
      refine XS.iloadN Xh236.here hx rfl (hb hby d9_72) rfl ?_
      exact kt
    obtain ⟨cq237, kq237, q237a, q237b, q237c⟩ := isOf hZ187 Eq234 f195
    obtain ⟨vv237, _, ⟨T237, L237, k237, n237⟩, -, X237, ⟨Lc237, hQ237, l237, y237, z237⟩, st237⟩ := Xh236.virtualBack hx (y := (⟨"java/lang/String", "charAt", "(I)C"⟩ : MethodName)) (z := (⟨"java/lang/String", "charAt", "(I)C"⟩ : MethodName)) hown187 (mvT hZ187 (Wd64 hw)) (mvT hZ187 (Wd65 hw)) (notFace_of_selects (args := #[]) (mvT hZ187 (Wd67 hw))) (mvT hZ187 (Wd67 hw)) (mvT hZ187 (Wd66 hw)) (by decide) (StrChars.Road.chN (W := 0) hZ187 hch (kI := 4) (Wd9 hw) f195 f196 f197 f198 hcd194 hbd194 (O2.ext f202.2) P5 (O4.ext f202.2) rG3 (Nat.le_of_ble_eq_true rfl) (i := 2) (Nat.le_of_ble_eq_true rfl) (j := (2 : Int32)) rfl (by decide) (by decide)) q237a q237c (g := (fr_of3 m a1 73 (.val (.int (2 : Int32))) (.val (.int (2 : Int32))) [(.int (2 : Int32)), (.ref a1)])) rfl (by rw [hml]; rfl) (Steps.refl _) (argsL := [(.int (2 : Int32))]) (rest := []) (lenOf pd_8 rfl) rfl (by show 2 * 0 + _ ≤ _; exact Nat.le_of_eq rfl) (hb hby d9_73) (fun _ _ => ⟨rfl, Eq234, (by decide : 2 + 0 ≤ _), (by decide : 76 + 0 ≤ _)⟩)
    dsimp only [Pt.U, Pt.locs, Pt.cells, Pt.slots] at X237 l237 y237 z237 st237 hQ237
    subst l237 y237 z237
    obtain ⟨rfl, rfl, Eq237⟩ := hQ237
    have Nq237 : Fr n0 ([] : List Loc) := Fr.nil n0
    have N238 := Fr.app Nh236 Nq237
    obtain ⟨Lh239, Xh239, Nh239⟩ := own_hide (cells' := 2) (slots' := 76) X237 N238 (Nat.le_of_ble_eq_true rfl) (Nat.le_of_ble_eq_true rfl)
    refine ownSt st237 ?_
    clear st237
    show ownG p.tables e below _ (T237.setTop (fr_of3 m a1 76 (.val (.int (2 : Int32))) (.val (.int (2 : Int32))) [(.int c2)]))
    refine ownBy (A := T237.setTop (fr_of3 m a1 106 (.val (.int (2 : Int32))) (.val (.int (2 : Int32))) [(.int (2 : Int32)), (.ref a1)])) (fun t kt => ?_) ?_
    · refine XS.bipush Xh239.here hx rfl (hb hby d9_76) ?_
      show Steps p.tables e below (T237.setTop (fr_of3 m a1 78 (.val (.int (2 : Int32))) (.val (.int (2 : Int32))) [(.int (46 : Int32)), (.int c2)])) t
      refine XS.icmpYes Xh239.here hx rfl (pc0 := 78) (pc' := 104) rfl (hb hby d9_78) rfl (feq hnl).2 (by decide) (by decide) ?_
      show Steps p.tables e below (T237.setTop (fr_of3 m a1 104 (.val (.int (2 : Int32))) (.val (.int (2 : Int32))) [])) t
      refine XS.aloadN Xh239.here hx rfl (hb hby d9_104) rfl rfl ?_
      show Steps p.tables e below (T237.setTop (fr_of3 m a1 105 (.val (.int (2 : Int32))) (.val (.int (2 : Int32))) [(.ref a1)])) t
      refine XS.iloadN Xh239.here hx rfl (hb hby d9_105) rfl ?_
      exact kt
    obtain ⟨cq240, kq240, q240a, q240b, q240c⟩ := isOf hZ187 Eq237 f195
    obtain ⟨vv240, _, ⟨T240, L240, k240, n240⟩, -, X240, ⟨Lc240, hQ240, l240, y240, z240⟩, st240⟩ := Xh239.virtualBack hx (y := (⟨"java/lang/String", "charAt", "(I)C"⟩ : MethodName)) (z := (⟨"java/lang/String", "charAt", "(I)C"⟩ : MethodName)) hown187 (mvT hZ187 (Wd64 hw)) (mvT hZ187 (Wd65 hw)) (notFace_of_selects (args := #[]) (mvT hZ187 (Wd67 hw))) (mvT hZ187 (Wd67 hw)) (mvT hZ187 (Wd66 hw)) (by decide) (StrChars.Road.chN (W := 0) hZ187 hch (kI := 4) (Wd9 hw) f195 f196 f197 f198 hcd194 hbd194 (O2.ext f202.2) P5 (O4.ext f202.2) rG3 (Nat.le_of_ble_eq_true rfl) (i := 2) (Nat.le_of_ble_eq_true rfl) (j := (2 : Int32)) rfl (by decide) (by decide)) q240a q240c (g := (fr_of3 m a1 106 (.val (.int (2 : Int32))) (.val (.int (2 : Int32))) [(.int (2 : Int32)), (.ref a1)])) rfl (by rw [hml]; rfl) (Steps.refl _) (argsL := [(.int (2 : Int32))]) (rest := []) (lenOf pd_8 rfl) rfl (by show 2 * 0 + _ ≤ _; exact Nat.le_of_eq rfl) (hb hby d9_106) (fun _ _ => ⟨rfl, Eq237, (by decide : 2 + 0 ≤ _), (by decide : 76 + 0 ≤ _)⟩)
    dsimp only [Pt.U, Pt.locs, Pt.cells, Pt.slots] at X240 l240 y240 z240 st240 hQ240
    subst l240 y240 z240
    obtain ⟨rfl, rfl, Eq240⟩ := hQ240
    have Nq240 : Fr n0 ([] : List Loc) := Fr.nil n0
    have N241 := Fr.app Nh239 Nq240
    obtain ⟨Lh242, Xh242, Nh242⟩ := own_hide (cells' := 2) (slots' := 76) X240 N241 (Nat.le_of_ble_eq_true rfl) (Nat.le_of_ble_eq_true rfl)
    refine ownSt st240 ?_
    clear st240
    show ownG p.tables e below _ (T240.setTop (fr_of3 m a1 109 (.val (.int (2 : Int32))) (.val (.int (2 : Int32))) [(.int c2)]))
    obtain ⟨vv243, _, ⟨T243, L243, k243, n243⟩, -, X243, ⟨Lc243, hQ243, l243, y243, z243⟩, st243⟩ := Jvm.LawKit.callS Xh242 hx (y := (⟨"com/example/boring_outbox/boringoutbox/EventType", "isIdentifierCharacter", "(C)Z"⟩ : MethodName)) hown187 (mvT hZ187 (Wd86 hw)) (mvT hZ187 (Wd87 hw)) (mvT hZ187 (Wd40 hw)) (mvT hZ187 (Wd88 hw)) (by decide) (backOf (W := 0) (c_isi l Z a0 hw [] c2 h187 n0 f190 (hi2.resolve_left hnl)) hZ187 (Wd88 hw) (Wd40 hw) (by decide) (by decide)) (g := (fr_of3 m a1 109 (.val (.int (2 : Int32))) (.val (.int (2 : Int32))) [(.int c2)])) rfl (by rw [hml]; rfl) (argsL := [(.int c2)]) (rest := []) (lenOf pd_78 rfl) rfl (by show 2 * 0 + _ ≤ _; exact Nat.le_of_eq rfl) (hb hby d9_109) (fun _ _ => ⟨rfl, Eq240, (by decide : 2 + 0 ≤ _), (by decide : 76 + 0 ≤ _)⟩)
    dsimp only [Pt.U, Pt.locs, Pt.cells, Pt.slots] at X243 l243 y243 z243 st243 hQ243
    subst l243 y243 z243
    obtain ⟨rfl, Nq243, Eq243⟩ := hQ243
    have N244 := Fr.app Nh242 Nq243
    obtain ⟨Lh245, Xh245, Nh245⟩ := own_hide (cells' := 2) (slots' := 76) X243 N244 (Nat.le_of_ble_eq_true rfl) (Nat.le_of_ble_eq_true rfl)
    refine ownBy st243 ?_
    clear st243
    show ownG p.tables e below _ (T243.setTop (fr_of3 m a1 112 (.val (.int (2 : Int32))) (.val (.int (2 : Int32))) [(.int (1 : Int32))]))
    refine ownBy (A := T243.setTop (fr_of3 m a1 57 (.val (.int (2 : Int32))) (.val (.int (3 : Int32))) [(.ref a1), (.int (3 : Int32))])) (fun t kt => ?_) ?_
    · refine XS.ifYes Xh245.here hx rfl (pc0 := 112) (pc' := 147) rfl (hb hby d9_112) rfl ((if0 _ _).trans (feq ((by decide) : ¬ ((1 : Int32) = (0 : Int32)))).2) (by decide) (by decide) ?_
      show Steps p.tables e below (T243.setTop (fr_of3 m a1 147 (.val (.int (2 : Int32))) (.val (.int (2 : Int32))) [])) t
      refine XS.iinc Xh245.here hx rfl (hb hby d9_147) rfl (l' := #[.val (.ref a1), .val (.int (2 : Int32)), .val (.int (3 : Int32))]) rfl ?_
      show Steps p.tables e below (T243.setTop (fr_of3 m a1 150 (.val (.int (2 : Int32))) (.val (.int (3 : Int32))) [])) t
      refine XS.goto Xh245.here hx rfl (pc0 := 150) (pc' := 55) rfl (hb hby d9_150) (by decide) (by decide) ?_
      show Steps p.tables e below (T243.setTop (fr_of3 m a1 55 (.val (.int (2 : Int32))) (.val (.int (3 : Int32))) [])) t
      refine XS.iloadN Xh245.here hx rfl (hb hby d9_55) rfl ?_
      show Steps p.tables e below (T243.setTop (fr_of3 m a1 56 (.val (.int (2 : Int32))) (.val (.int (3 : Int32))) [(.int (3 : Int32))])) t
      refine XS.aloadN Xh245.here hx rfl (hb hby d9_56) rfl rfl ?_
      exact kt
    obtain ⟨cq246, kq246, q246a, q246b, q246c⟩ := isOf hZ187 Eq243 f195
    obtain ⟨vv246, _, ⟨T246, L246, k246, n246⟩, -, X246, ⟨Lc246, hQ246, l246, y246, z246⟩, st246⟩ := Xh245.virtualBack hx (y := (⟨"java/lang/String", "length", "()I"⟩ : MethodName)) (z := (⟨"java/lang/String", "length", "()I"⟩ : MethodName)) hown187 (mvT hZ187 (Wd54 hw)) (mvT hZ187 (Wd55 hw)) (notFace_of_selects (args := #[]) (mvT hZ187 (Wd57 hw))) (mvT hZ187 (Wd57 hw)) (mvT hZ187 (Wd56 hw)) (by decide) (StrChars.Road.lenW (W := 1) hZ187 hln (kI := 4) (Wd9 hw) f195 f196 f197 f198 hcd194 hbd194 (O2.ext f202.2) P5 (Nat.le_of_ble_eq_true rfl) (by decide) (by decide)) q246a q246c (g := (fr_of3 m a1 57 (.val (.int (2 : Int32))) (.val (.int (3 : Int32))) [(.ref a1), (.int (3 : Int32))])) rfl (by rw [hml]; rfl) (Steps.refl _) (argsL := []) (rest := [(.int (3 : Int32))]) (lenOf pd_62 rfl) rfl (by show 2 * 0 + _ ≤ _; exact Nat.le_of_eq rfl) (hb hby d9_57) (fun _ _ => ⟨rfl, Eq243, (by decide : 2 + 0 ≤ _), (by decide : 76 + 0 ≤ _)⟩)
    dsimp only [Pt.U, Pt.locs, Pt.cells, Pt.slots] at X246 l246 y246 z246 st246 hQ246
    subst l246 y246 z246
    obtain ⟨rfl, rfl, Eq246⟩ := hQ246
    have Nq246 : Fr n0 ([] : List Loc) := Fr.nil n0
    have N247 := Fr.app Nh245 Nq246
    obtain ⟨Lh248, Xh248, Nh248⟩ := own_hide (cells' := 2) (slots' := 76) X246 N247 (Nat.le_of_ble_eq_true rfl) (Nat.le_of_ble_eq_true rfl)
    refine ownSt st246 ?_
    clear st246
    show ownG p.tables e below _ (T246.setTop (fr_of3 m a1 60 (.val (.int (2 : Int32))) (.val (.int (3 : Int32))) [(.int (3 : Int32)), (.int (3 : Int32))]))
    refine ownBy (A := T246.setTop (fr_of3 m a1 65 (.val (.int (2 : Int32))) (.val (.int (3 : Int32))) [(.ref a1), (.int (3 : Int32))])) (fun t kt => ?_) ?_
    · refine XS.icmpNo Xh248.here hx rfl (hb hby d9_60) rfl (flt ((by decide) : ¬ ((3 : Int32) < (3 : Int32)))).2.2.1 ?_
      show Steps p.tables e below (T246.setTop (fr_of3 m a1 63 (.val (.int (2 : Int32))) (.val (.int (3 : Int32))) [])) t
      refine XS.iloadN Xh248.here hx rfl (hb hby d9_63) rfl ?_
      show Steps p.tables e below (T246.setTop (fr_of3 m a1 64 (.val (.int (2 : Int32))) (.val (.int (3 : Int32))) [(.int (3 : Int32))])) t
      refine XS.aloadN Xh248.here hx rfl (hb hby d9_64) rfl rfl ?_
      exact kt
    obtain ⟨cq249, kq249, q249a, q249b, q249c⟩ := isOf hZ187 Eq246 f195
    obtain ⟨vv249, _, ⟨T249, L249, k249, n249⟩, -, X249, ⟨Lc249, hQ249, l249, y249, z249⟩, st249⟩ := Xh248.virtualBack hx (y := (⟨"java/lang/String", "length", "()I"⟩ : MethodName)) (z := (⟨"java/lang/String", "length", "()I"⟩ : MethodName)) hown187 (mvT hZ187 (Wd54 hw)) (mvT hZ187 (Wd55 hw)) (notFace_of_selects (args := #[]) (mvT hZ187 (Wd57 hw))) (mvT hZ187 (Wd57 hw)) (mvT hZ187 (Wd56 hw)) (by decide) (StrChars.Road.lenW (W := 1) hZ187 hln (kI := 4) (Wd9 hw) f195 f196 f197 f198 hcd194 hbd194 (O2.ext f202.2) P5 (Nat.le_of_ble_eq_true rfl) (by decide) (by decide)) q249a q249c (g := (fr_of3 m a1 65 (.val (.int (2 : Int32))) (.val (.int (3 : Int32))) [(.ref a1), (.int (3 : Int32))])) rfl (by rw [hml]; rfl) (Steps.refl _) (argsL := []) (rest := [(.int (3 : Int32))]) (lenOf pd_62 rfl) rfl (by show 2 * 0 + _ ≤ _; exact Nat.le_of_eq rfl) (hb hby d9_65) (fun _ _ => ⟨rfl, Eq246, (by decide : 2 + 0 ≤ _), (by decide : 76 + 0 ≤ _)⟩)
    dsimp only [Pt.U, Pt.locs, Pt.cells, Pt.slots] at X249 l249 y249 z249 st249 hQ249
    subst l249 y249 z249
    obtain ⟨rfl, rfl, Eq249⟩ := hQ249
    have Nq249 : Fr n0 ([] : List Loc) := Fr.nil n0
    have N250 := Fr.app Nh248 Nq249
    obtain ⟨Lh251, Xh251, Nh251⟩ := own_hide (cells' := 2) (slots' := 76) X249 N250 (Nat.le_of_ble_eq_true rfl) (Nat.le_of_ble_eq_true rfl)
    refine ownSt st249 ?_
    clear st249
    show ownG p.tables e below _ (T249.setTop (fr_of3 m a1 68 (.val (.int (2 : Int32))) (.val (.int (3 : Int32))) [(.int (3 : Int32)), (.int (3 : Int32))]))
    refine ownBy (A := T249.setTop (fr_of3 m a1 57 (.val (.int (4 : Int32))) (.val (.int (4 : Int32))) [(.ref a1), (.int (4 : Int32))])) (fun t kt => ?_) ?_
    · refine XS.icmpYes Xh251.here hx rfl (pc0 := 68) (pc' := 81) rfl (hb hby d9_68) rfl (teq ((by decide) : (3 : Int32) = (3 : Int32))).1 (by decide) (by decide) ?_
      show Steps p.tables e below (T249.setTop (fr_of3 m a1 81 (.val (.int (2 : Int32))) (.val (.int (3 : Int32))) [])) t
      refine XS.iloadN Xh251.here hx rfl (hb hby d9_81) rfl ?_
      show Steps p.tables e below (T249.setTop (fr_of3 m a1 82 (.val (.int (2 : Int32))) (.val (.int (3 : Int32))) [(.int (3 : Int32))])) t
      refine XS.iloadN Xh251.here hx rfl (hb hby d9_82) rfl ?_
      show Steps p.tables e below (T249.setTop (fr_of3 m a1 83 (.val (.int (2 : Int32))) (.val (.int (3 : Int32))) [(.int (2 : Int32)), (.int (3 : Int32))])) t
      refine XS.icmpYes Xh251.here hx rfl (pc0 := 83) (pc' := 97) rfl (hb hby d9_83) rfl (feq ((by decide) : ¬ ((3 : Int32) = (2 : Int32)))).2 (by decide) (by decide) ?_
      show Steps p.tables e below (T249.setTop (fr_of3 m a1 97 (.val (.int (2 : Int32))) (.val (.int (3 : Int32))) [])) t
      refine XS.iloadN Xh251.here hx rfl (hb hby d9_97) rfl ?_
      show Steps p.tables e below (T249.setTop (fr_of3 m a1 98 (.val (.int (2 : Int32))) (.val (.int (3 : Int32))) [(.int (3 : Int32))])) t
      refine XS.iconst Xh251.here hx rfl (hb hby d9_98) ?_
      show Steps p.tables e below (T249.setTop (fr_of3 m a1 99 (.val (.int (2 : Int32))) (.val (.int (3 : Int32))) [(.int (1 : Int32)), (.int (3 : Int32))])) t
      refine XS.iadd Xh251.here hx rfl (hb hby d9_99) rfl ?_
      show Steps p.tables e below (T249.setTop (fr_of3 m a1 100 (.val (.int (2 : Int32))) (.val (.int (3 : Int32))) [(.int (4 : Int32))])) t
      refine XS.istoreN Xh251.here hx rfl (hb hby d9_100) rfl (l' := #[.val (.ref a1), .val (.int (4 : Int32)), .val (.int (3 : Int32))]) rfl ?_
      show Steps p.tables e below (T249.setTop (fr_of3 m a1 101 (.val (.int (4 : Int32))) (.val (.int (3 : Int32))) [])) t
      refine XS.goto Xh251.here hx rfl (pc0 := 101) (pc' := 147) rfl (hb hby d9_101) (by decide) (by decide) ?_
      show Steps p.tables e below (T249.setTop (fr_of3 m a1 147 (.val (.int (4 : Int32))) (.val (.int (3 : Int32))) [])) t
      refine XS.iinc Xh251.here hx rfl (hb hby d9_147) rfl (l' := #[.val (.ref a1), .val (.int (4 : Int32)), .val (.int (4 : Int32))]) rfl ?_
      show Steps p.tables e below (T249.setTop (fr_of3 m a1 150 (.val (.int (4 : Int32))) (.val (.int (4 : Int32))) [])) t
      refine XS.goto Xh251.here hx rfl (pc0 := 150) (pc' := 55) rfl (hb hby d9_150) (by decide) (by decide) ?_
      show Steps p.tables e below (T249.setTop (fr_of3 m a1 55 (.val (.int (4 : Int32))) (.val (.int (4 : Int32))) [])) t
      refine XS.iloadN Xh251.here hx rfl (hb hby d9_55) rfl ?_
      show Steps p.tables e below (T249.setTop (fr_of3 m a1 56 (.val (.int (4 : Int32))) (.val (.int (4 : Int32))) [(.int (4 : Int32))])) t
      refine XS.aloadN Xh251.here hx rfl (hb hby d9_56) rfl rfl ?_
      exact kt
    obtain ⟨cq252, kq252, q252a, q252b, q252c⟩ := isOf hZ187 Eq249 f195
    obtain ⟨vv252, _, ⟨T252, L252, k252, n252⟩, -, X252, ⟨Lc252, hQ252, l252, y252, z252⟩, st252⟩ := Xh251.virtualBack hx (y := (⟨"java/lang/String", "length", "()I"⟩ : MethodName)) (z := (⟨"java/lang/String", "length", "()I"⟩ : MethodName)) hown187 (mvT hZ187 (Wd54 hw)) (mvT hZ187 (Wd55 hw)) (notFace_of_selects (args := #[]) (mvT hZ187 (Wd57 hw))) (mvT hZ187 (Wd57 hw)) (mvT hZ187 (Wd56 hw)) (by decide) (StrChars.Road.lenW (W := 1) hZ187 hln (kI := 4) (Wd9 hw) f195 f196 f197 f198 hcd194 hbd194 (O2.ext f202.2) P5 (Nat.le_of_ble_eq_true rfl) (by decide) (by decide)) q252a q252c (g := (fr_of3 m a1 57 (.val (.int (4 : Int32))) (.val (.int (4 : Int32))) [(.ref a1), (.int (4 : Int32))])) rfl (by rw [hml]; rfl) (Steps.refl _) (argsL := []) (rest := [(.int (4 : Int32))]) (lenOf pd_62 rfl) rfl (by show 2 * 0 + _ ≤ _; exact Nat.le_of_eq rfl) (hb hby d9_57) (fun _ _ => ⟨rfl, Eq249, (by decide : 2 + 0 ≤ _), (by decide : 76 + 0 ≤ _)⟩)
    dsimp only [Pt.U, Pt.locs, Pt.cells, Pt.slots] at X252 l252 y252 z252 st252 hQ252
    subst l252 y252 z252
    obtain ⟨rfl, rfl, Eq252⟩ := hQ252
    have Nq252 : Fr n0 ([] : List Loc) := Fr.nil n0
    have N253 := Fr.app Nh251 Nq252
    obtain ⟨Lh254, Xh254, Nh254⟩ := own_hide (cells' := 2) (slots' := 76) X252 N253 (Nat.le_of_ble_eq_true rfl) (Nat.le_of_ble_eq_true rfl)
    refine ownSt st252 ?_
    clear st252
    show ownG p.tables e below _ (T252.setTop (fr_of3 m a1 60 (.val (.int (4 : Int32))) (.val (.int (4 : Int32))) [(.int (3 : Int32)), (.int (4 : Int32))]))
    refine ownBy (A := T252.setTop (fr_of3 m a1 153 (.val (.int (4 : Int32))) (.val (.int (4 : Int32))) [])) (fun t kt => ?_) ?_
    · refine XS.icmpYes Xh254.here hx rfl (pc0 := 60) (pc' := 153) rfl (hb hby d9_60) rfl (tlt ((by decide) : (3 : Int32) < (4 : Int32))).2.2.1 (by decide) (by decide) ?_
      exact kt
    obtain ⟨T255, h255, X255, e255, E255, A255, D255, -, st255⟩ := newO Xh254 hx hZ187 hown187 (Wd89 hw) (Wd90 hw) (Wd40 hw) Eq252 (g := (fr_of3 m a1 153 (.val (.int (4 : Int32))) (.val (.int (4 : Int32))) [])) rfl (hb hby d9_153) (by decide) (by decide)
    obtain ⟨b255, g255⟩ : ∃ z, z = h187.size := ⟨_, rfl⟩
    rw [← g255] at A255 D255 st255
    have ne256 : a1 ≠ b255 := Nat.ne_of_lt (Nat.lt_of_lt_of_le f195.lt (Nat.le_of_eq g255.symm))
    have ne257 : t1 ≠ b255 := Nat.ne_of_lt (Nat.lt_of_lt_of_le f198.lt (Nat.le_of_eq g255.symm))
    have g258 : n0 ≤ b255 := Nat.le_trans f190 (Nat.le_of_eq g255.symm)
    have sf259 : Safe Z ownEL T187.vm h187 b255 := Safe.new (Nat.le_of_eq g255.symm)
    have f261 := ((Keep.refl h0 []).ext E187)
    have z260 : h0.size ≤ b255 := Nat.le_trans f261.1 (Nat.le_of_eq g255.symm)
    have R262 := R189.trans (CHr.ext E255 R189.1)
    have sf263 := Safe.ext E255 R189.1 sf259
    have F264 : Fld Z h255 b255 "com/example/boring_outbox/boringoutbox/EventType" "name" "Ljava/lang/String;" .null := D255 (Or.inr (Wd96 hw)) (ty := (.object "java/lang/String")) (by decide)
    refine ownBy st255 ?_
    clear st255
    show ownG p.tables e below _ (T255.setTop (fr_of3 m a1 156 (.val (.int (4 : Int32))) (.val (.int (4 : Int32))) [(.ref b255)]))
    refine ownBy (A := T255.setTop (fr_of3 m a1 158 (.val (.int (4 : Int32))) (.val (.int (4 : Int32))) [(.ref a1), (.ref b255), (.ref b255)])) (fun t kt => ?_) ?_
    · refine XS.dup X255.here hx rfl (hb hby d9_156) rfl rfl ?_
      show Steps p.tables e below (T255.setTop (fr_of3 m a1 157 (.val (.int (4 : Int32))) (.val (.int (4 : Int32))) [(.ref b255), (.ref b255)])) t
      refine XS.aloadN X255.here hx rfl (hb hby d9_157) rfl rfl ?_
      exact kt
    have f265 := (Nat.le_trans f190 E255.1)
    obtain ⟨vv266, _, ⟨T266, L266, k266, n266⟩, -, X266, ⟨Lc266, hQ266, l266, y266, z266⟩, st266⟩ := X255.specialBack hx (y := (⟨"com/example/boring_outbox/boringoutbox/EventType", "<init>", "(Ljava/lang/String;)V"⟩ : MethodName)) rfl hown187 (mvT hZ187 (Wd91 hw)) (mvT hZ187 (Wd92 hw)) (mvT hZ187 (Wd93 hw)) (by decide) (backOf (W := 1) (c_ein l Z a0 hw [] b255 a1 _ h255 n0 f265 A255 F264 g258) hZ187 (Wd93 hw) (Wd40 hw) (by decide) (by decide)) (g := (fr_of3 m a1 158 (.val (.int (4 : Int32))) (.val (.int (4 : Int32))) [(.ref a1), (.ref b255), (.ref b255)])) rfl (by rw [hml]; rfl) (Steps.refl _) (a := b255) (argsL := [(.ref a1)]) (rest := [(.ref b255)]) (lenOf pd_102 rfl) rfl (by show 2 * 0 + _ ≤ _; exact Nat.le_of_eq rfl) (hb hby d9_158) (fun _ _ => ⟨rfl, e255, (by decide : 3 + 0 ≤ _), (by decide : 77 + 0 ≤ _)⟩)
    dsimp only [Pt.U, Pt.locs, Pt.cells, Pt.slots] at X266 l266 y266 z266 st266 hQ266
    subst l266 y266 z266
    obtain ⟨rfl, Nq266, Kq266, Fa266⟩ := hQ266
    have N267 := Fr.app Nh254 Nq266
    have R268 := R262.trans (CHr.keep Kq266 (sfS sf263 sf0) R262.1)
    have sf269 := Safe.keep Kq266 (sfS sf263 sf0) R262.1 sf263
    obtain ⟨Lh270, Xh270, Nh270⟩ := own_hide (cells' := 3) (slots' := 77) X266 N267 (Nat.le_of_ble_eq_true rfl) (Nat.le_of_ble_eq_true rfl)
    refine ownSt st266 ?_
    clear st266
    show ownG p.tables e below _ (T266.setTop (fr_of3 m a1 161 (.val (.int (4 : Int32))) (.val (.int (4 : Int32))) [(.ref b255)]))
    have f271 := ((f261.ext E255).trans Kq266 (allS (Or.inr z260) all0))
    have f272 := (A255.keep Kq266)
    refine ownRetH Xh270 hS187 (Nat.le_trans (Nat.le_trans hk187 E255.1) Kq266.1) Bd.notSynchronized (v := some (.ref b255)) (fun h => by rw [Bd.returns] at h; cases h) ?_ (R268.trans (CHv.at Xh270 hZ187 hEL R268.1)) (Nat.le_of_ble_eq_true rfl) (Nat.le_of_ble_eq_true rfl) (fun fs hr => retOut Xh270 hx Bd.returns rfl (Or.inr (Or.inr (Or.inr (Or.inr ⟨rfl, rfl, rfl⟩)))) (hb hby d9_161) hr)
    show (Q_of3 Z a1 t1 kb1 c0 c1 c2 G1 G3 h0 n0) (some (.ref b255)) T266.heap _
    exact ⟨b255, rfl, Nh270, f271, z260, f272, Fa266⟩
  · skip
    refine ownBy (A := T227.setTop (fr_of3 m a1 106 (.val (.int (0 : Int32))) (.val (.int (1 : Int32))) [(.int (1 : Int32)), (.ref a1)])) (fun t kt => ?_) ?_
    · refine XS.icmpYes Xh229.here hx rfl (pc0 := 78) (pc' := 104) rfl (hb hby d9_78) rfl (feq hc230).2 (by decide) (by decide) ?_
      show Steps p.tables e below (T227.setTop (fr_of3 m a1 104 (.val (.int (0 : Int32))) (.val (.int (1 : Int32))) [])) t
      refine XS.aloadN Xh229.here hx rfl (hb hby d9_104) rfl rfl ?_
      show Steps p.tables e below (T227.setTop (fr_of3 m a1 105 (.val (.int (0 : Int32))) (.val (.int (1 : Int32))) [(.ref a1)])) t
      refine XS.iloadN Xh229.here hx rfl (hb hby d9_105) rfl ?_
      exact kt
    obtain ⟨cq274, kq274, q274a, q274b, q274c⟩ := isOf hZ187 Eq227 f195
    obtain ⟨vv274, _, ⟨T274, L274, k274, n274⟩, -, X274, ⟨Lc274, hQ274, l274, y274, z274⟩, st274⟩ := Xh229.virtualBack hx (y := (⟨"java/lang/String", "charAt", "(I)C"⟩ : MethodName)) (z := (⟨"java/lang/String", "charAt", "(I)C"⟩ : MethodName)) hown187 (mvT hZ187 (Wd64 hw)) (mvT hZ187 (Wd65 hw)) (notFace_of_selects (args := #[]) (mvT hZ187 (Wd67 hw))) (mvT hZ187 (Wd67 hw)) (mvT hZ187 (Wd66 hw)) (by decide) (StrChars.Road.chN (W := 0) hZ187 hch (kI := 4) (Wd9 hw) f195 f196 f197 f198 hcd194 hbd194 (O2.ext f202.2) P5 (O4.ext f202.2) rG3 (Nat.le_of_ble_eq_true rfl) (i := 1) (Nat.le_of_ble_eq_true rfl) (j := (1 : Int32)) rfl (by decide) (by decide)) q274a q274c (g := (fr_of3 m a1 106 (.val (.int (0 : Int32))) (.val (.int (1 : Int32))) [(.int (1 : Int32)), (.ref a1)])) rfl (by rw [hml]; rfl) (Steps.refl _) (argsL := [(.int (1 : Int32))]) (rest := []) (lenOf pd_8 rfl) rfl (by show 2 * 0 + _ ≤ _; exact Nat.le_of_eq rfl) (hb hby d9_106) (fun _ _ => ⟨rfl, Eq227, (by decide : 2 + 0 ≤ _), (by decide : 76 + 0 ≤ _)⟩)
    dsimp only [Pt.U, Pt.locs, Pt.cells, Pt.slots] at X274 l274 y274 z274 st274 hQ274
    subst l274 y274 z274
    obtain ⟨rfl, rfl, Eq274⟩ := hQ274
    have Nq274 : Fr n0 ([] : List Loc) := Fr.nil n0
    have N275 := Fr.app Nh229 Nq274
    obtain ⟨Lh276, Xh276, Nh276⟩ := own_hide (cells' := 2) (slots' := 76) X274 N275 (Nat.le_of_ble_eq_true rfl) (Nat.le_of_ble_eq_true rfl)
    refine ownSt st274 ?_
    clear st274
    show ownG p.tables e below _ (T274.setTop (fr_of3 m a1 109 (.val (.int (0 : Int32))) (.val (.int (1 : Int32))) [(.int c1)]))
    obtain ⟨vv277, _, ⟨T277, L277, k277, n277⟩, -, X277, ⟨Lc277, hQ277, l277, y277, z277⟩, st277⟩ := Jvm.LawKit.callS Xh276 hx (y := (⟨"com/example/boring_outbox/boringoutbox/EventType", "isIdentifierCharacter", "(C)Z"⟩ : MethodName)) hown187 (mvT hZ187 (Wd86 hw)) (mvT hZ187 (Wd87 hw)) (mvT hZ187 (Wd40 hw)) (mvT hZ187 (Wd88 hw)) (by decide) (backOf (W := 0) (c_isi l Z a0 hw [] c1 h187 n0 f190 (hi1.resolve_left hc230)) hZ187 (Wd88 hw) (Wd40 hw) (by decide) (by decide)) (g := (fr_of3 m a1 109 (.val (.int (0 : Int32))) (.val (.int (1 : Int32))) [(.int c1)])) rfl (by rw [hml]; rfl) (argsL := [(.int c1)]) (rest := []) (lenOf pd_78 rfl) rfl (by show 2 * 0 + _ ≤ _; exact Nat.le_of_eq rfl) (hb hby d9_109) (fun _ _ => ⟨rfl, Eq274, (by decide : 2 + 0 ≤ _), (by decide : 76 + 0 ≤ _)⟩)
    dsimp only [Pt.U, Pt.locs, Pt.cells, Pt.slots] at X277 l277 y277 z277 st277 hQ277
    subst l277 y277 z277
    obtain ⟨rfl, Nq277, Eq277⟩ := hQ277
    have N278 := Fr.app Nh276 Nq277
    obtain ⟨Lh279, Xh279, Nh279⟩ := own_hide (cells' := 2) (slots' := 76) X277 N278 (Nat.le_of_ble_eq_true rfl) (Nat.le_of_ble_eq_true rfl)
    refine ownBy st277 ?_
    clear st277
    show ownG p.tables e below _ (T277.setTop (fr_of3 m a1 112 (.val (.int (0 : Int32))) (.val (.int (1 : Int32))) [(.int (1 : Int32))]))
    refine ownBy (A := T277.setTop (fr_of3 m a1 57 (.val (.int (0 : Int32))) (.val (.int (2 : Int32))) [(.ref a1), (.int (2 : Int32))])) (fun t kt => ?_) ?_
    · refine XS.ifYes Xh279.here hx rfl (pc0 := 112) (pc' := 147) rfl (hb hby d9_112) rfl ((if0 _ _).trans (feq ((by decide) : ¬ ((1 : Int32) = (0 : Int32)))).2) (by decide) (by decide) ?_
      show Steps p.tables e below (T277.setTop (fr_of3 m a1 147 (.val (.int (0 : Int32))) (.val (.int (1 : Int32))) [])) t
      refine XS.iinc Xh279.here hx rfl (hb hby d9_147) rfl (l' := #[.val (.ref a1), .val (.int (0 : Int32)), .val (.int (2 : Int32))]) rfl ?_
      show Steps p.tables e below (T277.setTop (fr_of3 m a1 150 (.val (.int (0 : Int32))) (.val (.int (2 : Int32))) [])) t
      refine XS.goto Xh279.here hx rfl (pc0 := 150) (pc' := 55) rfl (hb hby d9_150) (by decide) (by decide) ?_
      show Steps p.tables e below (T277.setTop (fr_of3 m a1 55 (.val (.int (0 : Int32))) (.val (.int (2 : Int32))) [])) t
      refine XS.iloadN Xh279.here hx rfl (hb hby d9_55) rfl ?_
      show Steps p.tables e below (T277.setTop (fr_of3 m a1 56 (.val (.int (0 : Int32))) (.val (.int (2 : Int32))) [(.int (2 : Int32))])) t
      refine XS.aloadN Xh279.here hx rfl (hb hby d9_56) rfl rfl ?_
      exact kt
    obtain ⟨cq280, kq280, q280a, q280b, q280c⟩ := isOf hZ187 Eq277 f195
    obtain ⟨vv280, _, ⟨T280, L280, k280, n280⟩, -, X280, ⟨Lc280, hQ280, l280, y280, z280⟩, st280⟩ := Xh279.virtualBack hx (y := (⟨"java/lang/String", "length", "()I"⟩ : MethodName)) (z := (⟨"java/lang/String", "length", "()I"⟩ : MethodName)) hown187 (mvT hZ187 (Wd54 hw)) (mvT hZ187 (Wd55 hw)) (notFace_of_selects (args := #[]) (mvT hZ187 (Wd57 hw))) (mvT hZ187 (Wd57 hw)) (mvT hZ187 (Wd56 hw)) (by decide) (StrChars.Road.lenW (W := 1) hZ187 hln (kI := 4) (Wd9 hw) f195 f196 f197 f198 hcd194 hbd194 (O2.ext f202.2) P5 (Nat.le_of_ble_eq_true rfl) (by decide) (by decide)) q280a q280c (g := (fr_of3 m a1 57 (.val (.int (0 : Int32))) (.val (.int (2 : Int32))) [(.ref a1), (.int (2 : Int32))])) rfl (by rw [hml]; rfl) (Steps.refl _) (argsL := []) (rest := [(.int (2 : Int32))]) (lenOf pd_62 rfl) rfl (by show 2 * 0 + _ ≤ _; exact Nat.le_of_eq rfl) (hb hby d9_57) (fun _ _ => ⟨rfl, Eq277, (by decide : 2 + 0 ≤ _), (by decide : 76 + 0 ≤ _)⟩)
    dsimp only [Pt.U, Pt.locs, Pt.cells, Pt.slots] at X280 l280 y280 z280 st280 hQ280
    subst l280 y280 z280
    obtain ⟨rfl, rfl, Eq280⟩ := hQ280
    have Nq280 : Fr n0 ([] : List Loc) := Fr.nil n0
    have N281 := Fr.app Nh279 Nq280
    obtain ⟨Lh282, Xh282, Nh282⟩ := own_hide (cells' := 2) (slots' := 76) X280 N281 (Nat.le_of_ble_eq_true rfl) (Nat.le_of_ble_eq_true rfl)
    refine ownSt st280 ?_
    clear st280
    show ownG p.tables e below _ (T280.setTop (fr_of3 m a1 60 (.val (.int (0 : Int32))) (.val (.int (2 : Int32))) [(.int (3 : Int32)), (.int (2 : Int32))]))
    refine ownBy (A := T280.setTop (fr_of3 m a1 65 (.val (.int (0 : Int32))) (.val (.int (2 : Int32))) [(.ref a1), (.int (2 : Int32))])) (fun t kt => ?_) ?_
    · refine XS.icmpNo Xh282.here hx rfl (hb hby d9_60) rfl (flt ((by decide) : ¬ ((3 : Int32) < (2 : Int32)))).2.2.1 ?_
      show Steps p.tables e below (T280.setTop (fr_of3 m a1 63 (.val (.int (0 : Int32))) (.val (.int (2 : Int32))) [])) t
      refine XS.iloadN Xh282.here hx rfl (hb hby d9_63) rfl ?_
      show Steps p.tables e below (T280.setTop (fr_of3 m a1 64 (.val (.int (0 : Int32))) (.val (.int (2 : Int32))) [(.int (2 : Int32))])) t
      refine XS.aloadN Xh282.here hx rfl (hb hby d9_64) rfl rfl ?_
      exact kt
    obtain ⟨cq283, kq283, q283a, q283b, q283c⟩ := isOf hZ187 Eq280 f195
    obtain ⟨vv283, _, ⟨T283, L283, k283, n283⟩, -, X283, ⟨Lc283, hQ283, l283, y283, z283⟩, st283⟩ := Xh282.virtualBack hx (y := (⟨"java/lang/String", "length", "()I"⟩ : MethodName)) (z := (⟨"java/lang/String", "length", "()I"⟩ : MethodName)) hown187 (mvT hZ187 (Wd54 hw)) (mvT hZ187 (Wd55 hw)) (notFace_of_selects (args := #[]) (mvT hZ187 (Wd57 hw))) (mvT hZ187 (Wd57 hw)) (mvT hZ187 (Wd56 hw)) (by decide) (StrChars.Road.lenW (W := 1) hZ187 hln (kI := 4) (Wd9 hw) f195 f196 f197 f198 hcd194 hbd194 (O2.ext f202.2) P5 (Nat.le_of_ble_eq_true rfl) (by decide) (by decide)) q283a q283c (g := (fr_of3 m a1 65 (.val (.int (0 : Int32))) (.val (.int (2 : Int32))) [(.ref a1), (.int (2 : Int32))])) rfl (by rw [hml]; rfl) (Steps.refl _) (argsL := []) (rest := [(.int (2 : Int32))]) (lenOf pd_62 rfl) rfl (by show 2 * 0 + _ ≤ _; exact Nat.le_of_eq rfl) (hb hby d9_65) (fun _ _ => ⟨rfl, Eq280, (by decide : 2 + 0 ≤ _), (by decide : 76 + 0 ≤ _)⟩)
    dsimp only [Pt.U, Pt.locs, Pt.cells, Pt.slots] at X283 l283 y283 z283 st283 hQ283
    subst l283 y283 z283
    obtain ⟨rfl, rfl, Eq283⟩ := hQ283
    have Nq283 : Fr n0 ([] : List Loc) := Fr.nil n0
    have N284 := Fr.app Nh282 Nq283
    obtain ⟨Lh285, Xh285, Nh285⟩ := own_hide (cells' := 2) (slots' := 76) X283 N284 (Nat.le_of_ble_eq_true rfl) (Nat.le_of_ble_eq_true rfl)
    refine ownSt st283 ?_
    clear st283
    show ownG p.tables e below _ (T283.setTop (fr_of3 m a1 68 (.val (.int (0 : Int32))) (.val (.int (2 : Int32))) [(.int (3 : Int32)), (.int (2 : Int32))]))
    refine ownBy (A := T283.setTop (fr_of3 m a1 73 (.val (.int (0 : Int32))) (.val (.int (2 : Int32))) [(.int (2 : Int32)), (.ref a1)])) (fun t kt => ?_) ?_
    · refine XS.icmpNo Xh285.here hx rfl (hb hby d9_68) rfl (feq ((by decide) : ¬ ((2 : Int32) = (3 : Int32)))).1 ?_
      show Steps p.tables e below (T283.setTop (fr_of3 m a1 71 (.val (.int (0 : Int32))) (.val (.int (2 : Int32))) [])) t
      refine XS.aloadN Xh285.here hx rfl (hb hby d9_71) rfl rfl ?_
      show Steps p.tables e below (T283.setTop (fr_of3 m a1 72 (.val (.int (0 : Int32))) (.val (.int (2 : Int32))) [(.ref a1)])) t
      refine XS.iloadN Xh285.here hx rfl (hb hby d9_72) rfl ?_
      exact kt
    obtain ⟨cq286, kq286, q286a, q286b, q286c⟩ := isOf hZ187 Eq283 f195
    obtain ⟨vv286, _, ⟨T286, L286, k286, n286⟩, -, X286, ⟨Lc286, hQ286, l286, y286, z286⟩, st286⟩ := Xh285.virtualBack hx (y := (⟨"java/lang/String", "charAt", "(I)C"⟩ : MethodName)) (z := (⟨"java/lang/String", "charAt", "(I)C"⟩ : MethodName)) hown187 (mvT hZ187 (Wd64 hw)) (mvT hZ187 (Wd65 hw)) (notFace_of_selects (args := #[]) (mvT hZ187 (Wd67 hw))) (mvT hZ187 (Wd67 hw)) (mvT hZ187 (Wd66 hw)) (by decide) (StrChars.Road.chN (W := 0) hZ187 hch (kI := 4) (Wd9 hw) f195 f196 f197 f198 hcd194 hbd194 (O2.ext f202.2) P5 (O4.ext f202.2) rG3 (Nat.le_of_ble_eq_true rfl) (i := 2) (Nat.le_of_ble_eq_true rfl) (j := (2 : Int32)) rfl (by decide) (by decide)) q286a q286c (g := (fr_of3 m a1 73 (.val (.int (0 : Int32))) (.val (.int (2 : Int32))) [(.int (2 : Int32)), (.ref a1)])) rfl (by rw [hml]; rfl) (Steps.refl _) (argsL := [(.int (2 : Int32))]) (rest := []) (lenOf pd_8 rfl) rfl (by show 2 * 0 + _ ≤ _; exact Nat.le_of_eq rfl) (hb hby d9_73) (fun _ _ => ⟨rfl, Eq283, (by decide : 2 + 0 ≤ _), (by decide : 76 + 0 ≤ _)⟩)
    dsimp only [Pt.U, Pt.locs, Pt.cells, Pt.slots] at X286 l286 y286 z286 st286 hQ286
    subst l286 y286 z286
    obtain ⟨rfl, rfl, Eq286⟩ := hQ286
    have Nq286 : Fr n0 ([] : List Loc) := Fr.nil n0
    have N287 := Fr.app Nh285 Nq286
    obtain ⟨Lh288, Xh288, Nh288⟩ := own_hide (cells' := 2) (slots' := 76) X286 N287 (Nat.le_of_ble_eq_true rfl) (Nat.le_of_ble_eq_true rfl)
    refine ownSt st286 ?_
    clear st286
    show ownG p.tables e below _ (T286.setTop (fr_of3 m a1 76 (.val (.int (0 : Int32))) (.val (.int (2 : Int32))) [(.int c2)]))
    refine ownBy (A := T286.setTop (fr_of3 m a1 106 (.val (.int (0 : Int32))) (.val (.int (2 : Int32))) [(.int (2 : Int32)), (.ref a1)])) (fun t kt => ?_) ?_
    · refine XS.bipush Xh288.here hx rfl (hb hby d9_76) ?_
      show Steps p.tables e below (T286.setTop (fr_of3 m a1 78 (.val (.int (0 : Int32))) (.val (.int (2 : Int32))) [(.int (46 : Int32)), (.int c2)])) t
      refine XS.icmpYes Xh288.here hx rfl (pc0 := 78) (pc' := 104) rfl (hb hby d9_78) rfl (feq hnl).2 (by decide) (by decide) ?_
      show Steps p.tables e below (T286.setTop (fr_of3 m a1 104 (.val (.int (0 : Int32))) (.val (.int (2 : Int32))) [])) t
      refine XS.aloadN Xh288.here hx rfl (hb hby d9_104) rfl rfl ?_
      show Steps p.tables e below (T286.setTop (fr_of3 m a1 105 (.val (.int (0 : Int32))) (.val (.int (2 : Int32))) [(.ref a1)])) t
      refine XS.iloadN Xh288.here hx rfl (hb hby d9_105) rfl ?_
      exact kt
    obtain ⟨cq289, kq289, q289a, q289b, q289c⟩ := isOf hZ187 Eq286 f195
    obtain ⟨vv289, _, ⟨T289, L289, k289, n289⟩, -, X289, ⟨Lc289, hQ289, l289, y289, z289⟩, st289⟩ := Xh288.virtualBack hx (y := (⟨"java/lang/String", "charAt", "(I)C"⟩ : MethodName)) (z := (⟨"java/lang/String", "charAt", "(I)C"⟩ : MethodName)) hown187 (mvT hZ187 (Wd64 hw)) (mvT hZ187 (Wd65 hw)) (notFace_of_selects (args := #[]) (mvT hZ187 (Wd67 hw))) (mvT hZ187 (Wd67 hw)) (mvT hZ187 (Wd66 hw)) (by decide) (StrChars.Road.chN (W := 0) hZ187 hch (kI := 4) (Wd9 hw) f195 f196 f197 f198 hcd194 hbd194 (O2.ext f202.2) P5 (O4.ext f202.2) rG3 (Nat.le_of_ble_eq_true rfl) (i := 2) (Nat.le_of_ble_eq_true rfl) (j := (2 : Int32)) rfl (by decide) (by decide)) q289a q289c (g := (fr_of3 m a1 106 (.val (.int (0 : Int32))) (.val (.int (2 : Int32))) [(.int (2 : Int32)), (.ref a1)])) rfl (by rw [hml]; rfl) (Steps.refl _) (argsL := [(.int (2 : Int32))]) (rest := []) (lenOf pd_8 rfl) rfl (by show 2 * 0 + _ ≤ _; exact Nat.le_of_eq rfl) (hb hby d9_106) (fun _ _ => ⟨rfl, Eq286, (by decide : 2 + 0 ≤ _), (by decide : 76 + 0 ≤ _)⟩)
    dsimp only [Pt.U, Pt.locs, Pt.cells, Pt.slots] at X289 l289 y289 z289 st289 hQ289
    subst l289 y289 z289
    obtain ⟨rfl, rfl, Eq289⟩ := hQ289
    have Nq289 : Fr n0 ([] : List Loc) := Fr.nil n0
    have N290 := Fr.app Nh288 Nq289
    obtain ⟨Lh291, Xh291, Nh291⟩ := own_hide (cells' := 2) (slots' := 76) X289 N290 (Nat.le_of_ble_eq_true rfl) (Nat.le_of_ble_eq_true rfl)
    refine ownSt st289 ?_
    clear st289
    show ownG p.tables e below _ (T289.setTop (fr_of3 m a1 109 (.val (.int (0 : Int32))) (.val (.int (2 : Int32))) [(.int c2)]))
    obtain ⟨vv292, _, ⟨T292, L292, k292, n292⟩, -, X292, ⟨Lc292, hQ292, l292, y292, z292⟩, st292⟩ := Jvm.LawKit.callS Xh291 hx (y := (⟨"com/example/boring_outbox/boringoutbox/EventType", "isIdentifierCharacter", "(C)Z"⟩ : MethodName)) hown187 (mvT hZ187 (Wd86 hw)) (mvT hZ187 (Wd87 hw)) (mvT hZ187 (Wd40 hw)) (mvT hZ187 (Wd88 hw)) (by decide) (backOf (W := 0) (c_isi l Z a0 hw [] c2 h187 n0 f190 (hi2.resolve_left hnl)) hZ187 (Wd88 hw) (Wd40 hw) (by decide) (by decide)) (g := (fr_of3 m a1 109 (.val (.int (0 : Int32))) (.val (.int (2 : Int32))) [(.int c2)])) rfl (by rw [hml]; rfl) (argsL := [(.int c2)]) (rest := []) (lenOf pd_78 rfl) rfl (by show 2 * 0 + _ ≤ _; exact Nat.le_of_eq rfl) (hb hby d9_109) (fun _ _ => ⟨rfl, Eq289, (by decide : 2 + 0 ≤ _), (by decide : 76 + 0 ≤ _)⟩)
    dsimp only [Pt.U, Pt.locs, Pt.cells, Pt.slots] at X292 l292 y292 z292 st292 hQ292
    subst l292 y292 z292
    obtain ⟨rfl, Nq292, Eq292⟩ := hQ292
    have N293 := Fr.app Nh291 Nq292
    obtain ⟨Lh294, Xh294, Nh294⟩ := own_hide (cells' := 2) (slots' := 76) X292 N293 (Nat.le_of_ble_eq_true rfl) (Nat.le_of_ble_eq_true rfl)
    refine ownBy st292 ?_
    clear st292
    show ownG p.tables e below _ (T292.setTop (fr_of3 m a1 112 (.val (.int (0 : Int32))) (.val (.int (2 : Int32))) [(.int (1 : Int32))]))
    refine ownBy (A := T292.setTop (fr_of3 m a1 57 (.val (.int (0 : Int32))) (.val (.int (3 : Int32))) [(.ref a1), (.int (3 : Int32))])) (fun t kt => ?_) ?_
    · refine XS.ifYes Xh294.here hx rfl (pc0 := 112) (pc' := 147) rfl (hb hby d9_112) rfl ((if0 _ _).trans (feq ((by decide) : ¬ ((1 : Int32) = (0 : Int32)))).2) (by decide) (by decide) ?_
      show Steps p.tables e below (T292.setTop (fr_of3 m a1 147 (.val (.int (0 : Int32))) (.val (.int (2 : Int32))) [])) t
      refine XS.iinc Xh294.here hx rfl (hb hby d9_147) rfl (l' := #[.val (.ref a1), .val (.int (0 : Int32)), .val (.int (3 : Int32))]) rfl ?_
      show Steps p.tables e below (T292.setTop (fr_of3 m a1 150 (.val (.int (0 : Int32))) (.val (.int (3 : Int32))) [])) t
      refine XS.goto Xh294.here hx rfl (pc0 := 150) (pc' := 55) rfl (hb hby d9_150) (by decide) (by decide) ?_
      show Steps p.tables e below (T292.setTop (fr_of3 m a1 55 (.val (.int (0 : Int32))) (.val (.int (3 : Int32))) [])) t
      refine XS.iloadN Xh294.here hx rfl (hb hby d9_55) rfl ?_
      show Steps p.tables e below (T292.setTop (fr_of3 m a1 56 (.val (.int (0 : Int32))) (.val (.int (3 : Int32))) [(.int (3 : Int32))])) t
      refine XS.aloadN Xh294.here hx rfl (hb hby d9_56) rfl rfl ?_
      exact kt
    obtain ⟨cq295, kq295, q295a, q295b, q295c⟩ := isOf hZ187 Eq292 f195
    obtain ⟨vv295, _, ⟨T295, L295, k295, n295⟩, -, X295, ⟨Lc295, hQ295, l295, y295, z295⟩, st295⟩ := Xh294.virtualBack hx (y := (⟨"java/lang/String", "length", "()I"⟩ : MethodName)) (z := (⟨"java/lang/String", "length", "()I"⟩ : MethodName)) hown187 (mvT hZ187 (Wd54 hw)) (mvT hZ187 (Wd55 hw)) (notFace_of_selects (args := #[]) (mvT hZ187 (Wd57 hw))) (mvT hZ187 (Wd57 hw)) (mvT hZ187 (Wd56 hw)) (by decide) (StrChars.Road.lenW (W := 1) hZ187 hln (kI := 4) (Wd9 hw) f195 f196 f197 f198 hcd194 hbd194 (O2.ext f202.2) P5 (Nat.le_of_ble_eq_true rfl) (by decide) (by decide)) q295a q295c (g := (fr_of3 m a1 57 (.val (.int (0 : Int32))) (.val (.int (3 : Int32))) [(.ref a1), (.int (3 : Int32))])) rfl (by rw [hml]; rfl) (Steps.refl _) (argsL := []) (rest := [(.int (3 : Int32))]) (lenOf pd_62 rfl) rfl (by show 2 * 0 + _ ≤ _; exact Nat.le_of_eq rfl) (hb hby d9_57) (fun _ _ => ⟨rfl, Eq292, (by decide : 2 + 0 ≤ _), (by decide : 76 + 0 ≤ _)⟩)
    dsimp only [Pt.U, Pt.locs, Pt.cells, Pt.slots] at X295 l295 y295 z295 st295 hQ295
    subst l295 y295 z295
    obtain ⟨rfl, rfl, Eq295⟩ := hQ295
    have Nq295 : Fr n0 ([] : List Loc) := Fr.nil n0
    have N296 := Fr.app Nh294 Nq295
    obtain ⟨Lh297, Xh297, Nh297⟩ := own_hide (cells' := 2) (slots' := 76) X295 N296 (Nat.le_of_ble_eq_true rfl) (Nat.le_of_ble_eq_true rfl)
    refine ownSt st295 ?_
    clear st295
    show ownG p.tables e below _ (T295.setTop (fr_of3 m a1 60 (.val (.int (0 : Int32))) (.val (.int (3 : Int32))) [(.int (3 : Int32)), (.int (3 : Int32))]))
    refine ownBy (A := T295.setTop (fr_of3 m a1 65 (.val (.int (0 : Int32))) (.val (.int (3 : Int32))) [(.ref a1), (.int (3 : Int32))])) (fun t kt => ?_) ?_
    · refine XS.icmpNo Xh297.here hx rfl (hb hby d9_60) rfl (flt ((by decide) : ¬ ((3 : Int32) < (3 : Int32)))).2.2.1 ?_
      show Steps p.tables e below (T295.setTop (fr_of3 m a1 63 (.val (.int (0 : Int32))) (.val (.int (3 : Int32))) [])) t
      refine XS.iloadN Xh297.here hx rfl (hb hby d9_63) rfl ?_
      show Steps p.tables e below (T295.setTop (fr_of3 m a1 64 (.val (.int (0 : Int32))) (.val (.int (3 : Int32))) [(.int (3 : Int32))])) t
      refine XS.aloadN Xh297.here hx rfl (hb hby d9_64) rfl rfl ?_
      exact kt
    obtain ⟨cq298, kq298, q298a, q298b, q298c⟩ := isOf hZ187 Eq295 f195
    obtain ⟨vv298, _, ⟨T298, L298, k298, n298⟩, -, X298, ⟨Lc298, hQ298, l298, y298, z298⟩, st298⟩ := Xh297.virtualBack hx (y := (⟨"java/lang/String", "length", "()I"⟩ : MethodName)) (z := (⟨"java/lang/String", "length", "()I"⟩ : MethodName)) hown187 (mvT hZ187 (Wd54 hw)) (mvT hZ187 (Wd55 hw)) (notFace_of_selects (args := #[]) (mvT hZ187 (Wd57 hw))) (mvT hZ187 (Wd57 hw)) (mvT hZ187 (Wd56 hw)) (by decide) (StrChars.Road.lenW (W := 1) hZ187 hln (kI := 4) (Wd9 hw) f195 f196 f197 f198 hcd194 hbd194 (O2.ext f202.2) P5 (Nat.le_of_ble_eq_true rfl) (by decide) (by decide)) q298a q298c (g := (fr_of3 m a1 65 (.val (.int (0 : Int32))) (.val (.int (3 : Int32))) [(.ref a1), (.int (3 : Int32))])) rfl (by rw [hml]; rfl) (Steps.refl _) (argsL := []) (rest := [(.int (3 : Int32))]) (lenOf pd_62 rfl) rfl (by show 2 * 0 + _ ≤ _; exact Nat.le_of_eq rfl) (hb hby d9_65) (fun _ _ => ⟨rfl, Eq295, (by decide : 2 + 0 ≤ _), (by decide : 76 + 0 ≤ _)⟩)
    dsimp only [Pt.U, Pt.locs, Pt.cells, Pt.slots] at X298 l298 y298 z298 st298 hQ298
    subst l298 y298 z298
    obtain ⟨rfl, rfl, Eq298⟩ := hQ298
    have Nq298 : Fr n0 ([] : List Loc) := Fr.nil n0
    have N299 := Fr.app Nh297 Nq298
    obtain ⟨Lh300, Xh300, Nh300⟩ := own_hide (cells' := 2) (slots' := 76) X298 N299 (Nat.le_of_ble_eq_true rfl) (Nat.le_of_ble_eq_true rfl)
    refine ownSt st298 ?_
    clear st298
    show ownG p.tables e below _ (T298.setTop (fr_of3 m a1 68 (.val (.int (0 : Int32))) (.val (.int (3 : Int32))) [(.int (3 : Int32)), (.int (3 : Int32))]))
    refine ownBy (A := T298.setTop (fr_of3 m a1 57 (.val (.int (4 : Int32))) (.val (.int (4 : Int32))) [(.ref a1), (.int (4 : Int32))])) (fun t kt => ?_) ?_
    · refine XS.icmpYes Xh300.here hx rfl (pc0 := 68) (pc' := 81) rfl (hb hby d9_68) rfl (teq ((by decide) : (3 : Int32) = (3 : Int32))).1 (by decide) (by decide) ?_
      show Steps p.tables e below (T298.setTop (fr_of3 m a1 81 (.val (.int (0 : Int32))) (.val (.int (3 : Int32))) [])) t
      refine XS.iloadN Xh300.here hx rfl (hb hby d9_81) rfl ?_
      show Steps p.tables e below (T298.setTop (fr_of3 m a1 82 (.val (.int (0 : Int32))) (.val (.int (3 : Int32))) [(.int (3 : Int32))])) t
      refine XS.iloadN Xh300.here hx rfl (hb hby d9_82) rfl ?_
      show Steps p.tables e below (T298.setTop (fr_of3 m a1 83 (.val (.int (0 : Int32))) (.val (.int (3 : Int32))) [(.int (0 : Int32)), (.int (3 : Int32))])) t
      refine XS.icmpYes Xh300.here hx rfl (pc0 := 83) (pc' := 97) rfl (hb hby d9_83) rfl (feq ((by decide) : ¬ ((3 : Int32) = (0 : Int32)))).2 (by decide) (by decide) ?_
      show Steps p.tables e below (T298.setTop (fr_of3 m a1 97 (.val (.int (0 : Int32))) (.val (.int (3 : Int32))) [])) t
      refine XS.iloadN Xh300.here hx rfl (hb hby d9_97) rfl ?_
      show Steps p.tables e below (T298.setTop (fr_of3 m a1 98 (.val (.int (0 : Int32))) (.val (.int (3 : Int32))) [(.int (3 : Int32))])) t
      refine XS.iconst Xh300.here hx rfl (hb hby d9_98) ?_
      show Steps p.tables e below (T298.setTop (fr_of3 m a1 99 (.val (.int (0 : Int32))) (.val (.int (3 : Int32))) [(.int (1 : Int32)), (.int (3 : Int32))])) t
      refine XS.iadd Xh300.here hx rfl (hb hby d9_99) rfl ?_
      show Steps p.tables e below (T298.setTop (fr_of3 m a1 100 (.val (.int (0 : Int32))) (.val (.int (3 : Int32))) [(.int (4 : Int32))])) t
      refine XS.istoreN Xh300.here hx rfl (hb hby d9_100) rfl (l' := #[.val (.ref a1), .val (.int (4 : Int32)), .val (.int (3 : Int32))]) rfl ?_
      show Steps p.tables e below (T298.setTop (fr_of3 m a1 101 (.val (.int (4 : Int32))) (.val (.int (3 : Int32))) [])) t
      refine XS.goto Xh300.here hx rfl (pc0 := 101) (pc' := 147) rfl (hb hby d9_101) (by decide) (by decide) ?_
      show Steps p.tables e below (T298.setTop (fr_of3 m a1 147 (.val (.int (4 : Int32))) (.val (.int (3 : Int32))) [])) t
      refine XS.iinc Xh300.here hx rfl (hb hby d9_147) rfl (l' := #[.val (.ref a1), .val (.int (4 : Int32)), .val (.int (4 : Int32))]) rfl ?_
      show Steps p.tables e below (T298.setTop (fr_of3 m a1 150 (.val (.int (4 : Int32))) (.val (.int (4 : Int32))) [])) t
      refine XS.goto Xh300.here hx rfl (pc0 := 150) (pc' := 55) rfl (hb hby d9_150) (by decide) (by decide) ?_
      show Steps p.tables e below (T298.setTop (fr_of3 m a1 55 (.val (.int (4 : Int32))) (.val (.int (4 : Int32))) [])) t
      refine XS.iloadN Xh300.here hx rfl (hb hby d9_55) rfl ?_
      show Steps p.tables e below (T298.setTop (fr_of3 m a1 56 (.val (.int (4 : Int32))) (.val (.int (4 : Int32))) [(.int (4 : Int32))])) t
      refine XS.aloadN Xh300.here hx rfl (hb hby d9_56) rfl rfl ?_
      exact kt
    obtain ⟨cq301, kq301, q301a, q301b, q301c⟩ := isOf hZ187 Eq298 f195
    obtain ⟨vv301, _, ⟨T301, L301, k301, n301⟩, -, X301, ⟨Lc301, hQ301, l301, y301, z301⟩, st301⟩ := Xh300.virtualBack hx (y := (⟨"java/lang/String", "length", "()I"⟩ : MethodName)) (z := (⟨"java/lang/String", "length", "()I"⟩ : MethodName)) hown187 (mvT hZ187 (Wd54 hw)) (mvT hZ187 (Wd55 hw)) (notFace_of_selects (args := #[]) (mvT hZ187 (Wd57 hw))) (mvT hZ187 (Wd57 hw)) (mvT hZ187 (Wd56 hw)) (by decide) (StrChars.Road.lenW (W := 1) hZ187 hln (kI := 4) (Wd9 hw) f195 f196 f197 f198 hcd194 hbd194 (O2.ext f202.2) P5 (Nat.le_of_ble_eq_true rfl) (by decide) (by decide)) q301a q301c (g := (fr_of3 m a1 57 (.val (.int (4 : Int32))) (.val (.int (4 : Int32))) [(.ref a1), (.int (4 : Int32))])) rfl (by rw [hml]; rfl) (Steps.refl _) (argsL := []) (rest := [(.int (4 : Int32))]) (lenOf pd_62 rfl) rfl (by show 2 * 0 + _ ≤ _; exact Nat.le_of_eq rfl) (hb hby d9_57) (fun _ _ => ⟨rfl, Eq298, (by decide : 2 + 0 ≤ _), (by decide : 76 + 0 ≤ _)⟩)
    dsimp only [Pt.U, Pt.locs, Pt.cells, Pt.slots] at X301 l301 y301 z301 st301 hQ301
    subst l301 y301 z301
    obtain ⟨rfl, rfl, Eq301⟩ := hQ301
    have Nq301 : Fr n0 ([] : List Loc) := Fr.nil n0
    have N302 := Fr.app Nh300 Nq301
    obtain ⟨Lh303, Xh303, Nh303⟩ := own_hide (cells' := 2) (slots' := 76) X301 N302 (Nat.le_of_ble_eq_true rfl) (Nat.le_of_ble_eq_true rfl)
    refine ownSt st301 ?_
    clear st301
    show ownG p.tables e below _ (T301.setTop (fr_of3 m a1 60 (.val (.int (4 : Int32))) (.val (.int (4 : Int32))) [(.int (3 : Int32)), (.int (4 : Int32))]))
    refine ownBy (A := T301.setTop (fr_of3 m a1 153 (.val (.int (4 : Int32))) (.val (.int (4 : Int32))) [])) (fun t kt => ?_) ?_
    · refine XS.icmpYes Xh303.here hx rfl (pc0 := 60) (pc' := 153) rfl (hb hby d9_60) rfl (tlt ((by decide) : (3 : Int32) < (4 : Int32))).2.2.1 (by decide) (by decide) ?_
      exact kt
    obtain ⟨T304, h304, X304, e304, E304, A304, D304, -, st304⟩ := newO Xh303 hx hZ187 hown187 (Wd89 hw) (Wd90 hw) (Wd40 hw) Eq301 (g := (fr_of3 m a1 153 (.val (.int (4 : Int32))) (.val (.int (4 : Int32))) [])) rfl (hb hby d9_153) (by decide) (by decide)
    obtain ⟨b304, g304⟩ : ∃ z, z = h187.size := ⟨_, rfl⟩
    rw [← g304] at A304 D304 st304
    have ne305 : a1 ≠ b304 := Nat.ne_of_lt (Nat.lt_of_lt_of_le f195.lt (Nat.le_of_eq g304.symm))
    have ne306 : t1 ≠ b304 := Nat.ne_of_lt (Nat.lt_of_lt_of_le f198.lt (Nat.le_of_eq g304.symm))
    have g307 : n0 ≤ b304 := Nat.le_trans f190 (Nat.le_of_eq g304.symm)
    have sf308 : Safe Z ownEL T187.vm h187 b304 := Safe.new (Nat.le_of_eq g304.symm)
    have f310 := ((Keep.refl h0 []).ext E187)
    have z309 : h0.size ≤ b304 := Nat.le_trans f310.1 (Nat.le_of_eq g304.symm)
    have R311 := R189.trans (CHr.ext E304 R189.1)
    have sf312 := Safe.ext E304 R189.1 sf308
    have F313 : Fld Z h304 b304 "com/example/boring_outbox/boringoutbox/EventType" "name" "Ljava/lang/String;" .null := D304 (Or.inr (Wd96 hw)) (ty := (.object "java/lang/String")) (by decide)
    refine ownBy st304 ?_
    clear st304
    show ownG p.tables e below _ (T304.setTop (fr_of3 m a1 156 (.val (.int (4 : Int32))) (.val (.int (4 : Int32))) [(.ref b304)]))
    refine ownBy (A := T304.setTop (fr_of3 m a1 158 (.val (.int (4 : Int32))) (.val (.int (4 : Int32))) [(.ref a1), (.ref b304), (.ref b304)])) (fun t kt => ?_) ?_
    · refine XS.dup X304.here hx rfl (hb hby d9_156) rfl rfl ?_
      show Steps p.tables e below (T304.setTop (fr_of3 m a1 157 (.val (.int (4 : Int32))) (.val (.int (4 : Int32))) [(.ref b304), (.ref b304)])) t
      refine XS.aloadN X304.here hx rfl (hb hby d9_157) rfl rfl ?_
      exact kt
    have f314 := (Nat.le_trans f190 E304.1)
    obtain ⟨vv315, _, ⟨T315, L315, k315, n315⟩, -, X315, ⟨Lc315, hQ315, l315, y315, z315⟩, st315⟩ := X304.specialBack hx (y := (⟨"com/example/boring_outbox/boringoutbox/EventType", "<init>", "(Ljava/lang/String;)V"⟩ : MethodName)) rfl hown187 (mvT hZ187 (Wd91 hw)) (mvT hZ187 (Wd92 hw)) (mvT hZ187 (Wd93 hw)) (by decide) (backOf (W := 1) (c_ein l Z a0 hw [] b304 a1 _ h304 n0 f314 A304 F313 g307) hZ187 (Wd93 hw) (Wd40 hw) (by decide) (by decide)) (g := (fr_of3 m a1 158 (.val (.int (4 : Int32))) (.val (.int (4 : Int32))) [(.ref a1), (.ref b304), (.ref b304)])) rfl (by rw [hml]; rfl) (Steps.refl _) (a := b304) (argsL := [(.ref a1)]) (rest := [(.ref b304)]) (lenOf pd_102 rfl) rfl (by show 2 * 0 + _ ≤ _; exact Nat.le_of_eq rfl) (hb hby d9_158) (fun _ _ => ⟨rfl, e304, (by decide : 3 + 0 ≤ _), (by decide : 77 + 0 ≤ _)⟩)
    dsimp only [Pt.U, Pt.locs, Pt.cells, Pt.slots] at X315 l315 y315 z315 st315 hQ315
    subst l315 y315 z315
    obtain ⟨rfl, Nq315, Kq315, Fa315⟩ := hQ315
    have N316 := Fr.app Nh303 Nq315
    have R317 := R311.trans (CHr.keep Kq315 (sfS sf312 sf0) R311.1)
    have sf318 := Safe.keep Kq315 (sfS sf312 sf0) R311.1 sf312
    obtain ⟨Lh319, Xh319, Nh319⟩ := own_hide (cells' := 3) (slots' := 77) X315 N316 (Nat.le_of_ble_eq_true rfl) (Nat.le_of_ble_eq_true rfl)
    refine ownSt st315 ?_
    clear st315
    show ownG p.tables e below _ (T315.setTop (fr_of3 m a1 161 (.val (.int (4 : Int32))) (.val (.int (4 : Int32))) [(.ref b304)]))
    have f320 := ((f310.ext E304).trans Kq315 (allS (Or.inr z309) all0))
    have f321 := (A304.keep Kq315)
    refine ownRetH Xh319 hS187 (Nat.le_trans (Nat.le_trans hk187 E304.1) Kq315.1) Bd.notSynchronized (v := some (.ref b304)) (fun h => by rw [Bd.returns] at h; cases h) ?_ (R317.trans (CHv.at Xh319 hZ187 hEL R317.1)) (Nat.le_of_ble_eq_true rfl) (Nat.le_of_ble_eq_true rfl) (fun fs hr => retOut Xh319 hx Bd.returns rfl (Or.inr (Or.inr (Or.inr (Or.inr ⟨rfl, rfl, rfl⟩)))) (hb hby d9_161) hr)
    show (Q_of3 Z a1 t1 kb1 c0 c1 c2 G1 G3 h0 n0) (some (.ref b304)) T315.heap _
    exact ⟨b304, rfl, Nh319, f320, z309, f321, Fa315⟩
abbrev fr_of4 (m : MethodId) (a1 : Addr) (pc : Nat) (x1_ x2_ : Slot) (st : List Value) : JFrame := mkF m pc #[.val (.ref a1), x1_, x2_] st
def Q_of4 (Z : State) (a1 : Addr) (t1 : Addr) (kb1 : ClassId) (c0 : Int32) (c1 : Int32) (c2 : Int32) (c3 : Int32) (G1 : Int32) (G3 : Value) (h0 : Heap) (n0 : Nat) (v : Option Value) (h : Heap) (L : List Loc) : Prop := ∃ x : Addr, v = some (.ref x) ∧ Fr n0 L ∧ Keep h0 h [] ∧ h0.size ≤ x ∧ Exa Z h x "com/example/boring_outbox/boringoutbox/EventType" ∧ Fld Z h x "com/example/boring_outbox/boringoutbox/EventType" "name" "Ljava/lang/String;" (.ref a1)
theorem ef_of4 (m : MethodId) (x0 : Addr)  : entryFrame m #[(.ref x0)] 3 = mkF m 0 #[.val (.ref x0), .unset, .unset] [] := by first | (simp [entryFrame, mkF, argsToLocals, Value.category]; done) | rfl
set_option maxRecDepth 65536 in
set_option maxHeartbeats 40000000 in
theorem c_of4 (l : Launch) (Z : State) (a0 : Array Value) (hw : ∀ d ∈ tables_1, d.before a0 Z = true) (ws : List Jvm.Cond) (a1 : Addr) (t1 : Addr) (kb1 : ClassId) (c0 : Int32) (c1 : Int32) (c2 : Int32) (c3 : Int32) (G1 : Int32) (G3 : Value) (h0 : Heap) (n0 : Nat) (Z0 : n0 ≤ h0.size) (Es : Exa Z h0 a1 "java/lang/String") (Vs : Fld Z h0 a1 "java/lang/String" "value" "[B" (.ref t1)) (Cs : Fld Z h0 a1 "java/lang/String" "coder" "B" (.int (0 : Int32))) (Ks : Arv Z h0 t1 kb1 .byte (4 : Int32) ((([c0, c1, c2, c3] : List Int32).map (fun c => c.toInt8.toInt32)).map Value.int) (.int (0 : Int32))) (hp : ∀ c ∈ ([c0, c1, c2, c3] : List Int32), ¬ c < 0 ∧ ¬ (255 : Int32) < c) (hi0 : c0 = 46 ∨ ownId c0) (hi1 : c1 = 46 ∨ ownId c1) (hi2 : c2 = 46 ∨ ownId c2) (hi3 : c3 = 46 ∨ ownId c3) (hn0 : ¬ (c0 = (46 : Int32))) (hnl : ¬ (c3 = (46 : Int32))) (had : ¬ (c1 = (46 : Int32) ∧ c2 = (46 : Int32))) (O2 : Sta Z Z.heap "java/lang/String" "COMPACT_STRINGS" "Z" (.int G1)) (P5 : ¬ (G1 = (0 : Int32))) (X00 : Old Z n0 h0) (O4 : Sta Z Z.heap "jdk/internal/util/Preconditions" "SIOOBE_FORMATTER" "Ljava/util/function/BiFunction;" G3) (rG3 : G3.isRef = true) :
    MetFree l (⟨"com/example/boring_outbox/boringoutbox/EventType", "of", "(Ljava/lang/String;)Lcom/example/boring_outbox/boringoutbox/EventType;"⟩ : MethodName) (head1 (Jvm.Cond.code (⟨"com/example/boring_outbox/boringoutbox/EventType", "of", "(Ljava/lang/String;)Lcom/example/boring_outbox/boringoutbox/EventType;"⟩ : MethodName) prog_15_method_2_code 3 (some (.object "com/example/boring_outbox/boringoutbox/EventType")) :: ws) ({ frames := 4, cells := 3, slots := 77, locals := 66 } : Room)) (fun a U => a = #[(.ref a1)] ∧ Z.Warmed39 U.vm ∧ U.heap = h0 ∧ CHv Z ownEL U.vm h0) (fun _ _ _ _ _ => True) (fun _ U o U' => ∃ v L, o = .returned v ∧ (Q_of4 Z a1 t1 kb1 c0 c1 c2 c3 G1 G3 h0 n0) v U'.heap L ∧ CHr Z ownEL U.vm U.heap U'.vm U'.heap ∧ ReturnedEndW U o U' L ({ frames := 4, cells := 3, slots := 77, locals := 66 } : Room).cells ({ frames := 4, cells := 3, slots := 77, locals := 66 } : Room).slots) := by
  refine MetFree.of_bodySF (plainFor_of_name pn_11) hisR ?_
  intro p e s m args below meth c s₁ Bd hml0 hP hK
  obtain ⟨rfl, hZ, hHp, hCH⟩ := hP
  have hx := Bd.exec
  have hby := Bd.bytes
  have hml : c.maxLocals = 3 := hml0
  have hown : s.vm.findClass "com/example/boring_outbox/boringoutbox/EventType" = some m.cls := findClass_of_methodNamed Bd.named
  have hnm := (name_of_methodNamed Bd.named Bd.method).1
  have X0 : Stand p l e ({ frames := 4, cells := 3, slots := 77, locals := 66 } : Room) (s.setVm s.vm) m #[(.ref a1)] below meth c s₁ [] 0 0 := Stand.of_body Bd
  have e0 : s₁.heap = h0 := by rw [← hHp, Bd.state]; rfl
  have N0 := Fr.nil n0
  refine ownOutH hHp (P := (Q_of4 Z a1 t1 kb1 c0 c1 c2 c3 G1 G3 h0 n0)) ?_
  refine ownBy (A := s₁.setTop (mkF m 0 #[.val (.ref a1), .unset, .unset] [])) (fun t k => castTop (ef_of4 m a1) k) ?_
  have hS0 : s.Since s.vm h0.size := own_since
  have hEL := own_EW hw
  have R0 := CHr.refl hCH
  have wS := own_wS hw
  have hln : ∀ d ∈ StrChars.Road.wordsLen, d.before a0 Z = true := fun d hd => hw d ((by decide +kernel : ∀ d ∈ StrChars.Road.wordsLen, d ∈ tables_1) d hd)
  have hem : ∀ d ∈ StrChars.Road.wordsEmp, d.before a0 Z = true := fun d hd => hw d ((by decide +kernel : ∀ d ∈ StrChars.Road.wordsEmp, d ∈ tables_1) d hd)
  have hch : ∀ d ∈ StrChars.Road.wordsChN, d.before a0 Z = true := fun d hd => hw d ((by decide +kernel : ∀ d ∈ StrChars.Road.wordsChN, d ∈ tables_1) d hd)
  refine ownBy (A := s₁.setTop (fr_of4 m a1 1 .unset .unset [(.ref a1)])) (fun t kt => ?_) ?_
  · refine XS.aloadN X0.here hx rfl (hb hby d9_0) rfl rfl ?_
    exact kt
  obtain ⟨a323, T323, h323, k323, X323, e323, E323, hS323, hk323, hZ323, hown323, hC323, Lt323, st323⟩ := ldcOH (text := "event type is null") X0 hx hZ hown (Wd42 hw) wS e0 hS0 (Nat.le_refl _) hEL R0.1 (g := (fr_of4 m a1 1 .unset .unset [(.ref a1)])) rfl (hb hby d9_1) (n := 72) (by decide) (by decide) (by decide) (by decide)
  have R325 := R0.trans hC323
  refine ownBy st323 ?_
  clear st323
  show ownG p.tables e below _ (T323.setTop (fr_of4 m a1 3 .unset .unset [(.ref a323), (.ref a1)]))
  have f326 := (Nat.le_trans Z0 E323.1)
  obtain ⟨vv327, _, ⟨T327, L327, k327, n327⟩, -, X327, ⟨Lc327, hQ327, l327, y327, z327⟩, st327⟩ := Jvm.LawKit.callS X323 hx (y := (⟨"java/util/Objects", "requireNonNull", "(Ljava/lang/Object;Ljava/lang/String;)Ljava/lang/Object;"⟩ : MethodName)) hown323 (mvT hZ323 (Wd45 hw)) (mvT hZ323 (Wd46 hw)) (mvT hZ323 (Wd47 hw)) (mvT hZ323 (Wd48 hw)) (by decide) (backOf (W := 0) (c_rnn l Z a0 hw [] a1 a323 h323 n0 f326 ) hZ323 (Wd48 hw) (Wd47 hw) (by decide) (by decide)) (g := (fr_of4 m a1 3 .unset .unset [(.ref a323), (.ref a1)])) rfl (by rw [hml]; rfl) (argsL := [(.ref a1), (.ref a323)]) (rest := []) (lenOf pd_48 rfl) rfl (by show 2 * 0 + _ ≤ _; exact Nat.le_of_eq rfl) (hb hby d9_3) (fun _ _ => ⟨rfl, e323, (by decide : 2 + 0 ≤ _), (by decide : 76 + 0 ≤ _)⟩)
  dsimp only [Pt.U, Pt.locs, Pt.cells, Pt.slots] at X327 l327 y327 z327 st327 hQ327
  subst l327 y327 z327
  obtain ⟨rfl, Nq327, Eq327⟩ := hQ327
  have N328 := Fr.app N0 Nq327
  obtain ⟨Lh329, Xh329, Nh329⟩ := own_hide (cells' := 2) (slots' := 76) X327 N328 (Nat.le_of_ble_eq_true rfl) (Nat.le_of_ble_eq_true rfl)
  refine ownBy st327 ?_
  clear st327
  show ownG p.tables e below _ (T327.setTop (fr_of4 m a1 6 .unset .unset [(.ref a1)]))
  refine ownBy (A := T327.setTop (fr_of4 m a1 8 .unset .unset [(.ref a1)])) (fun t kt => ?_) ?_
  · refine XS.pop Xh329.here hx rfl (hb hby d9_6) rfl rfl ?_
    show Steps p.tables e below (T327.setTop (fr_of4 m a1 7 .unset .unset [])) t
    refine XS.aloadN Xh329.here hx rfl (hb hby d9_7) rfl rfl ?_
    exact kt
  have hcd330 : StrChars.Road.CodA ([c0, c1, c2, c3] : List Int32) 0 (4 : Int32) ((([c0, c1, c2, c3] : List Int32).map (fun c => c.toInt8.toInt32)).map Value.int) := StrChars.Road.codOf (n := 4) rfl (fun x hx => (hp x hx).2)
  have hbd330 : ∀ x ∈ ([c0, c1, c2, c3] : List Int32), ¬ x < 0 ∧ ¬ (65535 : Int32) < x := own_up _ hp
  have f331 := (Es.ext E323)
  have f332 := (Vs.ext E323)
  have f333 := (Cs.ext E323)
  have f334 := (Ks.ext E323)
  obtain ⟨cq335, kq335, q335a, q335b, q335c⟩ := isOf hZ323 Eq327 f331
  obtain ⟨vv335, _, ⟨T335, L335, k335, n335⟩, -, X335, ⟨Lc335, hQ335, l335, y335, z335⟩, st335⟩ := Xh329.virtualBack hx (y := (⟨"java/lang/String", "isEmpty", "()Z"⟩ : MethodName)) (z := (⟨"java/lang/String", "isEmpty", "()Z"⟩ : MethodName)) hown323 (mvT hZ323 (Wd49 hw)) (mvT hZ323 (Wd50 hw)) (notFace_of_selects (args := #[]) (mvT hZ323 (Wd52 hw))) (mvT hZ323 (Wd52 hw)) (mvT hZ323 (Wd51 hw)) (by decide) (StrChars.Road.empW (W := 0) hZ323 hem (kI := 4) (Wd9 hw) f331 f332 f333 f334 hcd330 hbd330 (Nat.le_of_ble_eq_true rfl) (by decide) (by decide)) q335a q335c (g := (fr_of4 m a1 8 .unset .unset [(.ref a1)])) rfl (by rw [hml]; rfl) (Steps.refl _) (argsL := []) (rest := []) (lenOf pd_57 rfl) rfl (by show 2 * 0 + _ ≤ _; exact Nat.le_of_eq rfl) (hb hby d9_8) (fun _ _ => ⟨rfl, Eq327, (by decide : 2 + 0 ≤ _), (by decide : 76 + 0 ≤ _)⟩)
  dsimp only [Pt.U, Pt.locs, Pt.cells, Pt.slots] at X335 l335 y335 z335 st335 hQ335
  subst l335 y335 z335
  obtain ⟨rfl, rfl, Eq335⟩ := hQ335
  have Nq335 : Fr n0 ([] : List Loc) := Fr.nil n0
  have N336 := Fr.app Nh329 Nq335
  obtain ⟨Lh337, Xh337, Nh337⟩ := own_hide (cells' := 2) (slots' := 76) X335 N336 (Nat.le_of_ble_eq_true rfl) (Nat.le_of_ble_eq_true rfl)
  refine ownSt st335 ?_
  clear st335
  show ownG p.tables e below _ (T335.setTop (fr_of4 m a1 11 .unset .unset [(.int (0 : Int32))]))
  refine ownBy (A := T335.setTop (fr_of4 m a1 25 .unset .unset [(.ref a1)])) (fun t kt => ?_) ?_
  · refine XS.ifYes Xh337.here hx rfl (pc0 := 11) (pc' := 24) rfl (hb hby d9_11) rfl ((if0 _ _).trans (teq ((by decide) : (0 : Int32) = (0 : Int32))).1) (by decide) (by decide) ?_
    show Steps p.tables e below (T335.setTop (fr_of4 m a1 24 .unset .unset [])) t
    refine XS.aloadN Xh337.here hx rfl (hb hby d9_24) rfl rfl ?_
    exact kt
  have f338 := (X00.ext E323)
  obtain ⟨cq339, kq339, q339a, q339b, q339c⟩ := isOf hZ323 Eq335 f331
  obtain ⟨vv339, _, ⟨T339, L339, k339, n339⟩, -, X339, ⟨Lc339, hQ339, l339, y339, z339⟩, st339⟩ := Xh337.virtualBack hx (y := (⟨"java/lang/String", "length", "()I"⟩ : MethodName)) (z := (⟨"java/lang/String", "length", "()I"⟩ : MethodName)) hown323 (mvT hZ323 (Wd54 hw)) (mvT hZ323 (Wd55 hw)) (notFace_of_selects (args := #[]) (mvT hZ323 (Wd57 hw))) (mvT hZ323 (Wd57 hw)) (mvT hZ323 (Wd56 hw)) (by decide) (StrChars.Road.lenW (W := 0) hZ323 hln (kI := 4) (Wd9 hw) f331 f332 f333 f334 hcd330 hbd330 (O2.ext f338.2) P5 (Nat.le_of_ble_eq_true rfl) (by decide) (by decide)) q339a q339c (g := (fr_of4 m a1 25 .unset .unset [(.ref a1)])) rfl (by rw [hml]; rfl) (Steps.refl _) (argsL := []) (rest := []) (lenOf pd_62 rfl) rfl (by show 2 * 0 + _ ≤ _; exact Nat.le_of_eq rfl) (hb hby d9_25) (fun _ _ => ⟨rfl, Eq335, (by decide : 2 + 0 ≤ _), (by decide : 76 + 0 ≤ _)⟩)
  dsimp only [Pt.U, Pt.locs, Pt.cells, Pt.slots] at X339 l339 y339 z339 st339 hQ339
  subst l339 y339 z339
  obtain ⟨rfl, rfl, Eq339⟩ := hQ339
  have Nq339 : Fr n0 ([] : List Loc) := Fr.nil n0
  have N340 := Fr.app Nh337 Nq339
  obtain ⟨Lh341, Xh341, Nh341⟩ := own_hide (cells' := 2) (slots' := 76) X339 N340 (Nat.le_of_ble_eq_true rfl) (Nat.le_of_ble_eq_true rfl)
  refine ownSt st339 ?_
  clear st339
  show ownG p.tables e below _ (T339.setTop (fr_of4 m a1 28 .unset .unset [(.int (4 : Int32))]))
  refine ownBy (A := T339.setTop (fr_of4 m a1 57 (.val (.int (0 : Int32))) (.val (.int (0 : Int32))) [(.ref a1), (.int (0 : Int32))])) (fun t kt => ?_) ?_
  · refine XS.sipush Xh341.here hx rfl (hb hby d9_28) ?_
    show Steps p.tables e below (T339.setTop (fr_of4 m a1 31 .unset .unset [(.int (255 : Int32)), (.int (4 : Int32))])) t
    refine XS.icmpYes Xh341.here hx rfl (pc0 := 31) (pc' := 51) rfl (hb hby d9_31) rfl (flt ((by decide) : ¬ ((255 : Int32) < (4 : Int32)))).2.2.2 (by decide) (by decide) ?_
    show Steps p.tables e below (T339.setTop (fr_of4 m a1 51 .unset .unset [])) t
    refine XS.iconst Xh341.here hx rfl (hb hby d9_51) ?_
    show Steps p.tables e below (T339.setTop (fr_of4 m a1 52 .unset .unset [(.int (0 : Int32))])) t
    refine XS.istoreN Xh341.here hx rfl (hb hby d9_52) rfl (l' := #[.val (.ref a1), .val (.int (0 : Int32)), .unset]) rfl ?_
    show Steps p.tables e below (T339.setTop (fr_of4 m a1 53 (.val (.int (0 : Int32))) .unset [])) t
    refine XS.iconst Xh341.here hx rfl (hb hby d9_53) ?_
    show Steps p.tables e below (T339.setTop (fr_of4 m a1 54 (.val (.int (0 : Int32))) .unset [(.int (0 : Int32))])) t
    refine XS.istoreN Xh341.here hx rfl (hb hby d9_54) rfl (l' := #[.val (.ref a1), .val (.int (0 : Int32)), .val (.int (0 : Int32))]) rfl ?_
    show Steps p.tables e below (T339.setTop (fr_of4 m a1 55 (.val (.int (0 : Int32))) (.val (.int (0 : Int32))) [])) t
    refine XS.iloadN Xh341.here hx rfl (hb hby d9_55) rfl ?_
    show Steps p.tables e below (T339.setTop (fr_of4 m a1 56 (.val (.int (0 : Int32))) (.val (.int (0 : Int32))) [(.int (0 : Int32))])) t
    refine XS.aloadN Xh341.here hx rfl (hb hby d9_56) rfl rfl ?_
    exact kt
  obtain ⟨cq342, kq342, q342a, q342b, q342c⟩ := isOf hZ323 Eq339 f331
  obtain ⟨vv342, _, ⟨T342, L342, k342, n342⟩, -, X342, ⟨Lc342, hQ342, l342, y342, z342⟩, st342⟩ := Xh341.virtualBack hx (y := (⟨"java/lang/String", "length", "()I"⟩ : MethodName)) (z := (⟨"java/lang/String", "length", "()I"⟩ : MethodName)) hown323 (mvT hZ323 (Wd54 hw)) (mvT hZ323 (Wd55 hw)) (notFace_of_selects (args := #[]) (mvT hZ323 (Wd57 hw))) (mvT hZ323 (Wd57 hw)) (mvT hZ323 (Wd56 hw)) (by decide) (StrChars.Road.lenW (W := 1) hZ323 hln (kI := 4) (Wd9 hw) f331 f332 f333 f334 hcd330 hbd330 (O2.ext f338.2) P5 (Nat.le_of_ble_eq_true rfl) (by decide) (by decide)) q342a q342c (g := (fr_of4 m a1 57 (.val (.int (0 : Int32))) (.val (.int (0 : Int32))) [(.ref a1), (.int (0 : Int32))])) rfl (by rw [hml]; rfl) (Steps.refl _) (argsL := []) (rest := [(.int (0 : Int32))]) (lenOf pd_62 rfl) rfl (by show 2 * 0 + _ ≤ _; exact Nat.le_of_eq rfl) (hb hby d9_57) (fun _ _ => ⟨rfl, Eq339, (by decide : 2 + 0 ≤ _), (by decide : 76 + 0 ≤ _)⟩)
  dsimp only [Pt.U, Pt.locs, Pt.cells, Pt.slots] at X342 l342 y342 z342 st342 hQ342
  subst l342 y342 z342
  obtain ⟨rfl, rfl, Eq342⟩ := hQ342
  have Nq342 : Fr n0 ([] : List Loc) := Fr.nil n0
  have N343 := Fr.app Nh341 Nq342
  obtain ⟨Lh344, Xh344, Nh344⟩ := own_hide (cells' := 2) (slots' := 76) X342 N343 (Nat.le_of_ble_eq_true rfl) (Nat.le_of_ble_eq_true rfl)
  refine ownSt st342 ?_
  clear st342
  show ownG p.tables e below _ (T342.setTop (fr_of4 m a1 60 (.val (.int (0 : Int32))) (.val (.int (0 : Int32))) [(.int (4 : Int32)), (.int (0 : Int32))]))
  refine ownBy (A := T342.setTop (fr_of4 m a1 65 (.val (.int (0 : Int32))) (.val (.int (0 : Int32))) [(.ref a1), (.int (0 : Int32))])) (fun t kt => ?_) ?_
  · refine XS.icmpNo Xh344.here hx rfl (hb hby d9_60) rfl (flt ((by decide) : ¬ ((4 : Int32) < (0 : Int32)))).2.2.1 ?_
    show Steps p.tables e below (T342.setTop (fr_of4 m a1 63 (.val (.int (0 : Int32))) (.val (.int (0 : Int32))) [])) t
    refine XS.iloadN Xh344.here hx rfl (hb hby d9_63) rfl ?_
    show Steps p.tables e below (T342.setTop (fr_of4 m a1 64 (.val (.int (0 : Int32))) (.val (.int (0 : Int32))) [(.int (0 : Int32))])) t
    refine XS.aloadN Xh344.here hx rfl (hb hby d9_64) rfl rfl ?_
    exact kt
  obtain ⟨cq345, kq345, q345a, q345b, q345c⟩ := isOf hZ323 Eq342 f331
  obtain ⟨vv345, _, ⟨T345, L345, k345, n345⟩, -, X345, ⟨Lc345, hQ345, l345, y345, z345⟩, st345⟩ := Xh344.virtualBack hx (y := (⟨"java/lang/String", "length", "()I"⟩ : MethodName)) (z := (⟨"java/lang/String", "length", "()I"⟩ : MethodName)) hown323 (mvT hZ323 (Wd54 hw)) (mvT hZ323 (Wd55 hw)) (notFace_of_selects (args := #[]) (mvT hZ323 (Wd57 hw))) (mvT hZ323 (Wd57 hw)) (mvT hZ323 (Wd56 hw)) (by decide) (StrChars.Road.lenW (W := 1) hZ323 hln (kI := 4) (Wd9 hw) f331 f332 f333 f334 hcd330 hbd330 (O2.ext f338.2) P5 (Nat.le_of_ble_eq_true rfl) (by decide) (by decide)) q345a q345c (g := (fr_of4 m a1 65 (.val (.int (0 : Int32))) (.val (.int (0 : Int32))) [(.ref a1), (.int (0 : Int32))])) rfl (by rw [hml]; rfl) (Steps.refl _) (argsL := []) (rest := [(.int (0 : Int32))]) (lenOf pd_62 rfl) rfl (by show 2 * 0 + _ ≤ _; exact Nat.le_of_eq rfl) (hb hby d9_65) (fun _ _ => ⟨rfl, Eq342, (by decide : 2 + 0 ≤ _), (by decide : 76 + 0 ≤ _)⟩)
  dsimp only [Pt.U, Pt.locs, Pt.cells, Pt.slots] at X345 l345 y345 z345 st345 hQ345
  subst l345 y345 z345
  obtain ⟨rfl, rfl, Eq345⟩ := hQ345
  have Nq345 : Fr n0 ([] : List Loc) := Fr.nil n0
  have N346 := Fr.app Nh344 Nq345
  obtain ⟨Lh347, Xh347, Nh347⟩ := own_hide (cells' := 2) (slots' := 76) X345 N346 (Nat.le_of_ble_eq_true rfl) (Nat.le_of_ble_eq_true rfl)
  refine ownSt st345 ?_
  clear st345
  show ownG p.tables e below _ (T345.setTop (fr_of4 m a1 68 (.val (.int (0 : Int32))) (.val (.int (0 : Int32))) [(.int (4 : Int32)), (.int (0 : Int32))]))
  refine ownBy (A := T345.setTop (fr_of4 m a1 73 (.val (.int (0 : Int32))) (.val (.int (0 : Int32))) [(.int (0 : Int32)), (.ref a1)])) (fun t kt => ?_) ?_
  · refine XS.icmpNo Xh347.here hx rfl (hb hby d9_68) rfl (feq ((by decide) : ¬ ((0 : Int32) = (4 : Int32)))).1 ?_
    show Steps p.tables e below (T345.setTop (fr_of4 m a1 71 (.val (.int (0 : Int32))) (.val (.int (0 : Int32))) [])) t
    refine XS.aloadN Xh347.here hx rfl (hb hby d9_71) rfl rfl ?_
    show Steps p.tables e below (T345.setTop (fr_of4 m a1 72 (.val (.int (0 : Int32))) (.val (.int (0 : Int32))) [(.ref a1)])) t
    refine XS.iloadN Xh347.here hx rfl (hb hby d9_72) rfl ?_
    exact kt
  obtain ⟨cq348, kq348, q348a, q348b, q348c⟩ := isOf hZ323 Eq345 f331
  obtain ⟨vv348, _, ⟨T348, L348, k348, n348⟩, -, X348, ⟨Lc348, hQ348, l348, y348, z348⟩, st348⟩ := Xh347.virtualBack hx (y := (⟨"java/lang/String", "charAt", "(I)C"⟩ : MethodName)) (z := (⟨"java/lang/String", "charAt", "(I)C"⟩ : MethodName)) hown323 (mvT hZ323 (Wd64 hw)) (mvT hZ323 (Wd65 hw)) (notFace_of_selects (args := #[]) (mvT hZ323 (Wd67 hw))) (mvT hZ323 (Wd67 hw)) (mvT hZ323 (Wd66 hw)) (by decide) (StrChars.Road.chN (W := 0) hZ323 hch (kI := 4) (Wd9 hw) f331 f332 f333 f334 hcd330 hbd330 (O2.ext f338.2) P5 (O4.ext f338.2) rG3 (Nat.le_of_ble_eq_true rfl) (i := 0) (Nat.le_of_ble_eq_true rfl) (j := (0 : Int32)) rfl (by decide) (by decide)) q348a q348c (g := (fr_of4 m a1 73 (.val (.int (0 : Int32))) (.val (.int (0 : Int32))) [(.int (0 : Int32)), (.ref a1)])) rfl (by rw [hml]; rfl) (Steps.refl _) (argsL := [(.int (0 : Int32))]) (rest := []) (lenOf pd_8 rfl) rfl (by show 2 * 0 + _ ≤ _; exact Nat.le_of_eq rfl) (hb hby d9_73) (fun _ _ => ⟨rfl, Eq345, (by decide : 2 + 0 ≤ _), (by decide : 76 + 0 ≤ _)⟩)
  dsimp only [Pt.U, Pt.locs, Pt.cells, Pt.slots] at X348 l348 y348 z348 st348 hQ348
  subst l348 y348 z348
  obtain ⟨rfl, rfl, Eq348⟩ := hQ348
  have Nq348 : Fr n0 ([] : List Loc) := Fr.nil n0
  have N349 := Fr.app Nh347 Nq348
  obtain ⟨Lh350, Xh350, Nh350⟩ := own_hide (cells' := 2) (slots' := 76) X348 N349 (Nat.le_of_ble_eq_true rfl) (Nat.le_of_ble_eq_true rfl)
  refine ownSt st348 ?_
  clear st348
  show ownG p.tables e below _ (T348.setTop (fr_of4 m a1 76 (.val (.int (0 : Int32))) (.val (.int (0 : Int32))) [(.int c0)]))
  refine ownBy (A := T348.setTop (fr_of4 m a1 106 (.val (.int (0 : Int32))) (.val (.int (0 : Int32))) [(.int (0 : Int32)), (.ref a1)])) (fun t kt => ?_) ?_
  · refine XS.bipush Xh350.here hx rfl (hb hby d9_76) ?_
    show Steps p.tables e below (T348.setTop (fr_of4 m a1 78 (.val (.int (0 : Int32))) (.val (.int (0 : Int32))) [(.int (46 : Int32)), (.int c0)])) t
    refine XS.icmpYes Xh350.here hx rfl (pc0 := 78) (pc' := 104) rfl (hb hby d9_78) rfl (feq hn0).2 (by decide) (by decide) ?_
    show Steps p.tables e below (T348.setTop (fr_of4 m a1 104 (.val (.int (0 : Int32))) (.val (.int (0 : Int32))) [])) t
    refine XS.aloadN Xh350.here hx rfl (hb hby d9_104) rfl rfl ?_
    show Steps p.tables e below (T348.setTop (fr_of4 m a1 105 (.val (.int (0 : Int32))) (.val (.int (0 : Int32))) [(.ref a1)])) t
    refine XS.iloadN Xh350.here hx rfl (hb hby d9_105) rfl ?_
    exact kt
  obtain ⟨cq351, kq351, q351a, q351b, q351c⟩ := isOf hZ323 Eq348 f331
  obtain ⟨vv351, _, ⟨T351, L351, k351, n351⟩, -, X351, ⟨Lc351, hQ351, l351, y351, z351⟩, st351⟩ := Xh350.virtualBack hx (y := (⟨"java/lang/String", "charAt", "(I)C"⟩ : MethodName)) (z := (⟨"java/lang/String", "charAt", "(I)C"⟩ : MethodName)) hown323 (mvT hZ323 (Wd64 hw)) (mvT hZ323 (Wd65 hw)) (notFace_of_selects (args := #[]) (mvT hZ323 (Wd67 hw))) (mvT hZ323 (Wd67 hw)) (mvT hZ323 (Wd66 hw)) (by decide) (StrChars.Road.chN (W := 0) hZ323 hch (kI := 4) (Wd9 hw) f331 f332 f333 f334 hcd330 hbd330 (O2.ext f338.2) P5 (O4.ext f338.2) rG3 (Nat.le_of_ble_eq_true rfl) (i := 0) (Nat.le_of_ble_eq_true rfl) (j := (0 : Int32)) rfl (by decide) (by decide)) q351a q351c (g := (fr_of4 m a1 106 (.val (.int (0 : Int32))) (.val (.int (0 : Int32))) [(.int (0 : Int32)), (.ref a1)])) rfl (by rw [hml]; rfl) (Steps.refl _) (argsL := [(.int (0 : Int32))]) (rest := []) (lenOf pd_8 rfl) rfl (by show 2 * 0 + _ ≤ _; exact Nat.le_of_eq rfl) (hb hby d9_106) (fun _ _ => ⟨rfl, Eq348, (by decide : 2 + 0 ≤ _), (by decide : 76 + 0 ≤ _)⟩)
  dsimp only [Pt.U, Pt.locs, Pt.cells, Pt.slots] at X351 l351 y351 z351 st351 hQ351
  subst l351 y351 z351
  obtain ⟨rfl, rfl, Eq351⟩ := hQ351
  have Nq351 : Fr n0 ([] : List Loc) := Fr.nil n0
  have N352 := Fr.app Nh350 Nq351
  obtain ⟨Lh353, Xh353, Nh353⟩ := own_hide (cells' := 2) (slots' := 76) X351 N352 (Nat.le_of_ble_eq_true rfl) (Nat.le_of_ble_eq_true rfl)
  refine ownSt st351 ?_
  clear st351
  show ownG p.tables e below _ (T351.setTop (fr_of4 m a1 109 (.val (.int (0 : Int32))) (.val (.int (0 : Int32))) [(.int c0)]))
  obtain ⟨vv354, _, ⟨T354, L354, k354, n354⟩, -, X354, ⟨Lc354, hQ354, l354, y354, z354⟩, st354⟩ := Jvm.LawKit.callS Xh353 hx (y := (⟨"com/example/boring_outbox/boringoutbox/EventType", "isIdentifierCharacter", "(C)Z"⟩ : MethodName)) hown323 (mvT hZ323 (Wd86 hw)) (mvT hZ323 (Wd87 hw)) (mvT hZ323 (Wd40 hw)) (mvT hZ323 (Wd88 hw)) (by decide) (backOf (W := 0) (c_isi l Z a0 hw [] c0 h323 n0 f326 (hi0.resolve_left hn0)) hZ323 (Wd88 hw) (Wd40 hw) (by decide) (by decide)) (g := (fr_of4 m a1 109 (.val (.int (0 : Int32))) (.val (.int (0 : Int32))) [(.int c0)])) rfl (by rw [hml]; rfl) (argsL := [(.int c0)]) (rest := []) (lenOf pd_78 rfl) rfl (by show 2 * 0 + _ ≤ _; exact Nat.le_of_eq rfl) (hb hby d9_109) (fun _ _ => ⟨rfl, Eq351, (by decide : 2 + 0 ≤ _), (by decide : 76 + 0 ≤ _)⟩)
  dsimp only [Pt.U, Pt.locs, Pt.cells, Pt.slots] at X354 l354 y354 z354 st354 hQ354
  subst l354 y354 z354
  obtain ⟨rfl, Nq354, Eq354⟩ := hQ354
  have N355 := Fr.app Nh353 Nq354
  obtain ⟨Lh356, Xh356, Nh356⟩ := own_hide (cells' := 2) (slots' := 76) X354 N355 (Nat.le_of_ble_eq_true rfl) (Nat.le_of_ble_eq_true rfl)
  refine ownBy st354 ?_
  clear st354
  show ownG p.tables e below _ (T354.setTop (fr_of4 m a1 112 (.val (.int (0 : Int32))) (.val (.int (0 : Int32))) [(.int (1 : Int32))]))
  refine ownBy (A := T354.setTop (fr_of4 m a1 57 (.val (.int (0 : Int32))) (.val (.int (1 : Int32))) [(.ref a1), (.int (1 : Int32))])) (fun t kt => ?_) ?_
  · refine XS.ifYes Xh356.here hx rfl (pc0 := 112) (pc' := 147) rfl (hb hby d9_112) rfl ((if0 _ _).trans (feq ((by decide) : ¬ ((1 : Int32) = (0 : Int32)))).2) (by decide) (by decide) ?_
    show Steps p.tables e below (T354.setTop (fr_of4 m a1 147 (.val (.int (0 : Int32))) (.val (.int (0 : Int32))) [])) t
    refine XS.iinc Xh356.here hx rfl (hb hby d9_147) rfl (l' := #[.val (.ref a1), .val (.int (0 : Int32)), .val (.int (1 : Int32))]) rfl ?_
    show Steps p.tables e below (T354.setTop (fr_of4 m a1 150 (.val (.int (0 : Int32))) (.val (.int (1 : Int32))) [])) t
    refine XS.goto Xh356.here hx rfl (pc0 := 150) (pc' := 55) rfl (hb hby d9_150) (by decide) (by decide) ?_
    show Steps p.tables e below (T354.setTop (fr_of4 m a1 55 (.val (.int (0 : Int32))) (.val (.int (1 : Int32))) [])) t
    refine XS.iloadN Xh356.here hx rfl (hb hby d9_55) rfl ?_
    show Steps p.tables e below (T354.setTop (fr_of4 m a1 56 (.val (.int (0 : Int32))) (.val (.int (1 : Int32))) [(.int (1 : Int32))])) t
    refine XS.aloadN Xh356.here hx rfl (hb hby d9_56) rfl rfl ?_
    exact kt
  obtain ⟨cq357, kq357, q357a, q357b, q357c⟩ := isOf hZ323 Eq354 f331
  obtain ⟨vv357, _, ⟨T357, L357, k357, n357⟩, -, X357, ⟨Lc357, hQ357, l357, y357, z357⟩, st357⟩ := Xh356.virtualBack hx (y := (⟨"java/lang/String", "length", "()I"⟩ : MethodName)) (z := (⟨"java/lang/String", "length", "()I"⟩ : MethodName)) hown323 (mvT hZ323 (Wd54 hw)) (mvT hZ323 (Wd55 hw)) (notFace_of_selects (args := #[]) (mvT hZ323 (Wd57 hw))) (mvT hZ323 (Wd57 hw)) (mvT hZ323 (Wd56 hw)) (by decide) (StrChars.Road.lenW (W := 1) hZ323 hln (kI := 4) (Wd9 hw) f331 f332 f333 f334 hcd330 hbd330 (O2.ext f338.2) P5 (Nat.le_of_ble_eq_true rfl) (by decide) (by decide)) q357a q357c (g := (fr_of4 m a1 57 (.val (.int (0 : Int32))) (.val (.int (1 : Int32))) [(.ref a1), (.int (1 : Int32))])) rfl (by rw [hml]; rfl) (Steps.refl _) (argsL := []) (rest := [(.int (1 : Int32))]) (lenOf pd_62 rfl) rfl (by show 2 * 0 + _ ≤ _; exact Nat.le_of_eq rfl) (hb hby d9_57) (fun _ _ => ⟨rfl, Eq354, (by decide : 2 + 0 ≤ _), (by decide : 76 + 0 ≤ _)⟩)
  dsimp only [Pt.U, Pt.locs, Pt.cells, Pt.slots] at X357 l357 y357 z357 st357 hQ357
  subst l357 y357 z357
  obtain ⟨rfl, rfl, Eq357⟩ := hQ357
  have Nq357 : Fr n0 ([] : List Loc) := Fr.nil n0
  have N358 := Fr.app Nh356 Nq357
  obtain ⟨Lh359, Xh359, Nh359⟩ := own_hide (cells' := 2) (slots' := 76) X357 N358 (Nat.le_of_ble_eq_true rfl) (Nat.le_of_ble_eq_true rfl)
  refine ownSt st357 ?_
  clear st357
  show ownG p.tables e below _ (T357.setTop (fr_of4 m a1 60 (.val (.int (0 : Int32))) (.val (.int (1 : Int32))) [(.int (4 : Int32)), (.int (1 : Int32))]))
  refine ownBy (A := T357.setTop (fr_of4 m a1 65 (.val (.int (0 : Int32))) (.val (.int (1 : Int32))) [(.ref a1), (.int (1 : Int32))])) (fun t kt => ?_) ?_
  · refine XS.icmpNo Xh359.here hx rfl (hb hby d9_60) rfl (flt ((by decide) : ¬ ((4 : Int32) < (1 : Int32)))).2.2.1 ?_
    show Steps p.tables e below (T357.setTop (fr_of4 m a1 63 (.val (.int (0 : Int32))) (.val (.int (1 : Int32))) [])) t
    refine XS.iloadN Xh359.here hx rfl (hb hby d9_63) rfl ?_
    show Steps p.tables e below (T357.setTop (fr_of4 m a1 64 (.val (.int (0 : Int32))) (.val (.int (1 : Int32))) [(.int (1 : Int32))])) t
    refine XS.aloadN Xh359.here hx rfl (hb hby d9_64) rfl rfl ?_
    exact kt
  obtain ⟨cq360, kq360, q360a, q360b, q360c⟩ := isOf hZ323 Eq357 f331
  obtain ⟨vv360, _, ⟨T360, L360, k360, n360⟩, -, X360, ⟨Lc360, hQ360, l360, y360, z360⟩, st360⟩ := Xh359.virtualBack hx (y := (⟨"java/lang/String", "length", "()I"⟩ : MethodName)) (z := (⟨"java/lang/String", "length", "()I"⟩ : MethodName)) hown323 (mvT hZ323 (Wd54 hw)) (mvT hZ323 (Wd55 hw)) (notFace_of_selects (args := #[]) (mvT hZ323 (Wd57 hw))) (mvT hZ323 (Wd57 hw)) (mvT hZ323 (Wd56 hw)) (by decide) (StrChars.Road.lenW (W := 1) hZ323 hln (kI := 4) (Wd9 hw) f331 f332 f333 f334 hcd330 hbd330 (O2.ext f338.2) P5 (Nat.le_of_ble_eq_true rfl) (by decide) (by decide)) q360a q360c (g := (fr_of4 m a1 65 (.val (.int (0 : Int32))) (.val (.int (1 : Int32))) [(.ref a1), (.int (1 : Int32))])) rfl (by rw [hml]; rfl) (Steps.refl _) (argsL := []) (rest := [(.int (1 : Int32))]) (lenOf pd_62 rfl) rfl (by show 2 * 0 + _ ≤ _; exact Nat.le_of_eq rfl) (hb hby d9_65) (fun _ _ => ⟨rfl, Eq357, (by decide : 2 + 0 ≤ _), (by decide : 76 + 0 ≤ _)⟩)
  dsimp only [Pt.U, Pt.locs, Pt.cells, Pt.slots] at X360 l360 y360 z360 st360 hQ360
  subst l360 y360 z360
  obtain ⟨rfl, rfl, Eq360⟩ := hQ360
  have Nq360 : Fr n0 ([] : List Loc) := Fr.nil n0
  have N361 := Fr.app Nh359 Nq360
  obtain ⟨Lh362, Xh362, Nh362⟩ := own_hide (cells' := 2) (slots' := 76) X360 N361 (Nat.le_of_ble_eq_true rfl) (Nat.le_of_ble_eq_true rfl)
  refine ownSt st360 ?_
  clear st360
  show ownG p.tables e below _ (T360.setTop (fr_of4 m a1 68 (.val (.int (0 : Int32))) (.val (.int (1 : Int32))) [(.int (4 : Int32)), (.int (1 : Int32))]))
  refine ownBy (A := T360.setTop (fr_of4 m a1 73 (.val (.int (0 : Int32))) (.val (.int (1 : Int32))) [(.int (1 : Int32)), (.ref a1)])) (fun t kt => ?_) ?_
  · refine XS.icmpNo Xh362.here hx rfl (hb hby d9_68) rfl (feq ((by decide) : ¬ ((1 : Int32) = (4 : Int32)))).1 ?_
    show Steps p.tables e below (T360.setTop (fr_of4 m a1 71 (.val (.int (0 : Int32))) (.val (.int (1 : Int32))) [])) t
    refine XS.aloadN Xh362.here hx rfl (hb hby d9_71) rfl rfl ?_
    show Steps p.tables e below (T360.setTop (fr_of4 m a1 72 (.val (.int (0 : Int32))) (.val (.int (1 : Int32))) [(.ref a1)])) t
    refine XS.iloadN Xh362.here hx rfl (hb hby d9_72) rfl ?_
    exact kt
  obtain ⟨cq363, kq363, q363a, q363b, q363c⟩ := isOf hZ323 Eq360 f331
  obtain ⟨vv363, _, ⟨T363, L363, k363, n363⟩, -, X363, ⟨Lc363, hQ363, l363, y363, z363⟩, st363⟩ := Xh362.virtualBack hx (y := (⟨"java/lang/String", "charAt", "(I)C"⟩ : MethodName)) (z := (⟨"java/lang/String", "charAt", "(I)C"⟩ : MethodName)) hown323 (mvT hZ323 (Wd64 hw)) (mvT hZ323 (Wd65 hw)) (notFace_of_selects (args := #[]) (mvT hZ323 (Wd67 hw))) (mvT hZ323 (Wd67 hw)) (mvT hZ323 (Wd66 hw)) (by decide) (StrChars.Road.chN (W := 0) hZ323 hch (kI := 4) (Wd9 hw) f331 f332 f333 f334 hcd330 hbd330 (O2.ext f338.2) P5 (O4.ext f338.2) rG3 (Nat.le_of_ble_eq_true rfl) (i := 1) (Nat.le_of_ble_eq_true rfl) (j := (1 : Int32)) rfl (by decide) (by decide)) q363a q363c (g := (fr_of4 m a1 73 (.val (.int (0 : Int32))) (.val (.int (1 : Int32))) [(.int (1 : Int32)), (.ref a1)])) rfl (by rw [hml]; rfl) (Steps.refl _) (argsL := [(.int (1 : Int32))]) (rest := []) (lenOf pd_8 rfl) rfl (by show 2 * 0 + _ ≤ _; exact Nat.le_of_eq rfl) (hb hby d9_73) (fun _ _ => ⟨rfl, Eq360, (by decide : 2 + 0 ≤ _), (by decide : 76 + 0 ≤ _)⟩)
  dsimp only [Pt.U, Pt.locs, Pt.cells, Pt.slots] at X363 l363 y363 z363 st363 hQ363
  subst l363 y363 z363
  obtain ⟨rfl, rfl, Eq363⟩ := hQ363
  have Nq363 : Fr n0 ([] : List Loc) := Fr.nil n0
  have N364 := Fr.app Nh362 Nq363
  obtain ⟨Lh365, Xh365, Nh365⟩ := own_hide (cells' := 2) (slots' := 76) X363 N364 (Nat.le_of_ble_eq_true rfl) (Nat.le_of_ble_eq_true rfl)
  refine ownSt st363 ?_
  clear st363
  show ownG p.tables e below _ (T363.setTop (fr_of4 m a1 76 (.val (.int (0 : Int32))) (.val (.int (1 : Int32))) [(.int c1)]))
  refine ownBy (A := T363.setTop (fr_of4 m a1 78 (.val (.int (0 : Int32))) (.val (.int (1 : Int32))) [(.int (46 : Int32)), (.int c1)])) (fun t kt => ?_) ?_
  · refine XS.bipush Xh365.here hx rfl (hb hby d9_76) ?_
    exact kt
  by_cases hc366 : c1 = (46 : Int32)
  · skip
    refine ownBy (A := T363.setTop (fr_of4 m a1 57 (.val (.int (2 : Int32))) (.val (.int (2 : Int32))) [(.ref a1), (.int (2 : Int32))])) (fun t kt => ?_) ?_
    · refine XS.icmpNo Xh365.here hx rfl (hb hby d9_78) rfl (teq hc366).2 ?_
      show Steps p.tables e below (T363.setTop (fr_of4 m a1 81 (.val (.int (0 : Int32))) (.val (.int (1 : Int32))) [])) t
      refine XS.iloadN Xh365.here hx rfl (hb hby d9_81) rfl ?_
      show Steps p.tables e below (T363.setTop (fr_of4 m a1 82 (.val (.int (0 : Int32))) (.val (.int (1 : Int32))) [(.int (1 : Int32))])) t
      refine XS.iloadN Xh365.here hx rfl (hb hby d9_82) rfl ?_
      show Steps p.tables e below (T363.setTop (fr_of4 m a1 83 (.val (.int (0 : Int32))) (.val (.int (1 : Int32))) [(.int (0 : Int32)), (.int (1 : Int32))])) t
      refine XS.icmpYes Xh365.here hx rfl (pc0 := 83) (pc' := 97) rfl (hb hby d9_83) rfl (feq ((by decide) : ¬ ((1 : Int32) = (0 : Int32)))).2 (by decide) (by decide) ?_
      show Steps p.tables e below (T363.setTop (fr_of4 m a1 97 (.val (.int (0 : Int32))) (.val (.int (1 : Int32))) [])) t
      refine XS.iloadN Xh365.here hx rfl (hb hby d9_97) rfl ?_
      show Steps p.tables e below (T363.setTop (fr_of4 m a1 98 (.val (.int (0 : Int32))) (.val (.int (1 : Int32))) [(.int (1 : Int32))])) t
      refine XS.iconst Xh365.here hx rfl (hb hby d9_98) ?_
      show Steps p.tables e below (T363.setTop (fr_of4 m a1 99 (.val (.int (0 : Int32))) (.val (.int (1 : Int32))) [(.int (1 : Int32)), (.int (1 : Int32))])) t
      refine XS.iadd Xh365.here hx rfl (hb hby d9_99) rfl ?_
      show Steps p.tables e below (T363.setTop (fr_of4 m a1 100 (.val (.int (0 : Int32))) (.val (.int (1 : Int32))) [(.int (2 : Int32))])) t
      refine XS.istoreN Xh365.here hx rfl (hb hby d9_100) rfl (l' := #[.val (.ref a1), .val (.int (2 : Int32)), .val (.int (1 : Int32))]) rfl ?_
      show Steps p.tables e below (T363.setTop (fr_of4 m a1 101 (.val (.int (2 : Int32))) (.val (.int (1 : Int32))) [])) t
      refine XS.goto Xh365.here hx rfl (pc0 := 101) (pc' := 147) rfl (hb hby d9_101) (by decide) (by decide) ?_
      show Steps p.tables e below (T363.setTop (fr_of4 m a1 147 (.val (.int (2 : Int32))) (.val (.int (1 : Int32))) [])) t
      refine XS.iinc Xh365.here hx rfl (hb hby d9_147) rfl (l' := #[.val (.ref a1), .val (.int (2 : Int32)), .val (.int (2 : Int32))]) rfl ?_
      show Steps p.tables e below (T363.setTop (fr_of4 m a1 150 (.val (.int (2 : Int32))) (.val (.int (2 : Int32))) [])) t
      refine XS.goto Xh365.here hx rfl (pc0 := 150) (pc' := 55) rfl (hb hby d9_150) (by decide) (by decide) ?_
      show Steps p.tables e below (T363.setTop (fr_of4 m a1 55 (.val (.int (2 : Int32))) (.val (.int (2 : Int32))) [])) t
      refine XS.iloadN Xh365.here hx rfl (hb hby d9_55) rfl ?_
      show Steps p.tables e below (T363.setTop (fr_of4 m a1 56 (.val (.int (2 : Int32))) (.val (.int (2 : Int32))) [(.int (2 : Int32))])) t
      refine XS.aloadN Xh365.here hx rfl (hb hby d9_56) rfl rfl ?_
      exact kt
    obtain ⟨cq367, kq367, q367a, q367b, q367c⟩ := isOf hZ323 Eq363 f331
    obtain ⟨vv367, _, ⟨T367, L367, k367, n367⟩, -, X367, ⟨Lc367, hQ367, l367, y367, z367⟩, st367⟩ := Xh365.virtualBack hx (y := (⟨"java/lang/String", "length", "()I"⟩ : MethodName)) (z := (⟨"java/lang/String", "length", "()I"⟩ : MethodName)) hown323 (mvT hZ323 (Wd54 hw)) (mvT hZ323 (Wd55 hw)) (notFace_of_selects (args := #[]) (mvT hZ323 (Wd57 hw))) (mvT hZ323 (Wd57 hw)) (mvT hZ323 (Wd56 hw)) (by decide) (StrChars.Road.lenW (W := 1) hZ323 hln (kI := 4) (Wd9 hw) f331 f332 f333 f334 hcd330 hbd330 (O2.ext f338.2) P5 (Nat.le_of_ble_eq_true rfl) (by decide) (by decide)) q367a q367c (g := (fr_of4 m a1 57 (.val (.int (2 : Int32))) (.val (.int (2 : Int32))) [(.ref a1), (.int (2 : Int32))])) rfl (by rw [hml]; rfl) (Steps.refl _) (argsL := []) (rest := [(.int (2 : Int32))]) (lenOf pd_62 rfl) rfl (by show 2 * 0 + _ ≤ _; exact Nat.le_of_eq rfl) (hb hby d9_57) (fun _ _ => ⟨rfl, Eq363, (by decide : 2 + 0 ≤ _), (by decide : 76 + 0 ≤ _)⟩)
    dsimp only [Pt.U, Pt.locs, Pt.cells, Pt.slots] at X367 l367 y367 z367 st367 hQ367
    subst l367 y367 z367
    obtain ⟨rfl, rfl, Eq367⟩ := hQ367
    have Nq367 : Fr n0 ([] : List Loc) := Fr.nil n0
    have N368 := Fr.app Nh365 Nq367
    obtain ⟨Lh369, Xh369, Nh369⟩ := own_hide (cells' := 2) (slots' := 76) X367 N368 (Nat.le_of_ble_eq_true rfl) (Nat.le_of_ble_eq_true rfl)
    refine ownSt st367 ?_
    clear st367
    show ownG p.tables e below _ (T367.setTop (fr_of4 m a1 60 (.val (.int (2 : Int32))) (.val (.int (2 : Int32))) [(.int (4 : Int32)), (.int (2 : Int32))]))
    refine ownBy (A := T367.setTop (fr_of4 m a1 65 (.val (.int (2 : Int32))) (.val (.int (2 : Int32))) [(.ref a1), (.int (2 : Int32))])) (fun t kt => ?_) ?_
    · refine XS.icmpNo Xh369.here hx rfl (hb hby d9_60) rfl (flt ((by decide) : ¬ ((4 : Int32) < (2 : Int32)))).2.2.1 ?_
      show Steps p.tables e below (T367.setTop (fr_of4 m a1 63 (.val (.int (2 : Int32))) (.val (.int (2 : Int32))) [])) t
      refine XS.iloadN Xh369.here hx rfl (hb hby d9_63) rfl ?_
      show Steps p.tables e below (T367.setTop (fr_of4 m a1 64 (.val (.int (2 : Int32))) (.val (.int (2 : Int32))) [(.int (2 : Int32))])) t
      refine XS.aloadN Xh369.here hx rfl (hb hby d9_64) rfl rfl ?_
      exact kt
    obtain ⟨cq370, kq370, q370a, q370b, q370c⟩ := isOf hZ323 Eq367 f331
    obtain ⟨vv370, _, ⟨T370, L370, k370, n370⟩, -, X370, ⟨Lc370, hQ370, l370, y370, z370⟩, st370⟩ := Xh369.virtualBack hx (y := (⟨"java/lang/String", "length", "()I"⟩ : MethodName)) (z := (⟨"java/lang/String", "length", "()I"⟩ : MethodName)) hown323 (mvT hZ323 (Wd54 hw)) (mvT hZ323 (Wd55 hw)) (notFace_of_selects (args := #[]) (mvT hZ323 (Wd57 hw))) (mvT hZ323 (Wd57 hw)) (mvT hZ323 (Wd56 hw)) (by decide) (StrChars.Road.lenW (W := 1) hZ323 hln (kI := 4) (Wd9 hw) f331 f332 f333 f334 hcd330 hbd330 (O2.ext f338.2) P5 (Nat.le_of_ble_eq_true rfl) (by decide) (by decide)) q370a q370c (g := (fr_of4 m a1 65 (.val (.int (2 : Int32))) (.val (.int (2 : Int32))) [(.ref a1), (.int (2 : Int32))])) rfl (by rw [hml]; rfl) (Steps.refl _) (argsL := []) (rest := [(.int (2 : Int32))]) (lenOf pd_62 rfl) rfl (by show 2 * 0 + _ ≤ _; exact Nat.le_of_eq rfl) (hb hby d9_65) (fun _ _ => ⟨rfl, Eq367, (by decide : 2 + 0 ≤ _), (by decide : 76 + 0 ≤ _)⟩)
    dsimp only [Pt.U, Pt.locs, Pt.cells, Pt.slots] at X370 l370 y370 z370 st370 hQ370
    subst l370 y370 z370
    obtain ⟨rfl, rfl, Eq370⟩ := hQ370
    have Nq370 : Fr n0 ([] : List Loc) := Fr.nil n0
    have N371 := Fr.app Nh369 Nq370
    obtain ⟨Lh372, Xh372, Nh372⟩ := own_hide (cells' := 2) (slots' := 76) X370 N371 (Nat.le_of_ble_eq_true rfl) (Nat.le_of_ble_eq_true rfl)
    refine ownSt st370 ?_
    clear st370
    show ownG p.tables e below _ (T370.setTop (fr_of4 m a1 68 (.val (.int (2 : Int32))) (.val (.int (2 : Int32))) [(.int (4 : Int32)), (.int (2 : Int32))]))
    refine ownBy (A := T370.setTop (fr_of4 m a1 73 (.val (.int (2 : Int32))) (.val (.int (2 : Int32))) [(.int (2 : Int32)), (.ref a1)])) (fun t kt => ?_) ?_
    · refine XS.icmpNo Xh372.here hx rfl (hb hby d9_68) rfl (feq ((by decide) : ¬ ((2 : Int32) = (4 : Int32)))).1 ?_
      show Steps p.tables e below (T370.setTop (fr_of4 m a1 71 (.val (.int (2 : Int32))) (.val (.int (2 : Int32))) [])) t
      refine XS.aloadN Xh372.here hx rfl (hb hby d9_71) rfl rfl ?_
      show Steps p.tables e below (T370.setTop (fr_of4 m a1 72 (.val (.int (2 : Int32))) (.val (.int (2 : Int32))) [(.ref a1)])) t
      refine XS.iloadN Xh372.here hx rfl (hb hby d9_72) rfl ?_
      exact kt
    obtain ⟨cq373, kq373, q373a, q373b, q373c⟩ := isOf hZ323 Eq370 f331
    obtain ⟨vv373, _, ⟨T373, L373, k373, n373⟩, -, X373, ⟨Lc373, hQ373, l373, y373, z373⟩, st373⟩ := Xh372.virtualBack hx (y := (⟨"java/lang/String", "charAt", "(I)C"⟩ : MethodName)) (z := (⟨"java/lang/String", "charAt", "(I)C"⟩ : MethodName)) hown323 (mvT hZ323 (Wd64 hw)) (mvT hZ323 (Wd65 hw)) (notFace_of_selects (args := #[]) (mvT hZ323 (Wd67 hw))) (mvT hZ323 (Wd67 hw)) (mvT hZ323 (Wd66 hw)) (by decide) (StrChars.Road.chN (W := 0) hZ323 hch (kI := 4) (Wd9 hw) f331 f332 f333 f334 hcd330 hbd330 (O2.ext f338.2) P5 (O4.ext f338.2) rG3 (Nat.le_of_ble_eq_true rfl) (i := 2) (Nat.le_of_ble_eq_true rfl) (j := (2 : Int32)) rfl (by decide) (by decide)) q373a q373c (g := (fr_of4 m a1 73 (.val (.int (2 : Int32))) (.val (.int (2 : Int32))) [(.int (2 : Int32)), (.ref a1)])) rfl (by rw [hml]; rfl) (Steps.refl _) (argsL := [(.int (2 : Int32))]) (rest := []) (lenOf pd_8 rfl) rfl (by show 2 * 0 + _ ≤ _; exact Nat.le_of_eq rfl) (hb hby d9_73) (fun _ _ => ⟨rfl, Eq370, (by decide : 2 + 0 ≤ _), (by decide : 76 + 0 ≤ _)⟩)
    dsimp only [Pt.U, Pt.locs, Pt.cells, Pt.slots] at X373 l373 y373 z373 st373 hQ373
    subst l373 y373 z373
    obtain ⟨rfl, rfl, Eq373⟩ := hQ373
    have Nq373 : Fr n0 ([] : List Loc) := Fr.nil n0
    have N374 := Fr.app Nh372 Nq373
    obtain ⟨Lh375, Xh375, Nh375⟩ := own_hide (cells' := 2) (slots' := 76) X373 N374 (Nat.le_of_ble_eq_true rfl) (Nat.le_of_ble_eq_true rfl)
    refine ownSt st373 ?_
    clear st373
    show ownG p.tables e below _ (T373.setTop (fr_of4 m a1 76 (.val (.int (2 : Int32))) (.val (.int (2 : Int32))) [(.int c2)]))
    refine ownBy (A := T373.setTop (fr_of4 m a1 78 (.val (.int (2 : Int32))) (.val (.int (2 : Int32))) [(.int (46 : Int32)), (.int c2)])) (fun t kt => ?_) ?_
    · refine XS.bipush Xh375.here hx rfl (hb hby d9_76) ?_
      exact kt
    by_cases hc376 : c2 = (46 : Int32)
    · skip
      refine ownBy (A := T373.setTop (fr_of4 m a1 86 (.val (.int (2 : Int32))) (.val (.int (2 : Int32))) [])) (fun t kt => ?_) ?_
      · refine XS.icmpNo Xh375.here hx rfl (hb hby d9_78) rfl (teq hc376).2 ?_
        show Steps p.tables e below (T373.setTop (fr_of4 m a1 81 (.val (.int (2 : Int32))) (.val (.int (2 : Int32))) [])) t
        refine XS.iloadN Xh375.here hx rfl (hb hby d9_81) rfl ?_
        show Steps p.tables e below (T373.setTop (fr_of4 m a1 82 (.val (.int (2 : Int32))) (.val (.int (2 : Int32))) [(.int (2 : Int32))])) t
        refine XS.iloadN Xh375.here hx rfl (hb hby d9_82) rfl ?_
        show Steps p.tables e below (T373.setTop (fr_of4 m a1 83 (.val (.int (2 : Int32))) (.val (.int (2 : Int32))) [(.int (2 : Int32)), (.int (2 : Int32))])) t
        refine XS.icmpNo Xh375.here hx rfl (hb hby d9_83) rfl (teq ((by decide) : (2 : Int32) = (2 : Int32))).2 ?_
        exact kt
      exact absurd ⟨hc366, hc376⟩ had
    · skip
      refine ownBy (A := T373.setTop (fr_of4 m a1 106 (.val (.int (2 : Int32))) (.val (.int (2 : Int32))) [(.int (2 : Int32)), (.ref a1)])) (fun t kt => ?_) ?_
      · refine XS.icmpYes Xh375.here hx rfl (pc0 := 78) (pc' := 104) rfl (hb hby d9_78) rfl (feq hc376).2 (by decide) (by decide) ?_
        show Steps p.tables e below (T373.setTop (fr_of4 m a1 104 (.val (.int (2 : Int32))) (.val (.int (2 : Int32))) [])) t
        refine XS.aloadN Xh375.here hx rfl (hb hby d9_104) rfl rfl ?_
        show Steps p.tables e below (T373.setTop (fr_of4 m a1 105 (.val (.int (2 : Int32))) (.val (.int (2 : Int32))) [(.ref a1)])) t
        refine XS.iloadN Xh375.here hx rfl (hb hby d9_105) rfl ?_
        exact kt
      obtain ⟨cq377, kq377, q377a, q377b, q377c⟩ := isOf hZ323 Eq373 f331
      obtain ⟨vv377, _, ⟨T377, L377, k377, n377⟩, -, X377, ⟨Lc377, hQ377, l377, y377, z377⟩, st377⟩ := Xh375.virtualBack hx (y := (⟨"java/lang/String", "charAt", "(I)C"⟩ : MethodName)) (z := (⟨"java/lang/String", "charAt", "(I)C"⟩ : MethodName)) hown323 (mvT hZ323 (Wd64 hw)) (mvT hZ323 (Wd65 hw)) (notFace_of_selects (args := #[]) (mvT hZ323 (Wd67 hw))) (mvT hZ323 (Wd67 hw)) (mvT hZ323 (Wd66 hw)) (by decide) (StrChars.Road.chN (W := 0) hZ323 hch (kI := 4) (Wd9 hw) f331 f332 f333 f334 hcd330 hbd330 (O2.ext f338.2) P5 (O4.ext f338.2) rG3 (Nat.le_of_ble_eq_true rfl) (i := 2) (Nat.le_of_ble_eq_true rfl) (j := (2 : Int32)) rfl (by decide) (by decide)) q377a q377c (g := (fr_of4 m a1 106 (.val (.int (2 : Int32))) (.val (.int (2 : Int32))) [(.int (2 : Int32)), (.ref a1)])) rfl (by rw [hml]; rfl) (Steps.refl _) (argsL := [(.int (2 : Int32))]) (rest := []) (lenOf pd_8 rfl) rfl (by show 2 * 0 + _ ≤ _; exact Nat.le_of_eq rfl) (hb hby d9_106) (fun _ _ => ⟨rfl, Eq373, (by decide : 2 + 0 ≤ _), (by decide : 76 + 0 ≤ _)⟩)
      dsimp only [Pt.U, Pt.locs, Pt.cells, Pt.slots] at X377 l377 y377 z377 st377 hQ377
      subst l377 y377 z377
      obtain ⟨rfl, rfl, Eq377⟩ := hQ377
      have Nq377 : Fr n0 ([] : List Loc) := Fr.nil n0
      have N378 := Fr.app Nh375 Nq377
      obtain ⟨Lh379, Xh379, Nh379⟩ := own_hide (cells' := 2) (slots' := 76) X377 N378 (Nat.le_of_ble_eq_true rfl) (Nat.le_of_ble_eq_true rfl)
      refine ownSt st377 ?_
      clear st377
      show ownG p.tables e below _ (T377.setTop (fr_of4 m a1 109 (.val (.int (2 : Int32))) (.val (.int (2 : Int32))) [(.int c2)]))
      obtain ⟨vv380, _, ⟨T380, L380, k380, n380⟩, -, X380, ⟨Lc380, hQ380, l380, y380, z380⟩, st380⟩ := Jvm.LawKit.callS Xh379 hx (y := (⟨"com/example/boring_outbox/boringoutbox/EventType", "isIdentifierCharacter", "(C)Z"⟩ : MethodName)) hown323 (mvT hZ323 (Wd86 hw)) (mvT hZ323 (Wd87 hw)) (mvT hZ323 (Wd40 hw)) (mvT hZ323 (Wd88 hw)) (by decide) (backOf (W := 0) (c_isi l Z a0 hw [] c2 h323 n0 f326 (hi2.resolve_left hc376)) hZ323 (Wd88 hw) (Wd40 hw) (by decide) (by decide)) (g := (fr_of4 m a1 109 (.val (.int (2 : Int32))) (.val (.int (2 : Int32))) [(.int c2)])) rfl (by rw [hml]; rfl) (argsL := [(.int c2)]) (rest := []) (lenOf pd_78 rfl) rfl (by show 2 * 0 + _ ≤ _; exact Nat.le_of_eq rfl) (hb hby d9_109) (fun _ _ => ⟨rfl, Eq377, (by decide : 2 + 0 ≤ _), (by decide : 76 + 0 ≤ _)⟩)
      dsimp only [Pt.U, Pt.locs, Pt.cells, Pt.slots] at X380 l380 y380 z380 st380 hQ380
      subst l380 y380 z380
      obtain ⟨rfl, Nq380, Eq380⟩ := hQ380
      have N381 := Fr.app Nh379 Nq380
      obtain ⟨Lh382, Xh382, Nh382⟩ := own_hide (cells' := 2) (slots' := 76) X380 N381 (Nat.le_of_ble_eq_true rfl) (Nat.le_of_ble_eq_true rfl)
      refine ownBy st380 ?_
      clear st380
      show ownG p.tables e below _ (T380.setTop (fr_of4 m a1 112 (.val (.int (2 : Int32))) (.val (.int (2 : Int32))) [(.int (1 : Int32))]))
      refine ownBy (A := T380.setTop (fr_of4 m a1 57 (.val (.int (2 : Int32))) (.val (.int (3 : Int32))) [(.ref a1), (.int (3 : Int32))])) (fun t kt => ?_) ?_
      · refine XS.ifYes Xh382.here hx rfl (pc0 := 112) (pc' := 147) rfl (hb hby d9_112) rfl ((if0 _ _).trans (feq ((by decide) : ¬ ((1 : Int32) = (0 : Int32)))).2) (by decide) (by decide) ?_
        show Steps p.tables e below (T380.setTop (fr_of4 m a1 147 (.val (.int (2 : Int32))) (.val (.int (2 : Int32))) [])) t
        refine XS.iinc Xh382.here hx rfl (hb hby d9_147) rfl (l' := #[.val (.ref a1), .val (.int (2 : Int32)), .val (.int (3 : Int32))]) rfl ?_
        show Steps p.tables e below (T380.setTop (fr_of4 m a1 150 (.val (.int (2 : Int32))) (.val (.int (3 : Int32))) [])) t
        refine XS.goto Xh382.here hx rfl (pc0 := 150) (pc' := 55) rfl (hb hby d9_150) (by decide) (by decide) ?_
        show Steps p.tables e below (T380.setTop (fr_of4 m a1 55 (.val (.int (2 : Int32))) (.val (.int (3 : Int32))) [])) t
        refine XS.iloadN Xh382.here hx rfl (hb hby d9_55) rfl ?_
        show Steps p.tables e below (T380.setTop (fr_of4 m a1 56 (.val (.int (2 : Int32))) (.val (.int (3 : Int32))) [(.int (3 : Int32))])) t
        refine XS.aloadN Xh382.here hx rfl (hb hby d9_56) rfl rfl ?_
        exact kt
      obtain ⟨cq383, kq383, q383a, q383b, q383c⟩ := isOf hZ323 Eq380 f331
      obtain ⟨vv383, _, ⟨T383, L383, k383, n383⟩, -, X383, ⟨Lc383, hQ383, l383, y383, z383⟩, st383⟩ := Xh382.virtualBack hx (y := (⟨"java/lang/String", "length", "()I"⟩ : MethodName)) (z := (⟨"java/lang/String", "length", "()I"⟩ : MethodName)) hown323 (mvT hZ323 (Wd54 hw)) (mvT hZ323 (Wd55 hw)) (notFace_of_selects (args := #[]) (mvT hZ323 (Wd57 hw))) (mvT hZ323 (Wd57 hw)) (mvT hZ323 (Wd56 hw)) (by decide) (StrChars.Road.lenW (W := 1) hZ323 hln (kI := 4) (Wd9 hw) f331 f332 f333 f334 hcd330 hbd330 (O2.ext f338.2) P5 (Nat.le_of_ble_eq_true rfl) (by decide) (by decide)) q383a q383c (g := (fr_of4 m a1 57 (.val (.int (2 : Int32))) (.val (.int (3 : Int32))) [(.ref a1), (.int (3 : Int32))])) rfl (by rw [hml]; rfl) (Steps.refl _) (argsL := []) (rest := [(.int (3 : Int32))]) (lenOf pd_62 rfl) rfl (by show 2 * 0 + _ ≤ _; exact Nat.le_of_eq rfl) (hb hby d9_57) (fun _ _ => ⟨rfl, Eq380, (by decide : 2 + 0 ≤ _), (by decide : 76 + 0 ≤ _)⟩)
      dsimp only [Pt.U, Pt.locs, Pt.cells, Pt.slots] at X383 l383 y383 z383 st383 hQ383
      subst l383 y383 z383
      obtain ⟨rfl, rfl, Eq383⟩ := hQ383
      have Nq383 : Fr n0 ([] : List Loc) := Fr.nil n0
      have N384 := Fr.app Nh382 Nq383
      obtain ⟨Lh385, Xh385, Nh385⟩ := own_hide (cells' := 2) (slots' := 76) X383 N384 (Nat.le_of_ble_eq_true rfl) (Nat.le_of_ble_eq_true rfl)
      refine ownSt st383 ?_
      clear st383
      show ownG p.tables e below _ (T383.setTop (fr_of4 m a1 60 (.val (.int (2 : Int32))) (.val (.int (3 : Int32))) [(.int (4 : Int32)), (.int (3 : Int32))]))
      refine ownBy (A := T383.setTop (fr_of4 m a1 65 (.val (.int (2 : Int32))) (.val (.int (3 : Int32))) [(.ref a1), (.int (3 : Int32))])) (fun t kt => ?_) ?_
      · refine XS.icmpNo Xh385.here hx rfl (hb hby d9_60) rfl (flt ((by decide) : ¬ ((4 : Int32) < (3 : Int32)))).2.2.1 ?_
        show Steps p.tables e below (T383.setTop (fr_of4 m a1 63 (.val (.int (2 : Int32))) (.val (.int (3 : Int32))) [])) t
        refine XS.iloadN Xh385.here hx rfl (hb hby d9_63) rfl ?_
        show Steps p.tables e below (T383.setTop (fr_of4 m a1 64 (.val (.int (2 : Int32))) (.val (.int (3 : Int32))) [(.int (3 : Int32))])) t
        refine XS.aloadN Xh385.here hx rfl (hb hby d9_64) rfl rfl ?_
        exact kt
      obtain ⟨cq386, kq386, q386a, q386b, q386c⟩ := isOf hZ323 Eq383 f331
      obtain ⟨vv386, _, ⟨T386, L386, k386, n386⟩, -, X386, ⟨Lc386, hQ386, l386, y386, z386⟩, st386⟩ := Xh385.virtualBack hx (y := (⟨"java/lang/String", "length", "()I"⟩ : MethodName)) (z := (⟨"java/lang/String", "length", "()I"⟩ : MethodName)) hown323 (mvT hZ323 (Wd54 hw)) (mvT hZ323 (Wd55 hw)) (notFace_of_selects (args := #[]) (mvT hZ323 (Wd57 hw))) (mvT hZ323 (Wd57 hw)) (mvT hZ323 (Wd56 hw)) (by decide) (StrChars.Road.lenW (W := 1) hZ323 hln (kI := 4) (Wd9 hw) f331 f332 f333 f334 hcd330 hbd330 (O2.ext f338.2) P5 (Nat.le_of_ble_eq_true rfl) (by decide) (by decide)) q386a q386c (g := (fr_of4 m a1 65 (.val (.int (2 : Int32))) (.val (.int (3 : Int32))) [(.ref a1), (.int (3 : Int32))])) rfl (by rw [hml]; rfl) (Steps.refl _) (argsL := []) (rest := [(.int (3 : Int32))]) (lenOf pd_62 rfl) rfl (by show 2 * 0 + _ ≤ _; exact Nat.le_of_eq rfl) (hb hby d9_65) (fun _ _ => ⟨rfl, Eq383, (by decide : 2 + 0 ≤ _), (by decide : 76 + 0 ≤ _)⟩)
      dsimp only [Pt.U, Pt.locs, Pt.cells, Pt.slots] at X386 l386 y386 z386 st386 hQ386
      subst l386 y386 z386
      obtain ⟨rfl, rfl, Eq386⟩ := hQ386
      have Nq386 : Fr n0 ([] : List Loc) := Fr.nil n0
      have N387 := Fr.app Nh385 Nq386
      obtain ⟨Lh388, Xh388, Nh388⟩ := own_hide (cells' := 2) (slots' := 76) X386 N387 (Nat.le_of_ble_eq_true rfl) (Nat.le_of_ble_eq_true rfl)
      refine ownSt st386 ?_
      clear st386
      show ownG p.tables e below _ (T386.setTop (fr_of4 m a1 68 (.val (.int (2 : Int32))) (.val (.int (3 : Int32))) [(.int (4 : Int32)), (.int (3 : Int32))]))
      refine ownBy (A := T386.setTop (fr_of4 m a1 73 (.val (.int (2 : Int32))) (.val (.int (3 : Int32))) [(.int (3 : Int32)), (.ref a1)])) (fun t kt => ?_) ?_
      · refine XS.icmpNo Xh388.here hx rfl (hb hby d9_68) rfl (feq ((by decide) : ¬ ((3 : Int32) = (4 : Int32)))).1 ?_
        show Steps p.tables e below (T386.setTop (fr_of4 m a1 71 (.val (.int (2 : Int32))) (.val (.int (3 : Int32))) [])) t
        refine XS.aloadN Xh388.here hx rfl (hb hby d9_71) rfl rfl ?_
        show Steps p.tables e below (T386.setTop (fr_of4 m a1 72 (.val (.int (2 : Int32))) (.val (.int (3 : Int32))) [(.ref a1)])) t
        refine XS.iloadN Xh388.here hx rfl (hb hby d9_72) rfl ?_
        exact kt
      obtain ⟨cq389, kq389, q389a, q389b, q389c⟩ := isOf hZ323 Eq386 f331
      obtain ⟨vv389, _, ⟨T389, L389, k389, n389⟩, -, X389, ⟨Lc389, hQ389, l389, y389, z389⟩, st389⟩ := Xh388.virtualBack hx (y := (⟨"java/lang/String", "charAt", "(I)C"⟩ : MethodName)) (z := (⟨"java/lang/String", "charAt", "(I)C"⟩ : MethodName)) hown323 (mvT hZ323 (Wd64 hw)) (mvT hZ323 (Wd65 hw)) (notFace_of_selects (args := #[]) (mvT hZ323 (Wd67 hw))) (mvT hZ323 (Wd67 hw)) (mvT hZ323 (Wd66 hw)) (by decide) (StrChars.Road.chN (W := 0) hZ323 hch (kI := 4) (Wd9 hw) f331 f332 f333 f334 hcd330 hbd330 (O2.ext f338.2) P5 (O4.ext f338.2) rG3 (Nat.le_of_ble_eq_true rfl) (i := 3) (Nat.le_of_ble_eq_true rfl) (j := (3 : Int32)) rfl (by decide) (by decide)) q389a q389c (g := (fr_of4 m a1 73 (.val (.int (2 : Int32))) (.val (.int (3 : Int32))) [(.int (3 : Int32)), (.ref a1)])) rfl (by rw [hml]; rfl) (Steps.refl _) (argsL := [(.int (3 : Int32))]) (rest := []) (lenOf pd_8 rfl) rfl (by show 2 * 0 + _ ≤ _; exact Nat.le_of_eq rfl) (hb hby d9_73) (fun _ _ => ⟨rfl, Eq386, (by decide : 2 + 0 ≤ _), (by decide : 76 + 0 ≤ _)⟩)
      dsimp only [Pt.U, Pt.locs, Pt.cells, Pt.slots] at X389 l389 y389 z389 st389 hQ389
      subst l389 y389 z389
      obtain ⟨rfl, rfl, Eq389⟩ := hQ389
      have Nq389 : Fr n0 ([] : List Loc) := Fr.nil n0
      have N390 := Fr.app Nh388 Nq389
      obtain ⟨Lh391, Xh391, Nh391⟩ := own_hide (cells' := 2) (slots' := 76) X389 N390 (Nat.le_of_ble_eq_true rfl) (Nat.le_of_ble_eq_true rfl)
      refine ownSt st389 ?_
      clear st389
      show ownG p.tables e below _ (T389.setTop (fr_of4 m a1 76 (.val (.int (2 : Int32))) (.val (.int (3 : Int32))) [(.int c3)]))
      refine ownBy (A := T389.setTop (fr_of4 m a1 106 (.val (.int (2 : Int32))) (.val (.int (3 : Int32))) [(.int (3 : Int32)), (.ref a1)])) (fun t kt => ?_) ?_
      · refine XS.bipush Xh391.here hx rfl (hb hby d9_76) ?_
        show Steps p.tables e below (T389.setTop (fr_of4 m a1 78 (.val (.int (2 : Int32))) (.val (.int (3 : Int32))) [(.int (46 : Int32)), (.int c3)])) t
        refine XS.icmpYes Xh391.here hx rfl (pc0 := 78) (pc' := 104) rfl (hb hby d9_78) rfl (feq hnl).2 (by decide) (by decide) ?_
        show Steps p.tables e below (T389.setTop (fr_of4 m a1 104 (.val (.int (2 : Int32))) (.val (.int (3 : Int32))) [])) t
        refine XS.aloadN Xh391.here hx rfl (hb hby d9_104) rfl rfl ?_
        show Steps p.tables e below (T389.setTop (fr_of4 m a1 105 (.val (.int (2 : Int32))) (.val (.int (3 : Int32))) [(.ref a1)])) t
        refine XS.iloadN Xh391.here hx rfl (hb hby d9_105) rfl ?_
        exact kt
      obtain ⟨cq392, kq392, q392a, q392b, q392c⟩ := isOf hZ323 Eq389 f331
      obtain ⟨vv392, _, ⟨T392, L392, k392, n392⟩, -, X392, ⟨Lc392, hQ392, l392, y392, z392⟩, st392⟩ := Xh391.virtualBack hx (y := (⟨"java/lang/String", "charAt", "(I)C"⟩ : MethodName)) (z := (⟨"java/lang/String", "charAt", "(I)C"⟩ : MethodName)) hown323 (mvT hZ323 (Wd64 hw)) (mvT hZ323 (Wd65 hw)) (notFace_of_selects (args := #[]) (mvT hZ323 (Wd67 hw))) (mvT hZ323 (Wd67 hw)) (mvT hZ323 (Wd66 hw)) (by decide) (StrChars.Road.chN (W := 0) hZ323 hch (kI := 4) (Wd9 hw) f331 f332 f333 f334 hcd330 hbd330 (O2.ext f338.2) P5 (O4.ext f338.2) rG3 (Nat.le_of_ble_eq_true rfl) (i := 3) (Nat.le_of_ble_eq_true rfl) (j := (3 : Int32)) rfl (by decide) (by decide)) q392a q392c (g := (fr_of4 m a1 106 (.val (.int (2 : Int32))) (.val (.int (3 : Int32))) [(.int (3 : Int32)), (.ref a1)])) rfl (by rw [hml]; rfl) (Steps.refl _) (argsL := [(.int (3 : Int32))]) (rest := []) (lenOf pd_8 rfl) rfl (by show 2 * 0 + _ ≤ _; exact Nat.le_of_eq rfl) (hb hby d9_106) (fun _ _ => ⟨rfl, Eq389, (by decide : 2 + 0 ≤ _), (by decide : 76 + 0 ≤ _)⟩)
      dsimp only [Pt.U, Pt.locs, Pt.cells, Pt.slots] at X392 l392 y392 z392 st392 hQ392
      subst l392 y392 z392
      obtain ⟨rfl, rfl, Eq392⟩ := hQ392
      have Nq392 : Fr n0 ([] : List Loc) := Fr.nil n0
      have N393 := Fr.app Nh391 Nq392
      obtain ⟨Lh394, Xh394, Nh394⟩ := own_hide (cells' := 2) (slots' := 76) X392 N393 (Nat.le_of_ble_eq_true rfl) (Nat.le_of_ble_eq_true rfl)
      refine ownSt st392 ?_
      clear st392
      show ownG p.tables e below _ (T392.setTop (fr_of4 m a1 109 (.val (.int (2 : Int32))) (.val (.int (3 : Int32))) [(.int c3)]))
      obtain ⟨vv395, _, ⟨T395, L395, k395, n395⟩, -, X395, ⟨Lc395, hQ395, l395, y395, z395⟩, st395⟩ := Jvm.LawKit.callS Xh394 hx (y := (⟨"com/example/boring_outbox/boringoutbox/EventType", "isIdentifierCharacter", "(C)Z"⟩ : MethodName)) hown323 (mvT hZ323 (Wd86 hw)) (mvT hZ323 (Wd87 hw)) (mvT hZ323 (Wd40 hw)) (mvT hZ323 (Wd88 hw)) (by decide) (backOf (W := 0) (c_isi l Z a0 hw [] c3 h323 n0 f326 (hi3.resolve_left hnl)) hZ323 (Wd88 hw) (Wd40 hw) (by decide) (by decide)) (g := (fr_of4 m a1 109 (.val (.int (2 : Int32))) (.val (.int (3 : Int32))) [(.int c3)])) rfl (by rw [hml]; rfl) (argsL := [(.int c3)]) (rest := []) (lenOf pd_78 rfl) rfl (by show 2 * 0 + _ ≤ _; exact Nat.le_of_eq rfl) (hb hby d9_109) (fun _ _ => ⟨rfl, Eq392, (by decide : 2 + 0 ≤ _), (by decide : 76 + 0 ≤ _)⟩)
      dsimp only [Pt.U, Pt.locs, Pt.cells, Pt.slots] at X395 l395 y395 z395 st395 hQ395
      subst l395 y395 z395
      obtain ⟨rfl, Nq395, Eq395⟩ := hQ395
      have N396 := Fr.app Nh394 Nq395
      obtain ⟨Lh397, Xh397, Nh397⟩ := own_hide (cells' := 2) (slots' := 76) X395 N396 (Nat.le_of_ble_eq_true rfl) (Nat.le_of_ble_eq_true rfl)
      refine ownBy st395 ?_
      clear st395
      show ownG p.tables e below _ (T395.setTop (fr_of4 m a1 112 (.val (.int (2 : Int32))) (.val (.int (3 : Int32))) [(.int (1 : Int32))]))
      refine ownBy (A := T395.setTop (fr_of4 m a1 57 (.val (.int (2 : Int32))) (.val (.int (4 : Int32))) [(.ref a1), (.int (4 : Int32))])) (fun t kt => ?_) ?_
      · refine XS.ifYes Xh397.here hx rfl (pc0 := 112) (pc' := 147) rfl (hb hby d9_112) rfl ((if0 _ _).trans (feq ((by decide) : ¬ ((1 : Int32) = (0 : Int32)))).2) (by decide) (by decide) ?_
        show Steps p.tables e below (T395.setTop (fr_of4 m a1 147 (.val (.int (2 : Int32))) (.val (.int (3 : Int32))) [])) t
        refine XS.iinc Xh397.here hx rfl (hb hby d9_147) rfl (l' := #[.val (.ref a1), .val (.int (2 : Int32)), .val (.int (4 : Int32))]) rfl ?_
        show Steps p.tables e below (T395.setTop (fr_of4 m a1 150 (.val (.int (2 : Int32))) (.val (.int (4 : Int32))) [])) t
        refine XS.goto Xh397.here hx rfl (pc0 := 150) (pc' := 55) rfl (hb hby d9_150) (by decide) (by decide) ?_
        show Steps p.tables e below (T395.setTop (fr_of4 m a1 55 (.val (.int (2 : Int32))) (.val (.int (4 : Int32))) [])) t
        refine XS.iloadN Xh397.here hx rfl (hb hby d9_55) rfl ?_
        show Steps p.tables e below (T395.setTop (fr_of4 m a1 56 (.val (.int (2 : Int32))) (.val (.int (4 : Int32))) [(.int (4 : Int32))])) t
        refine XS.aloadN Xh397.here hx rfl (hb hby d9_56) rfl rfl ?_
        exact kt
      obtain ⟨cq398, kq398, q398a, q398b, q398c⟩ := isOf hZ323 Eq395 f331
      obtain ⟨vv398, _, ⟨T398, L398, k398, n398⟩, -, X398, ⟨Lc398, hQ398, l398, y398, z398⟩, st398⟩ := Xh397.virtualBack hx (y := (⟨"java/lang/String", "length", "()I"⟩ : MethodName)) (z := (⟨"java/lang/String", "length", "()I"⟩ : MethodName)) hown323 (mvT hZ323 (Wd54 hw)) (mvT hZ323 (Wd55 hw)) (notFace_of_selects (args := #[]) (mvT hZ323 (Wd57 hw))) (mvT hZ323 (Wd57 hw)) (mvT hZ323 (Wd56 hw)) (by decide) (StrChars.Road.lenW (W := 1) hZ323 hln (kI := 4) (Wd9 hw) f331 f332 f333 f334 hcd330 hbd330 (O2.ext f338.2) P5 (Nat.le_of_ble_eq_true rfl) (by decide) (by decide)) q398a q398c (g := (fr_of4 m a1 57 (.val (.int (2 : Int32))) (.val (.int (4 : Int32))) [(.ref a1), (.int (4 : Int32))])) rfl (by rw [hml]; rfl) (Steps.refl _) (argsL := []) (rest := [(.int (4 : Int32))]) (lenOf pd_62 rfl) rfl (by show 2 * 0 + _ ≤ _; exact Nat.le_of_eq rfl) (hb hby d9_57) (fun _ _ => ⟨rfl, Eq395, (by decide : 2 + 0 ≤ _), (by decide : 76 + 0 ≤ _)⟩)
      dsimp only [Pt.U, Pt.locs, Pt.cells, Pt.slots] at X398 l398 y398 z398 st398 hQ398
      subst l398 y398 z398
      obtain ⟨rfl, rfl, Eq398⟩ := hQ398
      have Nq398 : Fr n0 ([] : List Loc) := Fr.nil n0
      have N399 := Fr.app Nh397 Nq398
      obtain ⟨Lh400, Xh400, Nh400⟩ := own_hide (cells' := 2) (slots' := 76) X398 N399 (Nat.le_of_ble_eq_true rfl) (Nat.le_of_ble_eq_true rfl)
      refine ownSt st398 ?_
      clear st398
      show ownG p.tables e below _ (T398.setTop (fr_of4 m a1 60 (.val (.int (2 : Int32))) (.val (.int (4 : Int32))) [(.int (4 : Int32)), (.int (4 : Int32))]))
      refine ownBy (A := T398.setTop (fr_of4 m a1 65 (.val (.int (2 : Int32))) (.val (.int (4 : Int32))) [(.ref a1), (.int (4 : Int32))])) (fun t kt => ?_) ?_
      · refine XS.icmpNo Xh400.here hx rfl (hb hby d9_60) rfl (flt ((by decide) : ¬ ((4 : Int32) < (4 : Int32)))).2.2.1 ?_
        show Steps p.tables e below (T398.setTop (fr_of4 m a1 63 (.val (.int (2 : Int32))) (.val (.int (4 : Int32))) [])) t
        refine XS.iloadN Xh400.here hx rfl (hb hby d9_63) rfl ?_
        show Steps p.tables e below (T398.setTop (fr_of4 m a1 64 (.val (.int (2 : Int32))) (.val (.int (4 : Int32))) [(.int (4 : Int32))])) t
        refine XS.aloadN Xh400.here hx rfl (hb hby d9_64) rfl rfl ?_
        exact kt
      obtain ⟨cq401, kq401, q401a, q401b, q401c⟩ := isOf hZ323 Eq398 f331
      obtain ⟨vv401, _, ⟨T401, L401, k401, n401⟩, -, X401, ⟨Lc401, hQ401, l401, y401, z401⟩, st401⟩ := Xh400.virtualBack hx (y := (⟨"java/lang/String", "length", "()I"⟩ : MethodName)) (z := (⟨"java/lang/String", "length", "()I"⟩ : MethodName)) hown323 (mvT hZ323 (Wd54 hw)) (mvT hZ323 (Wd55 hw)) (notFace_of_selects (args := #[]) (mvT hZ323 (Wd57 hw))) (mvT hZ323 (Wd57 hw)) (mvT hZ323 (Wd56 hw)) (by decide) (StrChars.Road.lenW (W := 1) hZ323 hln (kI := 4) (Wd9 hw) f331 f332 f333 f334 hcd330 hbd330 (O2.ext f338.2) P5 (Nat.le_of_ble_eq_true rfl) (by decide) (by decide)) q401a q401c (g := (fr_of4 m a1 65 (.val (.int (2 : Int32))) (.val (.int (4 : Int32))) [(.ref a1), (.int (4 : Int32))])) rfl (by rw [hml]; rfl) (Steps.refl _) (argsL := []) (rest := [(.int (4 : Int32))]) (lenOf pd_62 rfl) rfl (by show 2 * 0 + _ ≤ _; exact Nat.le_of_eq rfl) (hb hby d9_65) (fun _ _ => ⟨rfl, Eq398, (by decide : 2 + 0 ≤ _), (by decide : 76 + 0 ≤ _)⟩)
      dsimp only [Pt.U, Pt.locs, Pt.cells, Pt.slots] at X401 l401 y401 z401 st401 hQ401
      subst l401 y401 z401
      obtain ⟨rfl, rfl, Eq401⟩ := hQ401
      have Nq401 : Fr n0 ([] : List Loc) := Fr.nil n0
      have N402 := Fr.app Nh400 Nq401
      obtain ⟨Lh403, Xh403, Nh403⟩ := own_hide (cells' := 2) (slots' := 76) X401 N402 (Nat.le_of_ble_eq_true rfl) (Nat.le_of_ble_eq_true rfl)
      refine ownSt st401 ?_
      clear st401
      show ownG p.tables e below _ (T401.setTop (fr_of4 m a1 68 (.val (.int (2 : Int32))) (.val (.int (4 : Int32))) [(.int (4 : Int32)), (.int (4 : Int32))]))
      refine ownBy (A := T401.setTop (fr_of4 m a1 57 (.val (.int (5 : Int32))) (.val (.int (5 : Int32))) [(.ref a1), (.int (5 : Int32))])) (fun t kt => ?_) ?_
      · refine XS.icmpYes Xh403.here hx rfl (pc0 := 68) (pc' := 81) rfl (hb hby d9_68) rfl (teq ((by decide) : (4 : Int32) = (4 : Int32))).1 (by decide) (by decide) ?_
        show Steps p.tables e below (T401.setTop (fr_of4 m a1 81 (.val (.int (2 : Int32))) (.val (.int (4 : Int32))) [])) t
        refine XS.iloadN Xh403.here hx rfl (hb hby d9_81) rfl ?_
        show Steps p.tables e below (T401.setTop (fr_of4 m a1 82 (.val (.int (2 : Int32))) (.val (.int (4 : Int32))) [(.int (4 : Int32))])) t
        refine XS.iloadN Xh403.here hx rfl (hb hby d9_82) rfl ?_
        show Steps p.tables e below (T401.setTop (fr_of4 m a1 83 (.val (.int (2 : Int32))) (.val (.int (4 : Int32))) [(.int (2 : Int32)), (.int (4 : Int32))])) t
        refine XS.icmpYes Xh403.here hx rfl (pc0 := 83) (pc' := 97) rfl (hb hby d9_83) rfl (feq ((by decide) : ¬ ((4 : Int32) = (2 : Int32)))).2 (by decide) (by decide) ?_
        show Steps p.tables e below (T401.setTop (fr_of4 m a1 97 (.val (.int (2 : Int32))) (.val (.int (4 : Int32))) [])) t
        refine XS.iloadN Xh403.here hx rfl (hb hby d9_97) rfl ?_
        show Steps p.tables e below (T401.setTop (fr_of4 m a1 98 (.val (.int (2 : Int32))) (.val (.int (4 : Int32))) [(.int (4 : Int32))])) t
        refine XS.iconst Xh403.here hx rfl (hb hby d9_98) ?_
        show Steps p.tables e below (T401.setTop (fr_of4 m a1 99 (.val (.int (2 : Int32))) (.val (.int (4 : Int32))) [(.int (1 : Int32)), (.int (4 : Int32))])) t
        refine XS.iadd Xh403.here hx rfl (hb hby d9_99) rfl ?_
        show Steps p.tables e below (T401.setTop (fr_of4 m a1 100 (.val (.int (2 : Int32))) (.val (.int (4 : Int32))) [(.int (5 : Int32))])) t
        refine XS.istoreN Xh403.here hx rfl (hb hby d9_100) rfl (l' := #[.val (.ref a1), .val (.int (5 : Int32)), .val (.int (4 : Int32))]) rfl ?_
        show Steps p.tables e below (T401.setTop (fr_of4 m a1 101 (.val (.int (5 : Int32))) (.val (.int (4 : Int32))) [])) t
        refine XS.goto Xh403.here hx rfl (pc0 := 101) (pc' := 147) rfl (hb hby d9_101) (by decide) (by decide) ?_
        show Steps p.tables e below (T401.setTop (fr_of4 m a1 147 (.val (.int (5 : Int32))) (.val (.int (4 : Int32))) [])) t
        refine XS.iinc Xh403.here hx rfl (hb hby d9_147) rfl (l' := #[.val (.ref a1), .val (.int (5 : Int32)), .val (.int (5 : Int32))]) rfl ?_
        show Steps p.tables e below (T401.setTop (fr_of4 m a1 150 (.val (.int (5 : Int32))) (.val (.int (5 : Int32))) [])) t
        refine XS.goto Xh403.here hx rfl (pc0 := 150) (pc' := 55) rfl (hb hby d9_150) (by decide) (by decide) ?_
        show Steps p.tables e below (T401.setTop (fr_of4 m a1 55 (.val (.int (5 : Int32))) (.val (.int (5 : Int32))) [])) t
        refine XS.iloadN Xh403.here hx rfl (hb hby d9_55) rfl ?_
        show Steps p.tables e below (T401.setTop (fr_of4 m a1 56 (.val (.int (5 : Int32))) (.val (.int (5 : Int32))) [(.int (5 : Int32))])) t
        refine XS.aloadN Xh403.here hx rfl (hb hby d9_56) rfl rfl ?_
        exact kt
      obtain ⟨cq404, kq404, q404a, q404b, q404c⟩ := isOf hZ323 Eq401 f331
      obtain ⟨vv404, _, ⟨T404, L404, k404, n404⟩, -, X404, ⟨Lc404, hQ404, l404, y404, z404⟩, st404⟩ := Xh403.virtualBack hx (y := (⟨"java/lang/String", "length", "()I"⟩ : MethodName)) (z := (⟨"java/lang/String", "length", "()I"⟩ : MethodName)) hown323 (mvT hZ323 (Wd54 hw)) (mvT hZ323 (Wd55 hw)) (notFace_of_selects (args := #[]) (mvT hZ323 (Wd57 hw))) (mvT hZ323 (Wd57 hw)) (mvT hZ323 (Wd56 hw)) (by decide) (StrChars.Road.lenW (W := 1) hZ323 hln (kI := 4) (Wd9 hw) f331 f332 f333 f334 hcd330 hbd330 (O2.ext f338.2) P5 (Nat.le_of_ble_eq_true rfl) (by decide) (by decide)) q404a q404c (g := (fr_of4 m a1 57 (.val (.int (5 : Int32))) (.val (.int (5 : Int32))) [(.ref a1), (.int (5 : Int32))])) rfl (by rw [hml]; rfl) (Steps.refl _) (argsL := []) (rest := [(.int (5 : Int32))]) (lenOf pd_62 rfl) rfl (by show 2 * 0 + _ ≤ _; exact Nat.le_of_eq rfl) (hb hby d9_57) (fun _ _ => ⟨rfl, Eq401, (by decide : 2 + 0 ≤ _), (by decide : 76 + 0 ≤ _)⟩)
      dsimp only [Pt.U, Pt.locs, Pt.cells, Pt.slots] at X404 l404 y404 z404 st404 hQ404
      subst l404 y404 z404
      obtain ⟨rfl, rfl, Eq404⟩ := hQ404
      have Nq404 : Fr n0 ([] : List Loc) := Fr.nil n0
      have N405 := Fr.app Nh403 Nq404
      obtain ⟨Lh406, Xh406, Nh406⟩ := own_hide (cells' := 2) (slots' := 76) X404 N405 (Nat.le_of_ble_eq_true rfl) (Nat.le_of_ble_eq_true rfl)
      refine ownSt st404 ?_
      clear st404
      show ownG p.tables e below _ (T404.setTop (fr_of4 m a1 60 (.val (.int (5 : Int32))) (.val (.int (5 : Int32))) [(.int (4 : Int32)), (.int (5 : Int32))]))
      refine ownBy (A := T404.setTop (fr_of4 m a1 153 (.val (.int (5 : Int32))) (.val (.int (5 : Int32))) [])) (fun t kt => ?_) ?_
      · refine XS.icmpYes Xh406.here hx rfl (pc0 := 60) (pc' := 153) rfl (hb hby d9_60) rfl (tlt ((by decide) : (4 : Int32) < (5 : Int32))).2.2.1 (by decide) (by decide) ?_
        exact kt
      obtain ⟨T407, h407, X407, e407, E407, A407, D407, -, st407⟩ := newO Xh406 hx hZ323 hown323 (Wd89 hw) (Wd90 hw) (Wd40 hw) Eq404 (g := (fr_of4 m a1 153 (.val (.int (5 : Int32))) (.val (.int (5 : Int32))) [])) rfl (hb hby d9_153) (by decide) (by decide)
      obtain ⟨b407, g407⟩ : ∃ z, z = h323.size := ⟨_, rfl⟩
      rw [← g407] at A407 D407 st407
      have ne408 : a1 ≠ b407 := Nat.ne_of_lt (Nat.lt_of_lt_of_le f331.lt (Nat.le_of_eq g407.symm))
      have ne409 : t1 ≠ b407 := Nat.ne_of_lt (Nat.lt_of_lt_of_le f334.lt (Nat.le_of_eq g407.symm))
      have g410 : n0 ≤ b407 := Nat.le_trans f326 (Nat.le_of_eq g407.symm)
      have sf411 : Safe Z ownEL T323.vm h323 b407 := Safe.new (Nat.le_of_eq g407.symm)
      have f413 := ((Keep.refl h0 []).ext E323)
      have z412 : h0.size ≤ b407 := Nat.le_trans f413.1 (Nat.le_of_eq g407.symm)
      have R414 := R325.trans (CHr.ext E407 R325.1)
      have sf415 := Safe.ext E407 R325.1 sf411
      have F416 : Fld Z h407 b407 "com/example/boring_outbox/boringoutbox/EventType" "name" "Ljava/lang/String;" .null := D407 (Or.inr (Wd96 hw)) (ty := (.object "java/lang/String")) (by decide)
      refine ownBy st407 ?_
      clear st407
      show ownG p.tables e below _ (T407.setTop (fr_of4 m a1 156 (.val (.int (5 : Int32))) (.val (.int (5 : Int32))) [(.ref b407)]))
      refine ownBy (A := T407.setTop (fr_of4 m a1 158 (.val (.int (5 : Int32))) (.val (.int (5 : Int32))) [(.ref a1), (.ref b407), (.ref b407)])) (fun t kt => ?_) ?_
      · refine XS.dup X407.here hx rfl (hb hby d9_156) rfl rfl ?_
        show Steps p.tables e below (T407.setTop (fr_of4 m a1 157 (.val (.int (5 : Int32))) (.val (.int (5 : Int32))) [(.ref b407), (.ref b407)])) t
        refine XS.aloadN X407.here hx rfl (hb hby d9_157) rfl rfl ?_
        exact kt
      have f417 := (Nat.le_trans f326 E407.1)
      obtain ⟨vv418, _, ⟨T418, L418, k418, n418⟩, -, X418, ⟨Lc418, hQ418, l418, y418, z418⟩, st418⟩ := X407.specialBack hx (y := (⟨"com/example/boring_outbox/boringoutbox/EventType", "<init>", "(Ljava/lang/String;)V"⟩ : MethodName)) rfl hown323 (mvT hZ323 (Wd91 hw)) (mvT hZ323 (Wd92 hw)) (mvT hZ323 (Wd93 hw)) (by decide) (backOf (W := 1) (c_ein l Z a0 hw [] b407 a1 _ h407 n0 f417 A407 F416 g410) hZ323 (Wd93 hw) (Wd40 hw) (by decide) (by decide)) (g := (fr_of4 m a1 158 (.val (.int (5 : Int32))) (.val (.int (5 : Int32))) [(.ref a1), (.ref b407), (.ref b407)])) rfl (by rw [hml]; rfl) (Steps.refl _) (a := b407) (argsL := [(.ref a1)]) (rest := [(.ref b407)]) (lenOf pd_102 rfl) rfl (by show 2 * 0 + _ ≤ _; exact Nat.le_of_eq rfl) (hb hby d9_158) (fun _ _ => ⟨rfl, e407, (by decide : 3 + 0 ≤ _), (by decide : 77 + 0 ≤ _)⟩)
      dsimp only [Pt.U, Pt.locs, Pt.cells, Pt.slots] at X418 l418 y418 z418 st418 hQ418
      subst l418 y418 z418
      obtain ⟨rfl, Nq418, Kq418, Fa418⟩ := hQ418
      have N419 := Fr.app Nh406 Nq418
      have R420 := R414.trans (CHr.keep Kq418 (sfS sf415 sf0) R414.1)
      have sf421 := Safe.keep Kq418 (sfS sf415 sf0) R414.1 sf415
      obtain ⟨Lh422, Xh422, Nh422⟩ := own_hide (cells' := 3) (slots' := 77) X418 N419 (Nat.le_of_ble_eq_true rfl) (Nat.le_of_ble_eq_true rfl)
      refine ownSt st418 ?_
      clear st418
      show ownG p.tables e below _ (T418.setTop (fr_of4 m a1 161 (.val (.int (5 : Int32))) (.val (.int (5 : Int32))) [(.ref b407)]))
      have f423 := ((f413.ext E407).trans Kq418 (allS (Or.inr z412) all0))
      have f424 := (A407.keep Kq418)
      refine ownRetH Xh422 hS323 (Nat.le_trans (Nat.le_trans hk323 E407.1) Kq418.1) Bd.notSynchronized (v := some (.ref b407)) (fun h => by rw [Bd.returns] at h; cases h) ?_ (R420.trans (CHv.at Xh422 hZ323 hEL R420.1)) (Nat.le_of_ble_eq_true rfl) (Nat.le_of_ble_eq_true rfl) (fun fs hr => retOut Xh422 hx Bd.returns rfl (Or.inr (Or.inr (Or.inr (Or.inr ⟨rfl, rfl, rfl⟩)))) (hb hby d9_161) hr)
      show (Q_of4 Z a1 t1 kb1 c0 c1 c2 c3 G1 G3 h0 n0) (some (.ref b407)) T418.heap _
      exact ⟨b407, rfl, Nh422, f423, z412, f424, Fa418⟩
  · skip
    refine ownBy (A := T363.setTop (fr_of4 m a1 106 (.val (.int (0 : Int32))) (.val (.int (1 : Int32))) [(.int (1 : Int32)), (.ref a1)])) (fun t kt => ?_) ?_
    · refine XS.icmpYes Xh365.here hx rfl (pc0 := 78) (pc' := 104) rfl (hb hby d9_78) rfl (feq hc366).2 (by decide) (by decide) ?_
      show Steps p.tables e below (T363.setTop (fr_of4 m a1 104 (.val (.int (0 : Int32))) (.val (.int (1 : Int32))) [])) t
      refine XS.aloadN Xh365.here hx rfl (hb hby d9_104) rfl rfl ?_
      show Steps p.tables e below (T363.setTop (fr_of4 m a1 105 (.val (.int (0 : Int32))) (.val (.int (1 : Int32))) [(.ref a1)])) t
      refine XS.iloadN Xh365.here hx rfl (hb hby d9_105) rfl ?_
      exact kt
    obtain ⟨cq426, kq426, q426a, q426b, q426c⟩ := isOf hZ323 Eq363 f331
    obtain ⟨vv426, _, ⟨T426, L426, k426, n426⟩, -, X426, ⟨Lc426, hQ426, l426, y426, z426⟩, st426⟩ := Xh365.virtualBack hx (y := (⟨"java/lang/String", "charAt", "(I)C"⟩ : MethodName)) (z := (⟨"java/lang/String", "charAt", "(I)C"⟩ : MethodName)) hown323 (mvT hZ323 (Wd64 hw)) (mvT hZ323 (Wd65 hw)) (notFace_of_selects (args := #[]) (mvT hZ323 (Wd67 hw))) (mvT hZ323 (Wd67 hw)) (mvT hZ323 (Wd66 hw)) (by decide) (StrChars.Road.chN (W := 0) hZ323 hch (kI := 4) (Wd9 hw) f331 f332 f333 f334 hcd330 hbd330 (O2.ext f338.2) P5 (O4.ext f338.2) rG3 (Nat.le_of_ble_eq_true rfl) (i := 1) (Nat.le_of_ble_eq_true rfl) (j := (1 : Int32)) rfl (by decide) (by decide)) q426a q426c (g := (fr_of4 m a1 106 (.val (.int (0 : Int32))) (.val (.int (1 : Int32))) [(.int (1 : Int32)), (.ref a1)])) rfl (by rw [hml]; rfl) (Steps.refl _) (argsL := [(.int (1 : Int32))]) (rest := []) (lenOf pd_8 rfl) rfl (by show 2 * 0 + _ ≤ _; exact Nat.le_of_eq rfl) (hb hby d9_106) (fun _ _ => ⟨rfl, Eq363, (by decide : 2 + 0 ≤ _), (by decide : 76 + 0 ≤ _)⟩)
    dsimp only [Pt.U, Pt.locs, Pt.cells, Pt.slots] at X426 l426 y426 z426 st426 hQ426
    subst l426 y426 z426
    obtain ⟨rfl, rfl, Eq426⟩ := hQ426
    have Nq426 : Fr n0 ([] : List Loc) := Fr.nil n0
    have N427 := Fr.app Nh365 Nq426
    obtain ⟨Lh428, Xh428, Nh428⟩ := own_hide (cells' := 2) (slots' := 76) X426 N427 (Nat.le_of_ble_eq_true rfl) (Nat.le_of_ble_eq_true rfl)
    refine ownSt st426 ?_
    clear st426
    show ownG p.tables e below _ (T426.setTop (fr_of4 m a1 109 (.val (.int (0 : Int32))) (.val (.int (1 : Int32))) [(.int c1)]))
    obtain ⟨vv429, _, ⟨T429, L429, k429, n429⟩, -, X429, ⟨Lc429, hQ429, l429, y429, z429⟩, st429⟩ := Jvm.LawKit.callS Xh428 hx (y := (⟨"com/example/boring_outbox/boringoutbox/EventType", "isIdentifierCharacter", "(C)Z"⟩ : MethodName)) hown323 (mvT hZ323 (Wd86 hw)) (mvT hZ323 (Wd87 hw)) (mvT hZ323 (Wd40 hw)) (mvT hZ323 (Wd88 hw)) (by decide) (backOf (W := 0) (c_isi l Z a0 hw [] c1 h323 n0 f326 (hi1.resolve_left hc366)) hZ323 (Wd88 hw) (Wd40 hw) (by decide) (by decide)) (g := (fr_of4 m a1 109 (.val (.int (0 : Int32))) (.val (.int (1 : Int32))) [(.int c1)])) rfl (by rw [hml]; rfl) (argsL := [(.int c1)]) (rest := []) (lenOf pd_78 rfl) rfl (by show 2 * 0 + _ ≤ _; exact Nat.le_of_eq rfl) (hb hby d9_109) (fun _ _ => ⟨rfl, Eq426, (by decide : 2 + 0 ≤ _), (by decide : 76 + 0 ≤ _)⟩)
    dsimp only [Pt.U, Pt.locs, Pt.cells, Pt.slots] at X429 l429 y429 z429 st429 hQ429
    subst l429 y429 z429
    obtain ⟨rfl, Nq429, Eq429⟩ := hQ429
    have N430 := Fr.app Nh428 Nq429
    obtain ⟨Lh431, Xh431, Nh431⟩ := own_hide (cells' := 2) (slots' := 76) X429 N430 (Nat.le_of_ble_eq_true rfl) (Nat.le_of_ble_eq_true rfl)
    refine ownBy st429 ?_
    clear st429
    show ownG p.tables e below _ (T429.setTop (fr_of4 m a1 112 (.val (.int (0 : Int32))) (.val (.int (1 : Int32))) [(.int (1 : Int32))]))
    refine ownBy (A := T429.setTop (fr_of4 m a1 57 (.val (.int (0 : Int32))) (.val (.int (2 : Int32))) [(.ref a1), (.int (2 : Int32))])) (fun t kt => ?_) ?_
    · refine XS.ifYes Xh431.here hx rfl (pc0 := 112) (pc' := 147) rfl (hb hby d9_112) rfl ((if0 _ _).trans (feq ((by decide) : ¬ ((1 : Int32) = (0 : Int32)))).2) (by decide) (by decide) ?_
      show Steps p.tables e below (T429.setTop (fr_of4 m a1 147 (.val (.int (0 : Int32))) (.val (.int (1 : Int32))) [])) t
      refine XS.iinc Xh431.here hx rfl (hb hby d9_147) rfl (l' := #[.val (.ref a1), .val (.int (0 : Int32)), .val (.int (2 : Int32))]) rfl ?_
      show Steps p.tables e below (T429.setTop (fr_of4 m a1 150 (.val (.int (0 : Int32))) (.val (.int (2 : Int32))) [])) t
      refine XS.goto Xh431.here hx rfl (pc0 := 150) (pc' := 55) rfl (hb hby d9_150) (by decide) (by decide) ?_
      show Steps p.tables e below (T429.setTop (fr_of4 m a1 55 (.val (.int (0 : Int32))) (.val (.int (2 : Int32))) [])) t
      refine XS.iloadN Xh431.here hx rfl (hb hby d9_55) rfl ?_
      show Steps p.tables e below (T429.setTop (fr_of4 m a1 56 (.val (.int (0 : Int32))) (.val (.int (2 : Int32))) [(.int (2 : Int32))])) t
      refine XS.aloadN Xh431.here hx rfl (hb hby d9_56) rfl rfl ?_
      exact kt
    obtain ⟨cq432, kq432, q432a, q432b, q432c⟩ := isOf hZ323 Eq429 f331
    obtain ⟨vv432, _, ⟨T432, L432, k432, n432⟩, -, X432, ⟨Lc432, hQ432, l432, y432, z432⟩, st432⟩ := Xh431.virtualBack hx (y := (⟨"java/lang/String", "length", "()I"⟩ : MethodName)) (z := (⟨"java/lang/String", "length", "()I"⟩ : MethodName)) hown323 (mvT hZ323 (Wd54 hw)) (mvT hZ323 (Wd55 hw)) (notFace_of_selects (args := #[]) (mvT hZ323 (Wd57 hw))) (mvT hZ323 (Wd57 hw)) (mvT hZ323 (Wd56 hw)) (by decide) (StrChars.Road.lenW (W := 1) hZ323 hln (kI := 4) (Wd9 hw) f331 f332 f333 f334 hcd330 hbd330 (O2.ext f338.2) P5 (Nat.le_of_ble_eq_true rfl) (by decide) (by decide)) q432a q432c (g := (fr_of4 m a1 57 (.val (.int (0 : Int32))) (.val (.int (2 : Int32))) [(.ref a1), (.int (2 : Int32))])) rfl (by rw [hml]; rfl) (Steps.refl _) (argsL := []) (rest := [(.int (2 : Int32))]) (lenOf pd_62 rfl) rfl (by show 2 * 0 + _ ≤ _; exact Nat.le_of_eq rfl) (hb hby d9_57) (fun _ _ => ⟨rfl, Eq429, (by decide : 2 + 0 ≤ _), (by decide : 76 + 0 ≤ _)⟩)
    dsimp only [Pt.U, Pt.locs, Pt.cells, Pt.slots] at X432 l432 y432 z432 st432 hQ432
    subst l432 y432 z432
    obtain ⟨rfl, rfl, Eq432⟩ := hQ432
    have Nq432 : Fr n0 ([] : List Loc) := Fr.nil n0
    have N433 := Fr.app Nh431 Nq432
    obtain ⟨Lh434, Xh434, Nh434⟩ := own_hide (cells' := 2) (slots' := 76) X432 N433 (Nat.le_of_ble_eq_true rfl) (Nat.le_of_ble_eq_true rfl)
    refine ownSt st432 ?_
    clear st432
    show ownG p.tables e below _ (T432.setTop (fr_of4 m a1 60 (.val (.int (0 : Int32))) (.val (.int (2 : Int32))) [(.int (4 : Int32)), (.int (2 : Int32))]))
    refine ownBy (A := T432.setTop (fr_of4 m a1 65 (.val (.int (0 : Int32))) (.val (.int (2 : Int32))) [(.ref a1), (.int (2 : Int32))])) (fun t kt => ?_) ?_
    · refine XS.icmpNo Xh434.here hx rfl (hb hby d9_60) rfl (flt ((by decide) : ¬ ((4 : Int32) < (2 : Int32)))).2.2.1 ?_
      show Steps p.tables e below (T432.setTop (fr_of4 m a1 63 (.val (.int (0 : Int32))) (.val (.int (2 : Int32))) [])) t
      refine XS.iloadN Xh434.here hx rfl (hb hby d9_63) rfl ?_
      show Steps p.tables e below (T432.setTop (fr_of4 m a1 64 (.val (.int (0 : Int32))) (.val (.int (2 : Int32))) [(.int (2 : Int32))])) t
      refine XS.aloadN Xh434.here hx rfl (hb hby d9_64) rfl rfl ?_
      exact kt
    obtain ⟨cq435, kq435, q435a, q435b, q435c⟩ := isOf hZ323 Eq432 f331
    obtain ⟨vv435, _, ⟨T435, L435, k435, n435⟩, -, X435, ⟨Lc435, hQ435, l435, y435, z435⟩, st435⟩ := Xh434.virtualBack hx (y := (⟨"java/lang/String", "length", "()I"⟩ : MethodName)) (z := (⟨"java/lang/String", "length", "()I"⟩ : MethodName)) hown323 (mvT hZ323 (Wd54 hw)) (mvT hZ323 (Wd55 hw)) (notFace_of_selects (args := #[]) (mvT hZ323 (Wd57 hw))) (mvT hZ323 (Wd57 hw)) (mvT hZ323 (Wd56 hw)) (by decide) (StrChars.Road.lenW (W := 1) hZ323 hln (kI := 4) (Wd9 hw) f331 f332 f333 f334 hcd330 hbd330 (O2.ext f338.2) P5 (Nat.le_of_ble_eq_true rfl) (by decide) (by decide)) q435a q435c (g := (fr_of4 m a1 65 (.val (.int (0 : Int32))) (.val (.int (2 : Int32))) [(.ref a1), (.int (2 : Int32))])) rfl (by rw [hml]; rfl) (Steps.refl _) (argsL := []) (rest := [(.int (2 : Int32))]) (lenOf pd_62 rfl) rfl (by show 2 * 0 + _ ≤ _; exact Nat.le_of_eq rfl) (hb hby d9_65) (fun _ _ => ⟨rfl, Eq432, (by decide : 2 + 0 ≤ _), (by decide : 76 + 0 ≤ _)⟩)
    dsimp only [Pt.U, Pt.locs, Pt.cells, Pt.slots] at X435 l435 y435 z435 st435 hQ435
    subst l435 y435 z435
    obtain ⟨rfl, rfl, Eq435⟩ := hQ435
    have Nq435 : Fr n0 ([] : List Loc) := Fr.nil n0
    have N436 := Fr.app Nh434 Nq435
    obtain ⟨Lh437, Xh437, Nh437⟩ := own_hide (cells' := 2) (slots' := 76) X435 N436 (Nat.le_of_ble_eq_true rfl) (Nat.le_of_ble_eq_true rfl)
    refine ownSt st435 ?_
    clear st435
    show ownG p.tables e below _ (T435.setTop (fr_of4 m a1 68 (.val (.int (0 : Int32))) (.val (.int (2 : Int32))) [(.int (4 : Int32)), (.int (2 : Int32))]))
    refine ownBy (A := T435.setTop (fr_of4 m a1 73 (.val (.int (0 : Int32))) (.val (.int (2 : Int32))) [(.int (2 : Int32)), (.ref a1)])) (fun t kt => ?_) ?_
    · refine XS.icmpNo Xh437.here hx rfl (hb hby d9_68) rfl (feq ((by decide) : ¬ ((2 : Int32) = (4 : Int32)))).1 ?_
      show Steps p.tables e below (T435.setTop (fr_of4 m a1 71 (.val (.int (0 : Int32))) (.val (.int (2 : Int32))) [])) t
      refine XS.aloadN Xh437.here hx rfl (hb hby d9_71) rfl rfl ?_
      show Steps p.tables e below (T435.setTop (fr_of4 m a1 72 (.val (.int (0 : Int32))) (.val (.int (2 : Int32))) [(.ref a1)])) t
      refine XS.iloadN Xh437.here hx rfl (hb hby d9_72) rfl ?_
      exact kt
    obtain ⟨cq438, kq438, q438a, q438b, q438c⟩ := isOf hZ323 Eq435 f331
    obtain ⟨vv438, _, ⟨T438, L438, k438, n438⟩, -, X438, ⟨Lc438, hQ438, l438, y438, z438⟩, st438⟩ := Xh437.virtualBack hx (y := (⟨"java/lang/String", "charAt", "(I)C"⟩ : MethodName)) (z := (⟨"java/lang/String", "charAt", "(I)C"⟩ : MethodName)) hown323 (mvT hZ323 (Wd64 hw)) (mvT hZ323 (Wd65 hw)) (notFace_of_selects (args := #[]) (mvT hZ323 (Wd67 hw))) (mvT hZ323 (Wd67 hw)) (mvT hZ323 (Wd66 hw)) (by decide) (StrChars.Road.chN (W := 0) hZ323 hch (kI := 4) (Wd9 hw) f331 f332 f333 f334 hcd330 hbd330 (O2.ext f338.2) P5 (O4.ext f338.2) rG3 (Nat.le_of_ble_eq_true rfl) (i := 2) (Nat.le_of_ble_eq_true rfl) (j := (2 : Int32)) rfl (by decide) (by decide)) q438a q438c (g := (fr_of4 m a1 73 (.val (.int (0 : Int32))) (.val (.int (2 : Int32))) [(.int (2 : Int32)), (.ref a1)])) rfl (by rw [hml]; rfl) (Steps.refl _) (argsL := [(.int (2 : Int32))]) (rest := []) (lenOf pd_8 rfl) rfl (by show 2 * 0 + _ ≤ _; exact Nat.le_of_eq rfl) (hb hby d9_73) (fun _ _ => ⟨rfl, Eq435, (by decide : 2 + 0 ≤ _), (by decide : 76 + 0 ≤ _)⟩)
    dsimp only [Pt.U, Pt.locs, Pt.cells, Pt.slots] at X438 l438 y438 z438 st438 hQ438
    subst l438 y438 z438
    obtain ⟨rfl, rfl, Eq438⟩ := hQ438
    have Nq438 : Fr n0 ([] : List Loc) := Fr.nil n0
    have N439 := Fr.app Nh437 Nq438
    obtain ⟨Lh440, Xh440, Nh440⟩ := own_hide (cells' := 2) (slots' := 76) X438 N439 (Nat.le_of_ble_eq_true rfl) (Nat.le_of_ble_eq_true rfl)
    refine ownSt st438 ?_
    clear st438
    show ownG p.tables e below _ (T438.setTop (fr_of4 m a1 76 (.val (.int (0 : Int32))) (.val (.int (2 : Int32))) [(.int c2)]))
    refine ownBy (A := T438.setTop (fr_of4 m a1 78 (.val (.int (0 : Int32))) (.val (.int (2 : Int32))) [(.int (46 : Int32)), (.int c2)])) (fun t kt => ?_) ?_
    · refine XS.bipush Xh440.here hx rfl (hb hby d9_76) ?_
      exact kt
    by_cases hc441 : c2 = (46 : Int32)
    · skip
      refine ownBy (A := T438.setTop (fr_of4 m a1 57 (.val (.int (3 : Int32))) (.val (.int (3 : Int32))) [(.ref a1), (.int (3 : Int32))])) (fun t kt => ?_) ?_
      · refine XS.icmpNo Xh440.here hx rfl (hb hby d9_78) rfl (teq hc441).2 ?_
        show Steps p.tables e below (T438.setTop (fr_of4 m a1 81 (.val (.int (0 : Int32))) (.val (.int (2 : Int32))) [])) t
        refine XS.iloadN Xh440.here hx rfl (hb hby d9_81) rfl ?_
        show Steps p.tables e below (T438.setTop (fr_of4 m a1 82 (.val (.int (0 : Int32))) (.val (.int (2 : Int32))) [(.int (2 : Int32))])) t
        refine XS.iloadN Xh440.here hx rfl (hb hby d9_82) rfl ?_
        show Steps p.tables e below (T438.setTop (fr_of4 m a1 83 (.val (.int (0 : Int32))) (.val (.int (2 : Int32))) [(.int (0 : Int32)), (.int (2 : Int32))])) t
        refine XS.icmpYes Xh440.here hx rfl (pc0 := 83) (pc' := 97) rfl (hb hby d9_83) rfl (feq ((by decide) : ¬ ((2 : Int32) = (0 : Int32)))).2 (by decide) (by decide) ?_
        show Steps p.tables e below (T438.setTop (fr_of4 m a1 97 (.val (.int (0 : Int32))) (.val (.int (2 : Int32))) [])) t
        refine XS.iloadN Xh440.here hx rfl (hb hby d9_97) rfl ?_
        show Steps p.tables e below (T438.setTop (fr_of4 m a1 98 (.val (.int (0 : Int32))) (.val (.int (2 : Int32))) [(.int (2 : Int32))])) t
        refine XS.iconst Xh440.here hx rfl (hb hby d9_98) ?_
        show Steps p.tables e below (T438.setTop (fr_of4 m a1 99 (.val (.int (0 : Int32))) (.val (.int (2 : Int32))) [(.int (1 : Int32)), (.int (2 : Int32))])) t
        refine XS.iadd Xh440.here hx rfl (hb hby d9_99) rfl ?_
        show Steps p.tables e below (T438.setTop (fr_of4 m a1 100 (.val (.int (0 : Int32))) (.val (.int (2 : Int32))) [(.int (3 : Int32))])) t
        refine XS.istoreN Xh440.here hx rfl (hb hby d9_100) rfl (l' := #[.val (.ref a1), .val (.int (3 : Int32)), .val (.int (2 : Int32))]) rfl ?_
        show Steps p.tables e below (T438.setTop (fr_of4 m a1 101 (.val (.int (3 : Int32))) (.val (.int (2 : Int32))) [])) t
        refine XS.goto Xh440.here hx rfl (pc0 := 101) (pc' := 147) rfl (hb hby d9_101) (by decide) (by decide) ?_
        show Steps p.tables e below (T438.setTop (fr_of4 m a1 147 (.val (.int (3 : Int32))) (.val (.int (2 : Int32))) [])) t
        refine XS.iinc Xh440.here hx rfl (hb hby d9_147) rfl (l' := #[.val (.ref a1), .val (.int (3 : Int32)), .val (.int (3 : Int32))]) rfl ?_
        show Steps p.tables e below (T438.setTop (fr_of4 m a1 150 (.val (.int (3 : Int32))) (.val (.int (3 : Int32))) [])) t
        refine XS.goto Xh440.here hx rfl (pc0 := 150) (pc' := 55) rfl (hb hby d9_150) (by decide) (by decide) ?_
        show Steps p.tables e below (T438.setTop (fr_of4 m a1 55 (.val (.int (3 : Int32))) (.val (.int (3 : Int32))) [])) t
        refine XS.iloadN Xh440.here hx rfl (hb hby d9_55) rfl ?_
        show Steps p.tables e below (T438.setTop (fr_of4 m a1 56 (.val (.int (3 : Int32))) (.val (.int (3 : Int32))) [(.int (3 : Int32))])) t
        refine XS.aloadN Xh440.here hx rfl (hb hby d9_56) rfl rfl ?_
        exact kt
      obtain ⟨cq442, kq442, q442a, q442b, q442c⟩ := isOf hZ323 Eq438 f331
      obtain ⟨vv442, _, ⟨T442, L442, k442, n442⟩, -, X442, ⟨Lc442, hQ442, l442, y442, z442⟩, st442⟩ := Xh440.virtualBack hx (y := (⟨"java/lang/String", "length", "()I"⟩ : MethodName)) (z := (⟨"java/lang/String", "length", "()I"⟩ : MethodName)) hown323 (mvT hZ323 (Wd54 hw)) (mvT hZ323 (Wd55 hw)) (notFace_of_selects (args := #[]) (mvT hZ323 (Wd57 hw))) (mvT hZ323 (Wd57 hw)) (mvT hZ323 (Wd56 hw)) (by decide) (StrChars.Road.lenW (W := 1) hZ323 hln (kI := 4) (Wd9 hw) f331 f332 f333 f334 hcd330 hbd330 (O2.ext f338.2) P5 (Nat.le_of_ble_eq_true rfl) (by decide) (by decide)) q442a q442c (g := (fr_of4 m a1 57 (.val (.int (3 : Int32))) (.val (.int (3 : Int32))) [(.ref a1), (.int (3 : Int32))])) rfl (by rw [hml]; rfl) (Steps.refl _) (argsL := []) (rest := [(.int (3 : Int32))]) (lenOf pd_62 rfl) rfl (by show 2 * 0 + _ ≤ _; exact Nat.le_of_eq rfl) (hb hby d9_57) (fun _ _ => ⟨rfl, Eq438, (by decide : 2 + 0 ≤ _), (by decide : 76 + 0 ≤ _)⟩)
      dsimp only [Pt.U, Pt.locs, Pt.cells, Pt.slots] at X442 l442 y442 z442 st442 hQ442
      subst l442 y442 z442
      obtain ⟨rfl, rfl, Eq442⟩ := hQ442
      have Nq442 : Fr n0 ([] : List Loc) := Fr.nil n0
      have N443 := Fr.app Nh440 Nq442
      obtain ⟨Lh444, Xh444, Nh444⟩ := own_hide (cells' := 2) (slots' := 76) X442 N443 (Nat.le_of_ble_eq_true rfl) (Nat.le_of_ble_eq_true rfl)
      refine ownSt st442 ?_
      clear st442
      show ownG p.tables e below _ (T442.setTop (fr_of4 m a1 60 (.val (.int (3 : Int32))) (.val (.int (3 : Int32))) [(.int (4 : Int32)), (.int (3 : Int32))]))
      refine ownBy (A := T442.setTop (fr_of4 m a1 65 (.val (.int (3 : Int32))) (.val (.int (3 : Int32))) [(.ref a1), (.int (3 : Int32))])) (fun t kt => ?_) ?_
      · refine XS.icmpNo Xh444.here hx rfl (hb hby d9_60) rfl (flt ((by decide) : ¬ ((4 : Int32) < (3 : Int32)))).2.2.1 ?_
        show Steps p.tables e below (T442.setTop (fr_of4 m a1 63 (.val (.int (3 : Int32))) (.val (.int (3 : Int32))) [])) t
        refine XS.iloadN Xh444.here hx rfl (hb hby d9_63) rfl ?_
        show Steps p.tables e below (T442.setTop (fr_of4 m a1 64 (.val (.int (3 : Int32))) (.val (.int (3 : Int32))) [(.int (3 : Int32))])) t
        refine XS.aloadN Xh444.here hx rfl (hb hby d9_64) rfl rfl ?_
        exact kt
      obtain ⟨cq445, kq445, q445a, q445b, q445c⟩ := isOf hZ323 Eq442 f331
      obtain ⟨vv445, _, ⟨T445, L445, k445, n445⟩, -, X445, ⟨Lc445, hQ445, l445, y445, z445⟩, st445⟩ := Xh444.virtualBack hx (y := (⟨"java/lang/String", "length", "()I"⟩ : MethodName)) (z := (⟨"java/lang/String", "length", "()I"⟩ : MethodName)) hown323 (mvT hZ323 (Wd54 hw)) (mvT hZ323 (Wd55 hw)) (notFace_of_selects (args := #[]) (mvT hZ323 (Wd57 hw))) (mvT hZ323 (Wd57 hw)) (mvT hZ323 (Wd56 hw)) (by decide) (StrChars.Road.lenW (W := 1) hZ323 hln (kI := 4) (Wd9 hw) f331 f332 f333 f334 hcd330 hbd330 (O2.ext f338.2) P5 (Nat.le_of_ble_eq_true rfl) (by decide) (by decide)) q445a q445c (g := (fr_of4 m a1 65 (.val (.int (3 : Int32))) (.val (.int (3 : Int32))) [(.ref a1), (.int (3 : Int32))])) rfl (by rw [hml]; rfl) (Steps.refl _) (argsL := []) (rest := [(.int (3 : Int32))]) (lenOf pd_62 rfl) rfl (by show 2 * 0 + _ ≤ _; exact Nat.le_of_eq rfl) (hb hby d9_65) (fun _ _ => ⟨rfl, Eq442, (by decide : 2 + 0 ≤ _), (by decide : 76 + 0 ≤ _)⟩)
      dsimp only [Pt.U, Pt.locs, Pt.cells, Pt.slots] at X445 l445 y445 z445 st445 hQ445
      subst l445 y445 z445
      obtain ⟨rfl, rfl, Eq445⟩ := hQ445
      have Nq445 : Fr n0 ([] : List Loc) := Fr.nil n0
      have N446 := Fr.app Nh444 Nq445
      obtain ⟨Lh447, Xh447, Nh447⟩ := own_hide (cells' := 2) (slots' := 76) X445 N446 (Nat.le_of_ble_eq_true rfl) (Nat.le_of_ble_eq_true rfl)
      refine ownSt st445 ?_
      clear st445
      show ownG p.tables e below _ (T445.setTop (fr_of4 m a1 68 (.val (.int (3 : Int32))) (.val (.int (3 : Int32))) [(.int (4 : Int32)), (.int (3 : Int32))]))
      refine ownBy (A := T445.setTop (fr_of4 m a1 73 (.val (.int (3 : Int32))) (.val (.int (3 : Int32))) [(.int (3 : Int32)), (.ref a1)])) (fun t kt => ?_) ?_
      · refine XS.icmpNo Xh447.here hx rfl (hb hby d9_68) rfl (feq ((by decide) : ¬ ((3 : Int32) = (4 : Int32)))).1 ?_
        show Steps p.tables e below (T445.setTop (fr_of4 m a1 71 (.val (.int (3 : Int32))) (.val (.int (3 : Int32))) [])) t
        refine XS.aloadN Xh447.here hx rfl (hb hby d9_71) rfl rfl ?_
        show Steps p.tables e below (T445.setTop (fr_of4 m a1 72 (.val (.int (3 : Int32))) (.val (.int (3 : Int32))) [(.ref a1)])) t
        refine XS.iloadN Xh447.here hx rfl (hb hby d9_72) rfl ?_
        exact kt
      obtain ⟨cq448, kq448, q448a, q448b, q448c⟩ := isOf hZ323 Eq445 f331
      obtain ⟨vv448, _, ⟨T448, L448, k448, n448⟩, -, X448, ⟨Lc448, hQ448, l448, y448, z448⟩, st448⟩ := Xh447.virtualBack hx (y := (⟨"java/lang/String", "charAt", "(I)C"⟩ : MethodName)) (z := (⟨"java/lang/String", "charAt", "(I)C"⟩ : MethodName)) hown323 (mvT hZ323 (Wd64 hw)) (mvT hZ323 (Wd65 hw)) (notFace_of_selects (args := #[]) (mvT hZ323 (Wd67 hw))) (mvT hZ323 (Wd67 hw)) (mvT hZ323 (Wd66 hw)) (by decide) (StrChars.Road.chN (W := 0) hZ323 hch (kI := 4) (Wd9 hw) f331 f332 f333 f334 hcd330 hbd330 (O2.ext f338.2) P5 (O4.ext f338.2) rG3 (Nat.le_of_ble_eq_true rfl) (i := 3) (Nat.le_of_ble_eq_true rfl) (j := (3 : Int32)) rfl (by decide) (by decide)) q448a q448c (g := (fr_of4 m a1 73 (.val (.int (3 : Int32))) (.val (.int (3 : Int32))) [(.int (3 : Int32)), (.ref a1)])) rfl (by rw [hml]; rfl) (Steps.refl _) (argsL := [(.int (3 : Int32))]) (rest := []) (lenOf pd_8 rfl) rfl (by show 2 * 0 + _ ≤ _; exact Nat.le_of_eq rfl) (hb hby d9_73) (fun _ _ => ⟨rfl, Eq445, (by decide : 2 + 0 ≤ _), (by decide : 76 + 0 ≤ _)⟩)
      dsimp only [Pt.U, Pt.locs, Pt.cells, Pt.slots] at X448 l448 y448 z448 st448 hQ448
      subst l448 y448 z448
      obtain ⟨rfl, rfl, Eq448⟩ := hQ448
      have Nq448 : Fr n0 ([] : List Loc) := Fr.nil n0
      have N449 := Fr.app Nh447 Nq448
      obtain ⟨Lh450, Xh450, Nh450⟩ := own_hide (cells' := 2) (slots' := 76) X448 N449 (Nat.le_of_ble_eq_true rfl) (Nat.le_of_ble_eq_true rfl)
      refine ownSt st448 ?_
      clear st448
      show ownG p.tables e below _ (T448.setTop (fr_of4 m a1 76 (.val (.int (3 : Int32))) (.val (.int (3 : Int32))) [(.int c3)]))
      refine ownBy (A := T448.setTop (fr_of4 m a1 106 (.val (.int (3 : Int32))) (.val (.int (3 : Int32))) [(.int (3 : Int32)), (.ref a1)])) (fun t kt => ?_) ?_
      · refine XS.bipush Xh450.here hx rfl (hb hby d9_76) ?_
        show Steps p.tables e below (T448.setTop (fr_of4 m a1 78 (.val (.int (3 : Int32))) (.val (.int (3 : Int32))) [(.int (46 : Int32)), (.int c3)])) t
        refine XS.icmpYes Xh450.here hx rfl (pc0 := 78) (pc' := 104) rfl (hb hby d9_78) rfl (feq hnl).2 (by decide) (by decide) ?_
        show Steps p.tables e below (T448.setTop (fr_of4 m a1 104 (.val (.int (3 : Int32))) (.val (.int (3 : Int32))) [])) t
        refine XS.aloadN Xh450.here hx rfl (hb hby d9_104) rfl rfl ?_
        show Steps p.tables e below (T448.setTop (fr_of4 m a1 105 (.val (.int (3 : Int32))) (.val (.int (3 : Int32))) [(.ref a1)])) t
        refine XS.iloadN Xh450.here hx rfl (hb hby d9_105) rfl ?_
        exact kt
      obtain ⟨cq451, kq451, q451a, q451b, q451c⟩ := isOf hZ323 Eq448 f331
      obtain ⟨vv451, _, ⟨T451, L451, k451, n451⟩, -, X451, ⟨Lc451, hQ451, l451, y451, z451⟩, st451⟩ := Xh450.virtualBack hx (y := (⟨"java/lang/String", "charAt", "(I)C"⟩ : MethodName)) (z := (⟨"java/lang/String", "charAt", "(I)C"⟩ : MethodName)) hown323 (mvT hZ323 (Wd64 hw)) (mvT hZ323 (Wd65 hw)) (notFace_of_selects (args := #[]) (mvT hZ323 (Wd67 hw))) (mvT hZ323 (Wd67 hw)) (mvT hZ323 (Wd66 hw)) (by decide) (StrChars.Road.chN (W := 0) hZ323 hch (kI := 4) (Wd9 hw) f331 f332 f333 f334 hcd330 hbd330 (O2.ext f338.2) P5 (O4.ext f338.2) rG3 (Nat.le_of_ble_eq_true rfl) (i := 3) (Nat.le_of_ble_eq_true rfl) (j := (3 : Int32)) rfl (by decide) (by decide)) q451a q451c (g := (fr_of4 m a1 106 (.val (.int (3 : Int32))) (.val (.int (3 : Int32))) [(.int (3 : Int32)), (.ref a1)])) rfl (by rw [hml]; rfl) (Steps.refl _) (argsL := [(.int (3 : Int32))]) (rest := []) (lenOf pd_8 rfl) rfl (by show 2 * 0 + _ ≤ _; exact Nat.le_of_eq rfl) (hb hby d9_106) (fun _ _ => ⟨rfl, Eq448, (by decide : 2 + 0 ≤ _), (by decide : 76 + 0 ≤ _)⟩)
      dsimp only [Pt.U, Pt.locs, Pt.cells, Pt.slots] at X451 l451 y451 z451 st451 hQ451
      subst l451 y451 z451
      obtain ⟨rfl, rfl, Eq451⟩ := hQ451
      have Nq451 : Fr n0 ([] : List Loc) := Fr.nil n0
      have N452 := Fr.app Nh450 Nq451
      obtain ⟨Lh453, Xh453, Nh453⟩ := own_hide (cells' := 2) (slots' := 76) X451 N452 (Nat.le_of_ble_eq_true rfl) (Nat.le_of_ble_eq_true rfl)
      refine ownSt st451 ?_
      clear st451
      show ownG p.tables e below _ (T451.setTop (fr_of4 m a1 109 (.val (.int (3 : Int32))) (.val (.int (3 : Int32))) [(.int c3)]))
      obtain ⟨vv454, _, ⟨T454, L454, k454, n454⟩, -, X454, ⟨Lc454, hQ454, l454, y454, z454⟩, st454⟩ := Jvm.LawKit.callS Xh453 hx (y := (⟨"com/example/boring_outbox/boringoutbox/EventType", "isIdentifierCharacter", "(C)Z"⟩ : MethodName)) hown323 (mvT hZ323 (Wd86 hw)) (mvT hZ323 (Wd87 hw)) (mvT hZ323 (Wd40 hw)) (mvT hZ323 (Wd88 hw)) (by decide) (backOf (W := 0) (c_isi l Z a0 hw [] c3 h323 n0 f326 (hi3.resolve_left hnl)) hZ323 (Wd88 hw) (Wd40 hw) (by decide) (by decide)) (g := (fr_of4 m a1 109 (.val (.int (3 : Int32))) (.val (.int (3 : Int32))) [(.int c3)])) rfl (by rw [hml]; rfl) (argsL := [(.int c3)]) (rest := []) (lenOf pd_78 rfl) rfl (by show 2 * 0 + _ ≤ _; exact Nat.le_of_eq rfl) (hb hby d9_109) (fun _ _ => ⟨rfl, Eq451, (by decide : 2 + 0 ≤ _), (by decide : 76 + 0 ≤ _)⟩)
      dsimp only [Pt.U, Pt.locs, Pt.cells, Pt.slots] at X454 l454 y454 z454 st454 hQ454
      subst l454 y454 z454
      obtain ⟨rfl, Nq454, Eq454⟩ := hQ454
      have N455 := Fr.app Nh453 Nq454
      obtain ⟨Lh456, Xh456, Nh456⟩ := own_hide (cells' := 2) (slots' := 76) X454 N455 (Nat.le_of_ble_eq_true rfl) (Nat.le_of_ble_eq_true rfl)
      refine ownBy st454 ?_
      clear st454
      show ownG p.tables e below _ (T454.setTop (fr_of4 m a1 112 (.val (.int (3 : Int32))) (.val (.int (3 : Int32))) [(.int (1 : Int32))]))
      refine ownBy (A := T454.setTop (fr_of4 m a1 57 (.val (.int (3 : Int32))) (.val (.int (4 : Int32))) [(.ref a1), (.int (4 : Int32))])) (fun t kt => ?_) ?_
      · refine XS.ifYes Xh456.here hx rfl (pc0 := 112) (pc' := 147) rfl (hb hby d9_112) rfl ((if0 _ _).trans (feq ((by decide) : ¬ ((1 : Int32) = (0 : Int32)))).2) (by decide) (by decide) ?_
        show Steps p.tables e below (T454.setTop (fr_of4 m a1 147 (.val (.int (3 : Int32))) (.val (.int (3 : Int32))) [])) t
        refine XS.iinc Xh456.here hx rfl (hb hby d9_147) rfl (l' := #[.val (.ref a1), .val (.int (3 : Int32)), .val (.int (4 : Int32))]) rfl ?_
        show Steps p.tables e below (T454.setTop (fr_of4 m a1 150 (.val (.int (3 : Int32))) (.val (.int (4 : Int32))) [])) t
        refine XS.goto Xh456.here hx rfl (pc0 := 150) (pc' := 55) rfl (hb hby d9_150) (by decide) (by decide) ?_
        show Steps p.tables e below (T454.setTop (fr_of4 m a1 55 (.val (.int (3 : Int32))) (.val (.int (4 : Int32))) [])) t
        refine XS.iloadN Xh456.here hx rfl (hb hby d9_55) rfl ?_
        show Steps p.tables e below (T454.setTop (fr_of4 m a1 56 (.val (.int (3 : Int32))) (.val (.int (4 : Int32))) [(.int (4 : Int32))])) t
        refine XS.aloadN Xh456.here hx rfl (hb hby d9_56) rfl rfl ?_
        exact kt
      obtain ⟨cq457, kq457, q457a, q457b, q457c⟩ := isOf hZ323 Eq454 f331
      obtain ⟨vv457, _, ⟨T457, L457, k457, n457⟩, -, X457, ⟨Lc457, hQ457, l457, y457, z457⟩, st457⟩ := Xh456.virtualBack hx (y := (⟨"java/lang/String", "length", "()I"⟩ : MethodName)) (z := (⟨"java/lang/String", "length", "()I"⟩ : MethodName)) hown323 (mvT hZ323 (Wd54 hw)) (mvT hZ323 (Wd55 hw)) (notFace_of_selects (args := #[]) (mvT hZ323 (Wd57 hw))) (mvT hZ323 (Wd57 hw)) (mvT hZ323 (Wd56 hw)) (by decide) (StrChars.Road.lenW (W := 1) hZ323 hln (kI := 4) (Wd9 hw) f331 f332 f333 f334 hcd330 hbd330 (O2.ext f338.2) P5 (Nat.le_of_ble_eq_true rfl) (by decide) (by decide)) q457a q457c (g := (fr_of4 m a1 57 (.val (.int (3 : Int32))) (.val (.int (4 : Int32))) [(.ref a1), (.int (4 : Int32))])) rfl (by rw [hml]; rfl) (Steps.refl _) (argsL := []) (rest := [(.int (4 : Int32))]) (lenOf pd_62 rfl) rfl (by show 2 * 0 + _ ≤ _; exact Nat.le_of_eq rfl) (hb hby d9_57) (fun _ _ => ⟨rfl, Eq454, (by decide : 2 + 0 ≤ _), (by decide : 76 + 0 ≤ _)⟩)
      dsimp only [Pt.U, Pt.locs, Pt.cells, Pt.slots] at X457 l457 y457 z457 st457 hQ457
      subst l457 y457 z457
      obtain ⟨rfl, rfl, Eq457⟩ := hQ457
      have Nq457 : Fr n0 ([] : List Loc) := Fr.nil n0
      have N458 := Fr.app Nh456 Nq457
      obtain ⟨Lh459, Xh459, Nh459⟩ := own_hide (cells' := 2) (slots' := 76) X457 N458 (Nat.le_of_ble_eq_true rfl) (Nat.le_of_ble_eq_true rfl)
      refine ownSt st457 ?_
      clear st457
      show ownG p.tables e below _ (T457.setTop (fr_of4 m a1 60 (.val (.int (3 : Int32))) (.val (.int (4 : Int32))) [(.int (4 : Int32)), (.int (4 : Int32))]))
      refine ownBy (A := T457.setTop (fr_of4 m a1 65 (.val (.int (3 : Int32))) (.val (.int (4 : Int32))) [(.ref a1), (.int (4 : Int32))])) (fun t kt => ?_) ?_
      · refine XS.icmpNo Xh459.here hx rfl (hb hby d9_60) rfl (flt ((by decide) : ¬ ((4 : Int32) < (4 : Int32)))).2.2.1 ?_
        show Steps p.tables e below (T457.setTop (fr_of4 m a1 63 (.val (.int (3 : Int32))) (.val (.int (4 : Int32))) [])) t
        refine XS.iloadN Xh459.here hx rfl (hb hby d9_63) rfl ?_
        show Steps p.tables e below (T457.setTop (fr_of4 m a1 64 (.val (.int (3 : Int32))) (.val (.int (4 : Int32))) [(.int (4 : Int32))])) t
        refine XS.aloadN Xh459.here hx rfl (hb hby d9_64) rfl rfl ?_
        exact kt
      obtain ⟨cq460, kq460, q460a, q460b, q460c⟩ := isOf hZ323 Eq457 f331
      obtain ⟨vv460, _, ⟨T460, L460, k460, n460⟩, -, X460, ⟨Lc460, hQ460, l460, y460, z460⟩, st460⟩ := Xh459.virtualBack hx (y := (⟨"java/lang/String", "length", "()I"⟩ : MethodName)) (z := (⟨"java/lang/String", "length", "()I"⟩ : MethodName)) hown323 (mvT hZ323 (Wd54 hw)) (mvT hZ323 (Wd55 hw)) (notFace_of_selects (args := #[]) (mvT hZ323 (Wd57 hw))) (mvT hZ323 (Wd57 hw)) (mvT hZ323 (Wd56 hw)) (by decide) (StrChars.Road.lenW (W := 1) hZ323 hln (kI := 4) (Wd9 hw) f331 f332 f333 f334 hcd330 hbd330 (O2.ext f338.2) P5 (Nat.le_of_ble_eq_true rfl) (by decide) (by decide)) q460a q460c (g := (fr_of4 m a1 65 (.val (.int (3 : Int32))) (.val (.int (4 : Int32))) [(.ref a1), (.int (4 : Int32))])) rfl (by rw [hml]; rfl) (Steps.refl _) (argsL := []) (rest := [(.int (4 : Int32))]) (lenOf pd_62 rfl) rfl (by show 2 * 0 + _ ≤ _; exact Nat.le_of_eq rfl) (hb hby d9_65) (fun _ _ => ⟨rfl, Eq457, (by decide : 2 + 0 ≤ _), (by decide : 76 + 0 ≤ _)⟩)
      dsimp only [Pt.U, Pt.locs, Pt.cells, Pt.slots] at X460 l460 y460 z460 st460 hQ460
      subst l460 y460 z460
      obtain ⟨rfl, rfl, Eq460⟩ := hQ460
      have Nq460 : Fr n0 ([] : List Loc) := Fr.nil n0
      have N461 := Fr.app Nh459 Nq460
      obtain ⟨Lh462, Xh462, Nh462⟩ := own_hide (cells' := 2) (slots' := 76) X460 N461 (Nat.le_of_ble_eq_true rfl) (Nat.le_of_ble_eq_true rfl)
      refine ownSt st460 ?_
      clear st460
      show ownG p.tables e below _ (T460.setTop (fr_of4 m a1 68 (.val (.int (3 : Int32))) (.val (.int (4 : Int32))) [(.int (4 : Int32)), (.int (4 : Int32))]))
      refine ownBy (A := T460.setTop (fr_of4 m a1 57 (.val (.int (5 : Int32))) (.val (.int (5 : Int32))) [(.ref a1), (.int (5 : Int32))])) (fun t kt => ?_) ?_
      · refine XS.icmpYes Xh462.here hx rfl (pc0 := 68) (pc' := 81) rfl (hb hby d9_68) rfl (teq ((by decide) : (4 : Int32) = (4 : Int32))).1 (by decide) (by decide) ?_
        show Steps p.tables e below (T460.setTop (fr_of4 m a1 81 (.val (.int (3 : Int32))) (.val (.int (4 : Int32))) [])) t
        refine XS.iloadN Xh462.here hx rfl (hb hby d9_81) rfl ?_
        show Steps p.tables e below (T460.setTop (fr_of4 m a1 82 (.val (.int (3 : Int32))) (.val (.int (4 : Int32))) [(.int (4 : Int32))])) t
        refine XS.iloadN Xh462.here hx rfl (hb hby d9_82) rfl ?_
        show Steps p.tables e below (T460.setTop (fr_of4 m a1 83 (.val (.int (3 : Int32))) (.val (.int (4 : Int32))) [(.int (3 : Int32)), (.int (4 : Int32))])) t
        refine XS.icmpYes Xh462.here hx rfl (pc0 := 83) (pc' := 97) rfl (hb hby d9_83) rfl (feq ((by decide) : ¬ ((4 : Int32) = (3 : Int32)))).2 (by decide) (by decide) ?_
        show Steps p.tables e below (T460.setTop (fr_of4 m a1 97 (.val (.int (3 : Int32))) (.val (.int (4 : Int32))) [])) t
        refine XS.iloadN Xh462.here hx rfl (hb hby d9_97) rfl ?_
        show Steps p.tables e below (T460.setTop (fr_of4 m a1 98 (.val (.int (3 : Int32))) (.val (.int (4 : Int32))) [(.int (4 : Int32))])) t
        refine XS.iconst Xh462.here hx rfl (hb hby d9_98) ?_
        show Steps p.tables e below (T460.setTop (fr_of4 m a1 99 (.val (.int (3 : Int32))) (.val (.int (4 : Int32))) [(.int (1 : Int32)), (.int (4 : Int32))])) t
        refine XS.iadd Xh462.here hx rfl (hb hby d9_99) rfl ?_
        show Steps p.tables e below (T460.setTop (fr_of4 m a1 100 (.val (.int (3 : Int32))) (.val (.int (4 : Int32))) [(.int (5 : Int32))])) t
        refine XS.istoreN Xh462.here hx rfl (hb hby d9_100) rfl (l' := #[.val (.ref a1), .val (.int (5 : Int32)), .val (.int (4 : Int32))]) rfl ?_
        show Steps p.tables e below (T460.setTop (fr_of4 m a1 101 (.val (.int (5 : Int32))) (.val (.int (4 : Int32))) [])) t
        refine XS.goto Xh462.here hx rfl (pc0 := 101) (pc' := 147) rfl (hb hby d9_101) (by decide) (by decide) ?_
        show Steps p.tables e below (T460.setTop (fr_of4 m a1 147 (.val (.int (5 : Int32))) (.val (.int (4 : Int32))) [])) t
        refine XS.iinc Xh462.here hx rfl (hb hby d9_147) rfl (l' := #[.val (.ref a1), .val (.int (5 : Int32)), .val (.int (5 : Int32))]) rfl ?_
        show Steps p.tables e below (T460.setTop (fr_of4 m a1 150 (.val (.int (5 : Int32))) (.val (.int (5 : Int32))) [])) t
        refine XS.goto Xh462.here hx rfl (pc0 := 150) (pc' := 55) rfl (hb hby d9_150) (by decide) (by decide) ?_
        show Steps p.tables e below (T460.setTop (fr_of4 m a1 55 (.val (.int (5 : Int32))) (.val (.int (5 : Int32))) [])) t
        refine XS.iloadN Xh462.here hx rfl (hb hby d9_55) rfl ?_
        show Steps p.tables e below (T460.setTop (fr_of4 m a1 56 (.val (.int (5 : Int32))) (.val (.int (5 : Int32))) [(.int (5 : Int32))])) t
        refine XS.aloadN Xh462.here hx rfl (hb hby d9_56) rfl rfl ?_
        exact kt
      obtain ⟨cq463, kq463, q463a, q463b, q463c⟩ := isOf hZ323 Eq460 f331
      obtain ⟨vv463, _, ⟨T463, L463, k463, n463⟩, -, X463, ⟨Lc463, hQ463, l463, y463, z463⟩, st463⟩ := Xh462.virtualBack hx (y := (⟨"java/lang/String", "length", "()I"⟩ : MethodName)) (z := (⟨"java/lang/String", "length", "()I"⟩ : MethodName)) hown323 (mvT hZ323 (Wd54 hw)) (mvT hZ323 (Wd55 hw)) (notFace_of_selects (args := #[]) (mvT hZ323 (Wd57 hw))) (mvT hZ323 (Wd57 hw)) (mvT hZ323 (Wd56 hw)) (by decide) (StrChars.Road.lenW (W := 1) hZ323 hln (kI := 4) (Wd9 hw) f331 f332 f333 f334 hcd330 hbd330 (O2.ext f338.2) P5 (Nat.le_of_ble_eq_true rfl) (by decide) (by decide)) q463a q463c (g := (fr_of4 m a1 57 (.val (.int (5 : Int32))) (.val (.int (5 : Int32))) [(.ref a1), (.int (5 : Int32))])) rfl (by rw [hml]; rfl) (Steps.refl _) (argsL := []) (rest := [(.int (5 : Int32))]) (lenOf pd_62 rfl) rfl (by show 2 * 0 + _ ≤ _; exact Nat.le_of_eq rfl) (hb hby d9_57) (fun _ _ => ⟨rfl, Eq460, (by decide : 2 + 0 ≤ _), (by decide : 76 + 0 ≤ _)⟩)
      dsimp only [Pt.U, Pt.locs, Pt.cells, Pt.slots] at X463 l463 y463 z463 st463 hQ463
      subst l463 y463 z463
      obtain ⟨rfl, rfl, Eq463⟩ := hQ463
      have Nq463 : Fr n0 ([] : List Loc) := Fr.nil n0
      have N464 := Fr.app Nh462 Nq463
      obtain ⟨Lh465, Xh465, Nh465⟩ := own_hide (cells' := 2) (slots' := 76) X463 N464 (Nat.le_of_ble_eq_true rfl) (Nat.le_of_ble_eq_true rfl)
      refine ownSt st463 ?_
      clear st463
      show ownG p.tables e below _ (T463.setTop (fr_of4 m a1 60 (.val (.int (5 : Int32))) (.val (.int (5 : Int32))) [(.int (4 : Int32)), (.int (5 : Int32))]))
      refine ownBy (A := T463.setTop (fr_of4 m a1 153 (.val (.int (5 : Int32))) (.val (.int (5 : Int32))) [])) (fun t kt => ?_) ?_
      · refine XS.icmpYes Xh465.here hx rfl (pc0 := 60) (pc' := 153) rfl (hb hby d9_60) rfl (tlt ((by decide) : (4 : Int32) < (5 : Int32))).2.2.1 (by decide) (by decide) ?_
        exact kt
      obtain ⟨T466, h466, X466, e466, E466, A466, D466, -, st466⟩ := newO Xh465 hx hZ323 hown323 (Wd89 hw) (Wd90 hw) (Wd40 hw) Eq463 (g := (fr_of4 m a1 153 (.val (.int (5 : Int32))) (.val (.int (5 : Int32))) [])) rfl (hb hby d9_153) (by decide) (by decide)
      obtain ⟨b466, g466⟩ : ∃ z, z = h323.size := ⟨_, rfl⟩
      rw [← g466] at A466 D466 st466
      have ne467 : a1 ≠ b466 := Nat.ne_of_lt (Nat.lt_of_lt_of_le f331.lt (Nat.le_of_eq g466.symm))
      have ne468 : t1 ≠ b466 := Nat.ne_of_lt (Nat.lt_of_lt_of_le f334.lt (Nat.le_of_eq g466.symm))
      have g469 : n0 ≤ b466 := Nat.le_trans f326 (Nat.le_of_eq g466.symm)
      have sf470 : Safe Z ownEL T323.vm h323 b466 := Safe.new (Nat.le_of_eq g466.symm)
      have f472 := ((Keep.refl h0 []).ext E323)
      have z471 : h0.size ≤ b466 := Nat.le_trans f472.1 (Nat.le_of_eq g466.symm)
      have R473 := R325.trans (CHr.ext E466 R325.1)
      have sf474 := Safe.ext E466 R325.1 sf470
      have F475 : Fld Z h466 b466 "com/example/boring_outbox/boringoutbox/EventType" "name" "Ljava/lang/String;" .null := D466 (Or.inr (Wd96 hw)) (ty := (.object "java/lang/String")) (by decide)
      refine ownBy st466 ?_
      clear st466
      show ownG p.tables e below _ (T466.setTop (fr_of4 m a1 156 (.val (.int (5 : Int32))) (.val (.int (5 : Int32))) [(.ref b466)]))
      refine ownBy (A := T466.setTop (fr_of4 m a1 158 (.val (.int (5 : Int32))) (.val (.int (5 : Int32))) [(.ref a1), (.ref b466), (.ref b466)])) (fun t kt => ?_) ?_
      · refine XS.dup X466.here hx rfl (hb hby d9_156) rfl rfl ?_
        show Steps p.tables e below (T466.setTop (fr_of4 m a1 157 (.val (.int (5 : Int32))) (.val (.int (5 : Int32))) [(.ref b466), (.ref b466)])) t
        refine XS.aloadN X466.here hx rfl (hb hby d9_157) rfl rfl ?_
        exact kt
      have f476 := (Nat.le_trans f326 E466.1)
      obtain ⟨vv477, _, ⟨T477, L477, k477, n477⟩, -, X477, ⟨Lc477, hQ477, l477, y477, z477⟩, st477⟩ := X466.specialBack hx (y := (⟨"com/example/boring_outbox/boringoutbox/EventType", "<init>", "(Ljava/lang/String;)V"⟩ : MethodName)) rfl hown323 (mvT hZ323 (Wd91 hw)) (mvT hZ323 (Wd92 hw)) (mvT hZ323 (Wd93 hw)) (by decide) (backOf (W := 1) (c_ein l Z a0 hw [] b466 a1 _ h466 n0 f476 A466 F475 g469) hZ323 (Wd93 hw) (Wd40 hw) (by decide) (by decide)) (g := (fr_of4 m a1 158 (.val (.int (5 : Int32))) (.val (.int (5 : Int32))) [(.ref a1), (.ref b466), (.ref b466)])) rfl (by rw [hml]; rfl) (Steps.refl _) (a := b466) (argsL := [(.ref a1)]) (rest := [(.ref b466)]) (lenOf pd_102 rfl) rfl (by show 2 * 0 + _ ≤ _; exact Nat.le_of_eq rfl) (hb hby d9_158) (fun _ _ => ⟨rfl, e466, (by decide : 3 + 0 ≤ _), (by decide : 77 + 0 ≤ _)⟩)
      dsimp only [Pt.U, Pt.locs, Pt.cells, Pt.slots] at X477 l477 y477 z477 st477 hQ477
      subst l477 y477 z477
      obtain ⟨rfl, Nq477, Kq477, Fa477⟩ := hQ477
      have N478 := Fr.app Nh465 Nq477
      have R479 := R473.trans (CHr.keep Kq477 (sfS sf474 sf0) R473.1)
      have sf480 := Safe.keep Kq477 (sfS sf474 sf0) R473.1 sf474
      obtain ⟨Lh481, Xh481, Nh481⟩ := own_hide (cells' := 3) (slots' := 77) X477 N478 (Nat.le_of_ble_eq_true rfl) (Nat.le_of_ble_eq_true rfl)
      refine ownSt st477 ?_
      clear st477
      show ownG p.tables e below _ (T477.setTop (fr_of4 m a1 161 (.val (.int (5 : Int32))) (.val (.int (5 : Int32))) [(.ref b466)]))
      have f482 := ((f472.ext E466).trans Kq477 (allS (Or.inr z471) all0))
      have f483 := (A466.keep Kq477)
      refine ownRetH Xh481 hS323 (Nat.le_trans (Nat.le_trans hk323 E466.1) Kq477.1) Bd.notSynchronized (v := some (.ref b466)) (fun h => by rw [Bd.returns] at h; cases h) ?_ (R479.trans (CHv.at Xh481 hZ323 hEL R479.1)) (Nat.le_of_ble_eq_true rfl) (Nat.le_of_ble_eq_true rfl) (fun fs hr => retOut Xh481 hx Bd.returns rfl (Or.inr (Or.inr (Or.inr (Or.inr ⟨rfl, rfl, rfl⟩)))) (hb hby d9_161) hr)
      show (Q_of4 Z a1 t1 kb1 c0 c1 c2 c3 G1 G3 h0 n0) (some (.ref b466)) T477.heap _
      exact ⟨b466, rfl, Nh481, f482, z471, f483, Fa477⟩
    · skip
      refine ownBy (A := T438.setTop (fr_of4 m a1 106 (.val (.int (0 : Int32))) (.val (.int (2 : Int32))) [(.int (2 : Int32)), (.ref a1)])) (fun t kt => ?_) ?_
      · refine XS.icmpYes Xh440.here hx rfl (pc0 := 78) (pc' := 104) rfl (hb hby d9_78) rfl (feq hc441).2 (by decide) (by decide) ?_
        show Steps p.tables e below (T438.setTop (fr_of4 m a1 104 (.val (.int (0 : Int32))) (.val (.int (2 : Int32))) [])) t
        refine XS.aloadN Xh440.here hx rfl (hb hby d9_104) rfl rfl ?_
        show Steps p.tables e below (T438.setTop (fr_of4 m a1 105 (.val (.int (0 : Int32))) (.val (.int (2 : Int32))) [(.ref a1)])) t
        refine XS.iloadN Xh440.here hx rfl (hb hby d9_105) rfl ?_
        exact kt
      obtain ⟨cq485, kq485, q485a, q485b, q485c⟩ := isOf hZ323 Eq438 f331
      obtain ⟨vv485, _, ⟨T485, L485, k485, n485⟩, -, X485, ⟨Lc485, hQ485, l485, y485, z485⟩, st485⟩ := Xh440.virtualBack hx (y := (⟨"java/lang/String", "charAt", "(I)C"⟩ : MethodName)) (z := (⟨"java/lang/String", "charAt", "(I)C"⟩ : MethodName)) hown323 (mvT hZ323 (Wd64 hw)) (mvT hZ323 (Wd65 hw)) (notFace_of_selects (args := #[]) (mvT hZ323 (Wd67 hw))) (mvT hZ323 (Wd67 hw)) (mvT hZ323 (Wd66 hw)) (by decide) (StrChars.Road.chN (W := 0) hZ323 hch (kI := 4) (Wd9 hw) f331 f332 f333 f334 hcd330 hbd330 (O2.ext f338.2) P5 (O4.ext f338.2) rG3 (Nat.le_of_ble_eq_true rfl) (i := 2) (Nat.le_of_ble_eq_true rfl) (j := (2 : Int32)) rfl (by decide) (by decide)) q485a q485c (g := (fr_of4 m a1 106 (.val (.int (0 : Int32))) (.val (.int (2 : Int32))) [(.int (2 : Int32)), (.ref a1)])) rfl (by rw [hml]; rfl) (Steps.refl _) (argsL := [(.int (2 : Int32))]) (rest := []) (lenOf pd_8 rfl) rfl (by show 2 * 0 + _ ≤ _; exact Nat.le_of_eq rfl) (hb hby d9_106) (fun _ _ => ⟨rfl, Eq438, (by decide : 2 + 0 ≤ _), (by decide : 76 + 0 ≤ _)⟩)
      dsimp only [Pt.U, Pt.locs, Pt.cells, Pt.slots] at X485 l485 y485 z485 st485 hQ485
      subst l485 y485 z485
      obtain ⟨rfl, rfl, Eq485⟩ := hQ485
      have Nq485 : Fr n0 ([] : List Loc) := Fr.nil n0
      have N486 := Fr.app Nh440 Nq485
      obtain ⟨Lh487, Xh487, Nh487⟩ := own_hide (cells' := 2) (slots' := 76) X485 N486 (Nat.le_of_ble_eq_true rfl) (Nat.le_of_ble_eq_true rfl)
      refine ownSt st485 ?_
      clear st485
      show ownG p.tables e below _ (T485.setTop (fr_of4 m a1 109 (.val (.int (0 : Int32))) (.val (.int (2 : Int32))) [(.int c2)]))
      obtain ⟨vv488, _, ⟨T488, L488, k488, n488⟩, -, X488, ⟨Lc488, hQ488, l488, y488, z488⟩, st488⟩ := Jvm.LawKit.callS Xh487 hx (y := (⟨"com/example/boring_outbox/boringoutbox/EventType", "isIdentifierCharacter", "(C)Z"⟩ : MethodName)) hown323 (mvT hZ323 (Wd86 hw)) (mvT hZ323 (Wd87 hw)) (mvT hZ323 (Wd40 hw)) (mvT hZ323 (Wd88 hw)) (by decide) (backOf (W := 0) (c_isi l Z a0 hw [] c2 h323 n0 f326 (hi2.resolve_left hc441)) hZ323 (Wd88 hw) (Wd40 hw) (by decide) (by decide)) (g := (fr_of4 m a1 109 (.val (.int (0 : Int32))) (.val (.int (2 : Int32))) [(.int c2)])) rfl (by rw [hml]; rfl) (argsL := [(.int c2)]) (rest := []) (lenOf pd_78 rfl) rfl (by show 2 * 0 + _ ≤ _; exact Nat.le_of_eq rfl) (hb hby d9_109) (fun _ _ => ⟨rfl, Eq485, (by decide : 2 + 0 ≤ _), (by decide : 76 + 0 ≤ _)⟩)
      dsimp only [Pt.U, Pt.locs, Pt.cells, Pt.slots] at X488 l488 y488 z488 st488 hQ488
      subst l488 y488 z488
      obtain ⟨rfl, Nq488, Eq488⟩ := hQ488
      have N489 := Fr.app Nh487 Nq488
      obtain ⟨Lh490, Xh490, Nh490⟩ := own_hide (cells' := 2) (slots' := 76) X488 N489 (Nat.le_of_ble_eq_true rfl) (Nat.le_of_ble_eq_true rfl)
      refine ownBy st488 ?_
      clear st488
      show ownG p.tables e below _ (T488.setTop (fr_of4 m a1 112 (.val (.int (0 : Int32))) (.val (.int (2 : Int32))) [(.int (1 : Int32))]))
      refine ownBy (A := T488.setTop (fr_of4 m a1 57 (.val (.int (0 : Int32))) (.val (.int (3 : Int32))) [(.ref a1), (.int (3 : Int32))])) (fun t kt => ?_) ?_
      · refine XS.ifYes Xh490.here hx rfl (pc0 := 112) (pc' := 147) rfl (hb hby d9_112) rfl ((if0 _ _).trans (feq ((by decide) : ¬ ((1 : Int32) = (0 : Int32)))).2) (by decide) (by decide) ?_
        show Steps p.tables e below (T488.setTop (fr_of4 m a1 147 (.val (.int (0 : Int32))) (.val (.int (2 : Int32))) [])) t
        refine XS.iinc Xh490.here hx rfl (hb hby d9_147) rfl (l' := #[.val (.ref a1), .val (.int (0 : Int32)), .val (.int (3 : Int32))]) rfl ?_
        show Steps p.tables e below (T488.setTop (fr_of4 m a1 150 (.val (.int (0 : Int32))) (.val (.int (3 : Int32))) [])) t
        refine XS.goto Xh490.here hx rfl (pc0 := 150) (pc' := 55) rfl (hb hby d9_150) (by decide) (by decide) ?_
        show Steps p.tables e below (T488.setTop (fr_of4 m a1 55 (.val (.int (0 : Int32))) (.val (.int (3 : Int32))) [])) t
        refine XS.iloadN Xh490.here hx rfl (hb hby d9_55) rfl ?_
        show Steps p.tables e below (T488.setTop (fr_of4 m a1 56 (.val (.int (0 : Int32))) (.val (.int (3 : Int32))) [(.int (3 : Int32))])) t
        refine XS.aloadN Xh490.here hx rfl (hb hby d9_56) rfl rfl ?_
        exact kt
      obtain ⟨cq491, kq491, q491a, q491b, q491c⟩ := isOf hZ323 Eq488 f331
      obtain ⟨vv491, _, ⟨T491, L491, k491, n491⟩, -, X491, ⟨Lc491, hQ491, l491, y491, z491⟩, st491⟩ := Xh490.virtualBack hx (y := (⟨"java/lang/String", "length", "()I"⟩ : MethodName)) (z := (⟨"java/lang/String", "length", "()I"⟩ : MethodName)) hown323 (mvT hZ323 (Wd54 hw)) (mvT hZ323 (Wd55 hw)) (notFace_of_selects (args := #[]) (mvT hZ323 (Wd57 hw))) (mvT hZ323 (Wd57 hw)) (mvT hZ323 (Wd56 hw)) (by decide) (StrChars.Road.lenW (W := 1) hZ323 hln (kI := 4) (Wd9 hw) f331 f332 f333 f334 hcd330 hbd330 (O2.ext f338.2) P5 (Nat.le_of_ble_eq_true rfl) (by decide) (by decide)) q491a q491c (g := (fr_of4 m a1 57 (.val (.int (0 : Int32))) (.val (.int (3 : Int32))) [(.ref a1), (.int (3 : Int32))])) rfl (by rw [hml]; rfl) (Steps.refl _) (argsL := []) (rest := [(.int (3 : Int32))]) (lenOf pd_62 rfl) rfl (by show 2 * 0 + _ ≤ _; exact Nat.le_of_eq rfl) (hb hby d9_57) (fun _ _ => ⟨rfl, Eq488, (by decide : 2 + 0 ≤ _), (by decide : 76 + 0 ≤ _)⟩)
      dsimp only [Pt.U, Pt.locs, Pt.cells, Pt.slots] at X491 l491 y491 z491 st491 hQ491
      subst l491 y491 z491
      obtain ⟨rfl, rfl, Eq491⟩ := hQ491
      have Nq491 : Fr n0 ([] : List Loc) := Fr.nil n0
      have N492 := Fr.app Nh490 Nq491
      obtain ⟨Lh493, Xh493, Nh493⟩ := own_hide (cells' := 2) (slots' := 76) X491 N492 (Nat.le_of_ble_eq_true rfl) (Nat.le_of_ble_eq_true rfl)
      refine ownSt st491 ?_
      clear st491
      show ownG p.tables e below _ (T491.setTop (fr_of4 m a1 60 (.val (.int (0 : Int32))) (.val (.int (3 : Int32))) [(.int (4 : Int32)), (.int (3 : Int32))]))
      refine ownBy (A := T491.setTop (fr_of4 m a1 65 (.val (.int (0 : Int32))) (.val (.int (3 : Int32))) [(.ref a1), (.int (3 : Int32))])) (fun t kt => ?_) ?_
      · refine XS.icmpNo Xh493.here hx rfl (hb hby d9_60) rfl (flt ((by decide) : ¬ ((4 : Int32) < (3 : Int32)))).2.2.1 ?_
        show Steps p.tables e below (T491.setTop (fr_of4 m a1 63 (.val (.int (0 : Int32))) (.val (.int (3 : Int32))) [])) t
        refine XS.iloadN Xh493.here hx rfl (hb hby d9_63) rfl ?_
        show Steps p.tables e below (T491.setTop (fr_of4 m a1 64 (.val (.int (0 : Int32))) (.val (.int (3 : Int32))) [(.int (3 : Int32))])) t
        refine XS.aloadN Xh493.here hx rfl (hb hby d9_64) rfl rfl ?_
        exact kt
      obtain ⟨cq494, kq494, q494a, q494b, q494c⟩ := isOf hZ323 Eq491 f331
      obtain ⟨vv494, _, ⟨T494, L494, k494, n494⟩, -, X494, ⟨Lc494, hQ494, l494, y494, z494⟩, st494⟩ := Xh493.virtualBack hx (y := (⟨"java/lang/String", "length", "()I"⟩ : MethodName)) (z := (⟨"java/lang/String", "length", "()I"⟩ : MethodName)) hown323 (mvT hZ323 (Wd54 hw)) (mvT hZ323 (Wd55 hw)) (notFace_of_selects (args := #[]) (mvT hZ323 (Wd57 hw))) (mvT hZ323 (Wd57 hw)) (mvT hZ323 (Wd56 hw)) (by decide) (StrChars.Road.lenW (W := 1) hZ323 hln (kI := 4) (Wd9 hw) f331 f332 f333 f334 hcd330 hbd330 (O2.ext f338.2) P5 (Nat.le_of_ble_eq_true rfl) (by decide) (by decide)) q494a q494c (g := (fr_of4 m a1 65 (.val (.int (0 : Int32))) (.val (.int (3 : Int32))) [(.ref a1), (.int (3 : Int32))])) rfl (by rw [hml]; rfl) (Steps.refl _) (argsL := []) (rest := [(.int (3 : Int32))]) (lenOf pd_62 rfl) rfl (by show 2 * 0 + _ ≤ _; exact Nat.le_of_eq rfl) (hb hby d9_65) (fun _ _ => ⟨rfl, Eq491, (by decide : 2 + 0 ≤ _), (by decide : 76 + 0 ≤ _)⟩)
      dsimp only [Pt.U, Pt.locs, Pt.cells, Pt.slots] at X494 l494 y494 z494 st494 hQ494
      subst l494 y494 z494
      obtain ⟨rfl, rfl, Eq494⟩ := hQ494
      have Nq494 : Fr n0 ([] : List Loc) := Fr.nil n0
      have N495 := Fr.app Nh493 Nq494
      obtain ⟨Lh496, Xh496, Nh496⟩ := own_hide (cells' := 2) (slots' := 76) X494 N495 (Nat.le_of_ble_eq_true rfl) (Nat.le_of_ble_eq_true rfl)
      refine ownSt st494 ?_
      clear st494
      show ownG p.tables e below _ (T494.setTop (fr_of4 m a1 68 (.val (.int (0 : Int32))) (.val (.int (3 : Int32))) [(.int (4 : Int32)), (.int (3 : Int32))]))
      refine ownBy (A := T494.setTop (fr_of4 m a1 73 (.val (.int (0 : Int32))) (.val (.int (3 : Int32))) [(.int (3 : Int32)), (.ref a1)])) (fun t kt => ?_) ?_
      · refine XS.icmpNo Xh496.here hx rfl (hb hby d9_68) rfl (feq ((by decide) : ¬ ((3 : Int32) = (4 : Int32)))).1 ?_
        show Steps p.tables e below (T494.setTop (fr_of4 m a1 71 (.val (.int (0 : Int32))) (.val (.int (3 : Int32))) [])) t
        refine XS.aloadN Xh496.here hx rfl (hb hby d9_71) rfl rfl ?_
        show Steps p.tables e below (T494.setTop (fr_of4 m a1 72 (.val (.int (0 : Int32))) (.val (.int (3 : Int32))) [(.ref a1)])) t
        refine XS.iloadN Xh496.here hx rfl (hb hby d9_72) rfl ?_
        exact kt
      obtain ⟨cq497, kq497, q497a, q497b, q497c⟩ := isOf hZ323 Eq494 f331
      obtain ⟨vv497, _, ⟨T497, L497, k497, n497⟩, -, X497, ⟨Lc497, hQ497, l497, y497, z497⟩, st497⟩ := Xh496.virtualBack hx (y := (⟨"java/lang/String", "charAt", "(I)C"⟩ : MethodName)) (z := (⟨"java/lang/String", "charAt", "(I)C"⟩ : MethodName)) hown323 (mvT hZ323 (Wd64 hw)) (mvT hZ323 (Wd65 hw)) (notFace_of_selects (args := #[]) (mvT hZ323 (Wd67 hw))) (mvT hZ323 (Wd67 hw)) (mvT hZ323 (Wd66 hw)) (by decide) (StrChars.Road.chN (W := 0) hZ323 hch (kI := 4) (Wd9 hw) f331 f332 f333 f334 hcd330 hbd330 (O2.ext f338.2) P5 (O4.ext f338.2) rG3 (Nat.le_of_ble_eq_true rfl) (i := 3) (Nat.le_of_ble_eq_true rfl) (j := (3 : Int32)) rfl (by decide) (by decide)) q497a q497c (g := (fr_of4 m a1 73 (.val (.int (0 : Int32))) (.val (.int (3 : Int32))) [(.int (3 : Int32)), (.ref a1)])) rfl (by rw [hml]; rfl) (Steps.refl _) (argsL := [(.int (3 : Int32))]) (rest := []) (lenOf pd_8 rfl) rfl (by show 2 * 0 + _ ≤ _; exact Nat.le_of_eq rfl) (hb hby d9_73) (fun _ _ => ⟨rfl, Eq494, (by decide : 2 + 0 ≤ _), (by decide : 76 + 0 ≤ _)⟩)
      dsimp only [Pt.U, Pt.locs, Pt.cells, Pt.slots] at X497 l497 y497 z497 st497 hQ497
      subst l497 y497 z497
      obtain ⟨rfl, rfl, Eq497⟩ := hQ497
      have Nq497 : Fr n0 ([] : List Loc) := Fr.nil n0
      have N498 := Fr.app Nh496 Nq497
      obtain ⟨Lh499, Xh499, Nh499⟩ := own_hide (cells' := 2) (slots' := 76) X497 N498 (Nat.le_of_ble_eq_true rfl) (Nat.le_of_ble_eq_true rfl)
      refine ownSt st497 ?_
      clear st497
      show ownG p.tables e below _ (T497.setTop (fr_of4 m a1 76 (.val (.int (0 : Int32))) (.val (.int (3 : Int32))) [(.int c3)]))
      refine ownBy (A := T497.setTop (fr_of4 m a1 106 (.val (.int (0 : Int32))) (.val (.int (3 : Int32))) [(.int (3 : Int32)), (.ref a1)])) (fun t kt => ?_) ?_
      · refine XS.bipush Xh499.here hx rfl (hb hby d9_76) ?_
        show Steps p.tables e below (T497.setTop (fr_of4 m a1 78 (.val (.int (0 : Int32))) (.val (.int (3 : Int32))) [(.int (46 : Int32)), (.int c3)])) t
        refine XS.icmpYes Xh499.here hx rfl (pc0 := 78) (pc' := 104) rfl (hb hby d9_78) rfl (feq hnl).2 (by decide) (by decide) ?_
        show Steps p.tables e below (T497.setTop (fr_of4 m a1 104 (.val (.int (0 : Int32))) (.val (.int (3 : Int32))) [])) t
        refine XS.aloadN Xh499.here hx rfl (hb hby d9_104) rfl rfl ?_
        show Steps p.tables e below (T497.setTop (fr_of4 m a1 105 (.val (.int (0 : Int32))) (.val (.int (3 : Int32))) [(.ref a1)])) t
        refine XS.iloadN Xh499.here hx rfl (hb hby d9_105) rfl ?_
        exact kt
      obtain ⟨cq500, kq500, q500a, q500b, q500c⟩ := isOf hZ323 Eq497 f331
      obtain ⟨vv500, _, ⟨T500, L500, k500, n500⟩, -, X500, ⟨Lc500, hQ500, l500, y500, z500⟩, st500⟩ := Xh499.virtualBack hx (y := (⟨"java/lang/String", "charAt", "(I)C"⟩ : MethodName)) (z := (⟨"java/lang/String", "charAt", "(I)C"⟩ : MethodName)) hown323 (mvT hZ323 (Wd64 hw)) (mvT hZ323 (Wd65 hw)) (notFace_of_selects (args := #[]) (mvT hZ323 (Wd67 hw))) (mvT hZ323 (Wd67 hw)) (mvT hZ323 (Wd66 hw)) (by decide) (StrChars.Road.chN (W := 0) hZ323 hch (kI := 4) (Wd9 hw) f331 f332 f333 f334 hcd330 hbd330 (O2.ext f338.2) P5 (O4.ext f338.2) rG3 (Nat.le_of_ble_eq_true rfl) (i := 3) (Nat.le_of_ble_eq_true rfl) (j := (3 : Int32)) rfl (by decide) (by decide)) q500a q500c (g := (fr_of4 m a1 106 (.val (.int (0 : Int32))) (.val (.int (3 : Int32))) [(.int (3 : Int32)), (.ref a1)])) rfl (by rw [hml]; rfl) (Steps.refl _) (argsL := [(.int (3 : Int32))]) (rest := []) (lenOf pd_8 rfl) rfl (by show 2 * 0 + _ ≤ _; exact Nat.le_of_eq rfl) (hb hby d9_106) (fun _ _ => ⟨rfl, Eq497, (by decide : 2 + 0 ≤ _), (by decide : 76 + 0 ≤ _)⟩)
      dsimp only [Pt.U, Pt.locs, Pt.cells, Pt.slots] at X500 l500 y500 z500 st500 hQ500
      subst l500 y500 z500
      obtain ⟨rfl, rfl, Eq500⟩ := hQ500
      have Nq500 : Fr n0 ([] : List Loc) := Fr.nil n0
      have N501 := Fr.app Nh499 Nq500
      obtain ⟨Lh502, Xh502, Nh502⟩ := own_hide (cells' := 2) (slots' := 76) X500 N501 (Nat.le_of_ble_eq_true rfl) (Nat.le_of_ble_eq_true rfl)
      refine ownSt st500 ?_
      clear st500
      show ownG p.tables e below _ (T500.setTop (fr_of4 m a1 109 (.val (.int (0 : Int32))) (.val (.int (3 : Int32))) [(.int c3)]))
      obtain ⟨vv503, _, ⟨T503, L503, k503, n503⟩, -, X503, ⟨Lc503, hQ503, l503, y503, z503⟩, st503⟩ := Jvm.LawKit.callS Xh502 hx (y := (⟨"com/example/boring_outbox/boringoutbox/EventType", "isIdentifierCharacter", "(C)Z"⟩ : MethodName)) hown323 (mvT hZ323 (Wd86 hw)) (mvT hZ323 (Wd87 hw)) (mvT hZ323 (Wd40 hw)) (mvT hZ323 (Wd88 hw)) (by decide) (backOf (W := 0) (c_isi l Z a0 hw [] c3 h323 n0 f326 (hi3.resolve_left hnl)) hZ323 (Wd88 hw) (Wd40 hw) (by decide) (by decide)) (g := (fr_of4 m a1 109 (.val (.int (0 : Int32))) (.val (.int (3 : Int32))) [(.int c3)])) rfl (by rw [hml]; rfl) (argsL := [(.int c3)]) (rest := []) (lenOf pd_78 rfl) rfl (by show 2 * 0 + _ ≤ _; exact Nat.le_of_eq rfl) (hb hby d9_109) (fun _ _ => ⟨rfl, Eq500, (by decide : 2 + 0 ≤ _), (by decide : 76 + 0 ≤ _)⟩)
      dsimp only [Pt.U, Pt.locs, Pt.cells, Pt.slots] at X503 l503 y503 z503 st503 hQ503
      subst l503 y503 z503
      obtain ⟨rfl, Nq503, Eq503⟩ := hQ503
      have N504 := Fr.app Nh502 Nq503
      obtain ⟨Lh505, Xh505, Nh505⟩ := own_hide (cells' := 2) (slots' := 76) X503 N504 (Nat.le_of_ble_eq_true rfl) (Nat.le_of_ble_eq_true rfl)
      refine ownBy st503 ?_
      clear st503
      show ownG p.tables e below _ (T503.setTop (fr_of4 m a1 112 (.val (.int (0 : Int32))) (.val (.int (3 : Int32))) [(.int (1 : Int32))]))
      refine ownBy (A := T503.setTop (fr_of4 m a1 57 (.val (.int (0 : Int32))) (.val (.int (4 : Int32))) [(.ref a1), (.int (4 : Int32))])) (fun t kt => ?_) ?_
      · refine XS.ifYes Xh505.here hx rfl (pc0 := 112) (pc' := 147) rfl (hb hby d9_112) rfl ((if0 _ _).trans (feq ((by decide) : ¬ ((1 : Int32) = (0 : Int32)))).2) (by decide) (by decide) ?_
        show Steps p.tables e below (T503.setTop (fr_of4 m a1 147 (.val (.int (0 : Int32))) (.val (.int (3 : Int32))) [])) t
        refine XS.iinc Xh505.here hx rfl (hb hby d9_147) rfl (l' := #[.val (.ref a1), .val (.int (0 : Int32)), .val (.int (4 : Int32))]) rfl ?_
        show Steps p.tables e below (T503.setTop (fr_of4 m a1 150 (.val (.int (0 : Int32))) (.val (.int (4 : Int32))) [])) t
        refine XS.goto Xh505.here hx rfl (pc0 := 150) (pc' := 55) rfl (hb hby d9_150) (by decide) (by decide) ?_
        show Steps p.tables e below (T503.setTop (fr_of4 m a1 55 (.val (.int (0 : Int32))) (.val (.int (4 : Int32))) [])) t
        refine XS.iloadN Xh505.here hx rfl (hb hby d9_55) rfl ?_
        show Steps p.tables e below (T503.setTop (fr_of4 m a1 56 (.val (.int (0 : Int32))) (.val (.int (4 : Int32))) [(.int (4 : Int32))])) t
        refine XS.aloadN Xh505.here hx rfl (hb hby d9_56) rfl rfl ?_
        exact kt
      obtain ⟨cq506, kq506, q506a, q506b, q506c⟩ := isOf hZ323 Eq503 f331
      obtain ⟨vv506, _, ⟨T506, L506, k506, n506⟩, -, X506, ⟨Lc506, hQ506, l506, y506, z506⟩, st506⟩ := Xh505.virtualBack hx (y := (⟨"java/lang/String", "length", "()I"⟩ : MethodName)) (z := (⟨"java/lang/String", "length", "()I"⟩ : MethodName)) hown323 (mvT hZ323 (Wd54 hw)) (mvT hZ323 (Wd55 hw)) (notFace_of_selects (args := #[]) (mvT hZ323 (Wd57 hw))) (mvT hZ323 (Wd57 hw)) (mvT hZ323 (Wd56 hw)) (by decide) (StrChars.Road.lenW (W := 1) hZ323 hln (kI := 4) (Wd9 hw) f331 f332 f333 f334 hcd330 hbd330 (O2.ext f338.2) P5 (Nat.le_of_ble_eq_true rfl) (by decide) (by decide)) q506a q506c (g := (fr_of4 m a1 57 (.val (.int (0 : Int32))) (.val (.int (4 : Int32))) [(.ref a1), (.int (4 : Int32))])) rfl (by rw [hml]; rfl) (Steps.refl _) (argsL := []) (rest := [(.int (4 : Int32))]) (lenOf pd_62 rfl) rfl (by show 2 * 0 + _ ≤ _; exact Nat.le_of_eq rfl) (hb hby d9_57) (fun _ _ => ⟨rfl, Eq503, (by decide : 2 + 0 ≤ _), (by decide : 76 + 0 ≤ _)⟩)
      dsimp only [Pt.U, Pt.locs, Pt.cells, Pt.slots] at X506 l506 y506 z506 st506 hQ506
      subst l506 y506 z506
      obtain ⟨rfl, rfl, Eq506⟩ := hQ506
      have Nq506 : Fr n0 ([] : List Loc) := Fr.nil n0
      have N507 := Fr.app Nh505 Nq506
      obtain ⟨Lh508, Xh508, Nh508⟩ := own_hide (cells' := 2) (slots' := 76) X506 N507 (Nat.le_of_ble_eq_true rfl) (Nat.le_of_ble_eq_true rfl)
      refine ownSt st506 ?_
      clear st506
      show ownG p.tables e below _ (T506.setTop (fr_of4 m a1 60 (.val (.int (0 : Int32))) (.val (.int (4 : Int32))) [(.int (4 : Int32)), (.int (4 : Int32))]))
      refine ownBy (A := T506.setTop (fr_of4 m a1 65 (.val (.int (0 : Int32))) (.val (.int (4 : Int32))) [(.ref a1), (.int (4 : Int32))])) (fun t kt => ?_) ?_
      · refine XS.icmpNo Xh508.here hx rfl (hb hby d9_60) rfl (flt ((by decide) : ¬ ((4 : Int32) < (4 : Int32)))).2.2.1 ?_
        show Steps p.tables e below (T506.setTop (fr_of4 m a1 63 (.val (.int (0 : Int32))) (.val (.int (4 : Int32))) [])) t
        refine XS.iloadN Xh508.here hx rfl (hb hby d9_63) rfl ?_
        show Steps p.tables e below (T506.setTop (fr_of4 m a1 64 (.val (.int (0 : Int32))) (.val (.int (4 : Int32))) [(.int (4 : Int32))])) t
        refine XS.aloadN Xh508.here hx rfl (hb hby d9_64) rfl rfl ?_
        exact kt
      obtain ⟨cq509, kq509, q509a, q509b, q509c⟩ := isOf hZ323 Eq506 f331
      obtain ⟨vv509, _, ⟨T509, L509, k509, n509⟩, -, X509, ⟨Lc509, hQ509, l509, y509, z509⟩, st509⟩ := Xh508.virtualBack hx (y := (⟨"java/lang/String", "length", "()I"⟩ : MethodName)) (z := (⟨"java/lang/String", "length", "()I"⟩ : MethodName)) hown323 (mvT hZ323 (Wd54 hw)) (mvT hZ323 (Wd55 hw)) (notFace_of_selects (args := #[]) (mvT hZ323 (Wd57 hw))) (mvT hZ323 (Wd57 hw)) (mvT hZ323 (Wd56 hw)) (by decide) (StrChars.Road.lenW (W := 1) hZ323 hln (kI := 4) (Wd9 hw) f331 f332 f333 f334 hcd330 hbd330 (O2.ext f338.2) P5 (Nat.le_of_ble_eq_true rfl) (by decide) (by decide)) q509a q509c (g := (fr_of4 m a1 65 (.val (.int (0 : Int32))) (.val (.int (4 : Int32))) [(.ref a1), (.int (4 : Int32))])) rfl (by rw [hml]; rfl) (Steps.refl _) (argsL := []) (rest := [(.int (4 : Int32))]) (lenOf pd_62 rfl) rfl (by show 2 * 0 + _ ≤ _; exact Nat.le_of_eq rfl) (hb hby d9_65) (fun _ _ => ⟨rfl, Eq506, (by decide : 2 + 0 ≤ _), (by decide : 76 + 0 ≤ _)⟩)
      dsimp only [Pt.U, Pt.locs, Pt.cells, Pt.slots] at X509 l509 y509 z509 st509 hQ509
      subst l509 y509 z509
      obtain ⟨rfl, rfl, Eq509⟩ := hQ509
      have Nq509 : Fr n0 ([] : List Loc) := Fr.nil n0
      have N510 := Fr.app Nh508 Nq509
      obtain ⟨Lh511, Xh511, Nh511⟩ := own_hide (cells' := 2) (slots' := 76) X509 N510 (Nat.le_of_ble_eq_true rfl) (Nat.le_of_ble_eq_true rfl)
      refine ownSt st509 ?_
      clear st509
      show ownG p.tables e below _ (T509.setTop (fr_of4 m a1 68 (.val (.int (0 : Int32))) (.val (.int (4 : Int32))) [(.int (4 : Int32)), (.int (4 : Int32))]))
      refine ownBy (A := T509.setTop (fr_of4 m a1 57 (.val (.int (5 : Int32))) (.val (.int (5 : Int32))) [(.ref a1), (.int (5 : Int32))])) (fun t kt => ?_) ?_
      · refine XS.icmpYes Xh511.here hx rfl (pc0 := 68) (pc' := 81) rfl (hb hby d9_68) rfl (teq ((by decide) : (4 : Int32) = (4 : Int32))).1 (by decide) (by decide) ?_
        show Steps p.tables e below (T509.setTop (fr_of4 m a1 81 (.val (.int (0 : Int32))) (.val (.int (4 : Int32))) [])) t
        refine XS.iloadN Xh511.here hx rfl (hb hby d9_81) rfl ?_
        show Steps p.tables e below (T509.setTop (fr_of4 m a1 82 (.val (.int (0 : Int32))) (.val (.int (4 : Int32))) [(.int (4 : Int32))])) t
        refine XS.iloadN Xh511.here hx rfl (hb hby d9_82) rfl ?_
        show Steps p.tables e below (T509.setTop (fr_of4 m a1 83 (.val (.int (0 : Int32))) (.val (.int (4 : Int32))) [(.int (0 : Int32)), (.int (4 : Int32))])) t
        refine XS.icmpYes Xh511.here hx rfl (pc0 := 83) (pc' := 97) rfl (hb hby d9_83) rfl (feq ((by decide) : ¬ ((4 : Int32) = (0 : Int32)))).2 (by decide) (by decide) ?_
        show Steps p.tables e below (T509.setTop (fr_of4 m a1 97 (.val (.int (0 : Int32))) (.val (.int (4 : Int32))) [])) t
        refine XS.iloadN Xh511.here hx rfl (hb hby d9_97) rfl ?_
        show Steps p.tables e below (T509.setTop (fr_of4 m a1 98 (.val (.int (0 : Int32))) (.val (.int (4 : Int32))) [(.int (4 : Int32))])) t
        refine XS.iconst Xh511.here hx rfl (hb hby d9_98) ?_
        show Steps p.tables e below (T509.setTop (fr_of4 m a1 99 (.val (.int (0 : Int32))) (.val (.int (4 : Int32))) [(.int (1 : Int32)), (.int (4 : Int32))])) t
        refine XS.iadd Xh511.here hx rfl (hb hby d9_99) rfl ?_
        show Steps p.tables e below (T509.setTop (fr_of4 m a1 100 (.val (.int (0 : Int32))) (.val (.int (4 : Int32))) [(.int (5 : Int32))])) t
        refine XS.istoreN Xh511.here hx rfl (hb hby d9_100) rfl (l' := #[.val (.ref a1), .val (.int (5 : Int32)), .val (.int (4 : Int32))]) rfl ?_
        show Steps p.tables e below (T509.setTop (fr_of4 m a1 101 (.val (.int (5 : Int32))) (.val (.int (4 : Int32))) [])) t
        refine XS.goto Xh511.here hx rfl (pc0 := 101) (pc' := 147) rfl (hb hby d9_101) (by decide) (by decide) ?_
        show Steps p.tables e below (T509.setTop (fr_of4 m a1 147 (.val (.int (5 : Int32))) (.val (.int (4 : Int32))) [])) t
        refine XS.iinc Xh511.here hx rfl (hb hby d9_147) rfl (l' := #[.val (.ref a1), .val (.int (5 : Int32)), .val (.int (5 : Int32))]) rfl ?_
        show Steps p.tables e below (T509.setTop (fr_of4 m a1 150 (.val (.int (5 : Int32))) (.val (.int (5 : Int32))) [])) t
        refine XS.goto Xh511.here hx rfl (pc0 := 150) (pc' := 55) rfl (hb hby d9_150) (by decide) (by decide) ?_
        show Steps p.tables e below (T509.setTop (fr_of4 m a1 55 (.val (.int (5 : Int32))) (.val (.int (5 : Int32))) [])) t
        refine XS.iloadN Xh511.here hx rfl (hb hby d9_55) rfl ?_
        show Steps p.tables e below (T509.setTop (fr_of4 m a1 56 (.val (.int (5 : Int32))) (.val (.int (5 : Int32))) [(.int (5 : Int32))])) t
        refine XS.aloadN Xh511.here hx rfl (hb hby d9_56) rfl rfl ?_
        exact kt
      obtain ⟨cq512, kq512, q512a, q512b, q512c⟩ := isOf hZ323 Eq509 f331
      obtain ⟨vv512, _, ⟨T512, L512, k512, n512⟩, -, X512, ⟨Lc512, hQ512, l512, y512, z512⟩, st512⟩ := Xh511.virtualBack hx (y := (⟨"java/lang/String", "length", "()I"⟩ : MethodName)) (z := (⟨"java/lang/String", "length", "()I"⟩ : MethodName)) hown323 (mvT hZ323 (Wd54 hw)) (mvT hZ323 (Wd55 hw)) (notFace_of_selects (args := #[]) (mvT hZ323 (Wd57 hw))) (mvT hZ323 (Wd57 hw)) (mvT hZ323 (Wd56 hw)) (by decide) (StrChars.Road.lenW (W := 1) hZ323 hln (kI := 4) (Wd9 hw) f331 f332 f333 f334 hcd330 hbd330 (O2.ext f338.2) P5 (Nat.le_of_ble_eq_true rfl) (by decide) (by decide)) q512a q512c (g := (fr_of4 m a1 57 (.val (.int (5 : Int32))) (.val (.int (5 : Int32))) [(.ref a1), (.int (5 : Int32))])) rfl (by rw [hml]; rfl) (Steps.refl _) (argsL := []) (rest := [(.int (5 : Int32))]) (lenOf pd_62 rfl) rfl (by show 2 * 0 + _ ≤ _; exact Nat.le_of_eq rfl) (hb hby d9_57) (fun _ _ => ⟨rfl, Eq509, (by decide : 2 + 0 ≤ _), (by decide : 76 + 0 ≤ _)⟩)
      dsimp only [Pt.U, Pt.locs, Pt.cells, Pt.slots] at X512 l512 y512 z512 st512 hQ512
      subst l512 y512 z512
      obtain ⟨rfl, rfl, Eq512⟩ := hQ512
      have Nq512 : Fr n0 ([] : List Loc) := Fr.nil n0
      have N513 := Fr.app Nh511 Nq512
      obtain ⟨Lh514, Xh514, Nh514⟩ := own_hide (cells' := 2) (slots' := 76) X512 N513 (Nat.le_of_ble_eq_true rfl) (Nat.le_of_ble_eq_true rfl)
      refine ownSt st512 ?_
      clear st512
      show ownG p.tables e below _ (T512.setTop (fr_of4 m a1 60 (.val (.int (5 : Int32))) (.val (.int (5 : Int32))) [(.int (4 : Int32)), (.int (5 : Int32))]))
      refine ownBy (A := T512.setTop (fr_of4 m a1 153 (.val (.int (5 : Int32))) (.val (.int (5 : Int32))) [])) (fun t kt => ?_) ?_
      · refine XS.icmpYes Xh514.here hx rfl (pc0 := 60) (pc' := 153) rfl (hb hby d9_60) rfl (tlt ((by decide) : (4 : Int32) < (5 : Int32))).2.2.1 (by decide) (by decide) ?_
        exact kt
      obtain ⟨T515, h515, X515, e515, E515, A515, D515, -, st515⟩ := newO Xh514 hx hZ323 hown323 (Wd89 hw) (Wd90 hw) (Wd40 hw) Eq512 (g := (fr_of4 m a1 153 (.val (.int (5 : Int32))) (.val (.int (5 : Int32))) [])) rfl (hb hby d9_153) (by decide) (by decide)
      obtain ⟨b515, g515⟩ : ∃ z, z = h323.size := ⟨_, rfl⟩
      rw [← g515] at A515 D515 st515
      have ne516 : a1 ≠ b515 := Nat.ne_of_lt (Nat.lt_of_lt_of_le f331.lt (Nat.le_of_eq g515.symm))
      have ne517 : t1 ≠ b515 := Nat.ne_of_lt (Nat.lt_of_lt_of_le f334.lt (Nat.le_of_eq g515.symm))
      have g518 : n0 ≤ b515 := Nat.le_trans f326 (Nat.le_of_eq g515.symm)
      have sf519 : Safe Z ownEL T323.vm h323 b515 := Safe.new (Nat.le_of_eq g515.symm)
      have f521 := ((Keep.refl h0 []).ext E323)
      have z520 : h0.size ≤ b515 := Nat.le_trans f521.1 (Nat.le_of_eq g515.symm)
      have R522 := R325.trans (CHr.ext E515 R325.1)
      have sf523 := Safe.ext E515 R325.1 sf519
      have F524 : Fld Z h515 b515 "com/example/boring_outbox/boringoutbox/EventType" "name" "Ljava/lang/String;" .null := D515 (Or.inr (Wd96 hw)) (ty := (.object "java/lang/String")) (by decide)
      refine ownBy st515 ?_
      clear st515
      show ownG p.tables e below _ (T515.setTop (fr_of4 m a1 156 (.val (.int (5 : Int32))) (.val (.int (5 : Int32))) [(.ref b515)]))
      refine ownBy (A := T515.setTop (fr_of4 m a1 158 (.val (.int (5 : Int32))) (.val (.int (5 : Int32))) [(.ref a1), (.ref b515), (.ref b515)])) (fun t kt => ?_) ?_
      · refine XS.dup X515.here hx rfl (hb hby d9_156) rfl rfl ?_
        show Steps p.tables e below (T515.setTop (fr_of4 m a1 157 (.val (.int (5 : Int32))) (.val (.int (5 : Int32))) [(.ref b515), (.ref b515)])) t
        refine XS.aloadN X515.here hx rfl (hb hby d9_157) rfl rfl ?_
        exact kt
      have f525 := (Nat.le_trans f326 E515.1)
      obtain ⟨vv526, _, ⟨T526, L526, k526, n526⟩, -, X526, ⟨Lc526, hQ526, l526, y526, z526⟩, st526⟩ := X515.specialBack hx (y := (⟨"com/example/boring_outbox/boringoutbox/EventType", "<init>", "(Ljava/lang/String;)V"⟩ : MethodName)) rfl hown323 (mvT hZ323 (Wd91 hw)) (mvT hZ323 (Wd92 hw)) (mvT hZ323 (Wd93 hw)) (by decide) (backOf (W := 1) (c_ein l Z a0 hw [] b515 a1 _ h515 n0 f525 A515 F524 g518) hZ323 (Wd93 hw) (Wd40 hw) (by decide) (by decide)) (g := (fr_of4 m a1 158 (.val (.int (5 : Int32))) (.val (.int (5 : Int32))) [(.ref a1), (.ref b515), (.ref b515)])) rfl (by rw [hml]; rfl) (Steps.refl _) (a := b515) (argsL := [(.ref a1)]) (rest := [(.ref b515)]) (lenOf pd_102 rfl) rfl (by show 2 * 0 + _ ≤ _; exact Nat.le_of_eq rfl) (hb hby d9_158) (fun _ _ => ⟨rfl, e515, (by decide : 3 + 0 ≤ _), (by decide : 77 + 0 ≤ _)⟩)
      dsimp only [Pt.U, Pt.locs, Pt.cells, Pt.slots] at X526 l526 y526 z526 st526 hQ526
      subst l526 y526 z526
      obtain ⟨rfl, Nq526, Kq526, Fa526⟩ := hQ526
      have N527 := Fr.app Nh514 Nq526
      have R528 := R522.trans (CHr.keep Kq526 (sfS sf523 sf0) R522.1)
      have sf529 := Safe.keep Kq526 (sfS sf523 sf0) R522.1 sf523
      obtain ⟨Lh530, Xh530, Nh530⟩ := own_hide (cells' := 3) (slots' := 77) X526 N527 (Nat.le_of_ble_eq_true rfl) (Nat.le_of_ble_eq_true rfl)
      refine ownSt st526 ?_
      clear st526
      show ownG p.tables e below _ (T526.setTop (fr_of4 m a1 161 (.val (.int (5 : Int32))) (.val (.int (5 : Int32))) [(.ref b515)]))
      have f531 := ((f521.ext E515).trans Kq526 (allS (Or.inr z520) all0))
      have f532 := (A515.keep Kq526)
      refine ownRetH Xh530 hS323 (Nat.le_trans (Nat.le_trans hk323 E515.1) Kq526.1) Bd.notSynchronized (v := some (.ref b515)) (fun h => by rw [Bd.returns] at h; cases h) ?_ (R528.trans (CHv.at Xh530 hZ323 hEL R528.1)) (Nat.le_of_ble_eq_true rfl) (Nat.le_of_ble_eq_true rfl) (fun fs hr => retOut Xh530 hx Bd.returns rfl (Or.inr (Or.inr (Or.inr (Or.inr ⟨rfl, rfl, rfl⟩)))) (hb hby d9_161) hr)
      show (Q_of4 Z a1 t1 kb1 c0 c1 c2 c3 G1 G3 h0 n0) (some (.ref b515)) T526.heap _
      exact ⟨b515, rfl, Nh530, f531, z520, f532, Fa526⟩
abbrev fr_law (m : MethodId) (p0 : Int32) (p1 : Int32) (p2 : Int32) (p3 : Int32) (p4 : Int32) (pc : Nat) (x5_ x6_ x7_ x8_ x9_ x10_ x11_ x12_ x13_ x14_ x15_ x16_ x17_ : Slot) (st : List Value) : JFrame := mkF m pc #[.val (.int p0), .val (.int p1), .val (.int p2), .val (.int p3), .val (.int p4), x5_, x6_, x7_, x8_, x9_, x10_, x11_, x12_, x13_, x14_, x15_, x16_, x17_] st
def Q_law (Z : State) (p0 : Int32) (p1 : Int32) (p2 : Int32) (p3 : Int32) (p4 : Int32) (G1 : Int32) (G3 : Value) (h0 : Heap) (n0 : Nat) (v : Option Value) (h : Heap) (L : List Loc) : Prop := v = some (.int 1) ∧ Fr n0 L
theorem ef_law (m : MethodId) (x0 : Int32) (x1 : Int32) (x2 : Int32) (x3 : Int32) (x4 : Int32)  : entryFrame m #[(.int x0), (.int x1), (.int x2), (.int x3), (.int x4)] maxLocals = mkF m 0 #[.val (.int x0), .val (.int x1), .val (.int x2), .val (.int x3), .val (.int x4), .unset, .unset, .unset, .unset, .unset, .unset, .unset, .unset, .unset, .unset, .unset, .unset, .unset] [] := by first | (simp [entryFrame, mkF, argsToLocals, Value.category, maxLocals]; done) | rfl
set_option maxRecDepth 65536 in
set_option maxHeartbeats 40000000 in
theorem c_law (l : Launch) (Z : State) (a0 : Array Value) (hw : ∀ d ∈ tables_1, d.before a0 Z = true) (ws : List Jvm.Cond) (p0 : Int32) (p1 : Int32) (p2 : Int32) (p3 : Int32) (p4 : Int32) (G1 : Int32) (G3 : Value) (h0 : Heap) (n0 : Nat) (Z0 : n0 ≤ h0.size) (O2 : Sta Z Z.heap "java/lang/String" "COMPACT_STRINGS" "Z" (.int G1)) (P5 : ¬ (G1 = (0 : Int32))) (X00 : Old Z n0 h0) (O4 : Sta Z Z.heap "jdk/internal/util/Preconditions" "SIOOBE_FORMATTER" "Ljava/util/function/BiFunction;" G3) (rG3 : G3.isRef = true) :
    MetFree l x (head1 (Jvm.Cond.code x code maxLocals ret :: ws) room_1) (fun a U => a = #[(.int p0), (.int p1), (.int p2), (.int p3), (.int p4)] ∧ Z.Warmed39 U.vm ∧ U.heap = h0 ∧ CHv Z ownEL U.vm h0) (fun _ _ _ _ _ => True) (fun _ U o U' => ∃ v L, o = .returned v ∧ (Q_law Z p0 p1 p2 p3 p4 G1 G3 h0 n0) v U'.heap L ∧ CHr Z ownEL U.vm U.heap U'.vm U'.heap ∧ ReturnedEndW U o U' L 24 1152) := by
  refine MetFree.of_bodySF (plainFor_of_name pn_1) hisR ?_
  intro p e s m args below meth c s₁ Bd hml0 hP hK
  obtain ⟨rfl, hZ, hHp, hCH⟩ := hP
  have hx := Bd.exec
  have hby := Bd.bytes
  have hml : c.maxLocals = 18 := hml0
  have hown : s.vm.findClass "com/example/boring_outbox/boringoutbox/EventTypeOfPinLaw" = some m.cls := findClass_of_methodNamed Bd.named
  have hnm := (name_of_methodNamed Bd.named Bd.method).1
  have X0 : Stand p l e room_1 (s.setVm s.vm) m #[(.int p0), (.int p1), (.int p2), (.int p3), (.int p4)] below meth c s₁ [] 0 0 := Stand.of_body Bd
  have e0 : s₁.heap = h0 := by rw [← hHp, Bd.state]; rfl
  have N0 := Fr.nil n0
  refine ownOutH hHp (P := (Q_law Z p0 p1 p2 p3 p4 G1 G3 h0 n0)) ?_
  refine ownBy (A := s₁.setTop (mkF m 0 #[.val (.int p0), .val (.int p1), .val (.int p2), .val (.int p3), .val (.int p4), .unset, .unset, .unset, .unset, .unset, .unset, .unset, .unset, .unset, .unset, .unset, .unset, .unset] [])) (fun t k => castTop (ef_law m p0 p1 p2 p3 p4) k) ?_
  have hS0 : s.Since s.vm h0.size := own_since
  have hEL := own_EW hw
  have R0 := CHr.refl hCH
  have wS := own_wS hw
  have hws : ∀ d ∈ StrChars.Road.words, d.before a0 Z = true := fun d hd => hw d ((by decide +kernel : ∀ d ∈ StrChars.Road.words, d ∈ tables_1) d hd)
  refine ownBy (A := s₁.setTop (fr_law m p0 p1 p2 p3 p4 8 (.val (.int ((1 : Int32) + (p0 &&& (3 : Int32))))) .unset .unset .unset .unset .unset .unset .unset .unset .unset .unset .unset .unset [(.int p1)])) (fun t kt => ?_) ?_
  · refine XS.iconst X0.here hx rfl (hb hby at_0) ?_
    refine XS.iloadN X0.here hx rfl (hb hby at_1) rfl ?_
    refine XS.iconst X0.here hx rfl (hb hby at_2) ?_
    show Steps p.tables e below (s₁.setTop (fr_law m p0 p1 p2 p3 p4 3 .unset .unset .unset .unset .unset .unset .unset .unset .unset .unset .unset .unset .unset [(.int (3 : Int32)), (.int p0), (.int (1 : Int32))])) t
    refine XS.iand X0.here hx rfl (hb hby at_3) rfl ?_
    refine XS.iadd X0.here hx rfl (hb hby at_4) rfl ?_
    refine XS.istore X0.here hx rfl (hb hby at_5) rfl (l' := #[.val (.int p0), .val (.int p1), .val (.int p2), .val (.int p3), .val (.int p4), .val (.int ((1 : Int32) + (p0 &&& (3 : Int32)))), .unset, .unset, .unset, .unset, .unset, .unset, .unset, .unset, .unset, .unset, .unset, .unset]) rfl ?_
    show Steps p.tables e below (s₁.setTop (fr_law m p0 p1 p2 p3 p4 7 (.val (.int ((1 : Int32) + (p0 &&& (3 : Int32))))) .unset .unset .unset .unset .unset .unset .unset .unset .unset .unset .unset .unset [])) t
    refine XS.iloadN X0.here hx rfl (hb hby at_7) rfl ?_
    exact kt
  obtain ⟨vv534, _, ⟨T534, L534, k534, n534⟩, -, X534, ⟨Lc534, hQ534, l534, y534, z534⟩, st534⟩ := Jvm.LawKit.callS X0 hx (y := (⟨"com/example/boring_outbox/boringoutbox/EventTypeOfPinLaw", "draw", "(I)C"⟩ : MethodName)) hown (mvT hZ (Wd0 hw)) (mvT hZ (Wd1 hw)) (mvT hZ (Wd2 hw)) (mvT hZ (Wd3 hw)) (by decide) (backOf (W := 0) (c_draw l Z a0 hw [] p1 h0 n0 Z0 ) hZ (Wd3 hw) (Wd2 hw) (by decide) (by decide)) (g := (fr_law m p0 p1 p2 p3 p4 8 (.val (.int ((1 : Int32) + (p0 &&& (3 : Int32))))) .unset .unset .unset .unset .unset .unset .unset .unset .unset .unset .unset .unset [(.int p1)])) rfl (by rw [hml]; rfl) (argsL := [(.int p1)]) (rest := []) (lenOf pd_8 rfl) rfl (by show 2 * 0 + _ ≤ _; exact Nat.le_of_eq rfl) (hb hby at_8) (fun _ _ => ⟨rfl, e0, (by decide : 0 + 0 ≤ _), (by decide : 0 + 0 ≤ _)⟩)
  dsimp only [Pt.U, Pt.locs, Pt.cells, Pt.slots] at X534 l534 y534 z534 st534 hQ534
  subst l534 y534 z534
  obtain ⟨x534, rfl, Nq534, Eq534, hx534⟩ := hQ534
  have N535 := Fr.app N0 Nq534
  obtain ⟨Lh536, Xh536, Nh536⟩ := own_hide (cells' := 0) (slots' := 0) X534 N535 (Nat.le_of_ble_eq_true rfl) (Nat.le_of_ble_eq_true rfl)
  refine ownBy st534 ?_
  clear st534
  show ownG p.tables e below _ (T534.setTop (fr_law m p0 p1 p2 p3 p4 11 (.val (.int ((1 : Int32) + (p0 &&& (3 : Int32))))) .unset .unset .unset .unset .unset .unset .unset .unset .unset .unset .unset .unset [(.int x534)]))
  refine ownBy (A := T534.setTop (fr_law m p0 p1 p2 p3 p4 14 (.val (.int ((1 : Int32) + (p0 &&& (3 : Int32))))) (.val (.int x534)) .unset .unset .unset .unset .unset .unset .unset .unset .unset .unset .unset [(.int p2)])) (fun t kt => ?_) ?_
  · refine XS.istore Xh536.here hx rfl (hb hby at_11) rfl (l' := #[.val (.int p0), .val (.int p1), .val (.int p2), .val (.int p3), .val (.int p4), .val (.int ((1 : Int32) + (p0 &&& (3 : Int32)))), .val (.int x534), .unset, .unset, .unset, .unset, .unset, .unset, .unset, .unset, .unset, .unset, .unset]) rfl ?_
    refine XS.iloadN Xh536.here hx rfl (hb hby at_13) rfl ?_
    exact kt
  obtain ⟨vv537, _, ⟨T537, L537, k537, n537⟩, -, X537, ⟨Lc537, hQ537, l537, y537, z537⟩, st537⟩ := Jvm.LawKit.callS Xh536 hx (y := (⟨"com/example/boring_outbox/boringoutbox/EventTypeOfPinLaw", "draw", "(I)C"⟩ : MethodName)) hown (mvT hZ (Wd0 hw)) (mvT hZ (Wd1 hw)) (mvT hZ (Wd2 hw)) (mvT hZ (Wd3 hw)) (by decide) (backOf (W := 0) (c_draw l Z a0 hw [] p2 h0 n0 Z0 ) hZ (Wd3 hw) (Wd2 hw) (by decide) (by decide)) (g := (fr_law m p0 p1 p2 p3 p4 14 (.val (.int ((1 : Int32) + (p0 &&& (3 : Int32))))) (.val (.int x534)) .unset .unset .unset .unset .unset .unset .unset .unset .unset .unset .unset [(.int p2)])) rfl (by rw [hml]; rfl) (argsL := [(.int p2)]) (rest := []) (lenOf pd_8 rfl) rfl (by show 2 * 0 + _ ≤ _; exact Nat.le_of_eq rfl) (hb hby at_14) (fun _ _ => ⟨rfl, Eq534, (by decide : 0 + 0 ≤ _), (by decide : 0 + 0 ≤ _)⟩)
  dsimp only [Pt.U, Pt.locs, Pt.cells, Pt.slots] at X537 l537 y537 z537 st537 hQ537
  subst l537 y537 z537
  obtain ⟨x537, rfl, Nq537, Eq537, hx537⟩ := hQ537
  have N538 := Fr.app Nh536 Nq537
  obtain ⟨Lh539, Xh539, Nh539⟩ := own_hide (cells' := 0) (slots' := 0) X537 N538 (Nat.le_of_ble_eq_true rfl) (Nat.le_of_ble_eq_true rfl)
  refine ownBy st537 ?_
  clear st537
  show ownG p.tables e below _ (T537.setTop (fr_law m p0 p1 p2 p3 p4 17 (.val (.int ((1 : Int32) + (p0 &&& (3 : Int32))))) (.val (.int x534)) .unset .unset .unset .unset .unset .unset .unset .unset .unset .unset .unset [(.int x537)]))
  refine ownBy (A := T537.setTop (fr_law m p0 p1 p2 p3 p4 20 (.val (.int ((1 : Int32) + (p0 &&& (3 : Int32))))) (.val (.int x534)) (.val (.int x537)) .unset .unset .unset .unset .unset .unset .unset .unset .unset .unset [(.int p3)])) (fun t kt => ?_) ?_
  · refine XS.istore Xh539.here hx rfl (hb hby at_17) rfl (l' := #[.val (.int p0), .val (.int p1), .val (.int p2), .val (.int p3), .val (.int p4), .val (.int ((1 : Int32) + (p0 &&& (3 : Int32)))), .val (.int x534), .val (.int x537), .unset, .unset, .unset, .unset, .unset, .unset, .unset, .unset, .unset, .unset]) rfl ?_
    refine XS.iloadN Xh539.here hx rfl (hb hby at_19) rfl ?_
    exact kt
  obtain ⟨vv540, _, ⟨T540, L540, k540, n540⟩, -, X540, ⟨Lc540, hQ540, l540, y540, z540⟩, st540⟩ := Jvm.LawKit.callS Xh539 hx (y := (⟨"com/example/boring_outbox/boringoutbox/EventTypeOfPinLaw", "draw", "(I)C"⟩ : MethodName)) hown (mvT hZ (Wd0 hw)) (mvT hZ (Wd1 hw)) (mvT hZ (Wd2 hw)) (mvT hZ (Wd3 hw)) (by decide) (backOf (W := 0) (c_draw l Z a0 hw [] p3 h0 n0 Z0 ) hZ (Wd3 hw) (Wd2 hw) (by decide) (by decide)) (g := (fr_law m p0 p1 p2 p3 p4 20 (.val (.int ((1 : Int32) + (p0 &&& (3 : Int32))))) (.val (.int x534)) (.val (.int x537)) .unset .unset .unset .unset .unset .unset .unset .unset .unset .unset [(.int p3)])) rfl (by rw [hml]; rfl) (argsL := [(.int p3)]) (rest := []) (lenOf pd_8 rfl) rfl (by show 2 * 0 + _ ≤ _; exact Nat.le_of_eq rfl) (hb hby at_20) (fun _ _ => ⟨rfl, Eq537, (by decide : 0 + 0 ≤ _), (by decide : 0 + 0 ≤ _)⟩)
  dsimp only [Pt.U, Pt.locs, Pt.cells, Pt.slots] at X540 l540 y540 z540 st540 hQ540
  subst l540 y540 z540
  obtain ⟨x540, rfl, Nq540, Eq540, hx540⟩ := hQ540
  have N541 := Fr.app Nh539 Nq540
  obtain ⟨Lh542, Xh542, Nh542⟩ := own_hide (cells' := 0) (slots' := 0) X540 N541 (Nat.le_of_ble_eq_true rfl) (Nat.le_of_ble_eq_true rfl)
  refine ownBy st540 ?_
  clear st540
  show ownG p.tables e below _ (T540.setTop (fr_law m p0 p1 p2 p3 p4 23 (.val (.int ((1 : Int32) + (p0 &&& (3 : Int32))))) (.val (.int x534)) (.val (.int x537)) .unset .unset .unset .unset .unset .unset .unset .unset .unset .unset [(.int x540)]))
  refine ownBy (A := T540.setTop (fr_law m p0 p1 p2 p3 p4 27 (.val (.int ((1 : Int32) + (p0 &&& (3 : Int32))))) (.val (.int x534)) (.val (.int x537)) (.val (.int x540)) .unset .unset .unset .unset .unset .unset .unset .unset .unset [(.int p4)])) (fun t kt => ?_) ?_
  · refine XS.istore Xh542.here hx rfl (hb hby at_23) rfl (l' := #[.val (.int p0), .val (.int p1), .val (.int p2), .val (.int p3), .val (.int p4), .val (.int ((1 : Int32) + (p0 &&& (3 : Int32)))), .val (.int x534), .val (.int x537), .val (.int x540), .unset, .unset, .unset, .unset, .unset, .unset, .unset, .unset, .unset]) rfl ?_
    refine XS.iload Xh542.here hx rfl (hb hby at_25) rfl ?_
    exact kt
  obtain ⟨vv543, _, ⟨T543, L543, k543, n543⟩, -, X543, ⟨Lc543, hQ543, l543, y543, z543⟩, st543⟩ := Jvm.LawKit.callS Xh542 hx (y := (⟨"com/example/boring_outbox/boringoutbox/EventTypeOfPinLaw", "draw", "(I)C"⟩ : MethodName)) hown (mvT hZ (Wd0 hw)) (mvT hZ (Wd1 hw)) (mvT hZ (Wd2 hw)) (mvT hZ (Wd3 hw)) (by decide) (backOf (W := 0) (c_draw l Z a0 hw [] p4 h0 n0 Z0 ) hZ (Wd3 hw) (Wd2 hw) (by decide) (by decide)) (g := (fr_law m p0 p1 p2 p3 p4 27 (.val (.int ((1 : Int32) + (p0 &&& (3 : Int32))))) (.val (.int x534)) (.val (.int x537)) (.val (.int x540)) .unset .unset .unset .unset .unset .unset .unset .unset .unset [(.int p4)])) rfl (by rw [hml]; rfl) (argsL := [(.int p4)]) (rest := []) (lenOf pd_8 rfl) rfl (by show 2 * 0 + _ ≤ _; exact Nat.le_of_eq rfl) (hb hby at_27) (fun _ _ => ⟨rfl, Eq540, (by decide : 0 + 0 ≤ _), (by decide : 0 + 0 ≤ _)⟩)
  dsimp only [Pt.U, Pt.locs, Pt.cells, Pt.slots] at X543 l543 y543 z543 st543 hQ543
  subst l543 y543 z543
  obtain ⟨x543, rfl, Nq543, Eq543, hx543⟩ := hQ543
  have N544 := Fr.app Nh542 Nq543
  obtain ⟨Lh545, Xh545, Nh545⟩ := own_hide (cells' := 0) (slots' := 0) X543 N544 (Nat.le_of_ble_eq_true rfl) (Nat.le_of_ble_eq_true rfl)
  refine ownBy st543 ?_
  clear st543
  show ownG p.tables e below _ (T543.setTop (fr_law m p0 p1 p2 p3 p4 30 (.val (.int ((1 : Int32) + (p0 &&& (3 : Int32))))) (.val (.int x534)) (.val (.int x537)) (.val (.int x540)) .unset .unset .unset .unset .unset .unset .unset .unset .unset [(.int x543)]))
  refine ownBy (A := T543.setTop (fr_law m p0 p1 p2 p3 p4 32 (.val (.int ((1 : Int32) + (p0 &&& (3 : Int32))))) (.val (.int x534)) (.val (.int x537)) (.val (.int x540)) (.val (.int x543)) .unset .unset .unset .unset .unset .unset .unset .unset [])) (fun t kt => ?_) ?_
  · refine XS.istore Xh545.here hx rfl (hb hby at_30) rfl (l' := #[.val (.int p0), .val (.int p1), .val (.int p2), .val (.int p3), .val (.int p4), .val (.int ((1 : Int32) + (p0 &&& (3 : Int32)))), .val (.int x534), .val (.int x537), .val (.int x540), .val (.int x543), .unset, .unset, .unset, .unset, .unset, .unset, .unset, .unset]) rfl ?_
    exact kt
  have seg546 : ∀ t, Steps p.tables e below (T543.setTop (fr_law m p0 p1 p2 p3 p4 44 (.val (.int ((1 : Int32) + (p0 &&& (3 : Int32))))) (.val (.int x534)) (.val (.int x537)) (.val (.int x540)) (.val (.int x543)) .unset .unset .unset .unset .unset .unset .unset .unset [(.int (own_b (x534 = (46 : Int32))))])) t → Steps p.tables e below (T543.setTop (fr_law m p0 p1 p2 p3 p4 32 (.val (.int ((1 : Int32) + (p0 &&& (3 : Int32))))) (.val (.int x534)) (.val (.int x537)) (.val (.int x540)) (.val (.int x543)) .unset .unset .unset .unset .unset .unset .unset .unset [])) t := by
    intro t kt
    show Steps p.tables e below (T543.setTop (fr_law m p0 p1 p2 p3 p4 32 (.val (.int ((1 : Int32) + (p0 &&& (3 : Int32))))) (.val (.int x534)) (.val (.int x537)) (.val (.int x540)) (.val (.int x543)) .unset .unset .unset .unset .unset .unset .unset .unset [])) t
    refine XS.iload Xh545.here hx rfl (hb hby at_32) rfl ?_
    refine XS.bipush Xh545.here hx rfl (hb hby at_34) ?_
    show Steps p.tables e below (T543.setTop (fr_law m p0 p1 p2 p3 p4 36 (.val (.int ((1 : Int32) + (p0 &&& (3 : Int32))))) (.val (.int x534)) (.val (.int x537)) (.val (.int x540)) (.val (.int x543)) .unset .unset .unset .unset .unset .unset .unset .unset [(.int (46 : Int32)), (.int x534)])) t
    by_cases hc547 : x534 = (46 : Int32)
    · skip
      show Steps p.tables e below (T543.setTop (fr_law m p0 p1 p2 p3 p4 36 (.val (.int ((1 : Int32) + (p0 &&& (3 : Int32))))) (.val (.int x534)) (.val (.int x537)) (.val (.int x540)) (.val (.int x543)) .unset .unset .unset .unset .unset .unset .unset .unset [(.int (46 : Int32)), (.int x534)])) t
      refine XS.icmpNo Xh545.here hx rfl (hb hby at_36) rfl (teq hc547).2 ?_
      refine XS.iconst Xh545.here hx rfl (hb hby at_39) ?_
      refine XS.goto Xh545.here hx rfl (pc0 := 40) (pc' := 44) rfl (hb hby at_40) (by decide) (by decide) ?_
      show Steps p.tables e below (T543.setTop (fr_law m p0 p1 p2 p3 p4 44 (.val (.int ((1 : Int32) + (p0 &&& (3 : Int32))))) (.val (.int x534)) (.val (.int x537)) (.val (.int x540)) (.val (.int x543)) .unset .unset .unset .unset .unset .unset .unset .unset [(.int (1 : Int32))])) t
      rw [show (own_b (x534 = (46 : Int32))) = (1 : Int32) from by simp [own_b, hc547]] at kt
      exact kt
    · skip
      show Steps p.tables e below (T543.setTop (fr_law m p0 p1 p2 p3 p4 36 (.val (.int ((1 : Int32) + (p0 &&& (3 : Int32))))) (.val (.int x534)) (.val (.int x537)) (.val (.int x540)) (.val (.int x543)) .unset .unset .unset .unset .unset .unset .unset .unset [(.int (46 : Int32)), (.int x534)])) t
      refine XS.icmpYes Xh545.here hx rfl (pc0 := 36) (pc' := 43) rfl (hb hby at_36) rfl (feq hc547).2 (by decide) (by decide) ?_
      refine XS.iconst Xh545.here hx rfl (hb hby at_43) ?_
      show Steps p.tables e below (T543.setTop (fr_law m p0 p1 p2 p3 p4 44 (.val (.int ((1 : Int32) + (p0 &&& (3 : Int32))))) (.val (.int x534)) (.val (.int x537)) (.val (.int x540)) (.val (.int x543)) .unset .unset .unset .unset .unset .unset .unset .unset [(.int (0 : Int32))])) t
      rw [show (own_b (x534 = (46 : Int32))) = (0 : Int32) from by simp [own_b, hc547]] at kt
      exact kt
  refine ownBy seg546 ?_
  show ownG p.tables e below _ (T543.setTop (fr_law m p0 p1 p2 p3 p4 44 (.val (.int ((1 : Int32) + (p0 &&& (3 : Int32))))) (.val (.int x534)) (.val (.int x537)) (.val (.int x540)) (.val (.int x543)) .unset .unset .unset .unset .unset .unset .unset .unset [(.int (own_b (x534 = (46 : Int32))))]))
  refine ownBy (A := T543.setTop (fr_law m p0 p1 p2 p3 p4 46 (.val (.int ((1 : Int32) + (p0 &&& (3 : Int32))))) (.val (.int x534)) (.val (.int x537)) (.val (.int x540)) (.val (.int x543)) (.val (.int (own_b (x534 = (46 : Int32))))) .unset .unset .unset .unset .unset .unset .unset [])) (fun t kt => ?_) ?_
  · refine XS.istore Xh545.here hx rfl (hb hby at_44) rfl (l' := #[.val (.int p0), .val (.int p1), .val (.int p2), .val (.int p3), .val (.int p4), .val (.int ((1 : Int32) + (p0 &&& (3 : Int32)))), .val (.int x534), .val (.int x537), .val (.int x540), .val (.int x543), .val (.int (own_b (x534 = (46 : Int32)))), .unset, .unset, .unset, .unset, .unset, .unset, .unset]) rfl ?_
    exact kt
  have seg548 : ∀ t, Steps p.tables e below (T543.setTop (fr_law m p0 p1 p2 p3 p4 58 (.val (.int ((1 : Int32) + (p0 &&& (3 : Int32))))) (.val (.int x534)) (.val (.int x537)) (.val (.int x540)) (.val (.int x543)) (.val (.int (own_b (x534 = (46 : Int32))))) .unset .unset .unset .unset .unset .unset .unset [(.int (own_b (x537 = (46 : Int32))))])) t → Steps p.tables e below (T543.setTop (fr_law m p0 p1 p2 p3 p4 46 (.val (.int ((1 : Int32) + (p0 &&& (3 : Int32))))) (.val (.int x534)) (.val (.int x537)) (.val (.int x540)) (.val (.int x543)) (.val (.int (own_b (x534 = (46 : Int32))))) .unset .unset .unset .unset .unset .unset .unset [])) t := by
    intro t kt
    show Steps p.tables e below (T543.setTop (fr_law m p0 p1 p2 p3 p4 46 (.val (.int ((1 : Int32) + (p0 &&& (3 : Int32))))) (.val (.int x534)) (.val (.int x537)) (.val (.int x540)) (.val (.int x543)) (.val (.int (own_b (x534 = (46 : Int32))))) .unset .unset .unset .unset .unset .unset .unset [])) t
    refine XS.iload Xh545.here hx rfl (hb hby at_46) rfl ?_
    refine XS.bipush Xh545.here hx rfl (hb hby at_48) ?_
    show Steps p.tables e below (T543.setTop (fr_law m p0 p1 p2 p3 p4 50 (.val (.int ((1 : Int32) + (p0 &&& (3 : Int32))))) (.val (.int x534)) (.val (.int x537)) (.val (.int x540)) (.val (.int x543)) (.val (.int (own_b (x534 = (46 : Int32))))) .unset .unset .unset .unset .unset .unset .unset [(.int (46 : Int32)), (.int x537)])) t
    by_cases hc549 : x537 = (46 : Int32)
    · skip
      show Steps p.tables e below (T543.setTop (fr_law m p0 p1 p2 p3 p4 50 (.val (.int ((1 : Int32) + (p0 &&& (3 : Int32))))) (.val (.int x534)) (.val (.int x537)) (.val (.int x540)) (.val (.int x543)) (.val (.int (own_b (x534 = (46 : Int32))))) .unset .unset .unset .unset .unset .unset .unset [(.int (46 : Int32)), (.int x537)])) t
      refine XS.icmpNo Xh545.here hx rfl (hb hby at_50) rfl (teq hc549).2 ?_
      refine XS.iconst Xh545.here hx rfl (hb hby at_53) ?_
      refine XS.goto Xh545.here hx rfl (pc0 := 54) (pc' := 58) rfl (hb hby at_54) (by decide) (by decide) ?_
      show Steps p.tables e below (T543.setTop (fr_law m p0 p1 p2 p3 p4 58 (.val (.int ((1 : Int32) + (p0 &&& (3 : Int32))))) (.val (.int x534)) (.val (.int x537)) (.val (.int x540)) (.val (.int x543)) (.val (.int (own_b (x534 = (46 : Int32))))) .unset .unset .unset .unset .unset .unset .unset [(.int (1 : Int32))])) t
      rw [show (own_b (x537 = (46 : Int32))) = (1 : Int32) from by simp [own_b, hc549]] at kt
      exact kt
    · skip
      show Steps p.tables e below (T543.setTop (fr_law m p0 p1 p2 p3 p4 50 (.val (.int ((1 : Int32) + (p0 &&& (3 : Int32))))) (.val (.int x534)) (.val (.int x537)) (.val (.int x540)) (.val (.int x543)) (.val (.int (own_b (x534 = (46 : Int32))))) .unset .unset .unset .unset .unset .unset .unset [(.int (46 : Int32)), (.int x537)])) t
      refine XS.icmpYes Xh545.here hx rfl (pc0 := 50) (pc' := 57) rfl (hb hby at_50) rfl (feq hc549).2 (by decide) (by decide) ?_
      refine XS.iconst Xh545.here hx rfl (hb hby at_57) ?_
      show Steps p.tables e below (T543.setTop (fr_law m p0 p1 p2 p3 p4 58 (.val (.int ((1 : Int32) + (p0 &&& (3 : Int32))))) (.val (.int x534)) (.val (.int x537)) (.val (.int x540)) (.val (.int x543)) (.val (.int (own_b (x534 = (46 : Int32))))) .unset .unset .unset .unset .unset .unset .unset [(.int (0 : Int32))])) t
      rw [show (own_b (x537 = (46 : Int32))) = (0 : Int32) from by simp [own_b, hc549]] at kt
      exact kt
  refine ownBy seg548 ?_
  show ownG p.tables e below _ (T543.setTop (fr_law m p0 p1 p2 p3 p4 58 (.val (.int ((1 : Int32) + (p0 &&& (3 : Int32))))) (.val (.int x534)) (.val (.int x537)) (.val (.int x540)) (.val (.int x543)) (.val (.int (own_b (x534 = (46 : Int32))))) .unset .unset .unset .unset .unset .unset .unset [(.int (own_b (x537 = (46 : Int32))))]))
  refine ownBy (A := T543.setTop (fr_law m p0 p1 p2 p3 p4 60 (.val (.int ((1 : Int32) + (p0 &&& (3 : Int32))))) (.val (.int x534)) (.val (.int x537)) (.val (.int x540)) (.val (.int x543)) (.val (.int (own_b (x534 = (46 : Int32))))) (.val (.int (own_b (x537 = (46 : Int32))))) .unset .unset .unset .unset .unset .unset [])) (fun t kt => ?_) ?_
  · refine XS.istore Xh545.here hx rfl (hb hby at_58) rfl (l' := #[.val (.int p0), .val (.int p1), .val (.int p2), .val (.int p3), .val (.int p4), .val (.int ((1 : Int32) + (p0 &&& (3 : Int32)))), .val (.int x534), .val (.int x537), .val (.int x540), .val (.int x543), .val (.int (own_b (x534 = (46 : Int32)))), .val (.int (own_b (x537 = (46 : Int32)))), .unset, .unset, .unset, .unset, .unset, .unset]) rfl ?_
    exact kt
  have seg550 : ∀ t, Steps p.tables e below (T543.setTop (fr_law m p0 p1 p2 p3 p4 72 (.val (.int ((1 : Int32) + (p0 &&& (3 : Int32))))) (.val (.int x534)) (.val (.int x537)) (.val (.int x540)) (.val (.int x543)) (.val (.int (own_b (x534 = (46 : Int32))))) (.val (.int (own_b (x537 = (46 : Int32))))) .unset .unset .unset .unset .unset .unset [(.int (own_b (x540 = (46 : Int32))))])) t → Steps p.tables e below (T543.setTop (fr_law m p0 p1 p2 p3 p4 60 (.val (.int ((1 : Int32) + (p0 &&& (3 : Int32))))) (.val (.int x534)) (.val (.int x537)) (.val (.int x540)) (.val (.int x543)) (.val (.int (own_b (x534 = (46 : Int32))))) (.val (.int (own_b (x537 = (46 : Int32))))) .unset .unset .unset .unset .unset .unset [])) t := by
    intro t kt
    show Steps p.tables e below (T543.setTop (fr_law m p0 p1 p2 p3 p4 60 (.val (.int ((1 : Int32) + (p0 &&& (3 : Int32))))) (.val (.int x534)) (.val (.int x537)) (.val (.int x540)) (.val (.int x543)) (.val (.int (own_b (x534 = (46 : Int32))))) (.val (.int (own_b (x537 = (46 : Int32))))) .unset .unset .unset .unset .unset .unset [])) t
    refine XS.iload Xh545.here hx rfl (hb hby at_60) rfl ?_
    refine XS.bipush Xh545.here hx rfl (hb hby at_62) ?_
    show Steps p.tables e below (T543.setTop (fr_law m p0 p1 p2 p3 p4 64 (.val (.int ((1 : Int32) + (p0 &&& (3 : Int32))))) (.val (.int x534)) (.val (.int x537)) (.val (.int x540)) (.val (.int x543)) (.val (.int (own_b (x534 = (46 : Int32))))) (.val (.int (own_b (x537 = (46 : Int32))))) .unset .unset .unset .unset .unset .unset [(.int (46 : Int32)), (.int x540)])) t
    by_cases hc551 : x540 = (46 : Int32)
    · skip
      show Steps p.tables e below (T543.setTop (fr_law m p0 p1 p2 p3 p4 64 (.val (.int ((1 : Int32) + (p0 &&& (3 : Int32))))) (.val (.int x534)) (.val (.int x537)) (.val (.int x540)) (.val (.int x543)) (.val (.int (own_b (x534 = (46 : Int32))))) (.val (.int (own_b (x537 = (46 : Int32))))) .unset .unset .unset .unset .unset .unset [(.int (46 : Int32)), (.int x540)])) t
      refine XS.icmpNo Xh545.here hx rfl (hb hby at_64) rfl (teq hc551).2 ?_
      refine XS.iconst Xh545.here hx rfl (hb hby at_67) ?_
      refine XS.goto Xh545.here hx rfl (pc0 := 68) (pc' := 72) rfl (hb hby at_68) (by decide) (by decide) ?_
      show Steps p.tables e below (T543.setTop (fr_law m p0 p1 p2 p3 p4 72 (.val (.int ((1 : Int32) + (p0 &&& (3 : Int32))))) (.val (.int x534)) (.val (.int x537)) (.val (.int x540)) (.val (.int x543)) (.val (.int (own_b (x534 = (46 : Int32))))) (.val (.int (own_b (x537 = (46 : Int32))))) .unset .unset .unset .unset .unset .unset [(.int (1 : Int32))])) t
      rw [show (own_b (x540 = (46 : Int32))) = (1 : Int32) from by simp [own_b, hc551]] at kt
      exact kt
    · skip
      show Steps p.tables e below (T543.setTop (fr_law m p0 p1 p2 p3 p4 64 (.val (.int ((1 : Int32) + (p0 &&& (3 : Int32))))) (.val (.int x534)) (.val (.int x537)) (.val (.int x540)) (.val (.int x543)) (.val (.int (own_b (x534 = (46 : Int32))))) (.val (.int (own_b (x537 = (46 : Int32))))) .unset .unset .unset .unset .unset .unset [(.int (46 : Int32)), (.int x540)])) t
      refine XS.icmpYes Xh545.here hx rfl (pc0 := 64) (pc' := 71) rfl (hb hby at_64) rfl (feq hc551).2 (by decide) (by decide) ?_
      refine XS.iconst Xh545.here hx rfl (hb hby at_71) ?_
      show Steps p.tables e below (T543.setTop (fr_law m p0 p1 p2 p3 p4 72 (.val (.int ((1 : Int32) + (p0 &&& (3 : Int32))))) (.val (.int x534)) (.val (.int x537)) (.val (.int x540)) (.val (.int x543)) (.val (.int (own_b (x534 = (46 : Int32))))) (.val (.int (own_b (x537 = (46 : Int32))))) .unset .unset .unset .unset .unset .unset [(.int (0 : Int32))])) t
      rw [show (own_b (x540 = (46 : Int32))) = (0 : Int32) from by simp [own_b, hc551]] at kt
      exact kt
  refine ownBy seg550 ?_
  show ownG p.tables e below _ (T543.setTop (fr_law m p0 p1 p2 p3 p4 72 (.val (.int ((1 : Int32) + (p0 &&& (3 : Int32))))) (.val (.int x534)) (.val (.int x537)) (.val (.int x540)) (.val (.int x543)) (.val (.int (own_b (x534 = (46 : Int32))))) (.val (.int (own_b (x537 = (46 : Int32))))) .unset .unset .unset .unset .unset .unset [(.int (own_b (x540 = (46 : Int32))))]))
  refine ownBy (A := T543.setTop (fr_law m p0 p1 p2 p3 p4 74 (.val (.int ((1 : Int32) + (p0 &&& (3 : Int32))))) (.val (.int x534)) (.val (.int x537)) (.val (.int x540)) (.val (.int x543)) (.val (.int (own_b (x534 = (46 : Int32))))) (.val (.int (own_b (x537 = (46 : Int32))))) (.val (.int (own_b (x540 = (46 : Int32))))) .unset .unset .unset .unset .unset [])) (fun t kt => ?_) ?_
  · refine XS.istore Xh545.here hx rfl (hb hby at_72) rfl (l' := #[.val (.int p0), .val (.int p1), .val (.int p2), .val (.int p3), .val (.int p4), .val (.int ((1 : Int32) + (p0 &&& (3 : Int32)))), .val (.int x534), .val (.int x537), .val (.int x540), .val (.int x543), .val (.int (own_b (x534 = (46 : Int32)))), .val (.int (own_b (x537 = (46 : Int32)))), .val (.int (own_b (x540 = (46 : Int32)))), .unset, .unset, .unset, .unset, .unset]) rfl ?_
    exact kt
  have seg552 : ∀ t, Steps p.tables e below (T543.setTop (fr_law m p0 p1 p2 p3 p4 86 (.val (.int ((1 : Int32) + (p0 &&& (3 : Int32))))) (.val (.int x534)) (.val (.int x537)) (.val (.int x540)) (.val (.int x543)) (.val (.int (own_b (x534 = (46 : Int32))))) (.val (.int (own_b (x537 = (46 : Int32))))) (.val (.int (own_b (x540 = (46 : Int32))))) .unset .unset .unset .unset .unset [(.int (own_b (x543 = (46 : Int32))))])) t → Steps p.tables e below (T543.setTop (fr_law m p0 p1 p2 p3 p4 74 (.val (.int ((1 : Int32) + (p0 &&& (3 : Int32))))) (.val (.int x534)) (.val (.int x537)) (.val (.int x540)) (.val (.int x543)) (.val (.int (own_b (x534 = (46 : Int32))))) (.val (.int (own_b (x537 = (46 : Int32))))) (.val (.int (own_b (x540 = (46 : Int32))))) .unset .unset .unset .unset .unset [])) t := by
    intro t kt
    show Steps p.tables e below (T543.setTop (fr_law m p0 p1 p2 p3 p4 74 (.val (.int ((1 : Int32) + (p0 &&& (3 : Int32))))) (.val (.int x534)) (.val (.int x537)) (.val (.int x540)) (.val (.int x543)) (.val (.int (own_b (x534 = (46 : Int32))))) (.val (.int (own_b (x537 = (46 : Int32))))) (.val (.int (own_b (x540 = (46 : Int32))))) .unset .unset .unset .unset .unset [])) t
    refine XS.iload Xh545.here hx rfl (hb hby at_74) rfl ?_
    refine XS.bipush Xh545.here hx rfl (hb hby at_76) ?_
    show Steps p.tables e below (T543.setTop (fr_law m p0 p1 p2 p3 p4 78 (.val (.int ((1 : Int32) + (p0 &&& (3 : Int32))))) (.val (.int x534)) (.val (.int x537)) (.val (.int x540)) (.val (.int x543)) (.val (.int (own_b (x534 = (46 : Int32))))) (.val (.int (own_b (x537 = (46 : Int32))))) (.val (.int (own_b (x540 = (46 : Int32))))) .unset .unset .unset .unset .unset [(.int (46 : Int32)), (.int x543)])) t
    by_cases hc553 : x543 = (46 : Int32)
    · skip
      show Steps p.tables e below (T543.setTop (fr_law m p0 p1 p2 p3 p4 78 (.val (.int ((1 : Int32) + (p0 &&& (3 : Int32))))) (.val (.int x534)) (.val (.int x537)) (.val (.int x540)) (.val (.int x543)) (.val (.int (own_b (x534 = (46 : Int32))))) (.val (.int (own_b (x537 = (46 : Int32))))) (.val (.int (own_b (x540 = (46 : Int32))))) .unset .unset .unset .unset .unset [(.int (46 : Int32)), (.int x543)])) t
      refine XS.icmpNo Xh545.here hx rfl (hb hby at_78) rfl (teq hc553).2 ?_
      refine XS.iconst Xh545.here hx rfl (hb hby at_81) ?_
      refine XS.goto Xh545.here hx rfl (pc0 := 82) (pc' := 86) rfl (hb hby at_82) (by decide) (by decide) ?_
      show Steps p.tables e below (T543.setTop (fr_law m p0 p1 p2 p3 p4 86 (.val (.int ((1 : Int32) + (p0 &&& (3 : Int32))))) (.val (.int x534)) (.val (.int x537)) (.val (.int x540)) (.val (.int x543)) (.val (.int (own_b (x534 = (46 : Int32))))) (.val (.int (own_b (x537 = (46 : Int32))))) (.val (.int (own_b (x540 = (46 : Int32))))) .unset .unset .unset .unset .unset [(.int (1 : Int32))])) t
      rw [show (own_b (x543 = (46 : Int32))) = (1 : Int32) from by simp [own_b, hc553]] at kt
      exact kt
    · skip
      show Steps p.tables e below (T543.setTop (fr_law m p0 p1 p2 p3 p4 78 (.val (.int ((1 : Int32) + (p0 &&& (3 : Int32))))) (.val (.int x534)) (.val (.int x537)) (.val (.int x540)) (.val (.int x543)) (.val (.int (own_b (x534 = (46 : Int32))))) (.val (.int (own_b (x537 = (46 : Int32))))) (.val (.int (own_b (x540 = (46 : Int32))))) .unset .unset .unset .unset .unset [(.int (46 : Int32)), (.int x543)])) t
      refine XS.icmpYes Xh545.here hx rfl (pc0 := 78) (pc' := 85) rfl (hb hby at_78) rfl (feq hc553).2 (by decide) (by decide) ?_
      refine XS.iconst Xh545.here hx rfl (hb hby at_85) ?_
      show Steps p.tables e below (T543.setTop (fr_law m p0 p1 p2 p3 p4 86 (.val (.int ((1 : Int32) + (p0 &&& (3 : Int32))))) (.val (.int x534)) (.val (.int x537)) (.val (.int x540)) (.val (.int x543)) (.val (.int (own_b (x534 = (46 : Int32))))) (.val (.int (own_b (x537 = (46 : Int32))))) (.val (.int (own_b (x540 = (46 : Int32))))) .unset .unset .unset .unset .unset [(.int (0 : Int32))])) t
      rw [show (own_b (x543 = (46 : Int32))) = (0 : Int32) from by simp [own_b, hc553]] at kt
      exact kt
  refine ownBy seg552 ?_
  show ownG p.tables e below _ (T543.setTop (fr_law m p0 p1 p2 p3 p4 86 (.val (.int ((1 : Int32) + (p0 &&& (3 : Int32))))) (.val (.int x534)) (.val (.int x537)) (.val (.int x540)) (.val (.int x543)) (.val (.int (own_b (x534 = (46 : Int32))))) (.val (.int (own_b (x537 = (46 : Int32))))) (.val (.int (own_b (x540 = (46 : Int32))))) .unset .unset .unset .unset .unset [(.int (own_b (x543 = (46 : Int32))))]))
  refine ownBy (A := T543.setTop (fr_law m p0 p1 p2 p3 p4 88 (.val (.int ((1 : Int32) + (p0 &&& (3 : Int32))))) (.val (.int x534)) (.val (.int x537)) (.val (.int x540)) (.val (.int x543)) (.val (.int (own_b (x534 = (46 : Int32))))) (.val (.int (own_b (x537 = (46 : Int32))))) (.val (.int (own_b (x540 = (46 : Int32))))) (.val (.int (own_b (x543 = (46 : Int32))))) .unset .unset .unset .unset [])) (fun t kt => ?_) ?_
  · refine XS.istore Xh545.here hx rfl (hb hby at_86) rfl (l' := #[.val (.int p0), .val (.int p1), .val (.int p2), .val (.int p3), .val (.int p4), .val (.int ((1 : Int32) + (p0 &&& (3 : Int32)))), .val (.int x534), .val (.int x537), .val (.int x540), .val (.int x543), .val (.int (own_b (x534 = (46 : Int32)))), .val (.int (own_b (x537 = (46 : Int32)))), .val (.int (own_b (x540 = (46 : Int32)))), .val (.int (own_b (x543 = (46 : Int32)))), .unset, .unset, .unset, .unset]) rfl ?_
    exact kt
  rcases own_n4 p0 with hn554 | hn554 | hn554 | hn554
  · rw [hn554]
    show ownG p.tables e below _ (T543.setTop (fr_law m p0 p1 p2 p3 p4 88 (.val (.int (1 : Int32))) (.val (.int x534)) (.val (.int x537)) (.val (.int x540)) (.val (.int x543)) (.val (.int (own_b (x534 = (46 : Int32))))) (.val (.int (own_b (x537 = (46 : Int32))))) (.val (.int (own_b (x540 = (46 : Int32))))) (.val (.int (own_b (x543 = (46 : Int32))))) .unset .unset .unset .unset []))
    refine ownBy (A := T543.setTop (fr_law m p0 p1 p2 p3 p4 98 (.val (.int (1 : Int32))) (.val (.int x534)) (.val (.int x537)) (.val (.int x540)) (.val (.int x543)) (.val (.int (own_b (x534 = (46 : Int32))))) (.val (.int (own_b (x537 = (46 : Int32))))) (.val (.int (own_b (x540 = (46 : Int32))))) (.val (.int (own_b (x543 = (46 : Int32))))) (.val (.int (own_b (x534 = (46 : Int32))))) .unset .unset .unset [])) (fun t kt => ?_) ?_
    · refine XS.iload Xh545.here hx rfl (hb hby at_88) rfl ?_
      refine XS.iconst Xh545.here hx rfl (hb hby at_90) ?_
      refine XS.icmpNo Xh545.here hx rfl (hb hby at_91) rfl (teq ((by decide) : (1 : Int32) = (1 : Int32))).2 ?_
      show Steps p.tables e below (T543.setTop (fr_law m p0 p1 p2 p3 p4 94 (.val (.int (1 : Int32))) (.val (.int x534)) (.val (.int x537)) (.val (.int x540)) (.val (.int x543)) (.val (.int (own_b (x534 = (46 : Int32))))) (.val (.int (own_b (x537 = (46 : Int32))))) (.val (.int (own_b (x540 = (46 : Int32))))) (.val (.int (own_b (x543 = (46 : Int32))))) .unset .unset .unset .unset [])) t
      refine XS.iload Xh545.here hx rfl (hb hby at_94) rfl ?_
      refine XS.istore Xh545.here hx rfl (hb hby at_96) rfl (l' := #[.val (.int p0), .val (.int p1), .val (.int p2), .val (.int p3), .val (.int p4), .val (.int (1 : Int32)), .val (.int x534), .val (.int x537), .val (.int x540), .val (.int x543), .val (.int (own_b (x534 = (46 : Int32)))), .val (.int (own_b (x537 = (46 : Int32)))), .val (.int (own_b (x540 = (46 : Int32)))), .val (.int (own_b (x543 = (46 : Int32)))), .val (.int (own_b (x534 = (46 : Int32)))), .unset, .unset, .unset]) rfl ?_
      exact kt
    obtain ⟨T555, h555, X555, e555, E555, A555, D555, -, st555⟩ := newO Xh545 hx hZ hown (Wd8 hw) (Wd9 hw) (Wd10 hw) Eq543 (g := (fr_law m p0 p1 p2 p3 p4 98 (.val (.int (1 : Int32))) (.val (.int x534)) (.val (.int x537)) (.val (.int x540)) (.val (.int x543)) (.val (.int (own_b (x534 = (46 : Int32))))) (.val (.int (own_b (x537 = (46 : Int32))))) (.val (.int (own_b (x540 = (46 : Int32))))) (.val (.int (own_b (x543 = (46 : Int32))))) (.val (.int (own_b (x534 = (46 : Int32))))) .unset .unset .unset [])) rfl (hb hby at_98) (by decide) (by decide)
    obtain ⟨b555, g555⟩ : ∃ z, z = h0.size := ⟨_, rfl⟩
    rw [← g555] at A555 D555 st555
    have g556 : n0 ≤ b555 := Nat.le_trans Z0 (Nat.le_of_eq g555.symm)
    have sf557 : Safe Z ownEL s.vm h0 b555 := Safe.new (Nat.le_of_eq g555.symm)
    have z558 : h0.size ≤ b555 := Nat.le_trans (Keep.refl h0 []).1 (Nat.le_of_eq g555.symm)
    have R559 := R0.trans (CHr.ext E555 R0.1)
    have sf560 := Safe.ext E555 R0.1 sf557
    have F561 : Fld Z h555 b555 "java/lang/String" "coder" "B" (.int (0 : Int32)) := D555 (Or.inr (Wd35 hw)) (ty := .byte) (by decide)
    have F562 : Fld Z h555 b555 "java/lang/String" "value" "[B" .null := D555 (Or.inr (Wd37 hw)) (ty := (.array .byte)) (by decide)
    refine ownBy st555 ?_
    clear st555
    show ownG p.tables e below _ (T555.setTop (fr_law m p0 p1 p2 p3 p4 101 (.val (.int (1 : Int32))) (.val (.int x534)) (.val (.int x537)) (.val (.int x540)) (.val (.int x543)) (.val (.int (own_b (x534 = (46 : Int32))))) (.val (.int (own_b (x537 = (46 : Int32))))) (.val (.int (own_b (x540 = (46 : Int32))))) (.val (.int (own_b (x543 = (46 : Int32))))) (.val (.int (own_b (x534 = (46 : Int32))))) .unset .unset .unset [(.ref b555)]))
    refine ownBy (A := T555.setTop (fr_law m p0 p1 p2 p3 p4 103 (.val (.int (1 : Int32))) (.val (.int x534)) (.val (.int x537)) (.val (.int x540)) (.val (.int x543)) (.val (.int (own_b (x534 = (46 : Int32))))) (.val (.int (own_b (x537 = (46 : Int32))))) (.val (.int (own_b (x540 = (46 : Int32))))) (.val (.int (own_b (x543 = (46 : Int32))))) (.val (.int (own_b (x534 = (46 : Int32))))) .unset .unset .unset [(.int (1 : Int32)), (.ref b555), (.ref b555)])) (fun t kt => ?_) ?_
    · refine XS.dup X555.here hx rfl (hb hby at_101) rfl rfl ?_
      refine XS.iconst X555.here hx rfl (hb hby at_102) ?_
      exact kt
    obtain ⟨T563, h563, k563, X563, e563, E563, A563, st563⟩ := newP X555 hx hZ (aty := .char) (Wd11 hw) e555 (g := (fr_law m p0 p1 p2 p3 p4 103 (.val (.int (1 : Int32))) (.val (.int x534)) (.val (.int x537)) (.val (.int x540)) (.val (.int x543)) (.val (.int (own_b (x534 = (46 : Int32))))) (.val (.int (own_b (x537 = (46 : Int32))))) (.val (.int (own_b (x540 = (46 : Int32))))) (.val (.int (own_b (x543 = (46 : Int32))))) (.val (.int (own_b (x534 = (46 : Int32))))) .unset .unset .unset [(.int (1 : Int32)), (.ref b555), (.ref b555)])) rfl (hb hby at_103) rfl (by decide : ¬ ((1 : Int32) < (0 : Int32))) (cap := 1) (by decide) (by decide) (by decide) (by decide)
    obtain ⟨b563, g563⟩ : ∃ z, z = h555.size := ⟨_, rfl⟩
    rw [← g563] at A563 st563
    have ne564 : b555 ≠ b563 := Nat.ne_of_lt (Nat.lt_of_lt_of_le A555.lt (Nat.le_of_eq g563.symm))
    have f566 := (Nat.le_trans Z0 E555.1)
    have g565 : n0 ≤ b563 := Nat.le_trans f566 (Nat.le_of_eq g563.symm)
    have sf567 : Safe Z ownEL s.vm h555 b563 := Safe.new (Nat.le_of_eq g563.symm)
    have f569 := ((Keep.refl h0 []).ext E555)
    have z568 : h0.size ≤ b563 := Nat.le_trans f569.1 (Nat.le_of_eq g563.symm)
    have R570 := R559.trans (CHr.ext E563 R559.1)
    have sf571 := Safe.ext E563 R559.1 sf560
    have sf572 := Safe.ext E563 R559.1 sf567
    have V573 : Arv Z h563 b563 k563 .char (1 : Int32) [(.int (0 : Int32))] (.int (0 : Int32)) := (Arv.new A563 (by decide)).pad (pad_rep [] (.int (0 : Int32)) 1)
    refine ownBy st563 ?_
    clear st563
    show ownG p.tables e below _ (T563.setTop (fr_law m p0 p1 p2 p3 p4 105 (.val (.int (1 : Int32))) (.val (.int x534)) (.val (.int x537)) (.val (.int x540)) (.val (.int x543)) (.val (.int (own_b (x534 = (46 : Int32))))) (.val (.int (own_b (x537 = (46 : Int32))))) (.val (.int (own_b (x540 = (46 : Int32))))) (.val (.int (own_b (x543 = (46 : Int32))))) (.val (.int (own_b (x534 = (46 : Int32))))) .unset .unset .unset [(.ref b563), (.ref b555), (.ref b555)]))
    refine ownBy (A := T563.setTop (fr_law m p0 p1 p2 p3 p4 109 (.val (.int (1 : Int32))) (.val (.int x534)) (.val (.int x537)) (.val (.int x540)) (.val (.int x543)) (.val (.int (own_b (x534 = (46 : Int32))))) (.val (.int (own_b (x537 = (46 : Int32))))) (.val (.int (own_b (x540 = (46 : Int32))))) (.val (.int (own_b (x543 = (46 : Int32))))) (.val (.int (own_b (x534 = (46 : Int32))))) .unset .unset .unset [(.int x534), (.int (0 : Int32)), (.ref b563), (.ref b563), (.ref b555), (.ref b555)])) (fun t kt => ?_) ?_
    · refine XS.dup X563.here hx rfl (hb hby at_105) rfl rfl ?_
      refine XS.iconst X563.here hx rfl (hb hby at_106) ?_
      refine XS.iload X563.here hx rfl (hb hby at_107) rfl ?_
      exact kt
    obtain ⟨cl574, Ar574, q574, S574, N574, H574, G574⟩ := id V573
    have hin574 : ¬ ((0 : Int32) < 0 ∨ cl574.slots.size ≤ ((0 : Int32)).toNatClampNeg) := inb_of S574 ⟨by decide, by decide⟩
    obtain ⟨T574, h574, X574, e574, W574, st574⟩ := stC X563 hx hZ e563 Ar574 (j := (0 : Int32)) hin574 (g := (fr_law m p0 p1 p2 p3 p4 109 (.val (.int (1 : Int32))) (.val (.int x534)) (.val (.int x537)) (.val (.int x540)) (.val (.int x543)) (.val (.int (own_b (x534 = (46 : Int32))))) (.val (.int (own_b (x537 = (46 : Int32))))) (.val (.int (own_b (x540 = (46 : Int32))))) (.val (.int (own_b (x543 = (46 : Int32))))) (.val (.int (own_b (x534 = (46 : Int32))))) .unset .unset .unset [(.int x534), (.int (0 : Int32)), (.ref b563), (.ref b563), (.ref b555), (.ref b555)])) rfl rfl (hb hby at_109)
    have V575 : Arv Z h574 b563 k563 .char (1 : Int32) [(.int (nar .char x534))] (.int (0 : Int32)) := Arv.set Ar574 q574 S574 N574 H574 G574 (fits_nar_char _) W574 0 rfl (Nat.le_of_ble_eq_true rfl)
    rw [own_nar_id hx534] at V575
    clear hin574 G574 H574 N574 S574 q574 Ar574 cl574 V573
    have N576 := Fr.snoc X574 Nh545 g565
    have R577 := R570.trans (CHr.wr W574 sf572 R570.1)
    have sf578 := Safe.wr W574 sf572 R570.1 sf571
    have sf579 := Safe.wr W574 sf572 R570.1 sf572
    obtain ⟨Lh580, Xh580, Nh580⟩ := own_hide (cells' := 2) (slots' := 5) X574 N576 (Nat.le_of_ble_eq_true rfl) (Nat.le_of_ble_eq_true rfl)
    refine ownBy st574 ?_
    clear st574
    show ownG p.tables e below _ (T574.setTop (fr_law m p0 p1 p2 p3 p4 110 (.val (.int (1 : Int32))) (.val (.int x534)) (.val (.int x537)) (.val (.int x540)) (.val (.int x543)) (.val (.int (own_b (x534 = (46 : Int32))))) (.val (.int (own_b (x537 = (46 : Int32))))) (.val (.int (own_b (x540 = (46 : Int32))))) (.val (.int (own_b (x543 = (46 : Int32))))) (.val (.int (own_b (x534 = (46 : Int32))))) .unset .unset .unset [(.ref b563), (.ref b555), (.ref b555)]))
    have hp581 : ∀ c ∈ ([x534] : List Int32), ¬ c < 0 ∧ ¬ (255 : Int32) < c := by
      intro c hc
      simp only [List.mem_cons, List.not_mem_nil, or_false] at hc
      rcases hc with rfl
      · exact own_id_rng hx534
    have f582 := (Nat.le_trans (Nat.le_trans f566 E563.1) (Keep.of_wr W574).1)
    have f583 := ((A555.ext E563).wr W574)
    have f584 := ((F562.ext E563).other W574 (Or.inl ne564))
    have f585 := ((F561.ext E563).other W574 (Or.inl ne564))
    have f586 := (((X00.ext E555).ext E563).wr W574 g565)
    obtain ⟨vv587, _, ⟨T587, L587, k587, n587⟩, -, X587, ⟨Lc587, hQ587, l587, y587, z587⟩, st587⟩ := Xh580.specialBack hx (y := (⟨"java/lang/String", "<init>", "([C)V"⟩ : MethodName)) rfl hown (mvT hZ (Wd12 hw)) (mvT hZ (Wd13 hw)) (mvT hZ (Wd14 hw)) (by decide) (StrChars.Road.backV (W := 1) hZ hws (kI := 4) (Wd9 hw) (cs := ([x534] : List Int32)) (bs := (([x534] : List Int32)).map (fun c => c.toInt8.toInt32)) (n := 1) g556 f582 f583 f584 f585 V575 (O2.ext f586.2) P5 rfl rfl (by decide) (by decide) hp581 rfl (by decide) (by decide)) (g := (fr_law m p0 p1 p2 p3 p4 110 (.val (.int (1 : Int32))) (.val (.int x534)) (.val (.int x537)) (.val (.int x540)) (.val (.int x543)) (.val (.int (own_b (x534 = (46 : Int32))))) (.val (.int (own_b (x537 = (46 : Int32))))) (.val (.int (own_b (x540 = (46 : Int32))))) (.val (.int (own_b (x543 = (46 : Int32))))) (.val (.int (own_b (x534 = (46 : Int32))))) .unset .unset .unset [(.ref b563), (.ref b555), (.ref b555)])) rfl (by rw [hml]; rfl) (Steps.refl _) (a := b555) (argsL := [(.ref b563)]) (rest := [(.ref b555)]) (lenOf pd_588 rfl) rfl (by show 2 * 0 + _ ≤ _; exact Nat.le_of_eq rfl) (hb hby at_110) (fun _ _ => ⟨rfl, e574, (by decide : 2 + 1 ≤ _), (by decide : 5 + 1 ≤ _)⟩)
    dsimp only [Pt.U, Pt.locs, Pt.cells, Pt.slots] at X587 l587 y587 z587 st587 hQ587
    subst l587 y587 z587
    obtain ⟨rfl, Nq587, Kq587, Eq587, Cq587, t587, kb587, u587, v587, w587, Vq587, Aq587⟩ := hQ587
    have ne589 : b555 ≠ t587 := Nat.ne_of_lt (Nat.lt_of_lt_of_le f583.lt v587)
    have ne590 : b563 ≠ t587 := Nat.ne_of_lt (Nat.lt_of_lt_of_le V575.lt v587)
    have g591 : n0 ≤ t587 := Nat.le_trans f582 v587
    have sf592 : Safe Z ownEL s.vm h574 t587 := Safe.new v587
    have f594 := ((f569.ext E563).wr W574 (Or.inr z568))
    have z593 : h0.size ≤ t587 := Nat.le_trans f594.1 v587
    have N595 := Fr.app Nh580 Nq587
    have R596 := R577.trans (CHr.keep Kq587 (sfS sf578 sf0) R577.1)
    have sf597 := Safe.keep Kq587 (sfS sf578 sf0) R577.1 sf578
    have sf598 := Safe.keep Kq587 (sfS sf578 sf0) R577.1 sf579
    have sf599 := Safe.keep Kq587 (sfS sf578 sf0) R577.1 sf592
    obtain ⟨Lh600, Xh600, Nh600⟩ := own_hide (cells' := 3) (slots' := 6) X587 N595 (Nat.le_of_ble_eq_true rfl) (Nat.le_of_ble_eq_true rfl)
    refine ownSt st587 ?_
    clear st587
    show ownG p.tables e below _ (T587.setTop (fr_law m p0 p1 p2 p3 p4 113 (.val (.int (1 : Int32))) (.val (.int x534)) (.val (.int x537)) (.val (.int x540)) (.val (.int x543)) (.val (.int (own_b (x534 = (46 : Int32))))) (.val (.int (own_b (x537 = (46 : Int32))))) (.val (.int (own_b (x540 = (46 : Int32))))) (.val (.int (own_b (x543 = (46 : Int32))))) (.val (.int (own_b (x534 = (46 : Int32))))) .unset .unset .unset [(.ref b555)]))
    refine ownBy (A := T587.setTop (fr_law m p0 p1 p2 p3 p4 286 (.val (.int (1 : Int32))) (.val (.int x534)) (.val (.int x537)) (.val (.int x540)) (.val (.int x543)) (.val (.int (own_b (x534 = (46 : Int32))))) (.val (.int (own_b (x537 = (46 : Int32))))) (.val (.int (own_b (x540 = (46 : Int32))))) (.val (.int (own_b (x543 = (46 : Int32))))) (.val (.int (own_b (x534 = (46 : Int32))))) (.val (.ref b555)) (.val (.int (0 : Int32))) .unset [(.int (own_b (x534 = (46 : Int32))))])) (fun t kt => ?_) ?_
    · refine XS.astore Xh600.here hx rfl (hb hby at_113) rfl rfl (l' := #[.val (.int p0), .val (.int p1), .val (.int p2), .val (.int p3), .val (.int p4), .val (.int (1 : Int32)), .val (.int x534), .val (.int x537), .val (.int x540), .val (.int x543), .val (.int (own_b (x534 = (46 : Int32)))), .val (.int (own_b (x537 = (46 : Int32)))), .val (.int (own_b (x540 = (46 : Int32)))), .val (.int (own_b (x543 = (46 : Int32)))), .val (.int (own_b (x534 = (46 : Int32)))), .val (.ref b555), .unset, .unset]) rfl ?_
      refine XS.goto Xh600.here hx rfl (pc0 := 115) (pc' := 229) rfl (hb hby at_115) (by decide) (by decide) ?_
      refine XS.iload Xh600.here hx rfl (hb hby at_229) rfl ?_
      show Steps p.tables e below (T587.setTop (fr_law m p0 p1 p2 p3 p4 231 (.val (.int (1 : Int32))) (.val (.int x534)) (.val (.int x537)) (.val (.int x540)) (.val (.int x543)) (.val (.int (own_b (x534 = (46 : Int32))))) (.val (.int (own_b (x537 = (46 : Int32))))) (.val (.int (own_b (x540 = (46 : Int32))))) (.val (.int (own_b (x543 = (46 : Int32))))) (.val (.int (own_b (x534 = (46 : Int32))))) (.val (.ref b555)) .unset .unset [(.int (1 : Int32))])) t
      refine XS.iconst Xh600.here hx rfl (hb hby at_231) ?_
      refine XS.icmpYes Xh600.here hx rfl (pc0 := 232) (pc' := 245) rfl (hb hby at_232) rfl (tlt ((by decide) : (1 : Int32) < (2 : Int32))).1 (by decide) (by decide) ?_
      refine XS.iload Xh600.here hx rfl (hb hby at_245) rfl ?_
      show Steps p.tables e below (T587.setTop (fr_law m p0 p1 p2 p3 p4 247 (.val (.int (1 : Int32))) (.val (.int x534)) (.val (.int x537)) (.val (.int x540)) (.val (.int x543)) (.val (.int (own_b (x534 = (46 : Int32))))) (.val (.int (own_b (x537 = (46 : Int32))))) (.val (.int (own_b (x540 = (46 : Int32))))) (.val (.int (own_b (x543 = (46 : Int32))))) (.val (.int (own_b (x534 = (46 : Int32))))) (.val (.ref b555)) .unset .unset [(.int (1 : Int32))])) t
      refine XS.iconst Xh600.here hx rfl (hb hby at_247) ?_
      refine XS.icmpYes Xh600.here hx rfl (pc0 := 248) (pc' := 261) rfl (hb hby at_248) rfl (tlt ((by decide) : (1 : Int32) < (3 : Int32))).1 (by decide) (by decide) ?_
      refine XS.iload Xh600.here hx rfl (hb hby at_261) rfl ?_
      show Steps p.tables e below (T587.setTop (fr_law m p0 p1 p2 p3 p4 263 (.val (.int (1 : Int32))) (.val (.int x534)) (.val (.int x537)) (.val (.int x540)) (.val (.int x543)) (.val (.int (own_b (x534 = (46 : Int32))))) (.val (.int (own_b (x537 = (46 : Int32))))) (.val (.int (own_b (x540 = (46 : Int32))))) (.val (.int (own_b (x543 = (46 : Int32))))) (.val (.int (own_b (x534 = (46 : Int32))))) (.val (.ref b555)) .unset .unset [(.int (1 : Int32))])) t
      refine XS.iconst Xh600.here hx rfl (hb hby at_263) ?_
      refine XS.icmpYes Xh600.here hx rfl (pc0 := 264) (pc' := 281) rfl (hb hby at_264) rfl (tlt ((by decide) : (1 : Int32) < (4 : Int32))).1 (by decide) (by decide) ?_
      refine XS.iconst Xh600.here hx rfl (hb hby at_281) ?_
      show Steps p.tables e below (T587.setTop (fr_law m p0 p1 p2 p3 p4 282 (.val (.int (1 : Int32))) (.val (.int x534)) (.val (.int x537)) (.val (.int x540)) (.val (.int x543)) (.val (.int (own_b (x534 = (46 : Int32))))) (.val (.int (own_b (x537 = (46 : Int32))))) (.val (.int (own_b (x540 = (46 : Int32))))) (.val (.int (own_b (x543 = (46 : Int32))))) (.val (.int (own_b (x534 = (46 : Int32))))) (.val (.ref b555)) .unset .unset [(.int (0 : Int32))])) t
      refine XS.istore Xh600.here hx rfl (hb hby at_282) rfl (l' := #[.val (.int p0), .val (.int p1), .val (.int p2), .val (.int p3), .val (.int p4), .val (.int (1 : Int32)), .val (.int x534), .val (.int x537), .val (.int x540), .val (.int x543), .val (.int (own_b (x534 = (46 : Int32)))), .val (.int (own_b (x537 = (46 : Int32)))), .val (.int (own_b (x540 = (46 : Int32)))), .val (.int (own_b (x543 = (46 : Int32)))), .val (.int (own_b (x534 = (46 : Int32)))), .val (.ref b555), .val (.int (0 : Int32)), .unset]) rfl ?_
      refine XS.iload Xh600.here hx rfl (hb hby at_284) rfl ?_
      exact kt
    by_cases hc601 : x534 = (46 : Int32)
    · skip
      refine ownBy (A := T587.setTop (fr_law m p0 p1 p2 p3 p4 300 (.val (.int (1 : Int32))) (.val (.int x534)) (.val (.int x537)) (.val (.int x540)) (.val (.int x543)) (.val (.int (own_b (x534 = (46 : Int32))))) (.val (.int (own_b (x537 = (46 : Int32))))) (.val (.int (own_b (x540 = (46 : Int32))))) (.val (.int (own_b (x543 = (46 : Int32))))) (.val (.int (own_b (x534 = (46 : Int32))))) (.val (.ref b555)) (.val (.int (0 : Int32))) .unset [(.int (1 : Int32))])) (fun t kt => ?_) ?_
      · refine XS.ifYes Xh600.here hx rfl (pc0 := 286) (pc' := 299) rfl (hb hby at_286) rfl ((if0 _ _).trans (feq (own_bt0 hc601)).2) (by decide) (by decide) ?_
        refine XS.iconst Xh600.here hx rfl (hb hby at_299) ?_
        exact kt
      refine ownRetH Xh600 hS0 (Nat.le_trans (Nat.le_trans (Nat.le_trans (Nat.le_trans (Nat.le_refl _) E555.1) E563.1) (Keep.of_wr W574).1) Kq587.1) Bd.notSynchronized (v := some (.int (nar .boolean (1 : Int32)))) (fun h => by rw [Bd.returns] at h; cases h) ?_ (R596.trans (CHv.at Xh600 hZ hEL R596.1)) (Nat.le_of_ble_eq_true rfl) (Nat.le_of_ble_eq_true rfl) (fun fs hr => retN Xh600 hx (t := .boolean) Bd.returns (by simp) (hb hby at_300) hr)
      show (Q_law Z p0 p1 p2 p3 p4 G1 G3 h0 n0) (some (.int (nar .boolean (1 : Int32)))) T587.heap _
      exact ⟨rfl, Nh600⟩
    · skip
      refine ownBy (A := T587.setTop (fr_law m p0 p1 p2 p3 p4 303 (.val (.int (1 : Int32))) (.val (.int x534)) (.val (.int x537)) (.val (.int x540)) (.val (.int x543)) (.val (.int (own_b (x534 = (46 : Int32))))) (.val (.int (own_b (x537 = (46 : Int32))))) (.val (.int (own_b (x540 = (46 : Int32))))) (.val (.int (own_b (x543 = (46 : Int32))))) (.val (.int (own_b (x534 = (46 : Int32))))) (.val (.ref b555)) (.val (.int (0 : Int32))) .unset [(.ref b555)])) (fun t kt => ?_) ?_
      · refine XS.ifNo Xh600.here hx rfl (hb hby at_286) rfl ((if0 _ _).trans (teq (own_bf0 hc601)).2) ?_
        refine XS.iload Xh600.here hx rfl (hb hby at_289) rfl ?_
        refine XS.ifNo Xh600.here hx rfl (hb hby at_291) rfl ((if0 _ _).trans (teq (own_bf0 hc601)).2) ?_
        show Steps p.tables e below (T587.setTop (fr_law m p0 p1 p2 p3 p4 294 (.val (.int (1 : Int32))) (.val (.int x534)) (.val (.int x537)) (.val (.int x540)) (.val (.int x543)) (.val (.int (own_b (x534 = (46 : Int32))))) (.val (.int (own_b (x537 = (46 : Int32))))) (.val (.int (own_b (x540 = (46 : Int32))))) (.val (.int (own_b (x543 = (46 : Int32))))) (.val (.int (own_b (x534 = (46 : Int32))))) (.val (.ref b555)) (.val (.int (0 : Int32))) .unset [])) t
        refine XS.iload Xh600.here hx rfl (hb hby at_294) rfl ?_
        refine XS.ifYes Xh600.here hx rfl (pc0 := 296) (pc' := 301) rfl (hb hby at_296) rfl ((if0 _ _).trans (teq ((by decide) : (0 : Int32) = (0 : Int32))).1) (by decide) (by decide) ?_
        refine XS.aload Xh600.here hx rfl (hb hby at_301) rfl rfl ?_
        exact kt
      have f603 := (f583.keep Kq587)
      have f604 := (f586.keep Kq587 (allS g556 all0))
      have f605 := (Nat.le_trans f582 Kq587.1)
      obtain ⟨vv606, _, ⟨T606, L606, k606, n606⟩, -, X606, hS606, hg606, ⟨Lc606, hQ606, l606, y606, z606, hC606⟩, st606⟩ := callSS Xh600 hx (y := (⟨"com/example/boring_outbox/boringoutbox/EventType", "of", "(Ljava/lang/String;)Lcom/example/boring_outbox/boringoutbox/EventType;"⟩ : MethodName)) hown (mvT hZ (Wd38 hw)) (mvT hZ (Wd39 hw)) (mvT hZ (Wd40 hw)) (mvT hZ (Wd41 hw)) (by decide) (backOfSH (W := 0) (s := s) (EL := ownEL) (c_of1 l Z a0 hw [] b555 t587 kb587 x534 G1 G3 T587.heap n0 f605 f603 Vq587 Cq587 Aq587 hp581 hx534 hc601 O2 P5 f604 O4 rG3) hZ (Wd41 hw) (Wd40 hw) (by decide) (by decide) hEL R596.1) (g := (fr_law m p0 p1 p2 p3 p4 303 (.val (.int (1 : Int32))) (.val (.int x534)) (.val (.int x537)) (.val (.int x540)) (.val (.int x543)) (.val (.int (own_b (x534 = (46 : Int32))))) (.val (.int (own_b (x537 = (46 : Int32))))) (.val (.int (own_b (x540 = (46 : Int32))))) (.val (.int (own_b (x543 = (46 : Int32))))) (.val (.int (own_b (x534 = (46 : Int32))))) (.val (.ref b555)) (.val (.int (0 : Int32))) .unset [(.ref b555)])) rfl (by rw [hml]; rfl) (argsL := [(.ref b555)]) (rest := []) (lenOf pd_607 rfl) rfl (by show 2 * 0 + _ ≤ _; exact Nat.le_of_eq rfl) (hb hby at_303) (fun _ _ => ⟨rfl, rfl, (by decide : 3 + 3 ≤ _), (by decide : 6 + 77 ≤ _)⟩)
      dsimp only [Pt.U, Pt.locs, Pt.cells, Pt.slots] at X606 l606 y606 z606 st606 hQ606 hS606 hg606 hC606
      subst l606 y606 z606
      obtain ⟨y606, rfl, Nq606, Kq606, zq606, Eq606, Fa606⟩ := hQ606
      have ne608 : b555 ≠ y606 := Nat.ne_of_lt (Nat.lt_of_lt_of_le f603.lt zq606)
      have f610 := (V575.keep Kq587 (ninS (Ne.symm ne564) nin0))
      have ne609 : b563 ≠ y606 := Nat.ne_of_lt (Nat.lt_of_lt_of_le f610.lt zq606)
      have ne611 : t587 ≠ y606 := Nat.ne_of_lt (Nat.lt_of_lt_of_le Aq587.lt zq606)
      have g612 : n0 ≤ y606 := Nat.le_trans f605 zq606
      have f614 := (f594.trans Kq587 (allS (Or.inr z558) all0))
      have z613 : h0.size ≤ y606 := Nat.le_trans f614.1 zq606
      have N615 := Fr.app Nh600 Nq606
      have R617 := R596.trans hC606
      have sf618 := CHr.safe hC606 f603.lt sf597
      have sf619 := CHr.safe hC606 f610.lt sf598
      have sf620 := CHr.safe hC606 Aq587.lt sf599
      obtain ⟨XR621, hSR621, hZ621, hown621⟩ := rebS hS0 (Nat.le_trans (Nat.le_trans (Nat.le_trans (Nat.le_trans (Nat.le_refl _) E555.1) E563.1) (Keep.of_wr W574).1) Kq587.1) X606 hS606 hg606 hZ hown
      obtain ⟨Lh622, Xh622, Nh622⟩ := own_hide (cells' := 6) (slots' := 83) XR621 N615 (Nat.le_of_ble_eq_true rfl) (Nat.le_of_ble_eq_true rfl)
      refine ownSt st606 ?_
      clear st606
      show ownG p.tables e below _ (T606.setTop (fr_law m p0 p1 p2 p3 p4 306 (.val (.int (1 : Int32))) (.val (.int x534)) (.val (.int x537)) (.val (.int x540)) (.val (.int x543)) (.val (.int (own_b (x534 = (46 : Int32))))) (.val (.int (own_b (x537 = (46 : Int32))))) (.val (.int (own_b (x540 = (46 : Int32))))) (.val (.int (own_b (x543 = (46 : Int32))))) (.val (.int (own_b (x534 = (46 : Int32))))) (.val (.ref b555)) (.val (.int (0 : Int32))) .unset [(.ref y606)]))
      refine ownBy (A := T606.setTop (fr_law m p0 p1 p2 p3 p4 317 (.val (.int (1 : Int32))) (.val (.int x534)) (.val (.int x537)) (.val (.int x540)) (.val (.int x543)) (.val (.int (own_b (x534 = (46 : Int32))))) (.val (.int (own_b (x537 = (46 : Int32))))) (.val (.int (own_b (x540 = (46 : Int32))))) (.val (.int (own_b (x543 = (46 : Int32))))) (.val (.int (own_b (x534 = (46 : Int32))))) (.val (.ref b555)) (.val (.int (0 : Int32))) (.val (.ref y606)) [(.ref y606), (.ref b555)])) (fun t kt => ?_) ?_
      · refine XS.astore Xh622.here hx rfl (hb hby at_306) rfl rfl (l' := #[.val (.int p0), .val (.int p1), .val (.int p2), .val (.int p3), .val (.int p4), .val (.int (1 : Int32)), .val (.int x534), .val (.int x537), .val (.int x540), .val (.int x543), .val (.int (own_b (x534 = (46 : Int32)))), .val (.int (own_b (x537 = (46 : Int32)))), .val (.int (own_b (x540 = (46 : Int32)))), .val (.int (own_b (x543 = (46 : Int32)))), .val (.int (own_b (x534 = (46 : Int32)))), .val (.ref b555), .val (.int (0 : Int32)), .val (.ref y606)]) rfl ?_
        refine XS.aload Xh622.here hx rfl (hb hby at_308) rfl rfl ?_
        refine XS.ifnullNo Xh622.here hx rfl (hb hby at_310) rfl ?_
        show Steps p.tables e below (T606.setTop (fr_law m p0 p1 p2 p3 p4 313 (.val (.int (1 : Int32))) (.val (.int x534)) (.val (.int x537)) (.val (.int x540)) (.val (.int x543)) (.val (.int (own_b (x534 = (46 : Int32))))) (.val (.int (own_b (x537 = (46 : Int32))))) (.val (.int (own_b (x540 = (46 : Int32))))) (.val (.int (own_b (x543 = (46 : Int32))))) (.val (.int (own_b (x534 = (46 : Int32))))) (.val (.ref b555)) (.val (.int (0 : Int32))) (.val (.ref y606)) [])) t
        refine XS.aload Xh622.here hx rfl (hb hby at_313) rfl rfl ?_
        refine XS.aload Xh622.here hx rfl (hb hby at_315) rfl rfl ?_
        exact kt
      have f623 := (Nat.le_trans f605 Kq606.1)
      obtain ⟨cq624, kq624, q624a, q624b, q624c⟩ := isOf hZ621 rfl Eq606
      obtain ⟨vv624, _, ⟨T624, L624, k624, n624⟩, -, X624, ⟨Lc624, hQ624, l624, y624, z624⟩, st624⟩ := Xh622.virtualBack hx (y := (⟨"com/example/boring_outbox/boringoutbox/EventType", "name", "()Ljava/lang/String;"⟩ : MethodName)) (z := (⟨"com/example/boring_outbox/boringoutbox/EventType", "name", "()Ljava/lang/String;"⟩ : MethodName)) hown621 (mvT hZ621 (Wd97 hw)) (mvT hZ621 (Wd98 hw)) (notFace_of_selects (args := #[]) (mvT hZ621 (Wd100 hw))) (mvT hZ621 (Wd100 hw)) (mvT hZ621 (Wd99 hw)) (by decide) (backOf (W := 1) (c_gname l Z a0 hw [] y606 (.ref b555) T606.heap n0 f623 Fa606 rfl) hZ621 (Wd101 hw) (Wd40 hw) (by decide) (by decide)) q624a q624c (g := (fr_law m p0 p1 p2 p3 p4 317 (.val (.int (1 : Int32))) (.val (.int x534)) (.val (.int x537)) (.val (.int x540)) (.val (.int x543)) (.val (.int (own_b (x534 = (46 : Int32))))) (.val (.int (own_b (x537 = (46 : Int32))))) (.val (.int (own_b (x540 = (46 : Int32))))) (.val (.int (own_b (x543 = (46 : Int32))))) (.val (.int (own_b (x534 = (46 : Int32))))) (.val (.ref b555)) (.val (.int (0 : Int32))) (.val (.ref y606)) [(.ref y606), (.ref b555)])) rfl (by rw [hml]; rfl) (Steps.refl _) (argsL := []) (rest := [(.ref b555)]) (lenOf pd_625 rfl) rfl (by show 2 * 0 + _ ≤ _; exact Nat.le_of_eq rfl) (hb hby at_317) (fun _ _ => ⟨rfl, rfl, (by decide : 6 + 0 ≤ _), (by decide : 83 + 0 ≤ _)⟩)
      dsimp only [Pt.U, Pt.locs, Pt.cells, Pt.slots] at X624 l624 y624 z624 st624 hQ624
      subst l624 y624 z624
      obtain ⟨rfl, Nq624, Eq624⟩ := hQ624
      have N626 := Fr.app Nh622 Nq624
      obtain ⟨Lh627, Xh627, Nh627⟩ := own_hide (cells' := 6) (slots' := 83) X624 N626 (Nat.le_of_ble_eq_true rfl) (Nat.le_of_ble_eq_true rfl)
      refine ownSt st624 ?_
      clear st624
      show ownG p.tables e below _ (T624.setTop (fr_law m p0 p1 p2 p3 p4 320 (.val (.int (1 : Int32))) (.val (.int x534)) (.val (.int x537)) (.val (.int x540)) (.val (.int x543)) (.val (.int (own_b (x534 = (46 : Int32))))) (.val (.int (own_b (x537 = (46 : Int32))))) (.val (.int (own_b (x540 = (46 : Int32))))) (.val (.int (own_b (x543 = (46 : Int32))))) (.val (.int (own_b (x534 = (46 : Int32))))) (.val (.ref b555)) (.val (.int (0 : Int32))) (.val (.ref y606)) [(.ref b555), (.ref b555)]))
      have f630 := (f603.keep Kq606)
      obtain ⟨cq628, kq628, q628a, q628b, q628c⟩ := isOf hZ621 Eq624 f630
      obtain ⟨vv628, _, ⟨T628, L628, k628, n628⟩, -, X628, ⟨Lc628, hQ628, l628, y628, z628⟩, st628⟩ := Xh627.virtualBack hx (y := (⟨"java/lang/String", "equals", "(Ljava/lang/Object;)Z"⟩ : MethodName)) (z := (⟨"java/lang/String", "equals", "(Ljava/lang/Object;)Z"⟩ : MethodName)) hown621 (mvT hZ621 (Wd102 hw)) (mvT hZ621 (Wd103 hw)) (notFace_of_selects (args := #[]) (mvT hZ621 (Wd105 hw))) (mvT hZ621 (Wd105 hw)) (mvT hZ621 (Wd104 hw)) (by decide) (backOf (W := 0) (c_eqs l Z a0 hw [] b555 T606.heap n0 f623 ) hZ621 (Wd106 hw) (Wd10 hw) (by decide) (by decide)) q628a q628c (g := (fr_law m p0 p1 p2 p3 p4 320 (.val (.int (1 : Int32))) (.val (.int x534)) (.val (.int x537)) (.val (.int x540)) (.val (.int x543)) (.val (.int (own_b (x534 = (46 : Int32))))) (.val (.int (own_b (x537 = (46 : Int32))))) (.val (.int (own_b (x540 = (46 : Int32))))) (.val (.int (own_b (x543 = (46 : Int32))))) (.val (.int (own_b (x534 = (46 : Int32))))) (.val (.ref b555)) (.val (.int (0 : Int32))) (.val (.ref y606)) [(.ref b555), (.ref b555)])) rfl (by rw [hml]; rfl) (Steps.refl _) (argsL := [(.ref b555)]) (rest := []) (lenOf pd_629 rfl) rfl (by show 2 * 0 + _ ≤ _; exact Nat.le_of_eq rfl) (hb hby at_320) (fun _ _ => ⟨rfl, Eq624, (by decide : 6 + 0 ≤ _), (by decide : 83 + 0 ≤ _)⟩)
      dsimp only [Pt.U, Pt.locs, Pt.cells, Pt.slots] at X628 l628 y628 z628 st628 hQ628
      subst l628 y628 z628
      obtain ⟨rfl, Nq628, Eq628⟩ := hQ628
      have N631 := Fr.app Nh627 Nq628
      obtain ⟨Lh632, Xh632, Nh632⟩ := own_hide (cells' := 6) (slots' := 83) X628 N631 (Nat.le_of_ble_eq_true rfl) (Nat.le_of_ble_eq_true rfl)
      refine ownSt st628 ?_
      clear st628
      show ownG p.tables e below _ (T628.setTop (fr_law m p0 p1 p2 p3 p4 323 (.val (.int (1 : Int32))) (.val (.int x534)) (.val (.int x537)) (.val (.int x540)) (.val (.int x543)) (.val (.int (own_b (x534 = (46 : Int32))))) (.val (.int (own_b (x537 = (46 : Int32))))) (.val (.int (own_b (x540 = (46 : Int32))))) (.val (.int (own_b (x543 = (46 : Int32))))) (.val (.int (own_b (x534 = (46 : Int32))))) (.val (.ref b555)) (.val (.int (0 : Int32))) (.val (.ref y606)) [(.int (1 : Int32))]))
      refine ownBy (A := T628.setTop (fr_law m p0 p1 p2 p3 p4 331 (.val (.int (1 : Int32))) (.val (.int x534)) (.val (.int x537)) (.val (.int x540)) (.val (.int x543)) (.val (.int (own_b (x534 = (46 : Int32))))) (.val (.int (own_b (x537 = (46 : Int32))))) (.val (.int (own_b (x540 = (46 : Int32))))) (.val (.int (own_b (x543 = (46 : Int32))))) (.val (.int (own_b (x534 = (46 : Int32))))) (.val (.ref b555)) (.val (.int (0 : Int32))) (.val (.ref y606)) [(.int (1 : Int32))])) (fun t kt => ?_) ?_
      · refine XS.ifNo Xh632.here hx rfl (hb hby at_323) rfl ((if0 _ _).trans (feq ((by decide) : ¬ ((1 : Int32) = (0 : Int32)))).1) ?_
        refine XS.iconst Xh632.here hx rfl (hb hby at_326) ?_
        refine XS.goto Xh632.here hx rfl (pc0 := 327) (pc' := 331) rfl (hb hby at_327) (by decide) (by decide) ?_
        exact kt
      refine ownRetH Xh632 hSR621 (by rw [Eq628]; exact (Nat.le_refl _)) Bd.notSynchronized (v := some (.int (nar .boolean (1 : Int32)))) (fun h => by rw [Bd.returns] at h; cases h) ?_ (R617.trans ((by rw [Eq628]; exact CHv.at Xh632 hZ621 hEL R617.1))) (Nat.le_of_ble_eq_true rfl) (Nat.le_of_ble_eq_true rfl) (fun fs hr => retN Xh632 hx (t := .boolean) Bd.returns (by simp) (hb hby at_331) hr)
      show (Q_law Z p0 p1 p2 p3 p4 G1 G3 h0 n0) (some (.int (nar .boolean (1 : Int32)))) T628.heap _
      rw [Eq628]
      exact ⟨rfl, Nh632⟩
  · rw [hn554]
    show ownG p.tables e below _ (T543.setTop (fr_law m p0 p1 p2 p3 p4 88 (.val (.int (2 : Int32))) (.val (.int x534)) (.val (.int x537)) (.val (.int x540)) (.val (.int x543)) (.val (.int (own_b (x534 = (46 : Int32))))) (.val (.int (own_b (x537 = (46 : Int32))))) (.val (.int (own_b (x540 = (46 : Int32))))) (.val (.int (own_b (x543 = (46 : Int32))))) .unset .unset .unset .unset []))
    refine ownBy (A := T543.setTop (fr_law m p0 p1 p2 p3 p4 128 (.val (.int (2 : Int32))) (.val (.int x534)) (.val (.int x537)) (.val (.int x540)) (.val (.int x543)) (.val (.int (own_b (x534 = (46 : Int32))))) (.val (.int (own_b (x537 = (46 : Int32))))) (.val (.int (own_b (x540 = (46 : Int32))))) (.val (.int (own_b (x543 = (46 : Int32))))) (.val (.int (own_b (x537 = (46 : Int32))))) .unset .unset .unset [])) (fun t kt => ?_) ?_
    · refine XS.iload Xh545.here hx rfl (hb hby at_88) rfl ?_
      refine XS.iconst Xh545.here hx rfl (hb hby at_90) ?_
      refine XS.icmpYes Xh545.here hx rfl (pc0 := 91) (pc' := 118) rfl (hb hby at_91) rfl (feq ((by decide) : ¬ ((2 : Int32) = (1 : Int32)))).2 (by decide) (by decide) ?_
      show Steps p.tables e below (T543.setTop (fr_law m p0 p1 p2 p3 p4 118 (.val (.int (2 : Int32))) (.val (.int x534)) (.val (.int x537)) (.val (.int x540)) (.val (.int x543)) (.val (.int (own_b (x534 = (46 : Int32))))) (.val (.int (own_b (x537 = (46 : Int32))))) (.val (.int (own_b (x540 = (46 : Int32))))) (.val (.int (own_b (x543 = (46 : Int32))))) .unset .unset .unset .unset [])) t
      refine XS.iload Xh545.here hx rfl (hb hby at_118) rfl ?_
      refine XS.iconst Xh545.here hx rfl (hb hby at_120) ?_
      refine XS.icmpNo Xh545.here hx rfl (hb hby at_121) rfl (teq ((by decide) : (2 : Int32) = (2 : Int32))).2 ?_
      show Steps p.tables e below (T543.setTop (fr_law m p0 p1 p2 p3 p4 124 (.val (.int (2 : Int32))) (.val (.int x534)) (.val (.int x537)) (.val (.int x540)) (.val (.int x543)) (.val (.int (own_b (x534 = (46 : Int32))))) (.val (.int (own_b (x537 = (46 : Int32))))) (.val (.int (own_b (x540 = (46 : Int32))))) (.val (.int (own_b (x543 = (46 : Int32))))) .unset .unset .unset .unset [])) t
      refine XS.iload Xh545.here hx rfl (hb hby at_124) rfl ?_
      refine XS.istore Xh545.here hx rfl (hb hby at_126) rfl (l' := #[.val (.int p0), .val (.int p1), .val (.int p2), .val (.int p3), .val (.int p4), .val (.int (2 : Int32)), .val (.int x534), .val (.int x537), .val (.int x540), .val (.int x543), .val (.int (own_b (x534 = (46 : Int32)))), .val (.int (own_b (x537 = (46 : Int32)))), .val (.int (own_b (x540 = (46 : Int32)))), .val (.int (own_b (x543 = (46 : Int32)))), .val (.int (own_b (x537 = (46 : Int32)))), .unset, .unset, .unset]) rfl ?_
      exact kt
    obtain ⟨T634, h634, X634, e634, E634, A634, D634, -, st634⟩ := newO Xh545 hx hZ hown (Wd8 hw) (Wd9 hw) (Wd10 hw) Eq543 (g := (fr_law m p0 p1 p2 p3 p4 128 (.val (.int (2 : Int32))) (.val (.int x534)) (.val (.int x537)) (.val (.int x540)) (.val (.int x543)) (.val (.int (own_b (x534 = (46 : Int32))))) (.val (.int (own_b (x537 = (46 : Int32))))) (.val (.int (own_b (x540 = (46 : Int32))))) (.val (.int (own_b (x543 = (46 : Int32))))) (.val (.int (own_b (x537 = (46 : Int32))))) .unset .unset .unset [])) rfl (hb hby at_128) (by decide) (by decide)
    obtain ⟨b634, g634⟩ : ∃ z, z = h0.size := ⟨_, rfl⟩
    rw [← g634] at A634 D634 st634
    have g635 : n0 ≤ b634 := Nat.le_trans Z0 (Nat.le_of_eq g634.symm)
    have sf636 : Safe Z ownEL s.vm h0 b634 := Safe.new (Nat.le_of_eq g634.symm)
    have z637 : h0.size ≤ b634 := Nat.le_trans (Keep.refl h0 []).1 (Nat.le_of_eq g634.symm)
    have R638 := R0.trans (CHr.ext E634 R0.1)
    have sf639 := Safe.ext E634 R0.1 sf636
    have F640 : Fld Z h634 b634 "java/lang/String" "coder" "B" (.int (0 : Int32)) := D634 (Or.inr (Wd35 hw)) (ty := .byte) (by decide)
    have F641 : Fld Z h634 b634 "java/lang/String" "value" "[B" .null := D634 (Or.inr (Wd37 hw)) (ty := (.array .byte)) (by decide)
    refine ownBy st634 ?_
    clear st634
    show ownG p.tables e below _ (T634.setTop (fr_law m p0 p1 p2 p3 p4 131 (.val (.int (2 : Int32))) (.val (.int x534)) (.val (.int x537)) (.val (.int x540)) (.val (.int x543)) (.val (.int (own_b (x534 = (46 : Int32))))) (.val (.int (own_b (x537 = (46 : Int32))))) (.val (.int (own_b (x540 = (46 : Int32))))) (.val (.int (own_b (x543 = (46 : Int32))))) (.val (.int (own_b (x537 = (46 : Int32))))) .unset .unset .unset [(.ref b634)]))
    refine ownBy (A := T634.setTop (fr_law m p0 p1 p2 p3 p4 133 (.val (.int (2 : Int32))) (.val (.int x534)) (.val (.int x537)) (.val (.int x540)) (.val (.int x543)) (.val (.int (own_b (x534 = (46 : Int32))))) (.val (.int (own_b (x537 = (46 : Int32))))) (.val (.int (own_b (x540 = (46 : Int32))))) (.val (.int (own_b (x543 = (46 : Int32))))) (.val (.int (own_b (x537 = (46 : Int32))))) .unset .unset .unset [(.int (2 : Int32)), (.ref b634), (.ref b634)])) (fun t kt => ?_) ?_
    · refine XS.dup X634.here hx rfl (hb hby at_131) rfl rfl ?_
      refine XS.iconst X634.here hx rfl (hb hby at_132) ?_
      exact kt
    obtain ⟨T642, h642, k642, X642, e642, E642, A642, st642⟩ := newP X634 hx hZ (aty := .char) (Wd11 hw) e634 (g := (fr_law m p0 p1 p2 p3 p4 133 (.val (.int (2 : Int32))) (.val (.int x534)) (.val (.int x537)) (.val (.int x540)) (.val (.int x543)) (.val (.int (own_b (x534 = (46 : Int32))))) (.val (.int (own_b (x537 = (46 : Int32))))) (.val (.int (own_b (x540 = (46 : Int32))))) (.val (.int (own_b (x543 = (46 : Int32))))) (.val (.int (own_b (x537 = (46 : Int32))))) .unset .unset .unset [(.int (2 : Int32)), (.ref b634), (.ref b634)])) rfl (hb hby at_133) rfl (by decide : ¬ ((2 : Int32) < (0 : Int32))) (cap := 2) (by decide) (by decide) (by decide) (by decide)
    obtain ⟨b642, g642⟩ : ∃ z, z = h634.size := ⟨_, rfl⟩
    rw [← g642] at A642 st642
    have ne643 : b634 ≠ b642 := Nat.ne_of_lt (Nat.lt_of_lt_of_le A634.lt (Nat.le_of_eq g642.symm))
    have f645 := (Nat.le_trans Z0 E634.1)
    have g644 : n0 ≤ b642 := Nat.le_trans f645 (Nat.le_of_eq g642.symm)
    have sf646 : Safe Z ownEL s.vm h634 b642 := Safe.new (Nat.le_of_eq g642.symm)
    have f648 := ((Keep.refl h0 []).ext E634)
    have z647 : h0.size ≤ b642 := Nat.le_trans f648.1 (Nat.le_of_eq g642.symm)
    have R649 := R638.trans (CHr.ext E642 R638.1)
    have sf650 := Safe.ext E642 R638.1 sf639
    have sf651 := Safe.ext E642 R638.1 sf646
    have V652 : Arv Z h642 b642 k642 .char (2 : Int32) [(.int (0 : Int32)), (.int (0 : Int32))] (.int (0 : Int32)) := (Arv.new A642 (by decide)).pad (pad_rep [] (.int (0 : Int32)) 2)
    refine ownBy st642 ?_
    clear st642
    show ownG p.tables e below _ (T642.setTop (fr_law m p0 p1 p2 p3 p4 135 (.val (.int (2 : Int32))) (.val (.int x534)) (.val (.int x537)) (.val (.int x540)) (.val (.int x543)) (.val (.int (own_b (x534 = (46 : Int32))))) (.val (.int (own_b (x537 = (46 : Int32))))) (.val (.int (own_b (x540 = (46 : Int32))))) (.val (.int (own_b (x543 = (46 : Int32))))) (.val (.int (own_b (x537 = (46 : Int32))))) .unset .unset .unset [(.ref b642), (.ref b634), (.ref b634)]))
    refine ownBy (A := T642.setTop (fr_law m p0 p1 p2 p3 p4 139 (.val (.int (2 : Int32))) (.val (.int x534)) (.val (.int x537)) (.val (.int x540)) (.val (.int x543)) (.val (.int (own_b (x534 = (46 : Int32))))) (.val (.int (own_b (x537 = (46 : Int32))))) (.val (.int (own_b (x540 = (46 : Int32))))) (.val (.int (own_b (x543 = (46 : Int32))))) (.val (.int (own_b (x537 = (46 : Int32))))) .unset .unset .unset [(.int x534), (.int (0 : Int32)), (.ref b642), (.ref b642), (.ref b634), (.ref b634)])) (fun t kt => ?_) ?_
    · refine XS.dup X642.here hx rfl (hb hby at_135) rfl rfl ?_
      refine XS.iconst X642.here hx rfl (hb hby at_136) ?_
      refine XS.iload X642.here hx rfl (hb hby at_137) rfl ?_
      exact kt
    obtain ⟨cl653, Ar653, q653, S653, N653, H653, G653⟩ := id V652
    have hin653 : ¬ ((0 : Int32) < 0 ∨ cl653.slots.size ≤ ((0 : Int32)).toNatClampNeg) := inb_of S653 ⟨by decide, by decide⟩
    obtain ⟨T653, h653, X653, e653, W653, st653⟩ := stC X642 hx hZ e642 Ar653 (j := (0 : Int32)) hin653 (g := (fr_law m p0 p1 p2 p3 p4 139 (.val (.int (2 : Int32))) (.val (.int x534)) (.val (.int x537)) (.val (.int x540)) (.val (.int x543)) (.val (.int (own_b (x534 = (46 : Int32))))) (.val (.int (own_b (x537 = (46 : Int32))))) (.val (.int (own_b (x540 = (46 : Int32))))) (.val (.int (own_b (x543 = (46 : Int32))))) (.val (.int (own_b (x537 = (46 : Int32))))) .unset .unset .unset [(.int x534), (.int (0 : Int32)), (.ref b642), (.ref b642), (.ref b634), (.ref b634)])) rfl rfl (hb hby at_139)
    have V654 : Arv Z h653 b642 k642 .char (2 : Int32) [(.int (nar .char x534)), (.int (0 : Int32))] (.int (0 : Int32)) := Arv.set Ar653 q653 S653 N653 H653 G653 (fits_nar_char _) W653 0 rfl (Nat.le_of_ble_eq_true rfl)
    rw [own_nar_id hx534] at V654
    clear hin653 G653 H653 N653 S653 q653 Ar653 cl653 V652
    have N655 := Fr.snoc X653 Nh545 g644
    have R656 := R649.trans (CHr.wr W653 sf651 R649.1)
    have sf657 := Safe.wr W653 sf651 R649.1 sf650
    have sf658 := Safe.wr W653 sf651 R649.1 sf651
    obtain ⟨Lh659, Xh659, Nh659⟩ := own_hide (cells' := 2) (slots' := 6) X653 N655 (Nat.le_of_ble_eq_true rfl) (Nat.le_of_ble_eq_true rfl)
    refine ownBy st653 ?_
    clear st653
    show ownG p.tables e below _ (T653.setTop (fr_law m p0 p1 p2 p3 p4 140 (.val (.int (2 : Int32))) (.val (.int x534)) (.val (.int x537)) (.val (.int x540)) (.val (.int x543)) (.val (.int (own_b (x534 = (46 : Int32))))) (.val (.int (own_b (x537 = (46 : Int32))))) (.val (.int (own_b (x540 = (46 : Int32))))) (.val (.int (own_b (x543 = (46 : Int32))))) (.val (.int (own_b (x537 = (46 : Int32))))) .unset .unset .unset [(.ref b642), (.ref b634), (.ref b634)]))
    refine ownBy (A := T653.setTop (fr_law m p0 p1 p2 p3 p4 144 (.val (.int (2 : Int32))) (.val (.int x534)) (.val (.int x537)) (.val (.int x540)) (.val (.int x543)) (.val (.int (own_b (x534 = (46 : Int32))))) (.val (.int (own_b (x537 = (46 : Int32))))) (.val (.int (own_b (x540 = (46 : Int32))))) (.val (.int (own_b (x543 = (46 : Int32))))) (.val (.int (own_b (x537 = (46 : Int32))))) .unset .unset .unset [(.int x537), (.int (1 : Int32)), (.ref b642), (.ref b642), (.ref b634), (.ref b634)])) (fun t kt => ?_) ?_
    · refine XS.dup Xh659.here hx rfl (hb hby at_140) rfl rfl ?_
      refine XS.iconst Xh659.here hx rfl (hb hby at_141) ?_
      refine XS.iload Xh659.here hx rfl (hb hby at_142) rfl ?_
      exact kt
    obtain ⟨cl660, Ar660, q660, S660, N660, H660, G660⟩ := id V654
    have hin660 : ¬ ((1 : Int32) < 0 ∨ cl660.slots.size ≤ ((1 : Int32)).toNatClampNeg) := inb_of S660 ⟨by decide, by decide⟩
    obtain ⟨T660, h660, X660, e660, W660, st660⟩ := stC Xh659 hx hZ e653 Ar660 (j := (1 : Int32)) hin660 (g := (fr_law m p0 p1 p2 p3 p4 144 (.val (.int (2 : Int32))) (.val (.int x534)) (.val (.int x537)) (.val (.int x540)) (.val (.int x543)) (.val (.int (own_b (x534 = (46 : Int32))))) (.val (.int (own_b (x537 = (46 : Int32))))) (.val (.int (own_b (x540 = (46 : Int32))))) (.val (.int (own_b (x543 = (46 : Int32))))) (.val (.int (own_b (x537 = (46 : Int32))))) .unset .unset .unset [(.int x537), (.int (1 : Int32)), (.ref b642), (.ref b642), (.ref b634), (.ref b634)])) rfl rfl (hb hby at_144)
    have V661 : Arv Z h660 b642 k642 .char (2 : Int32) [(.int x534), (.int (nar .char x537))] (.int (0 : Int32)) := Arv.set Ar660 q660 S660 N660 H660 G660 (fits_nar_char _) W660 1 rfl (Nat.le_of_ble_eq_true rfl)
    rw [own_nar_id hx537] at V661
    clear hin660 G660 H660 N660 S660 q660 Ar660 cl660 V654
    have N662 := Fr.snoc X660 Nh659 g644
    have R663 := R656.trans (CHr.wr W660 sf658 R656.1)
    have sf664 := Safe.wr W660 sf658 R656.1 sf657
    have sf665 := Safe.wr W660 sf658 R656.1 sf658
    obtain ⟨Lh666, Xh666, Nh666⟩ := own_hide (cells' := 2) (slots' := 6) X660 N662 (Nat.le_of_ble_eq_true rfl) (Nat.le_of_ble_eq_true rfl)
    refine ownBy st660 ?_
    clear st660
    show ownG p.tables e below _ (T660.setTop (fr_law m p0 p1 p2 p3 p4 145 (.val (.int (2 : Int32))) (.val (.int x534)) (.val (.int x537)) (.val (.int x540)) (.val (.int x543)) (.val (.int (own_b (x534 = (46 : Int32))))) (.val (.int (own_b (x537 = (46 : Int32))))) (.val (.int (own_b (x540 = (46 : Int32))))) (.val (.int (own_b (x543 = (46 : Int32))))) (.val (.int (own_b (x537 = (46 : Int32))))) .unset .unset .unset [(.ref b642), (.ref b634), (.ref b634)]))
    have hp667 : ∀ c ∈ ([x534, x537] : List Int32), ¬ c < 0 ∧ ¬ (255 : Int32) < c := by
      intro c hc
      simp only [List.mem_cons, List.not_mem_nil, or_false] at hc
      rcases hc with rfl | rfl
      · exact own_id_rng hx534
      · exact own_id_rng hx537
    have f668 := (Nat.le_trans (Nat.le_trans (Nat.le_trans f645 E642.1) (Keep.of_wr W653).1) (Keep.of_wr W660).1)
    have f669 := (((A634.ext E642).wr W653).wr W660)
    have f670 := (((F641.ext E642).other W653 (Or.inl ne643)).other W660 (Or.inl ne643))
    have f671 := (((F640.ext E642).other W653 (Or.inl ne643)).other W660 (Or.inl ne643))
    have f672 := ((((X00.ext E634).ext E642).wr W653 g644).wr W660 g644)
    obtain ⟨vv673, _, ⟨T673, L673, k673, n673⟩, -, X673, ⟨Lc673, hQ673, l673, y673, z673⟩, st673⟩ := Xh666.specialBack hx (y := (⟨"java/lang/String", "<init>", "([C)V"⟩ : MethodName)) rfl hown (mvT hZ (Wd12 hw)) (mvT hZ (Wd13 hw)) (mvT hZ (Wd14 hw)) (by decide) (StrChars.Road.backV (W := 1) hZ hws (kI := 4) (Wd9 hw) (cs := ([x534, x537] : List Int32)) (bs := (([x534, x537] : List Int32)).map (fun c => c.toInt8.toInt32)) (n := 2) g635 f668 f669 f670 f671 V661 (O2.ext f672.2) P5 rfl rfl (by decide) (by decide) hp667 rfl (by decide) (by decide)) (g := (fr_law m p0 p1 p2 p3 p4 145 (.val (.int (2 : Int32))) (.val (.int x534)) (.val (.int x537)) (.val (.int x540)) (.val (.int x543)) (.val (.int (own_b (x534 = (46 : Int32))))) (.val (.int (own_b (x537 = (46 : Int32))))) (.val (.int (own_b (x540 = (46 : Int32))))) (.val (.int (own_b (x543 = (46 : Int32))))) (.val (.int (own_b (x537 = (46 : Int32))))) .unset .unset .unset [(.ref b642), (.ref b634), (.ref b634)])) rfl (by rw [hml]; rfl) (Steps.refl _) (a := b634) (argsL := [(.ref b642)]) (rest := [(.ref b634)]) (lenOf pd_588 rfl) rfl (by show 2 * 0 + _ ≤ _; exact Nat.le_of_eq rfl) (hb hby at_145) (fun _ _ => ⟨rfl, e660, (by decide : 2 + 1 ≤ _), (by decide : 6 + 2 ≤ _)⟩)
    dsimp only [Pt.U, Pt.locs, Pt.cells, Pt.slots] at X673 l673 y673 z673 st673 hQ673
    subst l673 y673 z673
    obtain ⟨rfl, Nq673, Kq673, Eq673, Cq673, t673, kb673, u673, v673, w673, Vq673, Aq673⟩ := hQ673
    have ne674 : b634 ≠ t673 := Nat.ne_of_lt (Nat.lt_of_lt_of_le f669.lt v673)
    have ne675 : b642 ≠ t673 := Nat.ne_of_lt (Nat.lt_of_lt_of_le V661.lt v673)
    have g676 : n0 ≤ t673 := Nat.le_trans f668 v673
    have sf677 : Safe Z ownEL s.vm h660 t673 := Safe.new v673
    have f679 := (((f648.ext E642).wr W653 (Or.inr z647)).wr W660 (Or.inr z647))
    have z678 : h0.size ≤ t673 := Nat.le_trans f679.1 v673
    have N680 := Fr.app Nh666 Nq673
    have R681 := R663.trans (CHr.keep Kq673 (sfS sf664 sf0) R663.1)
    have sf682 := Safe.keep Kq673 (sfS sf664 sf0) R663.1 sf664
    have sf683 := Safe.keep Kq673 (sfS sf664 sf0) R663.1 sf665
    have sf684 := Safe.keep Kq673 (sfS sf664 sf0) R663.1 sf677
    obtain ⟨Lh685, Xh685, Nh685⟩ := own_hide (cells' := 3) (slots' := 8) X673 N680 (Nat.le_of_ble_eq_true rfl) (Nat.le_of_ble_eq_true rfl)
    refine ownSt st673 ?_
    clear st673
    show ownG p.tables e below _ (T673.setTop (fr_law m p0 p1 p2 p3 p4 148 (.val (.int (2 : Int32))) (.val (.int x534)) (.val (.int x537)) (.val (.int x540)) (.val (.int x543)) (.val (.int (own_b (x534 = (46 : Int32))))) (.val (.int (own_b (x537 = (46 : Int32))))) (.val (.int (own_b (x540 = (46 : Int32))))) (.val (.int (own_b (x543 = (46 : Int32))))) (.val (.int (own_b (x537 = (46 : Int32))))) .unset .unset .unset [(.ref b634)]))
    refine ownBy (A := T673.setTop (fr_law m p0 p1 p2 p3 p4 237 (.val (.int (2 : Int32))) (.val (.int x534)) (.val (.int x537)) (.val (.int x540)) (.val (.int x543)) (.val (.int (own_b (x534 = (46 : Int32))))) (.val (.int (own_b (x537 = (46 : Int32))))) (.val (.int (own_b (x540 = (46 : Int32))))) (.val (.int (own_b (x543 = (46 : Int32))))) (.val (.int (own_b (x537 = (46 : Int32))))) (.val (.ref b634)) .unset .unset [(.int (own_b (x534 = (46 : Int32))))])) (fun t kt => ?_) ?_
    · refine XS.astore Xh685.here hx rfl (hb hby at_148) rfl rfl (l' := #[.val (.int p0), .val (.int p1), .val (.int p2), .val (.int p3), .val (.int p4), .val (.int (2 : Int32)), .val (.int x534), .val (.int x537), .val (.int x540), .val (.int x543), .val (.int (own_b (x534 = (46 : Int32)))), .val (.int (own_b (x537 = (46 : Int32)))), .val (.int (own_b (x540 = (46 : Int32)))), .val (.int (own_b (x543 = (46 : Int32)))), .val (.int (own_b (x537 = (46 : Int32)))), .val (.ref b634), .unset, .unset]) rfl ?_
      refine XS.goto Xh685.here hx rfl (pc0 := 150) (pc' := 229) rfl (hb hby at_150) (by decide) (by decide) ?_
      refine XS.iload Xh685.here hx rfl (hb hby at_229) rfl ?_
      show Steps p.tables e below (T673.setTop (fr_law m p0 p1 p2 p3 p4 231 (.val (.int (2 : Int32))) (.val (.int x534)) (.val (.int x537)) (.val (.int x540)) (.val (.int x543)) (.val (.int (own_b (x534 = (46 : Int32))))) (.val (.int (own_b (x537 = (46 : Int32))))) (.val (.int (own_b (x540 = (46 : Int32))))) (.val (.int (own_b (x543 = (46 : Int32))))) (.val (.int (own_b (x537 = (46 : Int32))))) (.val (.ref b634)) .unset .unset [(.int (2 : Int32))])) t
      refine XS.iconst Xh685.here hx rfl (hb hby at_231) ?_
      refine XS.icmpNo Xh685.here hx rfl (hb hby at_232) rfl (flt ((by decide) : ¬ ((2 : Int32) < (2 : Int32)))).1 ?_
      refine XS.iload Xh685.here hx rfl (hb hby at_235) rfl ?_
      exact kt
    by_cases hc686 : x534 = (46 : Int32)
    · skip
      refine ownBy (A := T673.setTop (fr_law m p0 p1 p2 p3 p4 242 (.val (.int (2 : Int32))) (.val (.int x534)) (.val (.int x537)) (.val (.int x540)) (.val (.int x543)) (.val (.int (own_b (x534 = (46 : Int32))))) (.val (.int (own_b (x537 = (46 : Int32))))) (.val (.int (own_b (x540 = (46 : Int32))))) (.val (.int (own_b (x543 = (46 : Int32))))) (.val (.int (own_b (x537 = (46 : Int32))))) (.val (.ref b634)) .unset .unset [(.int (own_b (x537 = (46 : Int32))))])) (fun t kt => ?_) ?_
      · refine XS.ifNo Xh685.here hx rfl (hb hby at_237) rfl ((if0 _ _).trans (feq (own_bt0 hc686)).1) ?_
        refine XS.iload Xh685.here hx rfl (hb hby at_240) rfl ?_
        exact kt
      by_cases hc687 : x537 = (46 : Int32)
      · skip
        refine ownBy (A := T673.setTop (fr_law m p0 p1 p2 p3 p4 300 (.val (.int (2 : Int32))) (.val (.int x534)) (.val (.int x537)) (.val (.int x540)) (.val (.int x543)) (.val (.int (own_b (x534 = (46 : Int32))))) (.val (.int (own_b (x537 = (46 : Int32))))) (.val (.int (own_b (x540 = (46 : Int32))))) (.val (.int (own_b (x543 = (46 : Int32))))) (.val (.int (own_b (x537 = (46 : Int32))))) (.val (.ref b634)) (.val (.int (1 : Int32))) .unset [(.int (1 : Int32))])) (fun t kt => ?_) ?_
        · refine XS.ifYes Xh685.here hx rfl (pc0 := 242) (pc' := 277) rfl (hb hby at_242) rfl ((if0 _ _).trans (feq (own_bt0 hc687)).2) (by decide) (by decide) ?_
          refine XS.iconst Xh685.here hx rfl (hb hby at_277) ?_
          refine XS.goto Xh685.here hx rfl (pc0 := 278) (pc' := 282) rfl (hb hby at_278) (by decide) (by decide) ?_
          show Steps p.tables e below (T673.setTop (fr_law m p0 p1 p2 p3 p4 282 (.val (.int (2 : Int32))) (.val (.int x534)) (.val (.int x537)) (.val (.int x540)) (.val (.int x543)) (.val (.int (own_b (x534 = (46 : Int32))))) (.val (.int (own_b (x537 = (46 : Int32))))) (.val (.int (own_b (x540 = (46 : Int32))))) (.val (.int (own_b (x543 = (46 : Int32))))) (.val (.int (own_b (x537 = (46 : Int32))))) (.val (.ref b634)) .unset .unset [(.int (1 : Int32))])) t
          refine XS.istore Xh685.here hx rfl (hb hby at_282) rfl (l' := #[.val (.int p0), .val (.int p1), .val (.int p2), .val (.int p3), .val (.int p4), .val (.int (2 : Int32)), .val (.int x534), .val (.int x537), .val (.int x540), .val (.int x543), .val (.int (own_b (x534 = (46 : Int32)))), .val (.int (own_b (x537 = (46 : Int32)))), .val (.int (own_b (x540 = (46 : Int32)))), .val (.int (own_b (x543 = (46 : Int32)))), .val (.int (own_b (x537 = (46 : Int32)))), .val (.ref b634), .val (.int (1 : Int32)), .unset]) rfl ?_
          refine XS.iload Xh685.here hx rfl (hb hby at_284) rfl ?_
          refine XS.ifYes Xh685.here hx rfl (pc0 := 286) (pc' := 299) rfl (hb hby at_286) rfl ((if0 _ _).trans (feq (own_bt0 hc686)).2) (by decide) (by decide) ?_
          show Steps p.tables e below (T673.setTop (fr_law m p0 p1 p2 p3 p4 299 (.val (.int (2 : Int32))) (.val (.int x534)) (.val (.int x537)) (.val (.int x540)) (.val (.int x543)) (.val (.int (own_b (x534 = (46 : Int32))))) (.val (.int (own_b (x537 = (46 : Int32))))) (.val (.int (own_b (x540 = (46 : Int32))))) (.val (.int (own_b (x543 = (46 : Int32))))) (.val (.int (own_b (x537 = (46 : Int32))))) (.val (.ref b634)) (.val (.int (1 : Int32))) .unset [])) t
          refine XS.iconst Xh685.here hx rfl (hb hby at_299) ?_
          exact kt
        refine ownRetH Xh685 hS0 (Nat.le_trans (Nat.le_trans (Nat.le_trans (Nat.le_trans (Nat.le_trans (Nat.le_refl _) E634.1) E642.1) (Keep.of_wr W653).1) (Keep.of_wr W660).1) Kq673.1) Bd.notSynchronized (v := some (.int (nar .boolean (1 : Int32)))) (fun h => by rw [Bd.returns] at h; cases h) ?_ (R681.trans (CHv.at Xh685 hZ hEL R681.1)) (Nat.le_of_ble_eq_true rfl) (Nat.le_of_ble_eq_true rfl) (fun fs hr => retN Xh685 hx (t := .boolean) Bd.returns (by simp) (hb hby at_300) hr)
        show (Q_law Z p0 p1 p2 p3 p4 G1 G3 h0 n0) (some (.int (nar .boolean (1 : Int32)))) T673.heap _
        exact ⟨rfl, Nh685⟩
      · skip
        refine ownBy (A := T673.setTop (fr_law m p0 p1 p2 p3 p4 300 (.val (.int (2 : Int32))) (.val (.int x534)) (.val (.int x537)) (.val (.int x540)) (.val (.int x543)) (.val (.int (own_b (x534 = (46 : Int32))))) (.val (.int (own_b (x537 = (46 : Int32))))) (.val (.int (own_b (x540 = (46 : Int32))))) (.val (.int (own_b (x543 = (46 : Int32))))) (.val (.int (own_b (x537 = (46 : Int32))))) (.val (.ref b634)) (.val (.int (0 : Int32))) .unset [(.int (1 : Int32))])) (fun t kt => ?_) ?_
        · refine XS.ifNo Xh685.here hx rfl (hb hby at_242) rfl ((if0 _ _).trans (teq (own_bf0 hc687)).2) ?_
          refine XS.iload Xh685.here hx rfl (hb hby at_245) rfl ?_
          refine XS.iconst Xh685.here hx rfl (hb hby at_247) ?_
          show Steps p.tables e below (T673.setTop (fr_law m p0 p1 p2 p3 p4 248 (.val (.int (2 : Int32))) (.val (.int x534)) (.val (.int x537)) (.val (.int x540)) (.val (.int x543)) (.val (.int (own_b (x534 = (46 : Int32))))) (.val (.int (own_b (x537 = (46 : Int32))))) (.val (.int (own_b (x540 = (46 : Int32))))) (.val (.int (own_b (x543 = (46 : Int32))))) (.val (.int (own_b (x537 = (46 : Int32))))) (.val (.ref b634)) .unset .unset [(.int (3 : Int32)), (.int (2 : Int32))])) t
          refine XS.icmpYes Xh685.here hx rfl (pc0 := 248) (pc' := 261) rfl (hb hby at_248) rfl (tlt ((by decide) : (2 : Int32) < (3 : Int32))).1 (by decide) (by decide) ?_
          refine XS.iload Xh685.here hx rfl (hb hby at_261) rfl ?_
          refine XS.iconst Xh685.here hx rfl (hb hby at_263) ?_
          show Steps p.tables e below (T673.setTop (fr_law m p0 p1 p2 p3 p4 264 (.val (.int (2 : Int32))) (.val (.int x534)) (.val (.int x537)) (.val (.int x540)) (.val (.int x543)) (.val (.int (own_b (x534 = (46 : Int32))))) (.val (.int (own_b (x537 = (46 : Int32))))) (.val (.int (own_b (x540 = (46 : Int32))))) (.val (.int (own_b (x543 = (46 : Int32))))) (.val (.int (own_b (x537 = (46 : Int32))))) (.val (.ref b634)) .unset .unset [(.int (4 : Int32)), (.int (2 : Int32))])) t
          refine XS.icmpYes Xh685.here hx rfl (pc0 := 264) (pc' := 281) rfl (hb hby at_264) rfl (tlt ((by decide) : (2 : Int32) < (4 : Int32))).1 (by decide) (by decide) ?_
          refine XS.iconst Xh685.here hx rfl (hb hby at_281) ?_
          refine XS.istore Xh685.here hx rfl (hb hby at_282) rfl (l' := #[.val (.int p0), .val (.int p1), .val (.int p2), .val (.int p3), .val (.int p4), .val (.int (2 : Int32)), .val (.int x534), .val (.int x537), .val (.int x540), .val (.int x543), .val (.int (own_b (x534 = (46 : Int32)))), .val (.int (own_b (x537 = (46 : Int32)))), .val (.int (own_b (x540 = (46 : Int32)))), .val (.int (own_b (x543 = (46 : Int32)))), .val (.int (own_b (x537 = (46 : Int32)))), .val (.ref b634), .val (.int (0 : Int32)), .unset]) rfl ?_
          show Steps p.tables e below (T673.setTop (fr_law m p0 p1 p2 p3 p4 284 (.val (.int (2 : Int32))) (.val (.int x534)) (.val (.int x537)) (.val (.int x540)) (.val (.int x543)) (.val (.int (own_b (x534 = (46 : Int32))))) (.val (.int (own_b (x537 = (46 : Int32))))) (.val (.int (own_b (x540 = (46 : Int32))))) (.val (.int (own_b (x543 = (46 : Int32))))) (.val (.int (own_b (x537 = (46 : Int32))))) (.val (.ref b634)) (.val (.int (0 : Int32))) .unset [])) t
          refine XS.iload Xh685.here hx rfl (hb hby at_284) rfl ?_
          refine XS.ifYes Xh685.here hx rfl (pc0 := 286) (pc' := 299) rfl (hb hby at_286) rfl ((if0 _ _).trans (feq (own_bt0 hc686)).2) (by decide) (by decide) ?_
          refine XS.iconst Xh685.here hx rfl (hb hby at_299) ?_
          exact kt
        refine ownRetH Xh685 hS0 (Nat.le_trans (Nat.le_trans (Nat.le_trans (Nat.le_trans (Nat.le_trans (Nat.le_refl _) E634.1) E642.1) (Keep.of_wr W653).1) (Keep.of_wr W660).1) Kq673.1) Bd.notSynchronized (v := some (.int (nar .boolean (1 : Int32)))) (fun h => by rw [Bd.returns] at h; cases h) ?_ (R681.trans (CHv.at Xh685 hZ hEL R681.1)) (Nat.le_of_ble_eq_true rfl) (Nat.le_of_ble_eq_true rfl) (fun fs hr => retN Xh685 hx (t := .boolean) Bd.returns (by simp) (hb hby at_300) hr)
        show (Q_law Z p0 p1 p2 p3 p4 G1 G3 h0 n0) (some (.int (nar .boolean (1 : Int32)))) T673.heap _
        exact ⟨rfl, Nh685⟩
    · skip
      refine ownBy (A := T673.setTop (fr_law m p0 p1 p2 p3 p4 291 (.val (.int (2 : Int32))) (.val (.int x534)) (.val (.int x537)) (.val (.int x540)) (.val (.int x543)) (.val (.int (own_b (x534 = (46 : Int32))))) (.val (.int (own_b (x537 = (46 : Int32))))) (.val (.int (own_b (x540 = (46 : Int32))))) (.val (.int (own_b (x543 = (46 : Int32))))) (.val (.int (own_b (x537 = (46 : Int32))))) (.val (.ref b634)) (.val (.int (0 : Int32))) .unset [(.int (own_b (x537 = (46 : Int32))))])) (fun t kt => ?_) ?_
      · refine XS.ifYes Xh685.here hx rfl (pc0 := 237) (pc' := 245) rfl (hb hby at_237) rfl ((if0 _ _).trans (teq (own_bf0 hc686)).1) (by decide) (by decide) ?_
        refine XS.iload Xh685.here hx rfl (hb hby at_245) rfl ?_
        refine XS.iconst Xh685.here hx rfl (hb hby at_247) ?_
        show Steps p.tables e below (T673.setTop (fr_law m p0 p1 p2 p3 p4 248 (.val (.int (2 : Int32))) (.val (.int x534)) (.val (.int x537)) (.val (.int x540)) (.val (.int x543)) (.val (.int (own_b (x534 = (46 : Int32))))) (.val (.int (own_b (x537 = (46 : Int32))))) (.val (.int (own_b (x540 = (46 : Int32))))) (.val (.int (own_b (x543 = (46 : Int32))))) (.val (.int (own_b (x537 = (46 : Int32))))) (.val (.ref b634)) .unset .unset [(.int (3 : Int32)), (.int (2 : Int32))])) t
        refine XS.icmpYes Xh685.here hx rfl (pc0 := 248) (pc' := 261) rfl (hb hby at_248) rfl (tlt ((by decide) : (2 : Int32) < (3 : Int32))).1 (by decide) (by decide) ?_
        refine XS.iload Xh685.here hx rfl (hb hby at_261) rfl ?_
        refine XS.iconst Xh685.here hx rfl (hb hby at_263) ?_
        show Steps p.tables e below (T673.setTop (fr_law m p0 p1 p2 p3 p4 264 (.val (.int (2 : Int32))) (.val (.int x534)) (.val (.int x537)) (.val (.int x540)) (.val (.int x543)) (.val (.int (own_b (x534 = (46 : Int32))))) (.val (.int (own_b (x537 = (46 : Int32))))) (.val (.int (own_b (x540 = (46 : Int32))))) (.val (.int (own_b (x543 = (46 : Int32))))) (.val (.int (own_b (x537 = (46 : Int32))))) (.val (.ref b634)) .unset .unset [(.int (4 : Int32)), (.int (2 : Int32))])) t
        refine XS.icmpYes Xh685.here hx rfl (pc0 := 264) (pc' := 281) rfl (hb hby at_264) rfl (tlt ((by decide) : (2 : Int32) < (4 : Int32))).1 (by decide) (by decide) ?_
        refine XS.iconst Xh685.here hx rfl (hb hby at_281) ?_
        refine XS.istore Xh685.here hx rfl (hb hby at_282) rfl (l' := #[.val (.int p0), .val (.int p1), .val (.int p2), .val (.int p3), .val (.int p4), .val (.int (2 : Int32)), .val (.int x534), .val (.int x537), .val (.int x540), .val (.int x543), .val (.int (own_b (x534 = (46 : Int32)))), .val (.int (own_b (x537 = (46 : Int32)))), .val (.int (own_b (x540 = (46 : Int32)))), .val (.int (own_b (x543 = (46 : Int32)))), .val (.int (own_b (x537 = (46 : Int32)))), .val (.ref b634), .val (.int (0 : Int32)), .unset]) rfl ?_
        show Steps p.tables e below (T673.setTop (fr_law m p0 p1 p2 p3 p4 284 (.val (.int (2 : Int32))) (.val (.int x534)) (.val (.int x537)) (.val (.int x540)) (.val (.int x543)) (.val (.int (own_b (x534 = (46 : Int32))))) (.val (.int (own_b (x537 = (46 : Int32))))) (.val (.int (own_b (x540 = (46 : Int32))))) (.val (.int (own_b (x543 = (46 : Int32))))) (.val (.int (own_b (x537 = (46 : Int32))))) (.val (.ref b634)) (.val (.int (0 : Int32))) .unset [])) t
        refine XS.iload Xh685.here hx rfl (hb hby at_284) rfl ?_
        refine XS.ifNo Xh685.here hx rfl (hb hby at_286) rfl ((if0 _ _).trans (teq (own_bf0 hc686)).2) ?_
        refine XS.iload Xh685.here hx rfl (hb hby at_289) rfl ?_
        exact kt
      by_cases hc690 : x537 = (46 : Int32)
      · skip
        refine ownBy (A := T673.setTop (fr_law m p0 p1 p2 p3 p4 300 (.val (.int (2 : Int32))) (.val (.int x534)) (.val (.int x537)) (.val (.int x540)) (.val (.int x543)) (.val (.int (own_b (x534 = (46 : Int32))))) (.val (.int (own_b (x537 = (46 : Int32))))) (.val (.int (own_b (x540 = (46 : Int32))))) (.val (.int (own_b (x543 = (46 : Int32))))) (.val (.int (own_b (x537 = (46 : Int32))))) (.val (.ref b634)) (.val (.int (0 : Int32))) .unset [(.int (1 : Int32))])) (fun t kt => ?_) ?_
        · refine XS.ifYes Xh685.here hx rfl (pc0 := 291) (pc' := 299) rfl (hb hby at_291) rfl ((if0 _ _).trans (feq (own_bt0 hc690)).2) (by decide) (by decide) ?_
          refine XS.iconst Xh685.here hx rfl (hb hby at_299) ?_
          exact kt
        refine ownRetH Xh685 hS0 (Nat.le_trans (Nat.le_trans (Nat.le_trans (Nat.le_trans (Nat.le_trans (Nat.le_refl _) E634.1) E642.1) (Keep.of_wr W653).1) (Keep.of_wr W660).1) Kq673.1) Bd.notSynchronized (v := some (.int (nar .boolean (1 : Int32)))) (fun h => by rw [Bd.returns] at h; cases h) ?_ (R681.trans (CHv.at Xh685 hZ hEL R681.1)) (Nat.le_of_ble_eq_true rfl) (Nat.le_of_ble_eq_true rfl) (fun fs hr => retN Xh685 hx (t := .boolean) Bd.returns (by simp) (hb hby at_300) hr)
        show (Q_law Z p0 p1 p2 p3 p4 G1 G3 h0 n0) (some (.int (nar .boolean (1 : Int32)))) T673.heap _
        exact ⟨rfl, Nh685⟩
      · skip
        refine ownBy (A := T673.setTop (fr_law m p0 p1 p2 p3 p4 303 (.val (.int (2 : Int32))) (.val (.int x534)) (.val (.int x537)) (.val (.int x540)) (.val (.int x543)) (.val (.int (own_b (x534 = (46 : Int32))))) (.val (.int (own_b (x537 = (46 : Int32))))) (.val (.int (own_b (x540 = (46 : Int32))))) (.val (.int (own_b (x543 = (46 : Int32))))) (.val (.int (own_b (x537 = (46 : Int32))))) (.val (.ref b634)) (.val (.int (0 : Int32))) .unset [(.ref b634)])) (fun t kt => ?_) ?_
        · refine XS.ifNo Xh685.here hx rfl (hb hby at_291) rfl ((if0 _ _).trans (teq (own_bf0 hc690)).2) ?_
          refine XS.iload Xh685.here hx rfl (hb hby at_294) rfl ?_
          refine XS.ifYes Xh685.here hx rfl (pc0 := 296) (pc' := 301) rfl (hb hby at_296) rfl ((if0 _ _).trans (teq ((by decide) : (0 : Int32) = (0 : Int32))).1) (by decide) (by decide) ?_
          show Steps p.tables e below (T673.setTop (fr_law m p0 p1 p2 p3 p4 301 (.val (.int (2 : Int32))) (.val (.int x534)) (.val (.int x537)) (.val (.int x540)) (.val (.int x543)) (.val (.int (own_b (x534 = (46 : Int32))))) (.val (.int (own_b (x537 = (46 : Int32))))) (.val (.int (own_b (x540 = (46 : Int32))))) (.val (.int (own_b (x543 = (46 : Int32))))) (.val (.int (own_b (x537 = (46 : Int32))))) (.val (.ref b634)) (.val (.int (0 : Int32))) .unset [])) t
          refine XS.aload Xh685.here hx rfl (hb hby at_301) rfl rfl ?_
          exact kt
        have f692 := (f669.keep Kq673)
        have f693 := (f672.keep Kq673 (allS g635 all0))
        have f694 := (Nat.le_trans f668 Kq673.1)
        obtain ⟨vv695, _, ⟨T695, L695, k695, n695⟩, -, X695, hS695, hg695, ⟨Lc695, hQ695, l695, y695, z695, hC695⟩, st695⟩ := callSS Xh685 hx (y := (⟨"com/example/boring_outbox/boringoutbox/EventType", "of", "(Ljava/lang/String;)Lcom/example/boring_outbox/boringoutbox/EventType;"⟩ : MethodName)) hown (mvT hZ (Wd38 hw)) (mvT hZ (Wd39 hw)) (mvT hZ (Wd40 hw)) (mvT hZ (Wd41 hw)) (by decide) (backOfSH (W := 0) (s := s) (EL := ownEL) (c_of2 l Z a0 hw [] b634 t673 kb673 x534 x537 G1 G3 T673.heap n0 f694 f692 Vq673 Cq673 Aq673 hp667 hx534 hx537 hc686 hc690 O2 P5 f693 O4 rG3) hZ (Wd41 hw) (Wd40 hw) (by decide) (by decide) hEL R681.1) (g := (fr_law m p0 p1 p2 p3 p4 303 (.val (.int (2 : Int32))) (.val (.int x534)) (.val (.int x537)) (.val (.int x540)) (.val (.int x543)) (.val (.int (own_b (x534 = (46 : Int32))))) (.val (.int (own_b (x537 = (46 : Int32))))) (.val (.int (own_b (x540 = (46 : Int32))))) (.val (.int (own_b (x543 = (46 : Int32))))) (.val (.int (own_b (x537 = (46 : Int32))))) (.val (.ref b634)) (.val (.int (0 : Int32))) .unset [(.ref b634)])) rfl (by rw [hml]; rfl) (argsL := [(.ref b634)]) (rest := []) (lenOf pd_607 rfl) rfl (by show 2 * 0 + _ ≤ _; exact Nat.le_of_eq rfl) (hb hby at_303) (fun _ _ => ⟨rfl, rfl, (by decide : 3 + 3 ≤ _), (by decide : 8 + 77 ≤ _)⟩)
        dsimp only [Pt.U, Pt.locs, Pt.cells, Pt.slots] at X695 l695 y695 z695 st695 hQ695 hS695 hg695 hC695
        subst l695 y695 z695
        obtain ⟨y695, rfl, Nq695, Kq695, zq695, Eq695, Fa695⟩ := hQ695
        have ne696 : b634 ≠ y695 := Nat.ne_of_lt (Nat.lt_of_lt_of_le f692.lt zq695)
        have f698 := (V661.keep Kq673 (ninS (Ne.symm ne643) nin0))
        have ne697 : b642 ≠ y695 := Nat.ne_of_lt (Nat.lt_of_lt_of_le f698.lt zq695)
        have ne699 : t673 ≠ y695 := Nat.ne_of_lt (Nat.lt_of_lt_of_le Aq673.lt zq695)
        have g700 : n0 ≤ y695 := Nat.le_trans f694 zq695
        have f702 := (f679.trans Kq673 (allS (Or.inr z637) all0))
        have z701 : h0.size ≤ y695 := Nat.le_trans f702.1 zq695
        have N703 := Fr.app Nh685 Nq695
        have R705 := R681.trans hC695
        have sf706 := CHr.safe hC695 f692.lt sf682
        have sf707 := CHr.safe hC695 f698.lt sf683
        have sf708 := CHr.safe hC695 Aq673.lt sf684
        obtain ⟨XR709, hSR709, hZ709, hown709⟩ := rebS hS0 (Nat.le_trans (Nat.le_trans (Nat.le_trans (Nat.le_trans (Nat.le_trans (Nat.le_refl _) E634.1) E642.1) (Keep.of_wr W653).1) (Keep.of_wr W660).1) Kq673.1) X695 hS695 hg695 hZ hown
        obtain ⟨Lh710, Xh710, Nh710⟩ := own_hide (cells' := 6) (slots' := 85) XR709 N703 (Nat.le_of_ble_eq_true rfl) (Nat.le_of_ble_eq_true rfl)
        refine ownSt st695 ?_
        clear st695
        show ownG p.tables e below _ (T695.setTop (fr_law m p0 p1 p2 p3 p4 306 (.val (.int (2 : Int32))) (.val (.int x534)) (.val (.int x537)) (.val (.int x540)) (.val (.int x543)) (.val (.int (own_b (x534 = (46 : Int32))))) (.val (.int (own_b (x537 = (46 : Int32))))) (.val (.int (own_b (x540 = (46 : Int32))))) (.val (.int (own_b (x543 = (46 : Int32))))) (.val (.int (own_b (x537 = (46 : Int32))))) (.val (.ref b634)) (.val (.int (0 : Int32))) .unset [(.ref y695)]))
        refine ownBy (A := T695.setTop (fr_law m p0 p1 p2 p3 p4 317 (.val (.int (2 : Int32))) (.val (.int x534)) (.val (.int x537)) (.val (.int x540)) (.val (.int x543)) (.val (.int (own_b (x534 = (46 : Int32))))) (.val (.int (own_b (x537 = (46 : Int32))))) (.val (.int (own_b (x540 = (46 : Int32))))) (.val (.int (own_b (x543 = (46 : Int32))))) (.val (.int (own_b (x537 = (46 : Int32))))) (.val (.ref b634)) (.val (.int (0 : Int32))) (.val (.ref y695)) [(.ref y695), (.ref b634)])) (fun t kt => ?_) ?_
        · refine XS.astore Xh710.here hx rfl (hb hby at_306) rfl rfl (l' := #[.val (.int p0), .val (.int p1), .val (.int p2), .val (.int p3), .val (.int p4), .val (.int (2 : Int32)), .val (.int x534), .val (.int x537), .val (.int x540), .val (.int x543), .val (.int (own_b (x534 = (46 : Int32)))), .val (.int (own_b (x537 = (46 : Int32)))), .val (.int (own_b (x540 = (46 : Int32)))), .val (.int (own_b (x543 = (46 : Int32)))), .val (.int (own_b (x537 = (46 : Int32)))), .val (.ref b634), .val (.int (0 : Int32)), .val (.ref y695)]) rfl ?_
          refine XS.aload Xh710.here hx rfl (hb hby at_308) rfl rfl ?_
          refine XS.ifnullNo Xh710.here hx rfl (hb hby at_310) rfl ?_
          show Steps p.tables e below (T695.setTop (fr_law m p0 p1 p2 p3 p4 313 (.val (.int (2 : Int32))) (.val (.int x534)) (.val (.int x537)) (.val (.int x540)) (.val (.int x543)) (.val (.int (own_b (x534 = (46 : Int32))))) (.val (.int (own_b (x537 = (46 : Int32))))) (.val (.int (own_b (x540 = (46 : Int32))))) (.val (.int (own_b (x543 = (46 : Int32))))) (.val (.int (own_b (x537 = (46 : Int32))))) (.val (.ref b634)) (.val (.int (0 : Int32))) (.val (.ref y695)) [])) t
          refine XS.aload Xh710.here hx rfl (hb hby at_313) rfl rfl ?_
          refine XS.aload Xh710.here hx rfl (hb hby at_315) rfl rfl ?_
          exact kt
        have f711 := (Nat.le_trans f694 Kq695.1)
        obtain ⟨cq712, kq712, q712a, q712b, q712c⟩ := isOf hZ709 rfl Eq695
        obtain ⟨vv712, _, ⟨T712, L712, k712, n712⟩, -, X712, ⟨Lc712, hQ712, l712, y712, z712⟩, st712⟩ := Xh710.virtualBack hx (y := (⟨"com/example/boring_outbox/boringoutbox/EventType", "name", "()Ljava/lang/String;"⟩ : MethodName)) (z := (⟨"com/example/boring_outbox/boringoutbox/EventType", "name", "()Ljava/lang/String;"⟩ : MethodName)) hown709 (mvT hZ709 (Wd97 hw)) (mvT hZ709 (Wd98 hw)) (notFace_of_selects (args := #[]) (mvT hZ709 (Wd100 hw))) (mvT hZ709 (Wd100 hw)) (mvT hZ709 (Wd99 hw)) (by decide) (backOf (W := 1) (c_gname l Z a0 hw [] y695 (.ref b634) T695.heap n0 f711 Fa695 rfl) hZ709 (Wd101 hw) (Wd40 hw) (by decide) (by decide)) q712a q712c (g := (fr_law m p0 p1 p2 p3 p4 317 (.val (.int (2 : Int32))) (.val (.int x534)) (.val (.int x537)) (.val (.int x540)) (.val (.int x543)) (.val (.int (own_b (x534 = (46 : Int32))))) (.val (.int (own_b (x537 = (46 : Int32))))) (.val (.int (own_b (x540 = (46 : Int32))))) (.val (.int (own_b (x543 = (46 : Int32))))) (.val (.int (own_b (x537 = (46 : Int32))))) (.val (.ref b634)) (.val (.int (0 : Int32))) (.val (.ref y695)) [(.ref y695), (.ref b634)])) rfl (by rw [hml]; rfl) (Steps.refl _) (argsL := []) (rest := [(.ref b634)]) (lenOf pd_625 rfl) rfl (by show 2 * 0 + _ ≤ _; exact Nat.le_of_eq rfl) (hb hby at_317) (fun _ _ => ⟨rfl, rfl, (by decide : 6 + 0 ≤ _), (by decide : 85 + 0 ≤ _)⟩)
        dsimp only [Pt.U, Pt.locs, Pt.cells, Pt.slots] at X712 l712 y712 z712 st712 hQ712
        subst l712 y712 z712
        obtain ⟨rfl, Nq712, Eq712⟩ := hQ712
        have N713 := Fr.app Nh710 Nq712
        obtain ⟨Lh714, Xh714, Nh714⟩ := own_hide (cells' := 6) (slots' := 85) X712 N713 (Nat.le_of_ble_eq_true rfl) (Nat.le_of_ble_eq_true rfl)
        refine ownSt st712 ?_
        clear st712
        show ownG p.tables e below _ (T712.setTop (fr_law m p0 p1 p2 p3 p4 320 (.val (.int (2 : Int32))) (.val (.int x534)) (.val (.int x537)) (.val (.int x540)) (.val (.int x543)) (.val (.int (own_b (x534 = (46 : Int32))))) (.val (.int (own_b (x537 = (46 : Int32))))) (.val (.int (own_b (x540 = (46 : Int32))))) (.val (.int (own_b (x543 = (46 : Int32))))) (.val (.int (own_b (x537 = (46 : Int32))))) (.val (.ref b634)) (.val (.int (0 : Int32))) (.val (.ref y695)) [(.ref b634), (.ref b634)]))
        have f716 := (f692.keep Kq695)
        obtain ⟨cq715, kq715, q715a, q715b, q715c⟩ := isOf hZ709 Eq712 f716
        obtain ⟨vv715, _, ⟨T715, L715, k715, n715⟩, -, X715, ⟨Lc715, hQ715, l715, y715, z715⟩, st715⟩ := Xh714.virtualBack hx (y := (⟨"java/lang/String", "equals", "(Ljava/lang/Object;)Z"⟩ : MethodName)) (z := (⟨"java/lang/String", "equals", "(Ljava/lang/Object;)Z"⟩ : MethodName)) hown709 (mvT hZ709 (Wd102 hw)) (mvT hZ709 (Wd103 hw)) (notFace_of_selects (args := #[]) (mvT hZ709 (Wd105 hw))) (mvT hZ709 (Wd105 hw)) (mvT hZ709 (Wd104 hw)) (by decide) (backOf (W := 0) (c_eqs l Z a0 hw [] b634 T695.heap n0 f711 ) hZ709 (Wd106 hw) (Wd10 hw) (by decide) (by decide)) q715a q715c (g := (fr_law m p0 p1 p2 p3 p4 320 (.val (.int (2 : Int32))) (.val (.int x534)) (.val (.int x537)) (.val (.int x540)) (.val (.int x543)) (.val (.int (own_b (x534 = (46 : Int32))))) (.val (.int (own_b (x537 = (46 : Int32))))) (.val (.int (own_b (x540 = (46 : Int32))))) (.val (.int (own_b (x543 = (46 : Int32))))) (.val (.int (own_b (x537 = (46 : Int32))))) (.val (.ref b634)) (.val (.int (0 : Int32))) (.val (.ref y695)) [(.ref b634), (.ref b634)])) rfl (by rw [hml]; rfl) (Steps.refl _) (argsL := [(.ref b634)]) (rest := []) (lenOf pd_629 rfl) rfl (by show 2 * 0 + _ ≤ _; exact Nat.le_of_eq rfl) (hb hby at_320) (fun _ _ => ⟨rfl, Eq712, (by decide : 6 + 0 ≤ _), (by decide : 85 + 0 ≤ _)⟩)
        dsimp only [Pt.U, Pt.locs, Pt.cells, Pt.slots] at X715 l715 y715 z715 st715 hQ715
        subst l715 y715 z715
        obtain ⟨rfl, Nq715, Eq715⟩ := hQ715
        have N717 := Fr.app Nh714 Nq715
        obtain ⟨Lh718, Xh718, Nh718⟩ := own_hide (cells' := 6) (slots' := 85) X715 N717 (Nat.le_of_ble_eq_true rfl) (Nat.le_of_ble_eq_true rfl)
        refine ownSt st715 ?_
        clear st715
        show ownG p.tables e below _ (T715.setTop (fr_law m p0 p1 p2 p3 p4 323 (.val (.int (2 : Int32))) (.val (.int x534)) (.val (.int x537)) (.val (.int x540)) (.val (.int x543)) (.val (.int (own_b (x534 = (46 : Int32))))) (.val (.int (own_b (x537 = (46 : Int32))))) (.val (.int (own_b (x540 = (46 : Int32))))) (.val (.int (own_b (x543 = (46 : Int32))))) (.val (.int (own_b (x537 = (46 : Int32))))) (.val (.ref b634)) (.val (.int (0 : Int32))) (.val (.ref y695)) [(.int (1 : Int32))]))
        refine ownBy (A := T715.setTop (fr_law m p0 p1 p2 p3 p4 331 (.val (.int (2 : Int32))) (.val (.int x534)) (.val (.int x537)) (.val (.int x540)) (.val (.int x543)) (.val (.int (own_b (x534 = (46 : Int32))))) (.val (.int (own_b (x537 = (46 : Int32))))) (.val (.int (own_b (x540 = (46 : Int32))))) (.val (.int (own_b (x543 = (46 : Int32))))) (.val (.int (own_b (x537 = (46 : Int32))))) (.val (.ref b634)) (.val (.int (0 : Int32))) (.val (.ref y695)) [(.int (1 : Int32))])) (fun t kt => ?_) ?_
        · refine XS.ifNo Xh718.here hx rfl (hb hby at_323) rfl ((if0 _ _).trans (feq ((by decide) : ¬ ((1 : Int32) = (0 : Int32)))).1) ?_
          refine XS.iconst Xh718.here hx rfl (hb hby at_326) ?_
          refine XS.goto Xh718.here hx rfl (pc0 := 327) (pc' := 331) rfl (hb hby at_327) (by decide) (by decide) ?_
          exact kt
        refine ownRetH Xh718 hSR709 (by rw [Eq715]; exact (Nat.le_refl _)) Bd.notSynchronized (v := some (.int (nar .boolean (1 : Int32)))) (fun h => by rw [Bd.returns] at h; cases h) ?_ (R705.trans ((by rw [Eq715]; exact CHv.at Xh718 hZ709 hEL R705.1))) (Nat.le_of_ble_eq_true rfl) (Nat.le_of_ble_eq_true rfl) (fun fs hr => retN Xh718 hx (t := .boolean) Bd.returns (by simp) (hb hby at_331) hr)
        show (Q_law Z p0 p1 p2 p3 p4 G1 G3 h0 n0) (some (.int (nar .boolean (1 : Int32)))) T715.heap _
        rw [Eq715]
        exact ⟨rfl, Nh718⟩
  · rw [hn554]
    show ownG p.tables e below _ (T543.setTop (fr_law m p0 p1 p2 p3 p4 88 (.val (.int (3 : Int32))) (.val (.int x534)) (.val (.int x537)) (.val (.int x540)) (.val (.int x543)) (.val (.int (own_b (x534 = (46 : Int32))))) (.val (.int (own_b (x537 = (46 : Int32))))) (.val (.int (own_b (x540 = (46 : Int32))))) (.val (.int (own_b (x543 = (46 : Int32))))) .unset .unset .unset .unset []))
    refine ownBy (A := T543.setTop (fr_law m p0 p1 p2 p3 p4 163 (.val (.int (3 : Int32))) (.val (.int x534)) (.val (.int x537)) (.val (.int x540)) (.val (.int x543)) (.val (.int (own_b (x534 = (46 : Int32))))) (.val (.int (own_b (x537 = (46 : Int32))))) (.val (.int (own_b (x540 = (46 : Int32))))) (.val (.int (own_b (x543 = (46 : Int32))))) (.val (.int (own_b (x540 = (46 : Int32))))) .unset .unset .unset [])) (fun t kt => ?_) ?_
    · refine XS.iload Xh545.here hx rfl (hb hby at_88) rfl ?_
      refine XS.iconst Xh545.here hx rfl (hb hby at_90) ?_
      refine XS.icmpYes Xh545.here hx rfl (pc0 := 91) (pc' := 118) rfl (hb hby at_91) rfl (feq ((by decide) : ¬ ((3 : Int32) = (1 : Int32)))).2 (by decide) (by decide) ?_
      show Steps p.tables e below (T543.setTop (fr_law m p0 p1 p2 p3 p4 118 (.val (.int (3 : Int32))) (.val (.int x534)) (.val (.int x537)) (.val (.int x540)) (.val (.int x543)) (.val (.int (own_b (x534 = (46 : Int32))))) (.val (.int (own_b (x537 = (46 : Int32))))) (.val (.int (own_b (x540 = (46 : Int32))))) (.val (.int (own_b (x543 = (46 : Int32))))) .unset .unset .unset .unset [])) t
      refine XS.iload Xh545.here hx rfl (hb hby at_118) rfl ?_
      refine XS.iconst Xh545.here hx rfl (hb hby at_120) ?_
      refine XS.icmpYes Xh545.here hx rfl (pc0 := 121) (pc' := 153) rfl (hb hby at_121) rfl (feq ((by decide) : ¬ ((3 : Int32) = (2 : Int32)))).2 (by decide) (by decide) ?_
      show Steps p.tables e below (T543.setTop (fr_law m p0 p1 p2 p3 p4 153 (.val (.int (3 : Int32))) (.val (.int x534)) (.val (.int x537)) (.val (.int x540)) (.val (.int x543)) (.val (.int (own_b (x534 = (46 : Int32))))) (.val (.int (own_b (x537 = (46 : Int32))))) (.val (.int (own_b (x540 = (46 : Int32))))) (.val (.int (own_b (x543 = (46 : Int32))))) .unset .unset .unset .unset [])) t
      refine XS.iload Xh545.here hx rfl (hb hby at_153) rfl ?_
      refine XS.iconst Xh545.here hx rfl (hb hby at_155) ?_
      refine XS.icmpNo Xh545.here hx rfl (hb hby at_156) rfl (teq ((by decide) : (3 : Int32) = (3 : Int32))).2 ?_
      show Steps p.tables e below (T543.setTop (fr_law m p0 p1 p2 p3 p4 159 (.val (.int (3 : Int32))) (.val (.int x534)) (.val (.int x537)) (.val (.int x540)) (.val (.int x543)) (.val (.int (own_b (x534 = (46 : Int32))))) (.val (.int (own_b (x537 = (46 : Int32))))) (.val (.int (own_b (x540 = (46 : Int32))))) (.val (.int (own_b (x543 = (46 : Int32))))) .unset .unset .unset .unset [])) t
      refine XS.iload Xh545.here hx rfl (hb hby at_159) rfl ?_
      refine XS.istore Xh545.here hx rfl (hb hby at_161) rfl (l' := #[.val (.int p0), .val (.int p1), .val (.int p2), .val (.int p3), .val (.int p4), .val (.int (3 : Int32)), .val (.int x534), .val (.int x537), .val (.int x540), .val (.int x543), .val (.int (own_b (x534 = (46 : Int32)))), .val (.int (own_b (x537 = (46 : Int32)))), .val (.int (own_b (x540 = (46 : Int32)))), .val (.int (own_b (x543 = (46 : Int32)))), .val (.int (own_b (x540 = (46 : Int32)))), .unset, .unset, .unset]) rfl ?_
      exact kt
    obtain ⟨T720, h720, X720, e720, E720, A720, D720, -, st720⟩ := newO Xh545 hx hZ hown (Wd8 hw) (Wd9 hw) (Wd10 hw) Eq543 (g := (fr_law m p0 p1 p2 p3 p4 163 (.val (.int (3 : Int32))) (.val (.int x534)) (.val (.int x537)) (.val (.int x540)) (.val (.int x543)) (.val (.int (own_b (x534 = (46 : Int32))))) (.val (.int (own_b (x537 = (46 : Int32))))) (.val (.int (own_b (x540 = (46 : Int32))))) (.val (.int (own_b (x543 = (46 : Int32))))) (.val (.int (own_b (x540 = (46 : Int32))))) .unset .unset .unset [])) rfl (hb hby at_163) (by decide) (by decide)
    obtain ⟨b720, g720⟩ : ∃ z, z = h0.size := ⟨_, rfl⟩
    rw [← g720] at A720 D720 st720
    have g721 : n0 ≤ b720 := Nat.le_trans Z0 (Nat.le_of_eq g720.symm)
    have sf722 : Safe Z ownEL s.vm h0 b720 := Safe.new (Nat.le_of_eq g720.symm)
    have z723 : h0.size ≤ b720 := Nat.le_trans (Keep.refl h0 []).1 (Nat.le_of_eq g720.symm)
    have R724 := R0.trans (CHr.ext E720 R0.1)
    have sf725 := Safe.ext E720 R0.1 sf722
    have F726 : Fld Z h720 b720 "java/lang/String" "coder" "B" (.int (0 : Int32)) := D720 (Or.inr (Wd35 hw)) (ty := .byte) (by decide)
    have F727 : Fld Z h720 b720 "java/lang/String" "value" "[B" .null := D720 (Or.inr (Wd37 hw)) (ty := (.array .byte)) (by decide)
    refine ownBy st720 ?_
    clear st720
    show ownG p.tables e below _ (T720.setTop (fr_law m p0 p1 p2 p3 p4 166 (.val (.int (3 : Int32))) (.val (.int x534)) (.val (.int x537)) (.val (.int x540)) (.val (.int x543)) (.val (.int (own_b (x534 = (46 : Int32))))) (.val (.int (own_b (x537 = (46 : Int32))))) (.val (.int (own_b (x540 = (46 : Int32))))) (.val (.int (own_b (x543 = (46 : Int32))))) (.val (.int (own_b (x540 = (46 : Int32))))) .unset .unset .unset [(.ref b720)]))
    refine ownBy (A := T720.setTop (fr_law m p0 p1 p2 p3 p4 168 (.val (.int (3 : Int32))) (.val (.int x534)) (.val (.int x537)) (.val (.int x540)) (.val (.int x543)) (.val (.int (own_b (x534 = (46 : Int32))))) (.val (.int (own_b (x537 = (46 : Int32))))) (.val (.int (own_b (x540 = (46 : Int32))))) (.val (.int (own_b (x543 = (46 : Int32))))) (.val (.int (own_b (x540 = (46 : Int32))))) .unset .unset .unset [(.int (3 : Int32)), (.ref b720), (.ref b720)])) (fun t kt => ?_) ?_
    · refine XS.dup X720.here hx rfl (hb hby at_166) rfl rfl ?_
      refine XS.iconst X720.here hx rfl (hb hby at_167) ?_
      exact kt
    obtain ⟨T728, h728, k728, X728, e728, E728, A728, st728⟩ := newP X720 hx hZ (aty := .char) (Wd11 hw) e720 (g := (fr_law m p0 p1 p2 p3 p4 168 (.val (.int (3 : Int32))) (.val (.int x534)) (.val (.int x537)) (.val (.int x540)) (.val (.int x543)) (.val (.int (own_b (x534 = (46 : Int32))))) (.val (.int (own_b (x537 = (46 : Int32))))) (.val (.int (own_b (x540 = (46 : Int32))))) (.val (.int (own_b (x543 = (46 : Int32))))) (.val (.int (own_b (x540 = (46 : Int32))))) .unset .unset .unset [(.int (3 : Int32)), (.ref b720), (.ref b720)])) rfl (hb hby at_168) rfl (by decide : ¬ ((3 : Int32) < (0 : Int32))) (cap := 3) (by decide) (by decide) (by decide) (by decide)
    obtain ⟨b728, g728⟩ : ∃ z, z = h720.size := ⟨_, rfl⟩
    rw [← g728] at A728 st728
    have ne729 : b720 ≠ b728 := Nat.ne_of_lt (Nat.lt_of_lt_of_le A720.lt (Nat.le_of_eq g728.symm))
    have f731 := (Nat.le_trans Z0 E720.1)
    have g730 : n0 ≤ b728 := Nat.le_trans f731 (Nat.le_of_eq g728.symm)
    have sf732 : Safe Z ownEL s.vm h720 b728 := Safe.new (Nat.le_of_eq g728.symm)
    have f734 := ((Keep.refl h0 []).ext E720)
    have z733 : h0.size ≤ b728 := Nat.le_trans f734.1 (Nat.le_of_eq g728.symm)
    have R735 := R724.trans (CHr.ext E728 R724.1)
    have sf736 := Safe.ext E728 R724.1 sf725
    have sf737 := Safe.ext E728 R724.1 sf732
    have V738 : Arv Z h728 b728 k728 .char (3 : Int32) [(.int (0 : Int32)), (.int (0 : Int32)), (.int (0 : Int32))] (.int (0 : Int32)) := (Arv.new A728 (by decide)).pad (pad_rep [] (.int (0 : Int32)) 3)
    refine ownBy st728 ?_
    clear st728
    show ownG p.tables e below _ (T728.setTop (fr_law m p0 p1 p2 p3 p4 170 (.val (.int (3 : Int32))) (.val (.int x534)) (.val (.int x537)) (.val (.int x540)) (.val (.int x543)) (.val (.int (own_b (x534 = (46 : Int32))))) (.val (.int (own_b (x537 = (46 : Int32))))) (.val (.int (own_b (x540 = (46 : Int32))))) (.val (.int (own_b (x543 = (46 : Int32))))) (.val (.int (own_b (x540 = (46 : Int32))))) .unset .unset .unset [(.ref b728), (.ref b720), (.ref b720)]))
    refine ownBy (A := T728.setTop (fr_law m p0 p1 p2 p3 p4 174 (.val (.int (3 : Int32))) (.val (.int x534)) (.val (.int x537)) (.val (.int x540)) (.val (.int x543)) (.val (.int (own_b (x534 = (46 : Int32))))) (.val (.int (own_b (x537 = (46 : Int32))))) (.val (.int (own_b (x540 = (46 : Int32))))) (.val (.int (own_b (x543 = (46 : Int32))))) (.val (.int (own_b (x540 = (46 : Int32))))) .unset .unset .unset [(.int x534), (.int (0 : Int32)), (.ref b728), (.ref b728), (.ref b720), (.ref b720)])) (fun t kt => ?_) ?_
    · refine XS.dup X728.here hx rfl (hb hby at_170) rfl rfl ?_
      refine XS.iconst X728.here hx rfl (hb hby at_171) ?_
      refine XS.iload X728.here hx rfl (hb hby at_172) rfl ?_
      exact kt
    obtain ⟨cl739, Ar739, q739, S739, N739, H739, G739⟩ := id V738
    have hin739 : ¬ ((0 : Int32) < 0 ∨ cl739.slots.size ≤ ((0 : Int32)).toNatClampNeg) := inb_of S739 ⟨by decide, by decide⟩
    obtain ⟨T739, h739, X739, e739, W739, st739⟩ := stC X728 hx hZ e728 Ar739 (j := (0 : Int32)) hin739 (g := (fr_law m p0 p1 p2 p3 p4 174 (.val (.int (3 : Int32))) (.val (.int x534)) (.val (.int x537)) (.val (.int x540)) (.val (.int x543)) (.val (.int (own_b (x534 = (46 : Int32))))) (.val (.int (own_b (x537 = (46 : Int32))))) (.val (.int (own_b (x540 = (46 : Int32))))) (.val (.int (own_b (x543 = (46 : Int32))))) (.val (.int (own_b (x540 = (46 : Int32))))) .unset .unset .unset [(.int x534), (.int (0 : Int32)), (.ref b728), (.ref b728), (.ref b720), (.ref b720)])) rfl rfl (hb hby at_174)
    have V740 : Arv Z h739 b728 k728 .char (3 : Int32) [(.int (nar .char x534)), (.int (0 : Int32)), (.int (0 : Int32))] (.int (0 : Int32)) := Arv.set Ar739 q739 S739 N739 H739 G739 (fits_nar_char _) W739 0 rfl (Nat.le_of_ble_eq_true rfl)
    rw [own_nar_id hx534] at V740
    clear hin739 G739 H739 N739 S739 q739 Ar739 cl739 V738
    have N741 := Fr.snoc X739 Nh545 g730
    have R742 := R735.trans (CHr.wr W739 sf737 R735.1)
    have sf743 := Safe.wr W739 sf737 R735.1 sf736
    have sf744 := Safe.wr W739 sf737 R735.1 sf737
    obtain ⟨Lh745, Xh745, Nh745⟩ := own_hide (cells' := 2) (slots' := 7) X739 N741 (Nat.le_of_ble_eq_true rfl) (Nat.le_of_ble_eq_true rfl)
    refine ownBy st739 ?_
    clear st739
    show ownG p.tables e below _ (T739.setTop (fr_law m p0 p1 p2 p3 p4 175 (.val (.int (3 : Int32))) (.val (.int x534)) (.val (.int x537)) (.val (.int x540)) (.val (.int x543)) (.val (.int (own_b (x534 = (46 : Int32))))) (.val (.int (own_b (x537 = (46 : Int32))))) (.val (.int (own_b (x540 = (46 : Int32))))) (.val (.int (own_b (x543 = (46 : Int32))))) (.val (.int (own_b (x540 = (46 : Int32))))) .unset .unset .unset [(.ref b728), (.ref b720), (.ref b720)]))
    refine ownBy (A := T739.setTop (fr_law m p0 p1 p2 p3 p4 179 (.val (.int (3 : Int32))) (.val (.int x534)) (.val (.int x537)) (.val (.int x540)) (.val (.int x543)) (.val (.int (own_b (x534 = (46 : Int32))))) (.val (.int (own_b (x537 = (46 : Int32))))) (.val (.int (own_b (x540 = (46 : Int32))))) (.val (.int (own_b (x543 = (46 : Int32))))) (.val (.int (own_b (x540 = (46 : Int32))))) .unset .unset .unset [(.int x537), (.int (1 : Int32)), (.ref b728), (.ref b728), (.ref b720), (.ref b720)])) (fun t kt => ?_) ?_
    · refine XS.dup Xh745.here hx rfl (hb hby at_175) rfl rfl ?_
      refine XS.iconst Xh745.here hx rfl (hb hby at_176) ?_
      refine XS.iload Xh745.here hx rfl (hb hby at_177) rfl ?_
      exact kt
    obtain ⟨cl746, Ar746, q746, S746, N746, H746, G746⟩ := id V740
    have hin746 : ¬ ((1 : Int32) < 0 ∨ cl746.slots.size ≤ ((1 : Int32)).toNatClampNeg) := inb_of S746 ⟨by decide, by decide⟩
    obtain ⟨T746, h746, X746, e746, W746, st746⟩ := stC Xh745 hx hZ e739 Ar746 (j := (1 : Int32)) hin746 (g := (fr_law m p0 p1 p2 p3 p4 179 (.val (.int (3 : Int32))) (.val (.int x534)) (.val (.int x537)) (.val (.int x540)) (.val (.int x543)) (.val (.int (own_b (x534 = (46 : Int32))))) (.val (.int (own_b (x537 = (46 : Int32))))) (.val (.int (own_b (x540 = (46 : Int32))))) (.val (.int (own_b (x543 = (46 : Int32))))) (.val (.int (own_b (x540 = (46 : Int32))))) .unset .unset .unset [(.int x537), (.int (1 : Int32)), (.ref b728), (.ref b728), (.ref b720), (.ref b720)])) rfl rfl (hb hby at_179)
    have V747 : Arv Z h746 b728 k728 .char (3 : Int32) [(.int x534), (.int (nar .char x537)), (.int (0 : Int32))] (.int (0 : Int32)) := Arv.set Ar746 q746 S746 N746 H746 G746 (fits_nar_char _) W746 1 rfl (Nat.le_of_ble_eq_true rfl)
    rw [own_nar_id hx537] at V747
    clear hin746 G746 H746 N746 S746 q746 Ar746 cl746 V740
    have N748 := Fr.snoc X746 Nh745 g730
    have R749 := R742.trans (CHr.wr W746 sf744 R742.1)
    have sf750 := Safe.wr W746 sf744 R742.1 sf743
    have sf751 := Safe.wr W746 sf744 R742.1 sf744
    obtain ⟨Lh752, Xh752, Nh752⟩ := own_hide (cells' := 2) (slots' := 7) X746 N748 (Nat.le_of_ble_eq_true rfl) (Nat.le_of_ble_eq_true rfl)
    refine ownBy st746 ?_
    clear st746
    show ownG p.tables e below _ (T746.setTop (fr_law m p0 p1 p2 p3 p4 180 (.val (.int (3 : Int32))) (.val (.int x534)) (.val (.int x537)) (.val (.int x540)) (.val (.int x543)) (.val (.int (own_b (x534 = (46 : Int32))))) (.val (.int (own_b (x537 = (46 : Int32))))) (.val (.int (own_b (x540 = (46 : Int32))))) (.val (.int (own_b (x543 = (46 : Int32))))) (.val (.int (own_b (x540 = (46 : Int32))))) .unset .unset .unset [(.ref b728), (.ref b720), (.ref b720)]))
    refine ownBy (A := T746.setTop (fr_law m p0 p1 p2 p3 p4 184 (.val (.int (3 : Int32))) (.val (.int x534)) (.val (.int x537)) (.val (.int x540)) (.val (.int x543)) (.val (.int (own_b (x534 = (46 : Int32))))) (.val (.int (own_b (x537 = (46 : Int32))))) (.val (.int (own_b (x540 = (46 : Int32))))) (.val (.int (own_b (x543 = (46 : Int32))))) (.val (.int (own_b (x540 = (46 : Int32))))) .unset .unset .unset [(.int x540), (.int (2 : Int32)), (.ref b728), (.ref b728), (.ref b720), (.ref b720)])) (fun t kt => ?_) ?_
    · refine XS.dup Xh752.here hx rfl (hb hby at_180) rfl rfl ?_
      refine XS.iconst Xh752.here hx rfl (hb hby at_181) ?_
      refine XS.iload Xh752.here hx rfl (hb hby at_182) rfl ?_
      exact kt
    obtain ⟨cl753, Ar753, q753, S753, N753, H753, G753⟩ := id V747
    have hin753 : ¬ ((2 : Int32) < 0 ∨ cl753.slots.size ≤ ((2 : Int32)).toNatClampNeg) := inb_of S753 ⟨by decide, by decide⟩
    obtain ⟨T753, h753, X753, e753, W753, st753⟩ := stC Xh752 hx hZ e746 Ar753 (j := (2 : Int32)) hin753 (g := (fr_law m p0 p1 p2 p3 p4 184 (.val (.int (3 : Int32))) (.val (.int x534)) (.val (.int x537)) (.val (.int x540)) (.val (.int x543)) (.val (.int (own_b (x534 = (46 : Int32))))) (.val (.int (own_b (x537 = (46 : Int32))))) (.val (.int (own_b (x540 = (46 : Int32))))) (.val (.int (own_b (x543 = (46 : Int32))))) (.val (.int (own_b (x540 = (46 : Int32))))) .unset .unset .unset [(.int x540), (.int (2 : Int32)), (.ref b728), (.ref b728), (.ref b720), (.ref b720)])) rfl rfl (hb hby at_184)
    have V754 : Arv Z h753 b728 k728 .char (3 : Int32) [(.int x534), (.int x537), (.int (nar .char x540))] (.int (0 : Int32)) := Arv.set Ar753 q753 S753 N753 H753 G753 (fits_nar_char _) W753 2 rfl (Nat.le_of_ble_eq_true rfl)
    rw [own_nar_id hx540] at V754
    clear hin753 G753 H753 N753 S753 q753 Ar753 cl753 V747
    have N755 := Fr.snoc X753 Nh752 g730
    have R756 := R749.trans (CHr.wr W753 sf751 R749.1)
    have sf757 := Safe.wr W753 sf751 R749.1 sf750
    have sf758 := Safe.wr W753 sf751 R749.1 sf751
    obtain ⟨Lh759, Xh759, Nh759⟩ := own_hide (cells' := 2) (slots' := 7) X753 N755 (Nat.le_of_ble_eq_true rfl) (Nat.le_of_ble_eq_true rfl)
    refine ownBy st753 ?_
    clear st753
    show ownG p.tables e below _ (T753.setTop (fr_law m p0 p1 p2 p3 p4 185 (.val (.int (3 : Int32))) (.val (.int x534)) (.val (.int x537)) (.val (.int x540)) (.val (.int x543)) (.val (.int (own_b (x534 = (46 : Int32))))) (.val (.int (own_b (x537 = (46 : Int32))))) (.val (.int (own_b (x540 = (46 : Int32))))) (.val (.int (own_b (x543 = (46 : Int32))))) (.val (.int (own_b (x540 = (46 : Int32))))) .unset .unset .unset [(.ref b728), (.ref b720), (.ref b720)]))
    have hp760 : ∀ c ∈ ([x534, x537, x540] : List Int32), ¬ c < 0 ∧ ¬ (255 : Int32) < c := by
      intro c hc
      simp only [List.mem_cons, List.not_mem_nil, or_false] at hc
      rcases hc with rfl | rfl | rfl
      · exact own_id_rng hx534
      · exact own_id_rng hx537
      · exact own_id_rng hx540
    have f761 := (Nat.le_trans (Nat.le_trans (Nat.le_trans (Nat.le_trans f731 E728.1) (Keep.of_wr W739).1) (Keep.of_wr W746).1) (Keep.of_wr W753).1)
    have f762 := ((((A720.ext E728).wr W739).wr W746).wr W753)
    have f763 := ((((F727.ext E728).other W739 (Or.inl ne729)).other W746 (Or.inl ne729)).other W753 (Or.inl ne729))
    have f764 := ((((F726.ext E728).other W739 (Or.inl ne729)).other W746 (Or.inl ne729)).other W753 (Or.inl ne729))
    have f765 := (((((X00.ext E720).ext E728).wr W739 g730).wr W746 g730).wr W753 g730)
    obtain ⟨vv766, _, ⟨T766, L766, k766, n766⟩, -, X766, ⟨Lc766, hQ766, l766, y766, z766⟩, st766⟩ := Xh759.specialBack hx (y := (⟨"java/lang/String", "<init>", "([C)V"⟩ : MethodName)) rfl hown (mvT hZ (Wd12 hw)) (mvT hZ (Wd13 hw)) (mvT hZ (Wd14 hw)) (by decide) (StrChars.Road.backV (W := 1) hZ hws (kI := 4) (Wd9 hw) (cs := ([x534, x537, x540] : List Int32)) (bs := (([x534, x537, x540] : List Int32)).map (fun c => c.toInt8.toInt32)) (n := 3) g721 f761 f762 f763 f764 V754 (O2.ext f765.2) P5 rfl rfl (by decide) (by decide) hp760 rfl (by decide) (by decide)) (g := (fr_law m p0 p1 p2 p3 p4 185 (.val (.int (3 : Int32))) (.val (.int x534)) (.val (.int x537)) (.val (.int x540)) (.val (.int x543)) (.val (.int (own_b (x534 = (46 : Int32))))) (.val (.int (own_b (x537 = (46 : Int32))))) (.val (.int (own_b (x540 = (46 : Int32))))) (.val (.int (own_b (x543 = (46 : Int32))))) (.val (.int (own_b (x540 = (46 : Int32))))) .unset .unset .unset [(.ref b728), (.ref b720), (.ref b720)])) rfl (by rw [hml]; rfl) (Steps.refl _) (a := b720) (argsL := [(.ref b728)]) (rest := [(.ref b720)]) (lenOf pd_588 rfl) rfl (by show 2 * 0 + _ ≤ _; exact Nat.le_of_eq rfl) (hb hby at_185) (fun _ _ => ⟨rfl, e753, (by decide : 2 + 1 ≤ _), (by decide : 7 + 3 ≤ _)⟩)
    dsimp only [Pt.U, Pt.locs, Pt.cells, Pt.slots] at X766 l766 y766 z766 st766 hQ766
    subst l766 y766 z766
    obtain ⟨rfl, Nq766, Kq766, Eq766, Cq766, t766, kb766, u766, v766, w766, Vq766, Aq766⟩ := hQ766
    have ne767 : b720 ≠ t766 := Nat.ne_of_lt (Nat.lt_of_lt_of_le f762.lt v766)
    have ne768 : b728 ≠ t766 := Nat.ne_of_lt (Nat.lt_of_lt_of_le V754.lt v766)
    have g769 : n0 ≤ t766 := Nat.le_trans f761 v766
    have sf770 : Safe Z ownEL s.vm h753 t766 := Safe.new v766
    have f772 := ((((f734.ext E728).wr W739 (Or.inr z733)).wr W746 (Or.inr z733)).wr W753 (Or.inr z733))
    have z771 : h0.size ≤ t766 := Nat.le_trans f772.1 v766
    have N773 := Fr.app Nh759 Nq766
    have R774 := R756.trans (CHr.keep Kq766 (sfS sf757 sf0) R756.1)
    have sf775 := Safe.keep Kq766 (sfS sf757 sf0) R756.1 sf757
    have sf776 := Safe.keep Kq766 (sfS sf757 sf0) R756.1 sf758
    have sf777 := Safe.keep Kq766 (sfS sf757 sf0) R756.1 sf770
    obtain ⟨Lh778, Xh778, Nh778⟩ := own_hide (cells' := 3) (slots' := 10) X766 N773 (Nat.le_of_ble_eq_true rfl) (Nat.le_of_ble_eq_true rfl)
    refine ownSt st766 ?_
    clear st766
    show ownG p.tables e below _ (T766.setTop (fr_law m p0 p1 p2 p3 p4 188 (.val (.int (3 : Int32))) (.val (.int x534)) (.val (.int x537)) (.val (.int x540)) (.val (.int x543)) (.val (.int (own_b (x534 = (46 : Int32))))) (.val (.int (own_b (x537 = (46 : Int32))))) (.val (.int (own_b (x540 = (46 : Int32))))) (.val (.int (own_b (x543 = (46 : Int32))))) (.val (.int (own_b (x540 = (46 : Int32))))) .unset .unset .unset [(.ref b720)]))
    refine ownBy (A := T766.setTop (fr_law m p0 p1 p2 p3 p4 237 (.val (.int (3 : Int32))) (.val (.int x534)) (.val (.int x537)) (.val (.int x540)) (.val (.int x543)) (.val (.int (own_b (x534 = (46 : Int32))))) (.val (.int (own_b (x537 = (46 : Int32))))) (.val (.int (own_b (x540 = (46 : Int32))))) (.val (.int (own_b (x543 = (46 : Int32))))) (.val (.int (own_b (x540 = (46 : Int32))))) (.val (.ref b720)) .unset .unset [(.int (own_b (x534 = (46 : Int32))))])) (fun t kt => ?_) ?_
    · refine XS.astore Xh778.here hx rfl (hb hby at_188) rfl rfl (l' := #[.val (.int p0), .val (.int p1), .val (.int p2), .val (.int p3), .val (.int p4), .val (.int (3 : Int32)), .val (.int x534), .val (.int x537), .val (.int x540), .val (.int x543), .val (.int (own_b (x534 = (46 : Int32)))), .val (.int (own_b (x537 = (46 : Int32)))), .val (.int (own_b (x540 = (46 : Int32)))), .val (.int (own_b (x543 = (46 : Int32)))), .val (.int (own_b (x540 = (46 : Int32)))), .val (.ref b720), .unset, .unset]) rfl ?_
      refine XS.goto Xh778.here hx rfl (pc0 := 190) (pc' := 229) rfl (hb hby at_190) (by decide) (by decide) ?_
      refine XS.iload Xh778.here hx rfl (hb hby at_229) rfl ?_
      show Steps p.tables e below (T766.setTop (fr_law m p0 p1 p2 p3 p4 231 (.val (.int (3 : Int32))) (.val (.int x534)) (.val (.int x537)) (.val (.int x540)) (.val (.int x543)) (.val (.int (own_b (x534 = (46 : Int32))))) (.val (.int (own_b (x537 = (46 : Int32))))) (.val (.int (own_b (x540 = (46 : Int32))))) (.val (.int (own_b (x543 = (46 : Int32))))) (.val (.int (own_b (x540 = (46 : Int32))))) (.val (.ref b720)) .unset .unset [(.int (3 : Int32))])) t
      refine XS.iconst Xh778.here hx rfl (hb hby at_231) ?_
      refine XS.icmpNo Xh778.here hx rfl (hb hby at_232) rfl (flt ((by decide) : ¬ ((3 : Int32) < (2 : Int32)))).1 ?_
      refine XS.iload Xh778.here hx rfl (hb hby at_235) rfl ?_
      exact kt
    by_cases hc779 : x534 = (46 : Int32)
    · skip
      refine ownBy (A := T766.setTop (fr_law m p0 p1 p2 p3 p4 242 (.val (.int (3 : Int32))) (.val (.int x534)) (.val (.int x537)) (.val (.int x540)) (.val (.int x543)) (.val (.int (own_b (x534 = (46 : Int32))))) (.val (.int (own_b (x537 = (46 : Int32))))) (.val (.int (own_b (x540 = (46 : Int32))))) (.val (.int (own_b (x543 = (46 : Int32))))) (.val (.int (own_b (x540 = (46 : Int32))))) (.val (.ref b720)) .unset .unset [(.int (own_b (x537 = (46 : Int32))))])) (fun t kt => ?_) ?_
      · refine XS.ifNo Xh778.here hx rfl (hb hby at_237) rfl ((if0 _ _).trans (feq (own_bt0 hc779)).1) ?_
        refine XS.iload Xh778.here hx rfl (hb hby at_240) rfl ?_
        exact kt
      by_cases hc780 : x537 = (46 : Int32)
      · skip
        refine ownBy (A := T766.setTop (fr_law m p0 p1 p2 p3 p4 300 (.val (.int (3 : Int32))) (.val (.int x534)) (.val (.int x537)) (.val (.int x540)) (.val (.int x543)) (.val (.int (own_b (x534 = (46 : Int32))))) (.val (.int (own_b (x537 = (46 : Int32))))) (.val (.int (own_b (x540 = (46 : Int32))))) (.val (.int (own_b (x543 = (46 : Int32))))) (.val (.int (own_b (x540 = (46 : Int32))))) (.val (.ref b720)) (.val (.int (1 : Int32))) .unset [(.int (1 : Int32))])) (fun t kt => ?_) ?_
        · refine XS.ifYes Xh778.here hx rfl (pc0 := 242) (pc' := 277) rfl (hb hby at_242) rfl ((if0 _ _).trans (feq (own_bt0 hc780)).2) (by decide) (by decide) ?_
          refine XS.iconst Xh778.here hx rfl (hb hby at_277) ?_
          refine XS.goto Xh778.here hx rfl (pc0 := 278) (pc' := 282) rfl (hb hby at_278) (by decide) (by decide) ?_
          show Steps p.tables e below (T766.setTop (fr_law m p0 p1 p2 p3 p4 282 (.val (.int (3 : Int32))) (.val (.int x534)) (.val (.int x537)) (.val (.int x540)) (.val (.int x543)) (.val (.int (own_b (x534 = (46 : Int32))))) (.val (.int (own_b (x537 = (46 : Int32))))) (.val (.int (own_b (x540 = (46 : Int32))))) (.val (.int (own_b (x543 = (46 : Int32))))) (.val (.int (own_b (x540 = (46 : Int32))))) (.val (.ref b720)) .unset .unset [(.int (1 : Int32))])) t
          refine XS.istore Xh778.here hx rfl (hb hby at_282) rfl (l' := #[.val (.int p0), .val (.int p1), .val (.int p2), .val (.int p3), .val (.int p4), .val (.int (3 : Int32)), .val (.int x534), .val (.int x537), .val (.int x540), .val (.int x543), .val (.int (own_b (x534 = (46 : Int32)))), .val (.int (own_b (x537 = (46 : Int32)))), .val (.int (own_b (x540 = (46 : Int32)))), .val (.int (own_b (x543 = (46 : Int32)))), .val (.int (own_b (x540 = (46 : Int32)))), .val (.ref b720), .val (.int (1 : Int32)), .unset]) rfl ?_
          refine XS.iload Xh778.here hx rfl (hb hby at_284) rfl ?_
          refine XS.ifYes Xh778.here hx rfl (pc0 := 286) (pc' := 299) rfl (hb hby at_286) rfl ((if0 _ _).trans (feq (own_bt0 hc779)).2) (by decide) (by decide) ?_
          show Steps p.tables e below (T766.setTop (fr_law m p0 p1 p2 p3 p4 299 (.val (.int (3 : Int32))) (.val (.int x534)) (.val (.int x537)) (.val (.int x540)) (.val (.int x543)) (.val (.int (own_b (x534 = (46 : Int32))))) (.val (.int (own_b (x537 = (46 : Int32))))) (.val (.int (own_b (x540 = (46 : Int32))))) (.val (.int (own_b (x543 = (46 : Int32))))) (.val (.int (own_b (x540 = (46 : Int32))))) (.val (.ref b720)) (.val (.int (1 : Int32))) .unset [])) t
          refine XS.iconst Xh778.here hx rfl (hb hby at_299) ?_
          exact kt
        refine ownRetH Xh778 hS0 (Nat.le_trans (Nat.le_trans (Nat.le_trans (Nat.le_trans (Nat.le_trans (Nat.le_trans (Nat.le_refl _) E720.1) E728.1) (Keep.of_wr W739).1) (Keep.of_wr W746).1) (Keep.of_wr W753).1) Kq766.1) Bd.notSynchronized (v := some (.int (nar .boolean (1 : Int32)))) (fun h => by rw [Bd.returns] at h; cases h) ?_ (R774.trans (CHv.at Xh778 hZ hEL R774.1)) (Nat.le_of_ble_eq_true rfl) (Nat.le_of_ble_eq_true rfl) (fun fs hr => retN Xh778 hx (t := .boolean) Bd.returns (by simp) (hb hby at_300) hr)
        show (Q_law Z p0 p1 p2 p3 p4 G1 G3 h0 n0) (some (.int (nar .boolean (1 : Int32)))) T766.heap _
        exact ⟨rfl, Nh778⟩
      · skip
        refine ownBy (A := T766.setTop (fr_law m p0 p1 p2 p3 p4 300 (.val (.int (3 : Int32))) (.val (.int x534)) (.val (.int x537)) (.val (.int x540)) (.val (.int x543)) (.val (.int (own_b (x534 = (46 : Int32))))) (.val (.int (own_b (x537 = (46 : Int32))))) (.val (.int (own_b (x540 = (46 : Int32))))) (.val (.int (own_b (x543 = (46 : Int32))))) (.val (.int (own_b (x540 = (46 : Int32))))) (.val (.ref b720)) (.val (.int (0 : Int32))) .unset [(.int (1 : Int32))])) (fun t kt => ?_) ?_
        · refine XS.ifNo Xh778.here hx rfl (hb hby at_242) rfl ((if0 _ _).trans (teq (own_bf0 hc780)).2) ?_
          refine XS.iload Xh778.here hx rfl (hb hby at_245) rfl ?_
          refine XS.iconst Xh778.here hx rfl (hb hby at_247) ?_
          show Steps p.tables e below (T766.setTop (fr_law m p0 p1 p2 p3 p4 248 (.val (.int (3 : Int32))) (.val (.int x534)) (.val (.int x537)) (.val (.int x540)) (.val (.int x543)) (.val (.int (own_b (x534 = (46 : Int32))))) (.val (.int (own_b (x537 = (46 : Int32))))) (.val (.int (own_b (x540 = (46 : Int32))))) (.val (.int (own_b (x543 = (46 : Int32))))) (.val (.int (own_b (x540 = (46 : Int32))))) (.val (.ref b720)) .unset .unset [(.int (3 : Int32)), (.int (3 : Int32))])) t
          refine XS.icmpNo Xh778.here hx rfl (hb hby at_248) rfl (flt ((by decide) : ¬ ((3 : Int32) < (3 : Int32)))).1 ?_
          refine XS.iload Xh778.here hx rfl (hb hby at_251) rfl ?_
          refine XS.ifYes Xh778.here hx rfl (pc0 := 253) (pc' := 261) rfl (hb hby at_253) rfl ((if0 _ _).trans (teq (own_bf0 hc780)).1) (by decide) (by decide) ?_
          show Steps p.tables e below (T766.setTop (fr_law m p0 p1 p2 p3 p4 261 (.val (.int (3 : Int32))) (.val (.int x534)) (.val (.int x537)) (.val (.int x540)) (.val (.int x543)) (.val (.int (own_b (x534 = (46 : Int32))))) (.val (.int (own_b (x537 = (46 : Int32))))) (.val (.int (own_b (x540 = (46 : Int32))))) (.val (.int (own_b (x543 = (46 : Int32))))) (.val (.int (own_b (x540 = (46 : Int32))))) (.val (.ref b720)) .unset .unset [])) t
          refine XS.iload Xh778.here hx rfl (hb hby at_261) rfl ?_
          refine XS.iconst Xh778.here hx rfl (hb hby at_263) ?_
          refine XS.icmpYes Xh778.here hx rfl (pc0 := 264) (pc' := 281) rfl (hb hby at_264) rfl (tlt ((by decide) : (3 : Int32) < (4 : Int32))).1 (by decide) (by decide) ?_
          show Steps p.tables e below (T766.setTop (fr_law m p0 p1 p2 p3 p4 281 (.val (.int (3 : Int32))) (.val (.int x534)) (.val (.int x537)) (.val (.int x540)) (.val (.int x543)) (.val (.int (own_b (x534 = (46 : Int32))))) (.val (.int (own_b (x537 = (46 : Int32))))) (.val (.int (own_b (x540 = (46 : Int32))))) (.val (.int (own_b (x543 = (46 : Int32))))) (.val (.int (own_b (x540 = (46 : Int32))))) (.val (.ref b720)) .unset .unset [])) t
          refine XS.iconst Xh778.here hx rfl (hb hby at_281) ?_
          refine XS.istore Xh778.here hx rfl (hb hby at_282) rfl (l' := #[.val (.int p0), .val (.int p1), .val (.int p2), .val (.int p3), .val (.int p4), .val (.int (3 : Int32)), .val (.int x534), .val (.int x537), .val (.int x540), .val (.int x543), .val (.int (own_b (x534 = (46 : Int32)))), .val (.int (own_b (x537 = (46 : Int32)))), .val (.int (own_b (x540 = (46 : Int32)))), .val (.int (own_b (x543 = (46 : Int32)))), .val (.int (own_b (x540 = (46 : Int32)))), .val (.ref b720), .val (.int (0 : Int32)), .unset]) rfl ?_
          refine XS.iload Xh778.here hx rfl (hb hby at_284) rfl ?_
          show Steps p.tables e below (T766.setTop (fr_law m p0 p1 p2 p3 p4 286 (.val (.int (3 : Int32))) (.val (.int x534)) (.val (.int x537)) (.val (.int x540)) (.val (.int x543)) (.val (.int (own_b (x534 = (46 : Int32))))) (.val (.int (own_b (x537 = (46 : Int32))))) (.val (.int (own_b (x540 = (46 : Int32))))) (.val (.int (own_b (x543 = (46 : Int32))))) (.val (.int (own_b (x540 = (46 : Int32))))) (.val (.ref b720)) (.val (.int (0 : Int32))) .unset [(.int (own_b (x534 = (46 : Int32))))])) t
          refine XS.ifYes Xh778.here hx rfl (pc0 := 286) (pc' := 299) rfl (hb hby at_286) rfl ((if0 _ _).trans (feq (own_bt0 hc779)).2) (by decide) (by decide) ?_
          refine XS.iconst Xh778.here hx rfl (hb hby at_299) ?_
          exact kt
        refine ownRetH Xh778 hS0 (Nat.le_trans (Nat.le_trans (Nat.le_trans (Nat.le_trans (Nat.le_trans (Nat.le_trans (Nat.le_refl _) E720.1) E728.1) (Keep.of_wr W739).1) (Keep.of_wr W746).1) (Keep.of_wr W753).1) Kq766.1) Bd.notSynchronized (v := some (.int (nar .boolean (1 : Int32)))) (fun h => by rw [Bd.returns] at h; cases h) ?_ (R774.trans (CHv.at Xh778 hZ hEL R774.1)) (Nat.le_of_ble_eq_true rfl) (Nat.le_of_ble_eq_true rfl) (fun fs hr => retN Xh778 hx (t := .boolean) Bd.returns (by simp) (hb hby at_300) hr)
        show (Q_law Z p0 p1 p2 p3 p4 G1 G3 h0 n0) (some (.int (nar .boolean (1 : Int32)))) T766.heap _
        exact ⟨rfl, Nh778⟩
    · skip
      refine ownBy (A := T766.setTop (fr_law m p0 p1 p2 p3 p4 253 (.val (.int (3 : Int32))) (.val (.int x534)) (.val (.int x537)) (.val (.int x540)) (.val (.int x543)) (.val (.int (own_b (x534 = (46 : Int32))))) (.val (.int (own_b (x537 = (46 : Int32))))) (.val (.int (own_b (x540 = (46 : Int32))))) (.val (.int (own_b (x543 = (46 : Int32))))) (.val (.int (own_b (x540 = (46 : Int32))))) (.val (.ref b720)) .unset .unset [(.int (own_b (x537 = (46 : Int32))))])) (fun t kt => ?_) ?_
      · refine XS.ifYes Xh778.here hx rfl (pc0 := 237) (pc' := 245) rfl (hb hby at_237) rfl ((if0 _ _).trans (teq (own_bf0 hc779)).1) (by decide) (by decide) ?_
        refine XS.iload Xh778.here hx rfl (hb hby at_245) rfl ?_
        refine XS.iconst Xh778.here hx rfl (hb hby at_247) ?_
        show Steps p.tables e below (T766.setTop (fr_law m p0 p1 p2 p3 p4 248 (.val (.int (3 : Int32))) (.val (.int x534)) (.val (.int x537)) (.val (.int x540)) (.val (.int x543)) (.val (.int (own_b (x534 = (46 : Int32))))) (.val (.int (own_b (x537 = (46 : Int32))))) (.val (.int (own_b (x540 = (46 : Int32))))) (.val (.int (own_b (x543 = (46 : Int32))))) (.val (.int (own_b (x540 = (46 : Int32))))) (.val (.ref b720)) .unset .unset [(.int (3 : Int32)), (.int (3 : Int32))])) t
        refine XS.icmpNo Xh778.here hx rfl (hb hby at_248) rfl (flt ((by decide) : ¬ ((3 : Int32) < (3 : Int32)))).1 ?_
        refine XS.iload Xh778.here hx rfl (hb hby at_251) rfl ?_
        exact kt
      by_cases hc783 : x537 = (46 : Int32)
      · skip
        refine ownBy (A := T766.setTop (fr_law m p0 p1 p2 p3 p4 258 (.val (.int (3 : Int32))) (.val (.int x534)) (.val (.int x537)) (.val (.int x540)) (.val (.int x543)) (.val (.int (own_b (x534 = (46 : Int32))))) (.val (.int (own_b (x537 = (46 : Int32))))) (.val (.int (own_b (x540 = (46 : Int32))))) (.val (.int (own_b (x543 = (46 : Int32))))) (.val (.int (own_b (x540 = (46 : Int32))))) (.val (.ref b720)) .unset .unset [(.int (own_b (x540 = (46 : Int32))))])) (fun t kt => ?_) ?_
        · refine XS.ifNo Xh778.here hx rfl (hb hby at_253) rfl ((if0 _ _).trans (feq (own_bt0 hc783)).1) ?_
          refine XS.iload Xh778.here hx rfl (hb hby at_256) rfl ?_
          exact kt
        by_cases hc784 : x540 = (46 : Int32)
        · skip
          refine ownBy (A := T766.setTop (fr_law m p0 p1 p2 p3 p4 300 (.val (.int (3 : Int32))) (.val (.int x534)) (.val (.int x537)) (.val (.int x540)) (.val (.int x543)) (.val (.int (own_b (x534 = (46 : Int32))))) (.val (.int (own_b (x537 = (46 : Int32))))) (.val (.int (own_b (x540 = (46 : Int32))))) (.val (.int (own_b (x543 = (46 : Int32))))) (.val (.int (own_b (x540 = (46 : Int32))))) (.val (.ref b720)) (.val (.int (1 : Int32))) .unset [(.int (1 : Int32))])) (fun t kt => ?_) ?_
          · refine XS.ifYes Xh778.here hx rfl (pc0 := 258) (pc' := 277) rfl (hb hby at_258) rfl ((if0 _ _).trans (feq (own_bt0 hc784)).2) (by decide) (by decide) ?_
            refine XS.iconst Xh778.here hx rfl (hb hby at_277) ?_
            refine XS.goto Xh778.here hx rfl (pc0 := 278) (pc' := 282) rfl (hb hby at_278) (by decide) (by decide) ?_
            show Steps p.tables e below (T766.setTop (fr_law m p0 p1 p2 p3 p4 282 (.val (.int (3 : Int32))) (.val (.int x534)) (.val (.int x537)) (.val (.int x540)) (.val (.int x543)) (.val (.int (own_b (x534 = (46 : Int32))))) (.val (.int (own_b (x537 = (46 : Int32))))) (.val (.int (own_b (x540 = (46 : Int32))))) (.val (.int (own_b (x543 = (46 : Int32))))) (.val (.int (own_b (x540 = (46 : Int32))))) (.val (.ref b720)) .unset .unset [(.int (1 : Int32))])) t
            refine XS.istore Xh778.here hx rfl (hb hby at_282) rfl (l' := #[.val (.int p0), .val (.int p1), .val (.int p2), .val (.int p3), .val (.int p4), .val (.int (3 : Int32)), .val (.int x534), .val (.int x537), .val (.int x540), .val (.int x543), .val (.int (own_b (x534 = (46 : Int32)))), .val (.int (own_b (x537 = (46 : Int32)))), .val (.int (own_b (x540 = (46 : Int32)))), .val (.int (own_b (x543 = (46 : Int32)))), .val (.int (own_b (x540 = (46 : Int32)))), .val (.ref b720), .val (.int (1 : Int32)), .unset]) rfl ?_
            refine XS.iload Xh778.here hx rfl (hb hby at_284) rfl ?_
            refine XS.ifNo Xh778.here hx rfl (hb hby at_286) rfl ((if0 _ _).trans (teq (own_bf0 hc779)).2) ?_
            show Steps p.tables e below (T766.setTop (fr_law m p0 p1 p2 p3 p4 289 (.val (.int (3 : Int32))) (.val (.int x534)) (.val (.int x537)) (.val (.int x540)) (.val (.int x543)) (.val (.int (own_b (x534 = (46 : Int32))))) (.val (.int (own_b (x537 = (46 : Int32))))) (.val (.int (own_b (x540 = (46 : Int32))))) (.val (.int (own_b (x543 = (46 : Int32))))) (.val (.int (own_b (x540 = (46 : Int32))))) (.val (.ref b720)) (.val (.int (1 : Int32))) .unset [])) t
            refine XS.iload Xh778.here hx rfl (hb hby at_289) rfl ?_
            refine XS.ifYes Xh778.here hx rfl (pc0 := 291) (pc' := 299) rfl (hb hby at_291) rfl ((if0 _ _).trans (feq (own_bt0 hc784)).2) (by decide) (by decide) ?_
            refine XS.iconst Xh778.here hx rfl (hb hby at_299) ?_
            exact kt
          refine ownRetH Xh778 hS0 (Nat.le_trans (Nat.le_trans (Nat.le_trans (Nat.le_trans (Nat.le_trans (Nat.le_trans (Nat.le_refl _) E720.1) E728.1) (Keep.of_wr W739).1) (Keep.of_wr W746).1) (Keep.of_wr W753).1) Kq766.1) Bd.notSynchronized (v := some (.int (nar .boolean (1 : Int32)))) (fun h => by rw [Bd.returns] at h; cases h) ?_ (R774.trans (CHv.at Xh778 hZ hEL R774.1)) (Nat.le_of_ble_eq_true rfl) (Nat.le_of_ble_eq_true rfl) (fun fs hr => retN Xh778 hx (t := .boolean) Bd.returns (by simp) (hb hby at_300) hr)
          show (Q_law Z p0 p1 p2 p3 p4 G1 G3 h0 n0) (some (.int (nar .boolean (1 : Int32)))) T766.heap _
          exact ⟨rfl, Nh778⟩
        · skip
          refine ownBy (A := T766.setTop (fr_law m p0 p1 p2 p3 p4 303 (.val (.int (3 : Int32))) (.val (.int x534)) (.val (.int x537)) (.val (.int x540)) (.val (.int x543)) (.val (.int (own_b (x534 = (46 : Int32))))) (.val (.int (own_b (x537 = (46 : Int32))))) (.val (.int (own_b (x540 = (46 : Int32))))) (.val (.int (own_b (x543 = (46 : Int32))))) (.val (.int (own_b (x540 = (46 : Int32))))) (.val (.ref b720)) (.val (.int (0 : Int32))) .unset [(.ref b720)])) (fun t kt => ?_) ?_
          · refine XS.ifNo Xh778.here hx rfl (hb hby at_258) rfl ((if0 _ _).trans (teq (own_bf0 hc784)).2) ?_
            refine XS.iload Xh778.here hx rfl (hb hby at_261) rfl ?_
            refine XS.iconst Xh778.here hx rfl (hb hby at_263) ?_
            show Steps p.tables e below (T766.setTop (fr_law m p0 p1 p2 p3 p4 264 (.val (.int (3 : Int32))) (.val (.int x534)) (.val (.int x537)) (.val (.int x540)) (.val (.int x543)) (.val (.int (own_b (x534 = (46 : Int32))))) (.val (.int (own_b (x537 = (46 : Int32))))) (.val (.int (own_b (x540 = (46 : Int32))))) (.val (.int (own_b (x543 = (46 : Int32))))) (.val (.int (own_b (x540 = (46 : Int32))))) (.val (.ref b720)) .unset .unset [(.int (4 : Int32)), (.int (3 : Int32))])) t
            refine XS.icmpYes Xh778.here hx rfl (pc0 := 264) (pc' := 281) rfl (hb hby at_264) rfl (tlt ((by decide) : (3 : Int32) < (4 : Int32))).1 (by decide) (by decide) ?_
            refine XS.iconst Xh778.here hx rfl (hb hby at_281) ?_
            refine XS.istore Xh778.here hx rfl (hb hby at_282) rfl (l' := #[.val (.int p0), .val (.int p1), .val (.int p2), .val (.int p3), .val (.int p4), .val (.int (3 : Int32)), .val (.int x534), .val (.int x537), .val (.int x540), .val (.int x543), .val (.int (own_b (x534 = (46 : Int32)))), .val (.int (own_b (x537 = (46 : Int32)))), .val (.int (own_b (x540 = (46 : Int32)))), .val (.int (own_b (x543 = (46 : Int32)))), .val (.int (own_b (x540 = (46 : Int32)))), .val (.ref b720), .val (.int (0 : Int32)), .unset]) rfl ?_
            show Steps p.tables e below (T766.setTop (fr_law m p0 p1 p2 p3 p4 284 (.val (.int (3 : Int32))) (.val (.int x534)) (.val (.int x537)) (.val (.int x540)) (.val (.int x543)) (.val (.int (own_b (x534 = (46 : Int32))))) (.val (.int (own_b (x537 = (46 : Int32))))) (.val (.int (own_b (x540 = (46 : Int32))))) (.val (.int (own_b (x543 = (46 : Int32))))) (.val (.int (own_b (x540 = (46 : Int32))))) (.val (.ref b720)) (.val (.int (0 : Int32))) .unset [])) t
            refine XS.iload Xh778.here hx rfl (hb hby at_284) rfl ?_
            refine XS.ifNo Xh778.here hx rfl (hb hby at_286) rfl ((if0 _ _).trans (teq (own_bf0 hc779)).2) ?_
            refine XS.iload Xh778.here hx rfl (hb hby at_289) rfl ?_
            show Steps p.tables e below (T766.setTop (fr_law m p0 p1 p2 p3 p4 291 (.val (.int (3 : Int32))) (.val (.int x534)) (.val (.int x537)) (.val (.int x540)) (.val (.int x543)) (.val (.int (own_b (x534 = (46 : Int32))))) (.val (.int (own_b (x537 = (46 : Int32))))) (.val (.int (own_b (x540 = (46 : Int32))))) (.val (.int (own_b (x543 = (46 : Int32))))) (.val (.int (own_b (x540 = (46 : Int32))))) (.val (.ref b720)) (.val (.int (0 : Int32))) .unset [(.int (own_b (x540 = (46 : Int32))))])) t
            refine XS.ifNo Xh778.here hx rfl (hb hby at_291) rfl ((if0 _ _).trans (teq (own_bf0 hc784)).2) ?_
            refine XS.iload Xh778.here hx rfl (hb hby at_294) rfl ?_
            refine XS.ifYes Xh778.here hx rfl (pc0 := 296) (pc' := 301) rfl (hb hby at_296) rfl ((if0 _ _).trans (teq ((by decide) : (0 : Int32) = (0 : Int32))).1) (by decide) (by decide) ?_
            show Steps p.tables e below (T766.setTop (fr_law m p0 p1 p2 p3 p4 301 (.val (.int (3 : Int32))) (.val (.int x534)) (.val (.int x537)) (.val (.int x540)) (.val (.int x543)) (.val (.int (own_b (x534 = (46 : Int32))))) (.val (.int (own_b (x537 = (46 : Int32))))) (.val (.int (own_b (x540 = (46 : Int32))))) (.val (.int (own_b (x543 = (46 : Int32))))) (.val (.int (own_b (x540 = (46 : Int32))))) (.val (.ref b720)) (.val (.int (0 : Int32))) .unset [])) t
            refine XS.aload Xh778.here hx rfl (hb hby at_301) rfl rfl ?_
            exact kt
          have f786 := (f762.keep Kq766)
          have f787 := (f765.keep Kq766 (allS g721 all0))
          have f788 := (Nat.le_trans f761 Kq766.1)
          obtain ⟨vv789, _, ⟨T789, L789, k789, n789⟩, -, X789, hS789, hg789, ⟨Lc789, hQ789, l789, y789, z789, hC789⟩, st789⟩ := callSS Xh778 hx (y := (⟨"com/example/boring_outbox/boringoutbox/EventType", "of", "(Ljava/lang/String;)Lcom/example/boring_outbox/boringoutbox/EventType;"⟩ : MethodName)) hown (mvT hZ (Wd38 hw)) (mvT hZ (Wd39 hw)) (mvT hZ (Wd40 hw)) (mvT hZ (Wd41 hw)) (by decide) (backOfSH (W := 0) (s := s) (EL := ownEL) (c_of3 l Z a0 hw [] b720 t766 kb766 x534 x537 x540 G1 G3 T766.heap n0 f788 f786 Vq766 Cq766 Aq766 hp760 hx534 hx537 hx540 hc779 hc784 O2 P5 f787 O4 rG3) hZ (Wd41 hw) (Wd40 hw) (by decide) (by decide) hEL R774.1) (g := (fr_law m p0 p1 p2 p3 p4 303 (.val (.int (3 : Int32))) (.val (.int x534)) (.val (.int x537)) (.val (.int x540)) (.val (.int x543)) (.val (.int (own_b (x534 = (46 : Int32))))) (.val (.int (own_b (x537 = (46 : Int32))))) (.val (.int (own_b (x540 = (46 : Int32))))) (.val (.int (own_b (x543 = (46 : Int32))))) (.val (.int (own_b (x540 = (46 : Int32))))) (.val (.ref b720)) (.val (.int (0 : Int32))) .unset [(.ref b720)])) rfl (by rw [hml]; rfl) (argsL := [(.ref b720)]) (rest := []) (lenOf pd_607 rfl) rfl (by show 2 * 0 + _ ≤ _; exact Nat.le_of_eq rfl) (hb hby at_303) (fun _ _ => ⟨rfl, rfl, (by decide : 3 + 3 ≤ _), (by decide : 10 + 77 ≤ _)⟩)
          dsimp only [Pt.U, Pt.locs, Pt.cells, Pt.slots] at X789 l789 y789 z789 st789 hQ789 hS789 hg789 hC789
          subst l789 y789 z789
          obtain ⟨y789, rfl, Nq789, Kq789, zq789, Eq789, Fa789⟩ := hQ789
          have ne790 : b720 ≠ y789 := Nat.ne_of_lt (Nat.lt_of_lt_of_le f786.lt zq789)
          have f792 := (V754.keep Kq766 (ninS (Ne.symm ne729) nin0))
          have ne791 : b728 ≠ y789 := Nat.ne_of_lt (Nat.lt_of_lt_of_le f792.lt zq789)
          have ne793 : t766 ≠ y789 := Nat.ne_of_lt (Nat.lt_of_lt_of_le Aq766.lt zq789)
          have g794 : n0 ≤ y789 := Nat.le_trans f788 zq789
          have f796 := (f772.trans Kq766 (allS (Or.inr z723) all0))
          have z795 : h0.size ≤ y789 := Nat.le_trans f796.1 zq789
          have N797 := Fr.app Nh778 Nq789
          have R799 := R774.trans hC789
          have sf800 := CHr.safe hC789 f786.lt sf775
          have sf801 := CHr.safe hC789 f792.lt sf776
          have sf802 := CHr.safe hC789 Aq766.lt sf777
          obtain ⟨XR803, hSR803, hZ803, hown803⟩ := rebS hS0 (Nat.le_trans (Nat.le_trans (Nat.le_trans (Nat.le_trans (Nat.le_trans (Nat.le_trans (Nat.le_refl _) E720.1) E728.1) (Keep.of_wr W739).1) (Keep.of_wr W746).1) (Keep.of_wr W753).1) Kq766.1) X789 hS789 hg789 hZ hown
          obtain ⟨Lh804, Xh804, Nh804⟩ := own_hide (cells' := 6) (slots' := 87) XR803 N797 (Nat.le_of_ble_eq_true rfl) (Nat.le_of_ble_eq_true rfl)
          refine ownSt st789 ?_
          clear st789
          show ownG p.tables e below _ (T789.setTop (fr_law m p0 p1 p2 p3 p4 306 (.val (.int (3 : Int32))) (.val (.int x534)) (.val (.int x537)) (.val (.int x540)) (.val (.int x543)) (.val (.int (own_b (x534 = (46 : Int32))))) (.val (.int (own_b (x537 = (46 : Int32))))) (.val (.int (own_b (x540 = (46 : Int32))))) (.val (.int (own_b (x543 = (46 : Int32))))) (.val (.int (own_b (x540 = (46 : Int32))))) (.val (.ref b720)) (.val (.int (0 : Int32))) .unset [(.ref y789)]))
          refine ownBy (A := T789.setTop (fr_law m p0 p1 p2 p3 p4 317 (.val (.int (3 : Int32))) (.val (.int x534)) (.val (.int x537)) (.val (.int x540)) (.val (.int x543)) (.val (.int (own_b (x534 = (46 : Int32))))) (.val (.int (own_b (x537 = (46 : Int32))))) (.val (.int (own_b (x540 = (46 : Int32))))) (.val (.int (own_b (x543 = (46 : Int32))))) (.val (.int (own_b (x540 = (46 : Int32))))) (.val (.ref b720)) (.val (.int (0 : Int32))) (.val (.ref y789)) [(.ref y789), (.ref b720)])) (fun t kt => ?_) ?_
          · refine XS.astore Xh804.here hx rfl (hb hby at_306) rfl rfl (l' := #[.val (.int p0), .val (.int p1), .val (.int p2), .val (.int p3), .val (.int p4), .val (.int (3 : Int32)), .val (.int x534), .val (.int x537), .val (.int x540), .val (.int x543), .val (.int (own_b (x534 = (46 : Int32)))), .val (.int (own_b (x537 = (46 : Int32)))), .val (.int (own_b (x540 = (46 : Int32)))), .val (.int (own_b (x543 = (46 : Int32)))), .val (.int (own_b (x540 = (46 : Int32)))), .val (.ref b720), .val (.int (0 : Int32)), .val (.ref y789)]) rfl ?_
            refine XS.aload Xh804.here hx rfl (hb hby at_308) rfl rfl ?_
            refine XS.ifnullNo Xh804.here hx rfl (hb hby at_310) rfl ?_
            show Steps p.tables e below (T789.setTop (fr_law m p0 p1 p2 p3 p4 313 (.val (.int (3 : Int32))) (.val (.int x534)) (.val (.int x537)) (.val (.int x540)) (.val (.int x543)) (.val (.int (own_b (x534 = (46 : Int32))))) (.val (.int (own_b (x537 = (46 : Int32))))) (.val (.int (own_b (x540 = (46 : Int32))))) (.val (.int (own_b (x543 = (46 : Int32))))) (.val (.int (own_b (x540 = (46 : Int32))))) (.val (.ref b720)) (.val (.int (0 : Int32))) (.val (.ref y789)) [])) t
            refine XS.aload Xh804.here hx rfl (hb hby at_313) rfl rfl ?_
            refine XS.aload Xh804.here hx rfl (hb hby at_315) rfl rfl ?_
            exact kt
          have f805 := (Nat.le_trans f788 Kq789.1)
          obtain ⟨cq806, kq806, q806a, q806b, q806c⟩ := isOf hZ803 rfl Eq789
          obtain ⟨vv806, _, ⟨T806, L806, k806, n806⟩, -, X806, ⟨Lc806, hQ806, l806, y806, z806⟩, st806⟩ := Xh804.virtualBack hx (y := (⟨"com/example/boring_outbox/boringoutbox/EventType", "name", "()Ljava/lang/String;"⟩ : MethodName)) (z := (⟨"com/example/boring_outbox/boringoutbox/EventType", "name", "()Ljava/lang/String;"⟩ : MethodName)) hown803 (mvT hZ803 (Wd97 hw)) (mvT hZ803 (Wd98 hw)) (notFace_of_selects (args := #[]) (mvT hZ803 (Wd100 hw))) (mvT hZ803 (Wd100 hw)) (mvT hZ803 (Wd99 hw)) (by decide) (backOf (W := 1) (c_gname l Z a0 hw [] y789 (.ref b720) T789.heap n0 f805 Fa789 rfl) hZ803 (Wd101 hw) (Wd40 hw) (by decide) (by decide)) q806a q806c (g := (fr_law m p0 p1 p2 p3 p4 317 (.val (.int (3 : Int32))) (.val (.int x534)) (.val (.int x537)) (.val (.int x540)) (.val (.int x543)) (.val (.int (own_b (x534 = (46 : Int32))))) (.val (.int (own_b (x537 = (46 : Int32))))) (.val (.int (own_b (x540 = (46 : Int32))))) (.val (.int (own_b (x543 = (46 : Int32))))) (.val (.int (own_b (x540 = (46 : Int32))))) (.val (.ref b720)) (.val (.int (0 : Int32))) (.val (.ref y789)) [(.ref y789), (.ref b720)])) rfl (by rw [hml]; rfl) (Steps.refl _) (argsL := []) (rest := [(.ref b720)]) (lenOf pd_625 rfl) rfl (by show 2 * 0 + _ ≤ _; exact Nat.le_of_eq rfl) (hb hby at_317) (fun _ _ => ⟨rfl, rfl, (by decide : 6 + 0 ≤ _), (by decide : 87 + 0 ≤ _)⟩)
          dsimp only [Pt.U, Pt.locs, Pt.cells, Pt.slots] at X806 l806 y806 z806 st806 hQ806
          subst l806 y806 z806
          obtain ⟨rfl, Nq806, Eq806⟩ := hQ806
          have N807 := Fr.app Nh804 Nq806
          obtain ⟨Lh808, Xh808, Nh808⟩ := own_hide (cells' := 6) (slots' := 87) X806 N807 (Nat.le_of_ble_eq_true rfl) (Nat.le_of_ble_eq_true rfl)
          refine ownSt st806 ?_
          clear st806
          show ownG p.tables e below _ (T806.setTop (fr_law m p0 p1 p2 p3 p4 320 (.val (.int (3 : Int32))) (.val (.int x534)) (.val (.int x537)) (.val (.int x540)) (.val (.int x543)) (.val (.int (own_b (x534 = (46 : Int32))))) (.val (.int (own_b (x537 = (46 : Int32))))) (.val (.int (own_b (x540 = (46 : Int32))))) (.val (.int (own_b (x543 = (46 : Int32))))) (.val (.int (own_b (x540 = (46 : Int32))))) (.val (.ref b720)) (.val (.int (0 : Int32))) (.val (.ref y789)) [(.ref b720), (.ref b720)]))
          have f810 := (f786.keep Kq789)
          obtain ⟨cq809, kq809, q809a, q809b, q809c⟩ := isOf hZ803 Eq806 f810
          obtain ⟨vv809, _, ⟨T809, L809, k809, n809⟩, -, X809, ⟨Lc809, hQ809, l809, y809, z809⟩, st809⟩ := Xh808.virtualBack hx (y := (⟨"java/lang/String", "equals", "(Ljava/lang/Object;)Z"⟩ : MethodName)) (z := (⟨"java/lang/String", "equals", "(Ljava/lang/Object;)Z"⟩ : MethodName)) hown803 (mvT hZ803 (Wd102 hw)) (mvT hZ803 (Wd103 hw)) (notFace_of_selects (args := #[]) (mvT hZ803 (Wd105 hw))) (mvT hZ803 (Wd105 hw)) (mvT hZ803 (Wd104 hw)) (by decide) (backOf (W := 0) (c_eqs l Z a0 hw [] b720 T789.heap n0 f805 ) hZ803 (Wd106 hw) (Wd10 hw) (by decide) (by decide)) q809a q809c (g := (fr_law m p0 p1 p2 p3 p4 320 (.val (.int (3 : Int32))) (.val (.int x534)) (.val (.int x537)) (.val (.int x540)) (.val (.int x543)) (.val (.int (own_b (x534 = (46 : Int32))))) (.val (.int (own_b (x537 = (46 : Int32))))) (.val (.int (own_b (x540 = (46 : Int32))))) (.val (.int (own_b (x543 = (46 : Int32))))) (.val (.int (own_b (x540 = (46 : Int32))))) (.val (.ref b720)) (.val (.int (0 : Int32))) (.val (.ref y789)) [(.ref b720), (.ref b720)])) rfl (by rw [hml]; rfl) (Steps.refl _) (argsL := [(.ref b720)]) (rest := []) (lenOf pd_629 rfl) rfl (by show 2 * 0 + _ ≤ _; exact Nat.le_of_eq rfl) (hb hby at_320) (fun _ _ => ⟨rfl, Eq806, (by decide : 6 + 0 ≤ _), (by decide : 87 + 0 ≤ _)⟩)
          dsimp only [Pt.U, Pt.locs, Pt.cells, Pt.slots] at X809 l809 y809 z809 st809 hQ809
          subst l809 y809 z809
          obtain ⟨rfl, Nq809, Eq809⟩ := hQ809
          have N811 := Fr.app Nh808 Nq809
          obtain ⟨Lh812, Xh812, Nh812⟩ := own_hide (cells' := 6) (slots' := 87) X809 N811 (Nat.le_of_ble_eq_true rfl) (Nat.le_of_ble_eq_true rfl)
          refine ownSt st809 ?_
          clear st809
          show ownG p.tables e below _ (T809.setTop (fr_law m p0 p1 p2 p3 p4 323 (.val (.int (3 : Int32))) (.val (.int x534)) (.val (.int x537)) (.val (.int x540)) (.val (.int x543)) (.val (.int (own_b (x534 = (46 : Int32))))) (.val (.int (own_b (x537 = (46 : Int32))))) (.val (.int (own_b (x540 = (46 : Int32))))) (.val (.int (own_b (x543 = (46 : Int32))))) (.val (.int (own_b (x540 = (46 : Int32))))) (.val (.ref b720)) (.val (.int (0 : Int32))) (.val (.ref y789)) [(.int (1 : Int32))]))
          refine ownBy (A := T809.setTop (fr_law m p0 p1 p2 p3 p4 331 (.val (.int (3 : Int32))) (.val (.int x534)) (.val (.int x537)) (.val (.int x540)) (.val (.int x543)) (.val (.int (own_b (x534 = (46 : Int32))))) (.val (.int (own_b (x537 = (46 : Int32))))) (.val (.int (own_b (x540 = (46 : Int32))))) (.val (.int (own_b (x543 = (46 : Int32))))) (.val (.int (own_b (x540 = (46 : Int32))))) (.val (.ref b720)) (.val (.int (0 : Int32))) (.val (.ref y789)) [(.int (1 : Int32))])) (fun t kt => ?_) ?_
          · refine XS.ifNo Xh812.here hx rfl (hb hby at_323) rfl ((if0 _ _).trans (feq ((by decide) : ¬ ((1 : Int32) = (0 : Int32)))).1) ?_
            refine XS.iconst Xh812.here hx rfl (hb hby at_326) ?_
            refine XS.goto Xh812.here hx rfl (pc0 := 327) (pc' := 331) rfl (hb hby at_327) (by decide) (by decide) ?_
            exact kt
          refine ownRetH Xh812 hSR803 (by rw [Eq809]; exact (Nat.le_refl _)) Bd.notSynchronized (v := some (.int (nar .boolean (1 : Int32)))) (fun h => by rw [Bd.returns] at h; cases h) ?_ (R799.trans ((by rw [Eq809]; exact CHv.at Xh812 hZ803 hEL R799.1))) (Nat.le_of_ble_eq_true rfl) (Nat.le_of_ble_eq_true rfl) (fun fs hr => retN Xh812 hx (t := .boolean) Bd.returns (by simp) (hb hby at_331) hr)
          show (Q_law Z p0 p1 p2 p3 p4 G1 G3 h0 n0) (some (.int (nar .boolean (1 : Int32)))) T809.heap _
          rw [Eq809]
          exact ⟨rfl, Nh812⟩
      · skip
        refine ownBy (A := T766.setTop (fr_law m p0 p1 p2 p3 p4 291 (.val (.int (3 : Int32))) (.val (.int x534)) (.val (.int x537)) (.val (.int x540)) (.val (.int x543)) (.val (.int (own_b (x534 = (46 : Int32))))) (.val (.int (own_b (x537 = (46 : Int32))))) (.val (.int (own_b (x540 = (46 : Int32))))) (.val (.int (own_b (x543 = (46 : Int32))))) (.val (.int (own_b (x540 = (46 : Int32))))) (.val (.ref b720)) (.val (.int (0 : Int32))) .unset [(.int (own_b (x540 = (46 : Int32))))])) (fun t kt => ?_) ?_
        · refine XS.ifYes Xh778.here hx rfl (pc0 := 253) (pc' := 261) rfl (hb hby at_253) rfl ((if0 _ _).trans (teq (own_bf0 hc783)).1) (by decide) (by decide) ?_
          refine XS.iload Xh778.here hx rfl (hb hby at_261) rfl ?_
          refine XS.iconst Xh778.here hx rfl (hb hby at_263) ?_
          show Steps p.tables e below (T766.setTop (fr_law m p0 p1 p2 p3 p4 264 (.val (.int (3 : Int32))) (.val (.int x534)) (.val (.int x537)) (.val (.int x540)) (.val (.int x543)) (.val (.int (own_b (x534 = (46 : Int32))))) (.val (.int (own_b (x537 = (46 : Int32))))) (.val (.int (own_b (x540 = (46 : Int32))))) (.val (.int (own_b (x543 = (46 : Int32))))) (.val (.int (own_b (x540 = (46 : Int32))))) (.val (.ref b720)) .unset .unset [(.int (4 : Int32)), (.int (3 : Int32))])) t
          refine XS.icmpYes Xh778.here hx rfl (pc0 := 264) (pc' := 281) rfl (hb hby at_264) rfl (tlt ((by decide) : (3 : Int32) < (4 : Int32))).1 (by decide) (by decide) ?_
          refine XS.iconst Xh778.here hx rfl (hb hby at_281) ?_
          refine XS.istore Xh778.here hx rfl (hb hby at_282) rfl (l' := #[.val (.int p0), .val (.int p1), .val (.int p2), .val (.int p3), .val (.int p4), .val (.int (3 : Int32)), .val (.int x534), .val (.int x537), .val (.int x540), .val (.int x543), .val (.int (own_b (x534 = (46 : Int32)))), .val (.int (own_b (x537 = (46 : Int32)))), .val (.int (own_b (x540 = (46 : Int32)))), .val (.int (own_b (x543 = (46 : Int32)))), .val (.int (own_b (x540 = (46 : Int32)))), .val (.ref b720), .val (.int (0 : Int32)), .unset]) rfl ?_
          show Steps p.tables e below (T766.setTop (fr_law m p0 p1 p2 p3 p4 284 (.val (.int (3 : Int32))) (.val (.int x534)) (.val (.int x537)) (.val (.int x540)) (.val (.int x543)) (.val (.int (own_b (x534 = (46 : Int32))))) (.val (.int (own_b (x537 = (46 : Int32))))) (.val (.int (own_b (x540 = (46 : Int32))))) (.val (.int (own_b (x543 = (46 : Int32))))) (.val (.int (own_b (x540 = (46 : Int32))))) (.val (.ref b720)) (.val (.int (0 : Int32))) .unset [])) t
          refine XS.iload Xh778.here hx rfl (hb hby at_284) rfl ?_
          refine XS.ifNo Xh778.here hx rfl (hb hby at_286) rfl ((if0 _ _).trans (teq (own_bf0 hc779)).2) ?_
          refine XS.iload Xh778.here hx rfl (hb hby at_289) rfl ?_
          exact kt
        by_cases hc814 : x540 = (46 : Int32)
        · skip
          refine ownBy (A := T766.setTop (fr_law m p0 p1 p2 p3 p4 300 (.val (.int (3 : Int32))) (.val (.int x534)) (.val (.int x537)) (.val (.int x540)) (.val (.int x543)) (.val (.int (own_b (x534 = (46 : Int32))))) (.val (.int (own_b (x537 = (46 : Int32))))) (.val (.int (own_b (x540 = (46 : Int32))))) (.val (.int (own_b (x543 = (46 : Int32))))) (.val (.int (own_b (x540 = (46 : Int32))))) (.val (.ref b720)) (.val (.int (0 : Int32))) .unset [(.int (1 : Int32))])) (fun t kt => ?_) ?_
          · refine XS.ifYes Xh778.here hx rfl (pc0 := 291) (pc' := 299) rfl (hb hby at_291) rfl ((if0 _ _).trans (feq (own_bt0 hc814)).2) (by decide) (by decide) ?_
            refine XS.iconst Xh778.here hx rfl (hb hby at_299) ?_
            exact kt
          refine ownRetH Xh778 hS0 (Nat.le_trans (Nat.le_trans (Nat.le_trans (Nat.le_trans (Nat.le_trans (Nat.le_trans (Nat.le_refl _) E720.1) E728.1) (Keep.of_wr W739).1) (Keep.of_wr W746).1) (Keep.of_wr W753).1) Kq766.1) Bd.notSynchronized (v := some (.int (nar .boolean (1 : Int32)))) (fun h => by rw [Bd.returns] at h; cases h) ?_ (R774.trans (CHv.at Xh778 hZ hEL R774.1)) (Nat.le_of_ble_eq_true rfl) (Nat.le_of_ble_eq_true rfl) (fun fs hr => retN Xh778 hx (t := .boolean) Bd.returns (by simp) (hb hby at_300) hr)
          show (Q_law Z p0 p1 p2 p3 p4 G1 G3 h0 n0) (some (.int (nar .boolean (1 : Int32)))) T766.heap _
          exact ⟨rfl, Nh778⟩
        · skip
          refine ownBy (A := T766.setTop (fr_law m p0 p1 p2 p3 p4 303 (.val (.int (3 : Int32))) (.val (.int x534)) (.val (.int x537)) (.val (.int x540)) (.val (.int x543)) (.val (.int (own_b (x534 = (46 : Int32))))) (.val (.int (own_b (x537 = (46 : Int32))))) (.val (.int (own_b (x540 = (46 : Int32))))) (.val (.int (own_b (x543 = (46 : Int32))))) (.val (.int (own_b (x540 = (46 : Int32))))) (.val (.ref b720)) (.val (.int (0 : Int32))) .unset [(.ref b720)])) (fun t kt => ?_) ?_
          · refine XS.ifNo Xh778.here hx rfl (hb hby at_291) rfl ((if0 _ _).trans (teq (own_bf0 hc814)).2) ?_
            refine XS.iload Xh778.here hx rfl (hb hby at_294) rfl ?_
            refine XS.ifYes Xh778.here hx rfl (pc0 := 296) (pc' := 301) rfl (hb hby at_296) rfl ((if0 _ _).trans (teq ((by decide) : (0 : Int32) = (0 : Int32))).1) (by decide) (by decide) ?_
            show Steps p.tables e below (T766.setTop (fr_law m p0 p1 p2 p3 p4 301 (.val (.int (3 : Int32))) (.val (.int x534)) (.val (.int x537)) (.val (.int x540)) (.val (.int x543)) (.val (.int (own_b (x534 = (46 : Int32))))) (.val (.int (own_b (x537 = (46 : Int32))))) (.val (.int (own_b (x540 = (46 : Int32))))) (.val (.int (own_b (x543 = (46 : Int32))))) (.val (.int (own_b (x540 = (46 : Int32))))) (.val (.ref b720)) (.val (.int (0 : Int32))) .unset [])) t
            refine XS.aload Xh778.here hx rfl (hb hby at_301) rfl rfl ?_
            exact kt
          have f816 := (f762.keep Kq766)
          have f817 := (f765.keep Kq766 (allS g721 all0))
          have f818 := (Nat.le_trans f761 Kq766.1)
          obtain ⟨vv819, _, ⟨T819, L819, k819, n819⟩, -, X819, hS819, hg819, ⟨Lc819, hQ819, l819, y819, z819, hC819⟩, st819⟩ := callSS Xh778 hx (y := (⟨"com/example/boring_outbox/boringoutbox/EventType", "of", "(Ljava/lang/String;)Lcom/example/boring_outbox/boringoutbox/EventType;"⟩ : MethodName)) hown (mvT hZ (Wd38 hw)) (mvT hZ (Wd39 hw)) (mvT hZ (Wd40 hw)) (mvT hZ (Wd41 hw)) (by decide) (backOfSH (W := 0) (s := s) (EL := ownEL) (c_of3 l Z a0 hw [] b720 t766 kb766 x534 x537 x540 G1 G3 T766.heap n0 f818 f816 Vq766 Cq766 Aq766 hp760 hx534 hx537 hx540 hc779 hc814 O2 P5 f817 O4 rG3) hZ (Wd41 hw) (Wd40 hw) (by decide) (by decide) hEL R774.1) (g := (fr_law m p0 p1 p2 p3 p4 303 (.val (.int (3 : Int32))) (.val (.int x534)) (.val (.int x537)) (.val (.int x540)) (.val (.int x543)) (.val (.int (own_b (x534 = (46 : Int32))))) (.val (.int (own_b (x537 = (46 : Int32))))) (.val (.int (own_b (x540 = (46 : Int32))))) (.val (.int (own_b (x543 = (46 : Int32))))) (.val (.int (own_b (x540 = (46 : Int32))))) (.val (.ref b720)) (.val (.int (0 : Int32))) .unset [(.ref b720)])) rfl (by rw [hml]; rfl) (argsL := [(.ref b720)]) (rest := []) (lenOf pd_607 rfl) rfl (by show 2 * 0 + _ ≤ _; exact Nat.le_of_eq rfl) (hb hby at_303) (fun _ _ => ⟨rfl, rfl, (by decide : 3 + 3 ≤ _), (by decide : 10 + 77 ≤ _)⟩)
          dsimp only [Pt.U, Pt.locs, Pt.cells, Pt.slots] at X819 l819 y819 z819 st819 hQ819 hS819 hg819 hC819
          subst l819 y819 z819
          obtain ⟨y819, rfl, Nq819, Kq819, zq819, Eq819, Fa819⟩ := hQ819
          have ne820 : b720 ≠ y819 := Nat.ne_of_lt (Nat.lt_of_lt_of_le f816.lt zq819)
          have f822 := (V754.keep Kq766 (ninS (Ne.symm ne729) nin0))
          have ne821 : b728 ≠ y819 := Nat.ne_of_lt (Nat.lt_of_lt_of_le f822.lt zq819)
          have ne823 : t766 ≠ y819 := Nat.ne_of_lt (Nat.lt_of_lt_of_le Aq766.lt zq819)
          have g824 : n0 ≤ y819 := Nat.le_trans f818 zq819
          have f826 := (f772.trans Kq766 (allS (Or.inr z723) all0))
          have z825 : h0.size ≤ y819 := Nat.le_trans f826.1 zq819
          have N827 := Fr.app Nh778 Nq819
          have R829 := R774.trans hC819
          have sf830 := CHr.safe hC819 f816.lt sf775
          have sf831 := CHr.safe hC819 f822.lt sf776
          have sf832 := CHr.safe hC819 Aq766.lt sf777
          obtain ⟨XR833, hSR833, hZ833, hown833⟩ := rebS hS0 (Nat.le_trans (Nat.le_trans (Nat.le_trans (Nat.le_trans (Nat.le_trans (Nat.le_trans (Nat.le_refl _) E720.1) E728.1) (Keep.of_wr W739).1) (Keep.of_wr W746).1) (Keep.of_wr W753).1) Kq766.1) X819 hS819 hg819 hZ hown
          obtain ⟨Lh834, Xh834, Nh834⟩ := own_hide (cells' := 6) (slots' := 87) XR833 N827 (Nat.le_of_ble_eq_true rfl) (Nat.le_of_ble_eq_true rfl)
          refine ownSt st819 ?_
          clear st819
          show ownG p.tables e below _ (T819.setTop (fr_law m p0 p1 p2 p3 p4 306 (.val (.int (3 : Int32))) (.val (.int x534)) (.val (.int x537)) (.val (.int x540)) (.val (.int x543)) (.val (.int (own_b (x534 = (46 : Int32))))) (.val (.int (own_b (x537 = (46 : Int32))))) (.val (.int (own_b (x540 = (46 : Int32))))) (.val (.int (own_b (x543 = (46 : Int32))))) (.val (.int (own_b (x540 = (46 : Int32))))) (.val (.ref b720)) (.val (.int (0 : Int32))) .unset [(.ref y819)]))
          refine ownBy (A := T819.setTop (fr_law m p0 p1 p2 p3 p4 317 (.val (.int (3 : Int32))) (.val (.int x534)) (.val (.int x537)) (.val (.int x540)) (.val (.int x543)) (.val (.int (own_b (x534 = (46 : Int32))))) (.val (.int (own_b (x537 = (46 : Int32))))) (.val (.int (own_b (x540 = (46 : Int32))))) (.val (.int (own_b (x543 = (46 : Int32))))) (.val (.int (own_b (x540 = (46 : Int32))))) (.val (.ref b720)) (.val (.int (0 : Int32))) (.val (.ref y819)) [(.ref y819), (.ref b720)])) (fun t kt => ?_) ?_
          · refine XS.astore Xh834.here hx rfl (hb hby at_306) rfl rfl (l' := #[.val (.int p0), .val (.int p1), .val (.int p2), .val (.int p3), .val (.int p4), .val (.int (3 : Int32)), .val (.int x534), .val (.int x537), .val (.int x540), .val (.int x543), .val (.int (own_b (x534 = (46 : Int32)))), .val (.int (own_b (x537 = (46 : Int32)))), .val (.int (own_b (x540 = (46 : Int32)))), .val (.int (own_b (x543 = (46 : Int32)))), .val (.int (own_b (x540 = (46 : Int32)))), .val (.ref b720), .val (.int (0 : Int32)), .val (.ref y819)]) rfl ?_
            refine XS.aload Xh834.here hx rfl (hb hby at_308) rfl rfl ?_
            refine XS.ifnullNo Xh834.here hx rfl (hb hby at_310) rfl ?_
            show Steps p.tables e below (T819.setTop (fr_law m p0 p1 p2 p3 p4 313 (.val (.int (3 : Int32))) (.val (.int x534)) (.val (.int x537)) (.val (.int x540)) (.val (.int x543)) (.val (.int (own_b (x534 = (46 : Int32))))) (.val (.int (own_b (x537 = (46 : Int32))))) (.val (.int (own_b (x540 = (46 : Int32))))) (.val (.int (own_b (x543 = (46 : Int32))))) (.val (.int (own_b (x540 = (46 : Int32))))) (.val (.ref b720)) (.val (.int (0 : Int32))) (.val (.ref y819)) [])) t
            refine XS.aload Xh834.here hx rfl (hb hby at_313) rfl rfl ?_
            refine XS.aload Xh834.here hx rfl (hb hby at_315) rfl rfl ?_
            exact kt
          have f835 := (Nat.le_trans f818 Kq819.1)
          obtain ⟨cq836, kq836, q836a, q836b, q836c⟩ := isOf hZ833 rfl Eq819
          obtain ⟨vv836, _, ⟨T836, L836, k836, n836⟩, -, X836, ⟨Lc836, hQ836, l836, y836, z836⟩, st836⟩ := Xh834.virtualBack hx (y := (⟨"com/example/boring_outbox/boringoutbox/EventType", "name", "()Ljava/lang/String;"⟩ : MethodName)) (z := (⟨"com/example/boring_outbox/boringoutbox/EventType", "name", "()Ljava/lang/String;"⟩ : MethodName)) hown833 (mvT hZ833 (Wd97 hw)) (mvT hZ833 (Wd98 hw)) (notFace_of_selects (args := #[]) (mvT hZ833 (Wd100 hw))) (mvT hZ833 (Wd100 hw)) (mvT hZ833 (Wd99 hw)) (by decide) (backOf (W := 1) (c_gname l Z a0 hw [] y819 (.ref b720) T819.heap n0 f835 Fa819 rfl) hZ833 (Wd101 hw) (Wd40 hw) (by decide) (by decide)) q836a q836c (g := (fr_law m p0 p1 p2 p3 p4 317 (.val (.int (3 : Int32))) (.val (.int x534)) (.val (.int x537)) (.val (.int x540)) (.val (.int x543)) (.val (.int (own_b (x534 = (46 : Int32))))) (.val (.int (own_b (x537 = (46 : Int32))))) (.val (.int (own_b (x540 = (46 : Int32))))) (.val (.int (own_b (x543 = (46 : Int32))))) (.val (.int (own_b (x540 = (46 : Int32))))) (.val (.ref b720)) (.val (.int (0 : Int32))) (.val (.ref y819)) [(.ref y819), (.ref b720)])) rfl (by rw [hml]; rfl) (Steps.refl _) (argsL := []) (rest := [(.ref b720)]) (lenOf pd_625 rfl) rfl (by show 2 * 0 + _ ≤ _; exact Nat.le_of_eq rfl) (hb hby at_317) (fun _ _ => ⟨rfl, rfl, (by decide : 6 + 0 ≤ _), (by decide : 87 + 0 ≤ _)⟩)
          dsimp only [Pt.U, Pt.locs, Pt.cells, Pt.slots] at X836 l836 y836 z836 st836 hQ836
          subst l836 y836 z836
          obtain ⟨rfl, Nq836, Eq836⟩ := hQ836
          have N837 := Fr.app Nh834 Nq836
          obtain ⟨Lh838, Xh838, Nh838⟩ := own_hide (cells' := 6) (slots' := 87) X836 N837 (Nat.le_of_ble_eq_true rfl) (Nat.le_of_ble_eq_true rfl)
          refine ownSt st836 ?_
          clear st836
          show ownG p.tables e below _ (T836.setTop (fr_law m p0 p1 p2 p3 p4 320 (.val (.int (3 : Int32))) (.val (.int x534)) (.val (.int x537)) (.val (.int x540)) (.val (.int x543)) (.val (.int (own_b (x534 = (46 : Int32))))) (.val (.int (own_b (x537 = (46 : Int32))))) (.val (.int (own_b (x540 = (46 : Int32))))) (.val (.int (own_b (x543 = (46 : Int32))))) (.val (.int (own_b (x540 = (46 : Int32))))) (.val (.ref b720)) (.val (.int (0 : Int32))) (.val (.ref y819)) [(.ref b720), (.ref b720)]))
          have f840 := (f816.keep Kq819)
          obtain ⟨cq839, kq839, q839a, q839b, q839c⟩ := isOf hZ833 Eq836 f840
          obtain ⟨vv839, _, ⟨T839, L839, k839, n839⟩, -, X839, ⟨Lc839, hQ839, l839, y839, z839⟩, st839⟩ := Xh838.virtualBack hx (y := (⟨"java/lang/String", "equals", "(Ljava/lang/Object;)Z"⟩ : MethodName)) (z := (⟨"java/lang/String", "equals", "(Ljava/lang/Object;)Z"⟩ : MethodName)) hown833 (mvT hZ833 (Wd102 hw)) (mvT hZ833 (Wd103 hw)) (notFace_of_selects (args := #[]) (mvT hZ833 (Wd105 hw))) (mvT hZ833 (Wd105 hw)) (mvT hZ833 (Wd104 hw)) (by decide) (backOf (W := 0) (c_eqs l Z a0 hw [] b720 T819.heap n0 f835 ) hZ833 (Wd106 hw) (Wd10 hw) (by decide) (by decide)) q839a q839c (g := (fr_law m p0 p1 p2 p3 p4 320 (.val (.int (3 : Int32))) (.val (.int x534)) (.val (.int x537)) (.val (.int x540)) (.val (.int x543)) (.val (.int (own_b (x534 = (46 : Int32))))) (.val (.int (own_b (x537 = (46 : Int32))))) (.val (.int (own_b (x540 = (46 : Int32))))) (.val (.int (own_b (x543 = (46 : Int32))))) (.val (.int (own_b (x540 = (46 : Int32))))) (.val (.ref b720)) (.val (.int (0 : Int32))) (.val (.ref y819)) [(.ref b720), (.ref b720)])) rfl (by rw [hml]; rfl) (Steps.refl _) (argsL := [(.ref b720)]) (rest := []) (lenOf pd_629 rfl) rfl (by show 2 * 0 + _ ≤ _; exact Nat.le_of_eq rfl) (hb hby at_320) (fun _ _ => ⟨rfl, Eq836, (by decide : 6 + 0 ≤ _), (by decide : 87 + 0 ≤ _)⟩)
          dsimp only [Pt.U, Pt.locs, Pt.cells, Pt.slots] at X839 l839 y839 z839 st839 hQ839
          subst l839 y839 z839
          obtain ⟨rfl, Nq839, Eq839⟩ := hQ839
          have N841 := Fr.app Nh838 Nq839
          obtain ⟨Lh842, Xh842, Nh842⟩ := own_hide (cells' := 6) (slots' := 87) X839 N841 (Nat.le_of_ble_eq_true rfl) (Nat.le_of_ble_eq_true rfl)
          refine ownSt st839 ?_
          clear st839
          show ownG p.tables e below _ (T839.setTop (fr_law m p0 p1 p2 p3 p4 323 (.val (.int (3 : Int32))) (.val (.int x534)) (.val (.int x537)) (.val (.int x540)) (.val (.int x543)) (.val (.int (own_b (x534 = (46 : Int32))))) (.val (.int (own_b (x537 = (46 : Int32))))) (.val (.int (own_b (x540 = (46 : Int32))))) (.val (.int (own_b (x543 = (46 : Int32))))) (.val (.int (own_b (x540 = (46 : Int32))))) (.val (.ref b720)) (.val (.int (0 : Int32))) (.val (.ref y819)) [(.int (1 : Int32))]))
          refine ownBy (A := T839.setTop (fr_law m p0 p1 p2 p3 p4 331 (.val (.int (3 : Int32))) (.val (.int x534)) (.val (.int x537)) (.val (.int x540)) (.val (.int x543)) (.val (.int (own_b (x534 = (46 : Int32))))) (.val (.int (own_b (x537 = (46 : Int32))))) (.val (.int (own_b (x540 = (46 : Int32))))) (.val (.int (own_b (x543 = (46 : Int32))))) (.val (.int (own_b (x540 = (46 : Int32))))) (.val (.ref b720)) (.val (.int (0 : Int32))) (.val (.ref y819)) [(.int (1 : Int32))])) (fun t kt => ?_) ?_
          · refine XS.ifNo Xh842.here hx rfl (hb hby at_323) rfl ((if0 _ _).trans (feq ((by decide) : ¬ ((1 : Int32) = (0 : Int32)))).1) ?_
            refine XS.iconst Xh842.here hx rfl (hb hby at_326) ?_
            refine XS.goto Xh842.here hx rfl (pc0 := 327) (pc' := 331) rfl (hb hby at_327) (by decide) (by decide) ?_
            exact kt
          refine ownRetH Xh842 hSR833 (by rw [Eq839]; exact (Nat.le_refl _)) Bd.notSynchronized (v := some (.int (nar .boolean (1 : Int32)))) (fun h => by rw [Bd.returns] at h; cases h) ?_ (R829.trans ((by rw [Eq839]; exact CHv.at Xh842 hZ833 hEL R829.1))) (Nat.le_of_ble_eq_true rfl) (Nat.le_of_ble_eq_true rfl) (fun fs hr => retN Xh842 hx (t := .boolean) Bd.returns (by simp) (hb hby at_331) hr)
          show (Q_law Z p0 p1 p2 p3 p4 G1 G3 h0 n0) (some (.int (nar .boolean (1 : Int32)))) T839.heap _
          rw [Eq839]
          exact ⟨rfl, Nh842⟩
  · rw [hn554]
    show ownG p.tables e below _ (T543.setTop (fr_law m p0 p1 p2 p3 p4 88 (.val (.int (4 : Int32))) (.val (.int x534)) (.val (.int x537)) (.val (.int x540)) (.val (.int x543)) (.val (.int (own_b (x534 = (46 : Int32))))) (.val (.int (own_b (x537 = (46 : Int32))))) (.val (.int (own_b (x540 = (46 : Int32))))) (.val (.int (own_b (x543 = (46 : Int32))))) .unset .unset .unset .unset []))
    refine ownBy (A := T543.setTop (fr_law m p0 p1 p2 p3 p4 197 (.val (.int (4 : Int32))) (.val (.int x534)) (.val (.int x537)) (.val (.int x540)) (.val (.int x543)) (.val (.int (own_b (x534 = (46 : Int32))))) (.val (.int (own_b (x537 = (46 : Int32))))) (.val (.int (own_b (x540 = (46 : Int32))))) (.val (.int (own_b (x543 = (46 : Int32))))) (.val (.int (own_b (x543 = (46 : Int32))))) .unset .unset .unset [])) (fun t kt => ?_) ?_
    · refine XS.iload Xh545.here hx rfl (hb hby at_88) rfl ?_
      refine XS.iconst Xh545.here hx rfl (hb hby at_90) ?_
      refine XS.icmpYes Xh545.here hx rfl (pc0 := 91) (pc' := 118) rfl (hb hby at_91) rfl (feq ((by decide) : ¬ ((4 : Int32) = (1 : Int32)))).2 (by decide) (by decide) ?_
      show Steps p.tables e below (T543.setTop (fr_law m p0 p1 p2 p3 p4 118 (.val (.int (4 : Int32))) (.val (.int x534)) (.val (.int x537)) (.val (.int x540)) (.val (.int x543)) (.val (.int (own_b (x534 = (46 : Int32))))) (.val (.int (own_b (x537 = (46 : Int32))))) (.val (.int (own_b (x540 = (46 : Int32))))) (.val (.int (own_b (x543 = (46 : Int32))))) .unset .unset .unset .unset [])) t
      refine XS.iload Xh545.here hx rfl (hb hby at_118) rfl ?_
      refine XS.iconst Xh545.here hx rfl (hb hby at_120) ?_
      refine XS.icmpYes Xh545.here hx rfl (pc0 := 121) (pc' := 153) rfl (hb hby at_121) rfl (feq ((by decide) : ¬ ((4 : Int32) = (2 : Int32)))).2 (by decide) (by decide) ?_
      show Steps p.tables e below (T543.setTop (fr_law m p0 p1 p2 p3 p4 153 (.val (.int (4 : Int32))) (.val (.int x534)) (.val (.int x537)) (.val (.int x540)) (.val (.int x543)) (.val (.int (own_b (x534 = (46 : Int32))))) (.val (.int (own_b (x537 = (46 : Int32))))) (.val (.int (own_b (x540 = (46 : Int32))))) (.val (.int (own_b (x543 = (46 : Int32))))) .unset .unset .unset .unset [])) t
      refine XS.iload Xh545.here hx rfl (hb hby at_153) rfl ?_
      refine XS.iconst Xh545.here hx rfl (hb hby at_155) ?_
      refine XS.icmpYes Xh545.here hx rfl (pc0 := 156) (pc' := 193) rfl (hb hby at_156) rfl (feq ((by decide) : ¬ ((4 : Int32) = (3 : Int32)))).2 (by decide) (by decide) ?_
      show Steps p.tables e below (T543.setTop (fr_law m p0 p1 p2 p3 p4 193 (.val (.int (4 : Int32))) (.val (.int x534)) (.val (.int x537)) (.val (.int x540)) (.val (.int x543)) (.val (.int (own_b (x534 = (46 : Int32))))) (.val (.int (own_b (x537 = (46 : Int32))))) (.val (.int (own_b (x540 = (46 : Int32))))) (.val (.int (own_b (x543 = (46 : Int32))))) .unset .unset .unset .unset [])) t
      refine XS.iload Xh545.here hx rfl (hb hby at_193) rfl ?_
      refine XS.istore Xh545.here hx rfl (hb hby at_195) rfl (l' := #[.val (.int p0), .val (.int p1), .val (.int p2), .val (.int p3), .val (.int p4), .val (.int (4 : Int32)), .val (.int x534), .val (.int x537), .val (.int x540), .val (.int x543), .val (.int (own_b (x534 = (46 : Int32)))), .val (.int (own_b (x537 = (46 : Int32)))), .val (.int (own_b (x540 = (46 : Int32)))), .val (.int (own_b (x543 = (46 : Int32)))), .val (.int (own_b (x543 = (46 : Int32)))), .unset, .unset, .unset]) rfl ?_
      exact kt
    obtain ⟨T844, h844, X844, e844, E844, A844, D844, -, st844⟩ := newO Xh545 hx hZ hown (Wd8 hw) (Wd9 hw) (Wd10 hw) Eq543 (g := (fr_law m p0 p1 p2 p3 p4 197 (.val (.int (4 : Int32))) (.val (.int x534)) (.val (.int x537)) (.val (.int x540)) (.val (.int x543)) (.val (.int (own_b (x534 = (46 : Int32))))) (.val (.int (own_b (x537 = (46 : Int32))))) (.val (.int (own_b (x540 = (46 : Int32))))) (.val (.int (own_b (x543 = (46 : Int32))))) (.val (.int (own_b (x543 = (46 : Int32))))) .unset .unset .unset [])) rfl (hb hby at_197) (by decide) (by decide)
    obtain ⟨b844, g844⟩ : ∃ z, z = h0.size := ⟨_, rfl⟩
    rw [← g844] at A844 D844 st844
    have g845 : n0 ≤ b844 := Nat.le_trans Z0 (Nat.le_of_eq g844.symm)
    have sf846 : Safe Z ownEL s.vm h0 b844 := Safe.new (Nat.le_of_eq g844.symm)
    have z847 : h0.size ≤ b844 := Nat.le_trans (Keep.refl h0 []).1 (Nat.le_of_eq g844.symm)
    have R848 := R0.trans (CHr.ext E844 R0.1)
    have sf849 := Safe.ext E844 R0.1 sf846
    have F850 : Fld Z h844 b844 "java/lang/String" "coder" "B" (.int (0 : Int32)) := D844 (Or.inr (Wd35 hw)) (ty := .byte) (by decide)
    have F851 : Fld Z h844 b844 "java/lang/String" "value" "[B" .null := D844 (Or.inr (Wd37 hw)) (ty := (.array .byte)) (by decide)
    refine ownBy st844 ?_
    clear st844
    show ownG p.tables e below _ (T844.setTop (fr_law m p0 p1 p2 p3 p4 200 (.val (.int (4 : Int32))) (.val (.int x534)) (.val (.int x537)) (.val (.int x540)) (.val (.int x543)) (.val (.int (own_b (x534 = (46 : Int32))))) (.val (.int (own_b (x537 = (46 : Int32))))) (.val (.int (own_b (x540 = (46 : Int32))))) (.val (.int (own_b (x543 = (46 : Int32))))) (.val (.int (own_b (x543 = (46 : Int32))))) .unset .unset .unset [(.ref b844)]))
    refine ownBy (A := T844.setTop (fr_law m p0 p1 p2 p3 p4 202 (.val (.int (4 : Int32))) (.val (.int x534)) (.val (.int x537)) (.val (.int x540)) (.val (.int x543)) (.val (.int (own_b (x534 = (46 : Int32))))) (.val (.int (own_b (x537 = (46 : Int32))))) (.val (.int (own_b (x540 = (46 : Int32))))) (.val (.int (own_b (x543 = (46 : Int32))))) (.val (.int (own_b (x543 = (46 : Int32))))) .unset .unset .unset [(.int (4 : Int32)), (.ref b844), (.ref b844)])) (fun t kt => ?_) ?_
    · refine XS.dup X844.here hx rfl (hb hby at_200) rfl rfl ?_
      refine XS.iconst X844.here hx rfl (hb hby at_201) ?_
      exact kt
    obtain ⟨T852, h852, k852, X852, e852, E852, A852, st852⟩ := newP X844 hx hZ (aty := .char) (Wd11 hw) e844 (g := (fr_law m p0 p1 p2 p3 p4 202 (.val (.int (4 : Int32))) (.val (.int x534)) (.val (.int x537)) (.val (.int x540)) (.val (.int x543)) (.val (.int (own_b (x534 = (46 : Int32))))) (.val (.int (own_b (x537 = (46 : Int32))))) (.val (.int (own_b (x540 = (46 : Int32))))) (.val (.int (own_b (x543 = (46 : Int32))))) (.val (.int (own_b (x543 = (46 : Int32))))) .unset .unset .unset [(.int (4 : Int32)), (.ref b844), (.ref b844)])) rfl (hb hby at_202) rfl (by decide : ¬ ((4 : Int32) < (0 : Int32))) (cap := 4) (by decide) (by decide) (by decide) (by decide)
    obtain ⟨b852, g852⟩ : ∃ z, z = h844.size := ⟨_, rfl⟩
    rw [← g852] at A852 st852
    have ne853 : b844 ≠ b852 := Nat.ne_of_lt (Nat.lt_of_lt_of_le A844.lt (Nat.le_of_eq g852.symm))
    have f855 := (Nat.le_trans Z0 E844.1)
    have g854 : n0 ≤ b852 := Nat.le_trans f855 (Nat.le_of_eq g852.symm)
    have sf856 : Safe Z ownEL s.vm h844 b852 := Safe.new (Nat.le_of_eq g852.symm)
    have f858 := ((Keep.refl h0 []).ext E844)
    have z857 : h0.size ≤ b852 := Nat.le_trans f858.1 (Nat.le_of_eq g852.symm)
    have R859 := R848.trans (CHr.ext E852 R848.1)
    have sf860 := Safe.ext E852 R848.1 sf849
    have sf861 := Safe.ext E852 R848.1 sf856
    have V862 : Arv Z h852 b852 k852 .char (4 : Int32) [(.int (0 : Int32)), (.int (0 : Int32)), (.int (0 : Int32)), (.int (0 : Int32))] (.int (0 : Int32)) := (Arv.new A852 (by decide)).pad (pad_rep [] (.int (0 : Int32)) 4)
    refine ownBy st852 ?_
    clear st852
    show ownG p.tables e below _ (T852.setTop (fr_law m p0 p1 p2 p3 p4 204 (.val (.int (4 : Int32))) (.val (.int x534)) (.val (.int x537)) (.val (.int x540)) (.val (.int x543)) (.val (.int (own_b (x534 = (46 : Int32))))) (.val (.int (own_b (x537 = (46 : Int32))))) (.val (.int (own_b (x540 = (46 : Int32))))) (.val (.int (own_b (x543 = (46 : Int32))))) (.val (.int (own_b (x543 = (46 : Int32))))) .unset .unset .unset [(.ref b852), (.ref b844), (.ref b844)]))
    refine ownBy (A := T852.setTop (fr_law m p0 p1 p2 p3 p4 208 (.val (.int (4 : Int32))) (.val (.int x534)) (.val (.int x537)) (.val (.int x540)) (.val (.int x543)) (.val (.int (own_b (x534 = (46 : Int32))))) (.val (.int (own_b (x537 = (46 : Int32))))) (.val (.int (own_b (x540 = (46 : Int32))))) (.val (.int (own_b (x543 = (46 : Int32))))) (.val (.int (own_b (x543 = (46 : Int32))))) .unset .unset .unset [(.int x534), (.int (0 : Int32)), (.ref b852), (.ref b852), (.ref b844), (.ref b844)])) (fun t kt => ?_) ?_
    · refine XS.dup X852.here hx rfl (hb hby at_204) rfl rfl ?_
      refine XS.iconst X852.here hx rfl (hb hby at_205) ?_
      refine XS.iload X852.here hx rfl (hb hby at_206) rfl ?_
      exact kt
    obtain ⟨cl863, Ar863, q863, S863, N863, H863, G863⟩ := id V862
    have hin863 : ¬ ((0 : Int32) < 0 ∨ cl863.slots.size ≤ ((0 : Int32)).toNatClampNeg) := inb_of S863 ⟨by decide, by decide⟩
    obtain ⟨T863, h863, X863, e863, W863, st863⟩ := stC X852 hx hZ e852 Ar863 (j := (0 : Int32)) hin863 (g := (fr_law m p0 p1 p2 p3 p4 208 (.val (.int (4 : Int32))) (.val (.int x534)) (.val (.int x537)) (.val (.int x540)) (.val (.int x543)) (.val (.int (own_b (x534 = (46 : Int32))))) (.val (.int (own_b (x537 = (46 : Int32))))) (.val (.int (own_b (x540 = (46 : Int32))))) (.val (.int (own_b (x543 = (46 : Int32))))) (.val (.int (own_b (x543 = (46 : Int32))))) .unset .unset .unset [(.int x534), (.int (0 : Int32)), (.ref b852), (.ref b852), (.ref b844), (.ref b844)])) rfl rfl (hb hby at_208)
    have V864 : Arv Z h863 b852 k852 .char (4 : Int32) [(.int (nar .char x534)), (.int (0 : Int32)), (.int (0 : Int32)), (.int (0 : Int32))] (.int (0 : Int32)) := Arv.set Ar863 q863 S863 N863 H863 G863 (fits_nar_char _) W863 0 rfl (Nat.le_of_ble_eq_true rfl)
    rw [own_nar_id hx534] at V864
    clear hin863 G863 H863 N863 S863 q863 Ar863 cl863 V862
    have N865 := Fr.snoc X863 Nh545 g854
    have R866 := R859.trans (CHr.wr W863 sf861 R859.1)
    have sf867 := Safe.wr W863 sf861 R859.1 sf860
    have sf868 := Safe.wr W863 sf861 R859.1 sf861
    obtain ⟨Lh869, Xh869, Nh869⟩ := own_hide (cells' := 2) (slots' := 8) X863 N865 (Nat.le_of_ble_eq_true rfl) (Nat.le_of_ble_eq_true rfl)
    refine ownBy st863 ?_
    clear st863
    show ownG p.tables e below _ (T863.setTop (fr_law m p0 p1 p2 p3 p4 209 (.val (.int (4 : Int32))) (.val (.int x534)) (.val (.int x537)) (.val (.int x540)) (.val (.int x543)) (.val (.int (own_b (x534 = (46 : Int32))))) (.val (.int (own_b (x537 = (46 : Int32))))) (.val (.int (own_b (x540 = (46 : Int32))))) (.val (.int (own_b (x543 = (46 : Int32))))) (.val (.int (own_b (x543 = (46 : Int32))))) .unset .unset .unset [(.ref b852), (.ref b844), (.ref b844)]))
    refine ownBy (A := T863.setTop (fr_law m p0 p1 p2 p3 p4 213 (.val (.int (4 : Int32))) (.val (.int x534)) (.val (.int x537)) (.val (.int x540)) (.val (.int x543)) (.val (.int (own_b (x534 = (46 : Int32))))) (.val (.int (own_b (x537 = (46 : Int32))))) (.val (.int (own_b (x540 = (46 : Int32))))) (.val (.int (own_b (x543 = (46 : Int32))))) (.val (.int (own_b (x543 = (46 : Int32))))) .unset .unset .unset [(.int x537), (.int (1 : Int32)), (.ref b852), (.ref b852), (.ref b844), (.ref b844)])) (fun t kt => ?_) ?_
    · refine XS.dup Xh869.here hx rfl (hb hby at_209) rfl rfl ?_
      refine XS.iconst Xh869.here hx rfl (hb hby at_210) ?_
      refine XS.iload Xh869.here hx rfl (hb hby at_211) rfl ?_
      exact kt
    obtain ⟨cl870, Ar870, q870, S870, N870, H870, G870⟩ := id V864
    have hin870 : ¬ ((1 : Int32) < 0 ∨ cl870.slots.size ≤ ((1 : Int32)).toNatClampNeg) := inb_of S870 ⟨by decide, by decide⟩
    obtain ⟨T870, h870, X870, e870, W870, st870⟩ := stC Xh869 hx hZ e863 Ar870 (j := (1 : Int32)) hin870 (g := (fr_law m p0 p1 p2 p3 p4 213 (.val (.int (4 : Int32))) (.val (.int x534)) (.val (.int x537)) (.val (.int x540)) (.val (.int x543)) (.val (.int (own_b (x534 = (46 : Int32))))) (.val (.int (own_b (x537 = (46 : Int32))))) (.val (.int (own_b (x540 = (46 : Int32))))) (.val (.int (own_b (x543 = (46 : Int32))))) (.val (.int (own_b (x543 = (46 : Int32))))) .unset .unset .unset [(.int x537), (.int (1 : Int32)), (.ref b852), (.ref b852), (.ref b844), (.ref b844)])) rfl rfl (hb hby at_213)
    have V871 : Arv Z h870 b852 k852 .char (4 : Int32) [(.int x534), (.int (nar .char x537)), (.int (0 : Int32)), (.int (0 : Int32))] (.int (0 : Int32)) := Arv.set Ar870 q870 S870 N870 H870 G870 (fits_nar_char _) W870 1 rfl (Nat.le_of_ble_eq_true rfl)
    rw [own_nar_id hx537] at V871
    clear hin870 G870 H870 N870 S870 q870 Ar870 cl870 V864
    have N872 := Fr.snoc X870 Nh869 g854
    have R873 := R866.trans (CHr.wr W870 sf868 R866.1)
    have sf874 := Safe.wr W870 sf868 R866.1 sf867
    have sf875 := Safe.wr W870 sf868 R866.1 sf868
    obtain ⟨Lh876, Xh876, Nh876⟩ := own_hide (cells' := 2) (slots' := 8) X870 N872 (Nat.le_of_ble_eq_true rfl) (Nat.le_of_ble_eq_true rfl)
    refine ownBy st870 ?_
    clear st870
    show ownG p.tables e below _ (T870.setTop (fr_law m p0 p1 p2 p3 p4 214 (.val (.int (4 : Int32))) (.val (.int x534)) (.val (.int x537)) (.val (.int x540)) (.val (.int x543)) (.val (.int (own_b (x534 = (46 : Int32))))) (.val (.int (own_b (x537 = (46 : Int32))))) (.val (.int (own_b (x540 = (46 : Int32))))) (.val (.int (own_b (x543 = (46 : Int32))))) (.val (.int (own_b (x543 = (46 : Int32))))) .unset .unset .unset [(.ref b852), (.ref b844), (.ref b844)]))
    refine ownBy (A := T870.setTop (fr_law m p0 p1 p2 p3 p4 218 (.val (.int (4 : Int32))) (.val (.int x534)) (.val (.int x537)) (.val (.int x540)) (.val (.int x543)) (.val (.int (own_b (x534 = (46 : Int32))))) (.val (.int (own_b (x537 = (46 : Int32))))) (.val (.int (own_b (x540 = (46 : Int32))))) (.val (.int (own_b (x543 = (46 : Int32))))) (.val (.int (own_b (x543 = (46 : Int32))))) .unset .unset .unset [(.int x540), (.int (2 : Int32)), (.ref b852), (.ref b852), (.ref b844), (.ref b844)])) (fun t kt => ?_) ?_
    · refine XS.dup Xh876.here hx rfl (hb hby at_214) rfl rfl ?_
      refine XS.iconst Xh876.here hx rfl (hb hby at_215) ?_
      refine XS.iload Xh876.here hx rfl (hb hby at_216) rfl ?_
      exact kt
    obtain ⟨cl877, Ar877, q877, S877, N877, H877, G877⟩ := id V871
    have hin877 : ¬ ((2 : Int32) < 0 ∨ cl877.slots.size ≤ ((2 : Int32)).toNatClampNeg) := inb_of S877 ⟨by decide, by decide⟩
    obtain ⟨T877, h877, X877, e877, W877, st877⟩ := stC Xh876 hx hZ e870 Ar877 (j := (2 : Int32)) hin877 (g := (fr_law m p0 p1 p2 p3 p4 218 (.val (.int (4 : Int32))) (.val (.int x534)) (.val (.int x537)) (.val (.int x540)) (.val (.int x543)) (.val (.int (own_b (x534 = (46 : Int32))))) (.val (.int (own_b (x537 = (46 : Int32))))) (.val (.int (own_b (x540 = (46 : Int32))))) (.val (.int (own_b (x543 = (46 : Int32))))) (.val (.int (own_b (x543 = (46 : Int32))))) .unset .unset .unset [(.int x540), (.int (2 : Int32)), (.ref b852), (.ref b852), (.ref b844), (.ref b844)])) rfl rfl (hb hby at_218)
    have V878 : Arv Z h877 b852 k852 .char (4 : Int32) [(.int x534), (.int x537), (.int (nar .char x540)), (.int (0 : Int32))] (.int (0 : Int32)) := Arv.set Ar877 q877 S877 N877 H877 G877 (fits_nar_char _) W877 2 rfl (Nat.le_of_ble_eq_true rfl)
    rw [own_nar_id hx540] at V878
    clear hin877 G877 H877 N877 S877 q877 Ar877 cl877 V871
    have N879 := Fr.snoc X877 Nh876 g854
    have R880 := R873.trans (CHr.wr W877 sf875 R873.1)
    have sf881 := Safe.wr W877 sf875 R873.1 sf874
    have sf882 := Safe.wr W877 sf875 R873.1 sf875
    obtain ⟨Lh883, Xh883, Nh883⟩ := own_hide (cells' := 2) (slots' := 8) X877 N879 (Nat.le_of_ble_eq_true rfl) (Nat.le_of_ble_eq_true rfl)
    refine ownBy st877 ?_
    clear st877
    show ownG p.tables e below _ (T877.setTop (fr_law m p0 p1 p2 p3 p4 219 (.val (.int (4 : Int32))) (.val (.int x534)) (.val (.int x537)) (.val (.int x540)) (.val (.int x543)) (.val (.int (own_b (x534 = (46 : Int32))))) (.val (.int (own_b (x537 = (46 : Int32))))) (.val (.int (own_b (x540 = (46 : Int32))))) (.val (.int (own_b (x543 = (46 : Int32))))) (.val (.int (own_b (x543 = (46 : Int32))))) .unset .unset .unset [(.ref b852), (.ref b844), (.ref b844)]))
    refine ownBy (A := T877.setTop (fr_law m p0 p1 p2 p3 p4 223 (.val (.int (4 : Int32))) (.val (.int x534)) (.val (.int x537)) (.val (.int x540)) (.val (.int x543)) (.val (.int (own_b (x534 = (46 : Int32))))) (.val (.int (own_b (x537 = (46 : Int32))))) (.val (.int (own_b (x540 = (46 : Int32))))) (.val (.int (own_b (x543 = (46 : Int32))))) (.val (.int (own_b (x543 = (46 : Int32))))) .unset .unset .unset [(.int x543), (.int (3 : Int32)), (.ref b852), (.ref b852), (.ref b844), (.ref b844)])) (fun t kt => ?_) ?_
    · refine XS.dup Xh883.here hx rfl (hb hby at_219) rfl rfl ?_
      refine XS.iconst Xh883.here hx rfl (hb hby at_220) ?_
      refine XS.iload Xh883.here hx rfl (hb hby at_221) rfl ?_
      exact kt
    obtain ⟨cl884, Ar884, q884, S884, N884, H884, G884⟩ := id V878
    have hin884 : ¬ ((3 : Int32) < 0 ∨ cl884.slots.size ≤ ((3 : Int32)).toNatClampNeg) := inb_of S884 ⟨by decide, by decide⟩
    obtain ⟨T884, h884, X884, e884, W884, st884⟩ := stC Xh883 hx hZ e877 Ar884 (j := (3 : Int32)) hin884 (g := (fr_law m p0 p1 p2 p3 p4 223 (.val (.int (4 : Int32))) (.val (.int x534)) (.val (.int x537)) (.val (.int x540)) (.val (.int x543)) (.val (.int (own_b (x534 = (46 : Int32))))) (.val (.int (own_b (x537 = (46 : Int32))))) (.val (.int (own_b (x540 = (46 : Int32))))) (.val (.int (own_b (x543 = (46 : Int32))))) (.val (.int (own_b (x543 = (46 : Int32))))) .unset .unset .unset [(.int x543), (.int (3 : Int32)), (.ref b852), (.ref b852), (.ref b844), (.ref b844)])) rfl rfl (hb hby at_223)
    have V885 : Arv Z h884 b852 k852 .char (4 : Int32) [(.int x534), (.int x537), (.int x540), (.int (nar .char x543))] (.int (0 : Int32)) := Arv.set Ar884 q884 S884 N884 H884 G884 (fits_nar_char _) W884 3 rfl (Nat.le_of_ble_eq_true rfl)
    rw [own_nar_id hx543] at V885
    clear hin884 G884 H884 N884 S884 q884 Ar884 cl884 V878
    have N886 := Fr.snoc X884 Nh883 g854
    have R887 := R880.trans (CHr.wr W884 sf882 R880.1)
    have sf888 := Safe.wr W884 sf882 R880.1 sf881
    have sf889 := Safe.wr W884 sf882 R880.1 sf882
    obtain ⟨Lh890, Xh890, Nh890⟩ := own_hide (cells' := 2) (slots' := 8) X884 N886 (Nat.le_of_ble_eq_true rfl) (Nat.le_of_ble_eq_true rfl)
    refine ownBy st884 ?_
    clear st884
    show ownG p.tables e below _ (T884.setTop (fr_law m p0 p1 p2 p3 p4 224 (.val (.int (4 : Int32))) (.val (.int x534)) (.val (.int x537)) (.val (.int x540)) (.val (.int x543)) (.val (.int (own_b (x534 = (46 : Int32))))) (.val (.int (own_b (x537 = (46 : Int32))))) (.val (.int (own_b (x540 = (46 : Int32))))) (.val (.int (own_b (x543 = (46 : Int32))))) (.val (.int (own_b (x543 = (46 : Int32))))) .unset .unset .unset [(.ref b852), (.ref b844), (.ref b844)]))
    have hp891 : ∀ c ∈ ([x534, x537, x540, x543] : List Int32), ¬ c < 0 ∧ ¬ (255 : Int32) < c := by
      intro c hc
      simp only [List.mem_cons, List.not_mem_nil, or_false] at hc
      rcases hc with rfl | rfl | rfl | rfl
      · exact own_id_rng hx534
      · exact own_id_rng hx537
      · exact own_id_rng hx540
      · exact own_id_rng hx543
    have f892 := (Nat.le_trans (Nat.le_trans (Nat.le_trans (Nat.le_trans (Nat.le_trans f855 E852.1) (Keep.of_wr W863).1) (Keep.of_wr W870).1) (Keep.of_wr W877).1) (Keep.of_wr W884).1)
    have f893 := (((((A844.ext E852).wr W863).wr W870).wr W877).wr W884)
    have f894 := (((((F851.ext E852).other W863 (Or.inl ne853)).other W870 (Or.inl ne853)).other W877 (Or.inl ne853)).other W884 (Or.inl ne853))
    have f895 := (((((F850.ext E852).other W863 (Or.inl ne853)).other W870 (Or.inl ne853)).other W877 (Or.inl ne853)).other W884 (Or.inl ne853))
    have f896 := ((((((X00.ext E844).ext E852).wr W863 g854).wr W870 g854).wr W877 g854).wr W884 g854)
    obtain ⟨vv897, _, ⟨T897, L897, k897, n897⟩, -, X897, ⟨Lc897, hQ897, l897, y897, z897⟩, st897⟩ := Xh890.specialBack hx (y := (⟨"java/lang/String", "<init>", "([C)V"⟩ : MethodName)) rfl hown (mvT hZ (Wd12 hw)) (mvT hZ (Wd13 hw)) (mvT hZ (Wd14 hw)) (by decide) (StrChars.Road.backV (W := 1) hZ hws (kI := 4) (Wd9 hw) (cs := ([x534, x537, x540, x543] : List Int32)) (bs := (([x534, x537, x540, x543] : List Int32)).map (fun c => c.toInt8.toInt32)) (n := 4) g845 f892 f893 f894 f895 V885 (O2.ext f896.2) P5 rfl rfl (by decide) (by decide) hp891 rfl (by decide) (by decide)) (g := (fr_law m p0 p1 p2 p3 p4 224 (.val (.int (4 : Int32))) (.val (.int x534)) (.val (.int x537)) (.val (.int x540)) (.val (.int x543)) (.val (.int (own_b (x534 = (46 : Int32))))) (.val (.int (own_b (x537 = (46 : Int32))))) (.val (.int (own_b (x540 = (46 : Int32))))) (.val (.int (own_b (x543 = (46 : Int32))))) (.val (.int (own_b (x543 = (46 : Int32))))) .unset .unset .unset [(.ref b852), (.ref b844), (.ref b844)])) rfl (by rw [hml]; rfl) (Steps.refl _) (a := b844) (argsL := [(.ref b852)]) (rest := [(.ref b844)]) (lenOf pd_588 rfl) rfl (by show 2 * 0 + _ ≤ _; exact Nat.le_of_eq rfl) (hb hby at_224) (fun _ _ => ⟨rfl, e884, (by decide : 2 + 1 ≤ _), (by decide : 8 + 4 ≤ _)⟩)
    dsimp only [Pt.U, Pt.locs, Pt.cells, Pt.slots] at X897 l897 y897 z897 st897 hQ897
    subst l897 y897 z897
    obtain ⟨rfl, Nq897, Kq897, Eq897, Cq897, t897, kb897, u897, v897, w897, Vq897, Aq897⟩ := hQ897
    have ne898 : b844 ≠ t897 := Nat.ne_of_lt (Nat.lt_of_lt_of_le f893.lt v897)
    have ne899 : b852 ≠ t897 := Nat.ne_of_lt (Nat.lt_of_lt_of_le V885.lt v897)
    have g900 : n0 ≤ t897 := Nat.le_trans f892 v897
    have sf901 : Safe Z ownEL s.vm h884 t897 := Safe.new v897
    have f903 := (((((f858.ext E852).wr W863 (Or.inr z857)).wr W870 (Or.inr z857)).wr W877 (Or.inr z857)).wr W884 (Or.inr z857))
    have z902 : h0.size ≤ t897 := Nat.le_trans f903.1 v897
    have N904 := Fr.app Nh890 Nq897
    have R905 := R887.trans (CHr.keep Kq897 (sfS sf888 sf0) R887.1)
    have sf906 := Safe.keep Kq897 (sfS sf888 sf0) R887.1 sf888
    have sf907 := Safe.keep Kq897 (sfS sf888 sf0) R887.1 sf889
    have sf908 := Safe.keep Kq897 (sfS sf888 sf0) R887.1 sf901
    obtain ⟨Lh909, Xh909, Nh909⟩ := own_hide (cells' := 3) (slots' := 12) X897 N904 (Nat.le_of_ble_eq_true rfl) (Nat.le_of_ble_eq_true rfl)
    refine ownSt st897 ?_
    clear st897
    show ownG p.tables e below _ (T897.setTop (fr_law m p0 p1 p2 p3 p4 227 (.val (.int (4 : Int32))) (.val (.int x534)) (.val (.int x537)) (.val (.int x540)) (.val (.int x543)) (.val (.int (own_b (x534 = (46 : Int32))))) (.val (.int (own_b (x537 = (46 : Int32))))) (.val (.int (own_b (x540 = (46 : Int32))))) (.val (.int (own_b (x543 = (46 : Int32))))) (.val (.int (own_b (x543 = (46 : Int32))))) .unset .unset .unset [(.ref b844)]))
    refine ownBy (A := T897.setTop (fr_law m p0 p1 p2 p3 p4 237 (.val (.int (4 : Int32))) (.val (.int x534)) (.val (.int x537)) (.val (.int x540)) (.val (.int x543)) (.val (.int (own_b (x534 = (46 : Int32))))) (.val (.int (own_b (x537 = (46 : Int32))))) (.val (.int (own_b (x540 = (46 : Int32))))) (.val (.int (own_b (x543 = (46 : Int32))))) (.val (.int (own_b (x543 = (46 : Int32))))) (.val (.ref b844)) .unset .unset [(.int (own_b (x534 = (46 : Int32))))])) (fun t kt => ?_) ?_
    · refine XS.astore Xh909.here hx rfl (hb hby at_227) rfl rfl (l' := #[.val (.int p0), .val (.int p1), .val (.int p2), .val (.int p3), .val (.int p4), .val (.int (4 : Int32)), .val (.int x534), .val (.int x537), .val (.int x540), .val (.int x543), .val (.int (own_b (x534 = (46 : Int32)))), .val (.int (own_b (x537 = (46 : Int32)))), .val (.int (own_b (x540 = (46 : Int32)))), .val (.int (own_b (x543 = (46 : Int32)))), .val (.int (own_b (x543 = (46 : Int32)))), .val (.ref b844), .unset, .unset]) rfl ?_
      refine XS.iload Xh909.here hx rfl (hb hby at_229) rfl ?_
      refine XS.iconst Xh909.here hx rfl (hb hby at_231) ?_
      show Steps p.tables e below (T897.setTop (fr_law m p0 p1 p2 p3 p4 232 (.val (.int (4 : Int32))) (.val (.int x534)) (.val (.int x537)) (.val (.int x540)) (.val (.int x543)) (.val (.int (own_b (x534 = (46 : Int32))))) (.val (.int (own_b (x537 = (46 : Int32))))) (.val (.int (own_b (x540 = (46 : Int32))))) (.val (.int (own_b (x543 = (46 : Int32))))) (.val (.int (own_b (x543 = (46 : Int32))))) (.val (.ref b844)) .unset .unset [(.int (2 : Int32)), (.int (4 : Int32))])) t
      refine XS.icmpNo Xh909.here hx rfl (hb hby at_232) rfl (flt ((by decide) : ¬ ((4 : Int32) < (2 : Int32)))).1 ?_
      refine XS.iload Xh909.here hx rfl (hb hby at_235) rfl ?_
      exact kt
    by_cases hc910 : x534 = (46 : Int32)
    · skip
      refine ownBy (A := T897.setTop (fr_law m p0 p1 p2 p3 p4 242 (.val (.int (4 : Int32))) (.val (.int x534)) (.val (.int x537)) (.val (.int x540)) (.val (.int x543)) (.val (.int (own_b (x534 = (46 : Int32))))) (.val (.int (own_b (x537 = (46 : Int32))))) (.val (.int (own_b (x540 = (46 : Int32))))) (.val (.int (own_b (x543 = (46 : Int32))))) (.val (.int (own_b (x543 = (46 : Int32))))) (.val (.ref b844)) .unset .unset [(.int (own_b (x537 = (46 : Int32))))])) (fun t kt => ?_) ?_
      · refine XS.ifNo Xh909.here hx rfl (hb hby at_237) rfl ((if0 _ _).trans (feq (own_bt0 hc910)).1) ?_
        refine XS.iload Xh909.here hx rfl (hb hby at_240) rfl ?_
        exact kt
      by_cases hc911 : x537 = (46 : Int32)
      · skip
        refine ownBy (A := T897.setTop (fr_law m p0 p1 p2 p3 p4 300 (.val (.int (4 : Int32))) (.val (.int x534)) (.val (.int x537)) (.val (.int x540)) (.val (.int x543)) (.val (.int (own_b (x534 = (46 : Int32))))) (.val (.int (own_b (x537 = (46 : Int32))))) (.val (.int (own_b (x540 = (46 : Int32))))) (.val (.int (own_b (x543 = (46 : Int32))))) (.val (.int (own_b (x543 = (46 : Int32))))) (.val (.ref b844)) (.val (.int (1 : Int32))) .unset [(.int (1 : Int32))])) (fun t kt => ?_) ?_
        · refine XS.ifYes Xh909.here hx rfl (pc0 := 242) (pc' := 277) rfl (hb hby at_242) rfl ((if0 _ _).trans (feq (own_bt0 hc911)).2) (by decide) (by decide) ?_
          refine XS.iconst Xh909.here hx rfl (hb hby at_277) ?_
          refine XS.goto Xh909.here hx rfl (pc0 := 278) (pc' := 282) rfl (hb hby at_278) (by decide) (by decide) ?_
          show Steps p.tables e below (T897.setTop (fr_law m p0 p1 p2 p3 p4 282 (.val (.int (4 : Int32))) (.val (.int x534)) (.val (.int x537)) (.val (.int x540)) (.val (.int x543)) (.val (.int (own_b (x534 = (46 : Int32))))) (.val (.int (own_b (x537 = (46 : Int32))))) (.val (.int (own_b (x540 = (46 : Int32))))) (.val (.int (own_b (x543 = (46 : Int32))))) (.val (.int (own_b (x543 = (46 : Int32))))) (.val (.ref b844)) .unset .unset [(.int (1 : Int32))])) t
          refine XS.istore Xh909.here hx rfl (hb hby at_282) rfl (l' := #[.val (.int p0), .val (.int p1), .val (.int p2), .val (.int p3), .val (.int p4), .val (.int (4 : Int32)), .val (.int x534), .val (.int x537), .val (.int x540), .val (.int x543), .val (.int (own_b (x534 = (46 : Int32)))), .val (.int (own_b (x537 = (46 : Int32)))), .val (.int (own_b (x540 = (46 : Int32)))), .val (.int (own_b (x543 = (46 : Int32)))), .val (.int (own_b (x543 = (46 : Int32)))), .val (.ref b844), .val (.int (1 : Int32)), .unset]) rfl ?_
          refine XS.iload Xh909.here hx rfl (hb hby at_284) rfl ?_
          refine XS.ifYes Xh909.here hx rfl (pc0 := 286) (pc' := 299) rfl (hb hby at_286) rfl ((if0 _ _).trans (feq (own_bt0 hc910)).2) (by decide) (by decide) ?_
          show Steps p.tables e below (T897.setTop (fr_law m p0 p1 p2 p3 p4 299 (.val (.int (4 : Int32))) (.val (.int x534)) (.val (.int x537)) (.val (.int x540)) (.val (.int x543)) (.val (.int (own_b (x534 = (46 : Int32))))) (.val (.int (own_b (x537 = (46 : Int32))))) (.val (.int (own_b (x540 = (46 : Int32))))) (.val (.int (own_b (x543 = (46 : Int32))))) (.val (.int (own_b (x543 = (46 : Int32))))) (.val (.ref b844)) (.val (.int (1 : Int32))) .unset [])) t
          refine XS.iconst Xh909.here hx rfl (hb hby at_299) ?_
          exact kt
        refine ownRetH Xh909 hS0 (Nat.le_trans (Nat.le_trans (Nat.le_trans (Nat.le_trans (Nat.le_trans (Nat.le_trans (Nat.le_trans (Nat.le_refl _) E844.1) E852.1) (Keep.of_wr W863).1) (Keep.of_wr W870).1) (Keep.of_wr W877).1) (Keep.of_wr W884).1) Kq897.1) Bd.notSynchronized (v := some (.int (nar .boolean (1 : Int32)))) (fun h => by rw [Bd.returns] at h; cases h) ?_ (R905.trans (CHv.at Xh909 hZ hEL R905.1)) (Nat.le_of_ble_eq_true rfl) (Nat.le_of_ble_eq_true rfl) (fun fs hr => retN Xh909 hx (t := .boolean) Bd.returns (by simp) (hb hby at_300) hr)
        show (Q_law Z p0 p1 p2 p3 p4 G1 G3 h0 n0) (some (.int (nar .boolean (1 : Int32)))) T897.heap _
        exact ⟨rfl, Nh909⟩
      · skip
        refine ownBy (A := T897.setTop (fr_law m p0 p1 p2 p3 p4 269 (.val (.int (4 : Int32))) (.val (.int x534)) (.val (.int x537)) (.val (.int x540)) (.val (.int x543)) (.val (.int (own_b (x534 = (46 : Int32))))) (.val (.int (own_b (x537 = (46 : Int32))))) (.val (.int (own_b (x540 = (46 : Int32))))) (.val (.int (own_b (x543 = (46 : Int32))))) (.val (.int (own_b (x543 = (46 : Int32))))) (.val (.ref b844)) .unset .unset [(.int (own_b (x540 = (46 : Int32))))])) (fun t kt => ?_) ?_
        · refine XS.ifNo Xh909.here hx rfl (hb hby at_242) rfl ((if0 _ _).trans (teq (own_bf0 hc911)).2) ?_
          refine XS.iload Xh909.here hx rfl (hb hby at_245) rfl ?_
          refine XS.iconst Xh909.here hx rfl (hb hby at_247) ?_
          show Steps p.tables e below (T897.setTop (fr_law m p0 p1 p2 p3 p4 248 (.val (.int (4 : Int32))) (.val (.int x534)) (.val (.int x537)) (.val (.int x540)) (.val (.int x543)) (.val (.int (own_b (x534 = (46 : Int32))))) (.val (.int (own_b (x537 = (46 : Int32))))) (.val (.int (own_b (x540 = (46 : Int32))))) (.val (.int (own_b (x543 = (46 : Int32))))) (.val (.int (own_b (x543 = (46 : Int32))))) (.val (.ref b844)) .unset .unset [(.int (3 : Int32)), (.int (4 : Int32))])) t
          refine XS.icmpNo Xh909.here hx rfl (hb hby at_248) rfl (flt ((by decide) : ¬ ((4 : Int32) < (3 : Int32)))).1 ?_
          refine XS.iload Xh909.here hx rfl (hb hby at_251) rfl ?_
          refine XS.ifYes Xh909.here hx rfl (pc0 := 253) (pc' := 261) rfl (hb hby at_253) rfl ((if0 _ _).trans (teq (own_bf0 hc911)).1) (by decide) (by decide) ?_
          show Steps p.tables e below (T897.setTop (fr_law m p0 p1 p2 p3 p4 261 (.val (.int (4 : Int32))) (.val (.int x534)) (.val (.int x537)) (.val (.int x540)) (.val (.int x543)) (.val (.int (own_b (x534 = (46 : Int32))))) (.val (.int (own_b (x537 = (46 : Int32))))) (.val (.int (own_b (x540 = (46 : Int32))))) (.val (.int (own_b (x543 = (46 : Int32))))) (.val (.int (own_b (x543 = (46 : Int32))))) (.val (.ref b844)) .unset .unset [])) t
          refine XS.iload Xh909.here hx rfl (hb hby at_261) rfl ?_
          refine XS.iconst Xh909.here hx rfl (hb hby at_263) ?_
          refine XS.icmpNo Xh909.here hx rfl (hb hby at_264) rfl (flt ((by decide) : ¬ ((4 : Int32) < (4 : Int32)))).1 ?_
          show Steps p.tables e below (T897.setTop (fr_law m p0 p1 p2 p3 p4 267 (.val (.int (4 : Int32))) (.val (.int x534)) (.val (.int x537)) (.val (.int x540)) (.val (.int x543)) (.val (.int (own_b (x534 = (46 : Int32))))) (.val (.int (own_b (x537 = (46 : Int32))))) (.val (.int (own_b (x540 = (46 : Int32))))) (.val (.int (own_b (x543 = (46 : Int32))))) (.val (.int (own_b (x543 = (46 : Int32))))) (.val (.ref b844)) .unset .unset [])) t
          refine XS.iload Xh909.here hx rfl (hb hby at_267) rfl ?_
          exact kt
        by_cases hc913 : x540 = (46 : Int32)
        · skip
          refine ownBy (A := T897.setTop (fr_law m p0 p1 p2 p3 p4 274 (.val (.int (4 : Int32))) (.val (.int x534)) (.val (.int x537)) (.val (.int x540)) (.val (.int x543)) (.val (.int (own_b (x534 = (46 : Int32))))) (.val (.int (own_b (x537 = (46 : Int32))))) (.val (.int (own_b (x540 = (46 : Int32))))) (.val (.int (own_b (x543 = (46 : Int32))))) (.val (.int (own_b (x543 = (46 : Int32))))) (.val (.ref b844)) .unset .unset [(.int (own_b (x543 = (46 : Int32))))])) (fun t kt => ?_) ?_
          · refine XS.ifNo Xh909.here hx rfl (hb hby at_269) rfl ((if0 _ _).trans (feq (own_bt0 hc913)).1) ?_
            refine XS.iload Xh909.here hx rfl (hb hby at_272) rfl ?_
            exact kt
          by_cases hc914 : x543 = (46 : Int32)
          · skip
            refine ownBy (A := T897.setTop (fr_law m p0 p1 p2 p3 p4 300 (.val (.int (4 : Int32))) (.val (.int x534)) (.val (.int x537)) (.val (.int x540)) (.val (.int x543)) (.val (.int (own_b (x534 = (46 : Int32))))) (.val (.int (own_b (x537 = (46 : Int32))))) (.val (.int (own_b (x540 = (46 : Int32))))) (.val (.int (own_b (x543 = (46 : Int32))))) (.val (.int (own_b (x543 = (46 : Int32))))) (.val (.ref b844)) (.val (.int (1 : Int32))) .unset [(.int (1 : Int32))])) (fun t kt => ?_) ?_
            · refine XS.ifNo Xh909.here hx rfl (hb hby at_274) rfl ((if0 _ _).trans (feq (own_bt0 hc914)).1) ?_
              refine XS.iconst Xh909.here hx rfl (hb hby at_277) ?_
              refine XS.goto Xh909.here hx rfl (pc0 := 278) (pc' := 282) rfl (hb hby at_278) (by decide) (by decide) ?_
              show Steps p.tables e below (T897.setTop (fr_law m p0 p1 p2 p3 p4 282 (.val (.int (4 : Int32))) (.val (.int x534)) (.val (.int x537)) (.val (.int x540)) (.val (.int x543)) (.val (.int (own_b (x534 = (46 : Int32))))) (.val (.int (own_b (x537 = (46 : Int32))))) (.val (.int (own_b (x540 = (46 : Int32))))) (.val (.int (own_b (x543 = (46 : Int32))))) (.val (.int (own_b (x543 = (46 : Int32))))) (.val (.ref b844)) .unset .unset [(.int (1 : Int32))])) t
              refine XS.istore Xh909.here hx rfl (hb hby at_282) rfl (l' := #[.val (.int p0), .val (.int p1), .val (.int p2), .val (.int p3), .val (.int p4), .val (.int (4 : Int32)), .val (.int x534), .val (.int x537), .val (.int x540), .val (.int x543), .val (.int (own_b (x534 = (46 : Int32)))), .val (.int (own_b (x537 = (46 : Int32)))), .val (.int (own_b (x540 = (46 : Int32)))), .val (.int (own_b (x543 = (46 : Int32)))), .val (.int (own_b (x543 = (46 : Int32)))), .val (.ref b844), .val (.int (1 : Int32)), .unset]) rfl ?_
              refine XS.iload Xh909.here hx rfl (hb hby at_284) rfl ?_
              refine XS.ifYes Xh909.here hx rfl (pc0 := 286) (pc' := 299) rfl (hb hby at_286) rfl ((if0 _ _).trans (feq (own_bt0 hc910)).2) (by decide) (by decide) ?_
              show Steps p.tables e below (T897.setTop (fr_law m p0 p1 p2 p3 p4 299 (.val (.int (4 : Int32))) (.val (.int x534)) (.val (.int x537)) (.val (.int x540)) (.val (.int x543)) (.val (.int (own_b (x534 = (46 : Int32))))) (.val (.int (own_b (x537 = (46 : Int32))))) (.val (.int (own_b (x540 = (46 : Int32))))) (.val (.int (own_b (x543 = (46 : Int32))))) (.val (.int (own_b (x543 = (46 : Int32))))) (.val (.ref b844)) (.val (.int (1 : Int32))) .unset [])) t
              refine XS.iconst Xh909.here hx rfl (hb hby at_299) ?_
              exact kt
            refine ownRetH Xh909 hS0 (Nat.le_trans (Nat.le_trans (Nat.le_trans (Nat.le_trans (Nat.le_trans (Nat.le_trans (Nat.le_trans (Nat.le_refl _) E844.1) E852.1) (Keep.of_wr W863).1) (Keep.of_wr W870).1) (Keep.of_wr W877).1) (Keep.of_wr W884).1) Kq897.1) Bd.notSynchronized (v := some (.int (nar .boolean (1 : Int32)))) (fun h => by rw [Bd.returns] at h; cases h) ?_ (R905.trans (CHv.at Xh909 hZ hEL R905.1)) (Nat.le_of_ble_eq_true rfl) (Nat.le_of_ble_eq_true rfl) (fun fs hr => retN Xh909 hx (t := .boolean) Bd.returns (by simp) (hb hby at_300) hr)
            show (Q_law Z p0 p1 p2 p3 p4 G1 G3 h0 n0) (some (.int (nar .boolean (1 : Int32)))) T897.heap _
            exact ⟨rfl, Nh909⟩
          · skip
            refine ownBy (A := T897.setTop (fr_law m p0 p1 p2 p3 p4 300 (.val (.int (4 : Int32))) (.val (.int x534)) (.val (.int x537)) (.val (.int x540)) (.val (.int x543)) (.val (.int (own_b (x534 = (46 : Int32))))) (.val (.int (own_b (x537 = (46 : Int32))))) (.val (.int (own_b (x540 = (46 : Int32))))) (.val (.int (own_b (x543 = (46 : Int32))))) (.val (.int (own_b (x543 = (46 : Int32))))) (.val (.ref b844)) (.val (.int (0 : Int32))) .unset [(.int (1 : Int32))])) (fun t kt => ?_) ?_
            · refine XS.ifYes Xh909.here hx rfl (pc0 := 274) (pc' := 281) rfl (hb hby at_274) rfl ((if0 _ _).trans (teq (own_bf0 hc914)).1) (by decide) (by decide) ?_
              refine XS.iconst Xh909.here hx rfl (hb hby at_281) ?_
              refine XS.istore Xh909.here hx rfl (hb hby at_282) rfl (l' := #[.val (.int p0), .val (.int p1), .val (.int p2), .val (.int p3), .val (.int p4), .val (.int (4 : Int32)), .val (.int x534), .val (.int x537), .val (.int x540), .val (.int x543), .val (.int (own_b (x534 = (46 : Int32)))), .val (.int (own_b (x537 = (46 : Int32)))), .val (.int (own_b (x540 = (46 : Int32)))), .val (.int (own_b (x543 = (46 : Int32)))), .val (.int (own_b (x543 = (46 : Int32)))), .val (.ref b844), .val (.int (0 : Int32)), .unset]) rfl ?_
              show Steps p.tables e below (T897.setTop (fr_law m p0 p1 p2 p3 p4 284 (.val (.int (4 : Int32))) (.val (.int x534)) (.val (.int x537)) (.val (.int x540)) (.val (.int x543)) (.val (.int (own_b (x534 = (46 : Int32))))) (.val (.int (own_b (x537 = (46 : Int32))))) (.val (.int (own_b (x540 = (46 : Int32))))) (.val (.int (own_b (x543 = (46 : Int32))))) (.val (.int (own_b (x543 = (46 : Int32))))) (.val (.ref b844)) (.val (.int (0 : Int32))) .unset [])) t
              refine XS.iload Xh909.here hx rfl (hb hby at_284) rfl ?_
              refine XS.ifYes Xh909.here hx rfl (pc0 := 286) (pc' := 299) rfl (hb hby at_286) rfl ((if0 _ _).trans (feq (own_bt0 hc910)).2) (by decide) (by decide) ?_
              refine XS.iconst Xh909.here hx rfl (hb hby at_299) ?_
              exact kt
            refine ownRetH Xh909 hS0 (Nat.le_trans (Nat.le_trans (Nat.le_trans (Nat.le_trans (Nat.le_trans (Nat.le_trans (Nat.le_trans (Nat.le_refl _) E844.1) E852.1) (Keep.of_wr W863).1) (Keep.of_wr W870).1) (Keep.of_wr W877).1) (Keep.of_wr W884).1) Kq897.1) Bd.notSynchronized (v := some (.int (nar .boolean (1 : Int32)))) (fun h => by rw [Bd.returns] at h; cases h) ?_ (R905.trans (CHv.at Xh909 hZ hEL R905.1)) (Nat.le_of_ble_eq_true rfl) (Nat.le_of_ble_eq_true rfl) (fun fs hr => retN Xh909 hx (t := .boolean) Bd.returns (by simp) (hb hby at_300) hr)
            show (Q_law Z p0 p1 p2 p3 p4 G1 G3 h0 n0) (some (.int (nar .boolean (1 : Int32)))) T897.heap _
            exact ⟨rfl, Nh909⟩
        · skip
          refine ownBy (A := T897.setTop (fr_law m p0 p1 p2 p3 p4 300 (.val (.int (4 : Int32))) (.val (.int x534)) (.val (.int x537)) (.val (.int x540)) (.val (.int x543)) (.val (.int (own_b (x534 = (46 : Int32))))) (.val (.int (own_b (x537 = (46 : Int32))))) (.val (.int (own_b (x540 = (46 : Int32))))) (.val (.int (own_b (x543 = (46 : Int32))))) (.val (.int (own_b (x543 = (46 : Int32))))) (.val (.ref b844)) (.val (.int (0 : Int32))) .unset [(.int (1 : Int32))])) (fun t kt => ?_) ?_
          · refine XS.ifYes Xh909.here hx rfl (pc0 := 269) (pc' := 281) rfl (hb hby at_269) rfl ((if0 _ _).trans (teq (own_bf0 hc913)).1) (by decide) (by decide) ?_
            refine XS.iconst Xh909.here hx rfl (hb hby at_281) ?_
            refine XS.istore Xh909.here hx rfl (hb hby at_282) rfl (l' := #[.val (.int p0), .val (.int p1), .val (.int p2), .val (.int p3), .val (.int p4), .val (.int (4 : Int32)), .val (.int x534), .val (.int x537), .val (.int x540), .val (.int x543), .val (.int (own_b (x534 = (46 : Int32)))), .val (.int (own_b (x537 = (46 : Int32)))), .val (.int (own_b (x540 = (46 : Int32)))), .val (.int (own_b (x543 = (46 : Int32)))), .val (.int (own_b (x543 = (46 : Int32)))), .val (.ref b844), .val (.int (0 : Int32)), .unset]) rfl ?_
            show Steps p.tables e below (T897.setTop (fr_law m p0 p1 p2 p3 p4 284 (.val (.int (4 : Int32))) (.val (.int x534)) (.val (.int x537)) (.val (.int x540)) (.val (.int x543)) (.val (.int (own_b (x534 = (46 : Int32))))) (.val (.int (own_b (x537 = (46 : Int32))))) (.val (.int (own_b (x540 = (46 : Int32))))) (.val (.int (own_b (x543 = (46 : Int32))))) (.val (.int (own_b (x543 = (46 : Int32))))) (.val (.ref b844)) (.val (.int (0 : Int32))) .unset [])) t
            refine XS.iload Xh909.here hx rfl (hb hby at_284) rfl ?_
            refine XS.ifYes Xh909.here hx rfl (pc0 := 286) (pc' := 299) rfl (hb hby at_286) rfl ((if0 _ _).trans (feq (own_bt0 hc910)).2) (by decide) (by decide) ?_
            refine XS.iconst Xh909.here hx rfl (hb hby at_299) ?_
            exact kt
          refine ownRetH Xh909 hS0 (Nat.le_trans (Nat.le_trans (Nat.le_trans (Nat.le_trans (Nat.le_trans (Nat.le_trans (Nat.le_trans (Nat.le_refl _) E844.1) E852.1) (Keep.of_wr W863).1) (Keep.of_wr W870).1) (Keep.of_wr W877).1) (Keep.of_wr W884).1) Kq897.1) Bd.notSynchronized (v := some (.int (nar .boolean (1 : Int32)))) (fun h => by rw [Bd.returns] at h; cases h) ?_ (R905.trans (CHv.at Xh909 hZ hEL R905.1)) (Nat.le_of_ble_eq_true rfl) (Nat.le_of_ble_eq_true rfl) (fun fs hr => retN Xh909 hx (t := .boolean) Bd.returns (by simp) (hb hby at_300) hr)
          show (Q_law Z p0 p1 p2 p3 p4 G1 G3 h0 n0) (some (.int (nar .boolean (1 : Int32)))) T897.heap _
          exact ⟨rfl, Nh909⟩
    · skip
      refine ownBy (A := T897.setTop (fr_law m p0 p1 p2 p3 p4 253 (.val (.int (4 : Int32))) (.val (.int x534)) (.val (.int x537)) (.val (.int x540)) (.val (.int x543)) (.val (.int (own_b (x534 = (46 : Int32))))) (.val (.int (own_b (x537 = (46 : Int32))))) (.val (.int (own_b (x540 = (46 : Int32))))) (.val (.int (own_b (x543 = (46 : Int32))))) (.val (.int (own_b (x543 = (46 : Int32))))) (.val (.ref b844)) .unset .unset [(.int (own_b (x537 = (46 : Int32))))])) (fun t kt => ?_) ?_
      · refine XS.ifYes Xh909.here hx rfl (pc0 := 237) (pc' := 245) rfl (hb hby at_237) rfl ((if0 _ _).trans (teq (own_bf0 hc910)).1) (by decide) (by decide) ?_
        refine XS.iload Xh909.here hx rfl (hb hby at_245) rfl ?_
        refine XS.iconst Xh909.here hx rfl (hb hby at_247) ?_
        show Steps p.tables e below (T897.setTop (fr_law m p0 p1 p2 p3 p4 248 (.val (.int (4 : Int32))) (.val (.int x534)) (.val (.int x537)) (.val (.int x540)) (.val (.int x543)) (.val (.int (own_b (x534 = (46 : Int32))))) (.val (.int (own_b (x537 = (46 : Int32))))) (.val (.int (own_b (x540 = (46 : Int32))))) (.val (.int (own_b (x543 = (46 : Int32))))) (.val (.int (own_b (x543 = (46 : Int32))))) (.val (.ref b844)) .unset .unset [(.int (3 : Int32)), (.int (4 : Int32))])) t
        refine XS.icmpNo Xh909.here hx rfl (hb hby at_248) rfl (flt ((by decide) : ¬ ((4 : Int32) < (3 : Int32)))).1 ?_
        refine XS.iload Xh909.here hx rfl (hb hby at_251) rfl ?_
        exact kt
      by_cases hc918 : x537 = (46 : Int32)
      · skip
        refine ownBy (A := T897.setTop (fr_law m p0 p1 p2 p3 p4 258 (.val (.int (4 : Int32))) (.val (.int x534)) (.val (.int x537)) (.val (.int x540)) (.val (.int x543)) (.val (.int (own_b (x534 = (46 : Int32))))) (.val (.int (own_b (x537 = (46 : Int32))))) (.val (.int (own_b (x540 = (46 : Int32))))) (.val (.int (own_b (x543 = (46 : Int32))))) (.val (.int (own_b (x543 = (46 : Int32))))) (.val (.ref b844)) .unset .unset [(.int (own_b (x540 = (46 : Int32))))])) (fun t kt => ?_) ?_
        · refine XS.ifNo Xh909.here hx rfl (hb hby at_253) rfl ((if0 _ _).trans (feq (own_bt0 hc918)).1) ?_
          refine XS.iload Xh909.here hx rfl (hb hby at_256) rfl ?_
          exact kt
        by_cases hc919 : x540 = (46 : Int32)
        · skip
          refine ownBy (A := T897.setTop (fr_law m p0 p1 p2 p3 p4 291 (.val (.int (4 : Int32))) (.val (.int x534)) (.val (.int x537)) (.val (.int x540)) (.val (.int x543)) (.val (.int (own_b (x534 = (46 : Int32))))) (.val (.int (own_b (x537 = (46 : Int32))))) (.val (.int (own_b (x540 = (46 : Int32))))) (.val (.int (own_b (x543 = (46 : Int32))))) (.val (.int (own_b (x543 = (46 : Int32))))) (.val (.ref b844)) (.val (.int (1 : Int32))) .unset [(.int (own_b (x543 = (46 : Int32))))])) (fun t kt => ?_) ?_
          · refine XS.ifYes Xh909.here hx rfl (pc0 := 258) (pc' := 277) rfl (hb hby at_258) rfl ((if0 _ _).trans (feq (own_bt0 hc919)).2) (by decide) (by decide) ?_
            refine XS.iconst Xh909.here hx rfl (hb hby at_277) ?_
            refine XS.goto Xh909.here hx rfl (pc0 := 278) (pc' := 282) rfl (hb hby at_278) (by decide) (by decide) ?_
            show Steps p.tables e below (T897.setTop (fr_law m p0 p1 p2 p3 p4 282 (.val (.int (4 : Int32))) (.val (.int x534)) (.val (.int x537)) (.val (.int x540)) (.val (.int x543)) (.val (.int (own_b (x534 = (46 : Int32))))) (.val (.int (own_b (x537 = (46 : Int32))))) (.val (.int (own_b (x540 = (46 : Int32))))) (.val (.int (own_b (x543 = (46 : Int32))))) (.val (.int (own_b (x543 = (46 : Int32))))) (.val (.ref b844)) .unset .unset [(.int (1 : Int32))])) t
            refine XS.istore Xh909.here hx rfl (hb hby at_282) rfl (l' := #[.val (.int p0), .val (.int p1), .val (.int p2), .val (.int p3), .val (.int p4), .val (.int (4 : Int32)), .val (.int x534), .val (.int x537), .val (.int x540), .val (.int x543), .val (.int (own_b (x534 = (46 : Int32)))), .val (.int (own_b (x537 = (46 : Int32)))), .val (.int (own_b (x540 = (46 : Int32)))), .val (.int (own_b (x543 = (46 : Int32)))), .val (.int (own_b (x543 = (46 : Int32)))), .val (.ref b844), .val (.int (1 : Int32)), .unset]) rfl ?_
            refine XS.iload Xh909.here hx rfl (hb hby at_284) rfl ?_
            refine XS.ifNo Xh909.here hx rfl (hb hby at_286) rfl ((if0 _ _).trans (teq (own_bf0 hc910)).2) ?_
            show Steps p.tables e below (T897.setTop (fr_law m p0 p1 p2 p3 p4 289 (.val (.int (4 : Int32))) (.val (.int x534)) (.val (.int x537)) (.val (.int x540)) (.val (.int x543)) (.val (.int (own_b (x534 = (46 : Int32))))) (.val (.int (own_b (x537 = (46 : Int32))))) (.val (.int (own_b (x540 = (46 : Int32))))) (.val (.int (own_b (x543 = (46 : Int32))))) (.val (.int (own_b (x543 = (46 : Int32))))) (.val (.ref b844)) (.val (.int (1 : Int32))) .unset [])) t
            refine XS.iload Xh909.here hx rfl (hb hby at_289) rfl ?_
            exact kt
          by_cases hc920 : x543 = (46 : Int32)
          · skip
            refine ownBy (A := T897.setTop (fr_law m p0 p1 p2 p3 p4 300 (.val (.int (4 : Int32))) (.val (.int x534)) (.val (.int x537)) (.val (.int x540)) (.val (.int x543)) (.val (.int (own_b (x534 = (46 : Int32))))) (.val (.int (own_b (x537 = (46 : Int32))))) (.val (.int (own_b (x540 = (46 : Int32))))) (.val (.int (own_b (x543 = (46 : Int32))))) (.val (.int (own_b (x543 = (46 : Int32))))) (.val (.ref b844)) (.val (.int (1 : Int32))) .unset [(.int (1 : Int32))])) (fun t kt => ?_) ?_
            · refine XS.ifYes Xh909.here hx rfl (pc0 := 291) (pc' := 299) rfl (hb hby at_291) rfl ((if0 _ _).trans (feq (own_bt0 hc920)).2) (by decide) (by decide) ?_
              refine XS.iconst Xh909.here hx rfl (hb hby at_299) ?_
              exact kt
            refine ownRetH Xh909 hS0 (Nat.le_trans (Nat.le_trans (Nat.le_trans (Nat.le_trans (Nat.le_trans (Nat.le_trans (Nat.le_trans (Nat.le_refl _) E844.1) E852.1) (Keep.of_wr W863).1) (Keep.of_wr W870).1) (Keep.of_wr W877).1) (Keep.of_wr W884).1) Kq897.1) Bd.notSynchronized (v := some (.int (nar .boolean (1 : Int32)))) (fun h => by rw [Bd.returns] at h; cases h) ?_ (R905.trans (CHv.at Xh909 hZ hEL R905.1)) (Nat.le_of_ble_eq_true rfl) (Nat.le_of_ble_eq_true rfl) (fun fs hr => retN Xh909 hx (t := .boolean) Bd.returns (by simp) (hb hby at_300) hr)
            show (Q_law Z p0 p1 p2 p3 p4 G1 G3 h0 n0) (some (.int (nar .boolean (1 : Int32)))) T897.heap _
            exact ⟨rfl, Nh909⟩
          · skip
            refine ownBy (A := T897.setTop (fr_law m p0 p1 p2 p3 p4 300 (.val (.int (4 : Int32))) (.val (.int x534)) (.val (.int x537)) (.val (.int x540)) (.val (.int x543)) (.val (.int (own_b (x534 = (46 : Int32))))) (.val (.int (own_b (x537 = (46 : Int32))))) (.val (.int (own_b (x540 = (46 : Int32))))) (.val (.int (own_b (x543 = (46 : Int32))))) (.val (.int (own_b (x543 = (46 : Int32))))) (.val (.ref b844)) (.val (.int (1 : Int32))) .unset [(.int (1 : Int32))])) (fun t kt => ?_) ?_
            · refine XS.ifNo Xh909.here hx rfl (hb hby at_291) rfl ((if0 _ _).trans (teq (own_bf0 hc920)).2) ?_
              refine XS.iload Xh909.here hx rfl (hb hby at_294) rfl ?_
              refine XS.ifNo Xh909.here hx rfl (hb hby at_296) rfl ((if0 _ _).trans (feq ((by decide) : ¬ ((1 : Int32) = (0 : Int32)))).1) ?_
              show Steps p.tables e below (T897.setTop (fr_law m p0 p1 p2 p3 p4 299 (.val (.int (4 : Int32))) (.val (.int x534)) (.val (.int x537)) (.val (.int x540)) (.val (.int x543)) (.val (.int (own_b (x534 = (46 : Int32))))) (.val (.int (own_b (x537 = (46 : Int32))))) (.val (.int (own_b (x540 = (46 : Int32))))) (.val (.int (own_b (x543 = (46 : Int32))))) (.val (.int (own_b (x543 = (46 : Int32))))) (.val (.ref b844)) (.val (.int (1 : Int32))) .unset [])) t
              refine XS.iconst Xh909.here hx rfl (hb hby at_299) ?_
              exact kt
            refine ownRetH Xh909 hS0 (Nat.le_trans (Nat.le_trans (Nat.le_trans (Nat.le_trans (Nat.le_trans (Nat.le_trans (Nat.le_trans (Nat.le_refl _) E844.1) E852.1) (Keep.of_wr W863).1) (Keep.of_wr W870).1) (Keep.of_wr W877).1) (Keep.of_wr W884).1) Kq897.1) Bd.notSynchronized (v := some (.int (nar .boolean (1 : Int32)))) (fun h => by rw [Bd.returns] at h; cases h) ?_ (R905.trans (CHv.at Xh909 hZ hEL R905.1)) (Nat.le_of_ble_eq_true rfl) (Nat.le_of_ble_eq_true rfl) (fun fs hr => retN Xh909 hx (t := .boolean) Bd.returns (by simp) (hb hby at_300) hr)
            show (Q_law Z p0 p1 p2 p3 p4 G1 G3 h0 n0) (some (.int (nar .boolean (1 : Int32)))) T897.heap _
            exact ⟨rfl, Nh909⟩
        · skip
          refine ownBy (A := T897.setTop (fr_law m p0 p1 p2 p3 p4 291 (.val (.int (4 : Int32))) (.val (.int x534)) (.val (.int x537)) (.val (.int x540)) (.val (.int x543)) (.val (.int (own_b (x534 = (46 : Int32))))) (.val (.int (own_b (x537 = (46 : Int32))))) (.val (.int (own_b (x540 = (46 : Int32))))) (.val (.int (own_b (x543 = (46 : Int32))))) (.val (.int (own_b (x543 = (46 : Int32))))) (.val (.ref b844)) (.val (.int (0 : Int32))) .unset [(.int (own_b (x543 = (46 : Int32))))])) (fun t kt => ?_) ?_
          · refine XS.ifNo Xh909.here hx rfl (hb hby at_258) rfl ((if0 _ _).trans (teq (own_bf0 hc919)).2) ?_
            refine XS.iload Xh909.here hx rfl (hb hby at_261) rfl ?_
            refine XS.iconst Xh909.here hx rfl (hb hby at_263) ?_
            show Steps p.tables e below (T897.setTop (fr_law m p0 p1 p2 p3 p4 264 (.val (.int (4 : Int32))) (.val (.int x534)) (.val (.int x537)) (.val (.int x540)) (.val (.int x543)) (.val (.int (own_b (x534 = (46 : Int32))))) (.val (.int (own_b (x537 = (46 : Int32))))) (.val (.int (own_b (x540 = (46 : Int32))))) (.val (.int (own_b (x543 = (46 : Int32))))) (.val (.int (own_b (x543 = (46 : Int32))))) (.val (.ref b844)) .unset .unset [(.int (4 : Int32)), (.int (4 : Int32))])) t
            refine XS.icmpNo Xh909.here hx rfl (hb hby at_264) rfl (flt ((by decide) : ¬ ((4 : Int32) < (4 : Int32)))).1 ?_
            refine XS.iload Xh909.here hx rfl (hb hby at_267) rfl ?_
            refine XS.ifYes Xh909.here hx rfl (pc0 := 269) (pc' := 281) rfl (hb hby at_269) rfl ((if0 _ _).trans (teq (own_bf0 hc919)).1) (by decide) (by decide) ?_
            show Steps p.tables e below (T897.setTop (fr_law m p0 p1 p2 p3 p4 281 (.val (.int (4 : Int32))) (.val (.int x534)) (.val (.int x537)) (.val (.int x540)) (.val (.int x543)) (.val (.int (own_b (x534 = (46 : Int32))))) (.val (.int (own_b (x537 = (46 : Int32))))) (.val (.int (own_b (x540 = (46 : Int32))))) (.val (.int (own_b (x543 = (46 : Int32))))) (.val (.int (own_b (x543 = (46 : Int32))))) (.val (.ref b844)) .unset .unset [])) t
            refine XS.iconst Xh909.here hx rfl (hb hby at_281) ?_
            refine XS.istore Xh909.here hx rfl (hb hby at_282) rfl (l' := #[.val (.int p0), .val (.int p1), .val (.int p2), .val (.int p3), .val (.int p4), .val (.int (4 : Int32)), .val (.int x534), .val (.int x537), .val (.int x540), .val (.int x543), .val (.int (own_b (x534 = (46 : Int32)))), .val (.int (own_b (x537 = (46 : Int32)))), .val (.int (own_b (x540 = (46 : Int32)))), .val (.int (own_b (x543 = (46 : Int32)))), .val (.int (own_b (x543 = (46 : Int32)))), .val (.ref b844), .val (.int (0 : Int32)), .unset]) rfl ?_
            refine XS.iload Xh909.here hx rfl (hb hby at_284) rfl ?_
            show Steps p.tables e below (T897.setTop (fr_law m p0 p1 p2 p3 p4 286 (.val (.int (4 : Int32))) (.val (.int x534)) (.val (.int x537)) (.val (.int x540)) (.val (.int x543)) (.val (.int (own_b (x534 = (46 : Int32))))) (.val (.int (own_b (x537 = (46 : Int32))))) (.val (.int (own_b (x540 = (46 : Int32))))) (.val (.int (own_b (x543 = (46 : Int32))))) (.val (.int (own_b (x543 = (46 : Int32))))) (.val (.ref b844)) (.val (.int (0 : Int32))) .unset [(.int (own_b (x534 = (46 : Int32))))])) t
            refine XS.ifNo Xh909.here hx rfl (hb hby at_286) rfl ((if0 _ _).trans (teq (own_bf0 hc910)).2) ?_
            refine XS.iload Xh909.here hx rfl (hb hby at_289) rfl ?_
            exact kt
          by_cases hc923 : x543 = (46 : Int32)
          · skip
            refine ownBy (A := T897.setTop (fr_law m p0 p1 p2 p3 p4 300 (.val (.int (4 : Int32))) (.val (.int x534)) (.val (.int x537)) (.val (.int x540)) (.val (.int x543)) (.val (.int (own_b (x534 = (46 : Int32))))) (.val (.int (own_b (x537 = (46 : Int32))))) (.val (.int (own_b (x540 = (46 : Int32))))) (.val (.int (own_b (x543 = (46 : Int32))))) (.val (.int (own_b (x543 = (46 : Int32))))) (.val (.ref b844)) (.val (.int (0 : Int32))) .unset [(.int (1 : Int32))])) (fun t kt => ?_) ?_
            · refine XS.ifYes Xh909.here hx rfl (pc0 := 291) (pc' := 299) rfl (hb hby at_291) rfl ((if0 _ _).trans (feq (own_bt0 hc923)).2) (by decide) (by decide) ?_
              refine XS.iconst Xh909.here hx rfl (hb hby at_299) ?_
              exact kt
            refine ownRetH Xh909 hS0 (Nat.le_trans (Nat.le_trans (Nat.le_trans (Nat.le_trans (Nat.le_trans (Nat.le_trans (Nat.le_trans (Nat.le_refl _) E844.1) E852.1) (Keep.of_wr W863).1) (Keep.of_wr W870).1) (Keep.of_wr W877).1) (Keep.of_wr W884).1) Kq897.1) Bd.notSynchronized (v := some (.int (nar .boolean (1 : Int32)))) (fun h => by rw [Bd.returns] at h; cases h) ?_ (R905.trans (CHv.at Xh909 hZ hEL R905.1)) (Nat.le_of_ble_eq_true rfl) (Nat.le_of_ble_eq_true rfl) (fun fs hr => retN Xh909 hx (t := .boolean) Bd.returns (by simp) (hb hby at_300) hr)
            show (Q_law Z p0 p1 p2 p3 p4 G1 G3 h0 n0) (some (.int (nar .boolean (1 : Int32)))) T897.heap _
            exact ⟨rfl, Nh909⟩
          · skip
            refine ownBy (A := T897.setTop (fr_law m p0 p1 p2 p3 p4 303 (.val (.int (4 : Int32))) (.val (.int x534)) (.val (.int x537)) (.val (.int x540)) (.val (.int x543)) (.val (.int (own_b (x534 = (46 : Int32))))) (.val (.int (own_b (x537 = (46 : Int32))))) (.val (.int (own_b (x540 = (46 : Int32))))) (.val (.int (own_b (x543 = (46 : Int32))))) (.val (.int (own_b (x543 = (46 : Int32))))) (.val (.ref b844)) (.val (.int (0 : Int32))) .unset [(.ref b844)])) (fun t kt => ?_) ?_
            · refine XS.ifNo Xh909.here hx rfl (hb hby at_291) rfl ((if0 _ _).trans (teq (own_bf0 hc923)).2) ?_
              refine XS.iload Xh909.here hx rfl (hb hby at_294) rfl ?_
              refine XS.ifYes Xh909.here hx rfl (pc0 := 296) (pc' := 301) rfl (hb hby at_296) rfl ((if0 _ _).trans (teq ((by decide) : (0 : Int32) = (0 : Int32))).1) (by decide) (by decide) ?_
              show Steps p.tables e below (T897.setTop (fr_law m p0 p1 p2 p3 p4 301 (.val (.int (4 : Int32))) (.val (.int x534)) (.val (.int x537)) (.val (.int x540)) (.val (.int x543)) (.val (.int (own_b (x534 = (46 : Int32))))) (.val (.int (own_b (x537 = (46 : Int32))))) (.val (.int (own_b (x540 = (46 : Int32))))) (.val (.int (own_b (x543 = (46 : Int32))))) (.val (.int (own_b (x543 = (46 : Int32))))) (.val (.ref b844)) (.val (.int (0 : Int32))) .unset [])) t
              refine XS.aload Xh909.here hx rfl (hb hby at_301) rfl rfl ?_
              exact kt
            have f925 := (f893.keep Kq897)
            have f926 := (f896.keep Kq897 (allS g845 all0))
            have f927 := (Nat.le_trans f892 Kq897.1)
            obtain ⟨vv928, _, ⟨T928, L928, k928, n928⟩, -, X928, hS928, hg928, ⟨Lc928, hQ928, l928, y928, z928, hC928⟩, st928⟩ := callSS Xh909 hx (y := (⟨"com/example/boring_outbox/boringoutbox/EventType", "of", "(Ljava/lang/String;)Lcom/example/boring_outbox/boringoutbox/EventType;"⟩ : MethodName)) hown (mvT hZ (Wd38 hw)) (mvT hZ (Wd39 hw)) (mvT hZ (Wd40 hw)) (mvT hZ (Wd41 hw)) (by decide) (backOfSH (W := 0) (s := s) (EL := ownEL) (c_of4 l Z a0 hw [] b844 t897 kb897 x534 x537 x540 x543 G1 G3 T897.heap n0 f927 f925 Vq897 Cq897 Aq897 hp891 hx534 hx537 hx540 hx543 hc910 hc923 (fun h => hc919 h.2) O2 P5 f926 O4 rG3) hZ (Wd41 hw) (Wd40 hw) (by decide) (by decide) hEL R905.1) (g := (fr_law m p0 p1 p2 p3 p4 303 (.val (.int (4 : Int32))) (.val (.int x534)) (.val (.int x537)) (.val (.int x540)) (.val (.int x543)) (.val (.int (own_b (x534 = (46 : Int32))))) (.val (.int (own_b (x537 = (46 : Int32))))) (.val (.int (own_b (x540 = (46 : Int32))))) (.val (.int (own_b (x543 = (46 : Int32))))) (.val (.int (own_b (x543 = (46 : Int32))))) (.val (.ref b844)) (.val (.int (0 : Int32))) .unset [(.ref b844)])) rfl (by rw [hml]; rfl) (argsL := [(.ref b844)]) (rest := []) (lenOf pd_607 rfl) rfl (by show 2 * 0 + _ ≤ _; exact Nat.le_of_eq rfl) (hb hby at_303) (fun _ _ => ⟨rfl, rfl, (by decide : 3 + 3 ≤ _), (by decide : 12 + 77 ≤ _)⟩)
            dsimp only [Pt.U, Pt.locs, Pt.cells, Pt.slots] at X928 l928 y928 z928 st928 hQ928 hS928 hg928 hC928
            subst l928 y928 z928
            obtain ⟨y928, rfl, Nq928, Kq928, zq928, Eq928, Fa928⟩ := hQ928
            have ne929 : b844 ≠ y928 := Nat.ne_of_lt (Nat.lt_of_lt_of_le f925.lt zq928)
            have f931 := (V885.keep Kq897 (ninS (Ne.symm ne853) nin0))
            have ne930 : b852 ≠ y928 := Nat.ne_of_lt (Nat.lt_of_lt_of_le f931.lt zq928)
            have ne932 : t897 ≠ y928 := Nat.ne_of_lt (Nat.lt_of_lt_of_le Aq897.lt zq928)
            have g933 : n0 ≤ y928 := Nat.le_trans f927 zq928
            have f935 := (f903.trans Kq897 (allS (Or.inr z847) all0))
            have z934 : h0.size ≤ y928 := Nat.le_trans f935.1 zq928
            have N936 := Fr.app Nh909 Nq928
            have R938 := R905.trans hC928
            have sf939 := CHr.safe hC928 f925.lt sf906
            have sf940 := CHr.safe hC928 f931.lt sf907
            have sf941 := CHr.safe hC928 Aq897.lt sf908
            obtain ⟨XR942, hSR942, hZ942, hown942⟩ := rebS hS0 (Nat.le_trans (Nat.le_trans (Nat.le_trans (Nat.le_trans (Nat.le_trans (Nat.le_trans (Nat.le_trans (Nat.le_refl _) E844.1) E852.1) (Keep.of_wr W863).1) (Keep.of_wr W870).1) (Keep.of_wr W877).1) (Keep.of_wr W884).1) Kq897.1) X928 hS928 hg928 hZ hown
            obtain ⟨Lh943, Xh943, Nh943⟩ := own_hide (cells' := 6) (slots' := 89) XR942 N936 (Nat.le_of_ble_eq_true rfl) (Nat.le_of_ble_eq_true rfl)
            refine ownSt st928 ?_
            clear st928
            show ownG p.tables e below _ (T928.setTop (fr_law m p0 p1 p2 p3 p4 306 (.val (.int (4 : Int32))) (.val (.int x534)) (.val (.int x537)) (.val (.int x540)) (.val (.int x543)) (.val (.int (own_b (x534 = (46 : Int32))))) (.val (.int (own_b (x537 = (46 : Int32))))) (.val (.int (own_b (x540 = (46 : Int32))))) (.val (.int (own_b (x543 = (46 : Int32))))) (.val (.int (own_b (x543 = (46 : Int32))))) (.val (.ref b844)) (.val (.int (0 : Int32))) .unset [(.ref y928)]))
            refine ownBy (A := T928.setTop (fr_law m p0 p1 p2 p3 p4 317 (.val (.int (4 : Int32))) (.val (.int x534)) (.val (.int x537)) (.val (.int x540)) (.val (.int x543)) (.val (.int (own_b (x534 = (46 : Int32))))) (.val (.int (own_b (x537 = (46 : Int32))))) (.val (.int (own_b (x540 = (46 : Int32))))) (.val (.int (own_b (x543 = (46 : Int32))))) (.val (.int (own_b (x543 = (46 : Int32))))) (.val (.ref b844)) (.val (.int (0 : Int32))) (.val (.ref y928)) [(.ref y928), (.ref b844)])) (fun t kt => ?_) ?_
            · refine XS.astore Xh943.here hx rfl (hb hby at_306) rfl rfl (l' := #[.val (.int p0), .val (.int p1), .val (.int p2), .val (.int p3), .val (.int p4), .val (.int (4 : Int32)), .val (.int x534), .val (.int x537), .val (.int x540), .val (.int x543), .val (.int (own_b (x534 = (46 : Int32)))), .val (.int (own_b (x537 = (46 : Int32)))), .val (.int (own_b (x540 = (46 : Int32)))), .val (.int (own_b (x543 = (46 : Int32)))), .val (.int (own_b (x543 = (46 : Int32)))), .val (.ref b844), .val (.int (0 : Int32)), .val (.ref y928)]) rfl ?_
              refine XS.aload Xh943.here hx rfl (hb hby at_308) rfl rfl ?_
              refine XS.ifnullNo Xh943.here hx rfl (hb hby at_310) rfl ?_
              show Steps p.tables e below (T928.setTop (fr_law m p0 p1 p2 p3 p4 313 (.val (.int (4 : Int32))) (.val (.int x534)) (.val (.int x537)) (.val (.int x540)) (.val (.int x543)) (.val (.int (own_b (x534 = (46 : Int32))))) (.val (.int (own_b (x537 = (46 : Int32))))) (.val (.int (own_b (x540 = (46 : Int32))))) (.val (.int (own_b (x543 = (46 : Int32))))) (.val (.int (own_b (x543 = (46 : Int32))))) (.val (.ref b844)) (.val (.int (0 : Int32))) (.val (.ref y928)) [])) t
              refine XS.aload Xh943.here hx rfl (hb hby at_313) rfl rfl ?_
              refine XS.aload Xh943.here hx rfl (hb hby at_315) rfl rfl ?_
              exact kt
            have f944 := (Nat.le_trans f927 Kq928.1)
            obtain ⟨cq945, kq945, q945a, q945b, q945c⟩ := isOf hZ942 rfl Eq928
            obtain ⟨vv945, _, ⟨T945, L945, k945, n945⟩, -, X945, ⟨Lc945, hQ945, l945, y945, z945⟩, st945⟩ := Xh943.virtualBack hx (y := (⟨"com/example/boring_outbox/boringoutbox/EventType", "name", "()Ljava/lang/String;"⟩ : MethodName)) (z := (⟨"com/example/boring_outbox/boringoutbox/EventType", "name", "()Ljava/lang/String;"⟩ : MethodName)) hown942 (mvT hZ942 (Wd97 hw)) (mvT hZ942 (Wd98 hw)) (notFace_of_selects (args := #[]) (mvT hZ942 (Wd100 hw))) (mvT hZ942 (Wd100 hw)) (mvT hZ942 (Wd99 hw)) (by decide) (backOf (W := 1) (c_gname l Z a0 hw [] y928 (.ref b844) T928.heap n0 f944 Fa928 rfl) hZ942 (Wd101 hw) (Wd40 hw) (by decide) (by decide)) q945a q945c (g := (fr_law m p0 p1 p2 p3 p4 317 (.val (.int (4 : Int32))) (.val (.int x534)) (.val (.int x537)) (.val (.int x540)) (.val (.int x543)) (.val (.int (own_b (x534 = (46 : Int32))))) (.val (.int (own_b (x537 = (46 : Int32))))) (.val (.int (own_b (x540 = (46 : Int32))))) (.val (.int (own_b (x543 = (46 : Int32))))) (.val (.int (own_b (x543 = (46 : Int32))))) (.val (.ref b844)) (.val (.int (0 : Int32))) (.val (.ref y928)) [(.ref y928), (.ref b844)])) rfl (by rw [hml]; rfl) (Steps.refl _) (argsL := []) (rest := [(.ref b844)]) (lenOf pd_625 rfl) rfl (by show 2 * 0 + _ ≤ _; exact Nat.le_of_eq rfl) (hb hby at_317) (fun _ _ => ⟨rfl, rfl, (by decide : 6 + 0 ≤ _), (by decide : 89 + 0 ≤ _)⟩)
            dsimp only [Pt.U, Pt.locs, Pt.cells, Pt.slots] at X945 l945 y945 z945 st945 hQ945
            subst l945 y945 z945
            obtain ⟨rfl, Nq945, Eq945⟩ := hQ945
            have N946 := Fr.app Nh943 Nq945
            obtain ⟨Lh947, Xh947, Nh947⟩ := own_hide (cells' := 6) (slots' := 89) X945 N946 (Nat.le_of_ble_eq_true rfl) (Nat.le_of_ble_eq_true rfl)
            refine ownSt st945 ?_
            clear st945
            show ownG p.tables e below _ (T945.setTop (fr_law m p0 p1 p2 p3 p4 320 (.val (.int (4 : Int32))) (.val (.int x534)) (.val (.int x537)) (.val (.int x540)) (.val (.int x543)) (.val (.int (own_b (x534 = (46 : Int32))))) (.val (.int (own_b (x537 = (46 : Int32))))) (.val (.int (own_b (x540 = (46 : Int32))))) (.val (.int (own_b (x543 = (46 : Int32))))) (.val (.int (own_b (x543 = (46 : Int32))))) (.val (.ref b844)) (.val (.int (0 : Int32))) (.val (.ref y928)) [(.ref b844), (.ref b844)]))
            have f949 := (f925.keep Kq928)
            obtain ⟨cq948, kq948, q948a, q948b, q948c⟩ := isOf hZ942 Eq945 f949
            obtain ⟨vv948, _, ⟨T948, L948, k948, n948⟩, -, X948, ⟨Lc948, hQ948, l948, y948, z948⟩, st948⟩ := Xh947.virtualBack hx (y := (⟨"java/lang/String", "equals", "(Ljava/lang/Object;)Z"⟩ : MethodName)) (z := (⟨"java/lang/String", "equals", "(Ljava/lang/Object;)Z"⟩ : MethodName)) hown942 (mvT hZ942 (Wd102 hw)) (mvT hZ942 (Wd103 hw)) (notFace_of_selects (args := #[]) (mvT hZ942 (Wd105 hw))) (mvT hZ942 (Wd105 hw)) (mvT hZ942 (Wd104 hw)) (by decide) (backOf (W := 0) (c_eqs l Z a0 hw [] b844 T928.heap n0 f944 ) hZ942 (Wd106 hw) (Wd10 hw) (by decide) (by decide)) q948a q948c (g := (fr_law m p0 p1 p2 p3 p4 320 (.val (.int (4 : Int32))) (.val (.int x534)) (.val (.int x537)) (.val (.int x540)) (.val (.int x543)) (.val (.int (own_b (x534 = (46 : Int32))))) (.val (.int (own_b (x537 = (46 : Int32))))) (.val (.int (own_b (x540 = (46 : Int32))))) (.val (.int (own_b (x543 = (46 : Int32))))) (.val (.int (own_b (x543 = (46 : Int32))))) (.val (.ref b844)) (.val (.int (0 : Int32))) (.val (.ref y928)) [(.ref b844), (.ref b844)])) rfl (by rw [hml]; rfl) (Steps.refl _) (argsL := [(.ref b844)]) (rest := []) (lenOf pd_629 rfl) rfl (by show 2 * 0 + _ ≤ _; exact Nat.le_of_eq rfl) (hb hby at_320) (fun _ _ => ⟨rfl, Eq945, (by decide : 6 + 0 ≤ _), (by decide : 89 + 0 ≤ _)⟩)
            dsimp only [Pt.U, Pt.locs, Pt.cells, Pt.slots] at X948 l948 y948 z948 st948 hQ948
            subst l948 y948 z948
            obtain ⟨rfl, Nq948, Eq948⟩ := hQ948
            have N950 := Fr.app Nh947 Nq948
            obtain ⟨Lh951, Xh951, Nh951⟩ := own_hide (cells' := 6) (slots' := 89) X948 N950 (Nat.le_of_ble_eq_true rfl) (Nat.le_of_ble_eq_true rfl)
            refine ownSt st948 ?_
            clear st948
            show ownG p.tables e below _ (T948.setTop (fr_law m p0 p1 p2 p3 p4 323 (.val (.int (4 : Int32))) (.val (.int x534)) (.val (.int x537)) (.val (.int x540)) (.val (.int x543)) (.val (.int (own_b (x534 = (46 : Int32))))) (.val (.int (own_b (x537 = (46 : Int32))))) (.val (.int (own_b (x540 = (46 : Int32))))) (.val (.int (own_b (x543 = (46 : Int32))))) (.val (.int (own_b (x543 = (46 : Int32))))) (.val (.ref b844)) (.val (.int (0 : Int32))) (.val (.ref y928)) [(.int (1 : Int32))]))
            refine ownBy (A := T948.setTop (fr_law m p0 p1 p2 p3 p4 331 (.val (.int (4 : Int32))) (.val (.int x534)) (.val (.int x537)) (.val (.int x540)) (.val (.int x543)) (.val (.int (own_b (x534 = (46 : Int32))))) (.val (.int (own_b (x537 = (46 : Int32))))) (.val (.int (own_b (x540 = (46 : Int32))))) (.val (.int (own_b (x543 = (46 : Int32))))) (.val (.int (own_b (x543 = (46 : Int32))))) (.val (.ref b844)) (.val (.int (0 : Int32))) (.val (.ref y928)) [(.int (1 : Int32))])) (fun t kt => ?_) ?_
            · refine XS.ifNo Xh951.here hx rfl (hb hby at_323) rfl ((if0 _ _).trans (feq ((by decide) : ¬ ((1 : Int32) = (0 : Int32)))).1) ?_
              refine XS.iconst Xh951.here hx rfl (hb hby at_326) ?_
              refine XS.goto Xh951.here hx rfl (pc0 := 327) (pc' := 331) rfl (hb hby at_327) (by decide) (by decide) ?_
              exact kt
            refine ownRetH Xh951 hSR942 (by rw [Eq948]; exact (Nat.le_refl _)) Bd.notSynchronized (v := some (.int (nar .boolean (1 : Int32)))) (fun h => by rw [Bd.returns] at h; cases h) ?_ (R938.trans ((by rw [Eq948]; exact CHv.at Xh951 hZ942 hEL R938.1))) (Nat.le_of_ble_eq_true rfl) (Nat.le_of_ble_eq_true rfl) (fun fs hr => retN Xh951 hx (t := .boolean) Bd.returns (by simp) (hb hby at_331) hr)
            show (Q_law Z p0 p1 p2 p3 p4 G1 G3 h0 n0) (some (.int (nar .boolean (1 : Int32)))) T948.heap _
            rw [Eq948]
            exact ⟨rfl, Nh951⟩
      · skip
        refine ownBy (A := T897.setTop (fr_law m p0 p1 p2 p3 p4 269 (.val (.int (4 : Int32))) (.val (.int x534)) (.val (.int x537)) (.val (.int x540)) (.val (.int x543)) (.val (.int (own_b (x534 = (46 : Int32))))) (.val (.int (own_b (x537 = (46 : Int32))))) (.val (.int (own_b (x540 = (46 : Int32))))) (.val (.int (own_b (x543 = (46 : Int32))))) (.val (.int (own_b (x543 = (46 : Int32))))) (.val (.ref b844)) .unset .unset [(.int (own_b (x540 = (46 : Int32))))])) (fun t kt => ?_) ?_
        · refine XS.ifYes Xh909.here hx rfl (pc0 := 253) (pc' := 261) rfl (hb hby at_253) rfl ((if0 _ _).trans (teq (own_bf0 hc918)).1) (by decide) (by decide) ?_
          refine XS.iload Xh909.here hx rfl (hb hby at_261) rfl ?_
          refine XS.iconst Xh909.here hx rfl (hb hby at_263) ?_
          show Steps p.tables e below (T897.setTop (fr_law m p0 p1 p2 p3 p4 264 (.val (.int (4 : Int32))) (.val (.int x534)) (.val (.int x537)) (.val (.int x540)) (.val (.int x543)) (.val (.int (own_b (x534 = (46 : Int32))))) (.val (.int (own_b (x537 = (46 : Int32))))) (.val (.int (own_b (x540 = (46 : Int32))))) (.val (.int (own_b (x543 = (46 : Int32))))) (.val (.int (own_b (x543 = (46 : Int32))))) (.val (.ref b844)) .unset .unset [(.int (4 : Int32)), (.int (4 : Int32))])) t
          refine XS.icmpNo Xh909.here hx rfl (hb hby at_264) rfl (flt ((by decide) : ¬ ((4 : Int32) < (4 : Int32)))).1 ?_
          refine XS.iload Xh909.here hx rfl (hb hby at_267) rfl ?_
          exact kt
        by_cases hc953 : x540 = (46 : Int32)
        · skip
          refine ownBy (A := T897.setTop (fr_law m p0 p1 p2 p3 p4 274 (.val (.int (4 : Int32))) (.val (.int x534)) (.val (.int x537)) (.val (.int x540)) (.val (.int x543)) (.val (.int (own_b (x534 = (46 : Int32))))) (.val (.int (own_b (x537 = (46 : Int32))))) (.val (.int (own_b (x540 = (46 : Int32))))) (.val (.int (own_b (x543 = (46 : Int32))))) (.val (.int (own_b (x543 = (46 : Int32))))) (.val (.ref b844)) .unset .unset [(.int (own_b (x543 = (46 : Int32))))])) (fun t kt => ?_) ?_
          · refine XS.ifNo Xh909.here hx rfl (hb hby at_269) rfl ((if0 _ _).trans (feq (own_bt0 hc953)).1) ?_
            refine XS.iload Xh909.here hx rfl (hb hby at_272) rfl ?_
            exact kt
          by_cases hc954 : x543 = (46 : Int32)
          · skip
            refine ownBy (A := T897.setTop (fr_law m p0 p1 p2 p3 p4 300 (.val (.int (4 : Int32))) (.val (.int x534)) (.val (.int x537)) (.val (.int x540)) (.val (.int x543)) (.val (.int (own_b (x534 = (46 : Int32))))) (.val (.int (own_b (x537 = (46 : Int32))))) (.val (.int (own_b (x540 = (46 : Int32))))) (.val (.int (own_b (x543 = (46 : Int32))))) (.val (.int (own_b (x543 = (46 : Int32))))) (.val (.ref b844)) (.val (.int (1 : Int32))) .unset [(.int (1 : Int32))])) (fun t kt => ?_) ?_
            · refine XS.ifNo Xh909.here hx rfl (hb hby at_274) rfl ((if0 _ _).trans (feq (own_bt0 hc954)).1) ?_
              refine XS.iconst Xh909.here hx rfl (hb hby at_277) ?_
              refine XS.goto Xh909.here hx rfl (pc0 := 278) (pc' := 282) rfl (hb hby at_278) (by decide) (by decide) ?_
              show Steps p.tables e below (T897.setTop (fr_law m p0 p1 p2 p3 p4 282 (.val (.int (4 : Int32))) (.val (.int x534)) (.val (.int x537)) (.val (.int x540)) (.val (.int x543)) (.val (.int (own_b (x534 = (46 : Int32))))) (.val (.int (own_b (x537 = (46 : Int32))))) (.val (.int (own_b (x540 = (46 : Int32))))) (.val (.int (own_b (x543 = (46 : Int32))))) (.val (.int (own_b (x543 = (46 : Int32))))) (.val (.ref b844)) .unset .unset [(.int (1 : Int32))])) t
              refine XS.istore Xh909.here hx rfl (hb hby at_282) rfl (l' := #[.val (.int p0), .val (.int p1), .val (.int p2), .val (.int p3), .val (.int p4), .val (.int (4 : Int32)), .val (.int x534), .val (.int x537), .val (.int x540), .val (.int x543), .val (.int (own_b (x534 = (46 : Int32)))), .val (.int (own_b (x537 = (46 : Int32)))), .val (.int (own_b (x540 = (46 : Int32)))), .val (.int (own_b (x543 = (46 : Int32)))), .val (.int (own_b (x543 = (46 : Int32)))), .val (.ref b844), .val (.int (1 : Int32)), .unset]) rfl ?_
              refine XS.iload Xh909.here hx rfl (hb hby at_284) rfl ?_
              refine XS.ifNo Xh909.here hx rfl (hb hby at_286) rfl ((if0 _ _).trans (teq (own_bf0 hc910)).2) ?_
              show Steps p.tables e below (T897.setTop (fr_law m p0 p1 p2 p3 p4 289 (.val (.int (4 : Int32))) (.val (.int x534)) (.val (.int x537)) (.val (.int x540)) (.val (.int x543)) (.val (.int (own_b (x534 = (46 : Int32))))) (.val (.int (own_b (x537 = (46 : Int32))))) (.val (.int (own_b (x540 = (46 : Int32))))) (.val (.int (own_b (x543 = (46 : Int32))))) (.val (.int (own_b (x543 = (46 : Int32))))) (.val (.ref b844)) (.val (.int (1 : Int32))) .unset [])) t
              refine XS.iload Xh909.here hx rfl (hb hby at_289) rfl ?_
              refine XS.ifYes Xh909.here hx rfl (pc0 := 291) (pc' := 299) rfl (hb hby at_291) rfl ((if0 _ _).trans (feq (own_bt0 hc954)).2) (by decide) (by decide) ?_
              refine XS.iconst Xh909.here hx rfl (hb hby at_299) ?_
              exact kt
            refine ownRetH Xh909 hS0 (Nat.le_trans (Nat.le_trans (Nat.le_trans (Nat.le_trans (Nat.le_trans (Nat.le_trans (Nat.le_trans (Nat.le_refl _) E844.1) E852.1) (Keep.of_wr W863).1) (Keep.of_wr W870).1) (Keep.of_wr W877).1) (Keep.of_wr W884).1) Kq897.1) Bd.notSynchronized (v := some (.int (nar .boolean (1 : Int32)))) (fun h => by rw [Bd.returns] at h; cases h) ?_ (R905.trans (CHv.at Xh909 hZ hEL R905.1)) (Nat.le_of_ble_eq_true rfl) (Nat.le_of_ble_eq_true rfl) (fun fs hr => retN Xh909 hx (t := .boolean) Bd.returns (by simp) (hb hby at_300) hr)
            show (Q_law Z p0 p1 p2 p3 p4 G1 G3 h0 n0) (some (.int (nar .boolean (1 : Int32)))) T897.heap _
            exact ⟨rfl, Nh909⟩
          · skip
            refine ownBy (A := T897.setTop (fr_law m p0 p1 p2 p3 p4 303 (.val (.int (4 : Int32))) (.val (.int x534)) (.val (.int x537)) (.val (.int x540)) (.val (.int x543)) (.val (.int (own_b (x534 = (46 : Int32))))) (.val (.int (own_b (x537 = (46 : Int32))))) (.val (.int (own_b (x540 = (46 : Int32))))) (.val (.int (own_b (x543 = (46 : Int32))))) (.val (.int (own_b (x543 = (46 : Int32))))) (.val (.ref b844)) (.val (.int (0 : Int32))) .unset [(.ref b844)])) (fun t kt => ?_) ?_
            · refine XS.ifYes Xh909.here hx rfl (pc0 := 274) (pc' := 281) rfl (hb hby at_274) rfl ((if0 _ _).trans (teq (own_bf0 hc954)).1) (by decide) (by decide) ?_
              refine XS.iconst Xh909.here hx rfl (hb hby at_281) ?_
              refine XS.istore Xh909.here hx rfl (hb hby at_282) rfl (l' := #[.val (.int p0), .val (.int p1), .val (.int p2), .val (.int p3), .val (.int p4), .val (.int (4 : Int32)), .val (.int x534), .val (.int x537), .val (.int x540), .val (.int x543), .val (.int (own_b (x534 = (46 : Int32)))), .val (.int (own_b (x537 = (46 : Int32)))), .val (.int (own_b (x540 = (46 : Int32)))), .val (.int (own_b (x543 = (46 : Int32)))), .val (.int (own_b (x543 = (46 : Int32)))), .val (.ref b844), .val (.int (0 : Int32)), .unset]) rfl ?_
              show Steps p.tables e below (T897.setTop (fr_law m p0 p1 p2 p3 p4 284 (.val (.int (4 : Int32))) (.val (.int x534)) (.val (.int x537)) (.val (.int x540)) (.val (.int x543)) (.val (.int (own_b (x534 = (46 : Int32))))) (.val (.int (own_b (x537 = (46 : Int32))))) (.val (.int (own_b (x540 = (46 : Int32))))) (.val (.int (own_b (x543 = (46 : Int32))))) (.val (.int (own_b (x543 = (46 : Int32))))) (.val (.ref b844)) (.val (.int (0 : Int32))) .unset [])) t
              refine XS.iload Xh909.here hx rfl (hb hby at_284) rfl ?_
              refine XS.ifNo Xh909.here hx rfl (hb hby at_286) rfl ((if0 _ _).trans (teq (own_bf0 hc910)).2) ?_
              refine XS.iload Xh909.here hx rfl (hb hby at_289) rfl ?_
              show Steps p.tables e below (T897.setTop (fr_law m p0 p1 p2 p3 p4 291 (.val (.int (4 : Int32))) (.val (.int x534)) (.val (.int x537)) (.val (.int x540)) (.val (.int x543)) (.val (.int (own_b (x534 = (46 : Int32))))) (.val (.int (own_b (x537 = (46 : Int32))))) (.val (.int (own_b (x540 = (46 : Int32))))) (.val (.int (own_b (x543 = (46 : Int32))))) (.val (.int (own_b (x543 = (46 : Int32))))) (.val (.ref b844)) (.val (.int (0 : Int32))) .unset [(.int (own_b (x543 = (46 : Int32))))])) t
              refine XS.ifNo Xh909.here hx rfl (hb hby at_291) rfl ((if0 _ _).trans (teq (own_bf0 hc954)).2) ?_
              refine XS.iload Xh909.here hx rfl (hb hby at_294) rfl ?_
              refine XS.ifYes Xh909.here hx rfl (pc0 := 296) (pc' := 301) rfl (hb hby at_296) rfl ((if0 _ _).trans (teq ((by decide) : (0 : Int32) = (0 : Int32))).1) (by decide) (by decide) ?_
              show Steps p.tables e below (T897.setTop (fr_law m p0 p1 p2 p3 p4 301 (.val (.int (4 : Int32))) (.val (.int x534)) (.val (.int x537)) (.val (.int x540)) (.val (.int x543)) (.val (.int (own_b (x534 = (46 : Int32))))) (.val (.int (own_b (x537 = (46 : Int32))))) (.val (.int (own_b (x540 = (46 : Int32))))) (.val (.int (own_b (x543 = (46 : Int32))))) (.val (.int (own_b (x543 = (46 : Int32))))) (.val (.ref b844)) (.val (.int (0 : Int32))) .unset [])) t
              refine XS.aload Xh909.here hx rfl (hb hby at_301) rfl rfl ?_
              exact kt
            have f956 := (f893.keep Kq897)
            have f957 := (f896.keep Kq897 (allS g845 all0))
            have f958 := (Nat.le_trans f892 Kq897.1)
            obtain ⟨vv959, _, ⟨T959, L959, k959, n959⟩, -, X959, hS959, hg959, ⟨Lc959, hQ959, l959, y959, z959, hC959⟩, st959⟩ := callSS Xh909 hx (y := (⟨"com/example/boring_outbox/boringoutbox/EventType", "of", "(Ljava/lang/String;)Lcom/example/boring_outbox/boringoutbox/EventType;"⟩ : MethodName)) hown (mvT hZ (Wd38 hw)) (mvT hZ (Wd39 hw)) (mvT hZ (Wd40 hw)) (mvT hZ (Wd41 hw)) (by decide) (backOfSH (W := 0) (s := s) (EL := ownEL) (c_of4 l Z a0 hw [] b844 t897 kb897 x534 x537 x540 x543 G1 G3 T897.heap n0 f958 f956 Vq897 Cq897 Aq897 hp891 hx534 hx537 hx540 hx543 hc910 hc954 (fun h => hc918 h.1) O2 P5 f957 O4 rG3) hZ (Wd41 hw) (Wd40 hw) (by decide) (by decide) hEL R905.1) (g := (fr_law m p0 p1 p2 p3 p4 303 (.val (.int (4 : Int32))) (.val (.int x534)) (.val (.int x537)) (.val (.int x540)) (.val (.int x543)) (.val (.int (own_b (x534 = (46 : Int32))))) (.val (.int (own_b (x537 = (46 : Int32))))) (.val (.int (own_b (x540 = (46 : Int32))))) (.val (.int (own_b (x543 = (46 : Int32))))) (.val (.int (own_b (x543 = (46 : Int32))))) (.val (.ref b844)) (.val (.int (0 : Int32))) .unset [(.ref b844)])) rfl (by rw [hml]; rfl) (argsL := [(.ref b844)]) (rest := []) (lenOf pd_607 rfl) rfl (by show 2 * 0 + _ ≤ _; exact Nat.le_of_eq rfl) (hb hby at_303) (fun _ _ => ⟨rfl, rfl, (by decide : 3 + 3 ≤ _), (by decide : 12 + 77 ≤ _)⟩)
            dsimp only [Pt.U, Pt.locs, Pt.cells, Pt.slots] at X959 l959 y959 z959 st959 hQ959 hS959 hg959 hC959
            subst l959 y959 z959
            obtain ⟨y959, rfl, Nq959, Kq959, zq959, Eq959, Fa959⟩ := hQ959
            have ne960 : b844 ≠ y959 := Nat.ne_of_lt (Nat.lt_of_lt_of_le f956.lt zq959)
            have f962 := (V885.keep Kq897 (ninS (Ne.symm ne853) nin0))
            have ne961 : b852 ≠ y959 := Nat.ne_of_lt (Nat.lt_of_lt_of_le f962.lt zq959)
            have ne963 : t897 ≠ y959 := Nat.ne_of_lt (Nat.lt_of_lt_of_le Aq897.lt zq959)
            have g964 : n0 ≤ y959 := Nat.le_trans f958 zq959
            have f966 := (f903.trans Kq897 (allS (Or.inr z847) all0))
            have z965 : h0.size ≤ y959 := Nat.le_trans f966.1 zq959
            have N967 := Fr.app Nh909 Nq959
            have R969 := R905.trans hC959
            have sf970 := CHr.safe hC959 f956.lt sf906
            have sf971 := CHr.safe hC959 f962.lt sf907
            have sf972 := CHr.safe hC959 Aq897.lt sf908
            obtain ⟨XR973, hSR973, hZ973, hown973⟩ := rebS hS0 (Nat.le_trans (Nat.le_trans (Nat.le_trans (Nat.le_trans (Nat.le_trans (Nat.le_trans (Nat.le_trans (Nat.le_refl _) E844.1) E852.1) (Keep.of_wr W863).1) (Keep.of_wr W870).1) (Keep.of_wr W877).1) (Keep.of_wr W884).1) Kq897.1) X959 hS959 hg959 hZ hown
            obtain ⟨Lh974, Xh974, Nh974⟩ := own_hide (cells' := 6) (slots' := 89) XR973 N967 (Nat.le_of_ble_eq_true rfl) (Nat.le_of_ble_eq_true rfl)
            refine ownSt st959 ?_
            clear st959
            show ownG p.tables e below _ (T959.setTop (fr_law m p0 p1 p2 p3 p4 306 (.val (.int (4 : Int32))) (.val (.int x534)) (.val (.int x537)) (.val (.int x540)) (.val (.int x543)) (.val (.int (own_b (x534 = (46 : Int32))))) (.val (.int (own_b (x537 = (46 : Int32))))) (.val (.int (own_b (x540 = (46 : Int32))))) (.val (.int (own_b (x543 = (46 : Int32))))) (.val (.int (own_b (x543 = (46 : Int32))))) (.val (.ref b844)) (.val (.int (0 : Int32))) .unset [(.ref y959)]))
            refine ownBy (A := T959.setTop (fr_law m p0 p1 p2 p3 p4 317 (.val (.int (4 : Int32))) (.val (.int x534)) (.val (.int x537)) (.val (.int x540)) (.val (.int x543)) (.val (.int (own_b (x534 = (46 : Int32))))) (.val (.int (own_b (x537 = (46 : Int32))))) (.val (.int (own_b (x540 = (46 : Int32))))) (.val (.int (own_b (x543 = (46 : Int32))))) (.val (.int (own_b (x543 = (46 : Int32))))) (.val (.ref b844)) (.val (.int (0 : Int32))) (.val (.ref y959)) [(.ref y959), (.ref b844)])) (fun t kt => ?_) ?_
            · refine XS.astore Xh974.here hx rfl (hb hby at_306) rfl rfl (l' := #[.val (.int p0), .val (.int p1), .val (.int p2), .val (.int p3), .val (.int p4), .val (.int (4 : Int32)), .val (.int x534), .val (.int x537), .val (.int x540), .val (.int x543), .val (.int (own_b (x534 = (46 : Int32)))), .val (.int (own_b (x537 = (46 : Int32)))), .val (.int (own_b (x540 = (46 : Int32)))), .val (.int (own_b (x543 = (46 : Int32)))), .val (.int (own_b (x543 = (46 : Int32)))), .val (.ref b844), .val (.int (0 : Int32)), .val (.ref y959)]) rfl ?_
              refine XS.aload Xh974.here hx rfl (hb hby at_308) rfl rfl ?_
              refine XS.ifnullNo Xh974.here hx rfl (hb hby at_310) rfl ?_
              show Steps p.tables e below (T959.setTop (fr_law m p0 p1 p2 p3 p4 313 (.val (.int (4 : Int32))) (.val (.int x534)) (.val (.int x537)) (.val (.int x540)) (.val (.int x543)) (.val (.int (own_b (x534 = (46 : Int32))))) (.val (.int (own_b (x537 = (46 : Int32))))) (.val (.int (own_b (x540 = (46 : Int32))))) (.val (.int (own_b (x543 = (46 : Int32))))) (.val (.int (own_b (x543 = (46 : Int32))))) (.val (.ref b844)) (.val (.int (0 : Int32))) (.val (.ref y959)) [])) t
              refine XS.aload Xh974.here hx rfl (hb hby at_313) rfl rfl ?_
              refine XS.aload Xh974.here hx rfl (hb hby at_315) rfl rfl ?_
              exact kt
            have f975 := (Nat.le_trans f958 Kq959.1)
            obtain ⟨cq976, kq976, q976a, q976b, q976c⟩ := isOf hZ973 rfl Eq959
            obtain ⟨vv976, _, ⟨T976, L976, k976, n976⟩, -, X976, ⟨Lc976, hQ976, l976, y976, z976⟩, st976⟩ := Xh974.virtualBack hx (y := (⟨"com/example/boring_outbox/boringoutbox/EventType", "name", "()Ljava/lang/String;"⟩ : MethodName)) (z := (⟨"com/example/boring_outbox/boringoutbox/EventType", "name", "()Ljava/lang/String;"⟩ : MethodName)) hown973 (mvT hZ973 (Wd97 hw)) (mvT hZ973 (Wd98 hw)) (notFace_of_selects (args := #[]) (mvT hZ973 (Wd100 hw))) (mvT hZ973 (Wd100 hw)) (mvT hZ973 (Wd99 hw)) (by decide) (backOf (W := 1) (c_gname l Z a0 hw [] y959 (.ref b844) T959.heap n0 f975 Fa959 rfl) hZ973 (Wd101 hw) (Wd40 hw) (by decide) (by decide)) q976a q976c (g := (fr_law m p0 p1 p2 p3 p4 317 (.val (.int (4 : Int32))) (.val (.int x534)) (.val (.int x537)) (.val (.int x540)) (.val (.int x543)) (.val (.int (own_b (x534 = (46 : Int32))))) (.val (.int (own_b (x537 = (46 : Int32))))) (.val (.int (own_b (x540 = (46 : Int32))))) (.val (.int (own_b (x543 = (46 : Int32))))) (.val (.int (own_b (x543 = (46 : Int32))))) (.val (.ref b844)) (.val (.int (0 : Int32))) (.val (.ref y959)) [(.ref y959), (.ref b844)])) rfl (by rw [hml]; rfl) (Steps.refl _) (argsL := []) (rest := [(.ref b844)]) (lenOf pd_625 rfl) rfl (by show 2 * 0 + _ ≤ _; exact Nat.le_of_eq rfl) (hb hby at_317) (fun _ _ => ⟨rfl, rfl, (by decide : 6 + 0 ≤ _), (by decide : 89 + 0 ≤ _)⟩)
            dsimp only [Pt.U, Pt.locs, Pt.cells, Pt.slots] at X976 l976 y976 z976 st976 hQ976
            subst l976 y976 z976
            obtain ⟨rfl, Nq976, Eq976⟩ := hQ976
            have N977 := Fr.app Nh974 Nq976
            obtain ⟨Lh978, Xh978, Nh978⟩ := own_hide (cells' := 6) (slots' := 89) X976 N977 (Nat.le_of_ble_eq_true rfl) (Nat.le_of_ble_eq_true rfl)
            refine ownSt st976 ?_
            clear st976
            show ownG p.tables e below _ (T976.setTop (fr_law m p0 p1 p2 p3 p4 320 (.val (.int (4 : Int32))) (.val (.int x534)) (.val (.int x537)) (.val (.int x540)) (.val (.int x543)) (.val (.int (own_b (x534 = (46 : Int32))))) (.val (.int (own_b (x537 = (46 : Int32))))) (.val (.int (own_b (x540 = (46 : Int32))))) (.val (.int (own_b (x543 = (46 : Int32))))) (.val (.int (own_b (x543 = (46 : Int32))))) (.val (.ref b844)) (.val (.int (0 : Int32))) (.val (.ref y959)) [(.ref b844), (.ref b844)]))
            have f980 := (f956.keep Kq959)
            obtain ⟨cq979, kq979, q979a, q979b, q979c⟩ := isOf hZ973 Eq976 f980
            obtain ⟨vv979, _, ⟨T979, L979, k979, n979⟩, -, X979, ⟨Lc979, hQ979, l979, y979, z979⟩, st979⟩ := Xh978.virtualBack hx (y := (⟨"java/lang/String", "equals", "(Ljava/lang/Object;)Z"⟩ : MethodName)) (z := (⟨"java/lang/String", "equals", "(Ljava/lang/Object;)Z"⟩ : MethodName)) hown973 (mvT hZ973 (Wd102 hw)) (mvT hZ973 (Wd103 hw)) (notFace_of_selects (args := #[]) (mvT hZ973 (Wd105 hw))) (mvT hZ973 (Wd105 hw)) (mvT hZ973 (Wd104 hw)) (by decide) (backOf (W := 0) (c_eqs l Z a0 hw [] b844 T959.heap n0 f975 ) hZ973 (Wd106 hw) (Wd10 hw) (by decide) (by decide)) q979a q979c (g := (fr_law m p0 p1 p2 p3 p4 320 (.val (.int (4 : Int32))) (.val (.int x534)) (.val (.int x537)) (.val (.int x540)) (.val (.int x543)) (.val (.int (own_b (x534 = (46 : Int32))))) (.val (.int (own_b (x537 = (46 : Int32))))) (.val (.int (own_b (x540 = (46 : Int32))))) (.val (.int (own_b (x543 = (46 : Int32))))) (.val (.int (own_b (x543 = (46 : Int32))))) (.val (.ref b844)) (.val (.int (0 : Int32))) (.val (.ref y959)) [(.ref b844), (.ref b844)])) rfl (by rw [hml]; rfl) (Steps.refl _) (argsL := [(.ref b844)]) (rest := []) (lenOf pd_629 rfl) rfl (by show 2 * 0 + _ ≤ _; exact Nat.le_of_eq rfl) (hb hby at_320) (fun _ _ => ⟨rfl, Eq976, (by decide : 6 + 0 ≤ _), (by decide : 89 + 0 ≤ _)⟩)
            dsimp only [Pt.U, Pt.locs, Pt.cells, Pt.slots] at X979 l979 y979 z979 st979 hQ979
            subst l979 y979 z979
            obtain ⟨rfl, Nq979, Eq979⟩ := hQ979
            have N981 := Fr.app Nh978 Nq979
            obtain ⟨Lh982, Xh982, Nh982⟩ := own_hide (cells' := 6) (slots' := 89) X979 N981 (Nat.le_of_ble_eq_true rfl) (Nat.le_of_ble_eq_true rfl)
            refine ownSt st979 ?_
            clear st979
            show ownG p.tables e below _ (T979.setTop (fr_law m p0 p1 p2 p3 p4 323 (.val (.int (4 : Int32))) (.val (.int x534)) (.val (.int x537)) (.val (.int x540)) (.val (.int x543)) (.val (.int (own_b (x534 = (46 : Int32))))) (.val (.int (own_b (x537 = (46 : Int32))))) (.val (.int (own_b (x540 = (46 : Int32))))) (.val (.int (own_b (x543 = (46 : Int32))))) (.val (.int (own_b (x543 = (46 : Int32))))) (.val (.ref b844)) (.val (.int (0 : Int32))) (.val (.ref y959)) [(.int (1 : Int32))]))
            refine ownBy (A := T979.setTop (fr_law m p0 p1 p2 p3 p4 331 (.val (.int (4 : Int32))) (.val (.int x534)) (.val (.int x537)) (.val (.int x540)) (.val (.int x543)) (.val (.int (own_b (x534 = (46 : Int32))))) (.val (.int (own_b (x537 = (46 : Int32))))) (.val (.int (own_b (x540 = (46 : Int32))))) (.val (.int (own_b (x543 = (46 : Int32))))) (.val (.int (own_b (x543 = (46 : Int32))))) (.val (.ref b844)) (.val (.int (0 : Int32))) (.val (.ref y959)) [(.int (1 : Int32))])) (fun t kt => ?_) ?_
            · refine XS.ifNo Xh982.here hx rfl (hb hby at_323) rfl ((if0 _ _).trans (feq ((by decide) : ¬ ((1 : Int32) = (0 : Int32)))).1) ?_
              refine XS.iconst Xh982.here hx rfl (hb hby at_326) ?_
              refine XS.goto Xh982.here hx rfl (pc0 := 327) (pc' := 331) rfl (hb hby at_327) (by decide) (by decide) ?_
              exact kt
            refine ownRetH Xh982 hSR973 (by rw [Eq979]; exact (Nat.le_refl _)) Bd.notSynchronized (v := some (.int (nar .boolean (1 : Int32)))) (fun h => by rw [Bd.returns] at h; cases h) ?_ (R969.trans ((by rw [Eq979]; exact CHv.at Xh982 hZ973 hEL R969.1))) (Nat.le_of_ble_eq_true rfl) (Nat.le_of_ble_eq_true rfl) (fun fs hr => retN Xh982 hx (t := .boolean) Bd.returns (by simp) (hb hby at_331) hr)
            show (Q_law Z p0 p1 p2 p3 p4 G1 G3 h0 n0) (some (.int (nar .boolean (1 : Int32)))) T979.heap _
            rw [Eq979]
            exact ⟨rfl, Nh982⟩
        · skip
          refine ownBy (A := T897.setTop (fr_law m p0 p1 p2 p3 p4 291 (.val (.int (4 : Int32))) (.val (.int x534)) (.val (.int x537)) (.val (.int x540)) (.val (.int x543)) (.val (.int (own_b (x534 = (46 : Int32))))) (.val (.int (own_b (x537 = (46 : Int32))))) (.val (.int (own_b (x540 = (46 : Int32))))) (.val (.int (own_b (x543 = (46 : Int32))))) (.val (.int (own_b (x543 = (46 : Int32))))) (.val (.ref b844)) (.val (.int (0 : Int32))) .unset [(.int (own_b (x543 = (46 : Int32))))])) (fun t kt => ?_) ?_
          · refine XS.ifYes Xh909.here hx rfl (pc0 := 269) (pc' := 281) rfl (hb hby at_269) rfl ((if0 _ _).trans (teq (own_bf0 hc953)).1) (by decide) (by decide) ?_
            refine XS.iconst Xh909.here hx rfl (hb hby at_281) ?_
            refine XS.istore Xh909.here hx rfl (hb hby at_282) rfl (l' := #[.val (.int p0), .val (.int p1), .val (.int p2), .val (.int p3), .val (.int p4), .val (.int (4 : Int32)), .val (.int x534), .val (.int x537), .val (.int x540), .val (.int x543), .val (.int (own_b (x534 = (46 : Int32)))), .val (.int (own_b (x537 = (46 : Int32)))), .val (.int (own_b (x540 = (46 : Int32)))), .val (.int (own_b (x543 = (46 : Int32)))), .val (.int (own_b (x543 = (46 : Int32)))), .val (.ref b844), .val (.int (0 : Int32)), .unset]) rfl ?_
            show Steps p.tables e below (T897.setTop (fr_law m p0 p1 p2 p3 p4 284 (.val (.int (4 : Int32))) (.val (.int x534)) (.val (.int x537)) (.val (.int x540)) (.val (.int x543)) (.val (.int (own_b (x534 = (46 : Int32))))) (.val (.int (own_b (x537 = (46 : Int32))))) (.val (.int (own_b (x540 = (46 : Int32))))) (.val (.int (own_b (x543 = (46 : Int32))))) (.val (.int (own_b (x543 = (46 : Int32))))) (.val (.ref b844)) (.val (.int (0 : Int32))) .unset [])) t
            refine XS.iload Xh909.here hx rfl (hb hby at_284) rfl ?_
            refine XS.ifNo Xh909.here hx rfl (hb hby at_286) rfl ((if0 _ _).trans (teq (own_bf0 hc910)).2) ?_
            refine XS.iload Xh909.here hx rfl (hb hby at_289) rfl ?_
            exact kt
          by_cases hc984 : x543 = (46 : Int32)
          · skip
            refine ownBy (A := T897.setTop (fr_law m p0 p1 p2 p3 p4 300 (.val (.int (4 : Int32))) (.val (.int x534)) (.val (.int x537)) (.val (.int x540)) (.val (.int x543)) (.val (.int (own_b (x534 = (46 : Int32))))) (.val (.int (own_b (x537 = (46 : Int32))))) (.val (.int (own_b (x540 = (46 : Int32))))) (.val (.int (own_b (x543 = (46 : Int32))))) (.val (.int (own_b (x543 = (46 : Int32))))) (.val (.ref b844)) (.val (.int (0 : Int32))) .unset [(.int (1 : Int32))])) (fun t kt => ?_) ?_
            · refine XS.ifYes Xh909.here hx rfl (pc0 := 291) (pc' := 299) rfl (hb hby at_291) rfl ((if0 _ _).trans (feq (own_bt0 hc984)).2) (by decide) (by decide) ?_
              refine XS.iconst Xh909.here hx rfl (hb hby at_299) ?_
              exact kt
            refine ownRetH Xh909 hS0 (Nat.le_trans (Nat.le_trans (Nat.le_trans (Nat.le_trans (Nat.le_trans (Nat.le_trans (Nat.le_trans (Nat.le_refl _) E844.1) E852.1) (Keep.of_wr W863).1) (Keep.of_wr W870).1) (Keep.of_wr W877).1) (Keep.of_wr W884).1) Kq897.1) Bd.notSynchronized (v := some (.int (nar .boolean (1 : Int32)))) (fun h => by rw [Bd.returns] at h; cases h) ?_ (R905.trans (CHv.at Xh909 hZ hEL R905.1)) (Nat.le_of_ble_eq_true rfl) (Nat.le_of_ble_eq_true rfl) (fun fs hr => retN Xh909 hx (t := .boolean) Bd.returns (by simp) (hb hby at_300) hr)
            show (Q_law Z p0 p1 p2 p3 p4 G1 G3 h0 n0) (some (.int (nar .boolean (1 : Int32)))) T897.heap _
            exact ⟨rfl, Nh909⟩
          · skip
            refine ownBy (A := T897.setTop (fr_law m p0 p1 p2 p3 p4 303 (.val (.int (4 : Int32))) (.val (.int x534)) (.val (.int x537)) (.val (.int x540)) (.val (.int x543)) (.val (.int (own_b (x534 = (46 : Int32))))) (.val (.int (own_b (x537 = (46 : Int32))))) (.val (.int (own_b (x540 = (46 : Int32))))) (.val (.int (own_b (x543 = (46 : Int32))))) (.val (.int (own_b (x543 = (46 : Int32))))) (.val (.ref b844)) (.val (.int (0 : Int32))) .unset [(.ref b844)])) (fun t kt => ?_) ?_
            · refine XS.ifNo Xh909.here hx rfl (hb hby at_291) rfl ((if0 _ _).trans (teq (own_bf0 hc984)).2) ?_
              refine XS.iload Xh909.here hx rfl (hb hby at_294) rfl ?_
              refine XS.ifYes Xh909.here hx rfl (pc0 := 296) (pc' := 301) rfl (hb hby at_296) rfl ((if0 _ _).trans (teq ((by decide) : (0 : Int32) = (0 : Int32))).1) (by decide) (by decide) ?_
              show Steps p.tables e below (T897.setTop (fr_law m p0 p1 p2 p3 p4 301 (.val (.int (4 : Int32))) (.val (.int x534)) (.val (.int x537)) (.val (.int x540)) (.val (.int x543)) (.val (.int (own_b (x534 = (46 : Int32))))) (.val (.int (own_b (x537 = (46 : Int32))))) (.val (.int (own_b (x540 = (46 : Int32))))) (.val (.int (own_b (x543 = (46 : Int32))))) (.val (.int (own_b (x543 = (46 : Int32))))) (.val (.ref b844)) (.val (.int (0 : Int32))) .unset [])) t
              refine XS.aload Xh909.here hx rfl (hb hby at_301) rfl rfl ?_
              exact kt
            have f986 := (f893.keep Kq897)
            have f987 := (f896.keep Kq897 (allS g845 all0))
            have f988 := (Nat.le_trans f892 Kq897.1)
            obtain ⟨vv989, _, ⟨T989, L989, k989, n989⟩, -, X989, hS989, hg989, ⟨Lc989, hQ989, l989, y989, z989, hC989⟩, st989⟩ := callSS Xh909 hx (y := (⟨"com/example/boring_outbox/boringoutbox/EventType", "of", "(Ljava/lang/String;)Lcom/example/boring_outbox/boringoutbox/EventType;"⟩ : MethodName)) hown (mvT hZ (Wd38 hw)) (mvT hZ (Wd39 hw)) (mvT hZ (Wd40 hw)) (mvT hZ (Wd41 hw)) (by decide) (backOfSH (W := 0) (s := s) (EL := ownEL) (c_of4 l Z a0 hw [] b844 t897 kb897 x534 x537 x540 x543 G1 G3 T897.heap n0 f988 f986 Vq897 Cq897 Aq897 hp891 hx534 hx537 hx540 hx543 hc910 hc984 (fun h => hc918 h.1) O2 P5 f987 O4 rG3) hZ (Wd41 hw) (Wd40 hw) (by decide) (by decide) hEL R905.1) (g := (fr_law m p0 p1 p2 p3 p4 303 (.val (.int (4 : Int32))) (.val (.int x534)) (.val (.int x537)) (.val (.int x540)) (.val (.int x543)) (.val (.int (own_b (x534 = (46 : Int32))))) (.val (.int (own_b (x537 = (46 : Int32))))) (.val (.int (own_b (x540 = (46 : Int32))))) (.val (.int (own_b (x543 = (46 : Int32))))) (.val (.int (own_b (x543 = (46 : Int32))))) (.val (.ref b844)) (.val (.int (0 : Int32))) .unset [(.ref b844)])) rfl (by rw [hml]; rfl) (argsL := [(.ref b844)]) (rest := []) (lenOf pd_607 rfl) rfl (by show 2 * 0 + _ ≤ _; exact Nat.le_of_eq rfl) (hb hby at_303) (fun _ _ => ⟨rfl, rfl, (by decide : 3 + 3 ≤ _), (by decide : 12 + 77 ≤ _)⟩)
            dsimp only [Pt.U, Pt.locs, Pt.cells, Pt.slots] at X989 l989 y989 z989 st989 hQ989 hS989 hg989 hC989
            subst l989 y989 z989
            obtain ⟨y989, rfl, Nq989, Kq989, zq989, Eq989, Fa989⟩ := hQ989
            have ne990 : b844 ≠ y989 := Nat.ne_of_lt (Nat.lt_of_lt_of_le f986.lt zq989)
            have f992 := (V885.keep Kq897 (ninS (Ne.symm ne853) nin0))
            have ne991 : b852 ≠ y989 := Nat.ne_of_lt (Nat.lt_of_lt_of_le f992.lt zq989)
            have ne993 : t897 ≠ y989 := Nat.ne_of_lt (Nat.lt_of_lt_of_le Aq897.lt zq989)
            have g994 : n0 ≤ y989 := Nat.le_trans f988 zq989
            have f996 := (f903.trans Kq897 (allS (Or.inr z847) all0))
            have z995 : h0.size ≤ y989 := Nat.le_trans f996.1 zq989
            have N997 := Fr.app Nh909 Nq989
            have R999 := R905.trans hC989
            have sf1000 := CHr.safe hC989 f986.lt sf906
            have sf1001 := CHr.safe hC989 f992.lt sf907
            have sf1002 := CHr.safe hC989 Aq897.lt sf908
            obtain ⟨XR1003, hSR1003, hZ1003, hown1003⟩ := rebS hS0 (Nat.le_trans (Nat.le_trans (Nat.le_trans (Nat.le_trans (Nat.le_trans (Nat.le_trans (Nat.le_trans (Nat.le_refl _) E844.1) E852.1) (Keep.of_wr W863).1) (Keep.of_wr W870).1) (Keep.of_wr W877).1) (Keep.of_wr W884).1) Kq897.1) X989 hS989 hg989 hZ hown
            obtain ⟨Lh1004, Xh1004, Nh1004⟩ := own_hide (cells' := 6) (slots' := 89) XR1003 N997 (Nat.le_of_ble_eq_true rfl) (Nat.le_of_ble_eq_true rfl)
            refine ownSt st989 ?_
            clear st989
            show ownG p.tables e below _ (T989.setTop (fr_law m p0 p1 p2 p3 p4 306 (.val (.int (4 : Int32))) (.val (.int x534)) (.val (.int x537)) (.val (.int x540)) (.val (.int x543)) (.val (.int (own_b (x534 = (46 : Int32))))) (.val (.int (own_b (x537 = (46 : Int32))))) (.val (.int (own_b (x540 = (46 : Int32))))) (.val (.int (own_b (x543 = (46 : Int32))))) (.val (.int (own_b (x543 = (46 : Int32))))) (.val (.ref b844)) (.val (.int (0 : Int32))) .unset [(.ref y989)]))
            refine ownBy (A := T989.setTop (fr_law m p0 p1 p2 p3 p4 317 (.val (.int (4 : Int32))) (.val (.int x534)) (.val (.int x537)) (.val (.int x540)) (.val (.int x543)) (.val (.int (own_b (x534 = (46 : Int32))))) (.val (.int (own_b (x537 = (46 : Int32))))) (.val (.int (own_b (x540 = (46 : Int32))))) (.val (.int (own_b (x543 = (46 : Int32))))) (.val (.int (own_b (x543 = (46 : Int32))))) (.val (.ref b844)) (.val (.int (0 : Int32))) (.val (.ref y989)) [(.ref y989), (.ref b844)])) (fun t kt => ?_) ?_
            · refine XS.astore Xh1004.here hx rfl (hb hby at_306) rfl rfl (l' := #[.val (.int p0), .val (.int p1), .val (.int p2), .val (.int p3), .val (.int p4), .val (.int (4 : Int32)), .val (.int x534), .val (.int x537), .val (.int x540), .val (.int x543), .val (.int (own_b (x534 = (46 : Int32)))), .val (.int (own_b (x537 = (46 : Int32)))), .val (.int (own_b (x540 = (46 : Int32)))), .val (.int (own_b (x543 = (46 : Int32)))), .val (.int (own_b (x543 = (46 : Int32)))), .val (.ref b844), .val (.int (0 : Int32)), .val (.ref y989)]) rfl ?_
              refine XS.aload Xh1004.here hx rfl (hb hby at_308) rfl rfl ?_
              refine XS.ifnullNo Xh1004.here hx rfl (hb hby at_310) rfl ?_
              show Steps p.tables e below (T989.setTop (fr_law m p0 p1 p2 p3 p4 313 (.val (.int (4 : Int32))) (.val (.int x534)) (.val (.int x537)) (.val (.int x540)) (.val (.int x543)) (.val (.int (own_b (x534 = (46 : Int32))))) (.val (.int (own_b (x537 = (46 : Int32))))) (.val (.int (own_b (x540 = (46 : Int32))))) (.val (.int (own_b (x543 = (46 : Int32))))) (.val (.int (own_b (x543 = (46 : Int32))))) (.val (.ref b844)) (.val (.int (0 : Int32))) (.val (.ref y989)) [])) t
              refine XS.aload Xh1004.here hx rfl (hb hby at_313) rfl rfl ?_
              refine XS.aload Xh1004.here hx rfl (hb hby at_315) rfl rfl ?_
              exact kt
            have f1005 := (Nat.le_trans f988 Kq989.1)
            obtain ⟨cq1006, kq1006, q1006a, q1006b, q1006c⟩ := isOf hZ1003 rfl Eq989
            obtain ⟨vv1006, _, ⟨T1006, L1006, k1006, n1006⟩, -, X1006, ⟨Lc1006, hQ1006, l1006, y1006, z1006⟩, st1006⟩ := Xh1004.virtualBack hx (y := (⟨"com/example/boring_outbox/boringoutbox/EventType", "name", "()Ljava/lang/String;"⟩ : MethodName)) (z := (⟨"com/example/boring_outbox/boringoutbox/EventType", "name", "()Ljava/lang/String;"⟩ : MethodName)) hown1003 (mvT hZ1003 (Wd97 hw)) (mvT hZ1003 (Wd98 hw)) (notFace_of_selects (args := #[]) (mvT hZ1003 (Wd100 hw))) (mvT hZ1003 (Wd100 hw)) (mvT hZ1003 (Wd99 hw)) (by decide) (backOf (W := 1) (c_gname l Z a0 hw [] y989 (.ref b844) T989.heap n0 f1005 Fa989 rfl) hZ1003 (Wd101 hw) (Wd40 hw) (by decide) (by decide)) q1006a q1006c (g := (fr_law m p0 p1 p2 p3 p4 317 (.val (.int (4 : Int32))) (.val (.int x534)) (.val (.int x537)) (.val (.int x540)) (.val (.int x543)) (.val (.int (own_b (x534 = (46 : Int32))))) (.val (.int (own_b (x537 = (46 : Int32))))) (.val (.int (own_b (x540 = (46 : Int32))))) (.val (.int (own_b (x543 = (46 : Int32))))) (.val (.int (own_b (x543 = (46 : Int32))))) (.val (.ref b844)) (.val (.int (0 : Int32))) (.val (.ref y989)) [(.ref y989), (.ref b844)])) rfl (by rw [hml]; rfl) (Steps.refl _) (argsL := []) (rest := [(.ref b844)]) (lenOf pd_625 rfl) rfl (by show 2 * 0 + _ ≤ _; exact Nat.le_of_eq rfl) (hb hby at_317) (fun _ _ => ⟨rfl, rfl, (by decide : 6 + 0 ≤ _), (by decide : 89 + 0 ≤ _)⟩)
            dsimp only [Pt.U, Pt.locs, Pt.cells, Pt.slots] at X1006 l1006 y1006 z1006 st1006 hQ1006
            subst l1006 y1006 z1006
            obtain ⟨rfl, Nq1006, Eq1006⟩ := hQ1006
            have N1007 := Fr.app Nh1004 Nq1006
            obtain ⟨Lh1008, Xh1008, Nh1008⟩ := own_hide (cells' := 6) (slots' := 89) X1006 N1007 (Nat.le_of_ble_eq_true rfl) (Nat.le_of_ble_eq_true rfl)
            refine ownSt st1006 ?_
            clear st1006
            show ownG p.tables e below _ (T1006.setTop (fr_law m p0 p1 p2 p3 p4 320 (.val (.int (4 : Int32))) (.val (.int x534)) (.val (.int x537)) (.val (.int x540)) (.val (.int x543)) (.val (.int (own_b (x534 = (46 : Int32))))) (.val (.int (own_b (x537 = (46 : Int32))))) (.val (.int (own_b (x540 = (46 : Int32))))) (.val (.int (own_b (x543 = (46 : Int32))))) (.val (.int (own_b (x543 = (46 : Int32))))) (.val (.ref b844)) (.val (.int (0 : Int32))) (.val (.ref y989)) [(.ref b844), (.ref b844)]))
            have f1010 := (f986.keep Kq989)
            obtain ⟨cq1009, kq1009, q1009a, q1009b, q1009c⟩ := isOf hZ1003 Eq1006 f1010
            obtain ⟨vv1009, _, ⟨T1009, L1009, k1009, n1009⟩, -, X1009, ⟨Lc1009, hQ1009, l1009, y1009, z1009⟩, st1009⟩ := Xh1008.virtualBack hx (y := (⟨"java/lang/String", "equals", "(Ljava/lang/Object;)Z"⟩ : MethodName)) (z := (⟨"java/lang/String", "equals", "(Ljava/lang/Object;)Z"⟩ : MethodName)) hown1003 (mvT hZ1003 (Wd102 hw)) (mvT hZ1003 (Wd103 hw)) (notFace_of_selects (args := #[]) (mvT hZ1003 (Wd105 hw))) (mvT hZ1003 (Wd105 hw)) (mvT hZ1003 (Wd104 hw)) (by decide) (backOf (W := 0) (c_eqs l Z a0 hw [] b844 T989.heap n0 f1005 ) hZ1003 (Wd106 hw) (Wd10 hw) (by decide) (by decide)) q1009a q1009c (g := (fr_law m p0 p1 p2 p3 p4 320 (.val (.int (4 : Int32))) (.val (.int x534)) (.val (.int x537)) (.val (.int x540)) (.val (.int x543)) (.val (.int (own_b (x534 = (46 : Int32))))) (.val (.int (own_b (x537 = (46 : Int32))))) (.val (.int (own_b (x540 = (46 : Int32))))) (.val (.int (own_b (x543 = (46 : Int32))))) (.val (.int (own_b (x543 = (46 : Int32))))) (.val (.ref b844)) (.val (.int (0 : Int32))) (.val (.ref y989)) [(.ref b844), (.ref b844)])) rfl (by rw [hml]; rfl) (Steps.refl _) (argsL := [(.ref b844)]) (rest := []) (lenOf pd_629 rfl) rfl (by show 2 * 0 + _ ≤ _; exact Nat.le_of_eq rfl) (hb hby at_320) (fun _ _ => ⟨rfl, Eq1006, (by decide : 6 + 0 ≤ _), (by decide : 89 + 0 ≤ _)⟩)
            dsimp only [Pt.U, Pt.locs, Pt.cells, Pt.slots] at X1009 l1009 y1009 z1009 st1009 hQ1009
            subst l1009 y1009 z1009
            obtain ⟨rfl, Nq1009, Eq1009⟩ := hQ1009
            have N1011 := Fr.app Nh1008 Nq1009
            obtain ⟨Lh1012, Xh1012, Nh1012⟩ := own_hide (cells' := 6) (slots' := 89) X1009 N1011 (Nat.le_of_ble_eq_true rfl) (Nat.le_of_ble_eq_true rfl)
            refine ownSt st1009 ?_
            clear st1009
            show ownG p.tables e below _ (T1009.setTop (fr_law m p0 p1 p2 p3 p4 323 (.val (.int (4 : Int32))) (.val (.int x534)) (.val (.int x537)) (.val (.int x540)) (.val (.int x543)) (.val (.int (own_b (x534 = (46 : Int32))))) (.val (.int (own_b (x537 = (46 : Int32))))) (.val (.int (own_b (x540 = (46 : Int32))))) (.val (.int (own_b (x543 = (46 : Int32))))) (.val (.int (own_b (x543 = (46 : Int32))))) (.val (.ref b844)) (.val (.int (0 : Int32))) (.val (.ref y989)) [(.int (1 : Int32))]))
            refine ownBy (A := T1009.setTop (fr_law m p0 p1 p2 p3 p4 331 (.val (.int (4 : Int32))) (.val (.int x534)) (.val (.int x537)) (.val (.int x540)) (.val (.int x543)) (.val (.int (own_b (x534 = (46 : Int32))))) (.val (.int (own_b (x537 = (46 : Int32))))) (.val (.int (own_b (x540 = (46 : Int32))))) (.val (.int (own_b (x543 = (46 : Int32))))) (.val (.int (own_b (x543 = (46 : Int32))))) (.val (.ref b844)) (.val (.int (0 : Int32))) (.val (.ref y989)) [(.int (1 : Int32))])) (fun t kt => ?_) ?_
            · refine XS.ifNo Xh1012.here hx rfl (hb hby at_323) rfl ((if0 _ _).trans (feq ((by decide) : ¬ ((1 : Int32) = (0 : Int32)))).1) ?_
              refine XS.iconst Xh1012.here hx rfl (hb hby at_326) ?_
              refine XS.goto Xh1012.here hx rfl (pc0 := 327) (pc' := 331) rfl (hb hby at_327) (by decide) (by decide) ?_
              exact kt
            refine ownRetH Xh1012 hSR1003 (by rw [Eq1009]; exact (Nat.le_refl _)) Bd.notSynchronized (v := some (.int (nar .boolean (1 : Int32)))) (fun h => by rw [Bd.returns] at h; cases h) ?_ (R999.trans ((by rw [Eq1009]; exact CHv.at Xh1012 hZ1003 hEL R999.1))) (Nat.le_of_ble_eq_true rfl) (Nat.le_of_ble_eq_true rfl) (fun fs hr => retN Xh1012 hx (t := .boolean) Bd.returns (by simp) (hb hby at_331) hr)
            show (Q_law Z p0 p1 p2 p3 p4 G1 G3 h0 n0) (some (.int (nar .boolean (1 : Int32)))) T1009.heap _
            rw [Eq1009]
            exact ⟨rfl, Nh1012⟩
set_option maxRecDepth 65536 in
set_option maxHeartbeats 40000000 in
theorem comes_1 {Post : Tables → Env → Array Value → State → Outcome → State → Prop} (hpost : ∀ tb e args s v u, (limb_1_1.after args s (.returned v) u = true ∧ limb_1_2.after args s (.returned v) u = true ∧ True) → ReturnedEndW s (.returned v) u (Jvm.fieldLocs frame_1_writes args s ++ Jvm.arrayLocs frame_1_arrays args s ++ Jvm.staticLocs frame_1_statics s) 24 1152 → Post tb e args s (.returned v) u) :
    ArmFor flags0 classFile x code maxLocals ret World_1 tables_1 room_1 Calls_1 rest_1 Pre_1 Post := by
  intro l hfl _ _ p e ha hc hk s m args below hf hA hF happ hP
  obtain ⟨hcalls, hrest, hpre⟩ := hP
  obtain ⟨-, -, -, hnamed, -, -, -, hat⟩ := (Spec.applies_iff hf).mp happ
  obtain ⟨hg, hn⟩ := and_e (Cond.before_iff.mp (show (Jvm.Cond.and given_1 narrow_1).before args s = true from hpre))
  obtain ⟨g1014, g1015⟩ := and_e hg
  obtain ⟨g1016, g1017⟩ := and_e g1015
  obtain ⟨g1018, g1019⟩ := and_e g1017
  obtain ⟨g1020, g1021⟩ := and_e g1019
  obtain ⟨g1022, g1023⟩ := and_e g1021
  obtain ⟨w0, w1, w2, w3, w4, rfl⟩ : ∃ w0 w1 w2 w3 w4 : Value, args = #[w0, w1, w2, w3, w4] := by
    have hs : args.size = 5 := by simpa [Cond.value, given_1] using g1014
    obtain ⟨L⟩ := args
    match L, hs with
    | [w0, w1, w2, w3, w4], _ => exact ⟨w0, w1, w2, w3, w4, rfl⟩
  have hw := fun d (hd : d ∈ tables_1) => atoms_spec (ws := Jvm.Cond.code x code maxLocals ret :: tables_1) hat d (List.mem_cons_of_mem _ hd)
  have hfit : Fit s := fun {y c} hc i hi => by
    obtain ⟨ha, rfl⟩ := Array.getElem?_eq_some_iff.mp hc
    have q := List.all_eq_true.mp ((Array.all_eq_true_iff_forall_mem.mp hF) _ (Array.getElem_mem ha)) i (List.mem_range.mpr hi)
    simpa [Array.getElem?_eq_getElem hi] using q
  obtain ⟨hsets, hown0⟩ := atoms_of _ (rest_1_c_eq ▸ (show rest_1_c.before _ s = true from hrest))
  have hr0 := Cond.before_iff.mp hown0
  obtain ⟨i0, ei0⟩ := is_v g1016
  obtain rfl : w0 = (.int i0) := Option.some.inj ei0
  obtain ⟨i1, ei1⟩ := is_v g1018
  obtain rfl : w1 = (.int i1) := Option.some.inj ei1
  obtain ⟨i2, ei2⟩ := is_v g1020
  obtain rfl : w2 = (.int i2) := Option.some.inj ei2
  obtain ⟨i3, ei3⟩ := is_v g1022
  obtain rfl : w3 = (.int i3) := Option.some.inj ei3
  obtain ⟨i4, ei4⟩ := is_v g1023
  obtain rfl : w4 = (.int i4) := Option.some.inj ei4
  obtain ⟨G1, eG1⟩ := is_v (Cond.before_iff.mp (hsets _ (List.mem_of_getElem? (i := 1) rfl)))
  have O2 := Sta.start eG1 (Or.inl (hsets _ (List.mem_of_getElem? (i := 0) rfl)))
  have P5 : ¬ (G1 = (0 : Int32)) := own_nz eG1 (Cond.before_iff.mp (hsets _ (List.mem_of_getElem? (i := 2) rfl)))
  obtain ⟨G3, eG3, rG3⟩ := isR_v (Cond.before_iff.mp (hsets _ (List.mem_of_getElem? (i := 8) rfl)))
  have O4 := Sta.start eG3 (Or.inl (hsets _ (List.mem_of_getElem? (i := 7) rfl)))
  have hCH : CHv s ownEL s.vm s.heap := fun _ hp => nomatch hp
  obtain ⟨n, o, h1, h2, h3, _, L, rfl, ⟨rfl, N⟩, -, hq⟩ := c_law l s _ hw tables_1 i0 i1 i2 i3 i4 G1 G3 s.heap s.heap.size (Nat.le_refl _) O2 P5 (Old.start s) O4 rG3 p e ha hc hk s m _ below hf ((Spec.applies_iff_loose hf).mp happ).1 ⟨rfl, State.Warmed39.refl s, rfl, hCH⟩ trivial
  refine ⟨n, _, h1, h2, h3, hpost _ _ _ _ _ _ ⟨Cond.after_iff.mpr rfl, Cond.after_iff.mpr (eq_i res_at (Term.int_eval (1)) rfl), trivial⟩ ⟨hq.1, hq.2.1, hq.2.2.1, (hq.2.2.2.sift fun y hy => Or.inr (N y hy)).mono (by decide) (by decide)⟩⟩
theorem main_1_1 : Claimed_1_1 := comes_1 fun _ _ _ _ _ _ h hF => ⟨h.1, hF⟩
theorem main_1_2 : Claimed_1_2 := comes_1 fun _ _ _ _ _ _ h hF => ⟨h.2.1, hF⟩
end Jvm.Pilot.@@N@@
namespace Jvm.Pilot.@@N@@
open Jvm Jvm.ClassFile Sem Op Lib Jvm.Free Jvm.Stand Jvm.Pilot.@@N@@.Jvm.D
/-! MADE BY PROGRAM (witnessworld.py) out of the Statement's table words and the real class files: 21 classes; the members and pool entries that the words name. The judged class is class 1, her method 3. -/
namespace start1
open Jvm.ClassFile
def u (s : String) : CpInfo := .utf8 (stringToUtf16 s)
/-- a pool by its gaps: so many unusable entries, then the entry; so many at the end -/
def gap : Nat → List CpInfo → List CpInfo
  | 0, r => r
  | n + 1, r => .unusable :: gap n r
def poolList (es : List (Nat × CpInfo)) (last : Nat) : List CpInfo := es.foldr (fun e r => gap e.1 (e.2 :: r)) (gap last [])
def pool (es : List (Nat × CpInfo)) (last : Nat) : Array CpInfo := ⟨poolList es last⟩
def fileOf (pool : Array CpInfo) (this : Nat) (attrs : Array Attribute := #[]) (ms : Array MethodInfo := #[]) (fl : Nat := 33) (sup : Nat := 0) (ifs : Array Nat := #[]) (fds : Array FieldInfo := #[]) : ClassFile where
  minorVersion := 0
  majorVersion := 65
  constantPool := pool
  accessFlags := fl
  thisClass := this
  superClass := sup
  interfaces := ifs
  fields := fds
  methods := ms
  attributes := attrs
def plain (name : String) (sup : Option ClassId) : Class where
  name := name
  kind := .ordinary
  loader := none
  accessFlags := 33
  super := sup
  interfaces := #[]
  cf := none
  fields := #[]
  methods := #[]
  instanceTypes := #[]
  staticTypes := #[]
  resolved := #[]
  callSites := []
  init := .initialized
  statics := none
  mirror := none

def pool0 : Array CpInfo := pool [(5, u "<init>"), (0, u "()V"), (1, .class_ 10), (1, u "java/lang/Object")] 113

def k0c0 : Code := { maxStack := 0, maxLocals := 1, code := object_method_1_code, exceptionTable := #[], attributes := #[] }
def k0m0 : Method := { name := "<init>", desc := "()V", sig := { parameters := [], returnType := none }, accessFlags := 1, code := some k0c0 }
/-- java/lang/Object -/
def k0 : Class := { plain "java/lang/Object" none with
  accessFlags := 33
  interfaces := #[]
  cf := some (fileOf pool0 8 #[] #[{ accessFlags := 1, nameIndex := 5, descriptorIndex := 6, attributes := #[] }] 33 0 #[] #[])
  fields := #[]
  methods := #[k0m0]
  instanceTypes := #[]
  staticTypes := #[]
  resolved := Array.replicate 124 none
  statics := none }

def pool1 : Array CpInfo := pool [(2, .class_ 4), (1, u "java/lang/Object"), (0, u "<init>"), (0, u "()V"), (0, .integer 2147483647), (0, .methodref 9 10), (0, .class_ 11), (0, .nameAndType 12 13), (0, u "com/example/boring_outbox/boringoutbox/EventTypeOfPinLaw"), (0, u "idChar"), (0, u "(I)C"), (0, .methodref 9 15), (0, .nameAndType 16 13), (0, u "draw"), (0, .class_ 18), (0, u "java/lang/String"), (0, .methodref 17 20), (0, .nameAndType 5 21), (0, u "([C)V"), (0, .methodref 23 24), (0, .class_ 25), (0, .nameAndType 26 27), (0, u "com/example/boring_outbox/boringoutbox/EventType"), (0, u "of"), (0, u "(Ljava/lang/String;)Lcom/example/boring_outbox/boringoutbox/EventType;"), (0, .methodref 23 29), (0, .nameAndType 30 31), (0, u "name"), (0, u "()Ljava/lang/String;"), (0, .methodref 17 33), (0, .nameAndType 34 35), (0, u "equals"), (0, u "(Ljava/lang/Object;)Z"), (3, u "law"), (0, u "(IIIII)Z")] 2

def k1m0 : Method := { name := "<init>", desc := "()V", sig := { parameters := [], returnType := none }, accessFlags := 2, code := none }
def k1c1 : Code := { maxStack := 3, maxLocals := 1, code := method_2_code, exceptionTable := #[], attributes := #[] }
def k1m1 : Method := { name := "idChar", desc := "(I)C", sig := { parameters := [.int], returnType := some .char }, accessFlags := 10, code := some k1c1 }
def k1c2 : Code := { maxStack := 2, maxLocals := 1, code := method_3_code, exceptionTable := #[], attributes := #[] }
def k1m2 : Method := { name := "draw", desc := "(I)C", sig := { parameters := [.int], returnType := some .char }, accessFlags := 10, code := some k1c2 }
def k1c3 : Code := { maxStack := 6, maxLocals := 18, code := code, exceptionTable := #[], attributes := #[] }
def k1m3 : Method := { name := "law", desc := "(IIIII)Z", sig := { parameters := [.int, .int, .int, .int, .int], returnType := some .boolean }, accessFlags := 9, code := some k1c3 }
/-- com/example/boring_outbox/boringoutbox/EventTypeOfPinLaw -/
def k1 : Class := { plain "com/example/boring_outbox/boringoutbox/EventTypeOfPinLaw" (some 0) with
  accessFlags := 49
  interfaces := #[]
  cf := some (fileOf pool1 9 #[] #[{ accessFlags := 2, nameIndex := 5, descriptorIndex := 6, attributes := #[] }, { accessFlags := 10, nameIndex := 12, descriptorIndex := 13, attributes := #[] }, { accessFlags := 10, nameIndex := 16, descriptorIndex := 13, attributes := #[] }, { accessFlags := 9, nameIndex := 39, descriptorIndex := 40, attributes := #[] }] 49 2 #[] #[])
  fields := #[]
  methods := #[k1m0, k1m1, k1m2, k1m3]
  instanceTypes := #[]
  staticTypes := #[]
  resolved := Array.replicate 43 none
  statics := none }

def pool2 : Array CpInfo := pool [(1, .class_ 2), (0, u "java/io/Serializable"), (0, .class_ 4), (0, u "java/lang/Object")] 2

/-- java/io/Serializable -/
def k2 : Class := { plain "java/io/Serializable" (some 0) with
  accessFlags := 1537
  interfaces := #[]
  cf := some (fileOf pool2 1 #[] #[] 1537 3 #[] #[])
  fields := #[]
  methods := #[]
  instanceTypes := #[]
  staticTypes := #[]
  resolved := Array.replicate 7 none
  statics := none }

def pool3 : Array CpInfo := pool [(1, .class_ 2), (0, u "java/lang/Comparable"), (0, .class_ 4), (0, u "java/lang/Object")] 7

/-- java/lang/Comparable -/
def k3 : Class := { plain "java/lang/Comparable" (some 0) with
  accessFlags := 1537
  interfaces := #[]
  cf := some (fileOf pool3 1 #[] #[] 1537 3 #[] #[])
  fields := #[]
  methods := #[]
  instanceTypes := #[]
  staticTypes := #[]
  resolved := Array.replicate 12 none
  statics := none }

def pool4 : Array CpInfo := pool [(2, .class_ 4), (1, u "java/lang/CharSequence"), (42, .class_ 48), (0, u "java/lang/CharSequence$1CodePointIterator"), (10, .class_ 60), (0, u "java/lang/CharSequence$1CharIterator"), (5, .class_ 67), (0, u "java/lang/Object")] 63

/-- java/lang/CharSequence -/
def k4 : Class := { plain "java/lang/CharSequence" (some 0) with
  accessFlags := 1537
  interfaces := #[]
  cf := some (fileOf pool4 2 #[.nestMembers #[47, 59]] #[] 1537 66 #[] #[])
  fields := #[]
  methods := #[]
  instanceTypes := #[]
  staticTypes := #[]
  resolved := Array.replicate 131 none
  statics := none }

def pool5 : Array CpInfo := pool [(1, .class_ 2), (0, u "java/lang/constant/Constable"), (0, .class_ 4), (0, u "java/lang/Object")] 6

/-- java/lang/constant/Constable -/
def k5 : Class := { plain "java/lang/constant/Constable" (some 0) with
  accessFlags := 1537
  interfaces := #[]
  cf := some (fileOf pool5 1 #[] #[] 1537 3 #[] #[])
  fields := #[]
  methods := #[]
  instanceTypes := #[]
  staticTypes := #[]
  resolved := Array.replicate 11 none
  statics := none }

def pool6 : Array CpInfo := pool [(1, .class_ 2), (0, u "java/lang/constant/ConstantDesc"), (0, .class_ 4), (0, u "java/lang/Object")] 32

/-- java/lang/constant/ConstantDesc -/
def k6 : Class := { plain "java/lang/constant/ConstantDesc" (some 0) with
  accessFlags := 1537
  interfaces := #[]
  cf := some (fileOf pool6 1 #[] #[] 1537 3 #[] #[])
  fields := #[]
  methods := #[]
  instanceTypes := #[]
  staticTypes := #[]
  resolved := Array.replicate 37 none
  statics := none }

def pool7 : Array CpInfo := pool [(1, .methodref 2 3), (0, .class_ 4), (0, .nameAndType 5 6), (0, u "java/lang/Object"), (0, u "<init>"), (0, u "()V"), (2, .fieldref 10 11), (0, .class_ 12), (0, .nameAndType 13 14), (0, u "java/lang/String"), (0, u "value"), (0, u "[B"), (0, .fieldref 10 16), (0, .nameAndType 17 18), (0, u "coder"), (0, u "B"), (2, u "hash"), (0, u "I"), (2, u "hashIsZero"), (0, u "Z"), (0, .methodref 10 28), (0, .nameAndType 5 29), (0, u "([CIILjava/lang/Void;)V"), (8, .fieldref 10 39), (0, .nameAndType 40 26), (0, u "COMPACT_STRINGS"), (1, .class_ 44), (1, u "java/lang/StringUTF16"), (0, u "compress"), (1, .methodref 42 48), (0, .nameAndType 49 50), (0, u "coderFromArrayLen"), (0, u "([BI)B"), (56, .class_ 109), (1, u "java/lang/StringLatin1"), (32, u "()Z"), (34, .methodref 42 178), (0, .nameAndType 45 179), (0, u "([CII)[B"), (154, u "()I"), (0, .methodref 10 336), (0, .nameAndType 17 337), (0, u "()B"), (25, u "([BI)C"), (27, u "(II)V"), (35, u "(I)C"), (64, .methodref 10 493), (0, .nameAndType 494 142), (0, u "isLatin1"), (0, .methodref 107 496), (0, .nameAndType 497 363), (0, u "charAt"), (3, u "checkIndex"), (5, u "length"), (35, u "equals"), (29, u "(Ljava/lang/Object;)Z"), (1, .class_ 576), (0, u "java/lang/CharSequence"), (22, u "CASE_INSENSITIVE_ORDER"), (0, u "Ljava/util/Comparator;"), (91, u "isEmpty"), (317, u "([C)V"), (42, .fieldref 1054 1055), (0, .class_ 1056), (0, .nameAndType 1057 1058), (0, u "jdk/internal/util/Preconditions"), (0, u "SIOOBE_FORMATTER"), (0, u "Ljava/util/function/BiFunction;"), (0, .methodref 1054 1060), (0, .nameAndType 501 1061), (0, u "(IILjava/util/function/BiFunction;)I"), (39, u "serialPersistentFields"), (0, u "[Ljava/io/ObjectStreamField;"), (0, .class_ 1104), (0, u "java/lang/String$CaseInsensitiveComparator"), (1, .class_ 1107), (0, u "java/io/Serializable"), (0, .class_ 1109), (0, u "java/lang/Comparable"), (0, .class_ 1111), (0, u "java/lang/constant/Constable"), (0, .class_ 1113), (0, u "java/lang/constant/ConstantDesc"), (2, u "serialVersionUID"), (0, u "J"), (3, u "REPL"), (0, u "C"), (2, u "LATIN1"), (1, u "UTF16")] 323

def k7m0 : Method := { name := "<init>", desc := "()V", sig := { parameters := [], returnType := none }, accessFlags := 1, code := none }
def k7c1 : Code := { maxStack := 5, maxLocals := 2, code := jdk_42_method_3_code, exceptionTable := #[], attributes := #[] }
def k7m1 : Method := { name := "<init>", desc := "([C)V", sig := { parameters := [(.array .char)], returnType := none }, accessFlags := 1, code := some k7c1 }
def k7c2 : Code := { maxStack := 2, maxLocals := 1, code := jdk_42_method_54_code, exceptionTable := #[], attributes := #[] }
def k7m2 : Method := { name := "length", desc := "()I", sig := { parameters := [], returnType := some .int }, accessFlags := 1, code := some k7c2 }
def k7c3 : Code := { maxStack := 1, maxLocals := 1, code := jdk_42_method_55_code, exceptionTable := #[], attributes := #[] }
def k7m3 : Method := { name := "isEmpty", desc := "()Z", sig := { parameters := [], returnType := some .boolean }, accessFlags := 1, code := some k7c3 }
def k7c4 : Code := { maxStack := 2, maxLocals := 2, code := jdk_42_method_56_code, exceptionTable := #[], attributes := #[] }
def k7m4 : Method := { name := "charAt", desc := "(I)C", sig := { parameters := [.int], returnType := some .char }, accessFlags := 1, code := some k7c4 }
def k7c5 : Code := { maxStack := 2, maxLocals := 3, code := jdk_42_method_66_code, exceptionTable := #[], attributes := #[] }
def k7m5 : Method := { name := "equals", desc := "(Ljava/lang/Object;)Z", sig := { parameters := [(.object "java/lang/Object")], returnType := some .boolean }, accessFlags := 1, code := some k7c5 }
def k7c6 : Code := { maxStack := 4, maxLocals := 6, code := jdk_42_method_149_code, exceptionTable := #[], attributes := #[] }
def k7m6 : Method := { name := "<init>", desc := "([CIILjava/lang/Void;)V", sig := { parameters := [(.array .char), .int, .int, (.object "java/lang/Void")], returnType := none }, accessFlags := 2, code := some k7c6 }
def k7c7 : Code := { maxStack := 1, maxLocals := 1, code := jdk_42_method_152_code, exceptionTable := #[], attributes := #[] }
def k7m7 : Method := { name := "coder", desc := "()B", sig := { parameters := [], returnType := some .byte }, accessFlags := 0, code := some k7c7 }
def k7c8 : Code := { maxStack := 1, maxLocals := 1, code := jdk_42_method_154_code, exceptionTable := #[], attributes := #[] }
def k7m8 : Method := { name := "isLatin1", desc := "()Z", sig := { parameters := [], returnType := some .boolean }, accessFlags := 0, code := some k7c8 }
def k7c9 : Code := { maxStack := 3, maxLocals := 2, code := jdk_42_method_155_code, exceptionTable := #[], attributes := #[] }
def k7m9 : Method := { name := "checkIndex", desc := "(II)V", sig := { parameters := [.int, .int], returnType := none }, accessFlags := 8, code := some k7c9 }
/-- java/lang/String -/
def k7 : Class := { plain "java/lang/String" (some 0) with
  accessFlags := 49
  interfaces := #[2, 3, 4, 5, 6]
  cf := some (fileOf pool7 10 #[.nestMembers #[1103]] #[{ accessFlags := 1, nameIndex := 5, descriptorIndex := 6, attributes := #[] }, { accessFlags := 1, nameIndex := 5, descriptorIndex := 1010, attributes := #[] }, { accessFlags := 1, nameIndex := 507, descriptorIndex := 334, attributes := #[] }, { accessFlags := 1, nameIndex := 692, descriptorIndex := 142, attributes := #[] }, { accessFlags := 1, nameIndex := 497, descriptorIndex := 427, attributes := #[] }, { accessFlags := 1, nameIndex := 543, descriptorIndex := 573, attributes := #[] }, { accessFlags := 2, nameIndex := 5, descriptorIndex := 29, attributes := #[] }, { accessFlags := 0, nameIndex := 17, descriptorIndex := 337, attributes := #[] }, { accessFlags := 0, nameIndex := 494, descriptorIndex := 142, attributes := #[] }, { accessFlags := 8, nameIndex := 501, descriptorIndex := 391, attributes := #[] }] 49 2 #[1106, 1108, 575, 1110, 1112] #[{ accessFlags := 18, nameIndex := 13, descriptorIndex := 14, attributes := #[] }, { accessFlags := 18, nameIndex := 17, descriptorIndex := 18, attributes := #[] }, { accessFlags := 2, nameIndex := 21, descriptorIndex := 22, attributes := #[] }, { accessFlags := 2, nameIndex := 25, descriptorIndex := 26, attributes := #[] }, { accessFlags := 26, nameIndex := 1116, descriptorIndex := 1117, attributes := #[] }, { accessFlags := 24, nameIndex := 40, descriptorIndex := 26, attributes := #[] }, { accessFlags := 26, nameIndex := 1101, descriptorIndex := 1102, attributes := #[] }, { accessFlags := 26, nameIndex := 1121, descriptorIndex := 1122, attributes := #[] }, { accessFlags := 25, nameIndex := 599, descriptorIndex := 600, attributes := #[] }, { accessFlags := 24, nameIndex := 1125, descriptorIndex := 18, attributes := #[] }, { accessFlags := 24, nameIndex := 1127, descriptorIndex := 18, attributes := #[] }])
  fields := #[{ name := "value", type := (.array .byte), accessFlags := 18, slot := 0, constantValue := 0 }, { name := "coder", type := .byte, accessFlags := 18, slot := 1, constantValue := 0 }, { name := "hash", type := .int, accessFlags := 2, slot := 2, constantValue := 0 }, { name := "hashIsZero", type := .boolean, accessFlags := 2, slot := 3, constantValue := 0 }, { name := "serialVersionUID", type := .long, accessFlags := 26, slot := 0, constantValue := 0 }, { name := "COMPACT_STRINGS", type := .boolean, accessFlags := 24, slot := 1, constantValue := 0 }, { name := "serialPersistentFields", type := (.array (.object "java/io/ObjectStreamField")), accessFlags := 26, slot := 2, constantValue := 0 }, { name := "REPL", type := .char, accessFlags := 26, slot := 3, constantValue := 0 }, { name := "CASE_INSENSITIVE_ORDER", type := (.object "java/util/Comparator"), accessFlags := 25, slot := 4, constantValue := 0 }, { name := "LATIN1", type := .byte, accessFlags := 24, slot := 5, constantValue := 0 }, { name := "UTF16", type := .byte, accessFlags := 24, slot := 6, constantValue := 0 }]
  methods := #[k7m0, k7m1, k7m2, k7m3, k7m4, k7m5, k7m6, k7m7, k7m8, k7m9]
  instanceTypes := #[(.array .byte), .byte, .int, .boolean]
  staticTypes := #[.long, .boolean, (.array (.object "java/io/ObjectStreamField")), .char, (.object "java/util/Comparator"), .byte, .byte]
  resolved := Array.replicate 1451 none
  statics := some 0 }

def pool8 : Array CpInfo := pool [(6, .class_ 8), (1, u "java/lang/Object"), (0, u "<init>"), (0, u "()V"), (1, .class_ 14), (1, u "java/lang/StringUTF16"), (31, u "$assertionsDisabled"), (0, u "Z"), (13, u "HI_BYTE_SHIFT"), (0, u "I"), (2, u "LO_BYTE_SHIFT"), (49, .methodref 12 116), (0, .nameAndType 117 118), (0, u "compress"), (0, u "([CI[BII)I"), (3, u "([CII)[B"), (138, u "coderFromArrayLen"), (0, u "([BI)B"), (106, .class_ 371), (1, u "java/lang/StringUTF16$LinesSpliterator"), (58, u "MAX_LENGTH"), (196, .class_ 628), (0, u "java/lang/StringUTF16$CodePointsSpliterator"), (0, .class_ 630), (0, u "java/lang/StringUTF16$CharsSpliterator")] 4

def k8m0 : Method := { name := "<init>", desc := "()V", sig := { parameters := [], returnType := none }, accessFlags := 0, code := none }
def k8c1 : Code := { maxStack := 2, maxLocals := 2, code := jdk_52_method_15_code, exceptionTable := #[], attributes := #[] }
def k8m1 : Method := { name := "coderFromArrayLen", desc := "([BI)B", sig := { parameters := [(.array .byte), .int], returnType := some .byte }, accessFlags := 8, code := some k8c1 }
def k8c2 : Code := { maxStack := 5, maxLocals := 6, code := jdk_52_method_16_code, exceptionTable := #[], attributes := #[] }
def k8m2 : Method := { name := "compress", desc := "([CII)[B", sig := { parameters := [(.array .char), .int, .int], returnType := some (.array .byte) }, accessFlags := 9, code := some k8c2 }
def k8c3 : Code := { maxStack := 3, maxLocals := 7, code := jdk_52_method_21_code, exceptionTable := #[], attributes := #[] }
def k8m3 : Method := { name := "compress", desc := "([CI[BII)I", sig := { parameters := [(.array .char), .int, (.array .byte), .int, .int], returnType := some .int }, accessFlags := 9, code := some k8c3 }
/-- java/lang/StringUTF16 -/
def k8 : Class := { plain "java/lang/StringUTF16" (some 0) with
  accessFlags := 48
  interfaces := #[]
  cf := some (fileOf pool8 12 #[.nestMembers #[627, 629, 369]] #[{ accessFlags := 0, nameIndex := 9, descriptorIndex := 10, attributes := #[] }, { accessFlags := 8, nameIndex := 261, descriptorIndex := 262, attributes := #[] }, { accessFlags := 9, nameIndex := 117, descriptorIndex := 122, attributes := #[] }, { accessFlags := 9, nameIndex := 117, descriptorIndex := 118, attributes := #[] }] 48 6 #[] #[{ accessFlags := 26, nameIndex := 61, descriptorIndex := 62, attributes := #[] }, { accessFlags := 26, nameIndex := 65, descriptorIndex := 62, attributes := #[] }, { accessFlags := 24, nameIndex := 430, descriptorIndex := 62, attributes := #[] }, { accessFlags := 4120, nameIndex := 46, descriptorIndex := 47, attributes := #[] }])
  fields := #[{ name := "HI_BYTE_SHIFT", type := .int, accessFlags := 26, slot := 0, constantValue := 0 }, { name := "LO_BYTE_SHIFT", type := .int, accessFlags := 26, slot := 1, constantValue := 0 }, { name := "MAX_LENGTH", type := .int, accessFlags := 24, slot := 2, constantValue := 0 }, { name := "$assertionsDisabled", type := .boolean, accessFlags := 4120, slot := 3, constantValue := 0 }]
  methods := #[k8m0, k8m1, k8m2, k8m3]
  instanceTypes := #[]
  staticTypes := #[.int, .int, .int, .boolean]
  resolved := Array.replicate 635 none
  statics := none }

def pool9 : Array CpInfo := pool [(1, .methodref 2 3), (0, .class_ 4), (0, .nameAndType 5 6), (0, u "java/lang/Object"), (0, u "<init>"), (0, u "()V"), (0, .fieldref 8 9), (0, .class_ 10), (0, .nameAndType 11 12), (0, u "com/example/boring_outbox/boringoutbox/EventType"), (0, u "name"), (0, u "Ljava/lang/String;"), (0, .string 14), (0, u "event type is null"), (0, .methodref 16 17), (0, .class_ 18), (0, .nameAndType 19 20), (0, u "java/util/Objects"), (0, u "requireNonNull"), (0, u "(Ljava/lang/Object;Ljava/lang/String;)Ljava/lang/Object;"), (0, .methodref 22 23), (0, .class_ 24), (0, .nameAndType 25 26), (0, u "java/lang/String"), (0, u "isEmpty"), (0, u "()Z"), (5, .nameAndType 5 33), (0, u "(Ljava/lang/String;)V"), (0, .methodref 22 35), (0, .nameAndType 36 37), (0, u "length"), (0, u "()I"), (4, .methodref 22 43), (0, .nameAndType 44 45), (0, u "charAt"), (0, u "(I)C"), (5, .methodref 8 52), (0, .nameAndType 53 54), (0, u "isIdentifierCharacter"), (0, u "(C)Z"), (16, .methodref 8 32), (16, u "MAX_LENGTH"), (0, u "I"), (2, u "RULE"), (4, u "of"), (0, u "(Ljava/lang/String;)Lcom/example/boring_outbox/boringoutbox/EventType;"), (1, u "()Ljava/lang/String;")] 22

def k9c0 : Code := { maxStack := 2, maxLocals := 2, code := prog_15_method_1_code, exceptionTable := #[], attributes := #[] }
def k9m0 : Method := { name := "<init>", desc := "(Ljava/lang/String;)V", sig := { parameters := [(.object "java/lang/String")], returnType := none }, accessFlags := 2, code := some k9c0 }
def k9c1 : Code := { maxStack := 7, maxLocals := 3, code := prog_15_method_2_code, exceptionTable := #[], attributes := #[] }
def k9m1 : Method := { name := "of", desc := "(Ljava/lang/String;)Lcom/example/boring_outbox/boringoutbox/EventType;", sig := { parameters := [(.object "java/lang/String")], returnType := some (.object "com/example/boring_outbox/boringoutbox/EventType") }, accessFlags := 9, code := some k9c1 }
def k9c2 : Code := { maxStack := 1, maxLocals := 1, code := prog_15_method_3_code, exceptionTable := #[], attributes := #[] }
def k9m2 : Method := { name := "name", desc := "()Ljava/lang/String;", sig := { parameters := [], returnType := some (.object "java/lang/String") }, accessFlags := 1, code := some k9c2 }
def k9c3 : Code := { maxStack := 2, maxLocals := 1, code := prog_15_method_7_code, exceptionTable := #[], attributes := #[] }
def k9m3 : Method := { name := "isIdentifierCharacter", desc := "(C)Z", sig := { parameters := [.char], returnType := some .boolean }, accessFlags := 10, code := some k9c3 }
/-- com/example/boring_outbox/boringoutbox/EventType -/
def k9 : Class := { plain "com/example/boring_outbox/boringoutbox/EventType" (some 0) with
  accessFlags := 49
  interfaces := #[]
  cf := some (fileOf pool9 8 #[] #[{ accessFlags := 2, nameIndex := 5, descriptorIndex := 33, attributes := #[] }, { accessFlags := 9, nameIndex := 97, descriptorIndex := 98, attributes := #[] }, { accessFlags := 1, nameIndex := 11, descriptorIndex := 100, attributes := #[] }, { accessFlags := 10, nameIndex := 53, descriptorIndex := 54, attributes := #[] }] 49 2 #[] #[{ accessFlags := 25, nameIndex := 88, descriptorIndex := 89, attributes := #[] }, { accessFlags := 26, nameIndex := 92, descriptorIndex := 12, attributes := #[] }, { accessFlags := 18, nameIndex := 11, descriptorIndex := 12, attributes := #[] }])
  fields := #[{ name := "MAX_LENGTH", type := .int, accessFlags := 25, slot := 0, constantValue := 0 }, { name := "RULE", type := (.object "java/lang/String"), accessFlags := 26, slot := 1, constantValue := 0 }, { name := "name", type := (.object "java/lang/String"), accessFlags := 18, slot := 0, constantValue := 0 }]
  methods := #[k9m0, k9m1, k9m2, k9m3]
  instanceTypes := #[(.object "java/lang/String")]
  staticTypes := #[.int, (.object "java/lang/String")]
  resolved := Array.replicate 123 none
  statics := none }

def pool10 : Array CpInfo := pool [(2, .class_ 4), (1, u "java/lang/Object"), (0, u "<init>"), (0, u "()V"), (35, .class_ 44), (1, u "java/util/Objects"), (0, u "requireNonNull"), (48, u "(Ljava/lang/Object;Ljava/lang/String;)Ljava/lang/Object;")] 89

def k10m0 : Method := { name := "<init>", desc := "()V", sig := { parameters := [], returnType := none }, accessFlags := 2, code := none }
def k10c1 : Code := { maxStack := 3, maxLocals := 2, code := jdk_31_method_11_code, exceptionTable := #[], attributes := #[] }
def k10m1 : Method := { name := "requireNonNull", desc := "(Ljava/lang/Object;Ljava/lang/String;)Ljava/lang/Object;", sig := { parameters := [(.object "java/lang/Object"), (.object "java/lang/String")], returnType := some (.object "java/lang/Object") }, accessFlags := 9, code := some k10c1 }
/-- java/util/Objects -/
def k10 : Class := { plain "java/util/Objects" (some 0) with
  accessFlags := 49
  interfaces := #[]
  cf := some (fileOf pool10 42 #[] #[{ accessFlags := 2, nameIndex := 5, descriptorIndex := 6, attributes := #[] }, { accessFlags := 9, nameIndex := 45, descriptorIndex := 94, attributes := #[] }] 49 2 #[] #[])
  fields := #[]
  methods := #[k10m0, k10m1]
  instanceTypes := #[]
  staticTypes := #[]
  resolved := Array.replicate 184 none
  statics := none }

def pool11 : Array CpInfo := pool [(1, .class_ 2), (0, u "java/lang/String"), (1, .class_ 6), (1, u "java/lang/Object"), (0, u "<init>"), (0, u "()V"), (0, .methodref 1 10), (0, .nameAndType 11 12), (0, u "checkIndex"), (0, u "(II)V"), (1, .class_ 16), (1, u "java/lang/StringLatin1"), (36, u "([BI)C"), (67, u "$assertionsDisabled"), (0, u "Z"), (98, .class_ 223), (1, u "java/lang/StringLatin1$LinesSpliterator"), (28, u "charAt"), (137, .class_ 391), (0, u "java/lang/StringLatin1$CharsSpliterator")] 3

def k11m0 : Method := { name := "<init>", desc := "()V", sig := { parameters := [], returnType := none }, accessFlags := 0, code := none }
def k11c1 : Code := { maxStack := 2, maxLocals := 2, code := jdk_43_method_2_code, exceptionTable := #[], attributes := #[] }
def k11m1 : Method := { name := "charAt", desc := "([BI)C", sig := { parameters := [(.array .byte), .int], returnType := some .char }, accessFlags := 9, code := some k11c1 }
/-- java/lang/StringLatin1 -/
def k11 : Class := { plain "java/lang/StringLatin1" (some 0) with
  accessFlags := 48
  interfaces := #[]
  cf := some (fileOf pool11 14 #[.nestMembers #[390, 221]] #[{ accessFlags := 0, nameIndex := 7, descriptorIndex := 8, attributes := #[] }, { accessFlags := 9, nameIndex := 252, descriptorIndex := 53, attributes := #[] }] 48 4 #[] #[{ accessFlags := 4120, nameIndex := 121, descriptorIndex := 122, attributes := #[] }])
  fields := #[{ name := "$assertionsDisabled", type := .boolean, accessFlags := 4120, slot := 0, constantValue := 0 }]
  methods := #[k11m0, k11m1]
  instanceTypes := #[]
  staticTypes := #[.boolean]
  resolved := Array.replicate 395 none
  statics := none }

def pool12 : Array CpInfo := pool [(2, .class_ 4), (1, u "java/lang/Object"), (0, u "<init>"), (0, u "()V"), (17, .class_ 26), (1, u "jdk/internal/util/Preconditions"), (6, u "checkIndex"), (21, .class_ 56), (0, u "jdk/internal/util/Preconditions$4"), (57, .class_ 115), (0, u "jdk/internal/util/Preconditions$1"), (7, u "SIOOBE_FORMATTER"), (0, u "Ljava/util/function/BiFunction;"), (0, .class_ 126), (0, u "jdk/internal/util/Preconditions$2"), (3, u "AIOOBE_FORMATTER"), (0, .class_ 132), (0, u "jdk/internal/util/Preconditions$3"), (3, u "IOOBE_FORMATTER"), (41, u "(IILjava/util/function/BiFunction;)I")] 15

def k12m0 : Method := { name := "<init>", desc := "()V", sig := { parameters := [], returnType := none }, accessFlags := 1, code := none }
def k12c1 : Code := { maxStack := 3, maxLocals := 3, code := jdk_41_method_11_code, exceptionTable := #[], attributes := #[] }
def k12m1 : Method := { name := "checkIndex", desc := "(IILjava/util/function/BiFunction;)I", sig := { parameters := [.int, .int, (.object "java/util/function/BiFunction")], returnType := some .int }, accessFlags := 9, code := some k12c1 }
/-- jdk/internal/util/Preconditions -/
def k12 : Class := { plain "jdk/internal/util/Preconditions" (some 0) with
  accessFlags := 33
  interfaces := #[]
  cf := some (fileOf pool12 24 #[.nestMembers #[55, 131, 125, 114]] #[{ accessFlags := 1, nameIndex := 5, descriptorIndex := 6, attributes := #[] }, { accessFlags := 9, nameIndex := 33, descriptorIndex := 178, attributes := #[] }] 33 2 #[] #[{ accessFlags := 25, nameIndex := 123, descriptorIndex := 124, attributes := #[] }, { accessFlags := 25, nameIndex := 130, descriptorIndex := 124, attributes := #[] }, { accessFlags := 25, nameIndex := 136, descriptorIndex := 124, attributes := #[] }])
  fields := #[{ name := "SIOOBE_FORMATTER", type := (.object "java/util/function/BiFunction"), accessFlags := 25, slot := 0, constantValue := 0 }, { name := "AIOOBE_FORMATTER", type := (.object "java/util/function/BiFunction"), accessFlags := 25, slot := 1, constantValue := 0 }, { name := "IOOBE_FORMATTER", type := (.object "java/util/function/BiFunction"), accessFlags := 25, slot := 2, constantValue := 0 }]
  methods := #[k12m0, k12m1]
  instanceTypes := #[]
  staticTypes := #[(.object "java/util/function/BiFunction"), (.object "java/util/function/BiFunction"), (.object "java/util/function/BiFunction")]
  resolved := Array.replicate 194 none
  statics := some 1 }

def pool13 : Array CpInfo := pool [(9, u "<init>"), (6, .class_ 18), (1, u "java/lang/Object"), (0, u "()V"), (1, .class_ 23), (1, u "jdk/internal/util/ArraysSupport"), (0, u "LOG2_ARRAY_LONG_INDEX_SCALE"), (0, u "I"), (2, u "U"), (0, u "Ljdk/internal/misc/Unsafe;"), (8, u "BIG_ENDIAN"), (0, u "Z"), (8, u "LOG2_BYTE_BIT_SIZE"), (4, u "LOG2_ARRAY_INT_INDEX_SCALE"), (54, u "JLA"), (0, u "Ljdk/internal/access/JavaLangAccess;"), (11, u "LOG2_ARRAY_BOOLEAN_INDEX_SCALE"), (9, u "LOG2_ARRAY_BYTE_INDEX_SCALE"), (5, u "LOG2_ARRAY_CHAR_INDEX_SCALE"), (5, u "LOG2_ARRAY_SHORT_INDEX_SCALE"), (18, u "LOG2_ARRAY_FLOAT_INDEX_SCALE"), (24, u "LOG2_ARRAY_DOUBLE_INDEX_SCALE"), (89, u "T_BOOLEAN"), (2, u "T_CHAR"), (1, u "T_FLOAT"), (1, u "T_DOUBLE"), (1, u "T_BYTE"), (1, u "T_SHORT"), (1, u "T_INT"), (1, u "T_LONG"), (1, u "SOFT_MAX_ARRAY_LENGTH")] 83

def k13m0 : Method := { name := "<init>", desc := "()V", sig := { parameters := [], returnType := none }, accessFlags := 2, code := none }
/-- jdk/internal/util/ArraysSupport -/
def k13 : Class := { plain "jdk/internal/util/ArraysSupport" (some 0) with
  accessFlags := 33
  interfaces := #[]
  cf := some (fileOf pool13 21 #[] #[{ accessFlags := 2, nameIndex := 9, descriptorIndex := 19, attributes := #[] }] 33 16 #[] #[{ accessFlags := 24, nameIndex := 28, descriptorIndex := 29, attributes := #[] }, { accessFlags := 26, nameIndex := 38, descriptorIndex := 39, attributes := #[] }, { accessFlags := 25, nameIndex := 121, descriptorIndex := 25, attributes := #[] }, { accessFlags := 25, nameIndex := 131, descriptorIndex := 25, attributes := #[] }, { accessFlags := 25, nameIndex := 137, descriptorIndex := 25, attributes := #[] }, { accessFlags := 25, nameIndex := 143, descriptorIndex := 25, attributes := #[] }, { accessFlags := 25, nameIndex := 53, descriptorIndex := 25, attributes := #[] }, { accessFlags := 25, nameIndex := 24, descriptorIndex := 25, attributes := #[] }, { accessFlags := 25, nameIndex := 162, descriptorIndex := 25, attributes := #[] }, { accessFlags := 25, nameIndex := 187, descriptorIndex := 25, attributes := #[] }, { accessFlags := 26, nameIndex := 48, descriptorIndex := 25, attributes := #[] }, { accessFlags := 25, nameIndex := 277, descriptorIndex := 25, attributes := #[] }, { accessFlags := 25, nameIndex := 280, descriptorIndex := 25, attributes := #[] }, { accessFlags := 25, nameIndex := 282, descriptorIndex := 25, attributes := #[] }, { accessFlags := 25, nameIndex := 284, descriptorIndex := 25, attributes := #[] }, { accessFlags := 25, nameIndex := 286, descriptorIndex := 25, attributes := #[] }, { accessFlags := 25, nameIndex := 288, descriptorIndex := 25, attributes := #[] }, { accessFlags := 25, nameIndex := 290, descriptorIndex := 25, attributes := #[] }, { accessFlags := 25, nameIndex := 292, descriptorIndex := 25, attributes := #[] }, { accessFlags := 26, nameIndex := 108, descriptorIndex := 109, attributes := #[] }, { accessFlags := 25, nameIndex := 294, descriptorIndex := 25, attributes := #[] }])
  fields := #[{ name := "U", type := (.object "jdk/internal/misc/Unsafe"), accessFlags := 24, slot := 0, constantValue := 0 }, { name := "BIG_ENDIAN", type := .boolean, accessFlags := 26, slot := 1, constantValue := 0 }, { name := "LOG2_ARRAY_BOOLEAN_INDEX_SCALE", type := .int, accessFlags := 25, slot := 2, constantValue := 0 }, { name := "LOG2_ARRAY_BYTE_INDEX_SCALE", type := .int, accessFlags := 25, slot := 3, constantValue := 0 }, { name := "LOG2_ARRAY_CHAR_INDEX_SCALE", type := .int, accessFlags := 25, slot := 4, constantValue := 0 }, { name := "LOG2_ARRAY_SHORT_INDEX_SCALE", type := .int, accessFlags := 25, slot := 5, constantValue := 0 }, { name := "LOG2_ARRAY_INT_INDEX_SCALE", type := .int, accessFlags := 25, slot := 6, constantValue := 0 }, { name := "LOG2_ARRAY_LONG_INDEX_SCALE", type := .int, accessFlags := 25, slot := 7, constantValue := 0 }, { name := "LOG2_ARRAY_FLOAT_INDEX_SCALE", type := .int, accessFlags := 25, slot := 8, constantValue := 0 }, { name := "LOG2_ARRAY_DOUBLE_INDEX_SCALE", type := .int, accessFlags := 25, slot := 9, constantValue := 0 }, { name := "LOG2_BYTE_BIT_SIZE", type := .int, accessFlags := 26, slot := 10, constantValue := 0 }, { name := "T_BOOLEAN", type := .int, accessFlags := 25, slot := 11, constantValue := 0 }, { name := "T_CHAR", type := .int, accessFlags := 25, slot := 12, constantValue := 0 }, { name := "T_FLOAT", type := .int, accessFlags := 25, slot := 13, constantValue := 0 }, { name := "T_DOUBLE", type := .int, accessFlags := 25, slot := 14, constantValue := 0 }, { name := "T_BYTE", type := .int, accessFlags := 25, slot := 15, constantValue := 0 }, { name := "T_SHORT", type := .int, accessFlags := 25, slot := 16, constantValue := 0 }, { name := "T_INT", type := .int, accessFlags := 25, slot := 17, constantValue := 0 }, { name := "T_LONG", type := .int, accessFlags := 25, slot := 18, constantValue := 0 }, { name := "JLA", type := (.object "jdk/internal/access/JavaLangAccess"), accessFlags := 26, slot := 19, constantValue := 0 }, { name := "SOFT_MAX_ARRAY_LENGTH", type := .int, accessFlags := 25, slot := 20, constantValue := 0 }]
  methods := #[k13m0]
  instanceTypes := #[]
  staticTypes := #[(.object "jdk/internal/misc/Unsafe"), .boolean, .int, .int, .int, .int, .int, .int, .int, .int, .int, .int, .int, .int, .int, .int, .int, .int, .int, (.object "jdk/internal/access/JavaLangAccess"), .int]
  resolved := Array.replicate 378 none
  statics := none }

def pool14 : Array CpInfo := pool [(1, u "java/lang/Cloneable"), (0, .class_ 1), (0, u "java/lang/Object"), (0, .class_ 3)] 3

/-- java/lang/Cloneable -/
def k14 : Class := { plain "java/lang/Cloneable" (some 0) with
  accessFlags := 1537
  interfaces := #[]
  cf := some (fileOf pool14 2 #[] #[] 1537 4 #[] #[])
  fields := #[]
  methods := #[]
  instanceTypes := #[]
  staticTypes := #[]
  resolved := Array.replicate 8 none
  statics := none }

/-- the primitive byte -/
def k15 : Class := { plain "byte" none with kind := .primitive 'B', accessFlags := 0x411 }
/-- [B -/
def k16 : Class := { plain "[B" (some 0) with kind := .array 15 .byte, interfaces := #[14, 2], accessFlags := 1041 }

/-- the primitive char -/
def k17 : Class := { plain "char" none with kind := .primitive 'C', accessFlags := 0x411 }
/-- [C -/
def k18 : Class := { plain "[C" (some 0) with kind := .array 17 .char, interfaces := #[14, 2], accessFlags := 1041 }

/-- the primitive int -/
def k19 : Class := { plain "int" none with kind := .primitive 'I', accessFlags := 0x411 }
/-- [I -/
def k20 : Class := { plain "[I" (some 0) with kind := .array 19 .int, interfaces := #[14, 2], accessFlags := 1041 }

def heap : Heap := #[{ cls := 7, slots := #[.long 0, .int 1, .null, .int 0, .null, .int 0, .int 0], vm := .statics 7 },
  { cls := 12, slots := #[.null, .null, .null], vm := .statics 12 }]
def classes : Array Class := #[k0, k1, k2, k3, k4, k5, k6, k7, k8, k9, k10, k11, k12, k13, k14, k15, k16, k17, k18, k19, k20]
def interned : List (Array UInt16 × Addr) := []
def slotsUsed : Nat := 10
def theMethod : MethodId := ⟨1, 3⟩
def args0 : Array Value := #[.int 1, .int 5, .int 3, .int 2, .int 4]
def aboutOver (below : List Frame) : State where
  vm := { classes := classes, interned := interned.toArray }
  heap := heap
  slotsUsed := slotsUsed
  threads := #[{ frames := .invoking theMethod args0 :: below }]
def below0 : List Frame := [.native { method := ⟨0, 0⟩, args := #[] }]
def about1 : State := aboutOver below0
def p0 : Program := .bare "" "" ""
def e0 : Env := launch0.env 0 0 0
theorem w_frames : about1.frames = Frame.invoking theMethod args0 :: below0 := rfl
set_option maxRecDepth 65536 in
theorem w_args : argsFit about1.vm theMethod args0 = true := by decide +kernel
set_option maxRecDepth 65536 in
theorem w_heap : heapFits about1 = true := by decide +kernel
set_option maxRecDepth 65536 in
theorem w_runnable : about1.curStatus? = some .runnable := by decide +kernel
set_option maxRecDepth 65536 in
theorem w_alone : about1.alone = true := by decide +kernel
set_option maxRecDepth 65536 in
theorem w_named : about1.methodNamed? x = some theMethod := by decide +kernel
set_option maxRecDepth 65536 in
theorem w_hears : about1.hears theMethod below0 = true := by decide +kernel
set_option maxRecDepth 65536 in
theorem w_ripe : about1.ripe theMethod args0 below0 = true := by decide +kernel
theorem w_running : about1.status = .running := rfl
set_option maxRecDepth 65536 in
theorem w_room : about1.hasRoom e0.platform room_1 = true :=
  launch0.hasRoom_least _ room_1 (by decide +kernel) (by decide +kernel) (by decide +kernel) (by decide +kernel) (by decide +kernel) (by decide +kernel)
theorem allAtoms_all (ts : List Jvm.Cond) (a : Array Jvm.Value) (st : Jvm.State) : (allAtoms ts).before a st = ts.all (fun c => c.before a st) := by
  induction ts with
  | nil => rfl
  | cons c t ih =>
    show (Jvm.Cond.and c (allAtoms t)).before a st = _
    rw [Jvm.Cond.before_and, ih, List.all_cons]
def words1 : List Jvm.Cond := Jvm.Cond.code x code maxLocals ret :: tables_1
/-- a 'code' word, met by the world's own term for the bytes: nothing is compared byte by byte -/
theorem code_word {y : MethodName} {bytes : ByteArray} {mx : Nat} {rt : Option FieldType} {a : Array Value} {s : State} {m : MethodId} {meth : Method} {c : Code} (h1 : s.methodNamed? y = some m) (h2 : s.vm.method? m = some meth) (h3 : meth.code = some c) (h4 : c.code = bytes)
    (h5 : (c.maxLocals == mx && c.exceptionTable.isEmpty && decide (c.maxStack ≤ mostOperands) && decide (meth.sig.returnType = rt) && !meth.locks && decide (parseMethodDescriptor y.desc = some meth.sig)) = true) : (Jvm.Cond.code y bytes mx rt).before a s = true := by
  simp only [Bool.and_eq_true, beq_iff_eq, Bool.not_eq_true', decide_eq_true_eq] at h5
  obtain ⟨⟨⟨⟨⟨g1, g2⟩, g3⟩, g4⟩, g5⟩, g6⟩ := h5
  simp [Cond.before, Cond.holds, Cond.value, h1, h2, h3, h4, g1, g2, g3, g4, g5, g6]
def isCode : Jvm.Cond → Bool
  | .code _ _ _ _ => true
  | _ => false
theorem all_split {L : List Jvm.Cond} {P : Jvm.Cond → Bool} (h1 : L.all (fun c => isCode c || P c) = true) (h2 : ∀ c ∈ L.filter isCode, P c = true) : L.all P = true := by
  refine List.all_eq_true.mpr fun c hc => ?_
  have h := List.all_eq_true.mp h1 c hc
  rcases Bool.eq_false_or_eq_true (isCode c) with hi | hi
  · exact h2 c (List.mem_filter.mpr ⟨hc, hi⟩)
  · simpa [hi] using h
set_option maxRecDepth 65536 in
theorem w_c0 : (Jvm.Cond.code x code maxLocals ret).before args0 about1 = true := code_word (m := ⟨1, 3⟩) (meth := k1m3) (c := k1c3) (by decide +kernel) rfl rfl rfl (by decide +kernel)
set_option maxRecDepth 65536 in
theorem w_c1 : (Jvm.Cond.code ({ cls := "com/example/boring_outbox/boringoutbox/EventTypeOfPinLaw", name := "draw", desc := "(I)C" } : Jvm.MethodName) method_3_code (1 : Nat) (Option.some Jvm.ClassFile.FieldType.char)).before args0 about1 = true := code_word (m := ⟨1, 2⟩) (meth := k1m2) (c := k1c2) (by decide +kernel) rfl rfl rfl (by decide +kernel)
set_option maxRecDepth 65536 in
theorem w_c2 : (Jvm.Cond.code ({ cls := "com/example/boring_outbox/boringoutbox/EventTypeOfPinLaw", name := "idChar", desc := "(I)C" } : Jvm.MethodName) method_2_code (1 : Nat) (Option.some Jvm.ClassFile.FieldType.char)).before args0 about1 = true := code_word (m := ⟨1, 1⟩) (meth := k1m1) (c := k1c1) (by decide +kernel) rfl rfl rfl (by decide +kernel)
set_option maxRecDepth 65536 in
theorem w_c3 : (Jvm.Cond.code ({ cls := "java/lang/String", name := "<init>", desc := "([C)V" } : Jvm.MethodName) jdk_42_method_3_code (2 : Nat) (Option.none : Option Jvm.ClassFile.FieldType)).before args0 about1 = true := code_word (m := ⟨7, 1⟩) (meth := k7m1) (c := k7c1) (by decide +kernel) rfl rfl rfl (by decide +kernel)
set_option maxRecDepth 65536 in
theorem w_c4 : (Jvm.Cond.code ({ cls := "java/lang/String", name := "<init>", desc := "([CIILjava/lang/Void;)V" } : Jvm.MethodName) jdk_42_method_149_code (6 : Nat) (Option.none : Option Jvm.ClassFile.FieldType)).before args0 about1 = true := code_word (m := ⟨7, 6⟩) (meth := k7m6) (c := k7c6) (by decide +kernel) rfl rfl rfl (by decide +kernel)
set_option maxRecDepth 65536 in
theorem w_c5 : (Jvm.Cond.code ({ cls := "java/lang/Object", name := "<init>", desc := "()V" } : Jvm.MethodName) object_method_1_code (1 : Nat) (Option.none : Option Jvm.ClassFile.FieldType)).before args0 about1 = true := code_word (m := ⟨0, 0⟩) (meth := k0m0) (c := k0c0) (by decide +kernel) rfl rfl rfl (by decide +kernel)
set_option maxRecDepth 65536 in
theorem w_c6 : (Jvm.Cond.code ({ cls := "java/lang/StringUTF16", name := "compress", desc := "([CII)[B" } : Jvm.MethodName) jdk_52_method_16_code (6 : Nat) (Option.some (Jvm.ClassFile.FieldType.array Jvm.ClassFile.FieldType.byte))).before args0 about1 = true := code_word (m := ⟨8, 2⟩) (meth := k8m2) (c := k8c2) (by decide +kernel) rfl rfl rfl (by decide +kernel)
set_option maxRecDepth 65536 in
theorem w_c7 : (Jvm.Cond.code ({ cls := "java/lang/StringUTF16", name := "compress", desc := "([CI[BII)I" } : Jvm.MethodName) jdk_52_method_21_code (7 : Nat) (Option.some Jvm.ClassFile.FieldType.int)).before args0 about1 = true := code_word (m := ⟨8, 3⟩) (meth := k8m3) (c := k8c3) (by decide +kernel) rfl rfl rfl (by decide +kernel)
set_option maxRecDepth 65536 in
theorem w_c8 : (Jvm.Cond.code ({ cls := "java/lang/StringUTF16", name := "coderFromArrayLen", desc := "([BI)B" } : Jvm.MethodName) jdk_52_method_15_code (2 : Nat) (Option.some Jvm.ClassFile.FieldType.byte)).before args0 about1 = true := code_word (m := ⟨8, 1⟩) (meth := k8m1) (c := k8c1) (by decide +kernel) rfl rfl rfl (by decide +kernel)
set_option maxRecDepth 65536 in
theorem w_c9 : (Jvm.Cond.code ({ cls := "com/example/boring_outbox/boringoutbox/EventType", name := "of", desc := "(Ljava/lang/String;)Lcom/example/boring_outbox/boringoutbox/EventType;" } : Jvm.MethodName) prog_15_method_2_code (3 : Nat) (Option.some (Jvm.ClassFile.FieldType.object "com/example/boring_outbox/boringoutbox/EventType"))).before args0 about1 = true := code_word (m := ⟨9, 1⟩) (meth := k9m1) (c := k9c1) (by decide +kernel) rfl rfl rfl (by decide +kernel)
set_option maxRecDepth 65536 in
theorem w_c10 : (Jvm.Cond.code ({ cls := "java/util/Objects", name := "requireNonNull", desc := "(Ljava/lang/Object;Ljava/lang/String;)Ljava/lang/Object;" } : Jvm.MethodName) jdk_31_method_11_code (2 : Nat) (Option.some (Jvm.ClassFile.FieldType.object "java/lang/Object"))).before args0 about1 = true := code_word (m := ⟨10, 1⟩) (meth := k10m1) (c := k10c1) (by decide +kernel) rfl rfl rfl (by decide +kernel)
set_option maxRecDepth 65536 in
theorem w_c11 : (Jvm.Cond.code ({ cls := "java/lang/String", name := "isEmpty", desc := "()Z" } : Jvm.MethodName) jdk_42_method_55_code (1 : Nat) (Option.some Jvm.ClassFile.FieldType.boolean)).before args0 about1 = true := code_word (m := ⟨7, 3⟩) (meth := k7m3) (c := k7c3) (by decide +kernel) rfl rfl rfl (by decide +kernel)
set_option maxRecDepth 65536 in
theorem w_c12 : (Jvm.Cond.code ({ cls := "java/lang/String", name := "length", desc := "()I" } : Jvm.MethodName) jdk_42_method_54_code (1 : Nat) (Option.some Jvm.ClassFile.FieldType.int)).before args0 about1 = true := code_word (m := ⟨7, 2⟩) (meth := k7m2) (c := k7c2) (by decide +kernel) rfl rfl rfl (by decide +kernel)
set_option maxRecDepth 65536 in
theorem w_c13 : (Jvm.Cond.code ({ cls := "java/lang/String", name := "coder", desc := "()B" } : Jvm.MethodName) jdk_42_method_152_code (1 : Nat) (Option.some Jvm.ClassFile.FieldType.byte)).before args0 about1 = true := code_word (m := ⟨7, 7⟩) (meth := k7m7) (c := k7c7) (by decide +kernel) rfl rfl rfl (by decide +kernel)
set_option maxRecDepth 65536 in
theorem w_c14 : (Jvm.Cond.code ({ cls := "java/lang/String", name := "charAt", desc := "(I)C" } : Jvm.MethodName) jdk_42_method_56_code (2 : Nat) (Option.some Jvm.ClassFile.FieldType.char)).before args0 about1 = true := code_word (m := ⟨7, 4⟩) (meth := k7m4) (c := k7c4) (by decide +kernel) rfl rfl rfl (by decide +kernel)
set_option maxRecDepth 65536 in
theorem w_c15 : (Jvm.Cond.code ({ cls := "java/lang/String", name := "isLatin1", desc := "()Z" } : Jvm.MethodName) jdk_42_method_154_code (1 : Nat) (Option.some Jvm.ClassFile.FieldType.boolean)).before args0 about1 = true := code_word (m := ⟨7, 8⟩) (meth := k7m8) (c := k7c8) (by decide +kernel) rfl rfl rfl (by decide +kernel)
set_option maxRecDepth 65536 in
theorem w_c16 : (Jvm.Cond.code ({ cls := "java/lang/StringLatin1", name := "charAt", desc := "([BI)C" } : Jvm.MethodName) jdk_43_method_2_code (2 : Nat) (Option.some Jvm.ClassFile.FieldType.char)).before args0 about1 = true := code_word (m := ⟨11, 1⟩) (meth := k11m1) (c := k11c1) (by decide +kernel) rfl rfl rfl (by decide +kernel)
set_option maxRecDepth 65536 in
theorem w_c17 : (Jvm.Cond.code ({ cls := "java/lang/String", name := "checkIndex", desc := "(II)V" } : Jvm.MethodName) jdk_42_method_155_code (2 : Nat) (Option.none : Option Jvm.ClassFile.FieldType)).before args0 about1 = true := code_word (m := ⟨7, 9⟩) (meth := k7m9) (c := k7c9) (by decide +kernel) rfl rfl rfl (by decide +kernel)
set_option maxRecDepth 65536 in
theorem w_c18 : (Jvm.Cond.code ({ cls := "jdk/internal/util/Preconditions", name := "checkIndex", desc := "(IILjava/util/function/BiFunction;)I" } : Jvm.MethodName) jdk_41_method_11_code (3 : Nat) (Option.some Jvm.ClassFile.FieldType.int)).before args0 about1 = true := code_word (m := ⟨12, 1⟩) (meth := k12m1) (c := k12c1) (by decide +kernel) rfl rfl rfl (by decide +kernel)
set_option maxRecDepth 65536 in
theorem w_c19 : (Jvm.Cond.code ({ cls := "com/example/boring_outbox/boringoutbox/EventType", name := "isIdentifierCharacter", desc := "(C)Z" } : Jvm.MethodName) prog_15_method_7_code (1 : Nat) (Option.some Jvm.ClassFile.FieldType.boolean)).before args0 about1 = true := code_word (m := ⟨9, 3⟩) (meth := k9m3) (c := k9c3) (by decide +kernel) rfl rfl rfl (by decide +kernel)
set_option maxRecDepth 65536 in
theorem w_c20 : (Jvm.Cond.code ({ cls := "com/example/boring_outbox/boringoutbox/EventType", name := "<init>", desc := "(Ljava/lang/String;)V" } : Jvm.MethodName) prog_15_method_1_code (2 : Nat) (Option.none : Option Jvm.ClassFile.FieldType)).before args0 about1 = true := code_word (m := ⟨9, 0⟩) (meth := k9m0) (c := k9c0) (by decide +kernel) rfl rfl rfl (by decide +kernel)
set_option maxRecDepth 65536 in
theorem w_c21 : (Jvm.Cond.code ({ cls := "com/example/boring_outbox/boringoutbox/EventType", name := "name", desc := "()Ljava/lang/String;" } : Jvm.MethodName) prog_15_method_3_code (1 : Nat) (Option.some (Jvm.ClassFile.FieldType.object "java/lang/String"))).before args0 about1 = true := code_word (m := ⟨9, 2⟩) (meth := k9m2) (c := k9c2) (by decide +kernel) rfl rfl rfl (by decide +kernel)
set_option maxRecDepth 65536 in
theorem w_c22 : (Jvm.Cond.code ({ cls := "java/lang/String", name := "equals", desc := "(Ljava/lang/Object;)Z" } : Jvm.MethodName) jdk_42_method_66_code (3 : Nat) (Option.some Jvm.ClassFile.FieldType.boolean)).before args0 about1 = true := code_word (m := ⟨7, 5⟩) (meth := k7m5) (c := k7c5) (by decide +kernel) rfl rfl rfl (by decide +kernel)
def codes1 : List Jvm.Cond := [Jvm.Cond.code x code maxLocals ret, Jvm.Cond.code ({ cls := "com/example/boring_outbox/boringoutbox/EventTypeOfPinLaw", name := "draw", desc := "(I)C" } : Jvm.MethodName) method_3_code (1 : Nat) (Option.some Jvm.ClassFile.FieldType.char), Jvm.Cond.code ({ cls := "com/example/boring_outbox/boringoutbox/EventTypeOfPinLaw", name := "idChar", desc := "(I)C" } : Jvm.MethodName) method_2_code (1 : Nat) (Option.some Jvm.ClassFile.FieldType.char), Jvm.Cond.code ({ cls := "java/lang/String", name := "<init>", desc := "([C)V" } : Jvm.MethodName) jdk_42_method_3_code (2 : Nat) (Option.none : Option Jvm.ClassFile.FieldType), Jvm.Cond.code ({ cls := "java/lang/String", name := "<init>", desc := "([CIILjava/lang/Void;)V" } : Jvm.MethodName) jdk_42_method_149_code (6 : Nat) (Option.none : Option Jvm.ClassFile.FieldType), Jvm.Cond.code ({ cls := "java/lang/Object", name := "<init>", desc := "()V" } : Jvm.MethodName) object_method_1_code (1 : Nat) (Option.none : Option Jvm.ClassFile.FieldType), Jvm.Cond.code ({ cls := "java/lang/StringUTF16", name := "compress", desc := "([CII)[B" } : Jvm.MethodName) jdk_52_method_16_code (6 : Nat) (Option.some (Jvm.ClassFile.FieldType.array Jvm.ClassFile.FieldType.byte)), Jvm.Cond.code ({ cls := "java/lang/StringUTF16", name := "compress", desc := "([CI[BII)I" } : Jvm.MethodName) jdk_52_method_21_code (7 : Nat) (Option.some Jvm.ClassFile.FieldType.int), Jvm.Cond.code ({ cls := "java/lang/StringUTF16", name := "coderFromArrayLen", desc := "([BI)B" } : Jvm.MethodName) jdk_52_method_15_code (2 : Nat) (Option.some Jvm.ClassFile.FieldType.byte), Jvm.Cond.code ({ cls := "com/example/boring_outbox/boringoutbox/EventType", name := "of", desc := "(Ljava/lang/String;)Lcom/example/boring_outbox/boringoutbox/EventType;" } : Jvm.MethodName) prog_15_method_2_code (3 : Nat) (Option.some (Jvm.ClassFile.FieldType.object "com/example/boring_outbox/boringoutbox/EventType")), Jvm.Cond.code ({ cls := "java/util/Objects", name := "requireNonNull", desc := "(Ljava/lang/Object;Ljava/lang/String;)Ljava/lang/Object;" } : Jvm.MethodName) jdk_31_method_11_code (2 : Nat) (Option.some (Jvm.ClassFile.FieldType.object "java/lang/Object")), Jvm.Cond.code ({ cls := "java/lang/String", name := "isEmpty", desc := "()Z" } : Jvm.MethodName) jdk_42_method_55_code (1 : Nat) (Option.some Jvm.ClassFile.FieldType.boolean), Jvm.Cond.code ({ cls := "java/lang/String", name := "length", desc := "()I" } : Jvm.MethodName) jdk_42_method_54_code (1 : Nat) (Option.some Jvm.ClassFile.FieldType.int), Jvm.Cond.code ({ cls := "java/lang/String", name := "coder", desc := "()B" } : Jvm.MethodName) jdk_42_method_152_code (1 : Nat) (Option.some Jvm.ClassFile.FieldType.byte), Jvm.Cond.code ({ cls := "java/lang/String", name := "charAt", desc := "(I)C" } : Jvm.MethodName) jdk_42_method_56_code (2 : Nat) (Option.some Jvm.ClassFile.FieldType.char), Jvm.Cond.code ({ cls := "java/lang/String", name := "isLatin1", desc := "()Z" } : Jvm.MethodName) jdk_42_method_154_code (1 : Nat) (Option.some Jvm.ClassFile.FieldType.boolean), Jvm.Cond.code ({ cls := "java/lang/StringLatin1", name := "charAt", desc := "([BI)C" } : Jvm.MethodName) jdk_43_method_2_code (2 : Nat) (Option.some Jvm.ClassFile.FieldType.char), Jvm.Cond.code ({ cls := "java/lang/String", name := "checkIndex", desc := "(II)V" } : Jvm.MethodName) jdk_42_method_155_code (2 : Nat) (Option.none : Option Jvm.ClassFile.FieldType), Jvm.Cond.code ({ cls := "jdk/internal/util/Preconditions", name := "checkIndex", desc := "(IILjava/util/function/BiFunction;)I" } : Jvm.MethodName) jdk_41_method_11_code (3 : Nat) (Option.some Jvm.ClassFile.FieldType.int), Jvm.Cond.code ({ cls := "com/example/boring_outbox/boringoutbox/EventType", name := "isIdentifierCharacter", desc := "(C)Z" } : Jvm.MethodName) prog_15_method_7_code (1 : Nat) (Option.some Jvm.ClassFile.FieldType.boolean), Jvm.Cond.code ({ cls := "com/example/boring_outbox/boringoutbox/EventType", name := "<init>", desc := "(Ljava/lang/String;)V" } : Jvm.MethodName) prog_15_method_1_code (2 : Nat) (Option.none : Option Jvm.ClassFile.FieldType), Jvm.Cond.code ({ cls := "com/example/boring_outbox/boringoutbox/EventType", name := "name", desc := "()Ljava/lang/String;" } : Jvm.MethodName) prog_15_method_3_code (1 : Nat) (Option.some (Jvm.ClassFile.FieldType.object "java/lang/String")), Jvm.Cond.code ({ cls := "java/lang/String", name := "equals", desc := "(Ljava/lang/Object;)Z" } : Jvm.MethodName) jdk_42_method_66_code (3 : Nat) (Option.some Jvm.ClassFile.FieldType.boolean)]
set_option maxRecDepth 65536 in
theorem codes_eq : words1.filter isCode = codes1 := rfl
theorem w_codes : ∀ c ∈ words1.filter isCode, c.before args0 about1 = true := by
  rw [codes_eq]
  intro c hc
  simp only [codes1, List.mem_cons, List.not_mem_nil, or_false] at hc
  rcases hc with rfl | rfl | rfl | rfl | rfl | rfl | rfl | rfl | rfl | rfl | rfl | rfl | rfl | rfl | rfl | rfl | rfl | rfl | rfl | rfl | rfl | rfl | rfl
  · exact w_c0
  · exact w_c1
  · exact w_c2
  · exact w_c3
  · exact w_c4
  · exact w_c5
  · exact w_c6
  · exact w_c7
  · exact w_c8
  · exact w_c9
  · exact w_c10
  · exact w_c11
  · exact w_c12
  · exact w_c13
  · exact w_c14
  · exact w_c15
  · exact w_c16
  · exact w_c17
  · exact w_c18
  · exact w_c19
  · exact w_c20
  · exact w_c21
  · exact w_c22
set_option maxRecDepth 65536 in
theorem w_t1 : (words1.take 24).all (fun c => isCode c || c.before args0 about1) = true := by decide +kernel
set_option maxRecDepth 65536 in
theorem w_t2 : ((words1.drop 24).take 24).all (fun c => isCode c || c.before args0 about1) = true := by decide +kernel
set_option maxRecDepth 65536 in
theorem w_t3 : (((words1.drop 24).drop 24).take 24).all (fun c => isCode c || c.before args0 about1) = true := by decide +kernel
set_option maxRecDepth 65536 in
theorem w_t4 : ((((words1.drop 24).drop 24).drop 24).take 24).all (fun c => isCode c || c.before args0 about1) = true := by decide +kernel
set_option maxRecDepth 65536 in
theorem w_t5 : ((((words1.drop 24).drop 24).drop 24).drop 24).all (fun c => isCode c || c.before args0 about1) = true := by decide +kernel
theorem w_tables : (allAtoms (Jvm.Cond.code x code maxLocals ret :: tables_1)).before args0 about1 = true := by
  rw [allAtoms_all]
  show words1.all (fun c => c.before args0 about1) = true
  refine all_split ?_ w_codes
  rw [← List.take_append_drop 24 words1, List.all_append, w_t1, ← List.take_append_drop 24 (words1.drop 24), List.all_append, w_t2, ← List.take_append_drop 24 ((words1.drop 24).drop 24), List.all_append, w_t3, ← List.take_append_drop 24 (((words1.drop 24).drop 24).drop 24), List.all_append, w_t4, w_t5]
  rfl
set_option maxRecDepth 65536 in
theorem w_rest : rest_1_c.before args0 about1 = true := by decide +kernel
set_option maxRecDepth 65536 in
theorem w_case : (Jvm.Cond.and given_1 narrow_1).before args0 about1 = true := by decide +kernel
theorem w_applies : (headSpec (Jvm.Cond.code x code maxLocals ret :: tables_1) room_1).applies x e0.platform about1 = true :=
  (Spec.applies_iff w_frames).mpr ⟨w_running, w_runnable, w_alone, w_named, w_hears, w_ripe, w_room, w_tables⟩
theorem atStart : AtStart classFile x code maxLocals ret World_1 tables_1 room_1 Calls_1 rest_1 Pre_1 launch0 p0 e0 about1 theMethod args0 below0 :=
  ⟨lists_1, trivial, launch0.admits_env _ _ _, launch0.least_env, fairChoices_fair.cas, fairChoices_fair.clock, w_frames, w_args, w_heap, w_applies, trivial, w_rest, w_case⟩
end start1
theorem witness_1 : WitnessClaimed_1 := ⟨start1.p0, start1.e0, start1.about1, start1.theMethod, start1.args0, start1.below0, start1.atStart⟩
end Jvm.Pilot.@@N@@
