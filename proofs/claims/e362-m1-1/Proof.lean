import JvmDerived
import JvmDerived.Pilot.@@N@@Statement
import JvmDerived.Pilot.@@N@@Code
set_option linter.unusedVariables false
set_option linter.unusedSimpArgs false
/- laws to paste: Road.backV, Road.chN, Road.codOf (cut by pick.py; bodies as the Statement names them) -/
namespace Jvm.Pilot.@@N@@
namespace StrChars
open Jvm Sem ClassFile Op Lib Jvm.Stand Jvm.Free.XT Jvm.Free.ALB Jvm.Free.JM Jvm.Free
open Jvm.Lib.Cold (StaticIs)
/-- a char array whose places are chars -/
def Ch (a : Addr) (A : Cell) (U : State) : Prop := Arr .char a A U ∧ Typed .char A
theorem Ch.mv {a : Addr} {A : Cell} {U U' : State} (h : Ch a A U) (hal : U.vm.Alike U'.vm) (hh : U'.heap = U.heap) : Ch a A U' := ⟨h.1.mv hal hh, h.2⟩
theorem Ch.keep {a : Addr} {A : Cell} {U U' : State} (h : Ch a A U) (hal : U.vm.Alike U'.vm) (hk : U'.heap[a]? = some A) : Ch a A U' := ⟨h.1.keep hal hk, h.2⟩
/-- what place i of a char[]'s cell holds -/
def cv (A : Cell) (i : Nat) : Int32 := match A.slots[i]? with | some (.int x) => x | _ => 0
theorem Ch.get {a : Addr} {A : Cell} {U : State} (h : Ch a A U) {i : Nat} (hi : i < A.slots.size) : A.slots[i]? = some (.int (cv A i)) := by
  have e := Array.getElem?_eq_getElem hi
  have f := h.2 i _ e
  unfold cv; rw [e]
  generalize A.slots[i] = v at f
  cases v <;> simp [fits] at f ⊢
/-- the byte that i2b leaves of a char -/
def lo8 (x : Int32) : Int32 := x.toInt8.toInt32
theorem fits_lo8 (y : Int32) : fits .byte (.int (lo8 y)) = true := by
  have h1 := y.toInt8.le_toInt
  have h2 := y.toInt8.toInt_lt
  simp only [lo8, fits, Bool.and_eq_true, decide_eq_true_eq, Int32.le_iff_toInt_le, Int8.toInt_toInt32, show (-128 : Int32).toInt = -128 from by decide, show (127 : Int32).toInt = 127 from by decide]
  omega
/-- A' is A but that each place j of lo .. hi - 1 holds f j -/
def Laid (A A' : Cell) (lo hi : Nat) (f : Nat → Value) : Prop := A'.cls = A.cls ∧ A'.vm = A.vm ∧ A'.slots.size = A.slots.size ∧ ∀ i, A'.slots[i]? = if lo ≤ i ∧ i < hi then some (f i) else A.slots[i]?
theorem Laid.zero (A : Cell) (lo : Nat) (f : Nat → Value) : Laid A A lo (lo + 0) f := ⟨rfl, rfl, rfl, fun i => by rw [if_neg (by omega)]⟩
theorem Laid.step {A Ak : Cell} {lo k : Nat} {f : Nat → Value} {v : Value} (h : Laid A Ak lo k f) (hlo : lo ≤ k) (hk : k < Ak.slots.size) (hv : v = f k) : Laid A (Ak.setSlot k v) lo (k + 1) f := by
  refine ⟨h.1, h.2.1, by simpa [Cell.setSlot] using h.2.2.1, fun i => ?_⟩
  by_cases e : k = i
  · subst e; rw [Cell.slots_setSlot_self v hk, if_pos (by omega), hv]
  · rw [Cell.slots_setSlot_ne v e, h.2.2.2 i]
    by_cases q : lo ≤ i ∧ i < k
    · rw [if_pos q, if_pos (by omega)]
    · rw [if_neg q, if_neg (by omega)]
def U16 : String := "java/lang/StringUTF16"
namespace Cmp5
def yN : MethodName := ⟨"java/lang/StringUTF16", "compress", "([CI[BII)I"⟩
abbrev yB : ByteArray := jdk_52_method_21_code
theorem d0 : decode yB 0 = .ok (.iconst 0, 1) := by decide +kernel
theorem d1 : decode yB 1 = .ok (.istore 5, 2) := by decide +kernel
theorem d3 : decode yB 3 = .ok (.iload 5, 2) := by decide +kernel
theorem d5 : decode yB 5 = .ok (.iload 4, 2) := by decide +kernel
theorem d7 : decode yB 7 = .ok (.if_icmp (.ge) 37, 3) := by decide +kernel
theorem d10 : decode yB 10 = .ok (.aload_n 0, 1) := by decide +kernel
theorem d11 : decode yB 11 = .ok (.iload_n 1, 1) := by decide +kernel
theorem d12 : decode yB 12 = .ok (.caload, 1) := by decide +kernel
theorem d13 : decode yB 13 = .ok (.istore 6, 2) := by decide +kernel
theorem d15 : decode yB 15 = .ok (.iload 6, 2) := by decide +kernel
theorem d17 : decode yB 17 = .ok (.sipush 255, 3) := by decide +kernel
theorem d20 : decode yB 20 = .ok (.if_icmp (.le) 6, 3) := by decide +kernel
theorem d26 : decode yB 26 = .ok (.aload_n 2, 1) := by decide +kernel
theorem d27 : decode yB 27 = .ok (.iload_n 3, 1) := by decide +kernel
theorem d28 : decode yB 28 = .ok (.iload 6, 2) := by decide +kernel
theorem d30 : decode yB 30 = .ok (.i2b, 1) := by decide +kernel
theorem d31 : decode yB 31 = .ok (.bastore, 1) := by decide +kernel
theorem d32 : decode yB 32 = .ok (.iinc 1 1, 3) := by decide +kernel
theorem d35 : decode yB 35 = .ok (.iinc 3 1, 3) := by decide +kernel
theorem d38 : decode yB 38 = .ok (.iinc 5 1, 3) := by decide +kernel
theorem d41 : decode yB 41 = .ok (.goto (-38), 3) := by decide +kernel
theorem d44 : decode yB 44 = .ok (.iload 4, 2) := by decide +kernel
theorem d46 : decode yB 46 = .ok (.ireturn, 1) := by decide +kernel
def site : List Cond := []
def tab : Cond := tabOf yN yB 7 (some .int) site
def P (b : Addr) (A : Cell) (d : Addr) (B : Cell) (o q len : Nat) (args : Array Value) (s : State) : Prop := args = #[.ref b, .int (Int32.ofNat o), .ref d, .int (Int32.ofNat q), .int (Int32.ofNat len)] ∧ Ch b A s ∧ Arr .byte d B s ∧ b ≠ d ∧ o + len ≤ A.slots.size ∧ q + len ≤ B.slots.size ∧ ∀ i, i < len → ¬ 255 < cv A (o + i)
def E (b : Addr) (A : Cell) (d : Addr) (B : Cell) (o q len : Nat) (r : Option Value) (s u : State) : Prop := r = some (.int (Int32.ofNat len)) ∧ ∃ B', Put d B' s u ∧ Laid B B' q (q + len) (fun j => Value.int (lo8 (cv A (o + (j - q)))))
/-- no char of the range above 255: len; the places written hold each char's low byte -/
theorem law (l : Launch) (b : Addr) (A : Cell) (d : Addr) (B : Cell) (o q len : Nat) : Law l yN 5 5 0 0 yB 7 (some .int) site (P b A d B o q len) (E b A d B o q len) (copyLocs d q len) 0 0 := by
  refine Law.of_walk (plainFor_of_name (by decide +kernel)) (by decide +kernel) (by decide +kernel) (by decide) (fun _ _ h => by rw [h.1]; rfl) (fun _ U U' hal hh h => ⟨h.1, h.2.1.mv hal hh, h.2.2.1.mv hal hh, h.2.2.2⟩) (fun r U U' V V' h1 hal h2 h => ⟨h.1, h.2.elim fun B' q => ⟨B', q.1.mv h1 h2, q.2⟩⟩) ?_
  intro p e s m args below meth c s₁ X0 hexec hbytes hml hret hlk hnm hown hh0 W hP
  obtain ⟨rfl, hA, hB, hne, l1, l2, hp⟩ := hP
  have c1 : Steps p.tables e below (s₁.setTop (entryFrame m #[.ref b, .int (Int32.ofNat o), .ref d, .int (Int32.ofNat q), .int (Int32.ofNat len)] 7)) (s₁.setTop (mkF m 0 #[.val (.ref b), .val (.int (Int32.ofNat o)), .val (.ref d), .val (.int (Int32.ofNat q)), .val (.int (Int32.ofNat len)), .unset, .unset] [])) := entry rfl
  have hA0 := hA.1.mv X0.warmed.alike hh0
  have hB0 := hB.mv X0.warmed.alike hh0
  have a31 := hA.1.2.2.2
  have c2 : Steps p.tables e below (s₁.setTop (entryFrame m #[.ref b, .int (Int32.ofNat o), .ref d, .int (Int32.ofNat q), .int (Int32.ofNat len)] 7)) (s₁.setTop (mkF m 3 #[.val (.ref b), .val (.int (Int32.ofNat o)), .val (.ref d), .val (.int (Int32.ofNat q)), .val (.int (Int32.ofNat len)), .val (.int 0), .unset] [])) := c1.trans (by
    refine iconstV X0.here hexec rfl 0 (hb hbytes d0) (by decide) ?_
    refine XS.istore X0.here hexec rfl (hb hbytes d1) rfl rfl ?_
    exact Steps.refl _)
  have loop : ∀ (r i : Nat), i + r = len → ∀ (z : Slot), (z = .unset ∨ ∃ w, z = .val w ∧ w.category = 1) → ∀ (Tl : State) (Bk : Cell), Stand p l e { frames := 0, locals := 0, cells := 0, slots := 0 } s m #[.ref b, .int (Int32.ofNat o), .ref d, .int (Int32.ofNat q), .int (Int32.ofNat len)] below meth c Tl ([] ++ copyLocs d q i) 0 0 → Put d Bk s₁ Tl → Laid B Bk q (q + i) (fun j => Value.int (lo8 (cv A (o + (j - q))))) →
      Steps p.tables e below (s₁.setTop (entryFrame m #[.ref b, .int (Int32.ofNat o), .ref d, .int (Int32.ofNat q), .int (Int32.ofNat len)] 7)) (Tl.setTop (mkF m 3 #[.val (.ref b), .val (.int (Int32.ofNat (o + i))), .val (.ref d), .val (.int (Int32.ofNat (q + i))), .val (.int (Int32.ofNat len)), .val (.int (Int32.ofNat i)), z] [])) → ∃ (T' : State) (B' : Cell) (z' : Slot), Stand p l e { frames := 0, locals := 0, cells := 0, slots := 0 } s m #[.ref b, .int (Int32.ofNat o), .ref d, .int (Int32.ofNat q), .int (Int32.ofNat len)] below meth c T' ([] ++ copyLocs d q len) 0 0 ∧ Put d B' s₁ T' ∧ Laid B B' q (q + len) (fun j => Value.int (lo8 (cv A (o + (j - q))))) ∧
      Steps p.tables e below (s₁.setTop (entryFrame m #[.ref b, .int (Int32.ofNat o), .ref d, .int (Int32.ofNat q), .int (Int32.ofNat len)] 7)) (T'.setTop (mkF m 3 #[.val (.ref b), .val (.int (Int32.ofNat (o + len))), .val (.ref d), .val (.int (Int32.ofNat (q + len))), .val (.int (Int32.ofNat len)), .val (.int (Int32.ofNat len)), z'] [])) := by
    intro r
    induction r with
    | zero =>
      intro i hi z hz Tl Bk Xl pl fl cl
      have hil : i = len := by omega
      rw [hil] at Xl fl cl
      exact ⟨Tl, Bk, z, Xl, pl, fl, cl⟩
    | succ r ih =>
      intro i hi z hz Tl Bk Xl pl fl cl
      have all := X0.warmed.alike.symm.trans Xl.warmed.alike
      have hAl := hA0.keep all (pl.other hne hA0.1)
      have hBk := hB0.like all pl.1 fl.1 fl.2.1 fl.2.2.1
      have hlt : q + i < Bk.slots.size := by rw [fl.2.2.1]; omega
      have c3 : Steps p.tables e below (s₁.setTop (entryFrame m #[.ref b, .int (Int32.ofNat o), .ref d, .int (Int32.ofNat q), .int (Int32.ofNat len)] 7)) (Tl.setTop (mkF m 12 #[.val (.ref b), .val (.int (Int32.ofNat (o + i))), .val (.ref d), .val (.int (Int32.ofNat (q + i))), .val (.int (Int32.ofNat len)), .val (.int (Int32.ofNat i)), z] [.int (Int32.ofNat (o + i)), .ref b])) := cl.trans (by
        refine XS.iload Xl.here hexec rfl (hb hbytes d3) rfl ?_
        refine XS.iload Xl.here hexec rfl (hb hbytes d5) rfl ?_
        refine XS.icmpNo Xl.here hexec rfl (hb hbytes d7) rfl (ii_ge_f (lt32 (by omega) (by omega))) ?_
        refine XS.aloadN Xl.here hexec rfl (hb hbytes d10) rfl rfl ?_
        refine XS.iloadN Xl.here hexec rfl (hb hbytes d11) rfl ?_
        exact Steps.refl _)
      have c4 : Steps p.tables e below (s₁.setTop (entryFrame m #[.ref b, .int (Int32.ofNat o), .ref d, .int (Int32.ofNat q), .int (Int32.ofNat len)] 7)) (Tl.setTop (mkF m 13 #[.val (.ref b), .val (.int (Int32.ofNat (o + i))), .val (.ref d), .val (.int (Int32.ofNat (q + i))), .val (.int (Int32.ofNat len)), .val (.int (Int32.ofNat i)), z] [.int (cv A (o + i))])) := c3.trans (by
        refine Xl.aget hexec hAl rfl (hA.get (i := o + i) (by omega)) rfl rfl (hb hbytes d12) ?_
        exact Steps.refl _)
      have c5 : Steps p.tables e below (s₁.setTop (entryFrame m #[.ref b, .int (Int32.ofNat o), .ref d, .int (Int32.ofNat q), .int (Int32.ofNat len)] 7)) (Tl.setTop (mkF m 15 #[.val (.ref b), .val (.int (Int32.ofNat (o + i))), .val (.ref d), .val (.int (Int32.ofNat (q + i))), .val (.int (Int32.ofNat len)), .val (.int (Int32.ofNat i)), .val (.int (cv A (o + i)))] [])) := c4.trans (by
        refine XS.istoreS Xl.here hexec rfl (hb hbytes d13) rfl rfl hz ?_
        exact Steps.refl _)
      have c6 : Steps p.tables e below (s₁.setTop (entryFrame m #[.ref b, .int (Int32.ofNat o), .ref d, .int (Int32.ofNat q), .int (Int32.ofNat len)] 7)) (Tl.setTop (mkF m 31 #[.val (.ref b), .val (.int (Int32.ofNat (o + i))), .val (.ref d), .val (.int (Int32.ofNat (q + i))), .val (.int (Int32.ofNat len)), .val (.int (Int32.ofNat i)), .val (.int (cv A (o + i)))] [.int (lo8 (cv A (o + i))), .int (Int32.ofNat (q + i)), .ref d])) := c5.trans (by
        refine XS.iload Xl.here hexec rfl (hb hbytes d15) rfl ?_
        refine sipushV Xl.here hexec rfl 255 (hb hbytes d17) (by decide) ?_
        refine XS.icmpYes Xl.here hexec rfl (pc0 := 20) rfl (hb hbytes d20) rfl (ii_le_t (hp i (by omega))) (by decide) rfl ?_
        refine XS.aloadN Xl.here hexec rfl (hb hbytes d26) rfl rfl ?_
        refine XS.iloadN Xl.here hexec rfl (hb hbytes d27) rfl ?_
        refine XS.iload Xl.here hexec rfl (hb hbytes d28) rfl ?_
        refine i2b Xl.here hexec rfl (hb hbytes d30) rfl ?_
        exact Steps.refl _)
      obtain ⟨T7, X7, p7, st7⟩ := Xl.aput hexec hBk rfl hlt rfl (fits_lo8 (cv A (o + i))) (g := (mkF m 31 #[.val (.ref b), .val (.int (Int32.ofNat (o + i))), .val (.ref d), .val (.int (Int32.ofNat (q + i))), .val (.int (Int32.ofNat len)), .val (.int (Int32.ofNat i)), .val (.int (cv A (o + i)))] [.int (lo8 (cv A (o + i))), .int (Int32.ofNat (q + i)), .ref d])) rfl (rest := []) rfl (hb hbytes d31)
      have c8 : Steps p.tables e below (s₁.setTop (entryFrame m #[.ref b, .int (Int32.ofNat o), .ref d, .int (Int32.ofNat q), .int (Int32.ofNat len)] 7)) (T7.setTop (mkF m 32 #[.val (.ref b), .val (.int (Int32.ofNat (o + i))), .val (.ref d), .val (.int (Int32.ofNat (q + i))), .val (.int (Int32.ofNat len)), .val (.int (Int32.ofNat i)), .val (.int (cv A (o + i)))] [])) := c6.trans (st7 _ (Steps.refl _))
      have c9 : Steps p.tables e below (s₁.setTop (entryFrame m #[.ref b, .int (Int32.ofNat o), .ref d, .int (Int32.ofNat q), .int (Int32.ofNat len)] 7)) (T7.setTop (mkF m 3 #[.val (.ref b), .val (.int (Int32.ofNat (o + i) + 1)), .val (.ref d), .val (.int (Int32.ofNat (q + i) + 1)), .val (.int (Int32.ofNat len)), .val (.int (Int32.ofNat i + 1)), .val (.int (cv A (o + i)))] [])) := c8.trans (by
        refine iincV X7.here hexec rfl 1 (hb hbytes d32) (by decide) rfl rfl ?_
        refine iincV X7.here hexec rfl 1 (hb hbytes d35) (by decide) rfl rfl ?_
        refine iincV X7.here hexec rfl 1 (hb hbytes d38) (by decide) rfl rfl ?_
        refine XS.goto X7.here hexec rfl (pc0 := 41) rfl (hb hbytes d41) (by decide) rfl ?_
        exact Steps.refl _)
      have c10 : Steps p.tables e below (s₁.setTop (entryFrame m #[.ref b, .int (Int32.ofNat o), .ref d, .int (Int32.ofNat q), .int (Int32.ofNat len)] 7)) (T7.setTop (mkF m 3 #[.val (.ref b), .val (.int (Int32.ofNat (o + (i + 1)))), .val (.ref d), .val (.int (Int32.ofNat (q + (i + 1)))), .val (.int (Int32.ofNat len)), .val (.int (Int32.ofNat (i + 1))), .val (.int (cv A (o + i)))] [])) := by
        have := c9
        rw [succ32, succ32, succ32] at this
        exact this
      exact ih (i + 1) (by omega) _ (Or.inr ⟨_, rfl, rfl⟩) T7 _ (by rw [copyLocs_step, ← List.append_assoc]; exact X7) (pl.trans p7) (fl.step (by omega) hlt (by simp)) c10
  obtain ⟨T9, B9, z9, X9, p9, f9, g9⟩ := loop len 0 (by omega) .unset (Or.inl rfl) s₁ B (by simpa [copyLocs] using X0) ⟨hB0.1, fun _ _ => rfl, rfl⟩ (Laid.zero _ _ _) c2
  have c11 : Steps p.tables e below (s₁.setTop (entryFrame m #[.ref b, .int (Int32.ofNat o), .ref d, .int (Int32.ofNat q), .int (Int32.ofNat len)] 7)) (T9.setTop (mkF m 46 #[.val (.ref b), .val (.int (Int32.ofNat (o + len))), .val (.ref d), .val (.int (Int32.ofNat (q + len))), .val (.int (Int32.ofNat len)), .val (.int (Int32.ofNat len)), z9] [.int (Int32.ofNat len)])) := g9.trans (by
    refine XS.iload X9.here hexec rfl (hb hbytes d3) rfl ?_
    refine XS.iload X9.here hexec rfl (hb hbytes d5) rfl ?_
    refine XS.icmpYes X9.here hexec rfl (pc0 := 7) rfl (hb hbytes d7) rfl (ii_ge_t (nlt32 (by omega) (Nat.le_refl _))) (by decide) rfl ?_
    refine XS.iload X9.here hexec rfl (hb hbytes d44) rfl ?_
    exact Steps.refl _)
  exact ⟨T9, some (.int (Int32.ofNat len)), _, _, _, X9, by simp, rfl, rfl, (fun h => by cases h), ⟨rfl, B9, p9.from hh0, f9⟩, fun fs hl => c11.trans (X9.ireturnOut hexec hret rfl (Or.inl rfl) (hb hbytes d46) hl)⟩
end Cmp5
namespace Cmp3
def yN : MethodName := ⟨"java/lang/StringUTF16", "compress", "([CII)[B"⟩
abbrev yB : ByteArray := jdk_52_method_16_code
theorem d0 : decode yB 0 = .ok (.iload_n 2, 1) := by decide +kernel
theorem d1 : decode yB 1 = .ok (.newarray .byte, 2) := by decide +kernel
theorem d3 : decode yB 3 = .ok (.astore_n 3, 1) := by decide +kernel
theorem d4 : decode yB 4 = .ok (.aload_n 0, 1) := by decide +kernel
theorem d5 : decode yB 5 = .ok (.iload_n 1, 1) := by decide +kernel
theorem d6 : decode yB 6 = .ok (.aload_n 3, 1) := by decide +kernel
theorem d7 : decode yB 7 = .ok (.iconst 0, 1) := by decide +kernel
theorem d8 : decode yB 8 = .ok (.iload_n 2, 1) := by decide +kernel
theorem d9 : decode yB 9 = .ok (.invokestatic 115, 3) := by decide +kernel
theorem d12 : decode yB 12 = .ok (.istore 4, 2) := by decide +kernel
theorem d14 : decode yB 14 = .ok (.iload 4, 2) := by decide +kernel
theorem d16 : decode yB 16 = .ok (.iload_n 2, 1) := by decide +kernel
theorem d17 : decode yB 17 = .ok (.if_icmp (.eq) 40, 3) := by decide +kernel
theorem d57 : decode yB 57 = .ok (.aload_n 3, 1) := by decide +kernel
theorem d58 : decode yB 58 = .ok (.areturn, 1) := by decide +kernel
def site : List Cond := [.arrayClass .byte, Cmp5.tab] ++ staticW U16 115 Cmp5.yN
def tab : Cond := tabOf yN yB 6 (some (.array .byte)) site
def P (b : Addr) (A : Cell) (o len : Nat) (args : Array Value) (s : State) : Prop := args = #[.ref b, .int (Int32.ofNat o), .int (Int32.ofNat len)] ∧ Ch b A s ∧ o + len ≤ A.slots.size ∧ len ≤ 536870912 ∧ ∀ i, i < len → ¬ 255 < cv A (o + i)
def E (b : Addr) (A : Cell) (o len : Nat) (r : Option Value) (s u : State) : Prop := NewArr .byte "[B" len (fun j => .int (lo8 (cv A (o + j)))) r s u ∧ u.heap.size = s.heap.size + 1
/-- no char of the range above 255: a new byte[] of their low bytes -/
theorem law (l : Launch) (b : Addr) (A : Cell) (o len : Nat) : Law l yN 3 3 1 18 yB 6 (some (.array .byte)) site (P b A o len) (E b A o len) [] 1 len := by
  refine Law.of_walk (plainFor_of_name (by decide +kernel)) (by decide +kernel) (by decide +kernel) (by decide) (fun _ _ h => by rw [h.1]; rfl) (fun _ U U' hal hh h => ⟨h.1, h.2.1.mv hal hh, h.2.2⟩) (fun r U U' V V' h1 hal h2 h => ⟨NewArr.mv r U U' V V' h1 hal h2 h.1, by rw [h1, h2]; exact h.2⟩) ?_
  intro p e s m args below meth c s₁ X0 hexec hbytes hml hret hlk hnm hown hh0 W hP
  obtain ⟨rfl, hA, l1, l2, hp⟩ := hP
  have a31 := hA.1.2.2.2
  have c1 : Steps p.tables e below (s₁.setTop (entryFrame m #[.ref b, .int (Int32.ofNat o), .int (Int32.ofNat len)] 6)) (s₁.setTop (mkF m 0 #[.val (.ref b), .val (.int (Int32.ofNat o)), .val (.int (Int32.ofNat len)), .unset, .unset, .unset] [])) := entry rfl
  have c2 : Steps p.tables e below (s₁.setTop (entryFrame m #[.ref b, .int (Int32.ofNat o), .int (Int32.ofNat len)] 6)) (s₁.setTop (mkF m 1 #[.val (.ref b), .val (.int (Int32.ofNat o)), .val (.int (Int32.ofNat len)), .unset, .unset, .unset] [.int (Int32.ofNat len)])) := c1.trans (by
    refine XS.iloadN X0.here hexec rfl (hb hbytes d0) rfl ?_
    exact Steps.refl _)
  obtain ⟨T3, B3, X3, ba3, bs3, bv3, bh3, bf3, st3⟩ := X0.anew hexec (atype := .byte) (wk W (.arrayClass .byte)) rfl (by show len * 1 ≤ _; omega) (by omega) (g := (mkF m 1 #[.val (.ref b), .val (.int (Int32.ofNat o)), .val (.int (Int32.ofNat len)), .unset, .unset, .unset] [.int (Int32.ofNat len)])) rfl (hb hbytes d1) (rest := []) rfl (Nat.le_refl _) (by show 0 + len ≤ len; omega)
  rw [hh0] at ba3 st3
  have kp3 : XT.Kept s T3 := (XT.Kept.of_eq hh0).push bh3
  have hA3 := hA.keep X3.warmed.alike (kp3 _ _ hA.1.1)
  have hne : b ≠ s.heap.size := hA.1.ne
  have c4 : Steps p.tables e below (s₁.setTop (entryFrame m #[.ref b, .int (Int32.ofNat o), .int (Int32.ofNat len)] 6)) (T3.setTop (mkF m 3 #[.val (.ref b), .val (.int (Int32.ofNat o)), .val (.int (Int32.ofNat len)), .unset, .unset, .unset] [.ref s.heap.size])) := c2.trans (st3 _ (Steps.refl _))
  have c5 : Steps p.tables e below (s₁.setTop (entryFrame m #[.ref b, .int (Int32.ofNat o), .int (Int32.ofNat len)] 6)) (T3.setTop (mkF m 9 #[.val (.ref b), .val (.int (Int32.ofNat o)), .val (.int (Int32.ofNat len)), .val (.ref s.heap.size), .unset, .unset] [.int (Int32.ofNat len), .int 0, .ref s.heap.size, .int (Int32.ofNat o), .ref b])) := c4.trans (by
    refine XS.astoreN X3.here hexec rfl (hb hbytes d3) rfl rfl rfl ?_
    refine XS.aloadN X3.here hexec rfl (hb hbytes d4) rfl rfl ?_
    refine XS.iloadN X3.here hexec rfl (hb hbytes d5) rfl ?_
    refine XS.aloadN X3.here hexec rfl (hb hbytes d6) rfl rfl ?_
    refine iconstV X3.here hexec rfl 0 (hb hbytes d7) (by decide) ?_
    refine XS.iloadN X3.here hexec rfl (hb hbytes d8) rfl ?_
    exact Steps.refl _)
  obtain ⟨v6, T6, X6, E6, g6⟩ := X3.callS hexec (Cmp5.law l b A s.heap.size B3 o 0 len) hown (wks W (staticW U16 115 Cmp5.yN)) (wk W Cmp5.tab) (W := 0) (Nat.le_of_ble_eq_true rfl) (Nat.le_of_ble_eq_true rfl) (Nat.le_refl _) (by show 0 + len + 0 ≤ len; omega) (g := (mkF m 9 #[.val (.ref b), .val (.int (Int32.ofNat o)), .val (.int (Int32.ofNat len)), .val (.ref s.heap.size), .unset, .unset] [.int (Int32.ofNat len), .int (Int32.ofNat 0), .ref s.heap.size, .int (Int32.ofNat o), .ref b])) rfl (by rw [hml]; rfl) c5 (argsL := [.ref b, .int (Int32.ofNat o), .ref s.heap.size, .int (Int32.ofNat 0), .int (Int32.ofNat len)]) (rest := []) rfl rfl (by show 2 * 0 + 0 ≤ _; decide) (hb hbytes d9) (⟨rfl, hA3, ba3, hne, l1, by rw [bs3]; simp, hp⟩)
  obtain ⟨rfl, B6, p6, f6⟩ := E6
  have c7 : Steps p.tables e below (s₁.setTop (entryFrame m #[.ref b, .int (Int32.ofNat o), .int (Int32.ofNat len)] 6)) (T6.setTop (mkF m 12 #[.val (.ref b), .val (.int (Int32.ofNat o)), .val (.int (Int32.ofNat len)), .val (.ref s.heap.size), .unset, .unset] [.int (Int32.ofNat len)])) := g6
  have c8 : Steps p.tables e below (s₁.setTop (entryFrame m #[.ref b, .int (Int32.ofNat o), .int (Int32.ofNat len)] 6)) (T6.setTop (mkF m 58 #[.val (.ref b), .val (.int (Int32.ofNat o)), .val (.int (Int32.ofNat len)), .val (.ref s.heap.size), .val (.int (Int32.ofNat len)), .unset] [.ref s.heap.size])) := c7.trans (by
    refine XS.istore X6.here hexec rfl (hb hbytes d12) rfl rfl ?_
    refine XS.iload X6.here hexec rfl (hb hbytes d14) rfl ?_
    refine XS.iloadN X6.here hexec rfl (hb hbytes d16) rfl ?_
    refine XS.icmpYes X6.here hexec rfl (pc0 := 17) rfl (hb hbytes d17) rfl (ii_eq_t rfl) (by decide) rfl ?_
    refine XS.aloadN X6.here hexec rfl (hb hbytes d57) rfl rfl ?_
    exact Steps.refl _)
  have X8 := X6.wide (L' := []) (cells' := 1) (slots' := len) (fun x hx hlt => by
    simp only [List.nil_append, copyLocs, List.mem_map, List.mem_range] at hx
    obtain ⟨i, -, rfl⟩ := hx
    exact absurd hlt (Nat.lt_irrefl _)) (Nat.le_refl _) (by omega)
  exact ⟨T6, some (.ref s.heap.size), _, _, _, X8, rfl, rfl, rfl, (fun h => by cases h), ⟨⟨rfl, B6, ba3.like (X3.warmed.alike.symm.trans X6.warmed.alike) p6.1 f6.1 f6.2.1 f6.2.2.1, f6.2.1.trans bv3, by rw [X6.warmed.alike.findClass, f6.1]; exact bf3, by rw [f6.2.2.1, bs3]; simp, fun j hj => by rw [f6.2.2.2 j, if_pos (by omega)]; rfl, kp3.put p6 (Nat.le_refl _)⟩, by rw [p6.2.2, bh3, hh0]; simp⟩, fun fs hl => c8.trans (X8.areturnOut hexec rfl hret rfl (hb hbytes d58) hl)⟩
end Cmp3
namespace CodL
def yN : MethodName := ⟨"java/lang/StringUTF16", "coderFromArrayLen", "([BI)B"⟩
abbrev yB : ByteArray := jdk_52_method_15_code
theorem d0 : decode yB 0 = .ok (.iload_n 1, 1) := by decide +kernel
theorem d1 : decode yB 1 = .ok (.aload_n 0, 1) := by decide +kernel
theorem d2 : decode yB 2 = .ok (.arraylength, 1) := by decide +kernel
theorem d3 : decode yB 3 = .ok (.isub, 1) := by decide +kernel
theorem d4 : decode yB 4 = .ok (.bipush 31, 2) := by decide +kernel
theorem d6 : decode yB 6 = .ok (.iushr, 1) := by decide +kernel
theorem d7 : decode yB 7 = .ok (.i2b, 1) := by decide +kernel
theorem d8 : decode yB 8 = .ok (.ireturn, 1) := by decide +kernel
def site : List Cond := []
def tab : Cond := tabOf yN yB 2 (some .byte) site
def P (d : Addr) (B : Cell) (args : Array Value) (s : State) : Prop := args = #[.ref d, .int (Int32.ofNat B.slots.size)] ∧ Arr .byte d B s
def E (r : Option Value) (s u : State) : Prop := XT.PureE (some (.int 0)) r s u
/-- an array as long as the number of chars: LATIN1 -/
theorem law (l : Launch) (d : Addr) (B : Cell) : Law l yN 2 2 0 0 yB 2 (some .byte) site (P d B) E [] 0 0 := by
  refine Law.of_walk (plainFor_of_name (by decide +kernel)) (by decide +kernel) (by decide +kernel) (by decide) (fun _ _ h => by rw [h.1]; rfl) (fun _ U U' hal hh h => ⟨h.1, h.2.mv hal hh⟩) (fun r U U' V V' h1 hal h2 h => XT.PureE.mv r U U' V V' h1 hal h2 h) ?_
  intro p e s m args below meth c s₁ X0 hexec hbytes hml hret hlk hnm hown hh0 W hP
  obtain ⟨rfl, hB⟩ := hP
  have hB0 := hB.mv X0.warmed.alike hh0
  have c1 : Steps p.tables e below (s₁.setTop (entryFrame m #[.ref d, .int (Int32.ofNat B.slots.size)] 2)) (s₁.setTop (mkF m 0 #[.val (.ref d), .val (.int (Int32.ofNat B.slots.size))] [])) := entry rfl
  have c2 : Steps p.tables e below (s₁.setTop (entryFrame m #[.ref d, .int (Int32.ofNat B.slots.size)] 2)) (s₁.setTop (mkF m 2 #[.val (.ref d), .val (.int (Int32.ofNat B.slots.size))] [.ref d, .int (Int32.ofNat B.slots.size)])) := c1.trans (by
    refine XS.iloadN X0.here hexec rfl (hb hbytes d0) rfl ?_
    refine XS.aloadN X0.here hexec rfl (hb hbytes d1) rfl rfl ?_
    exact Steps.refl _)
  have c3 : Steps p.tables e below (s₁.setTop (entryFrame m #[.ref d, .int (Int32.ofNat B.slots.size)] 2)) (s₁.setTop (mkF m 8 #[.val (.ref d), .val (.int (Int32.ofNat B.slots.size))] [.int (lo8 (ushr (Int32.ofNat B.slots.size - Int32.ofNat B.slots.size) 31))])) := c2.trans (by
    refine X0.alen hexec hB0 rfl rfl (hb hbytes d2) ?_
    refine XS.isub X0.here hexec rfl (hb hbytes d3) rfl ?_
    refine bipushV X0.here hexec rfl 31 (hb hbytes d4) (by decide) ?_
    refine iushr X0.here hexec rfl (hb hbytes d6) rfl ?_
    refine i2b X0.here hexec rfl (hb hbytes d7) rfl ?_
    exact Steps.refl _)
  have e0 : lo8 (ushr (Int32.ofNat B.slots.size - Int32.ofNat B.slots.size) 31) = 0 := by rw [Int32.sub_self]; decide
  rw [e0] at c3
  exact ⟨s₁, some (.int 0), _, _, _, X0, rfl, rfl, rfl, (fun h => by cases h), ⟨rfl, hh0⟩, fun fs hl => c3.trans (X0.ireturnOut hexec hret rfl (Or.inr (Or.inr (Or.inl rfl))) (hb hbytes d8) hl)⟩
end CodL
/-- the String at a is Latin-1 over a new byte[] (the heap's one new cell): the low bytes of the len chars of A from o on; every cell but a is kept -/
def Got (a : Addr) (D : Cell) (fV fC : Field) (A : Cell) (o len : Nat) (r : Option Value) (s u : State) : Prop := r = none ∧ ∃ D' V : Cell, Blank "java/lang/String" a D' u ∧ Same D D' [fV.slot, fC.slot] ∧ D'.slots[fV.slot]? = some (.ref s.heap.size) ∧ D'.slots[fC.slot]? = some (.int 0) ∧ Arr .byte s.heap.size V u ∧ V.vm = .none ∧ u.vm.findClass "[B" = some V.cls ∧ V.slots.size = len ∧ (∀ j, j < len → V.slots[j]? = some (.int (lo8 (cv A (o + j))))) ∧ (∀ (y : Addr) (c : Cell), y ≠ a → s.heap[y]? = some c → u.heap[y]? = some c) ∧ u.heap.size = s.heap.size + 1
theorem Got.mv {a : Addr} {D A : Cell} {fV fC : Field} {o len : Nat} : ∀ r (U U' V V' : State), U'.heap = U.heap → V.vm.Alike V'.vm → V'.heap = V.heap → Got a D fV fC A o len r U V → Got a D fV fC A o len r U' V' :=
  fun r U U' V V' h1 hal h2 ⟨e0, D', X, a1, a2, a3, a4, a5, a6, a7, a8, a9, a10, a11⟩ => ⟨e0, D', X, a1.mv hal h2, a2, by rw [h1]; exact a3, a4, by rw [h1]; exact a5.mv hal h2, a6, by rw [hal.findClass]; exact a7, a8, a9, by rw [h1, h2]; exact a10, by rw [h1, h2]; exact a11⟩
namespace New4
def yN : MethodName := ⟨"java/lang/String", "<init>", "([CIILjava/lang/Void;)V"⟩
abbrev yB : ByteArray := jdk_42_method_149_code
theorem d0 : decode yB 0 = .ok (.aload_n 0, 1) := by decide +kernel
theorem d1 : decode yB 1 = .ok (.invokespecial 1, 3) := by decide +kernel
theorem d4 : decode yB 4 = .ok (.iload_n 3, 1) := by decide +kernel
theorem d5 : decode yB 5 = .ok (.ifCond (.ne) 22, 3) := by decide +kernel
theorem d27 : decode yB 27 = .ok (.getstatic 38, 3) := by decide +kernel
theorem d30 : decode yB 30 = .ok (.ifCond (.eq) 28, 3) := by decide +kernel
theorem d33 : decode yB 33 = .ok (.aload_n 1, 1) := by decide +kernel
theorem d34 : decode yB 34 = .ok (.iload_n 2, 1) := by decide +kernel
theorem d35 : decode yB 35 = .ok (.iload_n 3, 1) := by decide +kernel
theorem d36 : decode yB 36 = .ok (.invokestatic 177, 3) := by decide +kernel
theorem d39 : decode yB 39 = .ok (.astore 5, 2) := by decide +kernel
theorem d41 : decode yB 41 = .ok (.aload_n 0, 1) := by decide +kernel
theorem d42 : decode yB 42 = .ok (.aload 5, 2) := by decide +kernel
theorem d44 : decode yB 44 = .ok (.iload_n 3, 1) := by decide +kernel
theorem d45 : decode yB 45 = .ok (.invokestatic 47, 3) := by decide +kernel
theorem d48 : decode yB 48 = .ok (.putfield 15, 3) := by decide +kernel
theorem d51 : decode yB 51 = .ok (.aload_n 0, 1) := by decide +kernel
theorem d52 : decode yB 52 = .ok (.aload 5, 2) := by decide +kernel
theorem d54 : decode yB 54 = .ok (.putfield 9, 3) := by decide +kernel
theorem d57 : decode yB 57 = .ok (.return_, 1) := by decide +kernel
def site : List Cond := [.fieldLink "java/lang/String" 38 "java/lang/String" "COMPACT_STRINGS" "Z", Cmp3.tab, CodL.tab, .laysFinal "java/lang/String" "java/lang/String" "value" "[B", .fieldLink "java/lang/String" 9 "java/lang/String" "value" "[B", .laysFinal "java/lang/String" "java/lang/String" "coder" "B", .fieldLink "java/lang/String" 15 "java/lang/String" "coder" "B"] ++ objW "java/lang/String" 1 ++ staticW "java/lang/String" 177 Cmp3.yN ++ staticW "java/lang/String" 47 CodL.yN
def tab : Cond := tabOf yN yB 6 none site
def P (a : Addr) (D : Cell) (fV fC : Field) (b : Addr) (A : Cell) (z : Int32) (o len : Nat) (args : Array Value) (s : State) : Prop := args = #[.ref a, .ref b, .int (Int32.ofNat o), .int (Int32.ofNat len), .null] ∧ Blank "java/lang/String" a D s ∧ Found "java/lang/String" "value" "[B" fV s ∧ Found "java/lang/String" "coder" "B" fC s ∧ Ch b A s ∧ StaticIs s "java/lang/String" "COMPACT_STRINGS" "Z" (.int z) ∧ ¬ z = 0 ∧ 0 < len ∧ o + len ≤ A.slots.size ∧ len ≤ 536870912 ∧ ∀ i, i < len → ¬ 255 < cv A (o + i)
def E (a : Addr) (D : Cell) (fV fC : Field) (A : Cell) (o len : Nat) (r : Option Value) (s u : State) : Prop := Got a D fV fC A o len r s u
/-- len > 0, no char of the range above 255: a Latin-1 String of their low bytes -/
theorem law (l : Launch) (a : Addr) (D : Cell) (fV fC : Field) (b : Addr) (A : Cell) (z : Int32) (o len : Nat) : Law l yN 5 4 2 35 yB 6 none site (P a D fV fC b A z o len) (E a D fV fC A o len) [⟨a, fC.slot⟩, ⟨a, fV.slot⟩] 1 len := by
  refine Law.of_walk (plainFor_of_name (by decide +kernel)) (by decide +kernel) (by decide +kernel) (by decide) (fun _ _ h => by rw [h.1]; rfl) (fun _ U U' hal hh h => ⟨h.1, h.2.1.mv hal hh, h.2.2.1.al hal, h.2.2.2.1.al hal, h.2.2.2.2.1.mv hal hh, h.2.2.2.2.2.1.there hal hh, h.2.2.2.2.2.2⟩) (fun r U U' V V' h1 hal h2 h => Got.mv r U U' V V' h1 hal h2 h) ?_
  intro p e s m args below meth c s₁ X0 hexec hbytes hml hret hlk hnm hown hh0 W hP
  obtain ⟨rfl, hB, f1, f2, hA, s1, hz, l0, l1, l2, hp⟩ := hP
  have a31 := hA.1.2.2.2
  have c1 : Steps p.tables e below (s₁.setTop (entryFrame m #[.ref a, .ref b, .int (Int32.ofNat o), .int (Int32.ofNat len), .null] 6)) (s₁.setTop (mkF m 0 #[.val (.ref a), .val (.ref b), .val (.int (Int32.ofNat o)), .val (.int (Int32.ofNat len)), .val .null, .unset] [])) := entry rfl
  have c2 : Steps p.tables e below (s₁.setTop (entryFrame m #[.ref a, .ref b, .int (Int32.ofNat o), .int (Int32.ofNat len), .null] 6)) (s₁.setTop (mkF m 1 #[.val (.ref a), .val (.ref b), .val (.int (Int32.ofNat o)), .val (.int (Int32.ofNat len)), .val .null, .unset] [.ref a])) := c1.trans (by
    refine XS.aloadN X0.here hexec rfl (hb hbytes d0) rfl rfl ?_
    exact Steps.refl _)
  obtain ⟨T3, X3, q3, st3⟩ := X0.oinit hexec hown (wks W (objW "java/lang/String" 1)) (g := (mkF m 1 #[.val (.ref a), .val (.ref b), .val (.int (Int32.ofNat o)), .val (.int (Int32.ofNat len)), .val .null, .unset] [.ref a])) rfl (by rw [hml]; rfl) (rest := []) rfl (hb hbytes d1) (W := 0) (by show 2 * 0 + 0 ≤ _; decide) (Nat.le_of_ble_eq_true rfl) (Nat.le_of_ble_eq_true rfl)
  have hh3 := q3.trans hh0
  have c4 : Steps p.tables e below (s₁.setTop (entryFrame m #[.ref a, .ref b, .int (Int32.ofNat o), .int (Int32.ofNat len), .null] 6)) (T3.setTop (mkF m 27 #[.val (.ref a), .val (.ref b), .val (.int (Int32.ofNat o)), .val (.int (Int32.ofNat len)), .val .null, .unset] [])) := (c2.trans (st3 _ (Steps.refl _))).trans (by
    refine XS.iloadN X3.here hexec rfl (hb hbytes d4) rfl ?_
    refine XS.ifYes X3.here hexec rfl (pc0 := 5) rfl (hb hbytes d5) rfl (i0_ne_t (nz32 (by omega) l0)) (by decide) rfl ?_
    exact Steps.refl _)
  obtain ⟨T5, X5, q5, st5⟩ := X3.sget hexec hown (wk W (.fieldLink "java/lang/String" 38 "java/lang/String" "COMPACT_STRINGS" "Z")) s1 (fun _ _ h => by rw [hh3]; exact h) (g := (mkF m 27 #[.val (.ref a), .val (.ref b), .val (.int (Int32.ofNat o)), .val (.int (Int32.ofNat len)), .val .null, .unset] [])) rfl (hb hbytes d27)
  have hh5 := q5.trans hh3
  have c6 : Steps p.tables e below (s₁.setTop (entryFrame m #[.ref a, .ref b, .int (Int32.ofNat o), .int (Int32.ofNat len), .null] 6)) (T5.setTop (mkF m 30 #[.val (.ref a), .val (.ref b), .val (.int (Int32.ofNat o)), .val (.int (Int32.ofNat len)), .val .null, .unset] [.int z])) := c4.trans (st5 _ (Steps.refl _))
  have c7 : Steps p.tables e below (s₁.setTop (entryFrame m #[.ref a, .ref b, .int (Int32.ofNat o), .int (Int32.ofNat len), .null] 6)) (T5.setTop (mkF m 36 #[.val (.ref a), .val (.ref b), .val (.int (Int32.ofNat o)), .val (.int (Int32.ofNat len)), .val .null, .unset] [.int (Int32.ofNat len), .int (Int32.ofNat o), .ref b])) := c6.trans (by
    refine XS.ifNo X5.here hexec rfl (hb hbytes d30) rfl (i0_eq_f hz) ?_
    refine XS.aloadN X5.here hexec rfl (hb hbytes d33) rfl rfl ?_
    refine XS.iloadN X5.here hexec rfl (hb hbytes d34) rfl ?_
    refine XS.iloadN X5.here hexec rfl (hb hbytes d35) rfl ?_
    exact Steps.refl _)
  obtain ⟨v8, T8, X8, E8, g8⟩ := X5.callS hexec (Cmp3.law l b A o len) hown (wks W (staticW "java/lang/String" 177 Cmp3.yN)) (wk W Cmp3.tab) (W := 0) (Nat.le_of_ble_eq_true rfl) (Nat.le_of_ble_eq_true rfl) (Nat.le_refl _) (by show 0 + len ≤ len; omega) (g := (mkF m 36 #[.val (.ref a), .val (.ref b), .val (.int (Int32.ofNat o)), .val (.int (Int32.ofNat len)), .val .null, .unset] [.int (Int32.ofNat len), .int (Int32.ofNat o), .ref b])) rfl (by rw [hml]; rfl) c7 (argsL := [.ref b, .int (Int32.ofNat o), .int (Int32.ofNat len)]) (rest := []) rfl rfl (by show 2 * 0 + 0 ≤ _; decide) (hb hbytes d36) (⟨rfl, hA.mv X5.warmed.alike hh5, l1, l2, hp⟩)
  obtain ⟨e8, z8⟩ := E8
  obtain ⟨rfl, N, n1, n2, n3, n4, n5, n6⟩ := NewArr.mv _ T5 s _ _ hh5.symm (Vm.Alike.refl _) rfl e8
  rw [hh5] at z8
  have hB1 := hB.keep X8.warmed.alike (n6 _ _ hB.1)
  have hne : s.heap.size ≠ a := (Nat.ne_of_lt (Array.getElem?_eq_some_iff.mp hB.1).1).symm
  have c9 : Steps p.tables e below (s₁.setTop (entryFrame m #[.ref a, .ref b, .int (Int32.ofNat o), .int (Int32.ofNat len), .null] 6)) (T8.setTop (mkF m 39 #[.val (.ref a), .val (.ref b), .val (.int (Int32.ofNat o)), .val (.int (Int32.ofNat len)), .val .null, .unset] [.ref s.heap.size])) := g8
  have c10 : Steps p.tables e below (s₁.setTop (entryFrame m #[.ref a, .ref b, .int (Int32.ofNat o), .int (Int32.ofNat len), .null] 6)) (T8.setTop (mkF m 45 #[.val (.ref a), .val (.ref b), .val (.int (Int32.ofNat o)), .val (.int (Int32.ofNat len)), .val .null, .val (.ref s.heap.size)] [.int (Int32.ofNat N.slots.size), .ref s.heap.size, .ref a])) := by
    have hc : Steps p.tables e below (s₁.setTop (entryFrame m #[.ref a, .ref b, .int (Int32.ofNat o), .int (Int32.ofNat len), .null] 6)) (T8.setTop (mkF m 45 #[.val (.ref a), .val (.ref b), .val (.int (Int32.ofNat o)), .val (.int (Int32.ofNat len)), .val .null, .val (.ref s.heap.size)] [.int (Int32.ofNat len), .ref s.heap.size, .ref a])) := c9.trans (by
      refine XS.astore X8.here hexec rfl (hb hbytes d39) rfl rfl rfl ?_
      refine XS.aloadN X8.here hexec rfl (hb hbytes d41) rfl rfl ?_
      refine XS.aload X8.here hexec rfl (hb hbytes d42) rfl rfl ?_
      refine XS.iloadN X8.here hexec rfl (hb hbytes d44) rfl ?_
      exact Steps.refl _)
    rw [n4]; exact hc
  obtain ⟨v11, T11, X11, E11, g11⟩ := X8.callS hexec (CodL.law l s.heap.size N) hown (wks W (staticW "java/lang/String" 47 CodL.yN)) (wk W CodL.tab) (W := 1) (Nat.le_of_ble_eq_true rfl) (Nat.le_of_ble_eq_true rfl) (Nat.le_refl _) (by show 0 + len + 0 ≤ len; omega) (g := (mkF m 45 #[.val (.ref a), .val (.ref b), .val (.int (Int32.ofNat o)), .val (.int (Int32.ofNat len)), .val .null, .val (.ref s.heap.size)] [.int (Int32.ofNat N.slots.size), .ref s.heap.size, .ref a])) rfl (by rw [hml]; rfl) c10 (argsL := [.ref s.heap.size, .int (Int32.ofNat N.slots.size)]) (rest := [.ref a]) rfl rfl (by show 2 * 0 + (1 + 0) ≤ _; decide) (hb hbytes d45) (⟨rfl, n1⟩)
  obtain ⟨rfl, q11⟩ := E11
  have hB11 := hB1.mv (X8.warmed.alike.symm.trans X11.warmed.alike) q11
  have c12 : Steps p.tables e below (s₁.setTop (entryFrame m #[.ref a, .ref b, .int (Int32.ofNat o), .int (Int32.ofNat len), .null] 6)) (T11.setTop (mkF m 48 #[.val (.ref a), .val (.ref b), .val (.int (Int32.ofNat o)), .val (.int (Int32.ofNat len)), .val .null, .val (.ref s.heap.size)] [.int 0, .ref a])) := g11
  obtain ⟨T13, X13, p13, bl13, sl13, st13⟩ := X11.finit hexec hown (wk W (.fieldLink "java/lang/String" 15 "java/lang/String" "coder" "B")) (Or.inr ⟨_, (wk W (.laysFinal "java/lang/String" "java/lang/String" "coder" "B"))⟩) (Or.inl ⟨rfl, hnm⟩) f2 (Or.inl rfl) hB11 (t := .byte) (by decide +kernel) rfl (g := (mkF m 48 #[.val (.ref a), .val (.ref b), .val (.int (Int32.ofNat o)), .val (.int (Int32.ofNat len)), .val .null, .val (.ref s.heap.size)] [.int 0, .ref a])) rfl (rest := []) rfl (hb hbytes d48)
  have c14 : Steps p.tables e below (s₁.setTop (entryFrame m #[.ref a, .ref b, .int (Int32.ofNat o), .int (Int32.ofNat len), .null] 6)) (T13.setTop (mkF m 54 #[.val (.ref a), .val (.ref b), .val (.int (Int32.ofNat o)), .val (.int (Int32.ofNat len)), .val .null, .val (.ref s.heap.size)] [.ref s.heap.size, .ref a])) := (c12.trans (st13 _ (Steps.refl _))).trans (by
    refine XS.aloadN X13.here hexec rfl (hb hbytes d51) rfl rfl ?_
    refine XS.aload X13.here hexec rfl (hb hbytes d52) rfl rfl ?_
    exact Steps.refl _)
  obtain ⟨T15, X15, p15, bl15, sl15, st15⟩ := X13.finit hexec hown (wk W (.fieldLink "java/lang/String" 9 "java/lang/String" "value" "[B")) (Or.inr ⟨_, (wk W (.laysFinal "java/lang/String" "java/lang/String" "value" "[B"))⟩) (Or.inl ⟨rfl, hnm⟩) f1 (Or.inl rfl) bl13 (t := (.array .byte)) (by decide +kernel) rfl (g := (mkF m 54 #[.val (.ref a), .val (.ref b), .val (.int (Int32.ofNat o)), .val (.int (Int32.ofNat len)), .val .null, .val (.ref s.heap.size)] [.ref s.heap.size, .ref a])) rfl (rest := []) rfl (hb hbytes d54)
  have c16 : Steps p.tables e below (s₁.setTop (entryFrame m #[.ref a, .ref b, .int (Int32.ofNat o), .int (Int32.ofNat len), .null] 6)) (T15.setTop (mkF m 57 #[.val (.ref a), .val (.ref b), .val (.int (Int32.ofNat o)), .val (.int (Int32.ofNat len)), .val .null, .val (.ref s.heap.size)] [])) := c14.trans (st15 _ (Steps.refl _))
  have ap := apart (Or.inr ⟨_, (wk W (.laysFinal "java/lang/String" "java/lang/String" "value" "[B"))⟩) (Or.inr ⟨_, (wk W (.laysFinal "java/lang/String" "java/lang/String" "coder" "B"))⟩) f1 f2 (t₁ := .array .byte) (t₂ := .byte) (by decide +kernel) (by decide +kernel) (by decide)
  have al := X8.warmed.alike.symm.trans X15.warmed.alike
  have n7 : T11.heap[s.heap.size]? = some N := by rw [q11]; exact n1.1
  exact ⟨T15, none, _, _, _, X15, by simp, rfl, by omega, (fun _ => rfl), ⟨rfl, _, N, bl15, ((Same.refl D _).set _ (by simp)).set _ (by simp), sl15, (Cell.slots_setSlot_ne _ ap).trans sl13, n1.keep al (p15.other hne (p13.other hne n7)), n2, by rw [al.findClass]; exact n3, n4, n5, fun y c h1 h2 => p15.other h1 (p13.other h1 (by rw [q11]; exact n6 y c h2)), by rw [p15.2.2, p13.2.2, q11]; exact z8⟩, fun fs hl => c16.trans (X15.returnOut hexec hret (hb hbytes d57) hl)⟩
end New4
namespace New1
def yN : MethodName := ⟨"java/lang/String", "<init>", "([C)V"⟩
abbrev yB : ByteArray := jdk_42_method_3_code
theorem d0 : decode yB 0 = .ok (.aload_n 0, 1) := by decide +kernel
theorem d1 : decode yB 1 = .ok (.aload_n 1, 1) := by decide +kernel
theorem d2 : decode yB 2 = .ok (.iconst 0, 1) := by decide +kernel
theorem d3 : decode yB 3 = .ok (.aload_n 1, 1) := by decide +kernel
theorem d4 : decode yB 4 = .ok (.arraylength, 1) := by decide +kernel
theorem d5 : decode yB 5 = .ok (.aconst_null, 1) := by decide +kernel
theorem d6 : decode yB 6 = .ok (.invokespecial 27, 3) := by decide +kernel
theorem d9 : decode yB 9 = .ok (.return_, 1) := by decide +kernel
def site : List Cond := [New4.tab] ++ initW "java/lang/String" 27 New4.yN
def tab : Cond := tabOf yN yB 2 none site
def P (a : Addr) (D : Cell) (fV fC : Field) (b : Addr) (A : Cell) (z : Int32) (args : Array Value) (s : State) : Prop := args = #[.ref a, .ref b] ∧ Blank "java/lang/String" a D s ∧ Found "java/lang/String" "value" "[B" fV s ∧ Found "java/lang/String" "coder" "B" fC s ∧ Ch b A s ∧ StaticIs s "java/lang/String" "COMPACT_STRINGS" "Z" (.int z) ∧ ¬ z = 0 ∧ 0 < A.slots.size ∧ A.slots.size ≤ 536870912 ∧ ∀ i, i < A.slots.size → ¬ 255 < cv A i
def E (a : Addr) (D : Cell) (fV fC : Field) (A : Cell) (r : Option Value) (s u : State) : Prop := Got a D fV fC A 0 A.slots.size r s u
/-- new String(chars), not empty, no char above 255: a Latin-1 String of their low bytes -/
theorem law (l : Launch) (a : Addr) (D : Cell) (fV fC : Field) (b : Addr) (A : Cell) (z : Int32) : Law l yN 2 1 3 52 yB 2 none site (P a D fV fC b A z) (E a D fV fC A) [⟨a, fC.slot⟩, ⟨a, fV.slot⟩] 1 A.slots.size := by
  refine Law.of_walk (plainFor_of_name (by decide +kernel)) (by decide +kernel) (by decide +kernel) (by decide) (fun _ _ h => by rw [h.1]; rfl) (fun _ U U' hal hh h => ⟨h.1, h.2.1.mv hal hh, h.2.2.1.al hal, h.2.2.2.1.al hal, h.2.2.2.2.1.mv hal hh, h.2.2.2.2.2.1.there hal hh, h.2.2.2.2.2.2⟩) (fun r U U' V V' h1 hal h2 h => Got.mv r U U' V V' h1 hal h2 h) ?_
  intro p e s m args below meth c s₁ X0 hexec hbytes hml hret hlk hnm hown hh0 W hP
  obtain ⟨rfl, hB, f1, f2, hA, s1, hz, l0, l2, hp⟩ := hP
  have c1 : Steps p.tables e below (s₁.setTop (entryFrame m #[.ref a, .ref b] 2)) (s₁.setTop (mkF m 0 #[.val (.ref a), .val (.ref b)] [])) := entry rfl
  have c2 : Steps p.tables e below (s₁.setTop (entryFrame m #[.ref a, .ref b] 2)) (s₁.setTop (mkF m 6 #[.val (.ref a), .val (.ref b)] [.null, .int (Int32.ofNat A.slots.size), .int 0, .ref b, .ref a])) := c1.trans (by
    refine XS.aloadN X0.here hexec rfl (hb hbytes d0) rfl rfl ?_
    refine XS.aloadN X0.here hexec rfl (hb hbytes d1) rfl rfl ?_
    refine iconstV X0.here hexec rfl 0 (hb hbytes d2) (by decide) ?_
    refine XS.aloadN X0.here hexec rfl (hb hbytes d3) rfl rfl ?_
    refine X0.alen hexec (hA.1.mv X0.warmed.alike hh0) rfl rfl (hb hbytes d4) ?_
    refine XS.aconstNull X0.here hexec rfl (hb hbytes d5) ?_
    exact Steps.refl _)
  obtain ⟨v3, T3, X3, E3, g3⟩ := X0.callN hexec (New4.law l a D fV fC b A z 0 A.slots.size) rfl hown (wks W (initW "java/lang/String" 27 New4.yN)) (W New4.tab (by simp only [site, List.mem_cons, List.mem_append, true_or, or_true])) (W := 0) (Nat.le_of_ble_eq_true rfl) (Nat.le_of_ble_eq_true rfl) (Nat.le_refl _) (by show 0 + A.slots.size ≤ A.slots.size; omega) (g := (mkF m 6 #[.val (.ref a), .val (.ref b)] [.null, .int (Int32.ofNat A.slots.size), .int (Int32.ofNat 0), .ref b, .ref a])) rfl (by rw [hml]; rfl) c2 (argsL := [.ref b, .int (Int32.ofNat 0), .int (Int32.ofNat A.slots.size), .null]) (rest := []) rfl rfl (by show 2 * 0 + 0 ≤ _; decide) (hb hbytes d6) (⟨rfl, hB.mv X0.warmed.alike hh0, f1.al X0.warmed.alike, f2.al X0.warmed.alike, hA.mv X0.warmed.alike hh0, s1.there X0.warmed.alike hh0, hz, l0, by omega, l2, fun i hi => by rw [Nat.zero_add]; exact hp i hi⟩)
  have e0 := Got.mv _ s₁ s _ _ hh0.symm (Vm.Alike.refl _) rfl E3
  obtain rfl := e0.1
  have c4 : Steps p.tables e below (s₁.setTop (entryFrame m #[.ref a, .ref b] 2)) (T3.setTop (mkF m 9 #[.val (.ref a), .val (.ref b)] [])) := g3
  exact ⟨T3, none, _, _, _, X3, by simp, rfl, by omega, (fun _ => rfl), e0, fun fs hl => c4.trans (X3.returnOut hexec hret (hb hbytes d9) hl)⟩
theorem pays {l : Launch} {R : Room} {p : Program} {e : Env} {below : List Frame} {s : State} {sargs : Array Value} {len W : Nat} (a : Addr) (D : Cell) (fV fC : Field) (b : Addr) (A : Cell) (z : Int32) (htab : tab.before sargs s = true) (hfr : 4 ≤ R.frames) (hlo : W + 65 ≤ R.locals) :
    Back l R p e below s sargs yN len W (fun A₁ a₁ => A₁.cells + 1 ≤ R.cells ∧ A₁.slots + A.slots.size ≤ R.slots ∧ P a D fV fC b A z a₁ A₁.U) (fun A₁ _ v₁ B₁ => E a D fV fC A v₁ A₁.U B₁.U ∧ B₁.locs = A₁.locs ++ [⟨a, fC.slot⟩, ⟨a, fV.slot⟩] ∧ B₁.cells = A₁.cells + 1 ∧ B₁.slots = A₁.slots + A.slots.size) :=
  (law l a D fV fC b A z).pays htab hfr (by omega)
end New1
/-- the byte, read back as charAt reads it, is the char -/
theorem lo8_mask {x : Int32} (h0 : ¬ x < 0) (h1 : ¬ 255 < x) : lo8 x &&& 255 = x := by
  have t : ∀ k : Fin 256, lo8 (Int32.ofNat k.val) &&& 255 = Int32.ofNat k.val := by decide +kernel
  rw [Int32.lt_iff_toInt_lt] at h0 h1
  have e0 : (0 : Int32).toInt = 0 := rfl
  have e1 : (255 : Int32).toInt = 255 := rfl
  obtain ⟨k, hk⟩ : ∃ k : Nat, x.toInt = k := ⟨x.toInt.toNat, by omega⟩
  have hx : x = Int32.ofNat k := Int32.toInt_inj.mp (by rw [hk, Int32.toInt_ofNat_small (by omega)])
  rw [hx]
  exact t ⟨k, by omega⟩
end StrChars
namespace StrChars.Road
open Jvm Sem ClassFile Op Lib Jvm.Stand Jvm.Free Jvm.Free.XT
open Jvm.Lib.Cold (StaticIs)
abbrev ST : String := "java/lang/String"
/-- every table word that New1's law asks, flat -/
abbrev words : List Jvm.Cond := [.code New1.yN New1.yB 2 none, .initialized ST, .methodLink ST 27 New4.yN, .instanceMethod New4.yN,
  .code New4.yN New4.yB 6 none, .fieldLink ST 38 ST "COMPACT_STRINGS" "Z", .laysFinal ST ST "value" "[B", .fieldLink ST 9 ST "value" "[B", .laysFinal ST ST "coder" "B", .fieldLink ST 15 ST "coder" "B",
  .methodLink ST 1 Lib.objectInit, .instanceMethod Lib.objectInit, .code Lib.objectInit ⟨#[0xb1]⟩ 1 none, .methodLink ST 177 Cmp3.yN, .static Cmp3.yN, .methodLink ST 47 CodL.yN, .static CodL.yN,
  .code Cmp3.yN Cmp3.yB 6 (some (.array .byte)), .initialized U16, .arrayClass .byte, .methodLink U16 115 Cmp5.yN, .static Cmp5.yN, .code Cmp5.yN Cmp5.yB 7 (some .int), .code CodL.yN CodL.yB 2 (some .byte)]
theorem tab_of {a : Array Value} {s : State} (h : ∀ w ∈ words, w.before a s = true) : New1.tab.before a s = true := by
  have h5 : Cmp5.tab.before a s = true := unparts (wk h (.code Cmp5.yN Cmp5.yB 7 (some .int))) (wks h (.initialized Cmp5.yN.cls :: Cmp5.site))
  have hc : CodL.tab.before a s = true := unparts (wk h (.code CodL.yN CodL.yB 2 (some .byte))) (wks h (.initialized CodL.yN.cls :: CodL.site))
  have q5 : ∀ w ∈ Cmp5.tab :: words, w.before a s = true := fun w hw => (List.mem_cons.mp hw).elim (fun e => e ▸ h5) (h w)
  have h3 : Cmp3.tab.before a s = true := unparts (wk q5 (.code Cmp3.yN Cmp3.yB 6 (some (.array .byte)))) (wks q5 (.initialized Cmp3.yN.cls :: Cmp3.site))
  have q3 : ∀ w ∈ Cmp3.tab :: CodL.tab :: words, w.before a s = true := fun w hw => (List.mem_cons.mp hw).elim (fun e => e ▸ h3) fun hw => (List.mem_cons.mp hw).elim (fun e => e ▸ hc) (h w)
  have h4 : New4.tab.before a s = true := unparts (wk q3 (.code New4.yN New4.yB 6 none)) (wks q3 (.initialized New4.yN.cls :: New4.site))
  have q4 : ∀ w ∈ New4.tab :: words, w.before a s = true := fun w hw => (List.mem_cons.mp hw).elim (fun e => e ▸ h4) (h w)
  exact unparts (wk q4 (.code New1.yN New1.yB 2 none)) (wks q4 (.initialized New1.yN.cls :: New1.site))
/-- the words ride from the start Z to the walk's own state -/
theorem moved {Z s : State} {a0 args : Array Value} (hZ : Z.Warmed39 s.vm) (hw : ∀ d ∈ words, d.before a0 Z = true) : ∀ d ∈ words, d.before args s = true := fun d hd => by
  have q := hw d hd
  have t : ∀ d ∈ words, d = .arrayClass .byte ∨ (d.onTables && d.keepsFace) = true := by decide +kernel
  rcases t d hd with rfl | t
  · exact RoadKit.mvA hZ q
  · exact RoadKit.mv hZ q t
/-- WHAT COMES BACK, over the tables of the start Z: h the heap at the call, h' behind it -/
def Q (Z : State) (x : Addr) (A : Cell) (h : Heap) (v : Option Value) (h' : Heap) (L : List Loc) : Prop := v = none ∧ (∀ y ∈ L, y.base = x) ∧ RoadKit.Keep h h' [x] ∧ h'.size = h.size + 1 ∧ RoadKit.Exa Z h' x ST ∧ RoadKit.Fld Z h' x ST "value" "[B" (.ref h.size) ∧ RoadKit.Fld Z h' x ST "coder" "B" (.int 0) ∧
  (∃ V : Cell, RoadKit.Arr Z h' h.size V .byte ∧ V.vm = .none ∧ Z.vm.findClass "[B" = some V.cls ∧ V.slots.size = A.slots.size ∧ ∀ j, j < A.slots.size → V.slots[j]? = some (.int (lo8 (cv A j)))) ∧
  ∀ (O n d : String) (w : Value), RoadKit.Fld Z h x O n d w → RoadKit.slotOf Z O n d ≠ RoadKit.slotOf Z ST "value" "[B" → RoadKit.slotOf Z O n d ≠ RoadKit.slotOf Z ST "coder" "B" → RoadKit.Fld Z h' x O n d w
/-- **new String(chars) AT A CALL, IN THE ROAD'S FORM**: for specialBack behind newO: x the fresh String, b the char[] with the cell A -/
theorem back {p : Program} {l : Launch} {e : Env} {R : Room} {s : State} {args : Array Value} {below : List Frame} {len W : Nat} {Z : State} {a0 : Array Value} {h : Heap} (hZ : Z.Warmed39 s.vm) (hw : ∀ d ∈ words, d.before a0 Z = true) {kI : Nat} (wi : (Jvm.Cond.instantiable ST kI).before a0 Z = true)
    {x b : Addr} {A : Cell} {z : Int32} {v0 c0 : Value} (E : RoadKit.Exa Z h x ST) (V : RoadKit.Fld Z h x ST "value" "[B" v0) (C : RoadKit.Fld Z h x ST "coder" "B" c0) (K : RoadKit.Arr Z h b A .char) (hty : Typed .char A) (S : RoadKit.Sta Z h ST "COMPACT_STRINGS" "Z" (.int z)) (hz : ¬ z = 0)
    (l0 : 0 < A.slots.size) (l2 : A.slots.size ≤ 536870912) (hp : ∀ i, i < A.slots.size → ¬ 255 < cv A i) (hfr : 4 ≤ R.frames) (hlo : W + 65 ≤ R.locals) :
    Back l R p e below s args New1.yN len W (fun P a => a = #[.ref x, .ref b] ∧ P.U.heap = h ∧ P.cells + 1 ≤ R.cells ∧ P.slots + A.slots.size ≤ R.slots)
      (fun P _ v B => ∃ L, Q Z x A h v B.U.heap L ∧ B.locs = P.locs ++ L ∧ B.cells = P.cells + 1 ∧ B.slots = P.slots + A.slots.size) := by
  intro m meth c P g ig mk a X hg hsize hdg hW hn hp'
  obtain ⟨rfl, rfl, r1, r2⟩ := hp'
  have al : Z.vm.Alike P.U.vm := hZ.alike.trans X.warmed.alike
  obtain ⟨D, cfV, kV, iV, fV, hD, gV, stV, knV, obV, asV, slV⟩ := id V
  obtain ⟨D', cfC, kC, iC, fC, hD', gC, stC, -, -, asC, slC⟩ := id C
  cases hD.symm.trans hD'
  obtain ⟨D2, kD, e1, e2, e3, e4, e5⟩ := id E
  cases hD.symm.trans e1
  obtain ⟨c2, k2, i1, i2, i3, -⟩ := Cond.instantiable_spec wi
  cases e2.symm.trans i1
  cases e3.symm.trans i2
  obtain ⟨kU, u1, u2⟩ := al.2.2 _ _ e3
  have hB : Blank ST x D P.U := ⟨hD, ⟨knV, fun q hq => by rw [hq] at obV; cases obV⟩, by rw [al.findClass]; exact e2, kU, u1, by rw [u2]; exact i3, by rw [u2]; exact e5 i3⟩
  have F1 : Found ST "value" "[B" fV P.U := ⟨SBG.found_only al ⟨cfV, kV, iV, gV⟩, stV⟩
  have F2 : Found ST "coder" "B" fC P.U := ⟨SBG.found_only al ⟨cfC, kC, iC, gC⟩, stC⟩
  have hA : Ch b A P.U := ⟨⟨K.1, State.isArrayOf_alike al K.2.1, K.2.2, by omega⟩, hty⟩
  have hS : StaticIs P.U ST "COMPACT_STRINGS" "Z" (.int z) := by
    obtain ⟨cfS, iS, kS, fS, st, cS, t1, t2, t3, t4, t5, t6, t7⟩ := S
    exact StaticIs.there (s := { Z with heap := P.U.heap }) ⟨cfS, iS, kS, fS, st, cS, t1, t2, t3, t4, t5, (fun q => by rw [q] at t6; cases t6), t7⟩ al rfl
  obtain ⟨v, B, X', ⟨⟨hv, E', V', q1, q2, q3, q4, q5, q6, q7, q8, q9, q10, q11⟩, hl, hc, hs⟩, st⟩ := New1.pays x D fV fC b A z (tab_of (moved hZ hw)) hfr hlo m meth c P g ig mk _ X hg hsize hdg hW hn ⟨r1, r2, rfl, hB, F1, F2, hA, hS, hz, l0, l2, hp⟩
  have al' : Z.vm.Alike B.U.vm := hZ.alike.trans X'.warmed.alike
  have hsz : E'.slots.size = D.slots.size := by
    obtain ⟨-, -, -, kB, w1, w2, w3⟩ := q1
    obtain ⟨kB', y1, y2⟩ := al'.2.2 _ _ e3
    rw [q2.2.1] at w1
    cases w1.symm.trans y1
    rw [w3, e5 i3, y2]
  refine ⟨v, B, X', ⟨_, ⟨hv, ?_, ⟨by omega, fun y cy hy hn' => q10 y cy (by simpa using hn') hy, fun y cy hy => ?_⟩, q11, ⟨E', _, q1.1, by rw [q2.2.1]; exact e2, by rw [q2.2.1]; exact e3, by rw [q2.1]; exact obV, fun _ => by rw [hsz]; exact e5 i3⟩,
    ⟨E', cfV, kV, iV, fV, q1.1, gV, stV, by rw [q2.1]; exact knV, by rw [q2.1]; exact obV, by rw [q2.2.1]; exact asV, q3⟩, ⟨E', cfC, kC, iC, fC, q1.1, gC, stC, by rw [q2.1]; exact knV, by rw [q2.1]; exact obV, by rw [q2.2.1]; exact asC, q4⟩,
    ⟨V', ⟨q5.1, State.isArrayOf_alike al'.symm q5.2.1, q5.2.2.1⟩, q6, by rw [← al'.findClass]; exact q7, q8, fun j hj => by have := q9 j hj; rwa [Nat.zero_add] at this⟩, fun O n d w F n1 n2 => ?_⟩, hl, hc, hs⟩, st⟩
  · intro y hy
    simp only [List.mem_cons, List.not_mem_nil, or_false] at hy
    rcases hy with rfl | rfl <;> rfl
  · by_cases q : y = x
    · subst q
      cases hD.symm.trans hy
      exact ⟨E', q1.1, q2.2.1, q2.1, hsz⟩
    · exact ⟨cy, q10 y cy q hy, rfl, rfl, rfl⟩
  · obtain ⟨D3, cf, k, i, f, g1, g2, g3, g4, g5, g6, g7⟩ := F
    cases hD.symm.trans g1
    simp only [RoadKit.slotOf, g2, gV, gC, Option.map_some, Option.getD_some] at n1 n2
    exact ⟨E', cf, k, i, f, q1.1, g2, g3, by rw [q2.1]; exact g4, by rw [q2.1]; exact g5, by rw [q2.2.1]; exact g6, by rw [q2.2.2 f.slot (by simp [n1, n2])]; exact g7⟩
end StrChars.Road
namespace StrChars.Road
open Jvm Sem ClassFile Op Lib Jvm.Stand Jvm.Free Jvm.Free.XT
/-- WHAT COMES BACK, the byte[] as a list of values -/
def QA (Z : State) (x : Addr) (zn : Int32) (cs : List Int32) (h : Heap) (v : Option Value) (h' : Heap) (L : List Loc) : Prop := v = none ∧ (∀ y ∈ L, y.base = x) ∧ RoadKit.Keep h h' [x] ∧ h'.size = h.size + 1 ∧ RoadKit.Exa Z h' x ST ∧ RoadKit.Fld Z h' x ST "value" "[B" (.ref h.size) ∧ RoadKit.Fld Z h' x ST "coder" "B" (.int 0) ∧
  (∃ kb, Z.vm.findClass "[B" = some kb ∧ RoadKit.Arv Z h' h.size kb .byte zn (cs.map fun c => .int (lo8 c)) (.int 0)) ∧
  ∀ (O n d : String) (w : Value), RoadKit.Fld Z h x O n d w → RoadKit.slotOf Z O n d ≠ RoadKit.slotOf Z ST "value" "[B" → RoadKit.slotOf Z O n d ≠ RoadKit.slotOf Z ST "coder" "B" → RoadKit.Fld Z h' x O n d w
/-- **new String(chars) AT A CALL, THE ARRAYS AS LISTS**: the char[] at b holds cs, not empty, no char above 255 -/
theorem backArv {p : Program} {l : Launch} {e : Env} {R : Room} {s : State} {args : Array Value} {below : List Frame} {len W : Nat} {Z : State} {a0 : Array Value} {h : Heap} (hZ : Z.Warmed39 s.vm) (hw : ∀ d ∈ words, d.before a0 Z = true) {kI : Nat} (wi : (Jvm.Cond.instantiable ST kI).before a0 Z = true)
    {x b : Addr} {k : ClassId} {zn z : Int32} {cs : List Int32} {dv v0 c0 : Value} (E : RoadKit.Exa Z h x ST) (V : RoadKit.Fld Z h x ST "value" "[B" v0) (C : RoadKit.Fld Z h x ST "coder" "B" c0) (K : RoadKit.Arv Z h b k .char zn (cs.map Value.int) dv) (S : RoadKit.Sta Z h ST "COMPACT_STRINGS" "Z" (.int z)) (hz : ¬ z = 0)
    (hlen : zn.toNatClampNeg = cs.length) (h0 : 0 < cs.length) (hbig : cs.length ≤ 536870912) (hall : ∀ c ∈ cs, ¬ 255 < c) (hfr : 4 ≤ R.frames) (hlo : W + 65 ≤ R.locals) :
    Back l R p e below s args New1.yN len W (fun P a => a = #[.ref x, .ref b] ∧ P.U.heap = h ∧ P.cells + 1 ≤ R.cells ∧ P.slots + cs.length ≤ R.slots)
      (fun P _ v B => ∃ L, QA Z x zn cs h v B.U.heap L ∧ B.locs = P.locs ++ L ∧ B.cells = P.cells + 1 ∧ B.slots = P.slots + cs.length) := by
  obtain ⟨A, K1, K2, K3, K4, K5, K6⟩ := K
  have e : A.slots.size = cs.length := K3.trans hlen
  have hat : ∀ (i : Nat) (hi : i < cs.length), A.slots[i]? = some (.int cs[i]) := fun i hi => by rw [K5 i (by omega)]; simp [List.getD_eq_getElem?_getD, hi]
  have hcv : ∀ (i : Nat) (hi : i < cs.length), cv A i = cs[i] := fun i hi => by unfold cv; rw [hat i hi]
  have hty : Typed .char A := fun i v hv => by
    have hi : i < A.slots.size := (Array.getElem?_eq_some_iff.mp hv).1
    have q := K5 i hi
    rw [hv] at q
    rw [Option.some.inj q]
    exact K6 i hi
  refine Back.mono (back hZ hw wi E V C K1 hty S hz (by omega) (by omega) (fun i hi => by rw [hcv i (by omega)]; exact hall _ (List.getElem_mem _)) hfr hlo) (fun P a hp => ⟨hp.1, hp.2.1, hp.2.2.1, by rw [e]; exact hp.2.2.2⟩) (fun P a v B hp hq => ?_)
  obtain ⟨L, ⟨q1, q2, q3, q4, q5, q6, q7, ⟨V', v1, v2, v3, v4, v5⟩, q9⟩, hl, hc, hs⟩ := hq
  refine ⟨L, ⟨q1, q2, q3, q4, q5, q6, q7, ⟨V'.cls, v3, V', v1, rfl, by rw [v4, e, hlen], K4, fun i hi => ?_, fun i hi => ?_⟩, q9⟩, hl, hc, by rw [hs, e]⟩
  · have hi' : i < cs.length := by omega
    rw [v5 i (by omega), hcv i hi']; simp [List.getD_eq_getElem?_getD, hi']
  · have hi' : i < cs.length := by omega
    simp only [List.getD_eq_getElem?_getD, List.getElem?_map, List.getElem?_eq_getElem hi', Option.map_some, Option.getD_some]
    exact fits_lo8 _
end StrChars.Road
namespace StrChars.Road
open Jvm Sem ClassFile Op Lib Jvm.Stand Jvm.Free Jvm.Free.XT
/-- WHAT COMES BACK, in the writer's own shape -/
def QV (Z : State) (x : Addr) (N : Int32) (bs : List Int32) (h : Heap) (n0 : Nat) (v : Option Value) (h' : Heap) (L : List Loc) : Prop := v = none ∧ RoadKit.Fr n0 L ∧ RoadKit.Keep h h' [x] ∧ RoadKit.Exa Z h' x ST ∧ RoadKit.Fld Z h' x ST "coder" "B" (.int 0) ∧
  ∃ (t : Addr) (kb : ClassId), n0 ≤ t ∧ h.size ≤ t ∧ ¬ t = x ∧ RoadKit.Fld Z h' x ST "value" "[B" (.ref t) ∧ RoadKit.Arv Z h' t kb .byte N (bs.map Value.int) (.int 0)
/-- **new String(chars) AT A CALL, FOR THE WRITER**: a char[] of n known ints, each 0 to 255 -/
theorem backV {p : Program} {l : Launch} {e : Env} {R : Room} {s : State} {args : Array Value} {below : List Frame} {len W : Nat} {Z : State} {a0 : Array Value} {h : Heap} (hZ : Z.Warmed39 s.vm) (hw : ∀ d ∈ words, d.before a0 Z = true) {kI : Nat} (wi : (Jvm.Cond.instantiable ST kI).before a0 Z = true)
    {x b : Addr} {kC : ClassId} {cs bs : List Int32} {d v0 c0 : Value} {z N : Int32} {n n0 : Nat} (hx0 : n0 ≤ x) (hh0 : n0 ≤ h.size) (E : RoadKit.Exa Z h x ST) (V : RoadKit.Fld Z h x ST "value" "[B" v0) (C : RoadKit.Fld Z h x ST "coder" "B" c0) (K : RoadKit.Arv Z h b kC .char N (cs.map Value.int) d) (S : RoadKit.Sta Z h ST "COMPACT_STRINGS" "Z" (.int z)) (hz : ¬ z = 0)
    (hn : cs.length = n) (hN : N = Int32.ofNat n) (l0 : 0 < n) (l2 : n ≤ 4000) (hp : ∀ c ∈ cs, ¬ c < 0 ∧ ¬ (255 : Int32) < c) (hb : bs = cs.map (fun c => c.toInt8.toInt32)) (hfr : 4 ≤ R.frames) (hlo : W + 65 ≤ R.locals) :
    Back l R p e below s args (⟨"java/lang/String", "<init>", "([C)V"⟩ : MethodName) len W (fun P a => a = #[.ref x, .ref b] ∧ P.U.heap = h ∧ P.cells + 1 ≤ R.cells ∧ P.slots + n ≤ R.slots)
      (fun P _ v B => ∃ L, QV Z x N bs h n0 v B.U.heap L ∧ B.locs = P.locs ++ L ∧ B.cells = P.cells + 1 ∧ B.slots = P.slots + n) := by
  subst hn hN hb
  refine Back.mono (backArv hZ hw wi E V C K S hz (n32 (by omega)) l0 (by omega) (fun c hc => (hp c hc).2) hfr hlo) (fun P a hp => hp) (fun P a v B hp hq => ?_)
  obtain ⟨L, ⟨q1, q2, q3, q4, q5, q6, q7, ⟨kb, v1, v2⟩, q9⟩, hl, hc, hs⟩ := hq
  exact ⟨L, ⟨q1, fun y hy => by rw [q2 y hy]; exact hx0, q3, q5, q7, h.size, kb, hh0, Nat.le_refl _, Nat.ne_of_gt E.lt, q6, by rw [List.map_map]; exact v2⟩, hl, hc, hs⟩
end StrChars.Road
namespace StrChars
open Jvm Sem ClassFile Op Lib Jvm.Stand Jvm.Free.XT Jvm.Free.ALB Jvm.Free.JM Jvm.Free
open Jvm.Lib.Cold (StaticIs)
def hi8 (x : Int32) : Int32 := lo8 (x >>> ((8 : Int32) &&& 31))
/-- what StringUTF16.getChar makes of two bytes -/
def pairCh (u v : Int32) : Int32 := (((u &&& 255) <<< ((0 : Int32) &&& 31)) ||| ((v &&& 255) <<< ((8 : Int32) &&& 31))).toUInt32.toUInt16.toUInt32.toInt32
theorem lo8_and (x : Int32) : (lo8 x &&& 255).toBitVec.toNat = x.toBitVec.toNat % 256 := by
  have h : (lo8 x).toBitVec = (x.toBitVec.signExtend 8).signExtend 32 := by rw [lo8, Int8.toBitVec_toInt32, Int32.toBitVec_toInt8]
  rw [Int32.toBitVec_and, BitVec.toNat_and, h]
  have e : ((x.toBitVec.signExtend 8).signExtend 32).toNat % 256 = x.toBitVec.toNat % 256 := by
    rw [BitVec.toNat_signExtend]
    have hlt := x.toBitVec.isLt
    simp only [BitVec.toNat_setWidth, BitVec.toNat_signExtend]
    split <;> split <;> omega
  rw [← e]
  exact Nat.and_two_pow_sub_one_eq_mod _ 8
theorem pair_says {c : Int32} (h0 : ¬ c < 0) (h1 : ¬ 65535 < c) : pairCh (lo8 c) (hi8 c) = c := by
  rw [Int32.lt_iff_toInt_lt] at h0 h1
  have e0 : (0 : Int32).toInt = 0 := rfl
  have e1 : (65535 : Int32).toInt = 65535 := rfl
  have hc : c.toInt = c.toBitVec.toNat := by
    have := c.toBitVec.isLt
    have e : c.toInt = c.toBitVec.toInt := rfl
    rw [e] at h0 h1
    rw [e]
    rw [BitVec.toInt_eq_toNat_cond] at h0 h1 ⊢
    split at h0 <;> split <;> omega
  have hn : c.toBitVec.toNat < 65536 := by omega
  have a1 := lo8_and c
  have a2 : (hi8 c &&& 255).toBitVec.toNat = c.toBitVec.toNat / 256 := by
    rw [hi8, lo8_and]
    have e : ((8 : Int32) &&& 31) = 8 := by decide
    rw [e, Int32.toBitVec_shiftRight]
    have e2 : ((8 : Int32).toBitVec.smod 32) = 8#32 := by decide
    rw [e2, BitVec.sshiftRight_eq', BitVec.toNat_sshiftRight_of_msb_false (by rw [BitVec.msb_eq_false_iff_two_mul_lt]; omega)]
    show c.toBitVec.toNat >>> 8 % 256 = _
    rw [Nat.shiftRight_eq_div_pow]
    omega
  unfold pairCh
  apply Int32.toBitVec_inj.mp
  apply BitVec.eq_of_toNat_eq
  have f0 : ((0 : Int32) &&& 31) = 0 := by decide
  have f8 : ((8 : Int32) &&& 31) = 8 := by decide
  rw [f0, f8]
  have g : (((lo8 c &&& 255) <<< (0 : Int32)) ||| ((hi8 c &&& 255) <<< (8 : Int32))).toBitVec.toNat = c.toBitVec.toNat := by
    rw [Int32.toBitVec_or, Int32.toBitVec_shiftLeft, Int32.toBitVec_shiftLeft]
    have s0 : ((0 : Int32).toBitVec.smod 32) = 0#32 := by decide
    have s8 : ((8 : Int32).toBitVec.smod 32) = 8#32 := by decide
    rw [s0, s8, BitVec.toNat_or]
    simp only [BitVec.shiftLeft_eq', BitVec.toNat_shiftLeft, a1, a2]
    show (c.toBitVec.toNat % 256) <<< 0 % 2 ^ 32 ||| (c.toBitVec.toNat / 256) <<< 8 % 2 ^ 32 = _
    rw [Nat.shiftLeft_zero, Nat.mod_eq_of_lt (show c.toBitVec.toNat % 256 < 2 ^ 32 by omega), Nat.mod_eq_of_lt (show (c.toBitVec.toNat / 256) <<< 8 < 2 ^ 32 by rw [Nat.shiftLeft_eq]; omega), Nat.or_comm, ← Nat.shiftLeft_add_eq_or_of_lt (by omega), Nat.shiftLeft_eq]
    omega
  show BitVec.toNat (((((lo8 c &&& 255) <<< (0 : Int32)) ||| ((hi8 c &&& 255) <<< (8 : Int32))).toBitVec.setWidth 16).setWidth 32) = _
  rw [BitVec.toNat_setWidth, BitVec.toNat_setWidth, g]
  omega
end StrChars
namespace StrChars
open Jvm Sem ClassFile Op Lib Jvm.Stand Jvm.Free.XT Jvm.Free.ALB Jvm.Free.JM Jvm.Free
open Jvm.Lib.Cold (StaticIs)
/-- charAt's cast of a byte read back -/
def chr8 (u : Int32) : Int32 := (u &&& 255).toUInt32.toUInt16.toUInt32.toInt32
theorem chr8_lo8 {c : Int32} (h0 : ¬ c < 0) (h1 : ¬ 255 < c) : chr8 (lo8 c) = c := by
  have t : ∀ k : Fin 256, (Int32.ofNat k.val).toUInt32.toUInt16.toUInt32.toInt32 = Int32.ofNat k.val := by decide +kernel
  unfold chr8
  rw [lo8_mask h0 h1]
  rw [Int32.lt_iff_toInt_lt] at h0 h1
  have e0 : (0 : Int32).toInt = 0 := rfl
  have e1 : (255 : Int32).toInt = 255 := rfl
  obtain ⟨k, hk⟩ : ∃ k : Nat, c.toInt = k := ⟨c.toInt.toNat, by omega⟩
  have hx : c = Int32.ofNat k := Int32.toInt_inj.mp (by rw [hk, Int32.toInt_ofNat_small (by omega)])
  rw [hx]
  exact t ⟨k, by omega⟩
theorem narrow_ch {c : Int32} (h0 : ¬ c < 0) (h1 : ¬ 65535 < c) : narrow .char (.int c) = .int c := by
  have q : narrow .char (.int (pairCh (lo8 c) (hi8 c))) = .int (pairCh (lo8 c) (hi8 c)) := narrow_c _
  rwa [pair_says h0 h1] at q
/-- the array's cell V codes the n chars f 0 .. f (n - 1) by the coder cd, as the JDK does: coder 1 just where some char is above 255 -/
def Cod (cd : Int32) (n : Nat) (f : Nat → Int32) (V : Cell) : Prop := (cd = 0 ∧ V.slots.size = n ∧ ∀ j, j < n → V.slots[j]? = some (.int (lo8 (f j))) ∧ ¬ 255 < f j) ∨ (cd = 1 ∧ V.slots.size = 2 * n ∧ (∀ j, j < n → V.slots[2 * j]? = some (.int (lo8 (f j))) ∧ V.slots[2 * j + 1]? = some (.int (hi8 (f j)))) ∧ ∃ j, j < n ∧ 255 < f j)
theorem Cod.cd {cd : Int32} {n : Nat} {f : Nat → Int32} {V : Cell} (h : Cod cd n f V) : cd = 0 ∨ cd = 1 := h.imp (fun q => q.1) fun q => q.1
/-- **x is a String of the n chars f 0 .. f (n - 1)**, Latin-1 or UTF-16; its array at t has the cell V -/
def Txt (x t : Addr) (V : Cell) (cd : Int32) (n : Nat) (f : Nat → Int32) (U : State) : Prop := Exact "java/lang/String" x U ∧ Has x "java/lang/String" "value" "[B" (.ref t) U ∧ Has x "java/lang/String" "coder" "B" (.int cd) U ∧ XT.Arr .byte t V U ∧ Cod cd n f V ∧ ∀ j, j < n → ¬ f j < 0 ∧ ¬ 65535 < f j
theorem Txt.mv {x t : Addr} {V : Cell} {cd : Int32} {n : Nat} {f : Nat → Int32} {U U' : State} (h : Txt x t V cd n f U) (hal : U.vm.Alike U'.vm) (hh : U'.heap = U.heap) : Txt x t V cd n f U' := ⟨h.1.mv hal hh, h.2.1.mv hal hh, h.2.2.1.mv hal hh, h.2.2.2.1.mv hal hh, h.2.2.2.2⟩
namespace IsL
def yN : MethodName := ⟨"java/lang/String", "isLatin1", "()Z"⟩
abbrev yB : ByteArray := jdk_42_method_154_code
theorem d0 : decode yB 0 = .ok (.getstatic 38, 3) := by decide +kernel
theorem d3 : decode yB 3 = .ok (.ifCond (.eq) 14, 3) := by decide +kernel
theorem d6 : decode yB 6 = .ok (.aload_n 0, 1) := by decide +kernel
theorem d7 : decode yB 7 = .ok (.getfield 15, 3) := by decide +kernel
theorem d10 : decode yB 10 = .ok (.ifCond (.ne) 7, 3) := by decide +kernel
theorem d13 : decode yB 13 = .ok (.iconst 1, 1) := by decide +kernel
theorem d14 : decode yB 14 = .ok (.goto 4, 3) := by decide +kernel
theorem d17 : decode yB 17 = .ok (.iconst 0, 1) := by decide +kernel
theorem d18 : decode yB 18 = .ok (.ireturn, 1) := by decide +kernel
def site : List Cond := [.fieldLink "java/lang/String" 38 "java/lang/String" "COMPACT_STRINGS" "Z", .fieldLink "java/lang/String" 15 "java/lang/String" "coder" "B"]
def tab : Cond := tabOf yN yB 1 (some .boolean) site
def P (x : Addr) (cd z : Int32) (args : Array Value) (s : State) : Prop := args = #[.ref x] ∧ Has x "java/lang/String" "coder" "B" (.int cd) s ∧ (cd = 0 ∨ cd = 1) ∧ StaticIs s "java/lang/String" "COMPACT_STRINGS" "Z" (.int z) ∧ ¬ z = 0
def E (cd : Int32) (r : Option Value) (s u : State) : Prop := XT.PureE (some (.int (1 - cd))) r s u
theorem law (l : Launch) (x : Addr) (cd z : Int32) : Law l yN 1 0 0 0 yB 1 (some .boolean) site (P x cd z) (E cd) [] 0 0 := by
  refine Law.of_walk (plainFor_of_name (by decide +kernel)) (by decide +kernel) (by decide +kernel) (by decide) (fun _ _ h => by rw [h.1]; rfl) (fun _ U U' hal hh h => ⟨h.1, h.2.1.mv hal hh, h.2.2.1, h.2.2.2.1.there hal hh, h.2.2.2.2⟩) (fun r U U' V V' h1 hal h2 h => XT.PureE.mv r U U' V V' h1 hal h2 h) ?_
  intro p e s m args below meth c s₁ X0 hexec hbytes hml hret hlk hnm hown hh0 W hP
  obtain ⟨rfl, hx, hc, s1, hz⟩ := hP
  have c1 : Steps p.tables e below (s₁.setTop (entryFrame m #[.ref x] 1)) (s₁.setTop (mkF m 0 #[.val (.ref x)] [])) := entry rfl
  obtain ⟨T2, X2, q2, st2⟩ := X0.sget hexec hown (wk W (.fieldLink "java/lang/String" 38 "java/lang/String" "COMPACT_STRINGS" "Z")) s1 (fun _ _ h => by rw [hh0]; exact h) (g := (mkF m 0 #[.val (.ref x)] [])) rfl (hb hbytes d0)
  have hh2 := q2.trans hh0
  have c3 : Steps p.tables e below (s₁.setTop (entryFrame m #[.ref x] 1)) (T2.setTop (mkF m 7 #[.val (.ref x)] [.ref x])) := (c1.trans (st2 _ (Steps.refl _))).trans (by
    refine XS.ifNo X2.here hexec rfl (hb hbytes d3) rfl (i0_eq_f hz) ?_
    refine XS.aloadN X2.here hexec rfl (hb hbytes d6) rfl rfl ?_
    exact Steps.refl _)
  obtain ⟨T4, X4, q4, st4⟩ := X2.hget hexec hown (wk W (.fieldLink "java/lang/String" 15 "java/lang/String" "coder" "B")) (hx.mv X2.warmed.alike hh2) (g := (mkF m 7 #[.val (.ref x)] [.ref x])) rfl (rest := []) rfl (hb hbytes d7)
  have c5 : Steps p.tables e below (s₁.setTop (entryFrame m #[.ref x] 1)) (T4.setTop (mkF m 10 #[.val (.ref x)] [.int cd])) := c3.trans (st4 _ (Steps.refl _))
  have c6 : Steps p.tables e below (s₁.setTop (entryFrame m #[.ref x] 1)) (T4.setTop (mkF m 18 #[.val (.ref x)] [.int (1 - cd)])) := by
    rcases hc with rfl | rfl
    · exact c5.trans (by
        refine XS.ifNo X4.here hexec rfl (hb hbytes d10) rfl (i0_ne_f rfl) ?_
        refine iconstV X4.here hexec rfl 1 (hb hbytes d13) (by decide) ?_
        refine XS.goto X4.here hexec rfl (pc0 := 14) rfl (hb hbytes d14) (by decide) rfl ?_
        exact Steps.refl _)
    · exact c5.trans (by
        refine XS.ifYes X4.here hexec rfl (pc0 := 10) rfl (hb hbytes d10) rfl (i0_ne_t (by decide)) (by decide) rfl ?_
        refine iconstV X4.here hexec rfl 0 (hb hbytes d17) (by decide) ?_
        exact Steps.refl _)
  exact ⟨T4, some (.int (1 - cd)), _, _, _, X4, rfl, rfl, rfl, (fun h => by cases h), ⟨rfl, q4.trans hh2⟩, fun fs hl => c6.trans (X4.ireturnOut hexec hret (by rcases hc with rfl | rfl <;> rfl) (Or.inr (Or.inl rfl)) (hb hbytes d18) hl)⟩
end IsL
namespace LChA
def yN : MethodName := ⟨"java/lang/StringLatin1", "charAt", "([BI)C"⟩
abbrev yB : ByteArray := jdk_43_method_2_code
theorem d0 : decode yB 0 = .ok (.iload_n 1, 1) := by decide +kernel
theorem d1 : decode yB 1 = .ok (.aload_n 0, 1) := by decide +kernel
theorem d2 : decode yB 2 = .ok (.arraylength, 1) := by decide +kernel
theorem d3 : decode yB 3 = .ok (.invokestatic 9, 3) := by decide +kernel
theorem d6 : decode yB 6 = .ok (.aload_n 0, 1) := by decide +kernel
theorem d7 : decode yB 7 = .ok (.iload_n 1, 1) := by decide +kernel
theorem d8 : decode yB 8 = .ok (.baload, 1) := by decide +kernel
theorem d9 : decode yB 9 = .ok (.sipush 255, 3) := by decide +kernel
theorem d12 : decode yB 12 = .ok (.iand, 1) := by decide +kernel
theorem d13 : decode yB 13 = .ok (.i2c, 1) := by decide +kernel
theorem d14 : decode yB 14 = .ok (.ireturn, 1) := by decide +kernel
def site : List Cond := [JO.Str_checkIndex.tab] ++ staticW "java/lang/StringLatin1" 9 JO.Str_checkIndex.yN
def tab : Cond := tabOf yN yB 2 (some .char) site
def P (t : Addr) (V : Cell) (i : Nat) (u : Int32) (fm : Value) (args : Array Value) (s : State) : Prop := args = #[.ref t, .int (Int32.ofNat i)] ∧ XT.Arr .byte t V s ∧ V.slots[i]? = some (.int u) ∧ (StaticIs s "jdk/internal/util/Preconditions" "SIOOBE_FORMATTER" "Ljava/util/function/BiFunction;" fm ∧ fm.isRef = true)
def E (u : Int32) (r : Option Value) (s w : State) : Prop := XT.PureE (some (.int (chr8 u))) r s w
theorem law (l : Launch) (t : Addr) (V : Cell) (i : Nat) (u : Int32) (fm : Value) : Law l yN 2 2 2 27 yB 2 (some .char) site (P t V i u fm) (E u) [] 0 0 := by
  refine Law.of_walk (plainFor_of_name (by decide +kernel)) (by decide +kernel) (by decide +kernel) (by decide) (fun _ _ h => by rw [h.1]; rfl) (fun _ U U' hal hh h => ⟨h.1, h.2.1.mv hal hh, h.2.2.1, h.2.2.2.1.there hal hh, h.2.2.2.2⟩) (fun r U U' V V' h1 hal h2 h => XT.PureE.mv r U U' V V' h1 hal h2 h) ?_
  intro p e s m args below meth c s₁ X0 hexec hbytes hml hret hlk hnm hown hh0 W hP
  obtain ⟨rfl, hV, hu, s1, rf⟩ := hP
  have v31 := hV.2.2.2
  have hi : i < V.slots.size := (Array.getElem?_eq_some_iff.mp hu).1
  have c1 : Steps p.tables e below (s₁.setTop (entryFrame m #[.ref t, .int (Int32.ofNat i)] 2)) (s₁.setTop (mkF m 0 #[.val (.ref t), .val (.int (Int32.ofNat i))] [])) := entry rfl
  have c2 : Steps p.tables e below (s₁.setTop (entryFrame m #[.ref t, .int (Int32.ofNat i)] 2)) (s₁.setTop (mkF m 3 #[.val (.ref t), .val (.int (Int32.ofNat i))] [.int (Int32.ofNat V.slots.size), .int (Int32.ofNat i)])) := c1.trans (by
    refine XS.iloadN X0.here hexec rfl (hb hbytes d0) rfl ?_
    refine XS.aloadN X0.here hexec rfl (hb hbytes d1) rfl rfl ?_
    refine X0.alen hexec (hV.mv X0.warmed.alike hh0) rfl rfl (hb hbytes d2) ?_
    exact Steps.refl _)
  obtain ⟨v3, T3, X3, E3, g3⟩ := X0.callS hexec (JO.Str_checkIndex.law l (Int32.ofNat i) (Int32.ofNat V.slots.size) fm) hown (wks W (staticW "java/lang/StringLatin1" 9 JO.Str_checkIndex.yN)) (wk W JO.Str_checkIndex.tab) (W := 0) (Nat.le_of_ble_eq_true rfl) (Nat.le_of_ble_eq_true rfl) (Nat.le_refl _) (Nat.le_refl _) (g := (mkF m 3 #[.val (.ref t), .val (.int (Int32.ofNat i))] [.int (Int32.ofNat V.slots.size), .int (Int32.ofNat i)])) rfl (by rw [hml]; rfl) c2 (argsL := [.int (Int32.ofNat i), .int (Int32.ofNat V.slots.size)]) (rest := []) rfl rfl (by show 2 * 0 + 0 ≤ _; decide) (hb hbytes d3) (⟨rfl, rf, s1.there X0.warmed.alike hh0, Int32.ofNat_not_neg (by omega), lt32 v31 hi⟩)
  obtain ⟨rfl, q3⟩ := E3
  have hh3 := q3.trans hh0
  have c4 : Steps p.tables e below (s₁.setTop (entryFrame m #[.ref t, .int (Int32.ofNat i)] 2)) (T3.setTop (mkF m 14 #[.val (.ref t), .val (.int (Int32.ofNat i))] [.int (chr8 u)])) := Steps.trans g3 (by
    refine XS.aloadN X3.here hexec rfl (hb hbytes d6) rfl rfl ?_
    refine XS.iloadN X3.here hexec rfl (hb hbytes d7) rfl ?_
    refine X3.aget hexec (hV.mv X3.warmed.alike hh3) rfl hu rfl rfl (hb hbytes d8) ?_
    refine sipushV X3.here hexec rfl 255 (hb hbytes d9) (by decide) ?_
    refine XS.iand X3.here hexec rfl (hb hbytes d12) rfl ?_
    refine i2c X3.here hexec rfl (hb hbytes d13) rfl ?_
    exact Steps.refl _)
  exact ⟨T3, some (.int (chr8 u)), _, _, _, X3, rfl, rfl, rfl, (fun h => by cases h), ⟨rfl, hh3⟩, fun fs hl => c4.trans (X3.ireturnOut hexec hret (narrow_c _) (Or.inr (Or.inr (Or.inr (Or.inl rfl)))) (hb hbytes d14) hl)⟩
end LChA
end StrChars
namespace StrChars.Road
open Jvm Sem ClassFile Op Lib Jvm.Stand Jvm.Free Jvm.Free.XT
open Jvm.Lib.Cold (StaticIs)
theorem consq {a : Array Value} {s : State} {c : Jvm.Cond} {L : List Jvm.Cond} (h0 : c.before a s = true) (h : ∀ w ∈ L, w.before a s = true) : ∀ w ∈ c :: L, w.before a s = true := fun w hw => (List.mem_cons.mp hw).elim (fun e => e ▸ h0) (h w)
/-- the bytes of the chars cs, low before high -/
def wideBytes : List Int32 → List Value
  | [] => []
  | c :: cs => .int (lo8 c) :: .int (hi8 c) :: wideBytes cs
theorem wide_lo (d : Value) : ∀ (cs : List Int32) (j : Nat), j < cs.length → (wideBytes cs).getD (2 * j) d = .int (lo8 (cs.getD j 0))
  | [], j, h => absurd h (Nat.not_lt_zero j)
  | c :: cs, 0, _ => rfl
  | c :: cs, j + 1, h => by
    have q := wide_lo d cs j (by simpa using h)
    rw [show 2 * (j + 1) = 2 * j + 1 + 1 from by omega]
    simpa [wideBytes] using q
theorem wide_hi (d : Value) : ∀ (cs : List Int32) (j : Nat), j < cs.length → (wideBytes cs).getD (2 * j + 1) d = .int (hi8 (cs.getD j 0))
  | [], j, h => absurd h (Nat.not_lt_zero j)
  | c :: cs, 0, _ => rfl
  | c :: cs, j + 1, h => by
    have q := wide_hi d cs j (by simpa using h)
    rw [show 2 * (j + 1) + 1 = 2 * j + 1 + 1 + 1 from by omega]
    simpa [wideBytes] using q
theorem low_at (d : Value) (cs : List Int32) (j : Nat) (h : j < cs.length) : (cs.map fun c => Value.int (lo8 c)).getD j d = .int (lo8 (cs.getD j 0)) := by
  simp [List.getD_eq_getElem?_getD, h]
/-- an array of N2 bytes vs codes the chars cs by the coder cd -/
def CodA (cs : List Int32) (cd N2 : Int32) (vs : List Value) : Prop := (cd = 0 ∧ N2 = Int32.ofNat cs.length ∧ vs = (cs.map fun c => Value.int (lo8 c)) ∧ ∀ c ∈ cs, ¬ 255 < c) ∨ (cd = 1 ∧ N2 = Int32.ofNat (2 * cs.length) ∧ vs = wideBytes cs ∧ ∃ c ∈ cs, 255 < c)
theorem CodA.cod {cs : List Int32} {cd N2 : Int32} {vs : List Value} {V : Cell} (h : CodA cs cd N2 vs) (hn : 2 * cs.length < 2 ^ 31) (hs : V.slots.size = N2.toNatClampNeg) (hv : RoadKit.Has V vs (.int 0)) : Cod cd cs.length (fun j => cs.getD j 0) V := by
  rcases h with ⟨rfl, rfl, rfl, h⟩ | ⟨rfl, rfl, rfl, c, hc, hw⟩
  · rw [n32 (by omega)] at hs
    exact Or.inl ⟨rfl, hs, fun j hj => ⟨by rw [hv j (by omega), low_at _ _ _ hj], by
      have e : cs.getD j 0 = cs[j] := by simp [List.getD_eq_getElem?_getD, hj]
      show ¬ 255 < cs.getD j 0
      rw [e]; exact h _ (List.getElem_mem _)⟩⟩
  · rw [n32 (by omega)] at hs
    obtain ⟨j, hj, rfl⟩ := List.getElem_of_mem hc
    exact Or.inr ⟨rfl, hs, fun j hj => ⟨by rw [hv _ (by omega), wide_lo _ _ _ hj], by rw [hv _ (by omega), wide_hi _ _ _ hj]⟩, j, hj, by
      have e : cs.getD j 0 = cs[j] := by simp [List.getD_eq_getElem?_getD, hj]
      show 255 < cs.getD j 0
      rw [e]; exact hw⟩
/-- an object of exactly java/lang/String, its two fields found: as the laws ask it -/
theorem strObj {Z U : State} {a0 : Array Value} {kI : Nat} (wi : (Jvm.Cond.instantiable ST kI).before a0 Z = true) (al : Z.vm.Alike U.vm) {x : Addr} {v0 c0 : Value} (E : RoadKit.Exa Z U.heap x ST) (V : RoadKit.Fld Z U.heap x ST "value" "[B" v0) (C : RoadKit.Fld Z U.heap x ST "coder" "B" c0) :
    ∃ (D : Cell) (fV fC : Field), Blank ST x D U ∧ Found ST "value" "[B" fV U ∧ Found ST "coder" "B" fC U ∧ D.slots[fV.slot]? = some v0 ∧ D.slots[fC.slot]? = some c0 ∧ RoadKit.slotOf Z ST "value" "[B" = fV.slot ∧ RoadKit.slotOf Z ST "coder" "B" = fC.slot := by
  obtain ⟨D, cfV, kV, iV, fV, hD, gV, stV, knV, obV, asV, slV⟩ := V
  obtain ⟨D', cfC, kC, iC, fC, hD', gC, stC, -, -, asC, slC⟩ := C
  cases hD.symm.trans hD'
  obtain ⟨D2, kD, e1, e2, e3, e4, e5⟩ := E
  cases hD.symm.trans e1
  obtain ⟨c2, k2, i1, i2, i3, -⟩ := Cond.instantiable_spec wi
  cases e2.symm.trans i1
  cases e3.symm.trans i2
  obtain ⟨kU, u1, u2⟩ := al.2.2 _ _ e3
  exact ⟨D, fV, fC, ⟨hD, ⟨knV, fun q hq => by rw [hq] at obV; cases obV⟩, by rw [al.findClass]; exact e2, kU, u1, by rw [u2]; exact i3, by rw [u2]; exact e5 i3⟩, ⟨SBG.found_only al ⟨cfV, kV, iV, gV⟩, stV⟩, ⟨SBG.found_only al ⟨cfC, kC, iC, gC⟩, stC⟩, slV, slC, by simp [RoadKit.slotOf, gV], by simp [RoadKit.slotOf, gC]⟩
theorem sta_is {Z U : State} (al : Z.vm.Alike U.vm) {C n d : String} {v : Value} (S : RoadKit.Sta Z U.heap C n d v) : StaticIs U C n d v := by
  obtain ⟨cfS, iS, kS, fS, st, cS, t1, t2, t3, t4, t5, t6, t7⟩ := S
  exact StaticIs.there (s := { Z with heap := U.heap }) ⟨cfS, iS, kS, fS, st, cS, t1, t2, t3, t4, t5, (fun q => by rw [q] at t6; cases t6), t7⟩ al rfl
end StrChars.Road
namespace StrChars.Road
open Jvm Sem ClassFile Op Lib Jvm.Stand Jvm.Free Jvm.Free.XT
open Jvm.Lib.Cold (StaticIs)
/-- the road's facts of a String, as the laws ask it -/
theorem txt_of {Z U : State} {a0 : Array Value} {kI : Nat} (wi : (Jvm.Cond.instantiable ST kI).before a0 Z = true) (al : Z.vm.Alike U.vm) {x t : Addr} {kb : ClassId} {cs : List Int32} {cd N2 : Int32} {vs : List Value} (E : RoadKit.Exa Z U.heap x ST) (V : RoadKit.Fld Z U.heap x ST "value" "[B" (.ref t)) (C : RoadKit.Fld Z U.heap x ST "coder" "B" (.int cd)) (K : RoadKit.Arv Z U.heap t kb .byte N2 vs (.int 0)) (hc : CodA cs cd N2 vs) (hb : ∀ c ∈ cs, ¬ c < 0 ∧ ¬ (65535 : Int32) < c) (l2 : cs.length ≤ 4000) :
    ∃ A, Txt x t A cd cs.length (fun j => cs.getD j 0) U := by
  obtain ⟨A, K1, K2, K3, K4, K5, K6⟩ := K
  have hcod := hc.cod (by omega) K3 K5
  obtain ⟨D, fV, fC, hB, F1, F2, g1, g2, -, -⟩ := strObj wi al E V C
  exact ⟨A, ⟨_, hB.2.2.1, D, hB.1, rfl, by cases q : D.vm <;> first | rfl | exact absurd q (hB.2.1.2 _)⟩, Has.of hB F1 g1, Has.of hB F2 g2, ⟨K1.1, State.isArrayOf_alike al K1.2.1, K1.2.2, by rcases hcod with ⟨-, q, -⟩ | ⟨-, q, -⟩ <;> omega⟩, hcod, fun j hj => by
    have e : cs.getD j 0 = cs[j] := by simp [List.getD_eq_getElem?_getD, hj]
    show ¬ cs.getD j 0 < 0 ∧ ¬ 65535 < cs.getD j 0
    rw [e]; exact hb _ (List.getElem_mem _)⟩
end StrChars.Road
namespace StrChars
open Jvm Sem ClassFile Op Lib Jvm.Stand Jvm.Free.XT Jvm.Free.ALB Jvm.Free.JM Jvm.Free
open Jvm.Lib.Cold (StaticIs)
namespace ChN
def yN : MethodName := ⟨"java/lang/String", "charAt", "(I)C"⟩
abbrev yB : ByteArray := jdk_42_method_56_code
theorem d0 : decode yB 0 = .ok (.aload_n 0, 1) := by decide +kernel
theorem d1 : decode yB 1 = .ok (.invokevirtual 492, 3) := by decide +kernel
theorem d4 : decode yB 4 = .ok (.ifCond (.eq) 12, 3) := by decide +kernel
theorem d7 : decode yB 7 = .ok (.aload_n 0, 1) := by decide +kernel
theorem d8 : decode yB 8 = .ok (.getfield 9, 3) := by decide +kernel
theorem d11 : decode yB 11 = .ok (.iload_n 1, 1) := by decide +kernel
theorem d12 : decode yB 12 = .ok (.invokestatic 495, 3) := by decide +kernel
theorem d15 : decode yB 15 = .ok (.ireturn, 1) := by decide +kernel
def site : List Cond := [.fieldLink "java/lang/String" 9 "java/lang/String" "value" "[B", IsL.tab, LChA.tab] ++ virtW "java/lang/String" 492 "java/lang/String" IsL.yN IsL.yN ++ staticW "java/lang/String" 495 LChA.yN
def tab : Cond := tabOf yN yB 2 (some .char) site
def P (x t : Addr) (V : Cell) (n : Nat) (f : Nat → Int32) (z : Int32) (fm : Value) (i : Nat) (args : Array Value) (s : State) : Prop := args = #[.ref x, .int (Int32.ofNat i)] ∧ Txt x t V 0 n f s ∧ i < n ∧ StaticIs s "java/lang/String" "COMPACT_STRINGS" "Z" (.int z) ∧ ¬ z = 0 ∧ StaticIs s "jdk/internal/util/Preconditions" "SIOOBE_FORMATTER" "Ljava/util/function/BiFunction;" fm ∧ fm.isRef = true
def E (f : Nat → Int32) (i : Nat) (r : Option Value) (s u : State) : Prop := XT.PureE (some (.int (f i))) r s u
/-- charAt(i) of a Latin-1 String of n chars, i < n: f i -/
theorem law (l : Launch) (x t : Addr) (V : Cell) (n : Nat) (f : Nat → Int32) (z : Int32) (fm : Value) (i : Nat) : Law l yN 2 1 3 40 yB 2 (some .char) site (P x t V n f z fm i) (E f i) [] 0 0 := by
  refine Law.of_walk (plainFor_of_name (by decide +kernel)) (by decide +kernel) (by decide +kernel) (by decide) (fun _ _ h => by rw [h.1]; rfl) (fun _ U U' hal hh h => ⟨h.1, h.2.1.mv hal hh, h.2.2.1, h.2.2.2.1.there hal hh, h.2.2.2.2.1, h.2.2.2.2.2.1.there hal hh, h.2.2.2.2.2.2⟩) (fun r U U' V V' h1 hal h2 h => XT.PureE.mv r U U' V V' h1 hal h2 h) ?_
  intro p e s m args below meth c s₁ X0 hexec hbytes hml hret hlk hnm hown hh0 W hP
  obtain ⟨rfl, hx, hi, s1, hz, s3, rf⟩ := hP
  have v31 := hx.2.2.2.1.2.2.2
  have hr := hx.2.2.2.2.2 i hi
  have hx0 := hx.mv X0.warmed.alike hh0
  have c1 : Steps p.tables e below (s₁.setTop (entryFrame m #[.ref x, .int (Int32.ofNat i)] 2)) (s₁.setTop (mkF m 1 #[.val (.ref x), .val (.int (Int32.ofNat i))] [.ref x])) := Steps.trans (entry rfl) (by
    show Steps p.tables e below (s₁.setTop (mkF m 0 #[.val (.ref x), .val (.int (Int32.ofNat i))] [])) _
    refine XS.aloadN X0.here hexec rfl (hb hbytes d0) rfl rfl ?_
    exact Steps.refl _)
  obtain ⟨v2, T2, X2, E2, g2⟩ := X0.callV hexec (IsL.law l x 0 z) hown (wks W (virtW "java/lang/String" 492 "java/lang/String" IsL.yN IsL.yN)) rfl (by decide) (wk W IsL.tab) (W := 0) (Nat.le_of_ble_eq_true rfl) (Nat.le_of_ble_eq_true rfl) (Nat.le_refl _) (Nat.le_refl _) (hx0.1.fc X0.warmed.alike) hx0.1.is (g := (mkF m 1 #[.val (.ref x), .val (.int (Int32.ofNat i))] [.ref x])) rfl (by rw [hml]; rfl) c1 (argsL := []) (rest := []) rfl rfl (by show 2 * 0 + 0 ≤ _; decide) (hb hbytes d1) (⟨rfl, hx0.2.2.1, hx.2.2.2.2.1.cd, s1.there X0.warmed.alike hh0, hz⟩)
  obtain ⟨rfl, q2⟩ := E2
  have hh2 := q2.trans hh0
  have hx2 := hx.mv X2.warmed.alike hh2
  obtain ⟨-, k1, k2⟩ | ⟨k0, -⟩ := hx.2.2.2.2.1
  · have c3 : Steps p.tables e below (s₁.setTop (entryFrame m #[.ref x, .int (Int32.ofNat i)] 2)) (T2.setTop (mkF m 8 #[.val (.ref x), .val (.int (Int32.ofNat i))] [.ref x])) := Steps.trans g2 (by
      refine XS.ifNo X2.here hexec rfl (hb hbytes d4) rfl (i0_eq_f (by decide)) ?_
      refine XS.aloadN X2.here hexec rfl (hb hbytes d7) rfl rfl ?_
      exact Steps.refl _)
    obtain ⟨T4, X4, q4, st4⟩ := X2.hget hexec hown (wk W (.fieldLink "java/lang/String" 9 "java/lang/String" "value" "[B")) hx2.2.1 (g := (mkF m 8 #[.val (.ref x), .val (.int (Int32.ofNat i))] [.ref x])) rfl (rest := []) rfl (hb hbytes d8)
    have hh4 := q4.trans hh2
    have c5 : Steps p.tables e below (s₁.setTop (entryFrame m #[.ref x, .int (Int32.ofNat i)] 2)) (T4.setTop (mkF m 12 #[.val (.ref x), .val (.int (Int32.ofNat i))] [.int (Int32.ofNat i), .ref t])) := (c3.trans (st4 _ (Steps.refl _))).trans (by
      refine XS.iloadN X4.here hexec rfl (hb hbytes d11) rfl ?_
      exact Steps.refl _)
    obtain ⟨v6, T6, X6, E6, g6⟩ := X4.callS hexec (LChA.law l t V i (lo8 (f i)) fm) hown (wks W (staticW "java/lang/String" 495 LChA.yN)) (wk W LChA.tab) (W := 0) (Nat.le_of_ble_eq_true rfl) (Nat.le_of_ble_eq_true rfl) (Nat.le_refl _) (Nat.le_refl _) (g := (mkF m 12 #[.val (.ref x), .val (.int (Int32.ofNat i))] [.int (Int32.ofNat i), .ref t])) rfl (by rw [hml]; rfl) c5 (argsL := [.ref t, .int (Int32.ofNat i)]) (rest := []) rfl rfl (by show 2 * 0 + 0 ≤ _; decide) (hb hbytes d12) (⟨rfl, hx.2.2.2.1.mv X4.warmed.alike hh4, (k2 i hi).1, s3.there X4.warmed.alike hh4, rf⟩)
    obtain ⟨rfl, q6⟩ := E6
    rw [chr8_lo8 hr.1 (k2 i hi).2] at g6
    exact ⟨T6, some (.int (f i)), _, _, _, X6, rfl, rfl, rfl, (fun h => by cases h), ⟨rfl, q6.trans hh4⟩, fun fs hl => Steps.trans g6 (X6.ireturnOut hexec hret (narrow_ch hr.1 hr.2) (Or.inr (Or.inr (Or.inr (Or.inl rfl)))) (hb hbytes d15) hl)⟩
  · exact absurd k0 (by decide)
theorem pays {l : Launch} {R : Room} {p : Program} {e : Env} {below : List Frame} {s : State} {sargs : Array Value} {len W : Nat} (x t : Addr) (V : Cell) (n : Nat) (f : Nat → Int32) (z : Int32) (fm : Value) (i : Nat) (htab : tab.before sargs s = true) (hfr : 4 ≤ R.frames) (hlo : W + 53 ≤ R.locals) :
    Back l R p e below s sargs yN len W (fun A₁ a₁ => A₁.cells + 0 ≤ R.cells ∧ A₁.slots + 0 ≤ R.slots ∧ P x t V n f z fm i a₁ A₁.U) (fun A₁ _ v₁ B₁ => E f i v₁ A₁.U B₁.U ∧ B₁.locs = A₁.locs ++ [] ∧ B₁.cells = A₁.cells + 0 ∧ B₁.slots = A₁.slots + 0) :=
  (law l x t V n f z fm i).pays htab hfr (by omega)
end ChN
end StrChars
namespace StrChars.Road
open Jvm Sem ClassFile Op Lib Jvm.Stand Jvm.Free Jvm.Free.XT
open Jvm.Lib.Cold (StaticIs)
/-- the words of String.charAt(int), the Latin-1 road alone -/
abbrev wordsChN : List Jvm.Cond := [.code ChN.yN ChN.yB 2 (some .char), .initialized ST, .fieldLink ST 9 ST "value" "[B", .fieldLink ST 38 ST "COMPACT_STRINGS" "Z", .fieldLink ST 15 ST "coder" "B", .code IsL.yN IsL.yB 1 (some .boolean), .methodLink ST 492 IsL.yN, .declares IsL.yN, .selects ST IsL.yN IsL.yN, .instanceMethod IsL.yN,
  .methodLink ST 495 LChA.yN, .static LChA.yN, .code LChA.yN LChA.yB 2 (some .char), .initialized "java/lang/StringLatin1", .methodLink "java/lang/StringLatin1" 9 JO.Str_checkIndex.yN, .static JO.Str_checkIndex.yN, .code JO.Str_checkIndex.yN JO.Str_checkIndex.yB 2 none,
  .fieldLink ST 1053 "jdk/internal/util/Preconditions" "SIOOBE_FORMATTER" "Ljava/util/function/BiFunction;", .methodLink ST 1059 JC.PreCheck.yN, .static JC.PreCheck.yN, .code JC.PreCheck.yN JC.PreCheck.yB 3 (some .int), .initialized "jdk/internal/util/Preconditions"]
theorem tabChN_of {a : Array Value} {s : State} (h : ∀ w ∈ wordsChN, w.before a s = true) : ChN.tab.before a s = true := by
  have hp : JC.PreCheck.tab.before a s = true := unparts (wk h (.code JC.PreCheck.yN JC.PreCheck.yB 3 (some .int))) (wks h (.initialized JC.PreCheck.yN.cls :: JC.PreCheck.site))
  have qk := consq hp h
  have hk : JO.Str_checkIndex.tab.before a s = true := unparts (wk qk (.code JO.Str_checkIndex.yN JO.Str_checkIndex.yB 2 none)) (wks qk (.initialized JO.Str_checkIndex.yN.cls :: JO.Str_checkIndex.site))
  have ql := consq hk h
  have hl : LChA.tab.before a s = true := unparts (wk ql (.code LChA.yN LChA.yB 2 (some .char))) (wks ql (.initialized LChA.yN.cls :: LChA.site))
  have hi : IsL.tab.before a s = true := unparts (wk h (.code IsL.yN IsL.yB 1 (some .boolean))) (wks h (.initialized IsL.yN.cls :: IsL.site))
  have q := consq hi (consq hl h)
  exact unparts (wk q (.code ChN.yN ChN.yB 2 (some .char))) (wks q (.initialized ChN.yN.cls :: ChN.site))
theorem movedChN {Z s : State} {a0 args : Array Value} (hZ : Z.Warmed39 s.vm) (hw : ∀ d ∈ wordsChN, d.before a0 Z = true) : ∀ d ∈ wordsChN, d.before args s = true := fun d hd => by
  have t : ∀ d ∈ wordsChN, (d.onTables && d.keepsFace) = true := by decide +kernel
  exact RoadKit.mv hZ (hw d hd) (t d hd)
/-- **charAt(i) OF A LATIN-1 STRING**, i < n: the char -/
theorem chN {p : Program} {l : Launch} {e : Env} {R : Room} {s : State} {args : Array Value} {below : List Frame} {len W : Nat} {Z : State} {a0 : Array Value} {h : Heap} (hZ : Z.Warmed39 s.vm) (hw : ∀ d ∈ wordsChN, d.before a0 Z = true) {kI : Nat} (wi : (Jvm.Cond.instantiable ST kI).before a0 Z = true)
    {x t : Addr} {kb : ClassId} {cs : List Int32} {N2 z : Int32} {vs : List Value} {fm : Value} {i : Nat} {j : Int32} (E : RoadKit.Exa Z h x ST) (V : RoadKit.Fld Z h x ST "value" "[B" (.ref t)) (C : RoadKit.Fld Z h x ST "coder" "B" (.int 0)) (K : RoadKit.Arv Z h t kb .byte N2 vs (.int 0)) (hc : CodA cs 0 N2 vs) (hb : ∀ c ∈ cs, ¬ c < 0 ∧ ¬ (65535 : Int32) < c)
    (S : RoadKit.Sta Z h ST "COMPACT_STRINGS" "Z" (.int z)) (hz : ¬ z = 0) (F : RoadKit.Sta Z h "jdk/internal/util/Preconditions" "SIOOBE_FORMATTER" "Ljava/util/function/BiFunction;" fm) (rf : fm.isRef = true) (l2 : cs.length ≤ 4000) (hi : i < cs.length) (hj : j = Int32.ofNat i) (hfr : 4 ≤ R.frames) (hlo : W + 53 ≤ R.locals) :
    Back l R p e below s args (⟨"java/lang/String", "charAt", "(I)C"⟩ : MethodName) len W (fun P a => a = #[.ref x, .int j] ∧ P.U.heap = h ∧ P.cells + 0 ≤ R.cells ∧ P.slots + 0 ≤ R.slots)
      (fun P _ v B => ∃ L, (v = some (.int (cs.getD i 0)) ∧ L = [] ∧ B.U.heap = h) ∧ B.locs = P.locs ++ L ∧ B.cells = P.cells + 0 ∧ B.slots = P.slots + 0) := by
  subst hj
  intro m meth c P g ig mk a X hg hsize hdg hW hn hp'
  obtain ⟨rfl, rfl, r1, r2⟩ := hp'
  have al : Z.vm.Alike P.U.vm := hZ.alike.trans X.warmed.alike
  obtain ⟨A, hx⟩ := txt_of wi al E V C K hc hb l2
  obtain ⟨v, B, X', ⟨⟨hv, hh⟩, hl, hk, hs⟩, st⟩ := ChN.pays x t A cs.length (fun j => cs.getD j 0) z fm i (tabChN_of (movedChN hZ hw)) hfr hlo m meth c P g ig mk _ X hg hsize hdg hW hn ⟨r1, r2, rfl, hx, hi, sta_is al S, hz, sta_is al F, rf⟩
  exact ⟨v, B, X', ⟨[], ⟨hv, rfl, hh⟩, hl, hk, hs⟩, st⟩
/-- what backV says of its String, as the contracts of this text ask it: cs's low bytes, coder 0 -/
theorem codOf {cs : List Int32} {n : Nat} (hn : cs.length = n) (hb : ∀ c ∈ cs, ¬ 255 < c) : CodA cs 0 (Int32.ofNat n) ((cs.map lo8).map Value.int) := Or.inl ⟨rfl, by rw [hn], by simp [List.map_map, Function.comp_def], hb⟩
end StrChars.Road
end Jvm.Pilot.@@N@@
namespace Jvm.Pilot.@@N@@
open Jvm Jvm.ClassFile Sem Op Lib Jvm.Free Jvm.Stand Jvm.LawKit Jvm.RoadKit Bundle Jvm.Pilot.@@N@@.Jvm.D
section Own
variable {p : Program} {l : Launch} {e : Env} {R : Room} {s : State} {m : MethodId} {args : Array Value} {below : List Frame} {meth : Method} {c : Code} {T T' : State} {locs : List Loc} {cells slots : Nat}
/-- from the frame g over the state T the body comes to its end, as Q says -/
def own_E (p : Program) (e : Env) (below : List Frame) (s : State) (Q : Option Value → Heap → List Loc → Prop) (k n : Nat) (T : State) (g : JFrame) : Prop :=
  ∃ U o, Steps p.tables e below (T.setTop g) U ∧ U.status = .running ∧ Ended U below o ∧ ∃ v L, o = Outcome.returned v ∧ Q v U.heap L ∧ FrameEnd s o U L k n
variable {Q : Option Value → Heap → List Loc → Prop} {k n : Nat} {g g' : JFrame}
theorem own_via (st : ∀ t, Steps p.tables e below (T'.setTop g') t → Steps p.tables e below (T.setTop g) t) (h : own_E p e below s Q k n T' g') : own_E p e below s Q k n T g := by
  obtain ⟨U, o, h1, r⟩ := h
  exact ⟨U, o, st U h1, r⟩
theorem own_thru (st : Steps p.tables e below (T.setTop g) (T'.setTop g')) (h : own_E p e below s Q k n T' g') : own_E p e below s Q k n T g := own_via (fun _ k => st.trans k) h
theorem own_retN (X : Stand p l e R s m args below meth c T locs cells slots) (hx : p.tables.exec = Jvm.exec) (hlk : meth.locks = false) {pc : Nat} {Ls : Array Slot} {z : Int32} {t : FieldType} {rest : List Value} (hret : meth.sig.returnType = some t) (ht : t = .boolean ∨ t = .byte ∨ t = .char ∨ t = .short)
    (hd : decode c.code pc = .ok (.ireturn, 1)) (hk : cells ≤ k) (hn : slots ≤ n) (hQ : Q (some (.int (nar t z))) T.heap locs) : own_E p e below s Q k n T (mkF m pc Ls (.int z :: rest)) := by
  obtain ⟨fs, hr, hrun, hended, hW, hsame⟩ := X.leave (v := some (.int (nar t z))) (fun h => by rw [hret] at h; cases h) hlk
  exact ⟨_, _, retN X hx hret ht hd hr, hrun, hended, _, _, rfl, hQ, ⟨_, rfl⟩, hW, hsame.mono hk hn⟩
theorem own_ret (X : Stand p l e R s m args below meth c T locs cells slots) (hx : p.tables.exec = Jvm.exec) (hlk : meth.locks = false) {pc : Nat} {Ls : Array Slot} {w : Value} {t : FieldType} {i : Instr} {rest : List Value} (hret : meth.sig.returnType = some t) (hnr : narrow t w = w)
    (hi : (i = .ireturn ∧ (t = .int ∨ t = .boolean ∨ t = .byte ∨ t = .char ∨ t = .short) ∧ ∃ z, w = .int z) ∨ (i = .lreturn ∧ t = .long ∧ ∃ z, w = .long z) ∨ (i = .dreturn ∧ t = .double ∧ ∃ z, w = .double z) ∨ (i = .freturn ∧ t = .float ∧ ∃ z, w = .float z) ∨ (i = .areturn ∧ t.isReference = true ∧ w.isRef = true))
    (hd : decode c.code pc = .ok (i, 1)) (hk : cells ≤ k) (hn : slots ≤ n) (hQ : Q (some w) T.heap locs) : own_E p e below s Q k n T (mkF m pc Ls (w :: rest)) := by
  obtain ⟨fs, hr, hrun, hended, hW, hsame⟩ := X.leave (v := some w) (fun h => by rw [hret] at h; cases h) hlk
  exact ⟨_, _, retOut X hx hret hnr hi hd hr, hrun, hended, _, _, rfl, hQ, ⟨_, rfl⟩, hW, hsame.mono hk hn⟩
theorem own_retV (X : Stand p l e R s m args below meth c T locs cells slots) (hx : p.tables.exec = Jvm.exec) (hlk : meth.locks = false) {pc : Nat} {Ls : Array Slot} (hret : meth.sig.returnType = none)
    (hd : decode c.code pc = .ok (.return_, 1)) (hk : cells ≤ k) (hn : slots ≤ n) (hQ : Q none T.heap locs) : own_E p e below s Q k n T (mkF m pc Ls []) := by
  obtain ⟨fs, hr, hrun, hended, hW, hsame⟩ := X.leave (v := none) (fun _ => rfl) hlk
  exact ⟨_, _, X.returnOut hx hret hd hr, hrun, hended, _, _, rfl, hQ, ⟨_, rfl⟩, hW, hsame.mono hk hn⟩
end Own
def own_ushr (x y : Int32) : Int32 := (x.toUInt32 >>> (y &&& 31).toUInt32).toInt32
def own_ushrL (x : Int64) (y : Int32) : Int64 := (x.toUInt64 >>> (y &&& 0x3f).toInt64.toUInt64).toInt64
/-- a field of an old object, said by the case to hold an int -/
theorem own_fldI {Z : State} {args : Array Value} {t : Term} {C n d : String} {a : Addr} {k : Int32} (ev : t.eval args Z none [] Z = some (.ref a)) (h : (Cond.eq (.field t C n d) (.int k)).value args Z none Z [] = some true) : Fld Z Z.heap a C n d (.int k) := by
  obtain ⟨x, y, h1, h2, k1, k2⟩ := cmp_v (Or.inl h)
  obtain rfl : y = .int k := (Option.some.inj h2).symm
  obtain ⟨z, rfl⟩ : ∃ z, x = .int z := k2
  have e := gotT (Cond.eq_ints h1 h2) h
  subst e
  rw [fld_at ev] at h1
  exact Fld.start h1
/-- a field of an old object, said by the case to hold what another term names (a reference) -/
theorem own_fldR {Z : State} {args : Array Value} {t u : Term} {C n d : String} {a b : Addr} (ev : t.eval args Z none [] Z = some (.ref a)) (eu : u.eval args Z none [] Z = some (.ref b)) (h : (Cond.eq (.field t C n d) u).value args Z none Z [] = some true) : Fld Z Z.heap a C n d (.ref b) := by
  obtain ⟨x, y, h1, h2, k1, k2⟩ := cmp_v (Or.inl h)
  obtain rfl : y = .ref b := Option.some.inj (h2.symm.trans eu)
  have hx : x.isRef = true := k2.2
  have q := gotT (eq_R h1 h2 hx rfl) h
  subst q
  rw [fld_at ev] at h1
  exact Fld.start h1
section OwnArr
variable {p : Program} {l : Launch} {e : Env} {R : Room} {s : State} {m : MethodId} {args : Array Value} {below : List Frame} {meth : Method} {c : Code} {T T' : State} {locs : List Loc} {cells slots : Nat} {Z : State} {h h' : Heap} {a b : Addr} {ty : FieldType} {N : Nat} {f : Nat → Int32}
/-- an array of N ints of a small kind, whose i-th holds f i -/
def own_Ar (Z : State) (h : Heap) (a : Addr) (ty : FieldType) (N : Nat) (f : Nat → Int32) : Prop := ∃ cl : Cell, Arr Z h a cl ty ∧ cl.slots.size = N ∧ ∀ i, i < N → cl.slots[i]? = some (.int (f i))
theorem own_Ar.lt (F : own_Ar Z h a ty N f) : a < h.size := by obtain ⟨cl, A, -⟩ := F; exact A.lt
theorem own_Ar.ext (F : own_Ar Z h a ty N f) (E : Ext h h') : own_Ar Z h' a ty N f := by obtain ⟨cl, A, r⟩ := F; exact ⟨cl, A.ext E, r⟩
theorem own_Ar.other {sl : Nat} {v : Value} (F : own_Ar Z h a ty N f) (W : Wr h h' b sl v) (q : a ≠ b) : own_Ar Z h' a ty N f := by obtain ⟨cl, A, r⟩ := F; exact ⟨cl, A.other W q, r⟩
theorem own_Ar.keep {ws : List Addr} (F : own_Ar Z h a ty N f) (K : Keep h h' ws) (q : a ∉ ws) : own_Ar Z h' a ty N f := by obtain ⟨cl, A, r⟩ := F; exact ⟨cl, ⟨K.2.1 a cl A.1 q, A.2⟩, r⟩
theorem own_Ar.congr {g : Nat → Int32} (F : own_Ar Z h a ty N f) (q : ∀ i, i < N → f i = g i) : own_Ar Z h a ty N g := by obtain ⟨cl, A, S, H⟩ := F; exact ⟨cl, A, S, fun i hi => by rw [H i hi, q i hi]⟩
theorem own_Ar.new {k : ClassId} {z : Int32} (A : Arr Z h a (newA k ty z) ty) (hz : z.toNatClampNeg = N) (hd : defaultValue ty = .int 0) : own_Ar Z h a ty N (fun _ => 0) :=
  ⟨_, A, by rw [sz_new, hz], fun i hi => by simp [newA, hz, hi, hd]⟩
def own_upd (f : Nat → Int32) (j : Nat) (x : Int32) (i : Nat) : Int32 := if i = j then x else f i
theorem own_Ar.wr {cl : Cell} {jn : Nat} {x : Int32} (A : Arr Z h a cl ty) (S : cl.slots.size = N) (H : ∀ i, i < N → cl.slots[i]? = some (.int (f i))) (W : Wr h h' a jn (.int x)) (hj : jn < N) : own_Ar Z h' a ty N (own_upd f jn x) := by
  refine ⟨_, A.same W, by rw [sz_set]; exact S, fun i hi => ?_⟩
  by_cases q : i = jn
  · subst q; simp [Cell.setSlot, own_upd, S, hi]
  · have := H i hi
    simp only [Cell.setSlot, own_upd, if_neg q]
    rw [Array.getElem?_setIfInBounds_ne (Ne.symm q)]; exact this
theorem own_caload (X : Stand p l e R s m args below meth c T locs cells slots) (hx : p.tables.exec = Jvm.exec) (hZ : Z.Warmed39 s.vm) (eT : T.heap = h) (F : own_Ar Z h a .char N f) (hN : N < 2 ^ 31) {jn : Nat} (hj : jn < N) {j : Int32} (ej : j = Int32.ofNat jn)
    {g : JFrame} (hg : g.method = m) {rest : List Value} (hs : g.stack = .int j :: .ref a :: rest) (hd : decode c.code g.pc = .ok (.caload, 1)) :
    ∀ t, Steps p.tables e below (T.setTop { g with pc := g.pc + 1, stack := .int (f jn) :: rest }) t → Steps p.tables e below (T.setTop g) t := by
  obtain ⟨cl, A, S, H⟩ := F
  exact X.caload hx (by rw [eT]; exact A.1) (State.isArrayOf_alike hZ.alike A.2.1) A.2.2 (by rw [S]; exact within ej hj hN) (by rw [clamp_of ej (by omega)]; exact H _ hj) hg hs hd
theorem own_baloadZ (X : Stand p l e R s m args below meth c T locs cells slots) (hx : p.tables.exec = Jvm.exec) (hZ : Z.Warmed39 s.vm) (eT : T.heap = h) (F : own_Ar Z h a .boolean N f) (hN : N < 2 ^ 31) {jn : Nat} (hj : jn < N) {j : Int32} (ej : j = Int32.ofNat jn)
    {g : JFrame} (hg : g.method = m) {rest : List Value} (hs : g.stack = .int j :: .ref a :: rest) (hd : decode c.code g.pc = .ok (.baload, 1)) :
    ∀ t, Steps p.tables e below (T.setTop { g with pc := g.pc + 1, stack := .int (f jn) :: rest }) t → Steps p.tables e below (T.setTop g) t := by
  obtain ⟨cl, A, S, H⟩ := F
  exact X.baloadBooleans hx (by rw [eT]; exact A.1) (State.isArrayOf_alike hZ.alike A.2.1) A.2.2 (by rw [S]; exact within ej hj hN) (by rw [clamp_of ej (by omega)]; exact H _ hj) hg hs hd
theorem own_alen (X : Stand p l e R s m args below meth c T locs cells slots) (hx : p.tables.exec = Jvm.exec) (hZ : Z.Warmed39 s.vm) (eT : T.heap = h) (F : own_Ar Z h a ty N f)
    {g : JFrame} (hg : g.method = m) {rest : List Value} (hs : g.stack = .ref a :: rest) (hd : decode c.code g.pc = .ok (.arraylength, 1)) :
    ∀ t, Steps p.tables e below (T.setTop { g with pc := g.pc + 1, stack := .int (Int32.ofNat N) :: rest }) t → Steps p.tables e below (T.setTop g) t := by
  obtain ⟨cl, A, S, H⟩ := F
  subst S
  exact X.arraylength hx (by rw [eT]; exact A.1) (State.isArrayOf_alike hZ.alike A.2.1) hg hs hd
theorem own_castore (X : Stand p l e R s m args below meth c T locs cells slots) (hx : p.tables.exec = Jvm.exec) (hZ : Z.Warmed39 s.vm) (eT : T.heap = h) (F : own_Ar Z h a .char N f) (hN : N < 2 ^ 31) {jn : Nat} (hj : jn < N) {j x : Int32} (ej : j = Int32.ofNat jn)
    {g : JFrame} (hg : g.method = m) {rest : List Value} (hs : g.stack = .int x :: .int j :: .ref a :: rest) (hd : decode c.code g.pc = .ok (.castore, 1)) {n0 : Nat} (N0 : Fr n0 locs) (hge : n0 ≤ a) :
    ∃ T' h', Stand p l e R s m args below meth c T' (locs ++ [⟨a, jn⟩]) cells slots ∧ T'.heap = h' ∧ own_Ar Z h' a .char N (own_upd f jn (nar .char x)) ∧ Wr h h' a jn (.int (nar .char x)) ∧ Fr n0 (locs ++ [⟨a, jn⟩]) ∧ ∀ t, Steps p.tables e below (T'.setTop { g with pc := g.pc + 1, stack := rest }) t → Steps p.tables e below (T.setTop g) t := by
  obtain ⟨cl, A, S, H⟩ := F
  obtain ⟨T', h', X', e', W, st⟩ := stC X hx hZ eT A (by rw [S]; exact within ej hj hN) hg hs hd
  rw [clamp_of ej (by omega)] at X' W
  exact ⟨T', h', X', e', own_Ar.wr A S H W hj, W, Fr.snoc X' N0 hge, st⟩
end OwnArr
theorem own_num {i : Nat} (h : i < 2147483648) : (Int32.ofNat i).toInt = (i : Int) := Int32.toInt_ofNat_small h
theorem own_lt {i n : Nat} (hi : i < 2147483648) (hn : n < 2147483648) : Int32.ofNat i < Int32.ofNat n ↔ i < n := by
  rw [Int32.lt_iff_toInt_lt, own_num hi, own_num hn]; omega
theorem own_eq {i n : Nat} (hi : i < 2147483648) (hn : n < 2147483648) : Int32.ofNat i = Int32.ofNat n ↔ i = n := by
  rw [← Int32.toInt_inj, own_num hi, own_num hn]; omega
theorem own_one (i : Nat) : Int32.ofNat i + (1 : Int32) = Int32.ofNat (i + 1) := (Int32.ofNat_add i 1).symm
theorem own_dec {n : Nat} (h : 0 < n) : Int32.ofNat n + (-1 : Int32) = Int32.ofNat (n - 1) := by
  obtain ⟨m, rfl⟩ : ∃ m, n = m + 1 := ⟨n - 1, by omega⟩
  rw [Int32.ofNat_add, Int32.add_assoc, show Int32.ofNat 1 + (-1 : Int32) = 0 from by decide, Int32.add_zero]; rfl
theorem own_sub {n k : Nat} (h : k ≤ n) (hn : n < 2147483648) : Int32.ofNat n - Int32.ofNat k = Int32.ofNat (n - k) := by
  apply Int32.toInt_inj.mp
  have h1 := c_isub (Int32.ofNat n) (Int32.ofNat k)
  have h2 := rng32 (Int32.ofNat n - Int32.ofNat k)
  rw [own_num hn, own_num (by omega)] at h1
  rw [own_num (by omega)]
  omega
theorem own_numL {n : Nat} (h : n < 9223372036854775808) : (Int64.ofNat n).toInt = (n : Int) := Int64.toInt_ofNat_of_lt h
theorem own_divL {n : Nat} (h : n < 9223372036854775808) : Int64.ofNat n / (10 : Int64) = Int64.ofNat (n / 10) := by
  apply Int64.toInt_inj.mp
  rw [(c_ldiv (Int64.ofNat n) 10 10 rfl (by decide)).1 (by rw [own_numL h]; omega), own_numL h, own_numL (by omega)]
  omega
theorem own_remL {n : Nat} (h : n < 9223372036854775808) : Int64.ofNat n - Int64.ofNat n / (10 : Int64) * (10 : Int64) = Int64.ofNat (n % 10) := by
  apply Int64.toInt_inj.mp
  rw [(c_lrem (Int64.ofNat n) 10 10 rfl).1 (by rw [own_numL h]; omega), own_numL h, own_numL (by omega)]
  omega
theorem own_dig' : ∀ d : Fin 10, nar .char (nar .char ((48 : Int64) + Int64.ofNat d.1).toInt32) = Int32.ofNat (48 + d.1) := by decide +kernel
theorem own_digit {n : Nat} (h : n < 9223372036854775808) : nar .char (nar .char ((48 : Int64) + (Int64.ofNat n - Int64.ofNat n / (10 : Int64) * (10 : Int64))).toInt32) = Int32.ofNat (48 + n % 10) := by
  rw [own_remL h]; exact own_dig' ⟨n % 10, by omega⟩
theorem own_gtL {n : Nat} (h : n < 9223372036854775808) : (0 : Int32) < lcmpW (Int64.ofNat n) (0 : Int64) ↔ 0 < n := by
  rw [lw_gt, Int64.lt_iff_toInt_lt, own_numL h, show (0 : Int64).toInt = 0 from rfl]; omega
def own_dg (x : Int32) : Nat := (x.toInt - 48).toNat
theorem own_dg_of {d : Nat} (h : d < 10) : own_dg (Int32.ofNat (48 + d)) = d := by
  unfold own_dg; rw [own_num (by omega)]; omega
/-- the number that k places from place i on spell, behind acc, the comma at c left out -/
def own_rd (f : Nat → Int32) (c : Nat) : Nat → Nat → Nat → Nat
  | _, 0, acc => acc
  | i, k + 1, acc => own_rd f c (i + 1) k (if i = c then acc else acc * 10 + own_dg (f i))
theorem own_rd_0 (f : Nat → Int32) (c i acc : Nat) : own_rd f c i 0 acc = acc := rfl
theorem own_rd_s (f : Nat → Int32) (c i k acc : Nat) : own_rd f c i (k + 1) acc = own_rd f c (i + 1) k (if i = c then acc else acc * 10 + own_dg (f i)) := rfl
theorem own_rd_congr {f g : Nat → Int32} {c : Nat} : ∀ (k i acc : Nat), (∀ p, i ≤ p → f p = g p) → own_rd f c i k acc = own_rd g c i k acc
  | 0, _, _, _ => rfl
  | k + 1, i, acc, h => by
    show own_rd f c (i + 1) k (if i = c then acc else acc * 10 + own_dg (f i)) = own_rd g c (i + 1) k (if i = c then acc else acc * 10 + own_dg (g i))
    rw [h i (Nat.le_refl _)]
    exact own_rd_congr k (i + 1) _ (fun p hp => h p (by omega))
def own_D (f : Nat → Int32) (lo en : Nat) : Prop := ∀ p, lo ≤ p → p < en → p ≠ en - 3 → ∃ d, d < 10 ∧ f p = Int32.ofNat (48 + d)
def own_I (N en at_ x : Nat) (f : Nat → Int32) (q w : Nat) : Prop := at_ + 3 ≤ en ∧ (∀ p, p < at_ → f p = 0) ∧ (∀ p, en ≤ p → f p = 0) ∧ f (en - 3) = 44 ∧ own_D f at_ en ∧ (∀ acc, own_rd f (en - 3) at_ (en - at_) acc = acc * q + w) ∧ x * q + w = N ∧ (at_ + 3 = en ∨ 0 < x)
def own_G (N en st : Nat) (f : Nat → Int32) : Prop := en ≤ st + 20 ∧ st + 4 ≤ en ∧ (∀ p, p < st → f p = 0) ∧ (∀ p, en ≤ p → f p = 0) ∧ f (en - 3) = 44 ∧ own_D f st en ∧ own_rd f (en - 3) st (en - st) 0 = N ∧ (f st = 48 → st + 4 = en)
theorem own_upd_at {f : Nat → Int32} {j : Nat} {x : Int32} : own_upd f j x j = x := if_pos rfl
theorem own_upd_ne {f : Nat → Int32} {j i : Nat} {x : Int32} (h : i ≠ j) : own_upd f j x i = f i := if_neg h
theorem own_I0 {N en : Nat} (he : 20 ≤ en) : own_I N en (en - 3) (N / 10 / 10) (own_upd (own_upd (own_upd (fun _ => 0) (en - 1) (Int32.ofNat (48 + N % 10))) (en - 2) (Int32.ofNat (48 + N / 10 % 10))) (en - 3) 44) 100 (N / 10 % 10 * 10 + N % 10) := by
  refine ⟨by omega, fun p hp => ?_, fun p hp => ?_, own_upd_at, fun p h1 h2 h3 => ?_, fun acc => ?_, by omega, Or.inl (by omega)⟩
  · rw [own_upd_ne (by omega), own_upd_ne (by omega), own_upd_ne (by omega)]
  · rw [own_upd_ne (by omega), own_upd_ne (by omega), own_upd_ne (by omega)]
  · rw [own_upd_ne h3]
    by_cases q : p = en - 2
    · subst q; exact ⟨N / 10 % 10, by omega, own_upd_at⟩
    · obtain rfl : p = en - 1 := by omega
      rw [own_upd_ne q]; exact ⟨N % 10, by omega, own_upd_at⟩
  · rw [show en - (en - 3) = 2 + 1 from by omega, own_rd_s, own_rd_s, own_rd_s, own_rd_0]
    rw [if_neg (by omega), if_neg (by omega), if_pos rfl]
    rw [show en - 3 + 1 + 1 = en - 1 from by omega, show en - 3 + 1 = en - 2 from by omega]
    have e1 : own_upd (own_upd (own_upd (fun _ => 0) (en - 1) (Int32.ofNat (48 + N % 10))) (en - 2) (Int32.ofNat (48 + N / 10 % 10))) (en - 3) 44 (en - 1) = Int32.ofNat (48 + N % 10) := by
      rw [own_upd_ne (by omega), own_upd_ne (by omega), own_upd_at]
    have e2 : own_upd (own_upd (own_upd (fun _ => 0) (en - 1) (Int32.ofNat (48 + N % 10))) (en - 2) (Int32.ofNat (48 + N / 10 % 10))) (en - 3) 44 (en - 2) = Int32.ofNat (48 + N / 10 % 10) := by
      rw [own_upd_ne (by omega), own_upd_at]
    rw [e1, e2, own_dg_of (by omega), own_dg_of (by omega)]
    omega
theorem own_IS {N en at_ x : Nat} {f : Nat → Int32} {q w : Nat} (h : own_I N en at_ x f q w) (h0 : 0 < at_) : (∀ p, p < at_ - 1 → own_upd f (at_ - 1) (Int32.ofNat (48 + x % 10)) p = 0) ∧ (∀ p, en ≤ p → own_upd f (at_ - 1) (Int32.ofNat (48 + x % 10)) p = 0) ∧ own_upd f (at_ - 1) (Int32.ofNat (48 + x % 10)) (en - 3) = 44 ∧ own_D (own_upd f (at_ - 1) (Int32.ofNat (48 + x % 10))) (at_ - 1) en ∧
    (∀ acc, own_rd (own_upd f (at_ - 1) (Int32.ofNat (48 + x % 10))) (en - 3) (at_ - 1) (en - (at_ - 1)) acc = acc * (q * 10) + (x % 10 * q + w)) ∧ (x / 10) * (q * 10) + (x % 10 * q + w) = N := by
  obtain ⟨i1, i2, i3, i4, i5, i6, i7, i8⟩ := h
  refine ⟨fun p hp => by rw [own_upd_ne (by omega)]; exact i2 p (by omega), fun p hp => by rw [own_upd_ne (by omega)]; exact i3 p hp, by rw [own_upd_ne (by omega)]; exact i4, fun p h1 h2 h3 => ?_, fun acc => ?_, ?_⟩
  · by_cases e : p = at_ - 1
    · subst e; exact ⟨x % 10, by omega, own_upd_at⟩
    · rw [own_upd_ne e]; exact i5 p (by omega) h2 h3
  · rw [show en - (at_ - 1) = (en - at_) + 1 from by omega]
    show own_rd _ _ (at_ - 1 + 1) (en - at_) (if at_ - 1 = en - 3 then acc else acc * 10 + own_dg (own_upd f (at_ - 1) (Int32.ofNat (48 + x % 10)) (at_ - 1))) = _
    rw [if_neg (by omega), own_upd_at, own_dg_of (by omega), show at_ - 1 + 1 = at_ from by omega]
    rw [own_rd_congr (g := f) _ _ _ (fun p hp => own_upd_ne (by omega)), i6]
    rw [Nat.add_mul, Nat.mul_assoc acc 10 q, Nat.mul_comm 10 q, Nat.add_assoc]
  · rw [← i7]
    have e : x = 10 * (x / 10) + x % 10 := by omega
    calc x / 10 * (q * 10) + (x % 10 * q + w) = (10 * (x / 10) + x % 10) * q + w := by
          rw [Nat.add_mul, Nat.mul_comm q 10, ← Nat.mul_assoc, Nat.mul_comm (x / 10) 10, Nat.add_assoc]
      _ = x * q + w := by rw [← e]
theorem own_pow {x k : Nat} (h : x < 10 ^ (k + 1)) : x / 10 < 10 ^ k := by
  rw [Nat.pow_succ] at h; omega

def QI (r : Int32) (h0 : Heap) (n0 : Nat) (v : Option Value) (h : Heap) (L : List Loc) : Prop := v = some (.int r) ∧ Fr n0 L ∧ h = h0
theorem d1_0 : decode prog_133_method_7_code 0 = .ok (.iload_n 3, 1) := by decide +kernel
theorem d1_1 : decode prog_133_method_7_code 1 = .ok (.istore 4, 2) := by decide +kernel
theorem d1_3 : decode prog_133_method_7_code 3 = .ok (.lload_n 0, 1) := by decide +kernel
theorem d1_4 : decode prog_133_method_7_code 4 = .ok (.lstore 5, 2) := by decide +kernel
theorem d1_6 : decode prog_133_method_7_code 6 = .ok (.iconst 0, 1) := by decide +kernel
theorem d1_7 : decode prog_133_method_7_code 7 = .ok (.istore 7, 2) := by decide +kernel
theorem d1_9 : decode prog_133_method_7_code 9 = .ok (.iload 7, 2) := by decide +kernel
theorem d1_11 : decode prog_133_method_7_code 11 = .ok (.iconst 2, 1) := by decide +kernel
theorem d1_12 : decode prog_133_method_7_code 12 = .ok (.if_icmp .ge 36, 3) := by decide +kernel
theorem d1_15 : decode prog_133_method_7_code 15 = .ok (.iinc 4 (-1), 3) := by decide +kernel
theorem d1_18 : decode prog_133_method_7_code 18 = .ok (.aload_n 2, 1) := by decide +kernel
theorem d1_19 : decode prog_133_method_7_code 19 = .ok (.iload 4, 2) := by decide +kernel
theorem d1_21 : decode prog_133_method_7_code 21 = .ok (.ldc2_w 34, 3) := by decide +kernel
theorem d1_24 : decode prog_133_method_7_code 24 = .ok (.lload 5, 2) := by decide +kernel
theorem d1_26 : decode prog_133_method_7_code 26 = .ok (.ldc2_w 32, 3) := by decide +kernel
theorem d1_29 : decode prog_133_method_7_code 29 = .ok (.lrem, 1) := by decide +kernel
theorem d1_30 : decode prog_133_method_7_code 30 = .ok (.ladd, 1) := by decide +kernel
theorem d1_31 : decode prog_133_method_7_code 31 = .ok (.l2i, 1) := by decide +kernel
theorem d1_32 : decode prog_133_method_7_code 32 = .ok (.i2c, 1) := by decide +kernel
theorem d1_33 : decode prog_133_method_7_code 33 = .ok (.castore, 1) := by decide +kernel
theorem d1_34 : decode prog_133_method_7_code 34 = .ok (.lload 5, 2) := by decide +kernel
theorem d1_36 : decode prog_133_method_7_code 36 = .ok (.ldc2_w 32, 3) := by decide +kernel
theorem d1_39 : decode prog_133_method_7_code 39 = .ok (.ldiv, 1) := by decide +kernel
theorem d1_40 : decode prog_133_method_7_code 40 = .ok (.lstore 5, 2) := by decide +kernel
theorem d1_42 : decode prog_133_method_7_code 42 = .ok (.iinc 7 1, 3) := by decide +kernel
theorem d1_45 : decode prog_133_method_7_code 45 = .ok (.goto (-36), 3) := by decide +kernel
theorem d1_48 : decode prog_133_method_7_code 48 = .ok (.iinc 4 (-1), 3) := by decide +kernel
theorem d1_51 : decode prog_133_method_7_code 51 = .ok (.aload_n 2, 1) := by decide +kernel
theorem d1_52 : decode prog_133_method_7_code 52 = .ok (.iload 4, 2) := by decide +kernel
theorem d1_54 : decode prog_133_method_7_code 54 = .ok (.bipush 44, 2) := by decide +kernel
theorem d1_56 : decode prog_133_method_7_code 56 = .ok (.castore, 1) := by decide +kernel
theorem d1_57 : decode prog_133_method_7_code 57 = .ok (.iinc 4 (-1), 3) := by decide +kernel
theorem d1_60 : decode prog_133_method_7_code 60 = .ok (.aload_n 2, 1) := by decide +kernel
theorem d1_61 : decode prog_133_method_7_code 61 = .ok (.iload 4, 2) := by decide +kernel
theorem d1_63 : decode prog_133_method_7_code 63 = .ok (.ldc2_w 34, 3) := by decide +kernel
theorem d1_66 : decode prog_133_method_7_code 66 = .ok (.lload 5, 2) := by decide +kernel
theorem d1_68 : decode prog_133_method_7_code 68 = .ok (.ldc2_w 32, 3) := by decide +kernel
theorem d1_71 : decode prog_133_method_7_code 71 = .ok (.lrem, 1) := by decide +kernel
theorem d1_72 : decode prog_133_method_7_code 72 = .ok (.ladd, 1) := by decide +kernel
theorem d1_73 : decode prog_133_method_7_code 73 = .ok (.l2i, 1) := by decide +kernel
theorem d1_74 : decode prog_133_method_7_code 74 = .ok (.i2c, 1) := by decide +kernel
theorem d1_75 : decode prog_133_method_7_code 75 = .ok (.castore, 1) := by decide +kernel
theorem d1_76 : decode prog_133_method_7_code 76 = .ok (.lload 5, 2) := by decide +kernel
theorem d1_78 : decode prog_133_method_7_code 78 = .ok (.ldc2_w 32, 3) := by decide +kernel
theorem d1_81 : decode prog_133_method_7_code 81 = .ok (.ldiv, 1) := by decide +kernel
theorem d1_82 : decode prog_133_method_7_code 82 = .ok (.lstore 5, 2) := by decide +kernel
theorem d1_84 : decode prog_133_method_7_code 84 = .ok (.lload 5, 2) := by decide +kernel
theorem d1_86 : decode prog_133_method_7_code 86 = .ok (.lconst 0, 1) := by decide +kernel
theorem d1_87 : decode prog_133_method_7_code 87 = .ok (.lcmp, 1) := by decide +kernel
theorem d1_88 : decode prog_133_method_7_code 88 = .ok (.ifCond .gt (-31), 3) := by decide +kernel
theorem d1_91 : decode prog_133_method_7_code 91 = .ok (.iload 4, 2) := by decide +kernel
theorem d1_93 : decode prog_133_method_7_code 93 = .ok (.ireturn, 1) := by decide +kernel
theorem pn_1 : plainName "com/example/poruka/poruka/rules/Amounts" = true := by first | (simp [plainName, overriddenIn]; done) | decide +kernel
theorem ef_1 (m : MethodId) (x0 : Int64) (x1 : Addr) (x2 : Int32) : entryFrame m #[(.long x0), (.ref x1), (.int x2)] 8 = mkF m 0 #[.val (.long x0), .second, .val (.ref x1), .val (.int x2), .unset, .unset, .unset, .unset] [] := by first | (simp [entryFrame, mkF, argsToLocals, Value.category]; done) | rfl
theorem pd_1 : parseMethodDescriptor "(J[CI)I" = some ⟨[.long, .array .char, .int], some .int⟩ := by decide +kernel
def QG (Z : State) (b : Addr) (N en : Nat) (h0 : Heap) (n0 : Nat) (v : Option Value) (h : Heap) (L : List Loc) : Prop := ∃ (st : Nat) (f : Nat → Int32), v = some (.int (Int32.ofNat st)) ∧ Fr n0 L ∧ Keep h0 h [b] ∧ own_Ar Z h b .char 24 f ∧ own_G N en st f
set_option maxRecDepth 65536 in
set_option maxHeartbeats 40000000 in
theorem rm1 (l : Launch) (Z : State) (a0 : Array Value) (hw : ∀ d ∈ tables_1, d.before a0 Z = true) (ws : List Jvm.Cond) (b : Addr) (N en : Nat) (hN : N < 9223372036854775808) (he1 : 20 ≤ en) (he2 : en ≤ 23) (h0 : Heap) (n0 : Nat) (Z0 : n0 ≤ h0.size) (F0 : own_Ar Z h0 b .char 24 (fun _ => 0)) (gz_b : n0 ≤ b) :
    MetFree l (⟨"com/example/poruka/poruka/rules/Amounts", "getChars", "(J[CI)I"⟩ : MethodName) (head1 (Jvm.Cond.code (⟨"com/example/poruka/poruka/rules/Amounts", "getChars", "(J[CI)I"⟩ : MethodName) prog_133_method_7_code 8 (some .int) :: ws) ({ frames := 0, cells := 0, slots := 0, locals := 0 } : Room)) (fun a U => a = #[(.long (Int64.ofNat N)), (.ref b), (.int (Int32.ofNat en))] ∧ Z.Warmed39 U.vm ∧ U.heap = h0) (fun _ _ _ _ _ => True) (fun _ U o U' => ∃ v L, o = .returned v ∧ QG Z b N en h0 n0 v U'.heap L ∧ FrameEnd U o U' L ({ frames := 0, cells := 0, slots := 0, locals := 0 } : Room).cells ({ frames := 0, cells := 0, slots := 0, locals := 0 } : Room).slots) := by
  refine MetFree.of_bodySF (plainFor_of_name pn_1) hisR ?_
  intro p e s m args below meth c s₁ Bd hml0 hP hK
  obtain ⟨rfl, hZ, hh⟩ := hP
  have hx := Bd.exec
  have hby := Bd.bytes
  have hlk := Bd.notSynchronized
  have hml : c.maxLocals = 8 := hml0
  have hown : s.vm.findClass "com/example/poruka/poruka/rules/Amounts" = some m.cls := findClass_of_methodNamed Bd.named
  have hnm := (name_of_methodNamed Bd.named Bd.method).1
  have X0 : Stand p l e ({ frames := 0, cells := 0, slots := 0, locals := 0 } : Room) s m #[(.long (Int64.ofNat N)), (.ref b), (.int (Int32.ofNat en))] below meth c s₁ [] 0 0 := Stand.of_body Bd
  have e0 : s₁.heap = h0 := by rw [← hh, Bd.state]; rfl
  have N0 := Fr.nil n0
  show own_E p e below s (QG Z b N en h0 n0) _ _ s₁ (entryFrame m #[(.long (Int64.ofNat N)), (.ref b), (.int (Int32.ofNat en))] 8)
  rw [ef_1]
  have loop : ∀ (k x at_ : Nat) (f : Nat → Int32) (q w : Nat), x < 10 ^ k → 1 ≤ k → k ≤ at_ → en + k ≤ at_ + 20 → x < 9223372036854775808 → own_I N en at_ x f q w → ∀ (T : State) (locs : List Loc) (h : Heap) (X : Stand p l e ({ frames := 0, cells := 0, slots := 0, locals := 0 } : Room) s m #[(.long (Int64.ofNat N)), (.ref b), (.int (Int32.ofNat en))] below meth c T locs 0 0) (eT : T.heap = h) (F : own_Ar Z h b .char 24 f) (K : Keep h0 h [b]) (NN : Fr n0 locs) (ZZ : n0 ≤ h.size), own_E p e below s (QG Z b N en h0 n0) 0 0 T (mkF m 57 #[.val (.long (Int64.ofNat N)), .second, .val (.ref b), .val (.int (Int32.ofNat en)), .val (.int (Int32.ofNat at_)), .val (.long (Int64.ofNat x)), .second, .val (.int (2 : Int32))] []) := by
    intro k
    induction k with
    | zero => intro x at_ f q w hx10 h1; omega
    | succ k ih =>
      intro x at_ f q w hx10 hk1 hka hb20 hxL hI T locs h X eT F K NN ZZ
      show own_E _ _ _ _ _ _ _ T (mkF m 57 #[.val (.long (Int64.ofNat N)), .second, .val (.ref b), .val (.int (Int32.ofNat en)), .val (.int (Int32.ofNat at_)), .val (.long (Int64.ofNat x)), .second, .val (.int (2 : Int32))] [])
      have hI1 := hI.1
      refine own_via (fun t => XS.iinc X.here hx rfl (hb hby d1_57) rfl (l' := #[.val (.long (Int64.ofNat N)), .second, .val (.ref b), .val (.int (Int32.ofNat en)), .val (.int ((Int32.ofNat at_) + (-1 : Int32))), .val (.long (Int64.ofNat x)), .second, .val (.int (2 : Int32))]) rfl) ?_
      show own_E _ _ _ _ _ _ _ T (mkF m 60 #[.val (.long (Int64.ofNat N)), .second, .val (.ref b), .val (.int (Int32.ofNat en)), .val (.int ((Int32.ofNat at_) + (-1 : Int32))), .val (.long (Int64.ofNat x)), .second, .val (.int (2 : Int32))] [])
      rw [own_dec (n := at_) (by omega)]
      show own_E _ _ _ _ _ _ _ T (mkF m 60 #[.val (.long (Int64.ofNat N)), .second, .val (.ref b), .val (.int (Int32.ofNat en)), .val (.int (Int32.ofNat (at_ - 1))), .val (.long (Int64.ofNat x)), .second, .val (.int (2 : Int32))] [])
      refine own_via (fun t => XS.aloadN X.here hx rfl (hb hby d1_60) rfl rfl) ?_
      show own_E _ _ _ _ _ _ _ T (mkF m 61 #[.val (.long (Int64.ofNat N)), .second, .val (.ref b), .val (.int (Int32.ofNat en)), .val (.int (Int32.ofNat (at_ - 1))), .val (.long (Int64.ofNat x)), .second, .val (.int (2 : Int32))] [(.ref b)])
      refine own_via (fun t => XS.iload X.here hx rfl (hb hby d1_61) rfl) ?_
      show own_E _ _ _ _ _ _ _ T (mkF m 63 #[.val (.long (Int64.ofNat N)), .second, .val (.ref b), .val (.int (Int32.ofNat en)), .val (.int (Int32.ofNat (at_ - 1))), .val (.long (Int64.ofNat x)), .second, .val (.int (2 : Int32))] [(.int (Int32.ofNat (at_ - 1))), (.ref b)])
      refine own_via (X.ldc2Long hx hown (mvT hZ (hw _ (List.mem_of_getElem? (i := 6) rfl))) (g := (mkF m 63 #[.val (.long (Int64.ofNat N)), .second, .val (.ref b), .val (.int (Int32.ofNat en)), .val (.int (Int32.ofNat (at_ - 1))), .val (.long (Int64.ofNat x)), .second, .val (.int (2 : Int32))] [(.int (Int32.ofNat (at_ - 1))), (.ref b)])) rfl (hb hby d1_63)) ?_
      show own_E _ _ _ _ _ _ _ T (mkF m 66 #[.val (.long (Int64.ofNat N)), .second, .val (.ref b), .val (.int (Int32.ofNat en)), .val (.int (Int32.ofNat (at_ - 1))), .val (.long (Int64.ofNat x)), .second, .val (.int (2 : Int32))] [(.long (48 : Int64)), (.int (Int32.ofNat (at_ - 1))), (.ref b)])
      refine own_via (fun t => XS.lload X.here hx rfl (hb hby d1_66) rfl) ?_
      show own_E _ _ _ _ _ _ _ T (mkF m 68 #[.val (.long (Int64.ofNat N)), .second, .val (.ref b), .val (.int (Int32.ofNat en)), .val (.int (Int32.ofNat (at_ - 1))), .val (.long (Int64.ofNat x)), .second, .val (.int (2 : Int32))] [(.long (Int64.ofNat x)), (.long (48 : Int64)), (.int (Int32.ofNat (at_ - 1))), (.ref b)])
      refine own_via (X.ldc2Long hx hown (mvT hZ (hw _ (List.mem_of_getElem? (i := 7) rfl))) (g := (mkF m 68 #[.val (.long (Int64.ofNat N)), .second, .val (.ref b), .val (.int (Int32.ofNat en)), .val (.int (Int32.ofNat (at_ - 1))), .val (.long (Int64.ofNat x)), .second, .val (.int (2 : Int32))] [(.long (Int64.ofNat x)), (.long (48 : Int64)), (.int (Int32.ofNat (at_ - 1))), (.ref b)])) rfl (hb hby d1_68)) ?_
      show own_E _ _ _ _ _ _ _ T (mkF m 71 #[.val (.long (Int64.ofNat N)), .second, .val (.ref b), .val (.int (Int32.ofNat en)), .val (.int (Int32.ofNat (at_ - 1))), .val (.long (Int64.ofNat x)), .second, .val (.int (2 : Int32))] [(.long (10 : Int64)), (.long (Int64.ofNat x)), (.long (48 : Int64)), (.int (Int32.ofNat (at_ - 1))), (.ref b)])
      refine own_via (fun t => XS.lrem X.here hx rfl (hb hby d1_71) rfl (by decide)) ?_
      show own_E _ _ _ _ _ _ _ T (mkF m 72 #[.val (.long (Int64.ofNat N)), .second, .val (.ref b), .val (.int (Int32.ofNat en)), .val (.int (Int32.ofNat (at_ - 1))), .val (.long (Int64.ofNat x)), .second, .val (.int (2 : Int32))] [(.long ((Int64.ofNat x) - (Int64.ofNat x) / (10 : Int64) * (10 : Int64))), (.long (48 : Int64)), (.int (Int32.ofNat (at_ - 1))), (.ref b)])
      refine own_via (fun t => XS.ladd X.here hx rfl (hb hby d1_72) rfl) ?_
      show own_E _ _ _ _ _ _ _ T (mkF m 73 #[.val (.long (Int64.ofNat N)), .second, .val (.ref b), .val (.int (Int32.ofNat en)), .val (.int (Int32.ofNat (at_ - 1))), .val (.long (Int64.ofNat x)), .second, .val (.int (2 : Int32))] [(.long ((48 : Int64) + ((Int64.ofNat x) - (Int64.ofNat x) / (10 : Int64) * (10 : Int64)))), (.int (Int32.ofNat (at_ - 1))), (.ref b)])
      refine own_via (fun t => XS.l2i X.here hx rfl (hb hby d1_73) rfl) ?_
      show own_E _ _ _ _ _ _ _ T (mkF m 74 #[.val (.long (Int64.ofNat N)), .second, .val (.ref b), .val (.int (Int32.ofNat en)), .val (.int (Int32.ofNat (at_ - 1))), .val (.long (Int64.ofNat x)), .second, .val (.int (2 : Int32))] [(.int ((48 : Int64) + ((Int64.ofNat x) - (Int64.ofNat x) / (10 : Int64) * (10 : Int64))).toInt32), (.int (Int32.ofNat (at_ - 1))), (.ref b)])
      refine own_via (fun t => XS.i2c X.here hx rfl (hb hby d1_74) rfl) ?_
      show own_E _ _ _ _ _ _ _ T (mkF m 75 #[.val (.long (Int64.ofNat N)), .second, .val (.ref b), .val (.int (Int32.ofNat en)), .val (.int (Int32.ofNat (at_ - 1))), .val (.long (Int64.ofNat x)), .second, .val (.int (2 : Int32))] [(.int (nar .char ((48 : Int64) + ((Int64.ofNat x) - (Int64.ofNat x) / (10 : Int64) * (10 : Int64))).toInt32)), (.int (Int32.ofNat (at_ - 1))), (.ref b)])
      obtain ⟨T1, h1, X1, e1, F1, W1, N1, st1⟩ := own_castore (jn := at_ - 1) X hx hZ eT F (by decide) (by omega) rfl (g := (mkF m 75 #[.val (.long (Int64.ofNat N)), .second, .val (.ref b), .val (.int (Int32.ofNat en)), .val (.int (Int32.ofNat (at_ - 1))), .val (.long (Int64.ofNat x)), .second, .val (.int (2 : Int32))] [(.int (nar .char ((48 : Int64) + ((Int64.ofNat x) - (Int64.ofNat x) / (10 : Int64) * (10 : Int64))).toInt32)), (.int (Int32.ofNat (at_ - 1))), (.ref b)])) rfl rfl (hb hby d1_75) NN gz_b
      refine own_via st1 ?_
      have Z1 : n0 ≤ h1.size := by rw [W1.size]; exact ZZ
      show own_E _ _ _ _ _ _ _ T1 (mkF m 76 #[.val (.long (Int64.ofNat N)), .second, .val (.ref b), .val (.int (Int32.ofNat en)), .val (.int (Int32.ofNat (at_ - 1))), .val (.long (Int64.ofNat x)), .second, .val (.int (2 : Int32))] [])
      rw [own_digit hxL] at F1
      have K1 := K.wr W1 (Or.inl (List.mem_of_getElem? (i := 0) rfl))
      have hS := own_IS hI (by omega)
      refine own_via (fun t => XS.lload X1.here hx rfl (hb hby d1_76) rfl) ?_
      show own_E _ _ _ _ _ _ _ T1 (mkF m 78 #[.val (.long (Int64.ofNat N)), .second, .val (.ref b), .val (.int (Int32.ofNat en)), .val (.int (Int32.ofNat (at_ - 1))), .val (.long (Int64.ofNat x)), .second, .val (.int (2 : Int32))] [(.long (Int64.ofNat x))])
      refine own_via (X1.ldc2Long hx hown (mvT hZ (hw _ (List.mem_of_getElem? (i := 7) rfl))) (g := (mkF m 78 #[.val (.long (Int64.ofNat N)), .second, .val (.ref b), .val (.int (Int32.ofNat en)), .val (.int (Int32.ofNat (at_ - 1))), .val (.long (Int64.ofNat x)), .second, .val (.int (2 : Int32))] [(.long (Int64.ofNat x))])) rfl (hb hby d1_78)) ?_
      show own_E _ _ _ _ _ _ _ T1 (mkF m 81 #[.val (.long (Int64.ofNat N)), .second, .val (.ref b), .val (.int (Int32.ofNat en)), .val (.int (Int32.ofNat (at_ - 1))), .val (.long (Int64.ofNat x)), .second, .val (.int (2 : Int32))] [(.long (10 : Int64)), (.long (Int64.ofNat x))])
      refine own_via (fun t => XS.ldiv X1.here hx rfl (hb hby d1_81) rfl (by decide)) ?_
      show own_E _ _ _ _ _ _ _ T1 (mkF m 82 #[.val (.long (Int64.ofNat N)), .second, .val (.ref b), .val (.int (Int32.ofNat en)), .val (.int (Int32.ofNat (at_ - 1))), .val (.long (Int64.ofNat x)), .second, .val (.int (2 : Int32))] [(.long ((Int64.ofNat x) / (10 : Int64)))])
      rw [own_divL hxL]
      show own_E _ _ _ _ _ _ _ T1 (mkF m 82 #[.val (.long (Int64.ofNat N)), .second, .val (.ref b), .val (.int (Int32.ofNat en)), .val (.int (Int32.ofNat (at_ - 1))), .val (.long (Int64.ofNat x)), .second, .val (.int (2 : Int32))] [(.long (Int64.ofNat (x / 10)))])
      refine own_via (fun t => XS.lstore X1.here hx rfl (hb hby d1_82) rfl (l' := #[.val (.long (Int64.ofNat N)), .second, .val (.ref b), .val (.int (Int32.ofNat en)), .val (.int (Int32.ofNat (at_ - 1))), .val (.long (Int64.ofNat (x / 10))), .second, .val (.int (2 : Int32))]) rfl) ?_
      show own_E _ _ _ _ _ _ _ T1 (mkF m 84 #[.val (.long (Int64.ofNat N)), .second, .val (.ref b), .val (.int (Int32.ofNat en)), .val (.int (Int32.ofNat (at_ - 1))), .val (.long (Int64.ofNat (x / 10))), .second, .val (.int (2 : Int32))] [])
      refine own_via (fun t => XS.lload X1.here hx rfl (hb hby d1_84) rfl) ?_
      show own_E _ _ _ _ _ _ _ T1 (mkF m 86 #[.val (.long (Int64.ofNat N)), .second, .val (.ref b), .val (.int (Int32.ofNat en)), .val (.int (Int32.ofNat (at_ - 1))), .val (.long (Int64.ofNat (x / 10))), .second, .val (.int (2 : Int32))] [(.long (Int64.ofNat (x / 10)))])
      refine own_via (fun t => XS.lconst X1.here hx rfl (hb hby d1_86)) ?_
      show own_E _ _ _ _ _ _ _ T1 (mkF m 87 #[.val (.long (Int64.ofNat N)), .second, .val (.ref b), .val (.int (Int32.ofNat en)), .val (.int (Int32.ofNat (at_ - 1))), .val (.long (Int64.ofNat (x / 10))), .second, .val (.int (2 : Int32))] [(.long (0 : Int64)), (.long (Int64.ofNat (x / 10)))])
      refine own_via (fun t => XS.lcmp X1.here hx rfl (hb hby d1_87) rfl) ?_
      show own_E _ _ _ _ _ _ _ T1 (mkF m 88 #[.val (.long (Int64.ofNat N)), .second, .val (.ref b), .val (.int (Int32.ofNat en)), .val (.int (Int32.ofNat (at_ - 1))), .val (.long (Int64.ofNat (x / 10))), .second, .val (.int (2 : Int32))] [(.int (lcmpW (Int64.ofNat (x / 10)) (0 : Int64)))])
      by_cases hq : 0 < x / 10
      · refine own_via (fun t => XS.ifYes X1.here hx rfl (pc0 := 88) (pc' := 57) rfl (hb hby d1_88) rfl ((if0 _ _).trans (tlt ((own_gtL (by omega)).mpr hq)).2.2.1) (by decide) (by decide)) ?_
        show own_E _ _ _ _ _ _ _ T1 (mkF m 57 #[.val (.long (Int64.ofNat N)), .second, .val (.ref b), .val (.int (Int32.ofNat en)), .val (.int (Int32.ofNat (at_ - 1))), .val (.long (Int64.ofNat (x / 10))), .second, .val (.int (2 : Int32))] [])
        have hk : 1 ≤ k := by
          rcases Nat.eq_zero_or_pos k with r | r
          · subst r; simp at hx10; omega
          · exact r
        exact ih (x / 10) (at_ - 1) _ (q * 10) (x % 10 * q + w) (own_pow hx10) hk (by omega) (by omega) (by omega) ⟨by omega, hS.1, hS.2.1, hS.2.2.1, hS.2.2.2.1, hS.2.2.2.2.1, hS.2.2.2.2.2, Or.inr hq⟩ _ _ _ X1 e1 F1 K1 N1 Z1
      · refine own_via (fun t => XS.ifNo X1.here hx rfl (hb hby d1_88) rfl ((if0 _ _).trans (flt (fun r => hq ((own_gtL (by omega)).mp r))).2.2.1)) ?_
        show own_E _ _ _ _ _ _ _ T1 (mkF m 91 #[.val (.long (Int64.ofNat N)), .second, .val (.ref b), .val (.int (Int32.ofNat en)), .val (.int (Int32.ofNat (at_ - 1))), .val (.long (Int64.ofNat (x / 10))), .second, .val (.int (2 : Int32))] [])
        refine own_via (fun t => XS.iload X1.here hx rfl (hb hby d1_91) rfl) ?_
        show own_E _ _ _ _ _ _ _ T1 (mkF m 93 #[.val (.long (Int64.ofNat N)), .second, .val (.ref b), .val (.int (Int32.ofNat en)), .val (.int (Int32.ofNat (at_ - 1))), .val (.long (Int64.ofNat (x / 10))), .second, .val (.int (2 : Int32))] [(.int (Int32.ofNat (at_ - 1)))])
        refine own_ret X1 hx hlk Bd.returns rfl (Or.inl ⟨rfl, Or.inl rfl, _, rfl⟩) (hb hby d1_93) (Nat.le_refl _) (Nat.le_refl _) ?_
        rw [e1]
        refine ⟨at_ - 1, _, rfl, N1, K1, F1, by omega, by omega, hS.1, hS.2.1, hS.2.2.1, hS.2.2.2.1, ?_, fun r => ?_⟩
        · have r1 := hS.2.2.2.2.1 0
          have r2 := hS.2.2.2.2.2
          rw [show x / 10 = 0 from by omega] at r2
          rw [r1]; omega
        · rw [own_upd_at] at r
          have r1 := congrArg own_dg r
          rw [own_dg_of (by omega)] at r1
          have r2 : own_dg 48 = 0 := by decide
          rcases hI.2.2.2.2.2.2.2 with r3 | r3 <;> omega
  show own_E _ _ _ _ _ _ _ s₁ (mkF m 0 #[.val (.long (Int64.ofNat N)), .second, .val (.ref b), .val (.int (Int32.ofNat en)), .unset, .unset, .unset, .unset] [])
  refine own_via (fun t => XS.iloadN X0.here hx rfl (hb hby d1_0) rfl) ?_
  show own_E _ _ _ _ _ _ _ s₁ (mkF m 1 #[.val (.long (Int64.ofNat N)), .second, .val (.ref b), .val (.int (Int32.ofNat en)), .unset, .unset, .unset, .unset] [(.int (Int32.ofNat en))])
  refine own_via (fun t => XS.istore X0.here hx rfl (hb hby d1_1) rfl (l' := #[.val (.long (Int64.ofNat N)), .second, .val (.ref b), .val (.int (Int32.ofNat en)), .val (.int (Int32.ofNat en)), .unset, .unset, .unset]) rfl) ?_
  show own_E _ _ _ _ _ _ _ s₁ (mkF m 3 #[.val (.long (Int64.ofNat N)), .second, .val (.ref b), .val (.int (Int32.ofNat en)), .val (.int (Int32.ofNat en)), .unset, .unset, .unset] [])
  refine own_via (fun t => XS.lloadN X0.here hx rfl (hb hby d1_3) rfl) ?_
  show own_E _ _ _ _ _ _ _ s₁ (mkF m 4 #[.val (.long (Int64.ofNat N)), .second, .val (.ref b), .val (.int (Int32.ofNat en)), .val (.int (Int32.ofNat en)), .unset, .unset, .unset] [(.long (Int64.ofNat N))])
  refine own_via (fun t => XS.lstore X0.here hx rfl (hb hby d1_4) rfl (l' := #[.val (.long (Int64.ofNat N)), .second, .val (.ref b), .val (.int (Int32.ofNat en)), .val (.int (Int32.ofNat en)), .val (.long (Int64.ofNat N)), .second, .unset]) rfl) ?_
  show own_E _ _ _ _ _ _ _ s₁ (mkF m 6 #[.val (.long (Int64.ofNat N)), .second, .val (.ref b), .val (.int (Int32.ofNat en)), .val (.int (Int32.ofNat en)), .val (.long (Int64.ofNat N)), .second, .unset] [])
  refine own_via (fun t => XS.iconst X0.here hx rfl (hb hby d1_6)) ?_
  show own_E _ _ _ _ _ _ _ s₁ (mkF m 7 #[.val (.long (Int64.ofNat N)), .second, .val (.ref b), .val (.int (Int32.ofNat en)), .val (.int (Int32.ofNat en)), .val (.long (Int64.ofNat N)), .second, .unset] [(.int (0 : Int32))])
  refine own_via (fun t => XS.istore X0.here hx rfl (hb hby d1_7) rfl (l' := #[.val (.long (Int64.ofNat N)), .second, .val (.ref b), .val (.int (Int32.ofNat en)), .val (.int (Int32.ofNat en)), .val (.long (Int64.ofNat N)), .second, .val (.int (0 : Int32))]) rfl) ?_
  show own_E _ _ _ _ _ _ _ s₁ (mkF m 9 #[.val (.long (Int64.ofNat N)), .second, .val (.ref b), .val (.int (Int32.ofNat en)), .val (.int (Int32.ofNat en)), .val (.long (Int64.ofNat N)), .second, .val (.int (0 : Int32))] [])
  refine own_via (fun t => XS.iload X0.here hx rfl (hb hby d1_9) rfl) ?_
  show own_E _ _ _ _ _ _ _ s₁ (mkF m 11 #[.val (.long (Int64.ofNat N)), .second, .val (.ref b), .val (.int (Int32.ofNat en)), .val (.int (Int32.ofNat en)), .val (.long (Int64.ofNat N)), .second, .val (.int (0 : Int32))] [(.int (0 : Int32))])
  refine own_via (fun t => XS.iconst X0.here hx rfl (hb hby d1_11)) ?_
  show own_E _ _ _ _ _ _ _ s₁ (mkF m 12 #[.val (.long (Int64.ofNat N)), .second, .val (.ref b), .val (.int (Int32.ofNat en)), .val (.int (Int32.ofNat en)), .val (.long (Int64.ofNat N)), .second, .val (.int (0 : Int32))] [(.int (2 : Int32)), (.int (0 : Int32))])
  refine own_via (fun t => XS.icmpNo X0.here hx rfl (hb hby d1_12) rfl (tlt (by decide : (0 : Int32) < (2 : Int32))).2.1) ?_
  show own_E _ _ _ _ _ _ _ s₁ (mkF m 15 #[.val (.long (Int64.ofNat N)), .second, .val (.ref b), .val (.int (Int32.ofNat en)), .val (.int (Int32.ofNat en)), .val (.long (Int64.ofNat N)), .second, .val (.int (0 : Int32))] [])
  refine own_via (fun t => XS.iinc X0.here hx rfl (hb hby d1_15) rfl (l' := #[.val (.long (Int64.ofNat N)), .second, .val (.ref b), .val (.int (Int32.ofNat en)), .val (.int ((Int32.ofNat en) + (-1 : Int32))), .val (.long (Int64.ofNat N)), .second, .val (.int (0 : Int32))]) rfl) ?_
  show own_E _ _ _ _ _ _ _ s₁ (mkF m 18 #[.val (.long (Int64.ofNat N)), .second, .val (.ref b), .val (.int (Int32.ofNat en)), .val (.int ((Int32.ofNat en) + (-1 : Int32))), .val (.long (Int64.ofNat N)), .second, .val (.int (0 : Int32))] [])
  rw [own_dec (n := en) (by omega)]
  show own_E _ _ _ _ _ _ _ s₁ (mkF m 18 #[.val (.long (Int64.ofNat N)), .second, .val (.ref b), .val (.int (Int32.ofNat en)), .val (.int (Int32.ofNat (en - 1))), .val (.long (Int64.ofNat N)), .second, .val (.int (0 : Int32))] [])
  refine own_via (fun t => XS.aloadN X0.here hx rfl (hb hby d1_18) rfl rfl) ?_
  show own_E _ _ _ _ _ _ _ s₁ (mkF m 19 #[.val (.long (Int64.ofNat N)), .second, .val (.ref b), .val (.int (Int32.ofNat en)), .val (.int (Int32.ofNat (en - 1))), .val (.long (Int64.ofNat N)), .second, .val (.int (0 : Int32))] [(.ref b)])
  refine own_via (fun t => XS.iload X0.here hx rfl (hb hby d1_19) rfl) ?_
  show own_E _ _ _ _ _ _ _ s₁ (mkF m 21 #[.val (.long (Int64.ofNat N)), .second, .val (.ref b), .val (.int (Int32.ofNat en)), .val (.int (Int32.ofNat (en - 1))), .val (.long (Int64.ofNat N)), .second, .val (.int (0 : Int32))] [(.int (Int32.ofNat (en - 1))), (.ref b)])
  refine own_via (X0.ldc2Long hx hown (mvT hZ (hw _ (List.mem_of_getElem? (i := 6) rfl))) (g := (mkF m 21 #[.val (.long (Int64.ofNat N)), .second, .val (.ref b), .val (.int (Int32.ofNat en)), .val (.int (Int32.ofNat (en - 1))), .val (.long (Int64.ofNat N)), .second, .val (.int (0 : Int32))] [(.int (Int32.ofNat (en - 1))), (.ref b)])) rfl (hb hby d1_21)) ?_
  show own_E _ _ _ _ _ _ _ s₁ (mkF m 24 #[.val (.long (Int64.ofNat N)), .second, .val (.ref b), .val (.int (Int32.ofNat en)), .val (.int (Int32.ofNat (en - 1))), .val (.long (Int64.ofNat N)), .second, .val (.int (0 : Int32))] [(.long (48 : Int64)), (.int (Int32.ofNat (en - 1))), (.ref b)])
  refine own_via (fun t => XS.lload X0.here hx rfl (hb hby d1_24) rfl) ?_
  show own_E _ _ _ _ _ _ _ s₁ (mkF m 26 #[.val (.long (Int64.ofNat N)), .second, .val (.ref b), .val (.int (Int32.ofNat en)), .val (.int (Int32.ofNat (en - 1))), .val (.long (Int64.ofNat N)), .second, .val (.int (0 : Int32))] [(.long (Int64.ofNat N)), (.long (48 : Int64)), (.int (Int32.ofNat (en - 1))), (.ref b)])
  refine own_via (X0.ldc2Long hx hown (mvT hZ (hw _ (List.mem_of_getElem? (i := 7) rfl))) (g := (mkF m 26 #[.val (.long (Int64.ofNat N)), .second, .val (.ref b), .val (.int (Int32.ofNat en)), .val (.int (Int32.ofNat (en - 1))), .val (.long (Int64.ofNat N)), .second, .val (.int (0 : Int32))] [(.long (Int64.ofNat N)), (.long (48 : Int64)), (.int (Int32.ofNat (en - 1))), (.ref b)])) rfl (hb hby d1_26)) ?_
  show own_E _ _ _ _ _ _ _ s₁ (mkF m 29 #[.val (.long (Int64.ofNat N)), .second, .val (.ref b), .val (.int (Int32.ofNat en)), .val (.int (Int32.ofNat (en - 1))), .val (.long (Int64.ofNat N)), .second, .val (.int (0 : Int32))] [(.long (10 : Int64)), (.long (Int64.ofNat N)), (.long (48 : Int64)), (.int (Int32.ofNat (en - 1))), (.ref b)])
  refine own_via (fun t => XS.lrem X0.here hx rfl (hb hby d1_29) rfl (by decide)) ?_
  show own_E _ _ _ _ _ _ _ s₁ (mkF m 30 #[.val (.long (Int64.ofNat N)), .second, .val (.ref b), .val (.int (Int32.ofNat en)), .val (.int (Int32.ofNat (en - 1))), .val (.long (Int64.ofNat N)), .second, .val (.int (0 : Int32))] [(.long ((Int64.ofNat N) - (Int64.ofNat N) / (10 : Int64) * (10 : Int64))), (.long (48 : Int64)), (.int (Int32.ofNat (en - 1))), (.ref b)])
  refine own_via (fun t => XS.ladd X0.here hx rfl (hb hby d1_30) rfl) ?_
  show own_E _ _ _ _ _ _ _ s₁ (mkF m 31 #[.val (.long (Int64.ofNat N)), .second, .val (.ref b), .val (.int (Int32.ofNat en)), .val (.int (Int32.ofNat (en - 1))), .val (.long (Int64.ofNat N)), .second, .val (.int (0 : Int32))] [(.long ((48 : Int64) + ((Int64.ofNat N) - (Int64.ofNat N) / (10 : Int64) * (10 : Int64)))), (.int (Int32.ofNat (en - 1))), (.ref b)])
  refine own_via (fun t => XS.l2i X0.here hx rfl (hb hby d1_31) rfl) ?_
  show own_E _ _ _ _ _ _ _ s₁ (mkF m 32 #[.val (.long (Int64.ofNat N)), .second, .val (.ref b), .val (.int (Int32.ofNat en)), .val (.int (Int32.ofNat (en - 1))), .val (.long (Int64.ofNat N)), .second, .val (.int (0 : Int32))] [(.int ((48 : Int64) + ((Int64.ofNat N) - (Int64.ofNat N) / (10 : Int64) * (10 : Int64))).toInt32), (.int (Int32.ofNat (en - 1))), (.ref b)])
  refine own_via (fun t => XS.i2c X0.here hx rfl (hb hby d1_32) rfl) ?_
  show own_E _ _ _ _ _ _ _ s₁ (mkF m 33 #[.val (.long (Int64.ofNat N)), .second, .val (.ref b), .val (.int (Int32.ofNat en)), .val (.int (Int32.ofNat (en - 1))), .val (.long (Int64.ofNat N)), .second, .val (.int (0 : Int32))] [(.int (nar .char ((48 : Int64) + ((Int64.ofNat N) - (Int64.ofNat N) / (10 : Int64) * (10 : Int64))).toInt32)), (.int (Int32.ofNat (en - 1))), (.ref b)])
  obtain ⟨T2, h2, X2, e2, F2, W2, N2, st2⟩ := own_castore (jn := en - 1) X0 hx hZ e0 F0 (by decide) (by omega) rfl (g := (mkF m 33 #[.val (.long (Int64.ofNat N)), .second, .val (.ref b), .val (.int (Int32.ofNat en)), .val (.int (Int32.ofNat (en - 1))), .val (.long (Int64.ofNat N)), .second, .val (.int (0 : Int32))] [(.int (nar .char ((48 : Int64) + ((Int64.ofNat N) - (Int64.ofNat N) / (10 : Int64) * (10 : Int64))).toInt32)), (.int (Int32.ofNat (en - 1))), (.ref b)])) rfl rfl (hb hby d1_33) N0 gz_b
  refine own_via st2 ?_
  have Z2 : n0 ≤ h2.size := by rw [W2.size]; exact Z0
  show own_E _ _ _ _ _ _ _ T2 (mkF m 34 #[.val (.long (Int64.ofNat N)), .second, .val (.ref b), .val (.int (Int32.ofNat en)), .val (.int (Int32.ofNat (en - 1))), .val (.long (Int64.ofNat N)), .second, .val (.int (0 : Int32))] [])
  rw [own_digit hN] at F2
  have K2 := (Keep.refl h0 [b]).wr W2 (Or.inl (List.mem_of_getElem? (i := 0) rfl))
  refine own_via (fun t => XS.lload X2.here hx rfl (hb hby d1_34) rfl) ?_
  show own_E _ _ _ _ _ _ _ T2 (mkF m 36 #[.val (.long (Int64.ofNat N)), .second, .val (.ref b), .val (.int (Int32.ofNat en)), .val (.int (Int32.ofNat (en - 1))), .val (.long (Int64.ofNat N)), .second, .val (.int (0 : Int32))] [(.long (Int64.ofNat N))])
  refine own_via (X2.ldc2Long hx hown (mvT hZ (hw _ (List.mem_of_getElem? (i := 7) rfl))) (g := (mkF m 36 #[.val (.long (Int64.ofNat N)), .second, .val (.ref b), .val (.int (Int32.ofNat en)), .val (.int (Int32.ofNat (en - 1))), .val (.long (Int64.ofNat N)), .second, .val (.int (0 : Int32))] [(.long (Int64.ofNat N))])) rfl (hb hby d1_36)) ?_
  show own_E _ _ _ _ _ _ _ T2 (mkF m 39 #[.val (.long (Int64.ofNat N)), .second, .val (.ref b), .val (.int (Int32.ofNat en)), .val (.int (Int32.ofNat (en - 1))), .val (.long (Int64.ofNat N)), .second, .val (.int (0 : Int32))] [(.long (10 : Int64)), (.long (Int64.ofNat N))])
  refine own_via (fun t => XS.ldiv X2.here hx rfl (hb hby d1_39) rfl (by decide)) ?_
  show own_E _ _ _ _ _ _ _ T2 (mkF m 40 #[.val (.long (Int64.ofNat N)), .second, .val (.ref b), .val (.int (Int32.ofNat en)), .val (.int (Int32.ofNat (en - 1))), .val (.long (Int64.ofNat N)), .second, .val (.int (0 : Int32))] [(.long ((Int64.ofNat N) / (10 : Int64)))])
  rw [own_divL hN]
  show own_E _ _ _ _ _ _ _ T2 (mkF m 40 #[.val (.long (Int64.ofNat N)), .second, .val (.ref b), .val (.int (Int32.ofNat en)), .val (.int (Int32.ofNat (en - 1))), .val (.long (Int64.ofNat N)), .second, .val (.int (0 : Int32))] [(.long (Int64.ofNat (N / 10)))])
  refine own_via (fun t => XS.lstore X2.here hx rfl (hb hby d1_40) rfl (l' := #[.val (.long (Int64.ofNat N)), .second, .val (.ref b), .val (.int (Int32.ofNat en)), .val (.int (Int32.ofNat (en - 1))), .val (.long (Int64.ofNat (N / 10))), .second, .val (.int (0 : Int32))]) rfl) ?_
  show own_E _ _ _ _ _ _ _ T2 (mkF m 42 #[.val (.long (Int64.ofNat N)), .second, .val (.ref b), .val (.int (Int32.ofNat en)), .val (.int (Int32.ofNat (en - 1))), .val (.long (Int64.ofNat (N / 10))), .second, .val (.int (0 : Int32))] [])
  refine own_via (fun t => XS.iinc X2.here hx rfl (hb hby d1_42) rfl (l' := #[.val (.long (Int64.ofNat N)), .second, .val (.ref b), .val (.int (Int32.ofNat en)), .val (.int (Int32.ofNat (en - 1))), .val (.long (Int64.ofNat (N / 10))), .second, .val (.int (1 : Int32))]) rfl) ?_
  show own_E _ _ _ _ _ _ _ T2 (mkF m 45 #[.val (.long (Int64.ofNat N)), .second, .val (.ref b), .val (.int (Int32.ofNat en)), .val (.int (Int32.ofNat (en - 1))), .val (.long (Int64.ofNat (N / 10))), .second, .val (.int (1 : Int32))] [])
  refine own_via (fun t => XS.goto X2.here hx rfl (pc0 := 45) (pc' := 9) rfl (hb hby d1_45) (by decide) (by decide)) ?_
  show own_E _ _ _ _ _ _ _ T2 (mkF m 9 #[.val (.long (Int64.ofNat N)), .second, .val (.ref b), .val (.int (Int32.ofNat en)), .val (.int (Int32.ofNat (en - 1))), .val (.long (Int64.ofNat (N / 10))), .second, .val (.int (1 : Int32))] [])
  refine own_via (fun t => XS.iload X2.here hx rfl (hb hby d1_9) rfl) ?_
  show own_E _ _ _ _ _ _ _ T2 (mkF m 11 #[.val (.long (Int64.ofNat N)), .second, .val (.ref b), .val (.int (Int32.ofNat en)), .val (.int (Int32.ofNat (en - 1))), .val (.long (Int64.ofNat (N / 10))), .second, .val (.int (1 : Int32))] [(.int (1 : Int32))])
  refine own_via (fun t => XS.iconst X2.here hx rfl (hb hby d1_11)) ?_
  show own_E _ _ _ _ _ _ _ T2 (mkF m 12 #[.val (.long (Int64.ofNat N)), .second, .val (.ref b), .val (.int (Int32.ofNat en)), .val (.int (Int32.ofNat (en - 1))), .val (.long (Int64.ofNat (N / 10))), .second, .val (.int (1 : Int32))] [(.int (2 : Int32)), (.int (1 : Int32))])
  refine own_via (fun t => XS.icmpNo X2.here hx rfl (hb hby d1_12) rfl (tlt (by decide : (1 : Int32) < (2 : Int32))).2.1) ?_
  show own_E _ _ _ _ _ _ _ T2 (mkF m 15 #[.val (.long (Int64.ofNat N)), .second, .val (.ref b), .val (.int (Int32.ofNat en)), .val (.int (Int32.ofNat (en - 1))), .val (.long (Int64.ofNat (N / 10))), .second, .val (.int (1 : Int32))] [])
  refine own_via (fun t => XS.iinc X2.here hx rfl (hb hby d1_15) rfl (l' := #[.val (.long (Int64.ofNat N)), .second, .val (.ref b), .val (.int (Int32.ofNat en)), .val (.int ((Int32.ofNat (en - 1)) + (-1 : Int32))), .val (.long (Int64.ofNat (N / 10))), .second, .val (.int (1 : Int32))]) rfl) ?_
  show own_E _ _ _ _ _ _ _ T2 (mkF m 18 #[.val (.long (Int64.ofNat N)), .second, .val (.ref b), .val (.int (Int32.ofNat en)), .val (.int ((Int32.ofNat (en - 1)) + (-1 : Int32))), .val (.long (Int64.ofNat (N / 10))), .second, .val (.int (1 : Int32))] [])
  rw [own_dec (n := (en - 1)) (by omega)]
  rw [show (en - 1) - 1 = en - 2 from by omega]
  show own_E _ _ _ _ _ _ _ T2 (mkF m 18 #[.val (.long (Int64.ofNat N)), .second, .val (.ref b), .val (.int (Int32.ofNat en)), .val (.int (Int32.ofNat (en - 2))), .val (.long (Int64.ofNat (N / 10))), .second, .val (.int (1 : Int32))] [])
  refine own_via (fun t => XS.aloadN X2.here hx rfl (hb hby d1_18) rfl rfl) ?_
  show own_E _ _ _ _ _ _ _ T2 (mkF m 19 #[.val (.long (Int64.ofNat N)), .second, .val (.ref b), .val (.int (Int32.ofNat en)), .val (.int (Int32.ofNat (en - 2))), .val (.long (Int64.ofNat (N / 10))), .second, .val (.int (1 : Int32))] [(.ref b)])
  refine own_via (fun t => XS.iload X2.here hx rfl (hb hby d1_19) rfl) ?_
  show own_E _ _ _ _ _ _ _ T2 (mkF m 21 #[.val (.long (Int64.ofNat N)), .second, .val (.ref b), .val (.int (Int32.ofNat en)), .val (.int (Int32.ofNat (en - 2))), .val (.long (Int64.ofNat (N / 10))), .second, .val (.int (1 : Int32))] [(.int (Int32.ofNat (en - 2))), (.ref b)])
  refine own_via (X2.ldc2Long hx hown (mvT hZ (hw _ (List.mem_of_getElem? (i := 6) rfl))) (g := (mkF m 21 #[.val (.long (Int64.ofNat N)), .second, .val (.ref b), .val (.int (Int32.ofNat en)), .val (.int (Int32.ofNat (en - 2))), .val (.long (Int64.ofNat (N / 10))), .second, .val (.int (1 : Int32))] [(.int (Int32.ofNat (en - 2))), (.ref b)])) rfl (hb hby d1_21)) ?_
  show own_E _ _ _ _ _ _ _ T2 (mkF m 24 #[.val (.long (Int64.ofNat N)), .second, .val (.ref b), .val (.int (Int32.ofNat en)), .val (.int (Int32.ofNat (en - 2))), .val (.long (Int64.ofNat (N / 10))), .second, .val (.int (1 : Int32))] [(.long (48 : Int64)), (.int (Int32.ofNat (en - 2))), (.ref b)])
  refine own_via (fun t => XS.lload X2.here hx rfl (hb hby d1_24) rfl) ?_
  show own_E _ _ _ _ _ _ _ T2 (mkF m 26 #[.val (.long (Int64.ofNat N)), .second, .val (.ref b), .val (.int (Int32.ofNat en)), .val (.int (Int32.ofNat (en - 2))), .val (.long (Int64.ofNat (N / 10))), .second, .val (.int (1 : Int32))] [(.long (Int64.ofNat (N / 10))), (.long (48 : Int64)), (.int (Int32.ofNat (en - 2))), (.ref b)])
  refine own_via (X2.ldc2Long hx hown (mvT hZ (hw _ (List.mem_of_getElem? (i := 7) rfl))) (g := (mkF m 26 #[.val (.long (Int64.ofNat N)), .second, .val (.ref b), .val (.int (Int32.ofNat en)), .val (.int (Int32.ofNat (en - 2))), .val (.long (Int64.ofNat (N / 10))), .second, .val (.int (1 : Int32))] [(.long (Int64.ofNat (N / 10))), (.long (48 : Int64)), (.int (Int32.ofNat (en - 2))), (.ref b)])) rfl (hb hby d1_26)) ?_
  show own_E _ _ _ _ _ _ _ T2 (mkF m 29 #[.val (.long (Int64.ofNat N)), .second, .val (.ref b), .val (.int (Int32.ofNat en)), .val (.int (Int32.ofNat (en - 2))), .val (.long (Int64.ofNat (N / 10))), .second, .val (.int (1 : Int32))] [(.long (10 : Int64)), (.long (Int64.ofNat (N / 10))), (.long (48 : Int64)), (.int (Int32.ofNat (en - 2))), (.ref b)])
  refine own_via (fun t => XS.lrem X2.here hx rfl (hb hby d1_29) rfl (by decide)) ?_
  show own_E _ _ _ _ _ _ _ T2 (mkF m 30 #[.val (.long (Int64.ofNat N)), .second, .val (.ref b), .val (.int (Int32.ofNat en)), .val (.int (Int32.ofNat (en - 2))), .val (.long (Int64.ofNat (N / 10))), .second, .val (.int (1 : Int32))] [(.long ((Int64.ofNat (N / 10)) - (Int64.ofNat (N / 10)) / (10 : Int64) * (10 : Int64))), (.long (48 : Int64)), (.int (Int32.ofNat (en - 2))), (.ref b)])
  refine own_via (fun t => XS.ladd X2.here hx rfl (hb hby d1_30) rfl) ?_
  show own_E _ _ _ _ _ _ _ T2 (mkF m 31 #[.val (.long (Int64.ofNat N)), .second, .val (.ref b), .val (.int (Int32.ofNat en)), .val (.int (Int32.ofNat (en - 2))), .val (.long (Int64.ofNat (N / 10))), .second, .val (.int (1 : Int32))] [(.long ((48 : Int64) + ((Int64.ofNat (N / 10)) - (Int64.ofNat (N / 10)) / (10 : Int64) * (10 : Int64)))), (.int (Int32.ofNat (en - 2))), (.ref b)])
  refine own_via (fun t => XS.l2i X2.here hx rfl (hb hby d1_31) rfl) ?_
  show own_E _ _ _ _ _ _ _ T2 (mkF m 32 #[.val (.long (Int64.ofNat N)), .second, .val (.ref b), .val (.int (Int32.ofNat en)), .val (.int (Int32.ofNat (en - 2))), .val (.long (Int64.ofNat (N / 10))), .second, .val (.int (1 : Int32))] [(.int ((48 : Int64) + ((Int64.ofNat (N / 10)) - (Int64.ofNat (N / 10)) / (10 : Int64) * (10 : Int64))).toInt32), (.int (Int32.ofNat (en - 2))), (.ref b)])
  refine own_via (fun t => XS.i2c X2.here hx rfl (hb hby d1_32) rfl) ?_
  show own_E _ _ _ _ _ _ _ T2 (mkF m 33 #[.val (.long (Int64.ofNat N)), .second, .val (.ref b), .val (.int (Int32.ofNat en)), .val (.int (Int32.ofNat (en - 2))), .val (.long (Int64.ofNat (N / 10))), .second, .val (.int (1 : Int32))] [(.int (nar .char ((48 : Int64) + ((Int64.ofNat (N / 10)) - (Int64.ofNat (N / 10)) / (10 : Int64) * (10 : Int64))).toInt32)), (.int (Int32.ofNat (en - 2))), (.ref b)])
  obtain ⟨T3, h3, X3, e3, F3, W3, N3, st3⟩ := own_castore (jn := en - 2) X2 hx hZ e2 F2 (by decide) (by omega) rfl (g := (mkF m 33 #[.val (.long (Int64.ofNat N)), .second, .val (.ref b), .val (.int (Int32.ofNat en)), .val (.int (Int32.ofNat (en - 2))), .val (.long (Int64.ofNat (N / 10))), .second, .val (.int (1 : Int32))] [(.int (nar .char ((48 : Int64) + ((Int64.ofNat (N / 10)) - (Int64.ofNat (N / 10)) / (10 : Int64) * (10 : Int64))).toInt32)), (.int (Int32.ofNat (en - 2))), (.ref b)])) rfl rfl (hb hby d1_33) N2 gz_b
  refine own_via st3 ?_
  have Z3 : n0 ≤ h3.size := by rw [W3.size]; exact Z2
  show own_E _ _ _ _ _ _ _ T3 (mkF m 34 #[.val (.long (Int64.ofNat N)), .second, .val (.ref b), .val (.int (Int32.ofNat en)), .val (.int (Int32.ofNat (en - 2))), .val (.long (Int64.ofNat (N / 10))), .second, .val (.int (1 : Int32))] [])
  rw [own_digit (n := N / 10) (by omega)] at F3
  have K3 := K2.wr W3 (Or.inl (List.mem_of_getElem? (i := 0) rfl))
  refine own_via (fun t => XS.lload X3.here hx rfl (hb hby d1_34) rfl) ?_
  show own_E _ _ _ _ _ _ _ T3 (mkF m 36 #[.val (.long (Int64.ofNat N)), .second, .val (.ref b), .val (.int (Int32.ofNat en)), .val (.int (Int32.ofNat (en - 2))), .val (.long (Int64.ofNat (N / 10))), .second, .val (.int (1 : Int32))] [(.long (Int64.ofNat (N / 10)))])
  refine own_via (X3.ldc2Long hx hown (mvT hZ (hw _ (List.mem_of_getElem? (i := 7) rfl))) (g := (mkF m 36 #[.val (.long (Int64.ofNat N)), .second, .val (.ref b), .val (.int (Int32.ofNat en)), .val (.int (Int32.ofNat (en - 2))), .val (.long (Int64.ofNat (N / 10))), .second, .val (.int (1 : Int32))] [(.long (Int64.ofNat (N / 10)))])) rfl (hb hby d1_36)) ?_
  show own_E _ _ _ _ _ _ _ T3 (mkF m 39 #[.val (.long (Int64.ofNat N)), .second, .val (.ref b), .val (.int (Int32.ofNat en)), .val (.int (Int32.ofNat (en - 2))), .val (.long (Int64.ofNat (N / 10))), .second, .val (.int (1 : Int32))] [(.long (10 : Int64)), (.long (Int64.ofNat (N / 10)))])
  refine own_via (fun t => XS.ldiv X3.here hx rfl (hb hby d1_39) rfl (by decide)) ?_
  show own_E _ _ _ _ _ _ _ T3 (mkF m 40 #[.val (.long (Int64.ofNat N)), .second, .val (.ref b), .val (.int (Int32.ofNat en)), .val (.int (Int32.ofNat (en - 2))), .val (.long (Int64.ofNat (N / 10))), .second, .val (.int (1 : Int32))] [(.long ((Int64.ofNat (N / 10)) / (10 : Int64)))])
  rw [own_divL (n := N / 10) (by omega)]
  show own_E _ _ _ _ _ _ _ T3 (mkF m 40 #[.val (.long (Int64.ofNat N)), .second, .val (.ref b), .val (.int (Int32.ofNat en)), .val (.int (Int32.ofNat (en - 2))), .val (.long (Int64.ofNat (N / 10))), .second, .val (.int (1 : Int32))] [(.long (Int64.ofNat (N / 10 / 10)))])
  refine own_via (fun t => XS.lstore X3.here hx rfl (hb hby d1_40) rfl (l' := #[.val (.long (Int64.ofNat N)), .second, .val (.ref b), .val (.int (Int32.ofNat en)), .val (.int (Int32.ofNat (en - 2))), .val (.long (Int64.ofNat (N / 10 / 10))), .second, .val (.int (1 : Int32))]) rfl) ?_
  show own_E _ _ _ _ _ _ _ T3 (mkF m 42 #[.val (.long (Int64.ofNat N)), .second, .val (.ref b), .val (.int (Int32.ofNat en)), .val (.int (Int32.ofNat (en - 2))), .val (.long (Int64.ofNat (N / 10 / 10))), .second, .val (.int (1 : Int32))] [])
  refine own_via (fun t => XS.iinc X3.here hx rfl (hb hby d1_42) rfl (l' := #[.val (.long (Int64.ofNat N)), .second, .val (.ref b), .val (.int (Int32.ofNat en)), .val (.int (Int32.ofNat (en - 2))), .val (.long (Int64.ofNat (N / 10 / 10))), .second, .val (.int (2 : Int32))]) rfl) ?_
  show own_E _ _ _ _ _ _ _ T3 (mkF m 45 #[.val (.long (Int64.ofNat N)), .second, .val (.ref b), .val (.int (Int32.ofNat en)), .val (.int (Int32.ofNat (en - 2))), .val (.long (Int64.ofNat (N / 10 / 10))), .second, .val (.int (2 : Int32))] [])
  refine own_via (fun t => XS.goto X3.here hx rfl (pc0 := 45) (pc' := 9) rfl (hb hby d1_45) (by decide) (by decide)) ?_
  show own_E _ _ _ _ _ _ _ T3 (mkF m 9 #[.val (.long (Int64.ofNat N)), .second, .val (.ref b), .val (.int (Int32.ofNat en)), .val (.int (Int32.ofNat (en - 2))), .val (.long (Int64.ofNat (N / 10 / 10))), .second, .val (.int (2 : Int32))] [])
  refine own_via (fun t => XS.iload X3.here hx rfl (hb hby d1_9) rfl) ?_
  show own_E _ _ _ _ _ _ _ T3 (mkF m 11 #[.val (.long (Int64.ofNat N)), .second, .val (.ref b), .val (.int (Int32.ofNat en)), .val (.int (Int32.ofNat (en - 2))), .val (.long (Int64.ofNat (N / 10 / 10))), .second, .val (.int (2 : Int32))] [(.int (2 : Int32))])
  refine own_via (fun t => XS.iconst X3.here hx rfl (hb hby d1_11)) ?_
  show own_E _ _ _ _ _ _ _ T3 (mkF m 12 #[.val (.long (Int64.ofNat N)), .second, .val (.ref b), .val (.int (Int32.ofNat en)), .val (.int (Int32.ofNat (en - 2))), .val (.long (Int64.ofNat (N / 10 / 10))), .second, .val (.int (2 : Int32))] [(.int (2 : Int32)), (.int (2 : Int32))])
  refine own_via (fun t => XS.icmpYes X3.here hx rfl (pc0 := 12) (pc' := 48) rfl (hb hby d1_12) rfl (flt (by decide : ¬ ((2 : Int32) < (2 : Int32)))).2.1 (by decide) (by decide)) ?_
  show own_E _ _ _ _ _ _ _ T3 (mkF m 48 #[.val (.long (Int64.ofNat N)), .second, .val (.ref b), .val (.int (Int32.ofNat en)), .val (.int (Int32.ofNat (en - 2))), .val (.long (Int64.ofNat (N / 10 / 10))), .second, .val (.int (2 : Int32))] [])
  refine own_via (fun t => XS.iinc X3.here hx rfl (hb hby d1_48) rfl (l' := #[.val (.long (Int64.ofNat N)), .second, .val (.ref b), .val (.int (Int32.ofNat en)), .val (.int ((Int32.ofNat (en - 2)) + (-1 : Int32))), .val (.long (Int64.ofNat (N / 10 / 10))), .second, .val (.int (2 : Int32))]) rfl) ?_
  show own_E _ _ _ _ _ _ _ T3 (mkF m 51 #[.val (.long (Int64.ofNat N)), .second, .val (.ref b), .val (.int (Int32.ofNat en)), .val (.int ((Int32.ofNat (en - 2)) + (-1 : Int32))), .val (.long (Int64.ofNat (N / 10 / 10))), .second, .val (.int (2 : Int32))] [])
  rw [own_dec (n := (en - 2)) (by omega)]
  rw [show (en - 2) - 1 = en - 3 from by omega]
  show own_E _ _ _ _ _ _ _ T3 (mkF m 51 #[.val (.long (Int64.ofNat N)), .second, .val (.ref b), .val (.int (Int32.ofNat en)), .val (.int (Int32.ofNat (en - 3))), .val (.long (Int64.ofNat (N / 10 / 10))), .second, .val (.int (2 : Int32))] [])
  refine own_via (fun t => XS.aloadN X3.here hx rfl (hb hby d1_51) rfl rfl) ?_
  show own_E _ _ _ _ _ _ _ T3 (mkF m 52 #[.val (.long (Int64.ofNat N)), .second, .val (.ref b), .val (.int (Int32.ofNat en)), .val (.int (Int32.ofNat (en - 3))), .val (.long (Int64.ofNat (N / 10 / 10))), .second, .val (.int (2 : Int32))] [(.ref b)])
  refine own_via (fun t => XS.iload X3.here hx rfl (hb hby d1_52) rfl) ?_
  show own_E _ _ _ _ _ _ _ T3 (mkF m 54 #[.val (.long (Int64.ofNat N)), .second, .val (.ref b), .val (.int (Int32.ofNat en)), .val (.int (Int32.ofNat (en - 3))), .val (.long (Int64.ofNat (N / 10 / 10))), .second, .val (.int (2 : Int32))] [(.int (Int32.ofNat (en - 3))), (.ref b)])
  refine own_via (fun t => XS.bipush X3.here hx rfl (hb hby d1_54)) ?_
  show own_E _ _ _ _ _ _ _ T3 (mkF m 56 #[.val (.long (Int64.ofNat N)), .second, .val (.ref b), .val (.int (Int32.ofNat en)), .val (.int (Int32.ofNat (en - 3))), .val (.long (Int64.ofNat (N / 10 / 10))), .second, .val (.int (2 : Int32))] [(.int (44 : Int32)), (.int (Int32.ofNat (en - 3))), (.ref b)])
  obtain ⟨T4, h4, X4, e4, F4, W4, N4, st4⟩ := own_castore (jn := en - 3) X3 hx hZ e3 F3 (by decide) (by omega) rfl (g := (mkF m 56 #[.val (.long (Int64.ofNat N)), .second, .val (.ref b), .val (.int (Int32.ofNat en)), .val (.int (Int32.ofNat (en - 3))), .val (.long (Int64.ofNat (N / 10 / 10))), .second, .val (.int (2 : Int32))] [(.int (44 : Int32)), (.int (Int32.ofNat (en - 3))), (.ref b)])) rfl rfl (hb hby d1_56) N3 gz_b
  refine own_via st4 ?_
  have Z4 : n0 ≤ h4.size := by rw [W4.size]; exact Z3
  show own_E _ _ _ _ _ _ _ T4 (mkF m 57 #[.val (.long (Int64.ofNat N)), .second, .val (.ref b), .val (.int (Int32.ofNat en)), .val (.int (Int32.ofNat (en - 3))), .val (.long (Int64.ofNat (N / 10 / 10))), .second, .val (.int (2 : Int32))] [])
  have K4 := K3.wr W4 (Or.inl (List.mem_of_getElem? (i := 0) rfl))
  rw [show nar .char (44 : Int32) = 44 from by decide] at F4
  exact loop 17 _ _ _ 100 _ (by omega) (by decide) (by omega) (by omega) (by omega) (own_I0 he1) _ _ _ X4 e4 F4 K4 N4 Z4
theorem d2_0 : decode prog_86_method_2_code 0 = .ok (.iload_n 0, 1) := by decide +kernel
theorem d2_1 : decode prog_86_method_2_code 1 = .ok (.bipush 48, 2) := by decide +kernel
theorem d2_3 : decode prog_86_method_2_code 3 = .ok (.if_icmp .lt 13, 3) := by decide +kernel
theorem d2_6 : decode prog_86_method_2_code 6 = .ok (.iload_n 0, 1) := by decide +kernel
theorem d2_7 : decode prog_86_method_2_code 7 = .ok (.bipush 57, 2) := by decide +kernel
theorem d2_9 : decode prog_86_method_2_code 9 = .ok (.if_icmp .gt 7, 3) := by decide +kernel
theorem d2_12 : decode prog_86_method_2_code 12 = .ok (.iconst 1, 1) := by decide +kernel
theorem d2_13 : decode prog_86_method_2_code 13 = .ok (.goto 4, 3) := by decide +kernel
theorem d2_16 : decode prog_86_method_2_code 16 = .ok (.iconst 0, 1) := by decide +kernel
theorem d2_17 : decode prog_86_method_2_code 17 = .ok (.ireturn, 1) := by decide +kernel
theorem pn_2 : plainName "com/example/poruka/poruka/fin/FinText" = true := by first | (simp [plainName, overriddenIn]; done) | decide +kernel
theorem ef_2 (m : MethodId) (x0 : Int32) : entryFrame m #[(.int x0)] 1 = mkF m 0 #[.val (.int x0)] [] := by first | (simp [entryFrame, mkF, argsToLocals, Value.category]; done) | rfl
theorem pd_2 : parseMethodDescriptor "(C)Z" = some ⟨[.char], some .boolean⟩ := by decide +kernel
theorem own_d_lo {d : Nat} (h : d < 10) : ¬ Int32.ofNat (48 + d) < (48 : Int32) := by
  rw [Int32.lt_iff_toInt_lt, own_num (by omega), show (48 : Int32).toInt = 48 from by decide]; omega
theorem own_d_hi {d : Nat} (h : d < 10) : ¬ (57 : Int32) < Int32.ofNat (48 + d) := by
  rw [Int32.lt_iff_toInt_lt, own_num (by omega), show (57 : Int32).toInt = 57 from by decide]; omega
theorem own_d_44 {d : Nat} (h : d < 10) : ¬ Int32.ofNat (48 + d) = (44 : Int32) := fun q => by
  have := congrArg Int32.toInt q
  rw [own_num (by omega), show (44 : Int32).toInt = 44 from by decide] at this; omega
set_option maxRecDepth 65536 in
set_option maxHeartbeats 40000000 in
theorem rm2 (l : Launch) (Z : State) (a0 : Array Value) (hw : ∀ d ∈ tables_1, d.before a0 Z = true) (ws : List Jvm.Cond) (x : Int32) (h1 : ¬ x < 48) (h2 : ¬ 57 < x) (h0 : Heap) (n0 : Nat) (Z0 : n0 ≤ h0.size) :
    MetFree l (⟨"com/example/poruka/poruka/fin/FinText", "isDigit", "(C)Z"⟩ : MethodName) (head1 (Jvm.Cond.code (⟨"com/example/poruka/poruka/fin/FinText", "isDigit", "(C)Z"⟩ : MethodName) prog_86_method_2_code 1 (some .boolean) :: ws) ({ frames := 0, cells := 0, slots := 0, locals := 0 } : Room)) (fun a U => a = #[(.int x)] ∧ Z.Warmed39 U.vm ∧ U.heap = h0) (fun _ _ _ _ _ => True) (fun _ U o U' => ∃ v L, o = .returned v ∧ QI 1 h0 n0 v U'.heap L ∧ FrameEnd U o U' L ({ frames := 0, cells := 0, slots := 0, locals := 0 } : Room).cells ({ frames := 0, cells := 0, slots := 0, locals := 0 } : Room).slots) := by
  refine MetFree.of_bodySF (plainFor_of_name pn_2) hisR ?_
  intro p e s m args below meth c s₁ Bd hml0 hP hK
  obtain ⟨rfl, hZ, hh⟩ := hP
  have hx := Bd.exec
  have hby := Bd.bytes
  have hlk := Bd.notSynchronized
  have hml : c.maxLocals = 1 := hml0
  have hown : s.vm.findClass "com/example/poruka/poruka/fin/FinText" = some m.cls := findClass_of_methodNamed Bd.named
  have hnm := (name_of_methodNamed Bd.named Bd.method).1
  have X0 : Stand p l e ({ frames := 0, cells := 0, slots := 0, locals := 0 } : Room) s m #[(.int x)] below meth c s₁ [] 0 0 := Stand.of_body Bd
  have e0 : s₁.heap = h0 := by rw [← hh, Bd.state]; rfl
  have N0 := Fr.nil n0
  show own_E p e below s (QI 1 h0 n0) _ _ s₁ (entryFrame m #[(.int x)] 1)
  rw [ef_2]
  show own_E _ _ _ _ _ _ _ s₁ (mkF m 0 #[.val (.int x)] [])
  refine own_via (fun t => XS.iloadN X0.here hx rfl (hb hby d2_0) rfl) ?_
  show own_E _ _ _ _ _ _ _ s₁ (mkF m 1 #[.val (.int x)] [(.int x)])
  refine own_via (fun t => XS.bipush X0.here hx rfl (hb hby d2_1)) ?_
  show own_E _ _ _ _ _ _ _ s₁ (mkF m 3 #[.val (.int x)] [(.int (48 : Int32)), (.int x)])
  refine own_via (fun t => XS.icmpNo X0.here hx rfl (hb hby d2_3) rfl (flt h1).1) ?_
  show own_E _ _ _ _ _ _ _ s₁ (mkF m 6 #[.val (.int x)] [])
  refine own_via (fun t => XS.iloadN X0.here hx rfl (hb hby d2_6) rfl) ?_
  show own_E _ _ _ _ _ _ _ s₁ (mkF m 7 #[.val (.int x)] [(.int x)])
  refine own_via (fun t => XS.bipush X0.here hx rfl (hb hby d2_7)) ?_
  show own_E _ _ _ _ _ _ _ s₁ (mkF m 9 #[.val (.int x)] [(.int (57 : Int32)), (.int x)])
  refine own_via (fun t => XS.icmpNo X0.here hx rfl (hb hby d2_9) rfl (flt h2).2.2.1) ?_
  show own_E _ _ _ _ _ _ _ s₁ (mkF m 12 #[.val (.int x)] [])
  refine own_via (fun t => XS.iconst X0.here hx rfl (hb hby d2_12)) ?_
  show own_E _ _ _ _ _ _ _ s₁ (mkF m 13 #[.val (.int x)] [(.int (1 : Int32))])
  refine own_via (fun t => XS.goto X0.here hx rfl (pc0 := 13) (pc' := 17) rfl (hb hby d2_13) (by decide) (by decide)) ?_
  show own_E _ _ _ _ _ _ _ s₁ (mkF m 17 #[.val (.int x)] [(.int (1 : Int32))])
  exact own_retN X0 hx hlk Bd.returns (Or.inl rfl) (hb hby d2_17) (Nat.le_refl _) (Nat.le_refl _) ⟨rfl, N0, e0⟩
/-- a String of the chars cs, coder 0 -/
def own_Tx (Z : State) (h : Heap) (x : Addr) (cs : List Int32) : Prop := ∃ (t : Addr) (kb : ClassId), Exa Z h x "java/lang/String" ∧ Fld Z h x "java/lang/String" "value" "[B" (.ref t) ∧ Fld Z h x "java/lang/String" "coder" "B" (.int 0) ∧ Arv Z h t kb .byte (Int32.ofNat cs.length) ((cs.map fun c => c.toInt8.toInt32).map Value.int) (.int 0)
/-- what charAt asks beside the text -/
def own_Cx (Z : State) (h : Heap) (z : Int32) (fm : Value) : Prop := Sta Z h "java/lang/String" "COMPACT_STRINGS" "Z" (.int z) ∧ ¬ z = 0 ∧ Sta Z h "jdk/internal/util/Preconditions" "SIOOBE_FORMATTER" "Ljava/util/function/BiFunction;" fm ∧ fm.isRef = true
theorem own_getD {f : Nat → Int32} {i : Nat} (h : i < 24) : ((List.range 24).map f).getD i 0 = f i := by
  simp [List.getD_eq_getElem?_getD, h]
theorem own_len (f : Nat → Int32) : ((List.range 24).map f).length = 24 := by simp
theorem own_b16 {f : Nat → Int32} (hf : ∀ i, i < 24 → ¬ f i < 0 ∧ ¬ (255 : Int32) < f i) : ∀ c ∈ (List.range 24).map f, ¬ c < 0 ∧ ¬ (65535 : Int32) < c := fun c hc => by
  obtain ⟨i, hi, rfl⟩ := List.mem_map.mp hc
  have q := hf i (List.mem_range.mp hi)
  refine ⟨q.1, fun r => q.2 ?_⟩
  rw [Int32.lt_iff_toInt_lt] at r ⊢
  have e1 : (65535 : Int32).toInt = 65535 := by decide
  have e2 : (255 : Int32).toInt = 255 := by decide
  omega
theorem own_b8 {f : Nat → Int32} (hf : ∀ i, i < 24 → ¬ f i < 0 ∧ ¬ (255 : Int32) < f i) : ∀ c ∈ (List.range 24).map f, ¬ (255 : Int32) < c := fun c hc => by
  obtain ⟨i, hi, rfl⟩ := List.mem_map.mp hc
  exact (hf i (List.mem_range.mp hi)).2
theorem own_wch {Z : State} {a0 : Array Value} (hw : ∀ d ∈ tables_1, d.before a0 Z = true) : ∀ d ∈ StrChars.Road.wordsChN, d.before a0 Z = true := fun d hd => hw d ((by decide +kernel : ∀ d ∈ StrChars.Road.wordsChN, d ∈ tables_1) d hd)
theorem pd_ch : parseMethodDescriptor "(I)C" = some ⟨[.int], some .char⟩ := by decide +kernel
theorem d3_0 : decode prog_86_method_4_code 0 = .ok (.iload_n 1, 1) := by decide +kernel
theorem d3_1 : decode prog_86_method_4_code 1 = .ok (.istore_n 3, 1) := by decide +kernel
theorem d3_2 : decode prog_86_method_4_code 2 = .ok (.iload_n 3, 1) := by decide +kernel
theorem d3_3 : decode prog_86_method_4_code 3 = .ok (.iload_n 2, 1) := by decide +kernel
theorem d3_4 : decode prog_86_method_4_code 4 = .ok (.if_icmp .ge 24, 3) := by decide +kernel
theorem d3_7 : decode prog_86_method_4_code 7 = .ok (.aload_n 0, 1) := by decide +kernel
theorem d3_8 : decode prog_86_method_4_code 8 = .ok (.iload_n 3, 1) := by decide +kernel
theorem d3_9 : decode prog_86_method_4_code 9 = .ok (.invokeinterface 7 2, 5) := by decide +kernel
theorem d3_14 : decode prog_86_method_4_code 14 = .ok (.invokestatic 13, 3) := by decide +kernel
theorem d3_17 : decode prog_86_method_4_code 17 = .ok (.ifCond .ne 5, 3) := by decide +kernel
theorem d3_20 : decode prog_86_method_4_code 20 = .ok (.iconst 0, 1) := by decide +kernel
theorem d3_21 : decode prog_86_method_4_code 21 = .ok (.ireturn, 1) := by decide +kernel
theorem d3_22 : decode prog_86_method_4_code 22 = .ok (.iinc 3 1, 3) := by decide +kernel
theorem d3_25 : decode prog_86_method_4_code 25 = .ok (.goto (-23), 3) := by decide +kernel
theorem d3_28 : decode prog_86_method_4_code 28 = .ok (.iconst 1, 1) := by decide +kernel
theorem d3_29 : decode prog_86_method_4_code 29 = .ok (.ireturn, 1) := by decide +kernel
theorem pn_3 : plainName "com/example/poruka/poruka/fin/FinText" = true := by first | (simp [plainName, overriddenIn]; done) | decide +kernel
theorem ef_3 (m : MethodId) (x0 : Addr) (x1 : Int32) (x2 : Int32) : entryFrame m #[(.ref x0), (.int x1), (.int x2)] 4 = mkF m 0 #[.val (.ref x0), .val (.int x1), .val (.int x2), .unset] [] := by first | (simp [entryFrame, mkF, argsToLocals, Value.category]; done) | rfl
theorem pd_3 : parseMethodDescriptor "(Ljava/lang/CharSequence;II)Z" = some ⟨[.object "java/lang/CharSequence", .int, .int], some .boolean⟩ := by decide +kernel
set_option maxRecDepth 65536 in
set_option maxHeartbeats 40000000 in
theorem rm3 (l : Launch) (Z : State) (a0 : Array Value) (hw : ∀ d ∈ tables_1, d.before a0 Z = true) (ws : List Jvm.Cond) (x : Addr) (f : Nat → Int32) (z : Int32) (fm : Value) (hf : ∀ i, i < 24 → ¬ f i < 0 ∧ ¬ (255 : Int32) < f i) (lo en : Nat) (hle : lo ≤ en) (h24 : en ≤ 24) (hd : ∀ p, lo ≤ p → p < en → ∃ d, d < 10 ∧ f p = Int32.ofNat (48 + d)) (h0 : Heap) (n0 : Nat) (Z0 : n0 ≤ h0.size) (TX : own_Tx Z h0 x ((List.range 24).map f)) (CX : own_Cx Z h0 z fm) :
    MetFree l (⟨"com/example/poruka/poruka/fin/FinText", "isDigits", "(Ljava/lang/CharSequence;II)Z"⟩ : MethodName) (head1 (Jvm.Cond.code (⟨"com/example/poruka/poruka/fin/FinText", "isDigits", "(Ljava/lang/CharSequence;II)Z"⟩ : MethodName) prog_86_method_4_code 4 (some .boolean) :: ws) ({ frames := 4, cells := 0, slots := 0, locals := 53 } : Room)) (fun a U => a = #[(.ref x), (.int (Int32.ofNat lo)), (.int (Int32.ofNat en))] ∧ Z.Warmed39 U.vm ∧ U.heap = h0) (fun _ _ _ _ _ => True) (fun _ U o U' => ∃ v L, o = .returned v ∧ QI 1 h0 n0 v U'.heap L ∧ FrameEnd U o U' L ({ frames := 4, cells := 0, slots := 0, locals := 53 } : Room).cells ({ frames := 4, cells := 0, slots := 0, locals := 53 } : Room).slots) := by
  refine MetFree.of_bodySF (plainFor_of_name pn_3) hisR ?_
  intro p e s m args below meth c s₁ Bd hml0 hP hK
  obtain ⟨rfl, hZ, hh⟩ := hP
  have hx := Bd.exec
  have hby := Bd.bytes
  have hlk := Bd.notSynchronized
  have hml : c.maxLocals = 4 := hml0
  have hown : s.vm.findClass "com/example/poruka/poruka/fin/FinText" = some m.cls := findClass_of_methodNamed Bd.named
  have hnm := (name_of_methodNamed Bd.named Bd.method).1
  have X0 : Stand p l e ({ frames := 4, cells := 0, slots := 0, locals := 53 } : Room) s m #[(.ref x), (.int (Int32.ofNat lo)), (.int (Int32.ofNat en))] below meth c s₁ [] 0 0 := Stand.of_body Bd
  have e0 : s₁.heap = h0 := by rw [← hh, Bd.state]; rfl
  have N0 := Fr.nil n0
  show own_E p e below s (QI 1 h0 n0) _ _ s₁ (entryFrame m #[(.ref x), (.int (Int32.ofNat lo)), (.int (Int32.ofNat en))] 4)
  rw [ef_3]
  obtain ⟨tb, tk, tE, tV, tC, tK⟩ := TX
  have loop : ∀ (k i : Nat), i + k = en → lo ≤ i → ∀ (T : State) (locs : List Loc) (X : Stand p l e ({ frames := 4, cells := 0, slots := 0, locals := 53 } : Room) s m #[(.ref x), (.int (Int32.ofNat lo)), (.int (Int32.ofNat en))] below meth c T locs 0 0) (eT : T.heap = h0) (NN : Fr n0 locs), own_E p e below s (QI 1 h0 n0) 0 0 T (mkF m 2 #[.val (.ref x), .val (.int (Int32.ofNat lo)), .val (.int (Int32.ofNat en)), .val (.int (Int32.ofNat i))] []) := by
    intro k
    induction k with
    | zero =>
      intro i hi hlo T locs X eT NN
      show own_E _ _ _ _ _ _ _ T (mkF m 2 #[.val (.ref x), .val (.int (Int32.ofNat lo)), .val (.int (Int32.ofNat en)), .val (.int (Int32.ofNat i))] [])
      refine own_via (fun t => XS.iloadN X.here hx rfl (hb hby d3_2) rfl) ?_
      show own_E _ _ _ _ _ _ _ T (mkF m 3 #[.val (.ref x), .val (.int (Int32.ofNat lo)), .val (.int (Int32.ofNat en)), .val (.int (Int32.ofNat i))] [(.int (Int32.ofNat i))])
      refine own_via (fun t => XS.iloadN X.here hx rfl (hb hby d3_3) rfl) ?_
      show own_E _ _ _ _ _ _ _ T (mkF m 4 #[.val (.ref x), .val (.int (Int32.ofNat lo)), .val (.int (Int32.ofNat en)), .val (.int (Int32.ofNat i))] [(.int (Int32.ofNat en)), (.int (Int32.ofNat i))])
      refine own_via (fun t => XS.icmpYes X.here hx rfl (pc0 := 4) (pc' := 28) rfl (hb hby d3_4) rfl (flt (fun q => by rw [own_lt (by omega) (by omega)] at q; omega)).2.1 (by decide) (by decide)) ?_
      show own_E _ _ _ _ _ _ _ T (mkF m 28 #[.val (.ref x), .val (.int (Int32.ofNat lo)), .val (.int (Int32.ofNat en)), .val (.int (Int32.ofNat i))] [])
      refine own_via (fun t => XS.iconst X.here hx rfl (hb hby d3_28)) ?_
      show own_E _ _ _ _ _ _ _ T (mkF m 29 #[.val (.ref x), .val (.int (Int32.ofNat lo)), .val (.int (Int32.ofNat en)), .val (.int (Int32.ofNat i))] [(.int (1 : Int32))])
      exact own_retN X hx hlk Bd.returns (Or.inl rfl) (hb hby d3_29) (Nat.le_refl _) (Nat.le_refl _) ⟨rfl, NN, eT⟩
    | succ k ih =>
      intro i hi hlo T locs X eT NN
      show own_E _ _ _ _ _ _ _ T (mkF m 2 #[.val (.ref x), .val (.int (Int32.ofNat lo)), .val (.int (Int32.ofNat en)), .val (.int (Int32.ofNat i))] [])
      refine own_via (fun t => XS.iloadN X.here hx rfl (hb hby d3_2) rfl) ?_
      show own_E _ _ _ _ _ _ _ T (mkF m 3 #[.val (.ref x), .val (.int (Int32.ofNat lo)), .val (.int (Int32.ofNat en)), .val (.int (Int32.ofNat i))] [(.int (Int32.ofNat i))])
      refine own_via (fun t => XS.iloadN X.here hx rfl (hb hby d3_3) rfl) ?_
      show own_E _ _ _ _ _ _ _ T (mkF m 4 #[.val (.ref x), .val (.int (Int32.ofNat lo)), .val (.int (Int32.ofNat en)), .val (.int (Int32.ofNat i))] [(.int (Int32.ofNat en)), (.int (Int32.ofNat i))])
      refine own_via (fun t => XS.icmpNo X.here hx rfl (hb hby d3_4) rfl (tlt ((own_lt (by omega) (by omega)).mpr (show i < en by omega))).2.1) ?_
      show own_E _ _ _ _ _ _ _ T (mkF m 7 #[.val (.ref x), .val (.int (Int32.ofNat lo)), .val (.int (Int32.ofNat en)), .val (.int (Int32.ofNat i))] [])
      refine own_via (fun t => XS.aloadN X.here hx rfl (hb hby d3_7) rfl rfl) ?_
      show own_E _ _ _ _ _ _ _ T (mkF m 8 #[.val (.ref x), .val (.int (Int32.ofNat lo)), .val (.int (Int32.ofNat en)), .val (.int (Int32.ofNat i))] [(.ref x)])
      refine own_via (fun t => XS.iloadN X.here hx rfl (hb hby d3_8) rfl) ?_
      show own_E _ _ _ _ _ _ _ T (mkF m 9 #[.val (.ref x), .val (.int (Int32.ofNat lo)), .val (.int (Int32.ofNat en)), .val (.int (Int32.ofNat i))] [(.int (Int32.ofNat i)), (.ref x)])
      obtain ⟨cq5, kq5, q5a, q5b, q5c⟩ := isOf hZ eT tE
      obtain ⟨_, _, ⟨T5, L5, k5, n5⟩, -, X5, ⟨Lc5, hQ5, l5, y5, z5⟩, st5⟩ := X.interfaceBack hx (xi := (⟨"java/lang/CharSequence", "charAt", "(I)C"⟩ : MethodName)) (y := (⟨"java/lang/String", "charAt", "(I)C"⟩ : MethodName)) hown (mvT hZ (hw _ (List.mem_of_getElem? (i := 70) rfl))) (mvT hZ (hw _ (List.mem_of_getElem? (i := 41) rfl))) (mvT hZ (hw _ (List.mem_of_getElem? (i := 42) rfl))) (mvT hZ (hw _ (List.mem_of_getElem? (i := 43) rfl))) (mvT hZ (hw _ (List.mem_of_getElem? (i := 44) rfl))) (mvT hZ (hw _ (List.mem_of_getElem? (i := 45) rfl))) (mvT hZ (hw _ (List.mem_of_getElem? (i := 46) rfl))) (mvT hZ (hw _ (List.mem_of_getElem? (i := 47) rfl))) (by decide) (W := 0) (StrChars.Road.chN hZ (own_wch hw) (kI := 4) (hw _ (List.mem_of_getElem? (i := 9) rfl)) tE tV tC tK (StrChars.Road.codOf (own_len f) (own_b8 hf)) (own_b16 hf) CX.1 CX.2.1 CX.2.2.1 CX.2.2.2 (by rw [own_len]; decide) (i := i) (by rw [own_len]; omega) rfl (by decide) (by decide)) q5a q5b q5c (g := (mkF m 9 #[.val (.ref x), .val (.int (Int32.ofNat lo)), .val (.int (Int32.ofNat en)), .val (.int (Int32.ofNat i))] [(.int (Int32.ofNat i)), (.ref x)])) rfl (by rw [hml]; rfl) (Steps.refl _) (argsL := [(.int (Int32.ofNat i))]) (rest := []) (lenOf pd_ch rfl) rfl (by show 2 * 0 + _ ≤ _; exact Nat.le_of_eq rfl) (hb hby d3_9) (fun _ _ => ⟨rfl, eT, (by decide : 0 + 0 ≤ _), (by decide : 0 + 0 ≤ _)⟩)
      dsimp only [Pt.U, Pt.locs, Pt.cells, Pt.slots] at X5 l5 y5 z5 st5 hQ5
      subst l5 y5 z5
      obtain ⟨rfl, rfl, e5⟩ := hQ5
      refine own_thru st5 ?_
      show own_E _ _ _ _ _ _ _ T5 (mkF m 14 #[.val (.ref x), .val (.int (Int32.ofNat lo)), .val (.int (Int32.ofNat en)), .val (.int (Int32.ofNat i))] [(.int (((List.range 24).map f).getD i 0))])
      rw [own_getD (show i < 24 from by omega)]
      show own_E _ _ _ _ _ _ _ T5 (mkF m 14 #[.val (.ref x), .val (.int (Int32.ofNat lo)), .val (.int (Int32.ofNat en)), .val (.int (Int32.ofNat i))] [(.int (f i))])
      obtain ⟨d, hd1, hd2⟩ := hd i hlo (by omega)
      obtain ⟨_, _, ⟨T6, L6, k6, n6⟩, -, X6, ⟨Lc6, hQ6, l6, y6, z6⟩, st6⟩ := Jvm.LawKit.callS X5 hx (y := (⟨"com/example/poruka/poruka/fin/FinText", "isDigit", "(C)Z"⟩ : MethodName)) hown (mvT hZ (hw _ (List.mem_of_getElem? (i := 71) rfl))) (mvT hZ (hw _ (List.mem_of_getElem? (i := 72) rfl))) (mvT hZ (hw _ (List.mem_of_getElem? (i := 68) rfl))) (mvT hZ (hw _ (List.mem_of_getElem? (i := 73) rfl))) (by decide) (backOf (W := 0) (rm2 l Z a0 hw [] (f i) (by rw [hd2]; exact own_d_lo hd1) (by rw [hd2]; exact own_d_hi hd1) h0 n0 Z0) hZ (hw _ (List.mem_of_getElem? (i := 73) rfl)) (hw _ (List.mem_of_getElem? (i := 68) rfl)) (by decide) (by decide)) (g := (mkF m 14 #[.val (.ref x), .val (.int (Int32.ofNat lo)), .val (.int (Int32.ofNat en)), .val (.int (Int32.ofNat i))] [(.int (f i))])) rfl (by rw [hml]; rfl) (argsL := [(.int (f i))]) (rest := []) (lenOf pd_2 rfl) rfl (by show 2 * 0 + _ ≤ _; exact Nat.le_of_eq rfl) (hb hby d3_14) (fun _ _ => ⟨rfl, e5, (by decide : 0 + 0 ≤ _), (by decide : 0 + 0 ≤ _)⟩)
      dsimp only [Pt.U, Pt.locs, Pt.cells, Pt.slots] at X6 l6 y6 z6 st6 hQ6
      subst l6 y6 z6
      obtain ⟨rfl, N6, e6⟩ := hQ6
      refine own_via st6 ?_
      show own_E _ _ _ _ _ _ _ T6 (mkF m 17 #[.val (.ref x), .val (.int (Int32.ofNat lo)), .val (.int (Int32.ofNat en)), .val (.int (Int32.ofNat i))] [(.int (1 : Int32))])
      refine own_via (fun t => XS.ifYes X6.here hx rfl (pc0 := 17) (pc' := 22) rfl (hb hby d3_17) rfl ((if0 _ _).trans (feq (by decide : ¬ ((1 : Int32) = (0 : Int32)))).2) (by decide) (by decide)) ?_
      show own_E _ _ _ _ _ _ _ T6 (mkF m 22 #[.val (.ref x), .val (.int (Int32.ofNat lo)), .val (.int (Int32.ofNat en)), .val (.int (Int32.ofNat i))] [])
      refine own_via (fun t => XS.iinc X6.here hx rfl (hb hby d3_22) rfl (l' := #[.val (.ref x), .val (.int (Int32.ofNat lo)), .val (.int (Int32.ofNat en)), .val (.int ((Int32.ofNat i) + (1 : Int32)))]) rfl) ?_
      show own_E _ _ _ _ _ _ _ T6 (mkF m 25 #[.val (.ref x), .val (.int (Int32.ofNat lo)), .val (.int (Int32.ofNat en)), .val (.int ((Int32.ofNat i) + (1 : Int32)))] [])
      refine own_via (fun t => XS.goto X6.here hx rfl (pc0 := 25) (pc' := 2) rfl (hb hby d3_25) (by decide) (by decide)) ?_
      show own_E _ _ _ _ _ _ _ T6 (mkF m 2 #[.val (.ref x), .val (.int (Int32.ofNat lo)), .val (.int (Int32.ofNat en)), .val (.int ((Int32.ofNat i) + (1 : Int32)))] [])
      rw [own_one]
      exact ih (i + 1) (by omega) (by omega) _ _ X6 e6 (Fr.app (Fr.app NN (Fr.nil _)) N6)
  show own_E _ _ _ _ _ _ _ s₁ (mkF m 0 #[.val (.ref x), .val (.int (Int32.ofNat lo)), .val (.int (Int32.ofNat en)), .unset] [])
  refine own_via (fun t => XS.iloadN X0.here hx rfl (hb hby d3_0) rfl) ?_
  show own_E _ _ _ _ _ _ _ s₁ (mkF m 1 #[.val (.ref x), .val (.int (Int32.ofNat lo)), .val (.int (Int32.ofNat en)), .unset] [(.int (Int32.ofNat lo))])
  refine own_via (fun t => XS.istoreN X0.here hx rfl (hb hby d3_1) rfl (l' := #[.val (.ref x), .val (.int (Int32.ofNat lo)), .val (.int (Int32.ofNat en)), .val (.int (Int32.ofNat lo))]) rfl) ?_
  show own_E _ _ _ _ _ _ _ s₁ (mkF m 2 #[.val (.ref x), .val (.int (Int32.ofNat lo)), .val (.int (Int32.ofNat en)), .val (.int (Int32.ofNat lo))] [])
  exact loop (en - lo) lo (by omega) (Nat.le_refl _) _ _ X0 e0 N0
theorem d4_0 : decode prog_133_method_2_code 0 = .ok (.iload_n 1, 1) := by decide +kernel
theorem d4_1 : decode prog_133_method_2_code 1 = .ok (.istore_n 3, 1) := by decide +kernel
theorem d4_2 : decode prog_133_method_2_code 2 = .ok (.iload_n 3, 1) := by decide +kernel
theorem d4_3 : decode prog_133_method_2_code 3 = .ok (.iload_n 2, 1) := by decide +kernel
theorem d4_4 : decode prog_133_method_2_code 4 = .ok (.if_icmp .ge 21, 3) := by decide +kernel
theorem d4_7 : decode prog_133_method_2_code 7 = .ok (.aload_n 0, 1) := by decide +kernel
theorem d4_8 : decode prog_133_method_2_code 8 = .ok (.iload_n 3, 1) := by decide +kernel
theorem d4_9 : decode prog_133_method_2_code 9 = .ok (.invokeinterface 7 2, 5) := by decide +kernel
theorem d4_14 : decode prog_133_method_2_code 14 = .ok (.bipush 44, 2) := by decide +kernel
theorem d4_16 : decode prog_133_method_2_code 16 = .ok (.if_icmp .eq 9, 3) := by decide +kernel
theorem d4_19 : decode prog_133_method_2_code 19 = .ok (.iinc 3 1, 3) := by decide +kernel
theorem d4_22 : decode prog_133_method_2_code 22 = .ok (.goto (-20), 3) := by decide +kernel
theorem d4_25 : decode prog_133_method_2_code 25 = .ok (.iload_n 3, 1) := by decide +kernel
theorem d4_26 : decode prog_133_method_2_code 26 = .ok (.iload_n 1, 1) := by decide +kernel
theorem d4_27 : decode prog_133_method_2_code 27 = .ok (.if_icmp .eq 28, 3) := by decide +kernel
theorem d4_30 : decode prog_133_method_2_code 30 = .ok (.iload_n 3, 1) := by decide +kernel
theorem d4_31 : decode prog_133_method_2_code 31 = .ok (.iload_n 2, 1) := by decide +kernel
theorem d4_32 : decode prog_133_method_2_code 32 = .ok (.if_icmp .eq 23, 3) := by decide +kernel
theorem d4_35 : decode prog_133_method_2_code 35 = .ok (.aload_n 0, 1) := by decide +kernel
theorem d4_36 : decode prog_133_method_2_code 36 = .ok (.iload_n 1, 1) := by decide +kernel
theorem d4_37 : decode prog_133_method_2_code 37 = .ok (.iload_n 3, 1) := by decide +kernel
theorem d4_38 : decode prog_133_method_2_code 38 = .ok (.invokestatic 15, 3) := by decide +kernel
theorem d4_41 : decode prog_133_method_2_code 41 = .ok (.ifCond .eq 14, 3) := by decide +kernel
theorem d4_44 : decode prog_133_method_2_code 44 = .ok (.aload_n 0, 1) := by decide +kernel
theorem d4_45 : decode prog_133_method_2_code 45 = .ok (.iload_n 3, 1) := by decide +kernel
theorem d4_46 : decode prog_133_method_2_code 46 = .ok (.iconst 1, 1) := by decide +kernel
theorem d4_47 : decode prog_133_method_2_code 47 = .ok (.iadd, 1) := by decide +kernel
theorem d4_48 : decode prog_133_method_2_code 48 = .ok (.iload_n 2, 1) := by decide +kernel
theorem d4_49 : decode prog_133_method_2_code 49 = .ok (.invokestatic 15, 3) := by decide +kernel
theorem d4_52 : decode prog_133_method_2_code 52 = .ok (.ifCond .ne 5, 3) := by decide +kernel
theorem d4_55 : decode prog_133_method_2_code 55 = .ok (.iconst (-1), 1) := by decide +kernel
theorem d4_56 : decode prog_133_method_2_code 56 = .ok (.ireturn, 1) := by decide +kernel
theorem d4_57 : decode prog_133_method_2_code 57 = .ok (.iload_n 3, 1) := by decide +kernel
theorem d4_58 : decode prog_133_method_2_code 58 = .ok (.ireturn, 1) := by decide +kernel
theorem pn_4 : plainName "com/example/poruka/poruka/rules/Amounts" = true := by first | (simp [plainName, overriddenIn]; done) | decide +kernel
theorem ef_4 (m : MethodId) (x0 : Addr) (x1 : Int32) (x2 : Int32) : entryFrame m #[(.ref x0), (.int x1), (.int x2)] 4 = mkF m 0 #[.val (.ref x0), .val (.int x1), .val (.int x2), .unset] [] := by first | (simp [entryFrame, mkF, argsToLocals, Value.category]; done) | rfl
theorem pd_4 : parseMethodDescriptor "(Ljava/lang/CharSequence;II)I" = some ⟨[.object "java/lang/CharSequence", .int, .int], some .int⟩ := by decide +kernel
set_option maxRecDepth 65536 in
set_option maxHeartbeats 40000000 in
theorem rm4 (l : Launch) (Z : State) (a0 : Array Value) (hw : ∀ d ∈ tables_1, d.before a0 Z = true) (ws : List Jvm.Cond) (x : Addr) (f : Nat → Int32) (z : Int32) (fm : Value) (hf : ∀ i, i < 24 → ¬ f i < 0 ∧ ¬ (255 : Int32) < f i) (N en st : Nat) (he1 : 20 ≤ en) (he2 : en ≤ 23) (G : own_G N en st f) (h0 : Heap) (n0 : Nat) (Z0 : n0 ≤ h0.size) (TX : own_Tx Z h0 x ((List.range 24).map f)) (CX : own_Cx Z h0 z fm) :
    MetFree l (⟨"com/example/poruka/poruka/rules/Amounts", "comma", "(Ljava/lang/CharSequence;II)I"⟩ : MethodName) (head1 (Jvm.Cond.code (⟨"com/example/poruka/poruka/rules/Amounts", "comma", "(Ljava/lang/CharSequence;II)I"⟩ : MethodName) prog_133_method_2_code 4 (some .int) :: ws) ({ frames := 5, cells := 0, slots := 0, locals := 70 } : Room)) (fun a U => a = #[(.ref x), (.int (Int32.ofNat st)), (.int (Int32.ofNat en))] ∧ Z.Warmed39 U.vm ∧ U.heap = h0) (fun _ _ _ _ _ => True) (fun _ U o U' => ∃ v L, o = .returned v ∧ QI (Int32.ofNat (en - 3)) h0 n0 v U'.heap L ∧ FrameEnd U o U' L ({ frames := 5, cells := 0, slots := 0, locals := 70 } : Room).cells ({ frames := 5, cells := 0, slots := 0, locals := 70 } : Room).slots) := by
  refine MetFree.of_bodySF (plainFor_of_name pn_4) hisR ?_
  intro p e s m args below meth c s₁ Bd hml0 hP hK
  obtain ⟨rfl, hZ, hh⟩ := hP
  have hx := Bd.exec
  have hby := Bd.bytes
  have hlk := Bd.notSynchronized
  have hml : c.maxLocals = 4 := hml0
  have hown : s.vm.findClass "com/example/poruka/poruka/rules/Amounts" = some m.cls := findClass_of_methodNamed Bd.named
  have hnm := (name_of_methodNamed Bd.named Bd.method).1
  have X0 : Stand p l e ({ frames := 5, cells := 0, slots := 0, locals := 70 } : Room) s m #[(.ref x), (.int (Int32.ofNat st)), (.int (Int32.ofNat en))] below meth c s₁ [] 0 0 := Stand.of_body Bd
  have e0 : s₁.heap = h0 := by rw [← hh, Bd.state]; rfl
  have N0 := Fr.nil n0
  show own_E p e below s (QI (Int32.ofNat (en - 3)) h0 n0) _ _ s₁ (entryFrame m #[(.ref x), (.int (Int32.ofNat st)), (.int (Int32.ofNat en))] 4)
  rw [ef_4]
  have TX0 := TX
  obtain ⟨tb, tk, tE, tV, tC, tK⟩ := TX
  obtain ⟨G1, G2, G3, G4, G5, G6, G7, G8⟩ := G
  have loop : ∀ (k i : Nat), i + k = en - 3 → st ≤ i → ∀ (T : State) (locs : List Loc) (X : Stand p l e ({ frames := 5, cells := 0, slots := 0, locals := 70 } : Room) s m #[(.ref x), (.int (Int32.ofNat st)), (.int (Int32.ofNat en))] below meth c T locs 0 0) (eT : T.heap = h0) (NN : Fr n0 locs), own_E p e below s (QI (Int32.ofNat (en - 3)) h0 n0) 0 0 T (mkF m 2 #[.val (.ref x), .val (.int (Int32.ofNat st)), .val (.int (Int32.ofNat en)), .val (.int (Int32.ofNat i))] []) := by
    intro k
    induction k with
    | zero =>
      intro i hi hlo T locs X eT NN
      obtain rfl : i = en - 3 := by omega
      show own_E _ _ _ _ _ _ _ T (mkF m 2 #[.val (.ref x), .val (.int (Int32.ofNat st)), .val (.int (Int32.ofNat en)), .val (.int (Int32.ofNat (en - 3)))] [])
      refine own_via (fun t => XS.iloadN X.here hx rfl (hb hby d4_2) rfl) ?_
      show own_E _ _ _ _ _ _ _ T (mkF m 3 #[.val (.ref x), .val (.int (Int32.ofNat st)), .val (.int (Int32.ofNat en)), .val (.int (Int32.ofNat (en - 3)))] [(.int (Int32.ofNat (en - 3)))])
      refine own_via (fun t => XS.iloadN X.here hx rfl (hb hby d4_3) rfl) ?_
      show own_E _ _ _ _ _ _ _ T (mkF m 4 #[.val (.ref x), .val (.int (Int32.ofNat st)), .val (.int (Int32.ofNat en)), .val (.int (Int32.ofNat (en - 3)))] [(.int (Int32.ofNat en)), (.int (Int32.ofNat (en - 3)))])
      refine own_via (fun t => XS.icmpNo X.here hx rfl (hb hby d4_4) rfl (tlt ((own_lt (by omega) (by omega)).mpr (show en - 3 < en by omega))).2.1) ?_
      show own_E _ _ _ _ _ _ _ T (mkF m 7 #[.val (.ref x), .val (.int (Int32.ofNat st)), .val (.int (Int32.ofNat en)), .val (.int (Int32.ofNat (en - 3)))] [])
      refine own_via (fun t => XS.aloadN X.here hx rfl (hb hby d4_7) rfl rfl) ?_
      show own_E _ _ _ _ _ _ _ T (mkF m 8 #[.val (.ref x), .val (.int (Int32.ofNat st)), .val (.int (Int32.ofNat en)), .val (.int (Int32.ofNat (en - 3)))] [(.ref x)])
      refine own_via (fun t => XS.iloadN X.here hx rfl (hb hby d4_8) rfl) ?_
      show own_E _ _ _ _ _ _ _ T (mkF m 9 #[.val (.ref x), .val (.int (Int32.ofNat st)), .val (.int (Int32.ofNat en)), .val (.int (Int32.ofNat (en - 3)))] [(.int (Int32.ofNat (en - 3))), (.ref x)])
      obtain ⟨cq7, kq7, q7a, q7b, q7c⟩ := isOf hZ eT tE
      obtain ⟨_, _, ⟨T7, L7, k7, n7⟩, -, X7, ⟨Lc7, hQ7, l7, y7, z7⟩, st7⟩ := X.interfaceBack hx (xi := (⟨"java/lang/CharSequence", "charAt", "(I)C"⟩ : MethodName)) (y := (⟨"java/lang/String", "charAt", "(I)C"⟩ : MethodName)) hown (mvT hZ (hw _ (List.mem_of_getElem? (i := 40) rfl))) (mvT hZ (hw _ (List.mem_of_getElem? (i := 41) rfl))) (mvT hZ (hw _ (List.mem_of_getElem? (i := 42) rfl))) (mvT hZ (hw _ (List.mem_of_getElem? (i := 43) rfl))) (mvT hZ (hw _ (List.mem_of_getElem? (i := 44) rfl))) (mvT hZ (hw _ (List.mem_of_getElem? (i := 45) rfl))) (mvT hZ (hw _ (List.mem_of_getElem? (i := 46) rfl))) (mvT hZ (hw _ (List.mem_of_getElem? (i := 47) rfl))) (by decide) (W := 0) (StrChars.Road.chN hZ (own_wch hw) (kI := 4) (hw _ (List.mem_of_getElem? (i := 9) rfl)) tE tV tC tK (StrChars.Road.codOf (own_len f) (own_b8 hf)) (own_b16 hf) CX.1 CX.2.1 CX.2.2.1 CX.2.2.2 (by rw [own_len]; decide) (i := (en - 3)) (by rw [own_len]; omega) rfl (by decide) (by decide)) q7a q7b q7c (g := (mkF m 9 #[.val (.ref x), .val (.int (Int32.ofNat st)), .val (.int (Int32.ofNat en)), .val (.int (Int32.ofNat (en - 3)))] [(.int (Int32.ofNat (en - 3))), (.ref x)])) rfl (by rw [hml]; rfl) (Steps.refl _) (argsL := [(.int (Int32.ofNat (en - 3)))]) (rest := []) (lenOf pd_ch rfl) rfl (by show 2 * 0 + _ ≤ _; exact Nat.le_of_eq rfl) (hb hby d4_9) (fun _ _ => ⟨rfl, eT, (by decide : 0 + 0 ≤ _), (by decide : 0 + 0 ≤ _)⟩)
      dsimp only [Pt.U, Pt.locs, Pt.cells, Pt.slots] at X7 l7 y7 z7 st7 hQ7
      subst l7 y7 z7
      obtain ⟨rfl, rfl, e7⟩ := hQ7
      refine own_thru st7 ?_
      show own_E _ _ _ _ _ _ _ T7 (mkF m 14 #[.val (.ref x), .val (.int (Int32.ofNat st)), .val (.int (Int32.ofNat en)), .val (.int (Int32.ofNat (en - 3)))] [(.int (((List.range 24).map f).getD (en - 3) 0))])
      rw [own_getD (show (en - 3) < 24 from by omega)]
      show own_E _ _ _ _ _ _ _ T7 (mkF m 14 #[.val (.ref x), .val (.int (Int32.ofNat st)), .val (.int (Int32.ofNat en)), .val (.int (Int32.ofNat (en - 3)))] [(.int (f ((en - 3))))])
      rw [G5]
      show own_E _ _ _ _ _ _ _ T7 (mkF m 14 #[.val (.ref x), .val (.int (Int32.ofNat st)), .val (.int (Int32.ofNat en)), .val (.int (Int32.ofNat (en - 3)))] [(.int (44 : Int32))])
      refine own_via (fun t => XS.bipush X7.here hx rfl (hb hby d4_14)) ?_
      show own_E _ _ _ _ _ _ _ T7 (mkF m 16 #[.val (.ref x), .val (.int (Int32.ofNat st)), .val (.int (Int32.ofNat en)), .val (.int (Int32.ofNat (en - 3)))] [(.int (44 : Int32)), (.int (44 : Int32))])
      refine own_via (fun t => XS.icmpYes X7.here hx rfl (pc0 := 16) (pc' := 25) rfl (hb hby d4_16) rfl (teq (by decide : (44 : Int32) = (44 : Int32))).1 (by decide) (by decide)) ?_
      show own_E _ _ _ _ _ _ _ T7 (mkF m 25 #[.val (.ref x), .val (.int (Int32.ofNat st)), .val (.int (Int32.ofNat en)), .val (.int (Int32.ofNat (en - 3)))] [])
      refine own_via (fun t => XS.iloadN X7.here hx rfl (hb hby d4_25) rfl) ?_
      show own_E _ _ _ _ _ _ _ T7 (mkF m 26 #[.val (.ref x), .val (.int (Int32.ofNat st)), .val (.int (Int32.ofNat en)), .val (.int (Int32.ofNat (en - 3)))] [(.int (Int32.ofNat (en - 3)))])
      refine own_via (fun t => XS.iloadN X7.here hx rfl (hb hby d4_26) rfl) ?_
      show own_E _ _ _ _ _ _ _ T7 (mkF m 27 #[.val (.ref x), .val (.int (Int32.ofNat st)), .val (.int (Int32.ofNat en)), .val (.int (Int32.ofNat (en - 3)))] [(.int (Int32.ofNat st)), (.int (Int32.ofNat (en - 3)))])
      refine own_via (fun t => XS.icmpNo X7.here hx rfl (hb hby d4_27) rfl (feq (fun q => by rw [own_eq (by omega) (by omega)] at q; omega)).1) ?_
      show own_E _ _ _ _ _ _ _ T7 (mkF m 30 #[.val (.ref x), .val (.int (Int32.ofNat st)), .val (.int (Int32.ofNat en)), .val (.int (Int32.ofNat (en - 3)))] [])
      refine own_via (fun t => XS.iloadN X7.here hx rfl (hb hby d4_30) rfl) ?_
      show own_E _ _ _ _ _ _ _ T7 (mkF m 31 #[.val (.ref x), .val (.int (Int32.ofNat st)), .val (.int (Int32.ofNat en)), .val (.int (Int32.ofNat (en - 3)))] [(.int (Int32.ofNat (en - 3)))])
      refine own_via (fun t => XS.iloadN X7.here hx rfl (hb hby d4_31) rfl) ?_
      show own_E _ _ _ _ _ _ _ T7 (mkF m 32 #[.val (.ref x), .val (.int (Int32.ofNat st)), .val (.int (Int32.ofNat en)), .val (.int (Int32.ofNat (en - 3)))] [(.int (Int32.ofNat en)), (.int (Int32.ofNat (en - 3)))])
      refine own_via (fun t => XS.icmpNo X7.here hx rfl (hb hby d4_32) rfl (feq (fun q => by rw [own_eq (by omega) (by omega)] at q; omega)).1) ?_
      show own_E _ _ _ _ _ _ _ T7 (mkF m 35 #[.val (.ref x), .val (.int (Int32.ofNat st)), .val (.int (Int32.ofNat en)), .val (.int (Int32.ofNat (en - 3)))] [])
      refine own_via (fun t => XS.aloadN X7.here hx rfl (hb hby d4_35) rfl rfl) ?_
      show own_E _ _ _ _ _ _ _ T7 (mkF m 36 #[.val (.ref x), .val (.int (Int32.ofNat st)), .val (.int (Int32.ofNat en)), .val (.int (Int32.ofNat (en - 3)))] [(.ref x)])
      refine own_via (fun t => XS.iloadN X7.here hx rfl (hb hby d4_36) rfl) ?_
      show own_E _ _ _ _ _ _ _ T7 (mkF m 37 #[.val (.ref x), .val (.int (Int32.ofNat st)), .val (.int (Int32.ofNat en)), .val (.int (Int32.ofNat (en - 3)))] [(.int (Int32.ofNat st)), (.ref x)])
      refine own_via (fun t => XS.iloadN X7.here hx rfl (hb hby d4_37) rfl) ?_
      show own_E _ _ _ _ _ _ _ T7 (mkF m 38 #[.val (.ref x), .val (.int (Int32.ofNat st)), .val (.int (Int32.ofNat en)), .val (.int (Int32.ofNat (en - 3)))] [(.int (Int32.ofNat (en - 3))), (.int (Int32.ofNat st)), (.ref x)])
      obtain ⟨_, _, ⟨T8, L8, k8, n8⟩, -, X8, ⟨Lc8, hQ8, l8, y8, z8⟩, st8⟩ := Jvm.LawKit.callS X7 hx (y := (⟨"com/example/poruka/poruka/fin/FinText", "isDigits", "(Ljava/lang/CharSequence;II)Z"⟩ : MethodName)) hown (mvT hZ (hw _ (List.mem_of_getElem? (i := 66) rfl))) (mvT hZ (hw _ (List.mem_of_getElem? (i := 67) rfl))) (mvT hZ (hw _ (List.mem_of_getElem? (i := 68) rfl))) (mvT hZ (hw _ (List.mem_of_getElem? (i := 69) rfl))) (by decide) (backOf (W := 0) (rm3 l Z a0 hw [] x f z fm hf st (en - 3) (by omega) (by omega) (fun p h1 h2 => G6 p h1 (by omega) (by omega)) h0 n0 Z0 TX0 CX) hZ (hw _ (List.mem_of_getElem? (i := 69) rfl)) (hw _ (List.mem_of_getElem? (i := 68) rfl)) (by decide) (by decide)) (g := (mkF m 38 #[.val (.ref x), .val (.int (Int32.ofNat st)), .val (.int (Int32.ofNat en)), .val (.int (Int32.ofNat (en - 3)))] [(.int (Int32.ofNat (en - 3))), (.int (Int32.ofNat st)), (.ref x)])) rfl (by rw [hml]; rfl) (argsL := [(.ref x), (.int (Int32.ofNat st)), (.int (Int32.ofNat (en - 3)))]) (rest := []) (lenOf pd_3 rfl) rfl (by show 2 * 0 + _ ≤ _; exact Nat.le_of_eq rfl) (hb hby d4_38) (fun _ _ => ⟨rfl, e7, (by decide : 0 + 0 ≤ _), (by decide : 0 + 0 ≤ _)⟩)
      dsimp only [Pt.U, Pt.locs, Pt.cells, Pt.slots] at X8 l8 y8 z8 st8 hQ8
      subst l8 y8 z8
      obtain ⟨rfl, N8, e8⟩ := hQ8
      refine own_via st8 ?_
      show own_E _ _ _ _ _ _ _ T8 (mkF m 41 #[.val (.ref x), .val (.int (Int32.ofNat st)), .val (.int (Int32.ofNat en)), .val (.int (Int32.ofNat (en - 3)))] [(.int (1 : Int32))])
      refine own_via (fun t => XS.ifNo X8.here hx rfl (hb hby d4_41) rfl ((if0 _ _).trans (feq (by decide : ¬ ((1 : Int32) = (0 : Int32)))).1)) ?_
      show own_E _ _ _ _ _ _ _ T8 (mkF m 44 #[.val (.ref x), .val (.int (Int32.ofNat st)), .val (.int (Int32.ofNat en)), .val (.int (Int32.ofNat (en - 3)))] [])
      refine own_via (fun t => XS.aloadN X8.here hx rfl (hb hby d4_44) rfl rfl) ?_
      show own_E _ _ _ _ _ _ _ T8 (mkF m 45 #[.val (.ref x), .val (.int (Int32.ofNat st)), .val (.int (Int32.ofNat en)), .val (.int (Int32.ofNat (en - 3)))] [(.ref x)])
      refine own_via (fun t => XS.iloadN X8.here hx rfl (hb hby d4_45) rfl) ?_
      show own_E _ _ _ _ _ _ _ T8 (mkF m 46 #[.val (.ref x), .val (.int (Int32.ofNat st)), .val (.int (Int32.ofNat en)), .val (.int (Int32.ofNat (en - 3)))] [(.int (Int32.ofNat (en - 3))), (.ref x)])
      refine own_via (fun t => XS.iconst X8.here hx rfl (hb hby d4_46)) ?_
      show own_E _ _ _ _ _ _ _ T8 (mkF m 47 #[.val (.ref x), .val (.int (Int32.ofNat st)), .val (.int (Int32.ofNat en)), .val (.int (Int32.ofNat (en - 3)))] [(.int (1 : Int32)), (.int (Int32.ofNat (en - 3))), (.ref x)])
      refine own_via (fun t => XS.iadd X8.here hx rfl (hb hby d4_47) rfl) ?_
      show own_E _ _ _ _ _ _ _ T8 (mkF m 48 #[.val (.ref x), .val (.int (Int32.ofNat st)), .val (.int (Int32.ofNat en)), .val (.int (Int32.ofNat (en - 3)))] [(.int ((Int32.ofNat (en - 3)) + (1 : Int32))), (.ref x)])
      rw [own_one (en - 3), show en - 3 + 1 = en - 2 from by omega]
      show own_E _ _ _ _ _ _ _ T8 (mkF m 48 #[.val (.ref x), .val (.int (Int32.ofNat st)), .val (.int (Int32.ofNat en)), .val (.int (Int32.ofNat (en - 3)))] [(.int (Int32.ofNat (en - 2))), (.ref x)])
      refine own_via (fun t => XS.iloadN X8.here hx rfl (hb hby d4_48) rfl) ?_
      show own_E _ _ _ _ _ _ _ T8 (mkF m 49 #[.val (.ref x), .val (.int (Int32.ofNat st)), .val (.int (Int32.ofNat en)), .val (.int (Int32.ofNat (en - 3)))] [(.int (Int32.ofNat en)), (.int (Int32.ofNat (en - 2))), (.ref x)])
      obtain ⟨_, _, ⟨T9, L9, k9, n9⟩, -, X9, ⟨Lc9, hQ9, l9, y9, z9⟩, st9⟩ := Jvm.LawKit.callS X8 hx (y := (⟨"com/example/poruka/poruka/fin/FinText", "isDigits", "(Ljava/lang/CharSequence;II)Z"⟩ : MethodName)) hown (mvT hZ (hw _ (List.mem_of_getElem? (i := 66) rfl))) (mvT hZ (hw _ (List.mem_of_getElem? (i := 67) rfl))) (mvT hZ (hw _ (List.mem_of_getElem? (i := 68) rfl))) (mvT hZ (hw _ (List.mem_of_getElem? (i := 69) rfl))) (by decide) (backOf (W := 0) (rm3 l Z a0 hw [] x f z fm hf (en - 2) en (by omega) (by omega) (fun p h1 h2 => G6 p (by omega) h2 (by omega)) h0 n0 Z0 TX0 CX) hZ (hw _ (List.mem_of_getElem? (i := 69) rfl)) (hw _ (List.mem_of_getElem? (i := 68) rfl)) (by decide) (by decide)) (g := (mkF m 49 #[.val (.ref x), .val (.int (Int32.ofNat st)), .val (.int (Int32.ofNat en)), .val (.int (Int32.ofNat (en - 3)))] [(.int (Int32.ofNat en)), (.int (Int32.ofNat (en - 2))), (.ref x)])) rfl (by rw [hml]; rfl) (argsL := [(.ref x), (.int (Int32.ofNat (en - 2))), (.int (Int32.ofNat en))]) (rest := []) (lenOf pd_3 rfl) rfl (by show 2 * 0 + _ ≤ _; exact Nat.le_of_eq rfl) (hb hby d4_49) (fun _ _ => ⟨rfl, e8, (by decide : 0 + 0 ≤ _), (by decide : 0 + 0 ≤ _)⟩)
      dsimp only [Pt.U, Pt.locs, Pt.cells, Pt.slots] at X9 l9 y9 z9 st9 hQ9
      subst l9 y9 z9
      obtain ⟨rfl, N9, e9⟩ := hQ9
      refine own_via st9 ?_
      show own_E _ _ _ _ _ _ _ T9 (mkF m 52 #[.val (.ref x), .val (.int (Int32.ofNat st)), .val (.int (Int32.ofNat en)), .val (.int (Int32.ofNat (en - 3)))] [(.int (1 : Int32))])
      refine own_via (fun t => XS.ifYes X9.here hx rfl (pc0 := 52) (pc' := 57) rfl (hb hby d4_52) rfl ((if0 _ _).trans (feq (by decide : ¬ ((1 : Int32) = (0 : Int32)))).2) (by decide) (by decide)) ?_
      show own_E _ _ _ _ _ _ _ T9 (mkF m 57 #[.val (.ref x), .val (.int (Int32.ofNat st)), .val (.int (Int32.ofNat en)), .val (.int (Int32.ofNat (en - 3)))] [])
      refine own_via (fun t => XS.iloadN X9.here hx rfl (hb hby d4_57) rfl) ?_
      show own_E _ _ _ _ _ _ _ T9 (mkF m 58 #[.val (.ref x), .val (.int (Int32.ofNat st)), .val (.int (Int32.ofNat en)), .val (.int (Int32.ofNat (en - 3)))] [(.int (Int32.ofNat (en - 3)))])
      exact own_ret X9 hx hlk Bd.returns rfl (Or.inl ⟨rfl, Or.inl rfl, _, rfl⟩) (hb hby d4_58) (by decide) (by decide) ⟨rfl, Fr.app (Fr.app (Fr.app NN (Fr.nil _)) N8) N9, e9⟩
    | succ k ih =>
      intro i hi hlo T locs X eT NN
      show own_E _ _ _ _ _ _ _ T (mkF m 2 #[.val (.ref x), .val (.int (Int32.ofNat st)), .val (.int (Int32.ofNat en)), .val (.int (Int32.ofNat i))] [])
      refine own_via (fun t => XS.iloadN X.here hx rfl (hb hby d4_2) rfl) ?_
      show own_E _ _ _ _ _ _ _ T (mkF m 3 #[.val (.ref x), .val (.int (Int32.ofNat st)), .val (.int (Int32.ofNat en)), .val (.int (Int32.ofNat i))] [(.int (Int32.ofNat i))])
      refine own_via (fun t => XS.iloadN X.here hx rfl (hb hby d4_3) rfl) ?_
      show own_E _ _ _ _ _ _ _ T (mkF m 4 #[.val (.ref x), .val (.int (Int32.ofNat st)), .val (.int (Int32.ofNat en)), .val (.int (Int32.ofNat i))] [(.int (Int32.ofNat en)), (.int (Int32.ofNat i))])
      refine own_via (fun t => XS.icmpNo X.here hx rfl (hb hby d4_4) rfl (tlt ((own_lt (by omega) (by omega)).mpr (show i < en by omega))).2.1) ?_
      show own_E _ _ _ _ _ _ _ T (mkF m 7 #[.val (.ref x), .val (.int (Int32.ofNat st)), .val (.int (Int32.ofNat en)), .val (.int (Int32.ofNat i))] [])
      refine own_via (fun t => XS.aloadN X.here hx rfl (hb hby d4_7) rfl rfl) ?_
      show own_E _ _ _ _ _ _ _ T (mkF m 8 #[.val (.ref x), .val (.int (Int32.ofNat st)), .val (.int (Int32.ofNat en)), .val (.int (Int32.ofNat i))] [(.ref x)])
      refine own_via (fun t => XS.iloadN X.here hx rfl (hb hby d4_8) rfl) ?_
      show own_E _ _ _ _ _ _ _ T (mkF m 9 #[.val (.ref x), .val (.int (Int32.ofNat st)), .val (.int (Int32.ofNat en)), .val (.int (Int32.ofNat i))] [(.int (Int32.ofNat i)), (.ref x)])
      obtain ⟨cq10, kq10, q10a, q10b, q10c⟩ := isOf hZ eT tE
      obtain ⟨_, _, ⟨T10, L10, k10, n10⟩, -, X10, ⟨Lc10, hQ10, l10, y10, z10⟩, st10⟩ := X.interfaceBack hx (xi := (⟨"java/lang/CharSequence", "charAt", "(I)C"⟩ : MethodName)) (y := (⟨"java/lang/String", "charAt", "(I)C"⟩ : MethodName)) hown (mvT hZ (hw _ (List.mem_of_getElem? (i := 40) rfl))) (mvT hZ (hw _ (List.mem_of_getElem? (i := 41) rfl))) (mvT hZ (hw _ (List.mem_of_getElem? (i := 42) rfl))) (mvT hZ (hw _ (List.mem_of_getElem? (i := 43) rfl))) (mvT hZ (hw _ (List.mem_of_getElem? (i := 44) rfl))) (mvT hZ (hw _ (List.mem_of_getElem? (i := 45) rfl))) (mvT hZ (hw _ (List.mem_of_getElem? (i := 46) rfl))) (mvT hZ (hw _ (List.mem_of_getElem? (i := 47) rfl))) (by decide) (W := 0) (StrChars.Road.chN hZ (own_wch hw) (kI := 4) (hw _ (List.mem_of_getElem? (i := 9) rfl)) tE tV tC tK (StrChars.Road.codOf (own_len f) (own_b8 hf)) (own_b16 hf) CX.1 CX.2.1 CX.2.2.1 CX.2.2.2 (by rw [own_len]; decide) (i := i) (by rw [own_len]; omega) rfl (by decide) (by decide)) q10a q10b q10c (g := (mkF m 9 #[.val (.ref x), .val (.int (Int32.ofNat st)), .val (.int (Int32.ofNat en)), .val (.int (Int32.ofNat i))] [(.int (Int32.ofNat i)), (.ref x)])) rfl (by rw [hml]; rfl) (Steps.refl _) (argsL := [(.int (Int32.ofNat i))]) (rest := []) (lenOf pd_ch rfl) rfl (by show 2 * 0 + _ ≤ _; exact Nat.le_of_eq rfl) (hb hby d4_9) (fun _ _ => ⟨rfl, eT, (by decide : 0 + 0 ≤ _), (by decide : 0 + 0 ≤ _)⟩)
      dsimp only [Pt.U, Pt.locs, Pt.cells, Pt.slots] at X10 l10 y10 z10 st10 hQ10
      subst l10 y10 z10
      obtain ⟨rfl, rfl, e10⟩ := hQ10
      refine own_thru st10 ?_
      show own_E _ _ _ _ _ _ _ T10 (mkF m 14 #[.val (.ref x), .val (.int (Int32.ofNat st)), .val (.int (Int32.ofNat en)), .val (.int (Int32.ofNat i))] [(.int (((List.range 24).map f).getD i 0))])
      rw [own_getD (show i < 24 from by omega)]
      show own_E _ _ _ _ _ _ _ T10 (mkF m 14 #[.val (.ref x), .val (.int (Int32.ofNat st)), .val (.int (Int32.ofNat en)), .val (.int (Int32.ofNat i))] [(.int (f i))])
      obtain ⟨d, hd1, hd2⟩ := G6 i hlo (by omega) (by omega)
      refine own_via (fun t => XS.bipush X10.here hx rfl (hb hby d4_14)) ?_
      show own_E _ _ _ _ _ _ _ T10 (mkF m 16 #[.val (.ref x), .val (.int (Int32.ofNat st)), .val (.int (Int32.ofNat en)), .val (.int (Int32.ofNat i))] [(.int (44 : Int32)), (.int (f i))])
      refine own_via (fun t => XS.icmpNo X10.here hx rfl (hb hby d4_16) rfl (feq (by rw [hd2]; exact own_d_44 hd1)).1) ?_
      show own_E _ _ _ _ _ _ _ T10 (mkF m 19 #[.val (.ref x), .val (.int (Int32.ofNat st)), .val (.int (Int32.ofNat en)), .val (.int (Int32.ofNat i))] [])
      refine own_via (fun t => XS.iinc X10.here hx rfl (hb hby d4_19) rfl (l' := #[.val (.ref x), .val (.int (Int32.ofNat st)), .val (.int (Int32.ofNat en)), .val (.int ((Int32.ofNat i) + (1 : Int32)))]) rfl) ?_
      show own_E _ _ _ _ _ _ _ T10 (mkF m 22 #[.val (.ref x), .val (.int (Int32.ofNat st)), .val (.int (Int32.ofNat en)), .val (.int ((Int32.ofNat i) + (1 : Int32)))] [])
      refine own_via (fun t => XS.goto X10.here hx rfl (pc0 := 22) (pc' := 2) rfl (hb hby d4_22) (by decide) (by decide)) ?_
      show own_E _ _ _ _ _ _ _ T10 (mkF m 2 #[.val (.ref x), .val (.int (Int32.ofNat st)), .val (.int (Int32.ofNat en)), .val (.int ((Int32.ofNat i) + (1 : Int32)))] [])
      rw [own_one]
      exact ih (i + 1) (by omega) (by omega) _ _ X10 e10 (Fr.app NN (Fr.nil _))
  show own_E _ _ _ _ _ _ _ s₁ (mkF m 0 #[.val (.ref x), .val (.int (Int32.ofNat st)), .val (.int (Int32.ofNat en)), .unset] [])
  refine own_via (fun t => XS.iloadN X0.here hx rfl (hb hby d4_0) rfl) ?_
  show own_E _ _ _ _ _ _ _ s₁ (mkF m 1 #[.val (.ref x), .val (.int (Int32.ofNat st)), .val (.int (Int32.ofNat en)), .unset] [(.int (Int32.ofNat st))])
  refine own_via (fun t => XS.istoreN X0.here hx rfl (hb hby d4_1) rfl (l' := #[.val (.ref x), .val (.int (Int32.ofNat st)), .val (.int (Int32.ofNat en)), .val (.int (Int32.ofNat st))]) rfl) ?_
  show own_E _ _ _ _ _ _ _ s₁ (mkF m 2 #[.val (.ref x), .val (.int (Int32.ofNat st)), .val (.int (Int32.ofNat en)), .val (.int (Int32.ofNat st))] [])
  exact loop (en - 3 - st) st (by omega) (Nat.le_refl _) _ _ X0 e0 N0
theorem d5_0 : decode prog_133_method_6_code 0 = .ok (.lconst 0, 1) := by decide +kernel
theorem d5_1 : decode prog_133_method_6_code 1 = .ok (.lstore 4, 2) := by decide +kernel
theorem d5_3 : decode prog_133_method_6_code 3 = .ok (.iload_n 1, 1) := by decide +kernel
theorem d5_4 : decode prog_133_method_6_code 4 = .ok (.istore 6, 2) := by decide +kernel
theorem d5_6 : decode prog_133_method_6_code 6 = .ok (.iload 6, 2) := by decide +kernel
theorem d5_8 : decode prog_133_method_6_code 8 = .ok (.iload_n 2, 1) := by decide +kernel
theorem d5_9 : decode prog_133_method_6_code 9 = .ok (.if_icmp .ge 37, 3) := by decide +kernel
theorem d5_12 : decode prog_133_method_6_code 12 = .ok (.iload 6, 2) := by decide +kernel
theorem d5_14 : decode prog_133_method_6_code 14 = .ok (.iload_n 3, 1) := by decide +kernel
theorem d5_15 : decode prog_133_method_6_code 15 = .ok (.if_icmp .eq 25, 3) := by decide +kernel
theorem d5_18 : decode prog_133_method_6_code 18 = .ok (.lload 4, 2) := by decide +kernel
theorem d5_20 : decode prog_133_method_6_code 20 = .ok (.ldc2_w 32, 3) := by decide +kernel
theorem d5_23 : decode prog_133_method_6_code 23 = .ok (.lmul, 1) := by decide +kernel
theorem d5_24 : decode prog_133_method_6_code 24 = .ok (.aload_n 0, 1) := by decide +kernel
theorem d5_25 : decode prog_133_method_6_code 25 = .ok (.iload 6, 2) := by decide +kernel
theorem d5_27 : decode prog_133_method_6_code 27 = .ok (.invokeinterface 7 2, 5) := by decide +kernel
theorem d5_32 : decode prog_133_method_6_code 32 = .ok (.i2l, 1) := by decide +kernel
theorem d5_33 : decode prog_133_method_6_code 33 = .ok (.ladd, 1) := by decide +kernel
theorem d5_34 : decode prog_133_method_6_code 34 = .ok (.ldc2_w 34, 3) := by decide +kernel
theorem d5_37 : decode prog_133_method_6_code 37 = .ok (.lsub, 1) := by decide +kernel
theorem d5_38 : decode prog_133_method_6_code 38 = .ok (.lstore 4, 2) := by decide +kernel
theorem d5_40 : decode prog_133_method_6_code 40 = .ok (.iinc 6 1, 3) := by decide +kernel
theorem d5_43 : decode prog_133_method_6_code 43 = .ok (.goto (-37), 3) := by decide +kernel
theorem d5_46 : decode prog_133_method_6_code 46 = .ok (.iload_n 2, 1) := by decide +kernel
theorem d5_47 : decode prog_133_method_6_code 47 = .ok (.iload_n 3, 1) := by decide +kernel
theorem d5_48 : decode prog_133_method_6_code 48 = .ok (.isub, 1) := by decide +kernel
theorem d5_49 : decode prog_133_method_6_code 49 = .ok (.iconst 1, 1) := by decide +kernel
theorem d5_50 : decode prog_133_method_6_code 50 = .ok (.isub, 1) := by decide +kernel
theorem d5_51 : decode prog_133_method_6_code 51 = .ok (.istore 6, 2) := by decide +kernel
theorem d5_53 : decode prog_133_method_6_code 53 = .ok (.iload 6, 2) := by decide +kernel
theorem d5_55 : decode prog_133_method_6_code 55 = .ok (.iconst 2, 1) := by decide +kernel
theorem d5_56 : decode prog_133_method_6_code 56 = .ok (.if_icmp .ge 17, 3) := by decide +kernel
theorem d5_59 : decode prog_133_method_6_code 59 = .ok (.lload 4, 2) := by decide +kernel
theorem d5_61 : decode prog_133_method_6_code 61 = .ok (.ldc2_w 32, 3) := by decide +kernel
theorem d5_64 : decode prog_133_method_6_code 64 = .ok (.lmul, 1) := by decide +kernel
theorem d5_65 : decode prog_133_method_6_code 65 = .ok (.lstore 4, 2) := by decide +kernel
theorem d5_67 : decode prog_133_method_6_code 67 = .ok (.iinc 6 1, 3) := by decide +kernel
theorem d5_70 : decode prog_133_method_6_code 70 = .ok (.goto (-17), 3) := by decide +kernel
theorem d5_73 : decode prog_133_method_6_code 73 = .ok (.lload 4, 2) := by decide +kernel
theorem d5_75 : decode prog_133_method_6_code 75 = .ok (.lreturn, 1) := by decide +kernel
theorem pn_5 : plainName "com/example/poruka/poruka/rules/Amounts" = true := by first | (simp [plainName, overriddenIn]; done) | decide +kernel
theorem ef_5 (m : MethodId) (x0 : Addr) (x1 : Int32) (x2 : Int32) (x3 : Int32) : entryFrame m #[(.ref x0), (.int x1), (.int x2), (.int x3)] 7 = mkF m 0 #[.val (.ref x0), .val (.int x1), .val (.int x2), .val (.int x3), .unset, .unset, .unset] [] := by first | (simp [entryFrame, mkF, argsToLocals, Value.category]; done) | rfl
theorem pd_5 : parseMethodDescriptor "(Ljava/lang/CharSequence;III)J" = some ⟨[.object "java/lang/CharSequence", .int, .int, .int], some .long⟩ := by decide +kernel
def QL (r : Int64) (h0 : Heap) (n0 : Nat) (v : Option Value) (h : Heap) (L : List Loc) : Prop := v = some (.long r) ∧ Fr n0 L ∧ h = h0
theorem own_ch64' : ∀ d : Fin 10, (Int32.ofNat (48 + d.1)).toInt64 = Int64.ofNat d.1 + 48 := by decide +kernel
theorem own_acc {acc d : Nat} (h : d < 10) : Int64.ofNat acc * (10 : Int64) + (Int32.ofNat (48 + d)).toInt64 - (48 : Int64) = Int64.ofNat (acc * 10 + d) := by
  rw [own_ch64' ⟨d, h⟩, Int64.ofNat_add, Int64.ofNat_mul, ← Int64.add_assoc, Int64.add_sub_cancel]; rfl
set_option maxRecDepth 65536 in
set_option maxHeartbeats 40000000 in
theorem rm5 (l : Launch) (Z : State) (a0 : Array Value) (hw : ∀ d ∈ tables_1, d.before a0 Z = true) (ws : List Jvm.Cond) (x : Addr) (f : Nat → Int32) (z : Int32) (fm : Value) (hf : ∀ i, i < 24 → ¬ f i < 0 ∧ ¬ (255 : Int32) < f i) (N en st : Nat) (he1 : 20 ≤ en) (he2 : en ≤ 23) (G : own_G N en st f) (h0 : Heap) (n0 : Nat) (Z0 : n0 ≤ h0.size) (TX : own_Tx Z h0 x ((List.range 24).map f)) (CX : own_Cx Z h0 z fm) :
    MetFree l (⟨"com/example/poruka/poruka/rules/Amounts", "hundredths", "(Ljava/lang/CharSequence;III)J"⟩ : MethodName) (head1 (Jvm.Cond.code (⟨"com/example/poruka/poruka/rules/Amounts", "hundredths", "(Ljava/lang/CharSequence;III)J"⟩ : MethodName) prog_133_method_6_code 7 (some .long) :: ws) ({ frames := 4, cells := 0, slots := 0, locals := 56 } : Room)) (fun a U => a = #[(.ref x), (.int (Int32.ofNat st)), (.int (Int32.ofNat en)), (.int (Int32.ofNat (en - 3)))] ∧ Z.Warmed39 U.vm ∧ U.heap = h0) (fun _ _ _ _ _ => True) (fun _ U o U' => ∃ v L, o = .returned v ∧ QL (Int64.ofNat N) h0 n0 v U'.heap L ∧ FrameEnd U o U' L ({ frames := 4, cells := 0, slots := 0, locals := 56 } : Room).cells ({ frames := 4, cells := 0, slots := 0, locals := 56 } : Room).slots) := by
  refine MetFree.of_bodySF (plainFor_of_name pn_5) hisR ?_
  intro p e s m args below meth c s₁ Bd hml0 hP hK
  obtain ⟨rfl, hZ, hh⟩ := hP
  have hx := Bd.exec
  have hby := Bd.bytes
  have hlk := Bd.notSynchronized
  have hml : c.maxLocals = 7 := hml0
  have hown : s.vm.findClass "com/example/poruka/poruka/rules/Amounts" = some m.cls := findClass_of_methodNamed Bd.named
  have hnm := (name_of_methodNamed Bd.named Bd.method).1
  have X0 : Stand p l e ({ frames := 4, cells := 0, slots := 0, locals := 56 } : Room) s m #[(.ref x), (.int (Int32.ofNat st)), (.int (Int32.ofNat en)), (.int (Int32.ofNat (en - 3)))] below meth c s₁ [] 0 0 := Stand.of_body Bd
  have e0 : s₁.heap = h0 := by rw [← hh, Bd.state]; rfl
  have N0 := Fr.nil n0
  show own_E p e below s (QL (Int64.ofNat N) h0 n0) _ _ s₁ (entryFrame m #[(.ref x), (.int (Int32.ofNat st)), (.int (Int32.ofNat en)), (.int (Int32.ofNat (en - 3)))] 7)
  rw [ef_5]
  obtain ⟨tb, tk, tE, tV, tC, tK⟩ := TX
  obtain ⟨G1, G2, G3, G4, G5, G6, G7, G8⟩ := G
  have loop : ∀ (k i acc : Nat), i + k = en → st ≤ i → own_rd f (en - 3) i k acc = N → ∀ (T : State) (locs : List Loc) (X : Stand p l e ({ frames := 4, cells := 0, slots := 0, locals := 56 } : Room) s m #[(.ref x), (.int (Int32.ofNat st)), (.int (Int32.ofNat en)), (.int (Int32.ofNat (en - 3)))] below meth c T locs 0 0) (eT : T.heap = h0) (NN : Fr n0 locs), own_E p e below s (QL (Int64.ofNat N) h0 n0) 0 0 T (mkF m 6 #[.val (.ref x), .val (.int (Int32.ofNat st)), .val (.int (Int32.ofNat en)), .val (.int (Int32.ofNat (en - 3))), .val (.long (Int64.ofNat acc)), .second, .val (.int (Int32.ofNat i))] []) := by
    intro k
    induction k with
    | zero =>
      intro i acc hi hlo hr T locs X eT NN
      show own_E _ _ _ _ _ _ _ T (mkF m 6 #[.val (.ref x), .val (.int (Int32.ofNat st)), .val (.int (Int32.ofNat en)), .val (.int (Int32.ofNat (en - 3))), .val (.long (Int64.ofNat acc)), .second, .val (.int (Int32.ofNat i))] [])
      refine own_via (fun t => XS.iload X.here hx rfl (hb hby d5_6) rfl) ?_
      show own_E _ _ _ _ _ _ _ T (mkF m 8 #[.val (.ref x), .val (.int (Int32.ofNat st)), .val (.int (Int32.ofNat en)), .val (.int (Int32.ofNat (en - 3))), .val (.long (Int64.ofNat acc)), .second, .val (.int (Int32.ofNat i))] [(.int (Int32.ofNat i))])
      refine own_via (fun t => XS.iloadN X.here hx rfl (hb hby d5_8) rfl) ?_
      show own_E _ _ _ _ _ _ _ T (mkF m 9 #[.val (.ref x), .val (.int (Int32.ofNat st)), .val (.int (Int32.ofNat en)), .val (.int (Int32.ofNat (en - 3))), .val (.long (Int64.ofNat acc)), .second, .val (.int (Int32.ofNat i))] [(.int (Int32.ofNat en)), (.int (Int32.ofNat i))])
      refine own_via (fun t => XS.icmpYes X.here hx rfl (pc0 := 9) (pc' := 46) rfl (hb hby d5_9) rfl (flt (fun q => by rw [own_lt (by omega) (by omega)] at q; omega)).2.1 (by decide) (by decide)) ?_
      show own_E _ _ _ _ _ _ _ T (mkF m 46 #[.val (.ref x), .val (.int (Int32.ofNat st)), .val (.int (Int32.ofNat en)), .val (.int (Int32.ofNat (en - 3))), .val (.long (Int64.ofNat acc)), .second, .val (.int (Int32.ofNat i))] [])
      refine own_via (fun t => XS.iloadN X.here hx rfl (hb hby d5_46) rfl) ?_
      show own_E _ _ _ _ _ _ _ T (mkF m 47 #[.val (.ref x), .val (.int (Int32.ofNat st)), .val (.int (Int32.ofNat en)), .val (.int (Int32.ofNat (en - 3))), .val (.long (Int64.ofNat acc)), .second, .val (.int (Int32.ofNat i))] [(.int (Int32.ofNat en))])
      refine own_via (fun t => XS.iloadN X.here hx rfl (hb hby d5_47) rfl) ?_
      show own_E _ _ _ _ _ _ _ T (mkF m 48 #[.val (.ref x), .val (.int (Int32.ofNat st)), .val (.int (Int32.ofNat en)), .val (.int (Int32.ofNat (en - 3))), .val (.long (Int64.ofNat acc)), .second, .val (.int (Int32.ofNat i))] [(.int (Int32.ofNat (en - 3))), (.int (Int32.ofNat en))])
      refine own_via (fun t => XS.isub X.here hx rfl (hb hby d5_48) rfl) ?_
      show own_E _ _ _ _ _ _ _ T (mkF m 49 #[.val (.ref x), .val (.int (Int32.ofNat st)), .val (.int (Int32.ofNat en)), .val (.int (Int32.ofNat (en - 3))), .val (.long (Int64.ofNat acc)), .second, .val (.int (Int32.ofNat i))] [(.int ((Int32.ofNat en) - (Int32.ofNat (en - 3))))])
      refine own_via (fun t => XS.iconst X.here hx rfl (hb hby d5_49)) ?_
      show own_E _ _ _ _ _ _ _ T (mkF m 50 #[.val (.ref x), .val (.int (Int32.ofNat st)), .val (.int (Int32.ofNat en)), .val (.int (Int32.ofNat (en - 3))), .val (.long (Int64.ofNat acc)), .second, .val (.int (Int32.ofNat i))] [(.int (1 : Int32)), (.int ((Int32.ofNat en) - (Int32.ofNat (en - 3))))])
      refine own_via (fun t => XS.isub X.here hx rfl (hb hby d5_50) rfl) ?_
      show own_E _ _ _ _ _ _ _ T (mkF m 51 #[.val (.ref x), .val (.int (Int32.ofNat st)), .val (.int (Int32.ofNat en)), .val (.int (Int32.ofNat (en - 3))), .val (.long (Int64.ofNat acc)), .second, .val (.int (Int32.ofNat i))] [(.int (((Int32.ofNat en) - (Int32.ofNat (en - 3))) - (1 : Int32)))])
      rw [own_sub (n := en) (k := en - 3) (by omega) (by omega), show en - (en - 3) = 3 from by omega, show Int32.ofNat 3 - (1 : Int32) = 2 from by decide]
      show own_E _ _ _ _ _ _ _ T (mkF m 51 #[.val (.ref x), .val (.int (Int32.ofNat st)), .val (.int (Int32.ofNat en)), .val (.int (Int32.ofNat (en - 3))), .val (.long (Int64.ofNat acc)), .second, .val (.int (Int32.ofNat i))] [(.int (2 : Int32))])
      refine own_via (fun t => XS.istore X.here hx rfl (hb hby d5_51) rfl (l' := #[.val (.ref x), .val (.int (Int32.ofNat st)), .val (.int (Int32.ofNat en)), .val (.int (Int32.ofNat (en - 3))), .val (.long (Int64.ofNat acc)), .second, .val (.int (2 : Int32))]) rfl) ?_
      show own_E _ _ _ _ _ _ _ T (mkF m 53 #[.val (.ref x), .val (.int (Int32.ofNat st)), .val (.int (Int32.ofNat en)), .val (.int (Int32.ofNat (en - 3))), .val (.long (Int64.ofNat acc)), .second, .val (.int (2 : Int32))] [])
      refine own_via (fun t => XS.iload X.here hx rfl (hb hby d5_53) rfl) ?_
      show own_E _ _ _ _ _ _ _ T (mkF m 55 #[.val (.ref x), .val (.int (Int32.ofNat st)), .val (.int (Int32.ofNat en)), .val (.int (Int32.ofNat (en - 3))), .val (.long (Int64.ofNat acc)), .second, .val (.int (2 : Int32))] [(.int (2 : Int32))])
      refine own_via (fun t => XS.iconst X.here hx rfl (hb hby d5_55)) ?_
      show own_E _ _ _ _ _ _ _ T (mkF m 56 #[.val (.ref x), .val (.int (Int32.ofNat st)), .val (.int (Int32.ofNat en)), .val (.int (Int32.ofNat (en - 3))), .val (.long (Int64.ofNat acc)), .second, .val (.int (2 : Int32))] [(.int (2 : Int32)), (.int (2 : Int32))])
      refine own_via (fun t => XS.icmpYes X.here hx rfl (pc0 := 56) (pc' := 73) rfl (hb hby d5_56) rfl (flt (by decide : ¬ ((2 : Int32) < (2 : Int32)))).2.1 (by decide) (by decide)) ?_
      show own_E _ _ _ _ _ _ _ T (mkF m 73 #[.val (.ref x), .val (.int (Int32.ofNat st)), .val (.int (Int32.ofNat en)), .val (.int (Int32.ofNat (en - 3))), .val (.long (Int64.ofNat acc)), .second, .val (.int (2 : Int32))] [])
      refine own_via (fun t => XS.lload X.here hx rfl (hb hby d5_73) rfl) ?_
      show own_E _ _ _ _ _ _ _ T (mkF m 75 #[.val (.ref x), .val (.int (Int32.ofNat st)), .val (.int (Int32.ofNat en)), .val (.int (Int32.ofNat (en - 3))), .val (.long (Int64.ofNat acc)), .second, .val (.int (2 : Int32))] [(.long (Int64.ofNat acc))])
      exact own_ret X hx hlk Bd.returns rfl (Or.inr (Or.inl ⟨rfl, rfl, _, rfl⟩)) (hb hby d5_75) (Nat.le_refl _) (Nat.le_refl _) ⟨by rw [show acc = N from hr], NN, eT⟩
    | succ k ih =>
      intro i acc hi hlo hr T locs X eT NN
      show own_E _ _ _ _ _ _ _ T (mkF m 6 #[.val (.ref x), .val (.int (Int32.ofNat st)), .val (.int (Int32.ofNat en)), .val (.int (Int32.ofNat (en - 3))), .val (.long (Int64.ofNat acc)), .second, .val (.int (Int32.ofNat i))] [])
      refine own_via (fun t => XS.iload X.here hx rfl (hb hby d5_6) rfl) ?_
      show own_E _ _ _ _ _ _ _ T (mkF m 8 #[.val (.ref x), .val (.int (Int32.ofNat st)), .val (.int (Int32.ofNat en)), .val (.int (Int32.ofNat (en - 3))), .val (.long (Int64.ofNat acc)), .second, .val (.int (Int32.ofNat i))] [(.int (Int32.ofNat i))])
      refine own_via (fun t => XS.iloadN X.here hx rfl (hb hby d5_8) rfl) ?_
      show own_E _ _ _ _ _ _ _ T (mkF m 9 #[.val (.ref x), .val (.int (Int32.ofNat st)), .val (.int (Int32.ofNat en)), .val (.int (Int32.ofNat (en - 3))), .val (.long (Int64.ofNat acc)), .second, .val (.int (Int32.ofNat i))] [(.int (Int32.ofNat en)), (.int (Int32.ofNat i))])
      refine own_via (fun t => XS.icmpNo X.here hx rfl (hb hby d5_9) rfl (tlt ((own_lt (by omega) (by omega)).mpr (show i < en by omega))).2.1) ?_
      show own_E _ _ _ _ _ _ _ T (mkF m 12 #[.val (.ref x), .val (.int (Int32.ofNat st)), .val (.int (Int32.ofNat en)), .val (.int (Int32.ofNat (en - 3))), .val (.long (Int64.ofNat acc)), .second, .val (.int (Int32.ofNat i))] [])
      refine own_via (fun t => XS.iload X.here hx rfl (hb hby d5_12) rfl) ?_
      show own_E _ _ _ _ _ _ _ T (mkF m 14 #[.val (.ref x), .val (.int (Int32.ofNat st)), .val (.int (Int32.ofNat en)), .val (.int (Int32.ofNat (en - 3))), .val (.long (Int64.ofNat acc)), .second, .val (.int (Int32.ofNat i))] [(.int (Int32.ofNat i))])
      refine own_via (fun t => XS.iloadN X.here hx rfl (hb hby d5_14) rfl) ?_
      show own_E _ _ _ _ _ _ _ T (mkF m 15 #[.val (.ref x), .val (.int (Int32.ofNat st)), .val (.int (Int32.ofNat en)), .val (.int (Int32.ofNat (en - 3))), .val (.long (Int64.ofNat acc)), .second, .val (.int (Int32.ofNat i))] [(.int (Int32.ofNat (en - 3))), (.int (Int32.ofNat i))])
      by_cases hc : i = en - 3
      · refine own_via (fun t => XS.icmpYes X.here hx rfl (pc0 := 15) (pc' := 40) rfl (hb hby d5_15) rfl (teq (by rw [hc])).1 (by decide) (by decide)) ?_
        show own_E _ _ _ _ _ _ _ T (mkF m 40 #[.val (.ref x), .val (.int (Int32.ofNat st)), .val (.int (Int32.ofNat en)), .val (.int (Int32.ofNat (en - 3))), .val (.long (Int64.ofNat acc)), .second, .val (.int (Int32.ofNat i))] [])
        refine own_via (fun t => XS.iinc X.here hx rfl (hb hby d5_40) rfl (l' := #[.val (.ref x), .val (.int (Int32.ofNat st)), .val (.int (Int32.ofNat en)), .val (.int (Int32.ofNat (en - 3))), .val (.long (Int64.ofNat acc)), .second, .val (.int ((Int32.ofNat i) + (1 : Int32)))]) rfl) ?_
        show own_E _ _ _ _ _ _ _ T (mkF m 43 #[.val (.ref x), .val (.int (Int32.ofNat st)), .val (.int (Int32.ofNat en)), .val (.int (Int32.ofNat (en - 3))), .val (.long (Int64.ofNat acc)), .second, .val (.int ((Int32.ofNat i) + (1 : Int32)))] [])
        refine own_via (fun t => XS.goto X.here hx rfl (pc0 := 43) (pc' := 6) rfl (hb hby d5_43) (by decide) (by decide)) ?_
        show own_E _ _ _ _ _ _ _ T (mkF m 6 #[.val (.ref x), .val (.int (Int32.ofNat st)), .val (.int (Int32.ofNat en)), .val (.int (Int32.ofNat (en - 3))), .val (.long (Int64.ofNat acc)), .second, .val (.int ((Int32.ofNat i) + (1 : Int32)))] [])
        rw [own_one]
        exact ih (i + 1) acc (by omega) (by omega) (by rw [← hr]; show _ = own_rd f (en - 3) (i + 1) k (if i = en - 3 then acc else _); rw [if_pos hc]) _ _ X eT NN
      · refine own_via (fun t => XS.icmpNo X.here hx rfl (hb hby d5_15) rfl (feq (fun q => by rw [own_eq (by omega) (by omega)] at q; exact hc q)).1) ?_
        show own_E _ _ _ _ _ _ _ T (mkF m 18 #[.val (.ref x), .val (.int (Int32.ofNat st)), .val (.int (Int32.ofNat en)), .val (.int (Int32.ofNat (en - 3))), .val (.long (Int64.ofNat acc)), .second, .val (.int (Int32.ofNat i))] [])
        refine own_via (fun t => XS.lload X.here hx rfl (hb hby d5_18) rfl) ?_
        show own_E _ _ _ _ _ _ _ T (mkF m 20 #[.val (.ref x), .val (.int (Int32.ofNat st)), .val (.int (Int32.ofNat en)), .val (.int (Int32.ofNat (en - 3))), .val (.long (Int64.ofNat acc)), .second, .val (.int (Int32.ofNat i))] [(.long (Int64.ofNat acc))])
        refine own_via (X.ldc2Long hx hown (mvT hZ (hw _ (List.mem_of_getElem? (i := 7) rfl))) (g := (mkF m 20 #[.val (.ref x), .val (.int (Int32.ofNat st)), .val (.int (Int32.ofNat en)), .val (.int (Int32.ofNat (en - 3))), .val (.long (Int64.ofNat acc)), .second, .val (.int (Int32.ofNat i))] [(.long (Int64.ofNat acc))])) rfl (hb hby d5_20)) ?_
        show own_E _ _ _ _ _ _ _ T (mkF m 23 #[.val (.ref x), .val (.int (Int32.ofNat st)), .val (.int (Int32.ofNat en)), .val (.int (Int32.ofNat (en - 3))), .val (.long (Int64.ofNat acc)), .second, .val (.int (Int32.ofNat i))] [(.long (10 : Int64)), (.long (Int64.ofNat acc))])
        refine own_via (fun t => XS.lmul X.here hx rfl (hb hby d5_23) rfl) ?_
        show own_E _ _ _ _ _ _ _ T (mkF m 24 #[.val (.ref x), .val (.int (Int32.ofNat st)), .val (.int (Int32.ofNat en)), .val (.int (Int32.ofNat (en - 3))), .val (.long (Int64.ofNat acc)), .second, .val (.int (Int32.ofNat i))] [(.long ((Int64.ofNat acc) * (10 : Int64)))])
        refine own_via (fun t => XS.aloadN X.here hx rfl (hb hby d5_24) rfl rfl) ?_
        show own_E _ _ _ _ _ _ _ T (mkF m 25 #[.val (.ref x), .val (.int (Int32.ofNat st)), .val (.int (Int32.ofNat en)), .val (.int (Int32.ofNat (en - 3))), .val (.long (Int64.ofNat acc)), .second, .val (.int (Int32.ofNat i))] [(.ref x), (.long ((Int64.ofNat acc) * (10 : Int64)))])
        refine own_via (fun t => XS.iload X.here hx rfl (hb hby d5_25) rfl) ?_
        show own_E _ _ _ _ _ _ _ T (mkF m 27 #[.val (.ref x), .val (.int (Int32.ofNat st)), .val (.int (Int32.ofNat en)), .val (.int (Int32.ofNat (en - 3))), .val (.long (Int64.ofNat acc)), .second, .val (.int (Int32.ofNat i))] [(.int (Int32.ofNat i)), (.ref x), (.long ((Int64.ofNat acc) * (10 : Int64)))])
        obtain ⟨cq11, kq11, q11a, q11b, q11c⟩ := isOf hZ eT tE
        obtain ⟨_, _, ⟨T11, L11, k11, n11⟩, -, X11, ⟨Lc11, hQ11, l11, y11, z11⟩, st11⟩ := X.interfaceBack hx (xi := (⟨"java/lang/CharSequence", "charAt", "(I)C"⟩ : MethodName)) (y := (⟨"java/lang/String", "charAt", "(I)C"⟩ : MethodName)) hown (mvT hZ (hw _ (List.mem_of_getElem? (i := 40) rfl))) (mvT hZ (hw _ (List.mem_of_getElem? (i := 41) rfl))) (mvT hZ (hw _ (List.mem_of_getElem? (i := 42) rfl))) (mvT hZ (hw _ (List.mem_of_getElem? (i := 43) rfl))) (mvT hZ (hw _ (List.mem_of_getElem? (i := 44) rfl))) (mvT hZ (hw _ (List.mem_of_getElem? (i := 45) rfl))) (mvT hZ (hw _ (List.mem_of_getElem? (i := 46) rfl))) (mvT hZ (hw _ (List.mem_of_getElem? (i := 47) rfl))) (by decide) (W := 2) (StrChars.Road.chN hZ (own_wch hw) (kI := 4) (hw _ (List.mem_of_getElem? (i := 9) rfl)) tE tV tC tK (StrChars.Road.codOf (own_len f) (own_b8 hf)) (own_b16 hf) CX.1 CX.2.1 CX.2.2.1 CX.2.2.2 (by rw [own_len]; decide) (i := i) (by rw [own_len]; omega) rfl (by decide) (by decide)) q11a q11b q11c (g := (mkF m 27 #[.val (.ref x), .val (.int (Int32.ofNat st)), .val (.int (Int32.ofNat en)), .val (.int (Int32.ofNat (en - 3))), .val (.long (Int64.ofNat acc)), .second, .val (.int (Int32.ofNat i))] [(.int (Int32.ofNat i)), (.ref x), (.long ((Int64.ofNat acc) * (10 : Int64)))])) rfl (by rw [hml]; rfl) (Steps.refl _) (argsL := [(.int (Int32.ofNat i))]) (rest := [(.long ((Int64.ofNat acc) * (10 : Int64)))]) (lenOf pd_ch rfl) rfl (by show 2 * 0 + _ ≤ _; exact Nat.le_of_eq rfl) (hb hby d5_27) (fun _ _ => ⟨rfl, eT, (by decide : 0 + 0 ≤ _), (by decide : 0 + 0 ≤ _)⟩)
        dsimp only [Pt.U, Pt.locs, Pt.cells, Pt.slots] at X11 l11 y11 z11 st11 hQ11
        subst l11 y11 z11
        obtain ⟨rfl, rfl, e11⟩ := hQ11
        refine own_thru st11 ?_
        show own_E _ _ _ _ _ _ _ T11 (mkF m 32 #[.val (.ref x), .val (.int (Int32.ofNat st)), .val (.int (Int32.ofNat en)), .val (.int (Int32.ofNat (en - 3))), .val (.long (Int64.ofNat acc)), .second, .val (.int (Int32.ofNat i))] [(.int (((List.range 24).map f).getD i 0)), (.long ((Int64.ofNat acc) * (10 : Int64)))])
        rw [own_getD (show i < 24 from by omega)]
        show own_E _ _ _ _ _ _ _ T11 (mkF m 32 #[.val (.ref x), .val (.int (Int32.ofNat st)), .val (.int (Int32.ofNat en)), .val (.int (Int32.ofNat (en - 3))), .val (.long (Int64.ofNat acc)), .second, .val (.int (Int32.ofNat i))] [(.int (f i)), (.long ((Int64.ofNat acc) * (10 : Int64)))])
        obtain ⟨d, hd1, hd2⟩ := G6 i hlo (by omega) hc
        have hd3 : own_dg (f i) = d := by rw [hd2]; exact own_dg_of hd1
        rw [hd2]
        show own_E _ _ _ _ _ _ _ T11 (mkF m 32 #[.val (.ref x), .val (.int (Int32.ofNat st)), .val (.int (Int32.ofNat en)), .val (.int (Int32.ofNat (en - 3))), .val (.long (Int64.ofNat acc)), .second, .val (.int (Int32.ofNat i))] [(.int (Int32.ofNat (48 + d))), (.long ((Int64.ofNat acc) * (10 : Int64)))])
        refine own_via (fun t => XS.i2l X11.here hx rfl (hb hby d5_32) rfl) ?_
        show own_E _ _ _ _ _ _ _ T11 (mkF m 33 #[.val (.ref x), .val (.int (Int32.ofNat st)), .val (.int (Int32.ofNat en)), .val (.int (Int32.ofNat (en - 3))), .val (.long (Int64.ofNat acc)), .second, .val (.int (Int32.ofNat i))] [(.long (Int32.ofNat (48 + d)).toInt64), (.long ((Int64.ofNat acc) * (10 : Int64)))])
        refine own_via (fun t => XS.ladd X11.here hx rfl (hb hby d5_33) rfl) ?_
        show own_E _ _ _ _ _ _ _ T11 (mkF m 34 #[.val (.ref x), .val (.int (Int32.ofNat st)), .val (.int (Int32.ofNat en)), .val (.int (Int32.ofNat (en - 3))), .val (.long (Int64.ofNat acc)), .second, .val (.int (Int32.ofNat i))] [(.long (((Int64.ofNat acc) * (10 : Int64)) + (Int32.ofNat (48 + d)).toInt64))])
        refine own_via (X11.ldc2Long hx hown (mvT hZ (hw _ (List.mem_of_getElem? (i := 6) rfl))) (g := (mkF m 34 #[.val (.ref x), .val (.int (Int32.ofNat st)), .val (.int (Int32.ofNat en)), .val (.int (Int32.ofNat (en - 3))), .val (.long (Int64.ofNat acc)), .second, .val (.int (Int32.ofNat i))] [(.long (((Int64.ofNat acc) * (10 : Int64)) + (Int32.ofNat (48 + d)).toInt64))])) rfl (hb hby d5_34)) ?_
        show own_E _ _ _ _ _ _ _ T11 (mkF m 37 #[.val (.ref x), .val (.int (Int32.ofNat st)), .val (.int (Int32.ofNat en)), .val (.int (Int32.ofNat (en - 3))), .val (.long (Int64.ofNat acc)), .second, .val (.int (Int32.ofNat i))] [(.long (48 : Int64)), (.long (((Int64.ofNat acc) * (10 : Int64)) + (Int32.ofNat (48 + d)).toInt64))])
        refine own_via (fun t => XS.lsub X11.here hx rfl (hb hby d5_37) rfl) ?_
        show own_E _ _ _ _ _ _ _ T11 (mkF m 38 #[.val (.ref x), .val (.int (Int32.ofNat st)), .val (.int (Int32.ofNat en)), .val (.int (Int32.ofNat (en - 3))), .val (.long (Int64.ofNat acc)), .second, .val (.int (Int32.ofNat i))] [(.long ((((Int64.ofNat acc) * (10 : Int64)) + (Int32.ofNat (48 + d)).toInt64) - (48 : Int64)))])
        rw [own_acc hd1]
        show own_E _ _ _ _ _ _ _ T11 (mkF m 38 #[.val (.ref x), .val (.int (Int32.ofNat st)), .val (.int (Int32.ofNat en)), .val (.int (Int32.ofNat (en - 3))), .val (.long (Int64.ofNat acc)), .second, .val (.int (Int32.ofNat i))] [(.long (Int64.ofNat (acc * 10 + d)))])
        refine own_via (fun t => XS.lstore X11.here hx rfl (hb hby d5_38) rfl (l' := #[.val (.ref x), .val (.int (Int32.ofNat st)), .val (.int (Int32.ofNat en)), .val (.int (Int32.ofNat (en - 3))), .val (.long (Int64.ofNat (acc * 10 + d))), .second, .val (.int (Int32.ofNat i))]) rfl) ?_
        show own_E _ _ _ _ _ _ _ T11 (mkF m 40 #[.val (.ref x), .val (.int (Int32.ofNat st)), .val (.int (Int32.ofNat en)), .val (.int (Int32.ofNat (en - 3))), .val (.long (Int64.ofNat (acc * 10 + d))), .second, .val (.int (Int32.ofNat i))] [])
        refine own_via (fun t => XS.iinc X11.here hx rfl (hb hby d5_40) rfl (l' := #[.val (.ref x), .val (.int (Int32.ofNat st)), .val (.int (Int32.ofNat en)), .val (.int (Int32.ofNat (en - 3))), .val (.long (Int64.ofNat (acc * 10 + d))), .second, .val (.int ((Int32.ofNat i) + (1 : Int32)))]) rfl) ?_
        show own_E _ _ _ _ _ _ _ T11 (mkF m 43 #[.val (.ref x), .val (.int (Int32.ofNat st)), .val (.int (Int32.ofNat en)), .val (.int (Int32.ofNat (en - 3))), .val (.long (Int64.ofNat (acc * 10 + d))), .second, .val (.int ((Int32.ofNat i) + (1 : Int32)))] [])
        refine own_via (fun t => XS.goto X11.here hx rfl (pc0 := 43) (pc' := 6) rfl (hb hby d5_43) (by decide) (by decide)) ?_
        show own_E _ _ _ _ _ _ _ T11 (mkF m 6 #[.val (.ref x), .val (.int (Int32.ofNat st)), .val (.int (Int32.ofNat en)), .val (.int (Int32.ofNat (en - 3))), .val (.long (Int64.ofNat (acc * 10 + d))), .second, .val (.int ((Int32.ofNat i) + (1 : Int32)))] [])
        rw [own_one]
        exact ih (i + 1) (acc * 10 + d) (by omega) (by omega) (by rw [← hr]; show _ = own_rd f (en - 3) (i + 1) k (if i = en - 3 then acc else acc * 10 + own_dg (f i)); rw [if_neg hc, hd3]) _ _ X11 e11 (Fr.app NN (Fr.nil _))
  show own_E _ _ _ _ _ _ _ s₁ (mkF m 0 #[.val (.ref x), .val (.int (Int32.ofNat st)), .val (.int (Int32.ofNat en)), .val (.int (Int32.ofNat (en - 3))), .unset, .unset, .unset] [])
  refine own_via (fun t => XS.lconst X0.here hx rfl (hb hby d5_0)) ?_
  show own_E _ _ _ _ _ _ _ s₁ (mkF m 1 #[.val (.ref x), .val (.int (Int32.ofNat st)), .val (.int (Int32.ofNat en)), .val (.int (Int32.ofNat (en - 3))), .unset, .unset, .unset] [(.long (0 : Int64))])
  refine own_via (fun t => XS.lstore X0.here hx rfl (hb hby d5_1) rfl (l' := #[.val (.ref x), .val (.int (Int32.ofNat st)), .val (.int (Int32.ofNat en)), .val (.int (Int32.ofNat (en - 3))), .val (.long (0 : Int64)), .second, .unset]) rfl) ?_
  show own_E _ _ _ _ _ _ _ s₁ (mkF m 3 #[.val (.ref x), .val (.int (Int32.ofNat st)), .val (.int (Int32.ofNat en)), .val (.int (Int32.ofNat (en - 3))), .val (.long (0 : Int64)), .second, .unset] [])
  refine own_via (fun t => XS.iloadN X0.here hx rfl (hb hby d5_3) rfl) ?_
  show own_E _ _ _ _ _ _ _ s₁ (mkF m 4 #[.val (.ref x), .val (.int (Int32.ofNat st)), .val (.int (Int32.ofNat en)), .val (.int (Int32.ofNat (en - 3))), .val (.long (0 : Int64)), .second, .unset] [(.int (Int32.ofNat st))])
  refine own_via (fun t => XS.istore X0.here hx rfl (hb hby d5_4) rfl (l' := #[.val (.ref x), .val (.int (Int32.ofNat st)), .val (.int (Int32.ofNat en)), .val (.int (Int32.ofNat (en - 3))), .val (.long (0 : Int64)), .second, .val (.int (Int32.ofNat st))]) rfl) ?_
  show own_E _ _ _ _ _ _ _ s₁ (mkF m 6 #[.val (.ref x), .val (.int (Int32.ofNat st)), .val (.int (Int32.ofNat en)), .val (.int (Int32.ofNat (en - 3))), .val (.long (0 : Int64)), .second, .val (.int (Int32.ofNat st))] [])
  exact loop (en - st) st 0 (by omega) (Nat.le_refl _) G7 _ _ X0 e0 N0
theorem pn_0 : plainName "com/example/poruka/poruka/rules/AmountsGetCharsPinLaw" = true := by first | (simp [plainName, overriddenIn]; done) | decide +kernel
theorem ef_0 (m : MethodId) (x0 : Int64) (x1 : Int32) (x2 : Int32) : entryFrame m #[(.long x0), (.int x1), (.int x2)] maxLocals = mkF m 0 #[.val (.long x0), .second, .val (.int x1), .val (.int x2), .unset, .unset, .unset, .unset, .unset, .unset] [] := by first | (simp [entryFrame, mkF, argsToLocals, Value.category, maxLocals]; done) | rfl
theorem own_shr (a : Int64) (s : Int32) : ∃ N : Nat, N < 9223372036854775808 ∧ own_ushrL (a &&& (9223372036854775807 : Int64)) s = Int64.ofNat N := by
  have h1 : (a &&& (9223372036854775807 : Int64)).toUInt64.toNat < 9223372036854775808 := by
    have h : (a &&& (9223372036854775807 : Int64)).toBitVec.toNat ≤ 9223372036854775807 := by
      rw [Int64.toBitVec_and, BitVec.toNat_and]; exact Nat.and_le_right
    exact Nat.lt_of_le_of_lt h (by decide)
  refine ⟨((a &&& (9223372036854775807 : Int64)).toUInt64 >>> (s &&& 0x3f).toInt64.toUInt64).toNat, ?_, ?_⟩
  · rw [UInt64.toNat_shiftRight]
    exact Nat.lt_of_le_of_lt (Nat.shiftRight_le _ _) h1
  · unfold own_ushrL
    generalize (a &&& (9223372036854775807 : Int64)).toUInt64 >>> (s &&& 0x3f).toInt64.toUInt64 = u
    apply Int64.toBitVec_inj.mp
    show u.toBitVec = BitVec.ofNat 64 u.toNat
    apply BitVec.eq_of_toNat_eq
    rw [BitVec.toNat_ofNat]
    exact (Nat.mod_eq_of_lt u.toNat_lt).symm
theorem own_m3 (x : Int32) : ∃ n : Nat, n < 4 ∧ (20 : Int32) + (x &&& (3 : Int32)) = Int32.ofNat (20 + n) := by
  refine ⟨(x &&& 3).toBitVec.toNat, ?_, ?_⟩
  · have : (x &&& 3).toBitVec.toNat ≤ 3 := by
      rw [Int32.toBitVec_and, BitVec.toNat_and]; exact Nat.and_le_right
    omega
  · rw [Int32.ofNat_add]
    congr 1
    apply Int32.toBitVec_inj.mp
    show _ = BitVec.ofNat 32 _
    rw [BitVec.ofNat_toNat]; simp
theorem own_small {N en st : Nat} {f : Nat → Int32} (G : own_G N en st f) (he2 : en ≤ 23) : ∀ i, i < 24 → ¬ f i < 0 ∧ ¬ (255 : Int32) < f i := fun i hi => by
  obtain ⟨G1, G2, G3, G4, G5, G6, G7, G8⟩ := G
  by_cases h1 : i < st
  · rw [G3 i h1]; decide
  · by_cases h2 : en ≤ i
    · rw [G4 i h2]; decide
    · by_cases h3 : i = en - 3
      · rw [h3, G5]; decide
      · obtain ⟨d, hd, e⟩ := G6 i (by omega) (by omega) h3
        rw [e]
        have e0 : (0 : Int32).toInt = 0 := by decide
        have e1 : (255 : Int32).toInt = 255 := by decide
        rw [Int32.lt_iff_toInt_lt, Int32.lt_iff_toInt_lt, own_num (by omega)]
        omega
theorem own_arv {Z : State} {h : Heap} {a : Addr} {f : Nat → Int32} (F : own_Ar Z h a .char 24 f) (hf : ∀ i, i < 24 → ¬ f i < 0 ∧ ¬ (255 : Int32) < f i) : ∃ k, Arv Z h a k .char (Int32.ofNat 24) (((List.range 24).map f).map Value.int) (.int 0) := by
  obtain ⟨cl, A, S, H⟩ := F
  have e : ∀ i, i < 24 → (((List.range 24).map f).map Value.int).getD i (.int 0) = .int (f i) := fun i hi => by simp [List.getD_eq_getElem?_getD, hi]
  refine ⟨cl.cls, cl, A, rfl, by rw [S]; rfl, by decide, fun k hk => by rw [H k (by omega), e k (by omega)], fun i hi => ?_⟩
  rw [e i (by omega)]
  have q := hf i (by omega)
  simp only [fits, Bool.and_eq_true, decide_eq_true_eq]
  refine ⟨Int32.not_lt.mp q.1, ?_⟩
  have q2 := q.2
  rw [Int32.lt_iff_toInt_lt] at q2
  rw [Int32.le_iff_toInt_le]
  have e1 : (65535 : Int32).toInt = 65535 := by decide
  have e2 : (255 : Int32).toInt = 255 := by decide
  omega
theorem own_ws {Z : State} {a0 : Array Value} (hw : ∀ d ∈ tables_1, d.before a0 Z = true) : ∀ d ∈ StrChars.Road.words, d.before a0 Z = true := fun d hd => hw d ((by decide +kernel : ∀ d ∈ StrChars.Road.words, d ∈ tables_1) d hd)
theorem pd_s : parseMethodDescriptor "([C)V" = some ⟨[.array .char], none⟩ := by decide +kernel
def Q0 (n0 : Nat) (v : Option Value) (h : Heap) (L : List Loc) : Prop := v = some (.int 1) ∧ Fr n0 L
set_option maxRecDepth 65536 in
set_option maxHeartbeats 40000000 in
theorem rm0 (l : Launch) (Z : State) (a0 : Array Value) (hw : ∀ d ∈ tables_1, d.before a0 Z = true) (ws : List Jvm.Cond) (p1 : Int64) (p2 p3 : Int32) (z : Int32) (fm : Value) (h0 : Heap) (n0 : Nat) (Z0 : n0 ≤ h0.size) (CX : own_Cx Z Z.heap z fm) (OO : Old Z n0 h0) :
    MetFree l x (head1 (Jvm.Cond.code x code maxLocals ret :: ws) room_1) (fun a U => a = #[(.long p1), (.int p2), (.int p3)] ∧ Z.Warmed39 U.vm ∧ U.heap = h0) (fun _ _ _ _ _ => True) (fun _ U o U' => ∃ v L, o = .returned v ∧ Q0 n0 v U'.heap L ∧ FrameEnd U o U' L 16 192) := by
  refine MetFree.of_bodySF (plainFor_of_name pn_0) hisR ?_
  intro p e s m args below meth c s₁ Bd hml0 hP hK
  obtain ⟨rfl, hZ, hh⟩ := hP
  have hx := Bd.exec
  have hby := Bd.bytes
  have hlk := Bd.notSynchronized
  have hml : c.maxLocals = 10 := hml0
  have hown : s.vm.findClass "com/example/poruka/poruka/rules/AmountsGetCharsPinLaw" = some m.cls := findClass_of_methodNamed Bd.named
  have hnm := (name_of_methodNamed Bd.named Bd.method).1
  have X0 : Stand p l e room_1 s m #[(.long p1), (.int p2), (.int p3)] below meth c s₁ [] 0 0 := Stand.of_body Bd
  have e0 : s₁.heap = h0 := by rw [← hh, Bd.state]; rfl
  have N0 := Fr.nil n0
  show own_E p e below s (Q0 n0) _ _ s₁ (entryFrame m #[(.long p1), (.int p2), (.int p3)] maxLocals)
  rw [ef_0]
  show own_E _ _ _ _ _ _ _ s₁ (mkF m 0 #[.val (.long p1), .second, .val (.int p2), .val (.int p3), .unset, .unset, .unset, .unset, .unset, .unset] [])
  refine own_via (fun t => XS.lloadN X0.here hx rfl (hb hby at_0) rfl) ?_
  show own_E _ _ _ _ _ _ _ s₁ (mkF m 1 #[.val (.long p1), .second, .val (.int p2), .val (.int p3), .unset, .unset, .unset, .unset, .unset, .unset] [(.long p1)])
  refine own_via (X0.ldc2Long hx hown (mvT hZ (hw _ (List.mem_of_getElem? (i := 0) rfl))) (g := (mkF m 1 #[.val (.long p1), .second, .val (.int p2), .val (.int p3), .unset, .unset, .unset, .unset, .unset, .unset] [(.long p1)])) rfl (hb hby at_1)) ?_
  show own_E _ _ _ _ _ _ _ s₁ (mkF m 4 #[.val (.long p1), .second, .val (.int p2), .val (.int p3), .unset, .unset, .unset, .unset, .unset, .unset] [(.long (9223372036854775807 : Int64)), (.long p1)])
  refine own_via (fun t => XS.land X0.here hx rfl (hb hby at_4) rfl) ?_
  show own_E _ _ _ _ _ _ _ s₁ (mkF m 5 #[.val (.long p1), .second, .val (.int p2), .val (.int p3), .unset, .unset, .unset, .unset, .unset, .unset] [(.long (p1 &&& (9223372036854775807 : Int64)))])
  refine own_via (fun t => XS.iloadN X0.here hx rfl (hb hby at_5) rfl) ?_
  show own_E _ _ _ _ _ _ _ s₁ (mkF m 6 #[.val (.long p1), .second, .val (.int p2), .val (.int p3), .unset, .unset, .unset, .unset, .unset, .unset] [(.int p2), (.long (p1 &&& (9223372036854775807 : Int64)))])
  refine own_via (fun t => XS.bipush X0.here hx rfl (hb hby at_6)) ?_
  show own_E _ _ _ _ _ _ _ s₁ (mkF m 8 #[.val (.long p1), .second, .val (.int p2), .val (.int p3), .unset, .unset, .unset, .unset, .unset, .unset] [(.int (63 : Int32)), (.int p2), (.long (p1 &&& (9223372036854775807 : Int64)))])
  refine own_via (fun t => XS.iand X0.here hx rfl (hb hby at_8) rfl) ?_
  show own_E _ _ _ _ _ _ _ s₁ (mkF m 9 #[.val (.long p1), .second, .val (.int p2), .val (.int p3), .unset, .unset, .unset, .unset, .unset, .unset] [(.int (p2 &&& (63 : Int32))), (.long (p1 &&& (9223372036854775807 : Int64)))])
  refine own_via (fun t => XS.lushr X0.here hx rfl (hb hby at_9) rfl) ?_
  show own_E _ _ _ _ _ _ _ s₁ (mkF m 10 #[.val (.long p1), .second, .val (.int p2), .val (.int p3), .unset, .unset, .unset, .unset, .unset, .unset] [(.long (own_ushrL (p1 &&& (9223372036854775807 : Int64)) (p2 &&& (63 : Int32))))])
  obtain ⟨N, hN, eN⟩ := own_shr p1 (p2 &&& (63 : Int32))
  rw [eN]
  show own_E _ _ _ _ _ _ _ s₁ (mkF m 10 #[.val (.long p1), .second, .val (.int p2), .val (.int p3), .unset, .unset, .unset, .unset, .unset, .unset] [(.long (Int64.ofNat N))])
  refine own_via (fun t => XS.lstore X0.here hx rfl (hb hby at_10) rfl (l' := #[.val (.long p1), .second, .val (.int p2), .val (.int p3), .val (.long (Int64.ofNat N)), .second, .unset, .unset, .unset, .unset]) rfl) ?_
  show own_E _ _ _ _ _ _ _ s₁ (mkF m 12 #[.val (.long p1), .second, .val (.int p2), .val (.int p3), .val (.long (Int64.ofNat N)), .second, .unset, .unset, .unset, .unset] [])
  refine own_via (fun t => XS.bipush X0.here hx rfl (hb hby at_12)) ?_
  show own_E _ _ _ _ _ _ _ s₁ (mkF m 14 #[.val (.long p1), .second, .val (.int p2), .val (.int p3), .val (.long (Int64.ofNat N)), .second, .unset, .unset, .unset, .unset] [(.int (20 : Int32))])
  refine own_via (fun t => XS.iloadN X0.here hx rfl (hb hby at_14) rfl) ?_
  show own_E _ _ _ _ _ _ _ s₁ (mkF m 15 #[.val (.long p1), .second, .val (.int p2), .val (.int p3), .val (.long (Int64.ofNat N)), .second, .unset, .unset, .unset, .unset] [(.int p3), (.int (20 : Int32))])
  refine own_via (fun t => XS.iconst X0.here hx rfl (hb hby at_15)) ?_
  show own_E _ _ _ _ _ _ _ s₁ (mkF m 16 #[.val (.long p1), .second, .val (.int p2), .val (.int p3), .val (.long (Int64.ofNat N)), .second, .unset, .unset, .unset, .unset] [(.int (3 : Int32)), (.int p3), (.int (20 : Int32))])
  refine own_via (fun t => XS.iand X0.here hx rfl (hb hby at_16) rfl) ?_
  show own_E _ _ _ _ _ _ _ s₁ (mkF m 17 #[.val (.long p1), .second, .val (.int p2), .val (.int p3), .val (.long (Int64.ofNat N)), .second, .unset, .unset, .unset, .unset] [(.int (p3 &&& (3 : Int32))), (.int (20 : Int32))])
  refine own_via (fun t => XS.iadd X0.here hx rfl (hb hby at_17) rfl) ?_
  show own_E _ _ _ _ _ _ _ s₁ (mkF m 18 #[.val (.long p1), .second, .val (.int p2), .val (.int p3), .val (.long (Int64.ofNat N)), .second, .unset, .unset, .unset, .unset] [(.int ((20 : Int32) + (p3 &&& (3 : Int32))))])
  obtain ⟨en, he1, he2, ee⟩ : ∃ en : Nat, 20 ≤ en ∧ en ≤ 23 ∧ (20 : Int32) + (p3 &&& (3 : Int32)) = Int32.ofNat en := by
    obtain ⟨n, h1, h2⟩ := own_m3 p3
    exact ⟨20 + n, by omega, by omega, h2⟩
  rw [ee]
  show own_E _ _ _ _ _ _ _ s₁ (mkF m 18 #[.val (.long p1), .second, .val (.int p2), .val (.int p3), .val (.long (Int64.ofNat N)), .second, .unset, .unset, .unset, .unset] [(.int (Int32.ofNat en))])
  refine own_via (fun t => XS.istore X0.here hx rfl (hb hby at_18) rfl (l' := #[.val (.long p1), .second, .val (.int p2), .val (.int p3), .val (.long (Int64.ofNat N)), .second, .val (.int (Int32.ofNat en)), .unset, .unset, .unset]) rfl) ?_
  show own_E _ _ _ _ _ _ _ s₁ (mkF m 20 #[.val (.long p1), .second, .val (.int p2), .val (.int p3), .val (.long (Int64.ofNat N)), .second, .val (.int (Int32.ofNat en)), .unset, .unset, .unset] [])
  refine own_via (fun t => XS.bipush X0.here hx rfl (hb hby at_20)) ?_
  show own_E _ _ _ _ _ _ _ s₁ (mkF m 22 #[.val (.long p1), .second, .val (.int p2), .val (.int p3), .val (.long (Int64.ofNat N)), .second, .val (.int (Int32.ofNat en)), .unset, .unset, .unset] [(.int (24 : Int32))])
  obtain ⟨T12, h12, k12, X12, e12, E12, A12, st12⟩ := newP X0 hx hZ (hw _ (List.mem_of_getElem? (i := 1) rfl)) e0 (g := (mkF m 22 #[.val (.long p1), .second, .val (.int p2), .val (.int p3), .val (.long (Int64.ofNat N)), .second, .val (.int (Int32.ofNat en)), .unset, .unset, .unset] [(.int (24 : Int32))])) rfl (hb hby at_22) rfl (by decide) (cap := 24) (by decide) (by decide) (by decide) (by decide)
  obtain ⟨b12, g12⟩ : ∃ z, z = h0.size := ⟨_, rfl⟩
  rw [← g12] at A12 st12
  have V12 : own_Ar Z h12 b12 .char 24 (fun _ => 0) := own_Ar.new A12 (by decide) rfl
  have gz_b12 : n0 ≤ b12 := Nat.le_trans Z0 (Nat.le_of_eq g12.symm)
  have Z12 : n0 ≤ h12.size := Nat.le_trans Z0 E12.1
  refine own_via st12 ?_
  show own_E _ _ _ _ _ _ _ T12 (mkF m 24 #[.val (.long p1), .second, .val (.int p2), .val (.int p3), .val (.long (Int64.ofNat N)), .second, .val (.int (Int32.ofNat en)), .unset, .unset, .unset] [(.ref b12)])
  refine own_via (fun t => XS.astore X12.here hx rfl (hb hby at_24) rfl rfl (l' := #[.val (.long p1), .second, .val (.int p2), .val (.int p3), .val (.long (Int64.ofNat N)), .second, .val (.int (Int32.ofNat en)), .val (.ref b12), .unset, .unset]) rfl) ?_
  show own_E _ _ _ _ _ _ _ T12 (mkF m 26 #[.val (.long p1), .second, .val (.int p2), .val (.int p3), .val (.long (Int64.ofNat N)), .second, .val (.int (Int32.ofNat en)), .val (.ref b12), .unset, .unset] [])
  refine own_via (fun t => XS.lload X12.here hx rfl (hb hby at_26) rfl) ?_
  show own_E _ _ _ _ _ _ _ T12 (mkF m 28 #[.val (.long p1), .second, .val (.int p2), .val (.int p3), .val (.long (Int64.ofNat N)), .second, .val (.int (Int32.ofNat en)), .val (.ref b12), .unset, .unset] [(.long (Int64.ofNat N))])
  refine own_via (fun t => XS.aload X12.here hx rfl (hb hby at_28) rfl rfl) ?_
  show own_E _ _ _ _ _ _ _ T12 (mkF m 30 #[.val (.long p1), .second, .val (.int p2), .val (.int p3), .val (.long (Int64.ofNat N)), .second, .val (.int (Int32.ofNat en)), .val (.ref b12), .unset, .unset] [(.ref b12), (.long (Int64.ofNat N))])
  refine own_via (fun t => XS.iload X12.here hx rfl (hb hby at_30) rfl) ?_
  show own_E _ _ _ _ _ _ _ T12 (mkF m 32 #[.val (.long p1), .second, .val (.int p2), .val (.int p3), .val (.long (Int64.ofNat N)), .second, .val (.int (Int32.ofNat en)), .val (.ref b12), .unset, .unset] [(.int (Int32.ofNat en)), (.ref b12), (.long (Int64.ofNat N))])
  obtain ⟨_, _, ⟨T13, L13, k13, n13⟩, -, X13, ⟨Lc13, hQ13, l13, y13, z13⟩, st13⟩ := Jvm.LawKit.callS X12 hx (y := (⟨"com/example/poruka/poruka/rules/Amounts", "getChars", "(J[CI)I"⟩ : MethodName)) hown (mvT hZ (hw _ (List.mem_of_getElem? (i := 2) rfl))) (mvT hZ (hw _ (List.mem_of_getElem? (i := 3) rfl))) (mvT hZ (hw _ (List.mem_of_getElem? (i := 4) rfl))) (mvT hZ (hw _ (List.mem_of_getElem? (i := 5) rfl))) (by decide) (backOf (W := 0) (rm1 l Z a0 hw [] b12 N en hN he1 he2 h12 n0 Z12 V12 gz_b12) hZ (hw _ (List.mem_of_getElem? (i := 5) rfl)) (hw _ (List.mem_of_getElem? (i := 4) rfl)) (by decide) (by decide)) (g := (mkF m 32 #[.val (.long p1), .second, .val (.int p2), .val (.int p3), .val (.long (Int64.ofNat N)), .second, .val (.int (Int32.ofNat en)), .val (.ref b12), .unset, .unset] [(.int (Int32.ofNat en)), (.ref b12), (.long (Int64.ofNat N))])) rfl (by rw [hml]; rfl) (argsL := [(.long (Int64.ofNat N)), (.ref b12), (.int (Int32.ofNat en))]) (rest := []) (lenOf pd_1 rfl) rfl (by show 2 * 0 + _ ≤ _; exact Nat.le_of_eq rfl) (hb hby at_32) (fun _ _ => ⟨rfl, e12, (by decide : 1 + 0 ≤ _), (by decide : 24 + 0 ≤ _)⟩)
  dsimp only [Pt.U, Pt.locs, Pt.cells, Pt.slots] at X13 l13 y13 z13 st13 hQ13
  subst l13 y13 z13
  obtain ⟨st, f, rfl, N13, K13, F13, G⟩ := hQ13
  refine own_via st13 ?_
  show own_E _ _ _ _ _ _ _ T13 (mkF m 35 #[.val (.long p1), .second, .val (.int p2), .val (.int p3), .val (.long (Int64.ofNat N)), .second, .val (.int (Int32.ofNat en)), .val (.ref b12), .unset, .unset] [(.int (Int32.ofNat st))])
  have NA13 := Fr.app N0 N13
  have ZA13 : n0 ≤ T13.heap.size := Nat.le_trans Z12 K13.1
  have hf := own_small G he2
  have G0 := G
  obtain ⟨G1, G2, G3, G4, G5, G6, G7, G8⟩ := G0
  have OO13 : Old Z n0 T13.heap := (OO.ext E12).keep K13 (allS gz_b12 all0)
  refine own_via (fun t => XS.istore X13.here hx rfl (hb hby at_35) rfl (l' := #[.val (.long p1), .second, .val (.int p2), .val (.int p3), .val (.long (Int64.ofNat N)), .second, .val (.int (Int32.ofNat en)), .val (.ref b12), .val (.int (Int32.ofNat st)), .unset]) rfl) ?_
  show own_E _ _ _ _ _ _ _ T13 (mkF m 37 #[.val (.long p1), .second, .val (.int p2), .val (.int p3), .val (.long (Int64.ofNat N)), .second, .val (.int (Int32.ofNat en)), .val (.ref b12), .val (.int (Int32.ofNat st)), .unset] [])
  refine own_via (fun t => XS.iload X13.here hx rfl (hb hby at_37) rfl) ?_
  show own_E _ _ _ _ _ _ _ T13 (mkF m 39 #[.val (.long p1), .second, .val (.int p2), .val (.int p3), .val (.long (Int64.ofNat N)), .second, .val (.int (Int32.ofNat en)), .val (.ref b12), .val (.int (Int32.ofNat st)), .unset] [(.int (Int32.ofNat st))])
  refine own_via (fun t => XS.iload X13.here hx rfl (hb hby at_39) rfl) ?_
  show own_E _ _ _ _ _ _ _ T13 (mkF m 41 #[.val (.long p1), .second, .val (.int p2), .val (.int p3), .val (.long (Int64.ofNat N)), .second, .val (.int (Int32.ofNat en)), .val (.ref b12), .val (.int (Int32.ofNat st)), .unset] [(.int (Int32.ofNat en)), (.int (Int32.ofNat st))])
  refine own_via (fun t => XS.bipush X13.here hx rfl (hb hby at_41)) ?_
  show own_E _ _ _ _ _ _ _ T13 (mkF m 43 #[.val (.long p1), .second, .val (.int p2), .val (.int p3), .val (.long (Int64.ofNat N)), .second, .val (.int (Int32.ofNat en)), .val (.ref b12), .val (.int (Int32.ofNat st)), .unset] [(.int (20 : Int32)), (.int (Int32.ofNat en)), (.int (Int32.ofNat st))])
  refine own_via (fun t => XS.isub X13.here hx rfl (hb hby at_43) rfl) ?_
  show own_E _ _ _ _ _ _ _ T13 (mkF m 44 #[.val (.long p1), .second, .val (.int p2), .val (.int p3), .val (.long (Int64.ofNat N)), .second, .val (.int (Int32.ofNat en)), .val (.ref b12), .val (.int (Int32.ofNat st)), .unset] [(.int ((Int32.ofNat en) - (20 : Int32))), (.int (Int32.ofNat st))])
  rw [show Int32.ofNat en - (20 : Int32) = Int32.ofNat (en - 20) from own_sub (k := 20) (by omega) (by omega)]
  show own_E _ _ _ _ _ _ _ T13 (mkF m 44 #[.val (.long p1), .second, .val (.int p2), .val (.int p3), .val (.long (Int64.ofNat N)), .second, .val (.int (Int32.ofNat en)), .val (.ref b12), .val (.int (Int32.ofNat st)), .unset] [(.int (Int32.ofNat (en - 20))), (.int (Int32.ofNat st))])
  refine own_via (fun t => XS.icmpNo X13.here hx rfl (hb hby at_44) rfl (flt (fun q => by rw [own_lt (by omega) (by omega)] at q; omega)).1) ?_
  show own_E _ _ _ _ _ _ _ T13 (mkF m 47 #[.val (.long p1), .second, .val (.int p2), .val (.int p3), .val (.long (Int64.ofNat N)), .second, .val (.int (Int32.ofNat en)), .val (.ref b12), .val (.int (Int32.ofNat st)), .unset] [])
  refine own_via (fun t => XS.iload X13.here hx rfl (hb hby at_47) rfl) ?_
  show own_E _ _ _ _ _ _ _ T13 (mkF m 49 #[.val (.long p1), .second, .val (.int p2), .val (.int p3), .val (.long (Int64.ofNat N)), .second, .val (.int (Int32.ofNat en)), .val (.ref b12), .val (.int (Int32.ofNat st)), .unset] [(.int (Int32.ofNat st))])
  refine own_via (fun t => XS.iload X13.here hx rfl (hb hby at_49) rfl) ?_
  show own_E _ _ _ _ _ _ _ T13 (mkF m 51 #[.val (.long p1), .second, .val (.int p2), .val (.int p3), .val (.long (Int64.ofNat N)), .second, .val (.int (Int32.ofNat en)), .val (.ref b12), .val (.int (Int32.ofNat st)), .unset] [(.int (Int32.ofNat en)), (.int (Int32.ofNat st))])
  refine own_via (fun t => XS.iconst X13.here hx rfl (hb hby at_51)) ?_
  show own_E _ _ _ _ _ _ _ T13 (mkF m 52 #[.val (.long p1), .second, .val (.int p2), .val (.int p3), .val (.long (Int64.ofNat N)), .second, .val (.int (Int32.ofNat en)), .val (.ref b12), .val (.int (Int32.ofNat st)), .unset] [(.int (4 : Int32)), (.int (Int32.ofNat en)), (.int (Int32.ofNat st))])
  refine own_via (fun t => XS.isub X13.here hx rfl (hb hby at_52) rfl) ?_
  show own_E _ _ _ _ _ _ _ T13 (mkF m 53 #[.val (.long p1), .second, .val (.int p2), .val (.int p3), .val (.long (Int64.ofNat N)), .second, .val (.int (Int32.ofNat en)), .val (.ref b12), .val (.int (Int32.ofNat st)), .unset] [(.int ((Int32.ofNat en) - (4 : Int32))), (.int (Int32.ofNat st))])
  rw [show Int32.ofNat en - (4 : Int32) = Int32.ofNat (en - 4) from own_sub (k := 4) (by omega) (by omega)]
  show own_E _ _ _ _ _ _ _ T13 (mkF m 53 #[.val (.long p1), .second, .val (.int p2), .val (.int p3), .val (.long (Int64.ofNat N)), .second, .val (.int (Int32.ofNat en)), .val (.ref b12), .val (.int (Int32.ofNat st)), .unset] [(.int (Int32.ofNat (en - 4))), (.int (Int32.ofNat st))])
  refine own_via (fun t => XS.icmpYes X13.here hx rfl (pc0 := 53) (pc' := 58) rfl (hb hby at_53) rfl (flt (fun q => by rw [own_lt (by omega) (by omega)] at q; omega)).2.2.2 (by decide) (by decide)) ?_
  show own_E _ _ _ _ _ _ _ T13 (mkF m 58 #[.val (.long p1), .second, .val (.int p2), .val (.int p3), .val (.long (Int64.ofNat N)), .second, .val (.int (Int32.ofNat en)), .val (.ref b12), .val (.int (Int32.ofNat st)), .unset] [])
  refine own_via (fun t => XS.iload X13.here hx rfl (hb hby at_58) rfl) ?_
  show own_E _ _ _ _ _ _ _ T13 (mkF m 60 #[.val (.long p1), .second, .val (.int p2), .val (.int p3), .val (.long (Int64.ofNat N)), .second, .val (.int (Int32.ofNat en)), .val (.ref b12), .val (.int (Int32.ofNat st)), .unset] [(.int (Int32.ofNat st))])
  by_cases hs0 : 0 < st
  · refine own_via (fun t => XS.ifNo X13.here hx rfl (hb hby at_60) rfl ((if0 _ _).trans (tlt ((own_lt (by decide) (by omega)).mpr hs0 : Int32.ofNat 0 < Int32.ofNat st)).2.2.2)) ?_
    show own_E _ _ _ _ _ _ _ T13 (mkF m 63 #[.val (.long p1), .second, .val (.int p2), .val (.int p3), .val (.long (Int64.ofNat N)), .second, .val (.int (Int32.ofNat en)), .val (.ref b12), .val (.int (Int32.ofNat st)), .unset] [])
    refine own_via (fun t => XS.aload X13.here hx rfl (hb hby at_63) rfl rfl) ?_
    show own_E _ _ _ _ _ _ _ T13 (mkF m 65 #[.val (.long p1), .second, .val (.int p2), .val (.int p3), .val (.long (Int64.ofNat N)), .second, .val (.int (Int32.ofNat en)), .val (.ref b12), .val (.int (Int32.ofNat st)), .unset] [(.ref b12)])
    refine own_via (fun t => XS.iload X13.here hx rfl (hb hby at_65) rfl) ?_
    show own_E _ _ _ _ _ _ _ T13 (mkF m 67 #[.val (.long p1), .second, .val (.int p2), .val (.int p3), .val (.long (Int64.ofNat N)), .second, .val (.int (Int32.ofNat en)), .val (.ref b12), .val (.int (Int32.ofNat st)), .unset] [(.int (Int32.ofNat st)), (.ref b12)])
    refine own_via (fun t => XS.iconst X13.here hx rfl (hb hby at_67)) ?_
    show own_E _ _ _ _ _ _ _ T13 (mkF m 68 #[.val (.long p1), .second, .val (.int p2), .val (.int p3), .val (.long (Int64.ofNat N)), .second, .val (.int (Int32.ofNat en)), .val (.ref b12), .val (.int (Int32.ofNat st)), .unset] [(.int (1 : Int32)), (.int (Int32.ofNat st)), (.ref b12)])
    refine own_via (fun t => XS.isub X13.here hx rfl (hb hby at_68) rfl) ?_
    show own_E _ _ _ _ _ _ _ T13 (mkF m 69 #[.val (.long p1), .second, .val (.int p2), .val (.int p3), .val (.long (Int64.ofNat N)), .second, .val (.int (Int32.ofNat en)), .val (.ref b12), .val (.int (Int32.ofNat st)), .unset] [(.int ((Int32.ofNat st) - (1 : Int32))), (.ref b12)])
    rw [show Int32.ofNat st - (1 : Int32) = Int32.ofNat (st - 1) from own_sub (k := 1) (by omega) (by omega)]
    show own_E _ _ _ _ _ _ _ T13 (mkF m 69 #[.val (.long p1), .second, .val (.int p2), .val (.int p3), .val (.long (Int64.ofNat N)), .second, .val (.int (Int32.ofNat en)), .val (.ref b12), .val (.int (Int32.ofNat st)), .unset] [(.int (Int32.ofNat (st - 1))), (.ref b12)])
    refine own_via (own_caload (jn := st - 1) X13 hx hZ (rfl : T13.heap = _) F13 (by decide) (by omega) rfl (g := (mkF m 69 #[.val (.long p1), .second, .val (.int p2), .val (.int p3), .val (.long (Int64.ofNat N)), .second, .val (.int (Int32.ofNat en)), .val (.ref b12), .val (.int (Int32.ofNat st)), .unset] [(.int (Int32.ofNat (st - 1))), (.ref b12)])) rfl rfl (hb hby at_69)) ?_
    show own_E _ _ _ _ _ _ _ T13 (mkF m 70 #[.val (.long p1), .second, .val (.int p2), .val (.int p3), .val (.long (Int64.ofNat N)), .second, .val (.int (Int32.ofNat en)), .val (.ref b12), .val (.int (Int32.ofNat st)), .unset] [(.int (f (st - 1)))])
    rw [G3 (st - 1) (by omega)]
    show own_E _ _ _ _ _ _ _ T13 (mkF m 70 #[.val (.long p1), .second, .val (.int p2), .val (.int p3), .val (.long (Int64.ofNat N)), .second, .val (.int (Int32.ofNat en)), .val (.ref b12), .val (.int (Int32.ofNat st)), .unset] [(.int (0 : Int32))])
    refine own_via (fun t => XS.ifYes X13.here hx rfl (pc0 := 70) (pc' := 75) rfl (hb hby at_70) rfl ((if0 _ _).trans (teq (by decide : (0 : Int32) = (0 : Int32))).1) (by decide) (by decide)) ?_
    show own_E _ _ _ _ _ _ _ T13 (mkF m 75 #[.val (.long p1), .second, .val (.int p2), .val (.int p3), .val (.long (Int64.ofNat N)), .second, .val (.int (Int32.ofNat en)), .val (.ref b12), .val (.int (Int32.ofNat st)), .unset] [])
    refine own_via (fun t => XS.iload X13.here hx rfl (hb hby at_75) rfl) ?_
    show own_E _ _ _ _ _ _ _ T13 (mkF m 77 #[.val (.long p1), .second, .val (.int p2), .val (.int p3), .val (.long (Int64.ofNat N)), .second, .val (.int (Int32.ofNat en)), .val (.ref b12), .val (.int (Int32.ofNat st)), .unset] [(.int (Int32.ofNat en))])
    refine own_via (fun t => XS.bipush X13.here hx rfl (hb hby at_77)) ?_
    show own_E _ _ _ _ _ _ _ T13 (mkF m 79 #[.val (.long p1), .second, .val (.int p2), .val (.int p3), .val (.long (Int64.ofNat N)), .second, .val (.int (Int32.ofNat en)), .val (.ref b12), .val (.int (Int32.ofNat st)), .unset] [(.int (24 : Int32)), (.int (Int32.ofNat en))])
    refine own_via (fun t => XS.icmpNo X13.here hx rfl (hb hby at_79) rfl (tlt ((own_lt (by omega) (by decide)).mpr (show en < 24 by omega))).2.1) ?_
    show own_E _ _ _ _ _ _ _ T13 (mkF m 82 #[.val (.long p1), .second, .val (.int p2), .val (.int p3), .val (.long (Int64.ofNat N)), .second, .val (.int (Int32.ofNat en)), .val (.ref b12), .val (.int (Int32.ofNat st)), .unset] [])
    refine own_via (fun t => XS.aload X13.here hx rfl (hb hby at_82) rfl rfl) ?_
    show own_E _ _ _ _ _ _ _ T13 (mkF m 84 #[.val (.long p1), .second, .val (.int p2), .val (.int p3), .val (.long (Int64.ofNat N)), .second, .val (.int (Int32.ofNat en)), .val (.ref b12), .val (.int (Int32.ofNat st)), .unset] [(.ref b12)])
    refine own_via (fun t => XS.iload X13.here hx rfl (hb hby at_84) rfl) ?_
    show own_E _ _ _ _ _ _ _ T13 (mkF m 86 #[.val (.long p1), .second, .val (.int p2), .val (.int p3), .val (.long (Int64.ofNat N)), .second, .val (.int (Int32.ofNat en)), .val (.ref b12), .val (.int (Int32.ofNat st)), .unset] [(.int (Int32.ofNat en)), (.ref b12)])
    refine own_via (own_caload (jn := en) X13 hx hZ (rfl : T13.heap = _) F13 (by decide) (by omega) rfl (g := (mkF m 86 #[.val (.long p1), .second, .val (.int p2), .val (.int p3), .val (.long (Int64.ofNat N)), .second, .val (.int (Int32.ofNat en)), .val (.ref b12), .val (.int (Int32.ofNat st)), .unset] [(.int (Int32.ofNat en)), (.ref b12)])) rfl rfl (hb hby at_86)) ?_
    show own_E _ _ _ _ _ _ _ T13 (mkF m 87 #[.val (.long p1), .second, .val (.int p2), .val (.int p3), .val (.long (Int64.ofNat N)), .second, .val (.int (Int32.ofNat en)), .val (.ref b12), .val (.int (Int32.ofNat st)), .unset] [(.int (f en))])
    rw [G4 en (Nat.le_refl _)]
    show own_E _ _ _ _ _ _ _ T13 (mkF m 87 #[.val (.long p1), .second, .val (.int p2), .val (.int p3), .val (.long (Int64.ofNat N)), .second, .val (.int (Int32.ofNat en)), .val (.ref b12), .val (.int (Int32.ofNat st)), .unset] [(.int (0 : Int32))])
    refine own_via (fun t => XS.ifYes X13.here hx rfl (pc0 := 87) (pc' := 92) rfl (hb hby at_87) rfl ((if0 _ _).trans (teq (by decide : (0 : Int32) = (0 : Int32))).1) (by decide) (by decide)) ?_
    show own_E _ _ _ _ _ _ _ T13 (mkF m 92 #[.val (.long p1), .second, .val (.int p2), .val (.int p3), .val (.long (Int64.ofNat N)), .second, .val (.int (Int32.ofNat en)), .val (.ref b12), .val (.int (Int32.ofNat st)), .unset] [])
    refine own_via (fun t => XS.aload X13.here hx rfl (hb hby at_92) rfl rfl) ?_
    show own_E _ _ _ _ _ _ _ T13 (mkF m 94 #[.val (.long p1), .second, .val (.int p2), .val (.int p3), .val (.long (Int64.ofNat N)), .second, .val (.int (Int32.ofNat en)), .val (.ref b12), .val (.int (Int32.ofNat st)), .unset] [(.ref b12)])
    refine own_via (fun t => XS.iload X13.here hx rfl (hb hby at_94) rfl) ?_
    show own_E _ _ _ _ _ _ _ T13 (mkF m 96 #[.val (.long p1), .second, .val (.int p2), .val (.int p3), .val (.long (Int64.ofNat N)), .second, .val (.int (Int32.ofNat en)), .val (.ref b12), .val (.int (Int32.ofNat st)), .unset] [(.int (Int32.ofNat st)), (.ref b12)])
    refine own_via (own_caload (jn := st) X13 hx hZ (rfl : T13.heap = _) F13 (by decide) (by omega) rfl (g := (mkF m 96 #[.val (.long p1), .second, .val (.int p2), .val (.int p3), .val (.long (Int64.ofNat N)), .second, .val (.int (Int32.ofNat en)), .val (.ref b12), .val (.int (Int32.ofNat st)), .unset] [(.int (Int32.ofNat st)), (.ref b12)])) rfl rfl (hb hby at_96)) ?_
    show own_E _ _ _ _ _ _ _ T13 (mkF m 97 #[.val (.long p1), .second, .val (.int p2), .val (.int p3), .val (.long (Int64.ofNat N)), .second, .val (.int (Int32.ofNat en)), .val (.ref b12), .val (.int (Int32.ofNat st)), .unset] [(.int (f st))])
    refine own_via (fun t => XS.bipush X13.here hx rfl (hb hby at_97)) ?_
    show own_E _ _ _ _ _ _ _ T13 (mkF m 99 #[.val (.long p1), .second, .val (.int p2), .val (.int p3), .val (.long (Int64.ofNat N)), .second, .val (.int (Int32.ofNat en)), .val (.ref b12), .val (.int (Int32.ofNat st)), .unset] [(.int (48 : Int32)), (.int (f st))])
    by_cases c99_14 : (f st) = (48 : Int32)
    · refine own_via (fun t => XS.icmpNo X13.here hx rfl (hb hby at_99) rfl (teq c99_14).2) ?_
      show own_E _ _ _ _ _ _ _ T13 (mkF m 102 #[.val (.long p1), .second, .val (.int p2), .val (.int p3), .val (.long (Int64.ofNat N)), .second, .val (.int (Int32.ofNat en)), .val (.ref b12), .val (.int (Int32.ofNat st)), .unset] [])
      refine own_via (fun t => XS.iload X13.here hx rfl (hb hby at_102) rfl) ?_
      show own_E _ _ _ _ _ _ _ T13 (mkF m 104 #[.val (.long p1), .second, .val (.int p2), .val (.int p3), .val (.long (Int64.ofNat N)), .second, .val (.int (Int32.ofNat en)), .val (.ref b12), .val (.int (Int32.ofNat st)), .unset] [(.int (Int32.ofNat st))])
      refine own_via (fun t => XS.iload X13.here hx rfl (hb hby at_104) rfl) ?_
      show own_E _ _ _ _ _ _ _ T13 (mkF m 106 #[.val (.long p1), .second, .val (.int p2), .val (.int p3), .val (.long (Int64.ofNat N)), .second, .val (.int (Int32.ofNat en)), .val (.ref b12), .val (.int (Int32.ofNat st)), .unset] [(.int (Int32.ofNat en)), (.int (Int32.ofNat st))])
      refine own_via (fun t => XS.iconst X13.here hx rfl (hb hby at_106)) ?_
      show own_E _ _ _ _ _ _ _ T13 (mkF m 107 #[.val (.long p1), .second, .val (.int p2), .val (.int p3), .val (.long (Int64.ofNat N)), .second, .val (.int (Int32.ofNat en)), .val (.ref b12), .val (.int (Int32.ofNat st)), .unset] [(.int (4 : Int32)), (.int (Int32.ofNat en)), (.int (Int32.ofNat st))])
      refine own_via (fun t => XS.isub X13.here hx rfl (hb hby at_107) rfl) ?_
      show own_E _ _ _ _ _ _ _ T13 (mkF m 108 #[.val (.long p1), .second, .val (.int p2), .val (.int p3), .val (.long (Int64.ofNat N)), .second, .val (.int (Int32.ofNat en)), .val (.ref b12), .val (.int (Int32.ofNat st)), .unset] [(.int ((Int32.ofNat en) - (4 : Int32))), (.int (Int32.ofNat st))])
      rw [show Int32.ofNat en - (4 : Int32) = Int32.ofNat (en - 4) from own_sub (k := 4) (by omega) (by omega)]
      show own_E _ _ _ _ _ _ _ T13 (mkF m 108 #[.val (.long p1), .second, .val (.int p2), .val (.int p3), .val (.long (Int64.ofNat N)), .second, .val (.int (Int32.ofNat en)), .val (.ref b12), .val (.int (Int32.ofNat st)), .unset] [(.int (Int32.ofNat (en - 4))), (.int (Int32.ofNat st))])
      refine own_via (fun t => XS.icmpYes X13.here hx rfl (pc0 := 108) (pc' := 113) rfl (hb hby at_108) rfl (teq (by rw [show en - 4 = st from by have := G8 c99_14; omega])).1 (by decide) (by decide)) ?_
      show own_E _ _ _ _ _ _ _ T13 (mkF m 113 #[.val (.long p1), .second, .val (.int p2), .val (.int p3), .val (.long (Int64.ofNat N)), .second, .val (.int (Int32.ofNat en)), .val (.ref b12), .val (.int (Int32.ofNat st)), .unset] [])
      obtain ⟨T15, h15, X15, e15, E15, A15, D15, -, st15⟩ := newO X13 hx hZ hown (hw _ (List.mem_of_getElem? (i := 8) rfl)) (hw _ (List.mem_of_getElem? (i := 9) rfl)) (hw _ (List.mem_of_getElem? (i := 10) rfl)) (rfl : T13.heap = _) (g := (mkF m 113 #[.val (.long p1), .second, .val (.int p2), .val (.int p3), .val (.long (Int64.ofNat N)), .second, .val (.int (Int32.ofNat en)), .val (.ref b12), .val (.int (Int32.ofNat st)), .unset] [])) rfl (hb hby at_113) (by decide) (by decide)
      obtain ⟨b15, g15⟩ : ∃ z, z = T13.heap.size := ⟨_, rfl⟩
      rw [← g15] at A15 D15 st15
      have gz_b15 : n0 ≤ b15 := Nat.le_trans ZA13 (Nat.le_of_eq g15.symm)
      have Z15 : n0 ≤ h15.size := Nat.le_trans ZA13 E15.1
      refine own_via st15 ?_
      show own_E _ _ _ _ _ _ _ T15 (mkF m 116 #[.val (.long p1), .second, .val (.int p2), .val (.int p3), .val (.long (Int64.ofNat N)), .second, .val (.int (Int32.ofNat en)), .val (.ref b12), .val (.int (Int32.ofNat st)), .unset] [(.ref b15)])
      refine own_via (fun t => XS.dup X15.here hx rfl (hb hby at_116) rfl rfl) ?_
      show own_E _ _ _ _ _ _ _ T15 (mkF m 117 #[.val (.long p1), .second, .val (.int p2), .val (.int p3), .val (.long (Int64.ofNat N)), .second, .val (.int (Int32.ofNat en)), .val (.ref b12), .val (.int (Int32.ofNat st)), .unset] [(.ref b15), (.ref b15)])
      refine own_via (fun t => XS.aload X15.here hx rfl (hb hby at_117) rfl rfl) ?_
      show own_E _ _ _ _ _ _ _ T15 (mkF m 119 #[.val (.long p1), .second, .val (.int p2), .val (.int p3), .val (.long (Int64.ofNat N)), .second, .val (.int (Int32.ofNat en)), .val (.ref b12), .val (.int (Int32.ofNat st)), .unset] [(.ref b12), (.ref b15), (.ref b15)])
      have F15 := F13.ext E15
      obtain ⟨kC, AV⟩ := own_arv F15 hf
      have Fv : Fld Z h15 b15 "java/lang/String" "value" "[B" .null := D15 (Or.inr (hw _ (List.mem_of_getElem? (i := 36) rfl))) (ty := .array .byte) (by decide)
      have Fc : Fld Z h15 b15 "java/lang/String" "coder" "B" (.int 0) := D15 (Or.inr (hw _ (List.mem_of_getElem? (i := 34) rfl))) (ty := .byte) (by decide)
      have OS := OO13.ext E15
      obtain ⟨_, _, ⟨T16, L16, k16, n16⟩, -, X16, ⟨Lc16, hQ16, l16, y16, z16⟩, st16⟩ := X15.specialBack hx (y := (⟨"java/lang/String", "<init>", "([C)V"⟩ : MethodName)) rfl hown (mvT hZ (hw _ (List.mem_of_getElem? (i := 11) rfl))) (mvT hZ (hw _ (List.mem_of_getElem? (i := 12) rfl))) (mvT hZ (hw _ (List.mem_of_getElem? (i := 13) rfl))) (by decide) (StrChars.Road.backV (W := 1) hZ (own_ws hw) (kI := 4) (hw _ (List.mem_of_getElem? (i := 9) rfl)) (cs := (List.range 24).map f) (bs := ((List.range 24).map f).map (fun c => c.toInt8.toInt32)) (n := 24) gz_b15 Z15 A15 Fv Fc AV (CX.1.ext OS.2) CX.2.1 (own_len f) rfl (by decide) (by decide) (fun c hc => by obtain ⟨i, hi, rfl⟩ := List.mem_map.mp hc; exact hf i (List.mem_range.mp hi)) rfl (by decide) (by decide)) (g := (mkF m 119 #[.val (.long p1), .second, .val (.int p2), .val (.int p3), .val (.long (Int64.ofNat N)), .second, .val (.int (Int32.ofNat en)), .val (.ref b12), .val (.int (Int32.ofNat st)), .unset] [(.ref b12), (.ref b15), (.ref b15)])) rfl (by rw [hml]; rfl) (Steps.refl _) (a := b15) (argsL := [(.ref b12)]) (rest := [(.ref b15)]) (lenOf pd_s rfl) rfl (by show 2 * 0 + _ ≤ _; exact Nat.le_of_eq rfl) (hb hby at_119) (fun _ _ => ⟨rfl, e15, (by decide : 2 + 1 ≤ _), (by decide : 28 + 24 ≤ _)⟩)
      dsimp only [Pt.U, Pt.locs, Pt.cells, Pt.slots] at X16 l16 y16 z16 st16 hQ16
      subst l16 y16 z16
      obtain ⟨rfl, N16, K16, Ex16, Fc16, tt16, kb16, -, -, -, Fv16, Kb16⟩ := hQ16
      refine own_thru st16 ?_
      show own_E _ _ _ _ _ _ _ T16 (mkF m 122 #[.val (.long p1), .second, .val (.int p2), .val (.int p3), .val (.long (Int64.ofNat N)), .second, .val (.int (Int32.ofNat en)), .val (.ref b12), .val (.int (Int32.ofNat st)), .unset] [(.ref b15)])
      have NA16 := Fr.app NA13 N16
      have ZA16 : n0 ≤ T16.heap.size := Nat.le_trans Z15 K16.1
      have OO16 : Old Z n0 T16.heap := OS.keep K16 (allS gz_b15 all0)
      have EX16 := OO16.2
      have CX16 : own_Cx Z T16.heap z fm := ⟨CX.1.ext EX16, CX.2.1, CX.2.2.1.ext EX16, CX.2.2.2⟩
      have TX16 : own_Tx Z T16.heap b15 ((List.range 24).map f) := ⟨tt16, kb16, Ex16, Fv16, Fc16, by rw [own_len]; exact Kb16⟩
      refine own_via (fun t => XS.astore X16.here hx rfl (hb hby at_122) rfl rfl (l' := #[.val (.long p1), .second, .val (.int p2), .val (.int p3), .val (.long (Int64.ofNat N)), .second, .val (.int (Int32.ofNat en)), .val (.ref b12), .val (.int (Int32.ofNat st)), .val (.ref b15)]) rfl) ?_
      show own_E _ _ _ _ _ _ _ T16 (mkF m 124 #[.val (.long p1), .second, .val (.int p2), .val (.int p3), .val (.long (Int64.ofNat N)), .second, .val (.int (Int32.ofNat en)), .val (.ref b12), .val (.int (Int32.ofNat st)), .val (.ref b15)] [])
      refine own_via (fun t => XS.aload X16.here hx rfl (hb hby at_124) rfl rfl) ?_
      show own_E _ _ _ _ _ _ _ T16 (mkF m 126 #[.val (.long p1), .second, .val (.int p2), .val (.int p3), .val (.long (Int64.ofNat N)), .second, .val (.int (Int32.ofNat en)), .val (.ref b12), .val (.int (Int32.ofNat st)), .val (.ref b15)] [(.ref b15)])
      refine own_via (fun t => XS.iload X16.here hx rfl (hb hby at_126) rfl) ?_
      show own_E _ _ _ _ _ _ _ T16 (mkF m 128 #[.val (.long p1), .second, .val (.int p2), .val (.int p3), .val (.long (Int64.ofNat N)), .second, .val (.int (Int32.ofNat en)), .val (.ref b12), .val (.int (Int32.ofNat st)), .val (.ref b15)] [(.int (Int32.ofNat st)), (.ref b15)])
      refine own_via (fun t => XS.iload X16.here hx rfl (hb hby at_128) rfl) ?_
      show own_E _ _ _ _ _ _ _ T16 (mkF m 130 #[.val (.long p1), .second, .val (.int p2), .val (.int p3), .val (.long (Int64.ofNat N)), .second, .val (.int (Int32.ofNat en)), .val (.ref b12), .val (.int (Int32.ofNat st)), .val (.ref b15)] [(.int (Int32.ofNat en)), (.int (Int32.ofNat st)), (.ref b15)])
      obtain ⟨_, _, ⟨T17, L17, k17, n17⟩, -, X17, ⟨Lc17, hQ17, l17, y17, z17⟩, st17⟩ := Jvm.LawKit.callS X16 hx (y := (⟨"com/example/poruka/poruka/rules/Amounts", "comma", "(Ljava/lang/CharSequence;II)I"⟩ : MethodName)) hown (mvT hZ (hw _ (List.mem_of_getElem? (i := 37) rfl))) (mvT hZ (hw _ (List.mem_of_getElem? (i := 38) rfl))) (mvT hZ (hw _ (List.mem_of_getElem? (i := 4) rfl))) (mvT hZ (hw _ (List.mem_of_getElem? (i := 39) rfl))) (by decide) (backOf (W := 0) (rm4 l Z a0 hw [] b15 f z fm hf N en st he1 he2 G T16.heap n0 ZA16 TX16 CX16) hZ (hw _ (List.mem_of_getElem? (i := 39) rfl)) (hw _ (List.mem_of_getElem? (i := 4) rfl)) (by decide) (by decide)) (g := (mkF m 130 #[.val (.long p1), .second, .val (.int p2), .val (.int p3), .val (.long (Int64.ofNat N)), .second, .val (.int (Int32.ofNat en)), .val (.ref b12), .val (.int (Int32.ofNat st)), .val (.ref b15)] [(.int (Int32.ofNat en)), (.int (Int32.ofNat st)), (.ref b15)])) rfl (by rw [hml]; rfl) (argsL := [(.ref b15), (.int (Int32.ofNat st)), (.int (Int32.ofNat en))]) (rest := []) (lenOf pd_4 rfl) rfl (by show 2 * 0 + _ ≤ _; exact Nat.le_of_eq rfl) (hb hby at_130) (fun _ _ => ⟨rfl, (rfl : T16.heap = _), (by decide : 3 + 0 ≤ _), (by decide : 52 + 0 ≤ _)⟩)
      dsimp only [Pt.U, Pt.locs, Pt.cells, Pt.slots] at X17 l17 y17 z17 st17 hQ17
      subst l17 y17 z17
      obtain ⟨rfl, N17, e17⟩ := hQ17
      refine own_via st17 ?_
      show own_E _ _ _ _ _ _ _ T17 (mkF m 133 #[.val (.long p1), .second, .val (.int p2), .val (.int p3), .val (.long (Int64.ofNat N)), .second, .val (.int (Int32.ofNat en)), .val (.ref b12), .val (.int (Int32.ofNat st)), .val (.ref b15)] [(.int (Int32.ofNat (en - 3)))])
      have NA17 := Fr.app NA16 N17
      refine own_via (fun t => XS.iload X17.here hx rfl (hb hby at_133) rfl) ?_
      show own_E _ _ _ _ _ _ _ T17 (mkF m 135 #[.val (.long p1), .second, .val (.int p2), .val (.int p3), .val (.long (Int64.ofNat N)), .second, .val (.int (Int32.ofNat en)), .val (.ref b12), .val (.int (Int32.ofNat st)), .val (.ref b15)] [(.int (Int32.ofNat en)), (.int (Int32.ofNat (en - 3)))])
      refine own_via (fun t => XS.iconst X17.here hx rfl (hb hby at_135)) ?_
      show own_E _ _ _ _ _ _ _ T17 (mkF m 136 #[.val (.long p1), .second, .val (.int p2), .val (.int p3), .val (.long (Int64.ofNat N)), .second, .val (.int (Int32.ofNat en)), .val (.ref b12), .val (.int (Int32.ofNat st)), .val (.ref b15)] [(.int (3 : Int32)), (.int (Int32.ofNat en)), (.int (Int32.ofNat (en - 3)))])
      refine own_via (fun t => XS.isub X17.here hx rfl (hb hby at_136) rfl) ?_
      show own_E _ _ _ _ _ _ _ T17 (mkF m 137 #[.val (.long p1), .second, .val (.int p2), .val (.int p3), .val (.long (Int64.ofNat N)), .second, .val (.int (Int32.ofNat en)), .val (.ref b12), .val (.int (Int32.ofNat st)), .val (.ref b15)] [(.int ((Int32.ofNat en) - (3 : Int32))), (.int (Int32.ofNat (en - 3)))])
      rw [show Int32.ofNat en - (3 : Int32) = Int32.ofNat (en - 3) from own_sub (k := 3) (by omega) (by omega)]
      show own_E _ _ _ _ _ _ _ T17 (mkF m 137 #[.val (.long p1), .second, .val (.int p2), .val (.int p3), .val (.long (Int64.ofNat N)), .second, .val (.int (Int32.ofNat en)), .val (.ref b12), .val (.int (Int32.ofNat st)), .val (.ref b15)] [(.int (Int32.ofNat (en - 3))), (.int (Int32.ofNat (en - 3)))])
      refine own_via (fun t => XS.icmpYes X17.here hx rfl (pc0 := 137) (pc' := 142) rfl (hb hby at_137) rfl (teq rfl).1 (by decide) (by decide)) ?_
      show own_E _ _ _ _ _ _ _ T17 (mkF m 142 #[.val (.long p1), .second, .val (.int p2), .val (.int p3), .val (.long (Int64.ofNat N)), .second, .val (.int (Int32.ofNat en)), .val (.ref b12), .val (.int (Int32.ofNat st)), .val (.ref b15)] [])
      refine own_via (fun t => XS.aload X17.here hx rfl (hb hby at_142) rfl rfl) ?_
      show own_E _ _ _ _ _ _ _ T17 (mkF m 144 #[.val (.long p1), .second, .val (.int p2), .val (.int p3), .val (.long (Int64.ofNat N)), .second, .val (.int (Int32.ofNat en)), .val (.ref b12), .val (.int (Int32.ofNat st)), .val (.ref b15)] [(.ref b15)])
      refine own_via (fun t => XS.iload X17.here hx rfl (hb hby at_144) rfl) ?_
      show own_E _ _ _ _ _ _ _ T17 (mkF m 146 #[.val (.long p1), .second, .val (.int p2), .val (.int p3), .val (.long (Int64.ofNat N)), .second, .val (.int (Int32.ofNat en)), .val (.ref b12), .val (.int (Int32.ofNat st)), .val (.ref b15)] [(.int (Int32.ofNat st)), (.ref b15)])
      refine own_via (fun t => XS.iload X17.here hx rfl (hb hby at_146) rfl) ?_
      show own_E _ _ _ _ _ _ _ T17 (mkF m 148 #[.val (.long p1), .second, .val (.int p2), .val (.int p3), .val (.long (Int64.ofNat N)), .second, .val (.int (Int32.ofNat en)), .val (.ref b12), .val (.int (Int32.ofNat st)), .val (.ref b15)] [(.int (Int32.ofNat en)), (.int (Int32.ofNat st)), (.ref b15)])
      refine own_via (fun t => XS.iload X17.here hx rfl (hb hby at_148) rfl) ?_
      show own_E _ _ _ _ _ _ _ T17 (mkF m 150 #[.val (.long p1), .second, .val (.int p2), .val (.int p3), .val (.long (Int64.ofNat N)), .second, .val (.int (Int32.ofNat en)), .val (.ref b12), .val (.int (Int32.ofNat st)), .val (.ref b15)] [(.int (Int32.ofNat en)), (.int (Int32.ofNat en)), (.int (Int32.ofNat st)), (.ref b15)])
      refine own_via (fun t => XS.iconst X17.here hx rfl (hb hby at_150)) ?_
      show own_E _ _ _ _ _ _ _ T17 (mkF m 151 #[.val (.long p1), .second, .val (.int p2), .val (.int p3), .val (.long (Int64.ofNat N)), .second, .val (.int (Int32.ofNat en)), .val (.ref b12), .val (.int (Int32.ofNat st)), .val (.ref b15)] [(.int (3 : Int32)), (.int (Int32.ofNat en)), (.int (Int32.ofNat en)), (.int (Int32.ofNat st)), (.ref b15)])
      refine own_via (fun t => XS.isub X17.here hx rfl (hb hby at_151) rfl) ?_
      show own_E _ _ _ _ _ _ _ T17 (mkF m 152 #[.val (.long p1), .second, .val (.int p2), .val (.int p3), .val (.long (Int64.ofNat N)), .second, .val (.int (Int32.ofNat en)), .val (.ref b12), .val (.int (Int32.ofNat st)), .val (.ref b15)] [(.int ((Int32.ofNat en) - (3 : Int32))), (.int (Int32.ofNat en)), (.int (Int32.ofNat st)), (.ref b15)])
      rw [show Int32.ofNat en - (3 : Int32) = Int32.ofNat (en - 3) from own_sub (k := 3) (by omega) (by omega)]
      show own_E _ _ _ _ _ _ _ T17 (mkF m 152 #[.val (.long p1), .second, .val (.int p2), .val (.int p3), .val (.long (Int64.ofNat N)), .second, .val (.int (Int32.ofNat en)), .val (.ref b12), .val (.int (Int32.ofNat st)), .val (.ref b15)] [(.int (Int32.ofNat (en - 3))), (.int (Int32.ofNat en)), (.int (Int32.ofNat st)), (.ref b15)])
      obtain ⟨_, _, ⟨T18, L18, k18, n18⟩, -, X18, ⟨Lc18, hQ18, l18, y18, z18⟩, st18⟩ := Jvm.LawKit.callS X17 hx (y := (⟨"com/example/poruka/poruka/rules/Amounts", "hundredths", "(Ljava/lang/CharSequence;III)J"⟩ : MethodName)) hown (mvT hZ (hw _ (List.mem_of_getElem? (i := 74) rfl))) (mvT hZ (hw _ (List.mem_of_getElem? (i := 75) rfl))) (mvT hZ (hw _ (List.mem_of_getElem? (i := 4) rfl))) (mvT hZ (hw _ (List.mem_of_getElem? (i := 76) rfl))) (by decide) (backOf (W := 0) (rm5 l Z a0 hw [] b15 f z fm hf N en st he1 he2 G T16.heap n0 ZA16 TX16 CX16) hZ (hw _ (List.mem_of_getElem? (i := 76) rfl)) (hw _ (List.mem_of_getElem? (i := 4) rfl)) (by decide) (by decide)) (g := (mkF m 152 #[.val (.long p1), .second, .val (.int p2), .val (.int p3), .val (.long (Int64.ofNat N)), .second, .val (.int (Int32.ofNat en)), .val (.ref b12), .val (.int (Int32.ofNat st)), .val (.ref b15)] [(.int (Int32.ofNat (en - 3))), (.int (Int32.ofNat en)), (.int (Int32.ofNat st)), (.ref b15)])) rfl (by rw [hml]; rfl) (argsL := [(.ref b15), (.int (Int32.ofNat st)), (.int (Int32.ofNat en)), (.int (Int32.ofNat (en - 3)))]) (rest := []) (lenOf pd_5 rfl) rfl (by show 2 * 0 + _ ≤ _; exact Nat.le_of_eq rfl) (hb hby at_152) (fun _ _ => ⟨rfl, e17, (by decide : 3 + 0 ≤ _), (by decide : 52 + 0 ≤ _)⟩)
      dsimp only [Pt.U, Pt.locs, Pt.cells, Pt.slots] at X18 l18 y18 z18 st18 hQ18
      subst l18 y18 z18
      obtain ⟨rfl, N18, e18⟩ := hQ18
      refine own_via st18 ?_
      show own_E _ _ _ _ _ _ _ T18 (mkF m 155 #[.val (.long p1), .second, .val (.int p2), .val (.int p3), .val (.long (Int64.ofNat N)), .second, .val (.int (Int32.ofNat en)), .val (.ref b12), .val (.int (Int32.ofNat st)), .val (.ref b15)] [(.long (Int64.ofNat N))])
      have NA18 := Fr.app NA17 N18
      refine own_via (fun t => XS.lload X18.here hx rfl (hb hby at_155) rfl) ?_
      show own_E _ _ _ _ _ _ _ T18 (mkF m 157 #[.val (.long p1), .second, .val (.int p2), .val (.int p3), .val (.long (Int64.ofNat N)), .second, .val (.int (Int32.ofNat en)), .val (.ref b12), .val (.int (Int32.ofNat st)), .val (.ref b15)] [(.long (Int64.ofNat N)), (.long (Int64.ofNat N))])
      refine own_via (fun t => XS.lcmp X18.here hx rfl (hb hby at_157) rfl) ?_
      show own_E _ _ _ _ _ _ _ T18 (mkF m 158 #[.val (.long p1), .second, .val (.int p2), .val (.int p3), .val (.long (Int64.ofNat N)), .second, .val (.int (Int32.ofNat en)), .val (.ref b12), .val (.int (Int32.ofNat st)), .val (.ref b15)] [(.int (lcmpW (Int64.ofNat N) (Int64.ofNat N)))])
      refine own_via (fun t => XS.ifNo X18.here hx rfl (hb hby at_158) rfl ((if0 _ _).trans (teq ((lw_eq _ _).mpr rfl)).2)) ?_
      show own_E _ _ _ _ _ _ _ T18 (mkF m 161 #[.val (.long p1), .second, .val (.int p2), .val (.int p3), .val (.long (Int64.ofNat N)), .second, .val (.int (Int32.ofNat en)), .val (.ref b12), .val (.int (Int32.ofNat st)), .val (.ref b15)] [])
      refine own_via (fun t => XS.iconst X18.here hx rfl (hb hby at_161)) ?_
      show own_E _ _ _ _ _ _ _ T18 (mkF m 162 #[.val (.long p1), .second, .val (.int p2), .val (.int p3), .val (.long (Int64.ofNat N)), .second, .val (.int (Int32.ofNat en)), .val (.ref b12), .val (.int (Int32.ofNat st)), .val (.ref b15)] [(.int (1 : Int32))])
      refine own_via (fun t => XS.goto X18.here hx rfl (pc0 := 162) (pc' := 166) rfl (hb hby at_162) (by decide) (by decide)) ?_
      show own_E _ _ _ _ _ _ _ T18 (mkF m 166 #[.val (.long p1), .second, .val (.int p2), .val (.int p3), .val (.long (Int64.ofNat N)), .second, .val (.int (Int32.ofNat en)), .val (.ref b12), .val (.int (Int32.ofNat st)), .val (.ref b15)] [(.int (1 : Int32))])
      exact own_retN X18 hx hlk Bd.returns (Or.inl rfl) (hb hby at_166) (by decide) (by decide) ⟨rfl, NA18⟩
    · refine own_via (fun t => XS.icmpYes X13.here hx rfl (pc0 := 99) (pc' := 113) rfl (hb hby at_99) rfl (feq c99_14).2 (by decide) (by decide)) ?_
      show own_E _ _ _ _ _ _ _ T13 (mkF m 113 #[.val (.long p1), .second, .val (.int p2), .val (.int p3), .val (.long (Int64.ofNat N)), .second, .val (.int (Int32.ofNat en)), .val (.ref b12), .val (.int (Int32.ofNat st)), .unset] [])
      obtain ⟨T19, h19, X19, e19, E19, A19, D19, -, st19⟩ := newO X13 hx hZ hown (hw _ (List.mem_of_getElem? (i := 8) rfl)) (hw _ (List.mem_of_getElem? (i := 9) rfl)) (hw _ (List.mem_of_getElem? (i := 10) rfl)) (rfl : T13.heap = _) (g := (mkF m 113 #[.val (.long p1), .second, .val (.int p2), .val (.int p3), .val (.long (Int64.ofNat N)), .second, .val (.int (Int32.ofNat en)), .val (.ref b12), .val (.int (Int32.ofNat st)), .unset] [])) rfl (hb hby at_113) (by decide) (by decide)
      obtain ⟨b19, g19⟩ : ∃ z, z = T13.heap.size := ⟨_, rfl⟩
      rw [← g19] at A19 D19 st19
      have gz_b19 : n0 ≤ b19 := Nat.le_trans ZA13 (Nat.le_of_eq g19.symm)
      have Z19 : n0 ≤ h19.size := Nat.le_trans ZA13 E19.1
      refine own_via st19 ?_
      show own_E _ _ _ _ _ _ _ T19 (mkF m 116 #[.val (.long p1), .second, .val (.int p2), .val (.int p3), .val (.long (Int64.ofNat N)), .second, .val (.int (Int32.ofNat en)), .val (.ref b12), .val (.int (Int32.ofNat st)), .unset] [(.ref b19)])
      refine own_via (fun t => XS.dup X19.here hx rfl (hb hby at_116) rfl rfl) ?_
      show own_E _ _ _ _ _ _ _ T19 (mkF m 117 #[.val (.long p1), .second, .val (.int p2), .val (.int p3), .val (.long (Int64.ofNat N)), .second, .val (.int (Int32.ofNat en)), .val (.ref b12), .val (.int (Int32.ofNat st)), .unset] [(.ref b19), (.ref b19)])
      refine own_via (fun t => XS.aload X19.here hx rfl (hb hby at_117) rfl rfl) ?_
      show own_E _ _ _ _ _ _ _ T19 (mkF m 119 #[.val (.long p1), .second, .val (.int p2), .val (.int p3), .val (.long (Int64.ofNat N)), .second, .val (.int (Int32.ofNat en)), .val (.ref b12), .val (.int (Int32.ofNat st)), .unset] [(.ref b12), (.ref b19), (.ref b19)])
      have F19 := F13.ext E19
      obtain ⟨kC, AV⟩ := own_arv F19 hf
      have Fv : Fld Z h19 b19 "java/lang/String" "value" "[B" .null := D19 (Or.inr (hw _ (List.mem_of_getElem? (i := 36) rfl))) (ty := .array .byte) (by decide)
      have Fc : Fld Z h19 b19 "java/lang/String" "coder" "B" (.int 0) := D19 (Or.inr (hw _ (List.mem_of_getElem? (i := 34) rfl))) (ty := .byte) (by decide)
      have OS := OO13.ext E19
      obtain ⟨_, _, ⟨T20, L20, k20, n20⟩, -, X20, ⟨Lc20, hQ20, l20, y20, z20⟩, st20⟩ := X19.specialBack hx (y := (⟨"java/lang/String", "<init>", "([C)V"⟩ : MethodName)) rfl hown (mvT hZ (hw _ (List.mem_of_getElem? (i := 11) rfl))) (mvT hZ (hw _ (List.mem_of_getElem? (i := 12) rfl))) (mvT hZ (hw _ (List.mem_of_getElem? (i := 13) rfl))) (by decide) (StrChars.Road.backV (W := 1) hZ (own_ws hw) (kI := 4) (hw _ (List.mem_of_getElem? (i := 9) rfl)) (cs := (List.range 24).map f) (bs := ((List.range 24).map f).map (fun c => c.toInt8.toInt32)) (n := 24) gz_b19 Z19 A19 Fv Fc AV (CX.1.ext OS.2) CX.2.1 (own_len f) rfl (by decide) (by decide) (fun c hc => by obtain ⟨i, hi, rfl⟩ := List.mem_map.mp hc; exact hf i (List.mem_range.mp hi)) rfl (by decide) (by decide)) (g := (mkF m 119 #[.val (.long p1), .second, .val (.int p2), .val (.int p3), .val (.long (Int64.ofNat N)), .second, .val (.int (Int32.ofNat en)), .val (.ref b12), .val (.int (Int32.ofNat st)), .unset] [(.ref b12), (.ref b19), (.ref b19)])) rfl (by rw [hml]; rfl) (Steps.refl _) (a := b19) (argsL := [(.ref b12)]) (rest := [(.ref b19)]) (lenOf pd_s rfl) rfl (by show 2 * 0 + _ ≤ _; exact Nat.le_of_eq rfl) (hb hby at_119) (fun _ _ => ⟨rfl, e19, (by decide : 2 + 1 ≤ _), (by decide : 28 + 24 ≤ _)⟩)
      dsimp only [Pt.U, Pt.locs, Pt.cells, Pt.slots] at X20 l20 y20 z20 st20 hQ20
      subst l20 y20 z20
      obtain ⟨rfl, N20, K20, Ex20, Fc20, tt20, kb20, -, -, -, Fv20, Kb20⟩ := hQ20
      refine own_thru st20 ?_
      show own_E _ _ _ _ _ _ _ T20 (mkF m 122 #[.val (.long p1), .second, .val (.int p2), .val (.int p3), .val (.long (Int64.ofNat N)), .second, .val (.int (Int32.ofNat en)), .val (.ref b12), .val (.int (Int32.ofNat st)), .unset] [(.ref b19)])
      have NA20 := Fr.app NA13 N20
      have ZA20 : n0 ≤ T20.heap.size := Nat.le_trans Z19 K20.1
      have OO20 : Old Z n0 T20.heap := OS.keep K20 (allS gz_b19 all0)
      have EX20 := OO20.2
      have CX20 : own_Cx Z T20.heap z fm := ⟨CX.1.ext EX20, CX.2.1, CX.2.2.1.ext EX20, CX.2.2.2⟩
      have TX20 : own_Tx Z T20.heap b19 ((List.range 24).map f) := ⟨tt20, kb20, Ex20, Fv20, Fc20, by rw [own_len]; exact Kb20⟩
      refine own_via (fun t => XS.astore X20.here hx rfl (hb hby at_122) rfl rfl (l' := #[.val (.long p1), .second, .val (.int p2), .val (.int p3), .val (.long (Int64.ofNat N)), .second, .val (.int (Int32.ofNat en)), .val (.ref b12), .val (.int (Int32.ofNat st)), .val (.ref b19)]) rfl) ?_
      show own_E _ _ _ _ _ _ _ T20 (mkF m 124 #[.val (.long p1), .second, .val (.int p2), .val (.int p3), .val (.long (Int64.ofNat N)), .second, .val (.int (Int32.ofNat en)), .val (.ref b12), .val (.int (Int32.ofNat st)), .val (.ref b19)] [])
      refine own_via (fun t => XS.aload X20.here hx rfl (hb hby at_124) rfl rfl) ?_
      show own_E _ _ _ _ _ _ _ T20 (mkF m 126 #[.val (.long p1), .second, .val (.int p2), .val (.int p3), .val (.long (Int64.ofNat N)), .second, .val (.int (Int32.ofNat en)), .val (.ref b12), .val (.int (Int32.ofNat st)), .val (.ref b19)] [(.ref b19)])
      refine own_via (fun t => XS.iload X20.here hx rfl (hb hby at_126) rfl) ?_
      show own_E _ _ _ _ _ _ _ T20 (mkF m 128 #[.val (.long p1), .second, .val (.int p2), .val (.int p3), .val (.long (Int64.ofNat N)), .second, .val (.int (Int32.ofNat en)), .val (.ref b12), .val (.int (Int32.ofNat st)), .val (.ref b19)] [(.int (Int32.ofNat st)), (.ref b19)])
      refine own_via (fun t => XS.iload X20.here hx rfl (hb hby at_128) rfl) ?_
      show own_E _ _ _ _ _ _ _ T20 (mkF m 130 #[.val (.long p1), .second, .val (.int p2), .val (.int p3), .val (.long (Int64.ofNat N)), .second, .val (.int (Int32.ofNat en)), .val (.ref b12), .val (.int (Int32.ofNat st)), .val (.ref b19)] [(.int (Int32.ofNat en)), (.int (Int32.ofNat st)), (.ref b19)])
      obtain ⟨_, _, ⟨T21, L21, k21, n21⟩, -, X21, ⟨Lc21, hQ21, l21, y21, z21⟩, st21⟩ := Jvm.LawKit.callS X20 hx (y := (⟨"com/example/poruka/poruka/rules/Amounts", "comma", "(Ljava/lang/CharSequence;II)I"⟩ : MethodName)) hown (mvT hZ (hw _ (List.mem_of_getElem? (i := 37) rfl))) (mvT hZ (hw _ (List.mem_of_getElem? (i := 38) rfl))) (mvT hZ (hw _ (List.mem_of_getElem? (i := 4) rfl))) (mvT hZ (hw _ (List.mem_of_getElem? (i := 39) rfl))) (by decide) (backOf (W := 0) (rm4 l Z a0 hw [] b19 f z fm hf N en st he1 he2 G T20.heap n0 ZA20 TX20 CX20) hZ (hw _ (List.mem_of_getElem? (i := 39) rfl)) (hw _ (List.mem_of_getElem? (i := 4) rfl)) (by decide) (by decide)) (g := (mkF m 130 #[.val (.long p1), .second, .val (.int p2), .val (.int p3), .val (.long (Int64.ofNat N)), .second, .val (.int (Int32.ofNat en)), .val (.ref b12), .val (.int (Int32.ofNat st)), .val (.ref b19)] [(.int (Int32.ofNat en)), (.int (Int32.ofNat st)), (.ref b19)])) rfl (by rw [hml]; rfl) (argsL := [(.ref b19), (.int (Int32.ofNat st)), (.int (Int32.ofNat en))]) (rest := []) (lenOf pd_4 rfl) rfl (by show 2 * 0 + _ ≤ _; exact Nat.le_of_eq rfl) (hb hby at_130) (fun _ _ => ⟨rfl, (rfl : T20.heap = _), (by decide : 3 + 0 ≤ _), (by decide : 52 + 0 ≤ _)⟩)
      dsimp only [Pt.U, Pt.locs, Pt.cells, Pt.slots] at X21 l21 y21 z21 st21 hQ21
      subst l21 y21 z21
      obtain ⟨rfl, N21, e21⟩ := hQ21
      refine own_via st21 ?_
      show own_E _ _ _ _ _ _ _ T21 (mkF m 133 #[.val (.long p1), .second, .val (.int p2), .val (.int p3), .val (.long (Int64.ofNat N)), .second, .val (.int (Int32.ofNat en)), .val (.ref b12), .val (.int (Int32.ofNat st)), .val (.ref b19)] [(.int (Int32.ofNat (en - 3)))])
      have NA21 := Fr.app NA20 N21
      refine own_via (fun t => XS.iload X21.here hx rfl (hb hby at_133) rfl) ?_
      show own_E _ _ _ _ _ _ _ T21 (mkF m 135 #[.val (.long p1), .second, .val (.int p2), .val (.int p3), .val (.long (Int64.ofNat N)), .second, .val (.int (Int32.ofNat en)), .val (.ref b12), .val (.int (Int32.ofNat st)), .val (.ref b19)] [(.int (Int32.ofNat en)), (.int (Int32.ofNat (en - 3)))])
      refine own_via (fun t => XS.iconst X21.here hx rfl (hb hby at_135)) ?_
      show own_E _ _ _ _ _ _ _ T21 (mkF m 136 #[.val (.long p1), .second, .val (.int p2), .val (.int p3), .val (.long (Int64.ofNat N)), .second, .val (.int (Int32.ofNat en)), .val (.ref b12), .val (.int (Int32.ofNat st)), .val (.ref b19)] [(.int (3 : Int32)), (.int (Int32.ofNat en)), (.int (Int32.ofNat (en - 3)))])
      refine own_via (fun t => XS.isub X21.here hx rfl (hb hby at_136) rfl) ?_
      show own_E _ _ _ _ _ _ _ T21 (mkF m 137 #[.val (.long p1), .second, .val (.int p2), .val (.int p3), .val (.long (Int64.ofNat N)), .second, .val (.int (Int32.ofNat en)), .val (.ref b12), .val (.int (Int32.ofNat st)), .val (.ref b19)] [(.int ((Int32.ofNat en) - (3 : Int32))), (.int (Int32.ofNat (en - 3)))])
      rw [show Int32.ofNat en - (3 : Int32) = Int32.ofNat (en - 3) from own_sub (k := 3) (by omega) (by omega)]
      show own_E _ _ _ _ _ _ _ T21 (mkF m 137 #[.val (.long p1), .second, .val (.int p2), .val (.int p3), .val (.long (Int64.ofNat N)), .second, .val (.int (Int32.ofNat en)), .val (.ref b12), .val (.int (Int32.ofNat st)), .val (.ref b19)] [(.int (Int32.ofNat (en - 3))), (.int (Int32.ofNat (en - 3)))])
      refine own_via (fun t => XS.icmpYes X21.here hx rfl (pc0 := 137) (pc' := 142) rfl (hb hby at_137) rfl (teq rfl).1 (by decide) (by decide)) ?_
      show own_E _ _ _ _ _ _ _ T21 (mkF m 142 #[.val (.long p1), .second, .val (.int p2), .val (.int p3), .val (.long (Int64.ofNat N)), .second, .val (.int (Int32.ofNat en)), .val (.ref b12), .val (.int (Int32.ofNat st)), .val (.ref b19)] [])
      refine own_via (fun t => XS.aload X21.here hx rfl (hb hby at_142) rfl rfl) ?_
      show own_E _ _ _ _ _ _ _ T21 (mkF m 144 #[.val (.long p1), .second, .val (.int p2), .val (.int p3), .val (.long (Int64.ofNat N)), .second, .val (.int (Int32.ofNat en)), .val (.ref b12), .val (.int (Int32.ofNat st)), .val (.ref b19)] [(.ref b19)])
      refine own_via (fun t => XS.iload X21.here hx rfl (hb hby at_144) rfl) ?_
      show own_E _ _ _ _ _ _ _ T21 (mkF m 146 #[.val (.long p1), .second, .val (.int p2), .val (.int p3), .val (.long (Int64.ofNat N)), .second, .val (.int (Int32.ofNat en)), .val (.ref b12), .val (.int (Int32.ofNat st)), .val (.ref b19)] [(.int (Int32.ofNat st)), (.ref b19)])
      refine own_via (fun t => XS.iload X21.here hx rfl (hb hby at_146) rfl) ?_
      show own_E _ _ _ _ _ _ _ T21 (mkF m 148 #[.val (.long p1), .second, .val (.int p2), .val (.int p3), .val (.long (Int64.ofNat N)), .second, .val (.int (Int32.ofNat en)), .val (.ref b12), .val (.int (Int32.ofNat st)), .val (.ref b19)] [(.int (Int32.ofNat en)), (.int (Int32.ofNat st)), (.ref b19)])
      refine own_via (fun t => XS.iload X21.here hx rfl (hb hby at_148) rfl) ?_
      show own_E _ _ _ _ _ _ _ T21 (mkF m 150 #[.val (.long p1), .second, .val (.int p2), .val (.int p3), .val (.long (Int64.ofNat N)), .second, .val (.int (Int32.ofNat en)), .val (.ref b12), .val (.int (Int32.ofNat st)), .val (.ref b19)] [(.int (Int32.ofNat en)), (.int (Int32.ofNat en)), (.int (Int32.ofNat st)), (.ref b19)])
      refine own_via (fun t => XS.iconst X21.here hx rfl (hb hby at_150)) ?_
      show own_E _ _ _ _ _ _ _ T21 (mkF m 151 #[.val (.long p1), .second, .val (.int p2), .val (.int p3), .val (.long (Int64.ofNat N)), .second, .val (.int (Int32.ofNat en)), .val (.ref b12), .val (.int (Int32.ofNat st)), .val (.ref b19)] [(.int (3 : Int32)), (.int (Int32.ofNat en)), (.int (Int32.ofNat en)), (.int (Int32.ofNat st)), (.ref b19)])
      refine own_via (fun t => XS.isub X21.here hx rfl (hb hby at_151) rfl) ?_
      show own_E _ _ _ _ _ _ _ T21 (mkF m 152 #[.val (.long p1), .second, .val (.int p2), .val (.int p3), .val (.long (Int64.ofNat N)), .second, .val (.int (Int32.ofNat en)), .val (.ref b12), .val (.int (Int32.ofNat st)), .val (.ref b19)] [(.int ((Int32.ofNat en) - (3 : Int32))), (.int (Int32.ofNat en)), (.int (Int32.ofNat st)), (.ref b19)])
      rw [show Int32.ofNat en - (3 : Int32) = Int32.ofNat (en - 3) from own_sub (k := 3) (by omega) (by omega)]
      show own_E _ _ _ _ _ _ _ T21 (mkF m 152 #[.val (.long p1), .second, .val (.int p2), .val (.int p3), .val (.long (Int64.ofNat N)), .second, .val (.int (Int32.ofNat en)), .val (.ref b12), .val (.int (Int32.ofNat st)), .val (.ref b19)] [(.int (Int32.ofNat (en - 3))), (.int (Int32.ofNat en)), (.int (Int32.ofNat st)), (.ref b19)])
      obtain ⟨_, _, ⟨T22, L22, k22, n22⟩, -, X22, ⟨Lc22, hQ22, l22, y22, z22⟩, st22⟩ := Jvm.LawKit.callS X21 hx (y := (⟨"com/example/poruka/poruka/rules/Amounts", "hundredths", "(Ljava/lang/CharSequence;III)J"⟩ : MethodName)) hown (mvT hZ (hw _ (List.mem_of_getElem? (i := 74) rfl))) (mvT hZ (hw _ (List.mem_of_getElem? (i := 75) rfl))) (mvT hZ (hw _ (List.mem_of_getElem? (i := 4) rfl))) (mvT hZ (hw _ (List.mem_of_getElem? (i := 76) rfl))) (by decide) (backOf (W := 0) (rm5 l Z a0 hw [] b19 f z fm hf N en st he1 he2 G T20.heap n0 ZA20 TX20 CX20) hZ (hw _ (List.mem_of_getElem? (i := 76) rfl)) (hw _ (List.mem_of_getElem? (i := 4) rfl)) (by decide) (by decide)) (g := (mkF m 152 #[.val (.long p1), .second, .val (.int p2), .val (.int p3), .val (.long (Int64.ofNat N)), .second, .val (.int (Int32.ofNat en)), .val (.ref b12), .val (.int (Int32.ofNat st)), .val (.ref b19)] [(.int (Int32.ofNat (en - 3))), (.int (Int32.ofNat en)), (.int (Int32.ofNat st)), (.ref b19)])) rfl (by rw [hml]; rfl) (argsL := [(.ref b19), (.int (Int32.ofNat st)), (.int (Int32.ofNat en)), (.int (Int32.ofNat (en - 3)))]) (rest := []) (lenOf pd_5 rfl) rfl (by show 2 * 0 + _ ≤ _; exact Nat.le_of_eq rfl) (hb hby at_152) (fun _ _ => ⟨rfl, e21, (by decide : 3 + 0 ≤ _), (by decide : 52 + 0 ≤ _)⟩)
      dsimp only [Pt.U, Pt.locs, Pt.cells, Pt.slots] at X22 l22 y22 z22 st22 hQ22
      subst l22 y22 z22
      obtain ⟨rfl, N22, e22⟩ := hQ22
      refine own_via st22 ?_
      show own_E _ _ _ _ _ _ _ T22 (mkF m 155 #[.val (.long p1), .second, .val (.int p2), .val (.int p3), .val (.long (Int64.ofNat N)), .second, .val (.int (Int32.ofNat en)), .val (.ref b12), .val (.int (Int32.ofNat st)), .val (.ref b19)] [(.long (Int64.ofNat N))])
      have NA22 := Fr.app NA21 N22
      refine own_via (fun t => XS.lload X22.here hx rfl (hb hby at_155) rfl) ?_
      show own_E _ _ _ _ _ _ _ T22 (mkF m 157 #[.val (.long p1), .second, .val (.int p2), .val (.int p3), .val (.long (Int64.ofNat N)), .second, .val (.int (Int32.ofNat en)), .val (.ref b12), .val (.int (Int32.ofNat st)), .val (.ref b19)] [(.long (Int64.ofNat N)), (.long (Int64.ofNat N))])
      refine own_via (fun t => XS.lcmp X22.here hx rfl (hb hby at_157) rfl) ?_
      show own_E _ _ _ _ _ _ _ T22 (mkF m 158 #[.val (.long p1), .second, .val (.int p2), .val (.int p3), .val (.long (Int64.ofNat N)), .second, .val (.int (Int32.ofNat en)), .val (.ref b12), .val (.int (Int32.ofNat st)), .val (.ref b19)] [(.int (lcmpW (Int64.ofNat N) (Int64.ofNat N)))])
      refine own_via (fun t => XS.ifNo X22.here hx rfl (hb hby at_158) rfl ((if0 _ _).trans (teq ((lw_eq _ _).mpr rfl)).2)) ?_
      show own_E _ _ _ _ _ _ _ T22 (mkF m 161 #[.val (.long p1), .second, .val (.int p2), .val (.int p3), .val (.long (Int64.ofNat N)), .second, .val (.int (Int32.ofNat en)), .val (.ref b12), .val (.int (Int32.ofNat st)), .val (.ref b19)] [])
      refine own_via (fun t => XS.iconst X22.here hx rfl (hb hby at_161)) ?_
      show own_E _ _ _ _ _ _ _ T22 (mkF m 162 #[.val (.long p1), .second, .val (.int p2), .val (.int p3), .val (.long (Int64.ofNat N)), .second, .val (.int (Int32.ofNat en)), .val (.ref b12), .val (.int (Int32.ofNat st)), .val (.ref b19)] [(.int (1 : Int32))])
      refine own_via (fun t => XS.goto X22.here hx rfl (pc0 := 162) (pc' := 166) rfl (hb hby at_162) (by decide) (by decide)) ?_
      show own_E _ _ _ _ _ _ _ T22 (mkF m 166 #[.val (.long p1), .second, .val (.int p2), .val (.int p3), .val (.long (Int64.ofNat N)), .second, .val (.int (Int32.ofNat en)), .val (.ref b12), .val (.int (Int32.ofNat st)), .val (.ref b19)] [(.int (1 : Int32))])
      exact own_retN X22 hx hlk Bd.returns (Or.inl rfl) (hb hby at_166) (by decide) (by decide) ⟨rfl, NA22⟩
  · refine own_via (fun t => XS.ifYes X13.here hx rfl (pc0 := 60) (pc' := 75) rfl (hb hby at_60) rfl ((if0 _ _).trans (flt (fun q => hs0 ((own_lt (by decide) (by omega)).mp (show Int32.ofNat 0 < Int32.ofNat st from q)))).2.2.2) (by decide) (by decide)) ?_
    show own_E _ _ _ _ _ _ _ T13 (mkF m 75 #[.val (.long p1), .second, .val (.int p2), .val (.int p3), .val (.long (Int64.ofNat N)), .second, .val (.int (Int32.ofNat en)), .val (.ref b12), .val (.int (Int32.ofNat st)), .unset] [])
    refine own_via (fun t => XS.iload X13.here hx rfl (hb hby at_75) rfl) ?_
    show own_E _ _ _ _ _ _ _ T13 (mkF m 77 #[.val (.long p1), .second, .val (.int p2), .val (.int p3), .val (.long (Int64.ofNat N)), .second, .val (.int (Int32.ofNat en)), .val (.ref b12), .val (.int (Int32.ofNat st)), .unset] [(.int (Int32.ofNat en))])
    refine own_via (fun t => XS.bipush X13.here hx rfl (hb hby at_77)) ?_
    show own_E _ _ _ _ _ _ _ T13 (mkF m 79 #[.val (.long p1), .second, .val (.int p2), .val (.int p3), .val (.long (Int64.ofNat N)), .second, .val (.int (Int32.ofNat en)), .val (.ref b12), .val (.int (Int32.ofNat st)), .unset] [(.int (24 : Int32)), (.int (Int32.ofNat en))])
    refine own_via (fun t => XS.icmpNo X13.here hx rfl (hb hby at_79) rfl (tlt ((own_lt (by omega) (by decide)).mpr (show en < 24 by omega))).2.1) ?_
    show own_E _ _ _ _ _ _ _ T13 (mkF m 82 #[.val (.long p1), .second, .val (.int p2), .val (.int p3), .val (.long (Int64.ofNat N)), .second, .val (.int (Int32.ofNat en)), .val (.ref b12), .val (.int (Int32.ofNat st)), .unset] [])
    refine own_via (fun t => XS.aload X13.here hx rfl (hb hby at_82) rfl rfl) ?_
    show own_E _ _ _ _ _ _ _ T13 (mkF m 84 #[.val (.long p1), .second, .val (.int p2), .val (.int p3), .val (.long (Int64.ofNat N)), .second, .val (.int (Int32.ofNat en)), .val (.ref b12), .val (.int (Int32.ofNat st)), .unset] [(.ref b12)])
    refine own_via (fun t => XS.iload X13.here hx rfl (hb hby at_84) rfl) ?_
    show own_E _ _ _ _ _ _ _ T13 (mkF m 86 #[.val (.long p1), .second, .val (.int p2), .val (.int p3), .val (.long (Int64.ofNat N)), .second, .val (.int (Int32.ofNat en)), .val (.ref b12), .val (.int (Int32.ofNat st)), .unset] [(.int (Int32.ofNat en)), (.ref b12)])
    refine own_via (own_caload (jn := en) X13 hx hZ (rfl : T13.heap = _) F13 (by decide) (by omega) rfl (g := (mkF m 86 #[.val (.long p1), .second, .val (.int p2), .val (.int p3), .val (.long (Int64.ofNat N)), .second, .val (.int (Int32.ofNat en)), .val (.ref b12), .val (.int (Int32.ofNat st)), .unset] [(.int (Int32.ofNat en)), (.ref b12)])) rfl rfl (hb hby at_86)) ?_
    show own_E _ _ _ _ _ _ _ T13 (mkF m 87 #[.val (.long p1), .second, .val (.int p2), .val (.int p3), .val (.long (Int64.ofNat N)), .second, .val (.int (Int32.ofNat en)), .val (.ref b12), .val (.int (Int32.ofNat st)), .unset] [(.int (f en))])
    rw [G4 en (Nat.le_refl _)]
    show own_E _ _ _ _ _ _ _ T13 (mkF m 87 #[.val (.long p1), .second, .val (.int p2), .val (.int p3), .val (.long (Int64.ofNat N)), .second, .val (.int (Int32.ofNat en)), .val (.ref b12), .val (.int (Int32.ofNat st)), .unset] [(.int (0 : Int32))])
    refine own_via (fun t => XS.ifYes X13.here hx rfl (pc0 := 87) (pc' := 92) rfl (hb hby at_87) rfl ((if0 _ _).trans (teq (by decide : (0 : Int32) = (0 : Int32))).1) (by decide) (by decide)) ?_
    show own_E _ _ _ _ _ _ _ T13 (mkF m 92 #[.val (.long p1), .second, .val (.int p2), .val (.int p3), .val (.long (Int64.ofNat N)), .second, .val (.int (Int32.ofNat en)), .val (.ref b12), .val (.int (Int32.ofNat st)), .unset] [])
    refine own_via (fun t => XS.aload X13.here hx rfl (hb hby at_92) rfl rfl) ?_
    show own_E _ _ _ _ _ _ _ T13 (mkF m 94 #[.val (.long p1), .second, .val (.int p2), .val (.int p3), .val (.long (Int64.ofNat N)), .second, .val (.int (Int32.ofNat en)), .val (.ref b12), .val (.int (Int32.ofNat st)), .unset] [(.ref b12)])
    refine own_via (fun t => XS.iload X13.here hx rfl (hb hby at_94) rfl) ?_
    show own_E _ _ _ _ _ _ _ T13 (mkF m 96 #[.val (.long p1), .second, .val (.int p2), .val (.int p3), .val (.long (Int64.ofNat N)), .second, .val (.int (Int32.ofNat en)), .val (.ref b12), .val (.int (Int32.ofNat st)), .unset] [(.int (Int32.ofNat st)), (.ref b12)])
    refine own_via (own_caload (jn := st) X13 hx hZ (rfl : T13.heap = _) F13 (by decide) (by omega) rfl (g := (mkF m 96 #[.val (.long p1), .second, .val (.int p2), .val (.int p3), .val (.long (Int64.ofNat N)), .second, .val (.int (Int32.ofNat en)), .val (.ref b12), .val (.int (Int32.ofNat st)), .unset] [(.int (Int32.ofNat st)), (.ref b12)])) rfl rfl (hb hby at_96)) ?_
    show own_E _ _ _ _ _ _ _ T13 (mkF m 97 #[.val (.long p1), .second, .val (.int p2), .val (.int p3), .val (.long (Int64.ofNat N)), .second, .val (.int (Int32.ofNat en)), .val (.ref b12), .val (.int (Int32.ofNat st)), .unset] [(.int (f st))])
    refine own_via (fun t => XS.bipush X13.here hx rfl (hb hby at_97)) ?_
    show own_E _ _ _ _ _ _ _ T13 (mkF m 99 #[.val (.long p1), .second, .val (.int p2), .val (.int p3), .val (.long (Int64.ofNat N)), .second, .val (.int (Int32.ofNat en)), .val (.ref b12), .val (.int (Int32.ofNat st)), .unset] [(.int (48 : Int32)), (.int (f st))])
    by_cases c99_23 : (f st) = (48 : Int32)
    · refine own_via (fun t => XS.icmpNo X13.here hx rfl (hb hby at_99) rfl (teq c99_23).2) ?_
      show own_E _ _ _ _ _ _ _ T13 (mkF m 102 #[.val (.long p1), .second, .val (.int p2), .val (.int p3), .val (.long (Int64.ofNat N)), .second, .val (.int (Int32.ofNat en)), .val (.ref b12), .val (.int (Int32.ofNat st)), .unset] [])
      refine own_via (fun t => XS.iload X13.here hx rfl (hb hby at_102) rfl) ?_
      show own_E _ _ _ _ _ _ _ T13 (mkF m 104 #[.val (.long p1), .second, .val (.int p2), .val (.int p3), .val (.long (Int64.ofNat N)), .second, .val (.int (Int32.ofNat en)), .val (.ref b12), .val (.int (Int32.ofNat st)), .unset] [(.int (Int32.ofNat st))])
      refine own_via (fun t => XS.iload X13.here hx rfl (hb hby at_104) rfl) ?_
      show own_E _ _ _ _ _ _ _ T13 (mkF m 106 #[.val (.long p1), .second, .val (.int p2), .val (.int p3), .val (.long (Int64.ofNat N)), .second, .val (.int (Int32.ofNat en)), .val (.ref b12), .val (.int (Int32.ofNat st)), .unset] [(.int (Int32.ofNat en)), (.int (Int32.ofNat st))])
      refine own_via (fun t => XS.iconst X13.here hx rfl (hb hby at_106)) ?_
      show own_E _ _ _ _ _ _ _ T13 (mkF m 107 #[.val (.long p1), .second, .val (.int p2), .val (.int p3), .val (.long (Int64.ofNat N)), .second, .val (.int (Int32.ofNat en)), .val (.ref b12), .val (.int (Int32.ofNat st)), .unset] [(.int (4 : Int32)), (.int (Int32.ofNat en)), (.int (Int32.ofNat st))])
      refine own_via (fun t => XS.isub X13.here hx rfl (hb hby at_107) rfl) ?_
      show own_E _ _ _ _ _ _ _ T13 (mkF m 108 #[.val (.long p1), .second, .val (.int p2), .val (.int p3), .val (.long (Int64.ofNat N)), .second, .val (.int (Int32.ofNat en)), .val (.ref b12), .val (.int (Int32.ofNat st)), .unset] [(.int ((Int32.ofNat en) - (4 : Int32))), (.int (Int32.ofNat st))])
      rw [show Int32.ofNat en - (4 : Int32) = Int32.ofNat (en - 4) from own_sub (k := 4) (by omega) (by omega)]
      show own_E _ _ _ _ _ _ _ T13 (mkF m 108 #[.val (.long p1), .second, .val (.int p2), .val (.int p3), .val (.long (Int64.ofNat N)), .second, .val (.int (Int32.ofNat en)), .val (.ref b12), .val (.int (Int32.ofNat st)), .unset] [(.int (Int32.ofNat (en - 4))), (.int (Int32.ofNat st))])
      refine own_via (fun t => XS.icmpYes X13.here hx rfl (pc0 := 108) (pc' := 113) rfl (hb hby at_108) rfl (teq (by rw [show en - 4 = st from by have := G8 c99_23; omega])).1 (by decide) (by decide)) ?_
      show own_E _ _ _ _ _ _ _ T13 (mkF m 113 #[.val (.long p1), .second, .val (.int p2), .val (.int p3), .val (.long (Int64.ofNat N)), .second, .val (.int (Int32.ofNat en)), .val (.ref b12), .val (.int (Int32.ofNat st)), .unset] [])
      obtain ⟨T24, h24, X24, e24, E24, A24, D24, -, st24⟩ := newO X13 hx hZ hown (hw _ (List.mem_of_getElem? (i := 8) rfl)) (hw _ (List.mem_of_getElem? (i := 9) rfl)) (hw _ (List.mem_of_getElem? (i := 10) rfl)) (rfl : T13.heap = _) (g := (mkF m 113 #[.val (.long p1), .second, .val (.int p2), .val (.int p3), .val (.long (Int64.ofNat N)), .second, .val (.int (Int32.ofNat en)), .val (.ref b12), .val (.int (Int32.ofNat st)), .unset] [])) rfl (hb hby at_113) (by decide) (by decide)
      obtain ⟨b24, g24⟩ : ∃ z, z = T13.heap.size := ⟨_, rfl⟩
      rw [← g24] at A24 D24 st24
      have gz_b24 : n0 ≤ b24 := Nat.le_trans ZA13 (Nat.le_of_eq g24.symm)
      have Z24 : n0 ≤ h24.size := Nat.le_trans ZA13 E24.1
      refine own_via st24 ?_
      show own_E _ _ _ _ _ _ _ T24 (mkF m 116 #[.val (.long p1), .second, .val (.int p2), .val (.int p3), .val (.long (Int64.ofNat N)), .second, .val (.int (Int32.ofNat en)), .val (.ref b12), .val (.int (Int32.ofNat st)), .unset] [(.ref b24)])
      refine own_via (fun t => XS.dup X24.here hx rfl (hb hby at_116) rfl rfl) ?_
      show own_E _ _ _ _ _ _ _ T24 (mkF m 117 #[.val (.long p1), .second, .val (.int p2), .val (.int p3), .val (.long (Int64.ofNat N)), .second, .val (.int (Int32.ofNat en)), .val (.ref b12), .val (.int (Int32.ofNat st)), .unset] [(.ref b24), (.ref b24)])
      refine own_via (fun t => XS.aload X24.here hx rfl (hb hby at_117) rfl rfl) ?_
      show own_E _ _ _ _ _ _ _ T24 (mkF m 119 #[.val (.long p1), .second, .val (.int p2), .val (.int p3), .val (.long (Int64.ofNat N)), .second, .val (.int (Int32.ofNat en)), .val (.ref b12), .val (.int (Int32.ofNat st)), .unset] [(.ref b12), (.ref b24), (.ref b24)])
      have F24 := F13.ext E24
      obtain ⟨kC, AV⟩ := own_arv F24 hf
      have Fv : Fld Z h24 b24 "java/lang/String" "value" "[B" .null := D24 (Or.inr (hw _ (List.mem_of_getElem? (i := 36) rfl))) (ty := .array .byte) (by decide)
      have Fc : Fld Z h24 b24 "java/lang/String" "coder" "B" (.int 0) := D24 (Or.inr (hw _ (List.mem_of_getElem? (i := 34) rfl))) (ty := .byte) (by decide)
      have OS := OO13.ext E24
      obtain ⟨_, _, ⟨T25, L25, k25, n25⟩, -, X25, ⟨Lc25, hQ25, l25, y25, z25⟩, st25⟩ := X24.specialBack hx (y := (⟨"java/lang/String", "<init>", "([C)V"⟩ : MethodName)) rfl hown (mvT hZ (hw _ (List.mem_of_getElem? (i := 11) rfl))) (mvT hZ (hw _ (List.mem_of_getElem? (i := 12) rfl))) (mvT hZ (hw _ (List.mem_of_getElem? (i := 13) rfl))) (by decide) (StrChars.Road.backV (W := 1) hZ (own_ws hw) (kI := 4) (hw _ (List.mem_of_getElem? (i := 9) rfl)) (cs := (List.range 24).map f) (bs := ((List.range 24).map f).map (fun c => c.toInt8.toInt32)) (n := 24) gz_b24 Z24 A24 Fv Fc AV (CX.1.ext OS.2) CX.2.1 (own_len f) rfl (by decide) (by decide) (fun c hc => by obtain ⟨i, hi, rfl⟩ := List.mem_map.mp hc; exact hf i (List.mem_range.mp hi)) rfl (by decide) (by decide)) (g := (mkF m 119 #[.val (.long p1), .second, .val (.int p2), .val (.int p3), .val (.long (Int64.ofNat N)), .second, .val (.int (Int32.ofNat en)), .val (.ref b12), .val (.int (Int32.ofNat st)), .unset] [(.ref b12), (.ref b24), (.ref b24)])) rfl (by rw [hml]; rfl) (Steps.refl _) (a := b24) (argsL := [(.ref b12)]) (rest := [(.ref b24)]) (lenOf pd_s rfl) rfl (by show 2 * 0 + _ ≤ _; exact Nat.le_of_eq rfl) (hb hby at_119) (fun _ _ => ⟨rfl, e24, (by decide : 2 + 1 ≤ _), (by decide : 28 + 24 ≤ _)⟩)
      dsimp only [Pt.U, Pt.locs, Pt.cells, Pt.slots] at X25 l25 y25 z25 st25 hQ25
      subst l25 y25 z25
      obtain ⟨rfl, N25, K25, Ex25, Fc25, tt25, kb25, -, -, -, Fv25, Kb25⟩ := hQ25
      refine own_thru st25 ?_
      show own_E _ _ _ _ _ _ _ T25 (mkF m 122 #[.val (.long p1), .second, .val (.int p2), .val (.int p3), .val (.long (Int64.ofNat N)), .second, .val (.int (Int32.ofNat en)), .val (.ref b12), .val (.int (Int32.ofNat st)), .unset] [(.ref b24)])
      have NA25 := Fr.app NA13 N25
      have ZA25 : n0 ≤ T25.heap.size := Nat.le_trans Z24 K25.1
      have OO25 : Old Z n0 T25.heap := OS.keep K25 (allS gz_b24 all0)
      have EX25 := OO25.2
      have CX25 : own_Cx Z T25.heap z fm := ⟨CX.1.ext EX25, CX.2.1, CX.2.2.1.ext EX25, CX.2.2.2⟩
      have TX25 : own_Tx Z T25.heap b24 ((List.range 24).map f) := ⟨tt25, kb25, Ex25, Fv25, Fc25, by rw [own_len]; exact Kb25⟩
      refine own_via (fun t => XS.astore X25.here hx rfl (hb hby at_122) rfl rfl (l' := #[.val (.long p1), .second, .val (.int p2), .val (.int p3), .val (.long (Int64.ofNat N)), .second, .val (.int (Int32.ofNat en)), .val (.ref b12), .val (.int (Int32.ofNat st)), .val (.ref b24)]) rfl) ?_
      show own_E _ _ _ _ _ _ _ T25 (mkF m 124 #[.val (.long p1), .second, .val (.int p2), .val (.int p3), .val (.long (Int64.ofNat N)), .second, .val (.int (Int32.ofNat en)), .val (.ref b12), .val (.int (Int32.ofNat st)), .val (.ref b24)] [])
      refine own_via (fun t => XS.aload X25.here hx rfl (hb hby at_124) rfl rfl) ?_
      show own_E _ _ _ _ _ _ _ T25 (mkF m 126 #[.val (.long p1), .second, .val (.int p2), .val (.int p3), .val (.long (Int64.ofNat N)), .second, .val (.int (Int32.ofNat en)), .val (.ref b12), .val (.int (Int32.ofNat st)), .val (.ref b24)] [(.ref b24)])
      refine own_via (fun t => XS.iload X25.here hx rfl (hb hby at_126) rfl) ?_
      show own_E _ _ _ _ _ _ _ T25 (mkF m 128 #[.val (.long p1), .second, .val (.int p2), .val (.int p3), .val (.long (Int64.ofNat N)), .second, .val (.int (Int32.ofNat en)), .val (.ref b12), .val (.int (Int32.ofNat st)), .val (.ref b24)] [(.int (Int32.ofNat st)), (.ref b24)])
      refine own_via (fun t => XS.iload X25.here hx rfl (hb hby at_128) rfl) ?_
      show own_E _ _ _ _ _ _ _ T25 (mkF m 130 #[.val (.long p1), .second, .val (.int p2), .val (.int p3), .val (.long (Int64.ofNat N)), .second, .val (.int (Int32.ofNat en)), .val (.ref b12), .val (.int (Int32.ofNat st)), .val (.ref b24)] [(.int (Int32.ofNat en)), (.int (Int32.ofNat st)), (.ref b24)])
      obtain ⟨_, _, ⟨T26, L26, k26, n26⟩, -, X26, ⟨Lc26, hQ26, l26, y26, z26⟩, st26⟩ := Jvm.LawKit.callS X25 hx (y := (⟨"com/example/poruka/poruka/rules/Amounts", "comma", "(Ljava/lang/CharSequence;II)I"⟩ : MethodName)) hown (mvT hZ (hw _ (List.mem_of_getElem? (i := 37) rfl))) (mvT hZ (hw _ (List.mem_of_getElem? (i := 38) rfl))) (mvT hZ (hw _ (List.mem_of_getElem? (i := 4) rfl))) (mvT hZ (hw _ (List.mem_of_getElem? (i := 39) rfl))) (by decide) (backOf (W := 0) (rm4 l Z a0 hw [] b24 f z fm hf N en st he1 he2 G T25.heap n0 ZA25 TX25 CX25) hZ (hw _ (List.mem_of_getElem? (i := 39) rfl)) (hw _ (List.mem_of_getElem? (i := 4) rfl)) (by decide) (by decide)) (g := (mkF m 130 #[.val (.long p1), .second, .val (.int p2), .val (.int p3), .val (.long (Int64.ofNat N)), .second, .val (.int (Int32.ofNat en)), .val (.ref b12), .val (.int (Int32.ofNat st)), .val (.ref b24)] [(.int (Int32.ofNat en)), (.int (Int32.ofNat st)), (.ref b24)])) rfl (by rw [hml]; rfl) (argsL := [(.ref b24), (.int (Int32.ofNat st)), (.int (Int32.ofNat en))]) (rest := []) (lenOf pd_4 rfl) rfl (by show 2 * 0 + _ ≤ _; exact Nat.le_of_eq rfl) (hb hby at_130) (fun _ _ => ⟨rfl, (rfl : T25.heap = _), (by decide : 3 + 0 ≤ _), (by decide : 52 + 0 ≤ _)⟩)
      dsimp only [Pt.U, Pt.locs, Pt.cells, Pt.slots] at X26 l26 y26 z26 st26 hQ26
      subst l26 y26 z26
      obtain ⟨rfl, N26, e26⟩ := hQ26
      refine own_via st26 ?_
      show own_E _ _ _ _ _ _ _ T26 (mkF m 133 #[.val (.long p1), .second, .val (.int p2), .val (.int p3), .val (.long (Int64.ofNat N)), .second, .val (.int (Int32.ofNat en)), .val (.ref b12), .val (.int (Int32.ofNat st)), .val (.ref b24)] [(.int (Int32.ofNat (en - 3)))])
      have NA26 := Fr.app NA25 N26
      refine own_via (fun t => XS.iload X26.here hx rfl (hb hby at_133) rfl) ?_
      show own_E _ _ _ _ _ _ _ T26 (mkF m 135 #[.val (.long p1), .second, .val (.int p2), .val (.int p3), .val (.long (Int64.ofNat N)), .second, .val (.int (Int32.ofNat en)), .val (.ref b12), .val (.int (Int32.ofNat st)), .val (.ref b24)] [(.int (Int32.ofNat en)), (.int (Int32.ofNat (en - 3)))])
      refine own_via (fun t => XS.iconst X26.here hx rfl (hb hby at_135)) ?_
      show own_E _ _ _ _ _ _ _ T26 (mkF m 136 #[.val (.long p1), .second, .val (.int p2), .val (.int p3), .val (.long (Int64.ofNat N)), .second, .val (.int (Int32.ofNat en)), .val (.ref b12), .val (.int (Int32.ofNat st)), .val (.ref b24)] [(.int (3 : Int32)), (.int (Int32.ofNat en)), (.int (Int32.ofNat (en - 3)))])
      refine own_via (fun t => XS.isub X26.here hx rfl (hb hby at_136) rfl) ?_
      show own_E _ _ _ _ _ _ _ T26 (mkF m 137 #[.val (.long p1), .second, .val (.int p2), .val (.int p3), .val (.long (Int64.ofNat N)), .second, .val (.int (Int32.ofNat en)), .val (.ref b12), .val (.int (Int32.ofNat st)), .val (.ref b24)] [(.int ((Int32.ofNat en) - (3 : Int32))), (.int (Int32.ofNat (en - 3)))])
      rw [show Int32.ofNat en - (3 : Int32) = Int32.ofNat (en - 3) from own_sub (k := 3) (by omega) (by omega)]
      show own_E _ _ _ _ _ _ _ T26 (mkF m 137 #[.val (.long p1), .second, .val (.int p2), .val (.int p3), .val (.long (Int64.ofNat N)), .second, .val (.int (Int32.ofNat en)), .val (.ref b12), .val (.int (Int32.ofNat st)), .val (.ref b24)] [(.int (Int32.ofNat (en - 3))), (.int (Int32.ofNat (en - 3)))])
      refine own_via (fun t => XS.icmpYes X26.here hx rfl (pc0 := 137) (pc' := 142) rfl (hb hby at_137) rfl (teq rfl).1 (by decide) (by decide)) ?_
      show own_E _ _ _ _ _ _ _ T26 (mkF m 142 #[.val (.long p1), .second, .val (.int p2), .val (.int p3), .val (.long (Int64.ofNat N)), .second, .val (.int (Int32.ofNat en)), .val (.ref b12), .val (.int (Int32.ofNat st)), .val (.ref b24)] [])
      refine own_via (fun t => XS.aload X26.here hx rfl (hb hby at_142) rfl rfl) ?_
      show own_E _ _ _ _ _ _ _ T26 (mkF m 144 #[.val (.long p1), .second, .val (.int p2), .val (.int p3), .val (.long (Int64.ofNat N)), .second, .val (.int (Int32.ofNat en)), .val (.ref b12), .val (.int (Int32.ofNat st)), .val (.ref b24)] [(.ref b24)])
      refine own_via (fun t => XS.iload X26.here hx rfl (hb hby at_144) rfl) ?_
      show own_E _ _ _ _ _ _ _ T26 (mkF m 146 #[.val (.long p1), .second, .val (.int p2), .val (.int p3), .val (.long (Int64.ofNat N)), .second, .val (.int (Int32.ofNat en)), .val (.ref b12), .val (.int (Int32.ofNat st)), .val (.ref b24)] [(.int (Int32.ofNat st)), (.ref b24)])
      refine own_via (fun t => XS.iload X26.here hx rfl (hb hby at_146) rfl) ?_
      show own_E _ _ _ _ _ _ _ T26 (mkF m 148 #[.val (.long p1), .second, .val (.int p2), .val (.int p3), .val (.long (Int64.ofNat N)), .second, .val (.int (Int32.ofNat en)), .val (.ref b12), .val (.int (Int32.ofNat st)), .val (.ref b24)] [(.int (Int32.ofNat en)), (.int (Int32.ofNat st)), (.ref b24)])
      refine own_via (fun t => XS.iload X26.here hx rfl (hb hby at_148) rfl) ?_
      show own_E _ _ _ _ _ _ _ T26 (mkF m 150 #[.val (.long p1), .second, .val (.int p2), .val (.int p3), .val (.long (Int64.ofNat N)), .second, .val (.int (Int32.ofNat en)), .val (.ref b12), .val (.int (Int32.ofNat st)), .val (.ref b24)] [(.int (Int32.ofNat en)), (.int (Int32.ofNat en)), (.int (Int32.ofNat st)), (.ref b24)])
      refine own_via (fun t => XS.iconst X26.here hx rfl (hb hby at_150)) ?_
      show own_E _ _ _ _ _ _ _ T26 (mkF m 151 #[.val (.long p1), .second, .val (.int p2), .val (.int p3), .val (.long (Int64.ofNat N)), .second, .val (.int (Int32.ofNat en)), .val (.ref b12), .val (.int (Int32.ofNat st)), .val (.ref b24)] [(.int (3 : Int32)), (.int (Int32.ofNat en)), (.int (Int32.ofNat en)), (.int (Int32.ofNat st)), (.ref b24)])
      refine own_via (fun t => XS.isub X26.here hx rfl (hb hby at_151) rfl) ?_
      show own_E _ _ _ _ _ _ _ T26 (mkF m 152 #[.val (.long p1), .second, .val (.int p2), .val (.int p3), .val (.long (Int64.ofNat N)), .second, .val (.int (Int32.ofNat en)), .val (.ref b12), .val (.int (Int32.ofNat st)), .val (.ref b24)] [(.int ((Int32.ofNat en) - (3 : Int32))), (.int (Int32.ofNat en)), (.int (Int32.ofNat st)), (.ref b24)])
      rw [show Int32.ofNat en - (3 : Int32) = Int32.ofNat (en - 3) from own_sub (k := 3) (by omega) (by omega)]
      show own_E _ _ _ _ _ _ _ T26 (mkF m 152 #[.val (.long p1), .second, .val (.int p2), .val (.int p3), .val (.long (Int64.ofNat N)), .second, .val (.int (Int32.ofNat en)), .val (.ref b12), .val (.int (Int32.ofNat st)), .val (.ref b24)] [(.int (Int32.ofNat (en - 3))), (.int (Int32.ofNat en)), (.int (Int32.ofNat st)), (.ref b24)])
      obtain ⟨_, _, ⟨T27, L27, k27, n27⟩, -, X27, ⟨Lc27, hQ27, l27, y27, z27⟩, st27⟩ := Jvm.LawKit.callS X26 hx (y := (⟨"com/example/poruka/poruka/rules/Amounts", "hundredths", "(Ljava/lang/CharSequence;III)J"⟩ : MethodName)) hown (mvT hZ (hw _ (List.mem_of_getElem? (i := 74) rfl))) (mvT hZ (hw _ (List.mem_of_getElem? (i := 75) rfl))) (mvT hZ (hw _ (List.mem_of_getElem? (i := 4) rfl))) (mvT hZ (hw _ (List.mem_of_getElem? (i := 76) rfl))) (by decide) (backOf (W := 0) (rm5 l Z a0 hw [] b24 f z fm hf N en st he1 he2 G T25.heap n0 ZA25 TX25 CX25) hZ (hw _ (List.mem_of_getElem? (i := 76) rfl)) (hw _ (List.mem_of_getElem? (i := 4) rfl)) (by decide) (by decide)) (g := (mkF m 152 #[.val (.long p1), .second, .val (.int p2), .val (.int p3), .val (.long (Int64.ofNat N)), .second, .val (.int (Int32.ofNat en)), .val (.ref b12), .val (.int (Int32.ofNat st)), .val (.ref b24)] [(.int (Int32.ofNat (en - 3))), (.int (Int32.ofNat en)), (.int (Int32.ofNat st)), (.ref b24)])) rfl (by rw [hml]; rfl) (argsL := [(.ref b24), (.int (Int32.ofNat st)), (.int (Int32.ofNat en)), (.int (Int32.ofNat (en - 3)))]) (rest := []) (lenOf pd_5 rfl) rfl (by show 2 * 0 + _ ≤ _; exact Nat.le_of_eq rfl) (hb hby at_152) (fun _ _ => ⟨rfl, e26, (by decide : 3 + 0 ≤ _), (by decide : 52 + 0 ≤ _)⟩)
      dsimp only [Pt.U, Pt.locs, Pt.cells, Pt.slots] at X27 l27 y27 z27 st27 hQ27
      subst l27 y27 z27
      obtain ⟨rfl, N27, e27⟩ := hQ27
      refine own_via st27 ?_
      show own_E _ _ _ _ _ _ _ T27 (mkF m 155 #[.val (.long p1), .second, .val (.int p2), .val (.int p3), .val (.long (Int64.ofNat N)), .second, .val (.int (Int32.ofNat en)), .val (.ref b12), .val (.int (Int32.ofNat st)), .val (.ref b24)] [(.long (Int64.ofNat N))])
      have NA27 := Fr.app NA26 N27
      refine own_via (fun t => XS.lload X27.here hx rfl (hb hby at_155) rfl) ?_
      show own_E _ _ _ _ _ _ _ T27 (mkF m 157 #[.val (.long p1), .second, .val (.int p2), .val (.int p3), .val (.long (Int64.ofNat N)), .second, .val (.int (Int32.ofNat en)), .val (.ref b12), .val (.int (Int32.ofNat st)), .val (.ref b24)] [(.long (Int64.ofNat N)), (.long (Int64.ofNat N))])
      refine own_via (fun t => XS.lcmp X27.here hx rfl (hb hby at_157) rfl) ?_
      show own_E _ _ _ _ _ _ _ T27 (mkF m 158 #[.val (.long p1), .second, .val (.int p2), .val (.int p3), .val (.long (Int64.ofNat N)), .second, .val (.int (Int32.ofNat en)), .val (.ref b12), .val (.int (Int32.ofNat st)), .val (.ref b24)] [(.int (lcmpW (Int64.ofNat N) (Int64.ofNat N)))])
      refine own_via (fun t => XS.ifNo X27.here hx rfl (hb hby at_158) rfl ((if0 _ _).trans (teq ((lw_eq _ _).mpr rfl)).2)) ?_
      show own_E _ _ _ _ _ _ _ T27 (mkF m 161 #[.val (.long p1), .second, .val (.int p2), .val (.int p3), .val (.long (Int64.ofNat N)), .second, .val (.int (Int32.ofNat en)), .val (.ref b12), .val (.int (Int32.ofNat st)), .val (.ref b24)] [])
      refine own_via (fun t => XS.iconst X27.here hx rfl (hb hby at_161)) ?_
      show own_E _ _ _ _ _ _ _ T27 (mkF m 162 #[.val (.long p1), .second, .val (.int p2), .val (.int p3), .val (.long (Int64.ofNat N)), .second, .val (.int (Int32.ofNat en)), .val (.ref b12), .val (.int (Int32.ofNat st)), .val (.ref b24)] [(.int (1 : Int32))])
      refine own_via (fun t => XS.goto X27.here hx rfl (pc0 := 162) (pc' := 166) rfl (hb hby at_162) (by decide) (by decide)) ?_
      show own_E _ _ _ _ _ _ _ T27 (mkF m 166 #[.val (.long p1), .second, .val (.int p2), .val (.int p3), .val (.long (Int64.ofNat N)), .second, .val (.int (Int32.ofNat en)), .val (.ref b12), .val (.int (Int32.ofNat st)), .val (.ref b24)] [(.int (1 : Int32))])
      exact own_retN X27 hx hlk Bd.returns (Or.inl rfl) (hb hby at_166) (by decide) (by decide) ⟨rfl, NA27⟩
    · refine own_via (fun t => XS.icmpYes X13.here hx rfl (pc0 := 99) (pc' := 113) rfl (hb hby at_99) rfl (feq c99_23).2 (by decide) (by decide)) ?_
      show own_E _ _ _ _ _ _ _ T13 (mkF m 113 #[.val (.long p1), .second, .val (.int p2), .val (.int p3), .val (.long (Int64.ofNat N)), .second, .val (.int (Int32.ofNat en)), .val (.ref b12), .val (.int (Int32.ofNat st)), .unset] [])
      obtain ⟨T28, h28, X28, e28, E28, A28, D28, -, st28⟩ := newO X13 hx hZ hown (hw _ (List.mem_of_getElem? (i := 8) rfl)) (hw _ (List.mem_of_getElem? (i := 9) rfl)) (hw _ (List.mem_of_getElem? (i := 10) rfl)) (rfl : T13.heap = _) (g := (mkF m 113 #[.val (.long p1), .second, .val (.int p2), .val (.int p3), .val (.long (Int64.ofNat N)), .second, .val (.int (Int32.ofNat en)), .val (.ref b12), .val (.int (Int32.ofNat st)), .unset] [])) rfl (hb hby at_113) (by decide) (by decide)
      obtain ⟨b28, g28⟩ : ∃ z, z = T13.heap.size := ⟨_, rfl⟩
      rw [← g28] at A28 D28 st28
      have gz_b28 : n0 ≤ b28 := Nat.le_trans ZA13 (Nat.le_of_eq g28.symm)
      have Z28 : n0 ≤ h28.size := Nat.le_trans ZA13 E28.1
      refine own_via st28 ?_
      show own_E _ _ _ _ _ _ _ T28 (mkF m 116 #[.val (.long p1), .second, .val (.int p2), .val (.int p3), .val (.long (Int64.ofNat N)), .second, .val (.int (Int32.ofNat en)), .val (.ref b12), .val (.int (Int32.ofNat st)), .unset] [(.ref b28)])
      refine own_via (fun t => XS.dup X28.here hx rfl (hb hby at_116) rfl rfl) ?_
      show own_E _ _ _ _ _ _ _ T28 (mkF m 117 #[.val (.long p1), .second, .val (.int p2), .val (.int p3), .val (.long (Int64.ofNat N)), .second, .val (.int (Int32.ofNat en)), .val (.ref b12), .val (.int (Int32.ofNat st)), .unset] [(.ref b28), (.ref b28)])
      refine own_via (fun t => XS.aload X28.here hx rfl (hb hby at_117) rfl rfl) ?_
      show own_E _ _ _ _ _ _ _ T28 (mkF m 119 #[.val (.long p1), .second, .val (.int p2), .val (.int p3), .val (.long (Int64.ofNat N)), .second, .val (.int (Int32.ofNat en)), .val (.ref b12), .val (.int (Int32.ofNat st)), .unset] [(.ref b12), (.ref b28), (.ref b28)])
      have F28 := F13.ext E28
      obtain ⟨kC, AV⟩ := own_arv F28 hf
      have Fv : Fld Z h28 b28 "java/lang/String" "value" "[B" .null := D28 (Or.inr (hw _ (List.mem_of_getElem? (i := 36) rfl))) (ty := .array .byte) (by decide)
      have Fc : Fld Z h28 b28 "java/lang/String" "coder" "B" (.int 0) := D28 (Or.inr (hw _ (List.mem_of_getElem? (i := 34) rfl))) (ty := .byte) (by decide)
      have OS := OO13.ext E28
      obtain ⟨_, _, ⟨T29, L29, k29, n29⟩, -, X29, ⟨Lc29, hQ29, l29, y29, z29⟩, st29⟩ := X28.specialBack hx (y := (⟨"java/lang/String", "<init>", "([C)V"⟩ : MethodName)) rfl hown (mvT hZ (hw _ (List.mem_of_getElem? (i := 11) rfl))) (mvT hZ (hw _ (List.mem_of_getElem? (i := 12) rfl))) (mvT hZ (hw _ (List.mem_of_getElem? (i := 13) rfl))) (by decide) (StrChars.Road.backV (W := 1) hZ (own_ws hw) (kI := 4) (hw _ (List.mem_of_getElem? (i := 9) rfl)) (cs := (List.range 24).map f) (bs := ((List.range 24).map f).map (fun c => c.toInt8.toInt32)) (n := 24) gz_b28 Z28 A28 Fv Fc AV (CX.1.ext OS.2) CX.2.1 (own_len f) rfl (by decide) (by decide) (fun c hc => by obtain ⟨i, hi, rfl⟩ := List.mem_map.mp hc; exact hf i (List.mem_range.mp hi)) rfl (by decide) (by decide)) (g := (mkF m 119 #[.val (.long p1), .second, .val (.int p2), .val (.int p3), .val (.long (Int64.ofNat N)), .second, .val (.int (Int32.ofNat en)), .val (.ref b12), .val (.int (Int32.ofNat st)), .unset] [(.ref b12), (.ref b28), (.ref b28)])) rfl (by rw [hml]; rfl) (Steps.refl _) (a := b28) (argsL := [(.ref b12)]) (rest := [(.ref b28)]) (lenOf pd_s rfl) rfl (by show 2 * 0 + _ ≤ _; exact Nat.le_of_eq rfl) (hb hby at_119) (fun _ _ => ⟨rfl, e28, (by decide : 2 + 1 ≤ _), (by decide : 28 + 24 ≤ _)⟩)
      dsimp only [Pt.U, Pt.locs, Pt.cells, Pt.slots] at X29 l29 y29 z29 st29 hQ29
      subst l29 y29 z29
      obtain ⟨rfl, N29, K29, Ex29, Fc29, tt29, kb29, -, -, -, Fv29, Kb29⟩ := hQ29
      refine own_thru st29 ?_
      show own_E _ _ _ _ _ _ _ T29 (mkF m 122 #[.val (.long p1), .second, .val (.int p2), .val (.int p3), .val (.long (Int64.ofNat N)), .second, .val (.int (Int32.ofNat en)), .val (.ref b12), .val (.int (Int32.ofNat st)), .unset] [(.ref b28)])
      have NA29 := Fr.app NA13 N29
      have ZA29 : n0 ≤ T29.heap.size := Nat.le_trans Z28 K29.1
      have OO29 : Old Z n0 T29.heap := OS.keep K29 (allS gz_b28 all0)
      have EX29 := OO29.2
      have CX29 : own_Cx Z T29.heap z fm := ⟨CX.1.ext EX29, CX.2.1, CX.2.2.1.ext EX29, CX.2.2.2⟩
      have TX29 : own_Tx Z T29.heap b28 ((List.range 24).map f) := ⟨tt29, kb29, Ex29, Fv29, Fc29, by rw [own_len]; exact Kb29⟩
      refine own_via (fun t => XS.astore X29.here hx rfl (hb hby at_122) rfl rfl (l' := #[.val (.long p1), .second, .val (.int p2), .val (.int p3), .val (.long (Int64.ofNat N)), .second, .val (.int (Int32.ofNat en)), .val (.ref b12), .val (.int (Int32.ofNat st)), .val (.ref b28)]) rfl) ?_
      show own_E _ _ _ _ _ _ _ T29 (mkF m 124 #[.val (.long p1), .second, .val (.int p2), .val (.int p3), .val (.long (Int64.ofNat N)), .second, .val (.int (Int32.ofNat en)), .val (.ref b12), .val (.int (Int32.ofNat st)), .val (.ref b28)] [])
      refine own_via (fun t => XS.aload X29.here hx rfl (hb hby at_124) rfl rfl) ?_
      show own_E _ _ _ _ _ _ _ T29 (mkF m 126 #[.val (.long p1), .second, .val (.int p2), .val (.int p3), .val (.long (Int64.ofNat N)), .second, .val (.int (Int32.ofNat en)), .val (.ref b12), .val (.int (Int32.ofNat st)), .val (.ref b28)] [(.ref b28)])
      refine own_via (fun t => XS.iload X29.here hx rfl (hb hby at_126) rfl) ?_
      show own_E _ _ _ _ _ _ _ T29 (mkF m 128 #[.val (.long p1), .second, .val (.int p2), .val (.int p3), .val (.long (Int64.ofNat N)), .second, .val (.int (Int32.ofNat en)), .val (.ref b12), .val (.int (Int32.ofNat st)), .val (.ref b28)] [(.int (Int32.ofNat st)), (.ref b28)])
      refine own_via (fun t => XS.iload X29.here hx rfl (hb hby at_128) rfl) ?_
      show own_E _ _ _ _ _ _ _ T29 (mkF m 130 #[.val (.long p1), .second, .val (.int p2), .val (.int p3), .val (.long (Int64.ofNat N)), .second, .val (.int (Int32.ofNat en)), .val (.ref b12), .val (.int (Int32.ofNat st)), .val (.ref b28)] [(.int (Int32.ofNat en)), (.int (Int32.ofNat st)), (.ref b28)])
      obtain ⟨_, _, ⟨T30, L30, k30, n30⟩, -, X30, ⟨Lc30, hQ30, l30, y30, z30⟩, st30⟩ := Jvm.LawKit.callS X29 hx (y := (⟨"com/example/poruka/poruka/rules/Amounts", "comma", "(Ljava/lang/CharSequence;II)I"⟩ : MethodName)) hown (mvT hZ (hw _ (List.mem_of_getElem? (i := 37) rfl))) (mvT hZ (hw _ (List.mem_of_getElem? (i := 38) rfl))) (mvT hZ (hw _ (List.mem_of_getElem? (i := 4) rfl))) (mvT hZ (hw _ (List.mem_of_getElem? (i := 39) rfl))) (by decide) (backOf (W := 0) (rm4 l Z a0 hw [] b28 f z fm hf N en st he1 he2 G T29.heap n0 ZA29 TX29 CX29) hZ (hw _ (List.mem_of_getElem? (i := 39) rfl)) (hw _ (List.mem_of_getElem? (i := 4) rfl)) (by decide) (by decide)) (g := (mkF m 130 #[.val (.long p1), .second, .val (.int p2), .val (.int p3), .val (.long (Int64.ofNat N)), .second, .val (.int (Int32.ofNat en)), .val (.ref b12), .val (.int (Int32.ofNat st)), .val (.ref b28)] [(.int (Int32.ofNat en)), (.int (Int32.ofNat st)), (.ref b28)])) rfl (by rw [hml]; rfl) (argsL := [(.ref b28), (.int (Int32.ofNat st)), (.int (Int32.ofNat en))]) (rest := []) (lenOf pd_4 rfl) rfl (by show 2 * 0 + _ ≤ _; exact Nat.le_of_eq rfl) (hb hby at_130) (fun _ _ => ⟨rfl, (rfl : T29.heap = _), (by decide : 3 + 0 ≤ _), (by decide : 52 + 0 ≤ _)⟩)
      dsimp only [Pt.U, Pt.locs, Pt.cells, Pt.slots] at X30 l30 y30 z30 st30 hQ30
      subst l30 y30 z30
      obtain ⟨rfl, N30, e30⟩ := hQ30
      refine own_via st30 ?_
      show own_E _ _ _ _ _ _ _ T30 (mkF m 133 #[.val (.long p1), .second, .val (.int p2), .val (.int p3), .val (.long (Int64.ofNat N)), .second, .val (.int (Int32.ofNat en)), .val (.ref b12), .val (.int (Int32.ofNat st)), .val (.ref b28)] [(.int (Int32.ofNat (en - 3)))])
      have NA30 := Fr.app NA29 N30
      refine own_via (fun t => XS.iload X30.here hx rfl (hb hby at_133) rfl) ?_
      show own_E _ _ _ _ _ _ _ T30 (mkF m 135 #[.val (.long p1), .second, .val (.int p2), .val (.int p3), .val (.long (Int64.ofNat N)), .second, .val (.int (Int32.ofNat en)), .val (.ref b12), .val (.int (Int32.ofNat st)), .val (.ref b28)] [(.int (Int32.ofNat en)), (.int (Int32.ofNat (en - 3)))])
      refine own_via (fun t => XS.iconst X30.here hx rfl (hb hby at_135)) ?_
      show own_E _ _ _ _ _ _ _ T30 (mkF m 136 #[.val (.long p1), .second, .val (.int p2), .val (.int p3), .val (.long (Int64.ofNat N)), .second, .val (.int (Int32.ofNat en)), .val (.ref b12), .val (.int (Int32.ofNat st)), .val (.ref b28)] [(.int (3 : Int32)), (.int (Int32.ofNat en)), (.int (Int32.ofNat (en - 3)))])
      refine own_via (fun t => XS.isub X30.here hx rfl (hb hby at_136) rfl) ?_
      show own_E _ _ _ _ _ _ _ T30 (mkF m 137 #[.val (.long p1), .second, .val (.int p2), .val (.int p3), .val (.long (Int64.ofNat N)), .second, .val (.int (Int32.ofNat en)), .val (.ref b12), .val (.int (Int32.ofNat st)), .val (.ref b28)] [(.int ((Int32.ofNat en) - (3 : Int32))), (.int (Int32.ofNat (en - 3)))])
      rw [show Int32.ofNat en - (3 : Int32) = Int32.ofNat (en - 3) from own_sub (k := 3) (by omega) (by omega)]
      show own_E _ _ _ _ _ _ _ T30 (mkF m 137 #[.val (.long p1), .second, .val (.int p2), .val (.int p3), .val (.long (Int64.ofNat N)), .second, .val (.int (Int32.ofNat en)), .val (.ref b12), .val (.int (Int32.ofNat st)), .val (.ref b28)] [(.int (Int32.ofNat (en - 3))), (.int (Int32.ofNat (en - 3)))])
      refine own_via (fun t => XS.icmpYes X30.here hx rfl (pc0 := 137) (pc' := 142) rfl (hb hby at_137) rfl (teq rfl).1 (by decide) (by decide)) ?_
      show own_E _ _ _ _ _ _ _ T30 (mkF m 142 #[.val (.long p1), .second, .val (.int p2), .val (.int p3), .val (.long (Int64.ofNat N)), .second, .val (.int (Int32.ofNat en)), .val (.ref b12), .val (.int (Int32.ofNat st)), .val (.ref b28)] [])
      refine own_via (fun t => XS.aload X30.here hx rfl (hb hby at_142) rfl rfl) ?_
      show own_E _ _ _ _ _ _ _ T30 (mkF m 144 #[.val (.long p1), .second, .val (.int p2), .val (.int p3), .val (.long (Int64.ofNat N)), .second, .val (.int (Int32.ofNat en)), .val (.ref b12), .val (.int (Int32.ofNat st)), .val (.ref b28)] [(.ref b28)])
      refine own_via (fun t => XS.iload X30.here hx rfl (hb hby at_144) rfl) ?_
      show own_E _ _ _ _ _ _ _ T30 (mkF m 146 #[.val (.long p1), .second, .val (.int p2), .val (.int p3), .val (.long (Int64.ofNat N)), .second, .val (.int (Int32.ofNat en)), .val (.ref b12), .val (.int (Int32.ofNat st)), .val (.ref b28)] [(.int (Int32.ofNat st)), (.ref b28)])
      refine own_via (fun t => XS.iload X30.here hx rfl (hb hby at_146) rfl) ?_
      show own_E _ _ _ _ _ _ _ T30 (mkF m 148 #[.val (.long p1), .second, .val (.int p2), .val (.int p3), .val (.long (Int64.ofNat N)), .second, .val (.int (Int32.ofNat en)), .val (.ref b12), .val (.int (Int32.ofNat st)), .val (.ref b28)] [(.int (Int32.ofNat en)), (.int (Int32.ofNat st)), (.ref b28)])
      refine own_via (fun t => XS.iload X30.here hx rfl (hb hby at_148) rfl) ?_
      show own_E _ _ _ _ _ _ _ T30 (mkF m 150 #[.val (.long p1), .second, .val (.int p2), .val (.int p3), .val (.long (Int64.ofNat N)), .second, .val (.int (Int32.ofNat en)), .val (.ref b12), .val (.int (Int32.ofNat st)), .val (.ref b28)] [(.int (Int32.ofNat en)), (.int (Int32.ofNat en)), (.int (Int32.ofNat st)), (.ref b28)])
      refine own_via (fun t => XS.iconst X30.here hx rfl (hb hby at_150)) ?_
      show own_E _ _ _ _ _ _ _ T30 (mkF m 151 #[.val (.long p1), .second, .val (.int p2), .val (.int p3), .val (.long (Int64.ofNat N)), .second, .val (.int (Int32.ofNat en)), .val (.ref b12), .val (.int (Int32.ofNat st)), .val (.ref b28)] [(.int (3 : Int32)), (.int (Int32.ofNat en)), (.int (Int32.ofNat en)), (.int (Int32.ofNat st)), (.ref b28)])
      refine own_via (fun t => XS.isub X30.here hx rfl (hb hby at_151) rfl) ?_
      show own_E _ _ _ _ _ _ _ T30 (mkF m 152 #[.val (.long p1), .second, .val (.int p2), .val (.int p3), .val (.long (Int64.ofNat N)), .second, .val (.int (Int32.ofNat en)), .val (.ref b12), .val (.int (Int32.ofNat st)), .val (.ref b28)] [(.int ((Int32.ofNat en) - (3 : Int32))), (.int (Int32.ofNat en)), (.int (Int32.ofNat st)), (.ref b28)])
      rw [show Int32.ofNat en - (3 : Int32) = Int32.ofNat (en - 3) from own_sub (k := 3) (by omega) (by omega)]
      show own_E _ _ _ _ _ _ _ T30 (mkF m 152 #[.val (.long p1), .second, .val (.int p2), .val (.int p3), .val (.long (Int64.ofNat N)), .second, .val (.int (Int32.ofNat en)), .val (.ref b12), .val (.int (Int32.ofNat st)), .val (.ref b28)] [(.int (Int32.ofNat (en - 3))), (.int (Int32.ofNat en)), (.int (Int32.ofNat st)), (.ref b28)])
      obtain ⟨_, _, ⟨T31, L31, k31, n31⟩, -, X31, ⟨Lc31, hQ31, l31, y31, z31⟩, st31⟩ := Jvm.LawKit.callS X30 hx (y := (⟨"com/example/poruka/poruka/rules/Amounts", "hundredths", "(Ljava/lang/CharSequence;III)J"⟩ : MethodName)) hown (mvT hZ (hw _ (List.mem_of_getElem? (i := 74) rfl))) (mvT hZ (hw _ (List.mem_of_getElem? (i := 75) rfl))) (mvT hZ (hw _ (List.mem_of_getElem? (i := 4) rfl))) (mvT hZ (hw _ (List.mem_of_getElem? (i := 76) rfl))) (by decide) (backOf (W := 0) (rm5 l Z a0 hw [] b28 f z fm hf N en st he1 he2 G T29.heap n0 ZA29 TX29 CX29) hZ (hw _ (List.mem_of_getElem? (i := 76) rfl)) (hw _ (List.mem_of_getElem? (i := 4) rfl)) (by decide) (by decide)) (g := (mkF m 152 #[.val (.long p1), .second, .val (.int p2), .val (.int p3), .val (.long (Int64.ofNat N)), .second, .val (.int (Int32.ofNat en)), .val (.ref b12), .val (.int (Int32.ofNat st)), .val (.ref b28)] [(.int (Int32.ofNat (en - 3))), (.int (Int32.ofNat en)), (.int (Int32.ofNat st)), (.ref b28)])) rfl (by rw [hml]; rfl) (argsL := [(.ref b28), (.int (Int32.ofNat st)), (.int (Int32.ofNat en)), (.int (Int32.ofNat (en - 3)))]) (rest := []) (lenOf pd_5 rfl) rfl (by show 2 * 0 + _ ≤ _; exact Nat.le_of_eq rfl) (hb hby at_152) (fun _ _ => ⟨rfl, e30, (by decide : 3 + 0 ≤ _), (by decide : 52 + 0 ≤ _)⟩)
      dsimp only [Pt.U, Pt.locs, Pt.cells, Pt.slots] at X31 l31 y31 z31 st31 hQ31
      subst l31 y31 z31
      obtain ⟨rfl, N31, e31⟩ := hQ31
      refine own_via st31 ?_
      show own_E _ _ _ _ _ _ _ T31 (mkF m 155 #[.val (.long p1), .second, .val (.int p2), .val (.int p3), .val (.long (Int64.ofNat N)), .second, .val (.int (Int32.ofNat en)), .val (.ref b12), .val (.int (Int32.ofNat st)), .val (.ref b28)] [(.long (Int64.ofNat N))])
      have NA31 := Fr.app NA30 N31
      refine own_via (fun t => XS.lload X31.here hx rfl (hb hby at_155) rfl) ?_
      show own_E _ _ _ _ _ _ _ T31 (mkF m 157 #[.val (.long p1), .second, .val (.int p2), .val (.int p3), .val (.long (Int64.ofNat N)), .second, .val (.int (Int32.ofNat en)), .val (.ref b12), .val (.int (Int32.ofNat st)), .val (.ref b28)] [(.long (Int64.ofNat N)), (.long (Int64.ofNat N))])
      refine own_via (fun t => XS.lcmp X31.here hx rfl (hb hby at_157) rfl) ?_
      show own_E _ _ _ _ _ _ _ T31 (mkF m 158 #[.val (.long p1), .second, .val (.int p2), .val (.int p3), .val (.long (Int64.ofNat N)), .second, .val (.int (Int32.ofNat en)), .val (.ref b12), .val (.int (Int32.ofNat st)), .val (.ref b28)] [(.int (lcmpW (Int64.ofNat N) (Int64.ofNat N)))])
      refine own_via (fun t => XS.ifNo X31.here hx rfl (hb hby at_158) rfl ((if0 _ _).trans (teq ((lw_eq _ _).mpr rfl)).2)) ?_
      show own_E _ _ _ _ _ _ _ T31 (mkF m 161 #[.val (.long p1), .second, .val (.int p2), .val (.int p3), .val (.long (Int64.ofNat N)), .second, .val (.int (Int32.ofNat en)), .val (.ref b12), .val (.int (Int32.ofNat st)), .val (.ref b28)] [])
      refine own_via (fun t => XS.iconst X31.here hx rfl (hb hby at_161)) ?_
      show own_E _ _ _ _ _ _ _ T31 (mkF m 162 #[.val (.long p1), .second, .val (.int p2), .val (.int p3), .val (.long (Int64.ofNat N)), .second, .val (.int (Int32.ofNat en)), .val (.ref b12), .val (.int (Int32.ofNat st)), .val (.ref b28)] [(.int (1 : Int32))])
      refine own_via (fun t => XS.goto X31.here hx rfl (pc0 := 162) (pc' := 166) rfl (hb hby at_162) (by decide) (by decide)) ?_
      show own_E _ _ _ _ _ _ _ T31 (mkF m 166 #[.val (.long p1), .second, .val (.int p2), .val (.int p3), .val (.long (Int64.ofNat N)), .second, .val (.int (Int32.ofNat en)), .val (.ref b12), .val (.int (Int32.ofNat st)), .val (.ref b28)] [(.int (1 : Int32))])
      exact own_retN X31 hx hlk Bd.returns (Or.inl rfl) (hb hby at_166) (by decide) (by decide) ⟨rfl, NA31⟩
set_option maxRecDepth 65536 in
set_option maxHeartbeats 40000000 in
theorem comes_1 {Post : Tables → Env → Array Value → State → Outcome → State → Prop} (hpost : ∀ tb e args s v u, (limb_1_1.after args s (.returned v) u = true ∧ limb_1_2.after args s (.returned v) u = true ∧ True) → FrameEnd s (.returned v) u (Jvm.fieldLocs frame_1_writes args s ++ Jvm.arrayLocs frame_1_arrays args s ++ Jvm.staticLocs frame_1_statics s) 16 192 → Post tb e args s (.returned v) u) :
    ArmFor flags0 classFile x code maxLocals ret World_1 tables_1 room_1 Calls_1 rest_1 Pre_1 Post := by
  intro l hfl _ _ p e ha hc hk s m args below hf hA hF happ hP
  obtain ⟨hcalls, hrest, hpre⟩ := hP
  obtain ⟨-, -, -, hnamed, -, -, -, hat⟩ := (Spec.applies_iff hf).mp happ
  obtain ⟨hg, hn⟩ := and_e (Cond.before_iff.mp (show (Jvm.Cond.and given_1 narrow_1).before args s = true from hpre))
  obtain ⟨hcount, hg0⟩ := and_e hg
  obtain ⟨hi0, hg1⟩ := and_e hg0
  obtain ⟨hi1, hg2⟩ := and_e hg1
  have hi2 := hg2
  obtain ⟨w0, w1, w2, rfl⟩ : ∃ w0 w1 w2 : Value, args = #[w0, w1, w2] := by
    have hs : args.size = 3 := by simpa [Cond.value, given_1] using hcount
    obtain ⟨L⟩ := args
    match L, hs with
    | [w0, w1, w2], _ => exact ⟨w0, w1, w2, rfl⟩
  have hw := fun d (hd : d ∈ tables_1) => atoms_spec (ws := Jvm.Cond.code x code maxLocals ret :: tables_1) hat d (List.mem_cons_of_mem _ hd)
  obtain ⟨hsets, hown0⟩ := atoms_of _ (rest_1_c_eq ▸ (show rest_1_c.before _ s = true from hrest))
  have hfit : Fit s := fun {y c} hc i hi => by
    obtain ⟨ha, rfl⟩ := Array.getElem?_eq_some_iff.mp hc
    have q := List.all_eq_true.mp ((Array.all_eq_true_iff_forall_mem.mp hF) _ (Array.getElem_mem ha)) i (List.mem_range.mpr hi)
    simpa [Array.getElem?_eq_getElem hi] using q
  obtain ⟨i0, ei0⟩ := isL_v hi0
  obtain rfl : w0 = (.long i0) := Option.some.inj ei0
  obtain ⟨i1, ei1⟩ := is_v hi1
  obtain rfl : w1 = (.int i1) := Option.some.inj ei1
  obtain ⟨i2, ei2⟩ := is_v hi2
  obtain rfl : w2 = (.int i2) := Option.some.inj ei2
  have n5 := not_v (Cond.before_iff.mp (hsets _ (List.mem_of_getElem? (i := 2) rfl)))
  obtain ⟨z, ez⟩ := is_v (Cond.before_iff.mp (hsets _ (List.mem_of_getElem? (i := 1) rfl)))
  have S1 := Sta.start ez (Or.inl (hsets _ (List.mem_of_getElem? (i := 0) rfl)))
  obtain ⟨fm, ef, rf⟩ := isR_v (Cond.before_iff.mp (hsets _ (List.mem_of_getElem? (i := 8) rfl)))
  have S2 := Sta.start ef (Or.inl (hsets _ (List.mem_of_getElem? (i := 7) rfl)))
  have hz : ¬ (z = (0 : Int32)) := gotF (Cond.eq_ints ez (Term.int_eval (0))) n5
  obtain ⟨n, o, h1, h2, h3, _, L, rfl, ⟨rfl, N⟩, hq⟩ := rm0 l s _ hw tables_1 i0 i1 i2 z fm s.heap s.heap.size (Nat.le_refl _) ⟨S1, hz, S2, rf⟩ (Old.start s) p e ha hc hk s m _ below hf ((Spec.applies_iff_loose hf).mp happ).1 ⟨rfl, State.Warmed39.refl s, rfl⟩ trivial
  refine ⟨n, _, h1, h2, h3, hpost _ _ _ _ _ _ ⟨Cond.after_iff.mpr rfl, Cond.after_iff.mpr (eq_i res_at (Term.int_eval (1)) rfl), trivial⟩ ⟨hq.1, hq.2.1, (hq.2.2.sift fun y hy => Or.inr (N y hy)).mono (by decide) (by decide)⟩⟩
theorem main_1_1 : Claimed_1_1 := comes_1 fun _ _ _ _ _ _ h hF => ⟨h.1, hF⟩
theorem main_1_2 : Claimed_1_2 := comes_1 fun _ _ _ _ _ _ h hF => ⟨h.2.1, hF⟩
end Jvm.Pilot.@@N@@
namespace Jvm.Pilot.@@N@@
open Jvm Jvm.ClassFile Sem Op Lib Jvm.Free Jvm.Stand Jvm.Pilot.@@N@@.Jvm.D
/-! MADE BY PROGRAM (witnessworld.py) out of the Statement's table words and the real class files: 21 classes; the members and pool entries that the words name. The judged class is class 1, her method 1. -/
namespace start1
open Jvm.ClassFile
def u (s : String) : CpInfo := .utf8 (stringToUtf16 s)
/-- a pool by its gaps: so many unusable entries, then the entry; so many at the end -/
def gap : Nat → List CpInfo → List CpInfo
  | 0, r => r
  | n + 1, r => .unusable :: gap n r
def poolList (es : List (Nat × CpInfo)) (last : Nat) : List CpInfo := es.foldr (fun e r => gap e.1 (e.2 :: r)) (gap last [])
def pool (es : List (Nat × CpInfo)) (last : Nat) : Array CpInfo := ⟨poolList es last⟩
def fileOf (pool : Array CpInfo) (this : Nat) (attrs : Array Attribute := #[]) (ms : Array MethodInfo := #[]) (fl : Nat := 33) (sup : Nat := 0) (ifs : Array Nat := #[]) (fds : Array FieldInfo := #[]) : ClassFile where
  minorVersion := 0
  majorVersion := 65
  constantPool := pool
  accessFlags := fl
  thisClass := this
  superClass := sup
  interfaces := ifs
  fields := fds
  methods := ms
  attributes := attrs
def plain (name : String) (sup : Option ClassId) : Class where
  name := name
  kind := .ordinary
  loader := none
  accessFlags := 33
  super := sup
  interfaces := #[]
  cf := none
  fields := #[]
  methods := #[]
  instanceTypes := #[]
  staticTypes := #[]
  resolved := #[]
  callSites := []
  init := .initialized
  statics := none
  mirror := none

def pool0 : Array CpInfo := pool [(5, u "<init>"), (0, u "()V"), (1, .class_ 10), (1, u "java/lang/Object")] 113

def k0c0 : Code := { maxStack := 0, maxLocals := 1, code := object_method_1_code, exceptionTable := #[], attributes := #[] }
def k0m0 : Method := { name := "<init>", desc := "()V", sig := { parameters := [], returnType := none }, accessFlags := 1, code := some k0c0 }
/-- java/lang/Object -/
def k0 : Class := { plain "java/lang/Object" none with
  accessFlags := 33
  interfaces := #[]
  cf := some (fileOf pool0 8 #[] #[{ accessFlags := 1, nameIndex := 5, descriptorIndex := 6, attributes := #[] }] 33 0 #[] #[])
  fields := #[]
  methods := #[k0m0]
  instanceTypes := #[]
  staticTypes := #[]
  resolved := Array.replicate 124 none
  statics := none }

def pool1 : Array CpInfo := pool [(2, .class_ 4), (1, u "java/lang/Object"), (0, u "<init>"), (0, u "()V"), (0, .long 9223372036854775807), (1, .methodref 10 11), (0, .class_ 12), (0, .nameAndType 13 14), (0, u "com/example/poruka/poruka/rules/Amounts"), (0, u "getChars"), (0, u "(J[CI)I"), (0, .class_ 16), (0, u "java/lang/String"), (0, .methodref 15 18), (0, .nameAndType 5 19), (0, u "([C)V"), (0, .methodref 10 21), (0, .nameAndType 22 23), (0, u "comma"), (0, u "(Ljava/lang/CharSequence;II)I"), (0, .methodref 10 25), (0, .nameAndType 26 27), (0, u "hundredths"), (0, u "(Ljava/lang/CharSequence;III)J"), (0, .class_ 29), (0, u "com/example/poruka/poruka/rules/AmountsGetCharsPinLaw"), (2, u "law"), (0, u "(JII)Z")] 5

def k1m0 : Method := { name := "<init>", desc := "()V", sig := { parameters := [], returnType := none }, accessFlags := 2, code := none }
def k1c1 : Code := { maxStack := 5, maxLocals := 10, code := code, exceptionTable := #[], attributes := #[] }
def k1m1 : Method := { name := "law", desc := "(JII)Z", sig := { parameters := [.long, .int, .int], returnType := some .boolean }, accessFlags := 9, code := some k1c1 }
/-- com/example/poruka/poruka/rules/AmountsGetCharsPinLaw -/
def k1 : Class := { plain "com/example/poruka/poruka/rules/AmountsGetCharsPinLaw" (some 0) with
  accessFlags := 49
  interfaces := #[]
  cf := some (fileOf pool1 28 #[] #[{ accessFlags := 2, nameIndex := 5, descriptorIndex := 6, attributes := #[] }, { accessFlags := 9, nameIndex := 32, descriptorIndex := 33, attributes := #[] }] 49 2 #[] #[])
  fields := #[]
  methods := #[k1m0, k1m1]
  instanceTypes := #[]
  staticTypes := #[]
  resolved := Array.replicate 39 none
  statics := none }

def pool2 : Array CpInfo := pool [(2, .class_ 4), (1, u "java/lang/Object"), (0, u "<init>"), (0, u "()V"), (0, .interfaceMethodref 8 9), (0, .class_ 10), (0, .nameAndType 11 12), (0, u "java/lang/CharSequence"), (0, u "charAt"), (0, u "(I)C"), (0, .class_ 14), (0, u "com/example/poruka/poruka/rules/Amounts"), (0, .methodref 16 17), (0, .class_ 18), (0, .nameAndType 19 20), (0, u "com/example/poruka/poruka/fin/FinText"), (0, u "isDigits"), (0, u "(Ljava/lang/CharSequence;II)Z"), (11, .long 10), (1, .long 48), (35, u "WHOLE_DIGITS"), (0, u "I"), (2, u "DECIMALS"), (1, u "SWIFT_LENGTH"), (1, u "FORM"), (0, u "Ljava/lang/String;"), (2, u "COMMA"), (0, u "C"), (1, u "MOST_WRITTEN"), (3, u "comma"), (0, u "(Ljava/lang/CharSequence;II)I"), (2, u "hundredths"), (0, u "(Ljava/lang/CharSequence;III)J"), (0, u "getChars"), (0, u "(J[CI)I")] 24

def k2m0 : Method := { name := "<init>", desc := "()V", sig := { parameters := [], returnType := none }, accessFlags := 2, code := none }
def k2c1 : Code := { maxStack := 3, maxLocals := 4, code := prog_133_method_2_code, exceptionTable := #[], attributes := #[] }
def k2m1 : Method := { name := "comma", desc := "(Ljava/lang/CharSequence;II)I", sig := { parameters := [(.object "java/lang/CharSequence"), .int, .int], returnType := some .int }, accessFlags := 9, code := some k2c1 }
def k2c2 : Code := { maxStack := 4, maxLocals := 7, code := prog_133_method_6_code, exceptionTable := #[], attributes := #[] }
def k2m2 : Method := { name := "hundredths", desc := "(Ljava/lang/CharSequence;III)J", sig := { parameters := [(.object "java/lang/CharSequence"), .int, .int, .int], returnType := some .long }, accessFlags := 9, code := some k2c2 }
def k2c3 : Code := { maxStack := 8, maxLocals := 8, code := prog_133_method_7_code, exceptionTable := #[], attributes := #[] }
def k2m3 : Method := { name := "getChars", desc := "(J[CI)I", sig := { parameters := [.long, (.array .char), .int], returnType := some .int }, accessFlags := 9, code := some k2c3 }
/-- com/example/poruka/poruka/rules/Amounts -/
def k2 : Class := { plain "com/example/poruka/poruka/rules/Amounts" (some 0) with
  accessFlags := 49
  interfaces := #[]
  cf := some (fileOf pool2 13 #[] #[{ accessFlags := 2, nameIndex := 5, descriptorIndex := 6, attributes := #[] }, { accessFlags := 9, nameIndex := 89, descriptorIndex := 90, attributes := #[] }, { accessFlags := 9, nameIndex := 93, descriptorIndex := 94, attributes := #[] }, { accessFlags := 9, nameIndex := 95, descriptorIndex := 96, attributes := #[] }] 49 2 #[] #[{ accessFlags := 25, nameIndex := 70, descriptorIndex := 71, attributes := #[] }, { accessFlags := 25, nameIndex := 74, descriptorIndex := 71, attributes := #[] }, { accessFlags := 25, nameIndex := 76, descriptorIndex := 71, attributes := #[] }, { accessFlags := 25, nameIndex := 78, descriptorIndex := 79, attributes := #[] }, { accessFlags := 25, nameIndex := 82, descriptorIndex := 83, attributes := #[] }, { accessFlags := 25, nameIndex := 85, descriptorIndex := 71, attributes := #[] }])
  fields := #[{ name := "WHOLE_DIGITS", type := .int, accessFlags := 25, slot := 0, constantValue := 0 }, { name := "DECIMALS", type := .int, accessFlags := 25, slot := 1, constantValue := 0 }, { name := "SWIFT_LENGTH", type := .int, accessFlags := 25, slot := 2, constantValue := 0 }, { name := "FORM", type := (.object "java/lang/String"), accessFlags := 25, slot := 3, constantValue := 0 }, { name := "COMMA", type := .char, accessFlags := 25, slot := 4, constantValue := 0 }, { name := "MOST_WRITTEN", type := .int, accessFlags := 25, slot := 5, constantValue := 0 }]
  methods := #[k2m0, k2m1, k2m2, k2m3]
  instanceTypes := #[]
  staticTypes := #[.int, .int, .int, (.object "java/lang/String"), .char, .int]
  resolved := Array.replicate 121 none
  statics := none }

def pool3 : Array CpInfo := pool [(1, .class_ 2), (0, u "java/io/Serializable"), (0, .class_ 4), (0, u "java/lang/Object")] 2

/-- java/io/Serializable -/
def k3 : Class := { plain "java/io/Serializable" (some 0) with
  accessFlags := 1537
  interfaces := #[]
  cf := some (fileOf pool3 1 #[] #[] 1537 3 #[] #[])
  fields := #[]
  methods := #[]
  instanceTypes := #[]
  staticTypes := #[]
  resolved := Array.replicate 7 none
  statics := none }

def pool4 : Array CpInfo := pool [(1, .class_ 2), (0, u "java/lang/Comparable"), (0, .class_ 4), (0, u "java/lang/Object")] 7

/-- java/lang/Comparable -/
def k4 : Class := { plain "java/lang/Comparable" (some 0) with
  accessFlags := 1537
  interfaces := #[]
  cf := some (fileOf pool4 1 #[] #[] 1537 3 #[] #[])
  fields := #[]
  methods := #[]
  instanceTypes := #[]
  staticTypes := #[]
  resolved := Array.replicate 12 none
  statics := none }

def pool5 : Array CpInfo := pool [(2, .class_ 4), (1, u "java/lang/CharSequence"), (40, u "charAt"), (0, u "(I)C"), (0, .class_ 48), (0, u "java/lang/CharSequence$1CodePointIterator"), (10, .class_ 60), (0, u "java/lang/CharSequence$1CharIterator"), (5, .class_ 67), (0, u "java/lang/Object")] 63

def k5m0 : Method := { name := "charAt", desc := "(I)C", sig := { parameters := [.int], returnType := some .char }, accessFlags := 1025, code := none }
/-- java/lang/CharSequence -/
def k5 : Class := { plain "java/lang/CharSequence" (some 0) with
  accessFlags := 1537
  interfaces := #[]
  cf := some (fileOf pool5 2 #[.nestMembers #[47, 59]] #[{ accessFlags := 1025, nameIndex := 45, descriptorIndex := 46, attributes := #[] }] 1537 66 #[] #[])
  fields := #[]
  methods := #[k5m0]
  instanceTypes := #[]
  staticTypes := #[]
  resolved := Array.replicate 131 none
  statics := none }

def pool6 : Array CpInfo := pool [(1, .class_ 2), (0, u "java/lang/constant/Constable"), (0, .class_ 4), (0, u "java/lang/Object")] 6

/-- java/lang/constant/Constable -/
def k6 : Class := { plain "java/lang/constant/Constable" (some 0) with
  accessFlags := 1537
  interfaces := #[]
  cf := some (fileOf pool6 1 #[] #[] 1537 3 #[] #[])
  fields := #[]
  methods := #[]
  instanceTypes := #[]
  staticTypes := #[]
  resolved := Array.replicate 11 none
  statics := none }

def pool7 : Array CpInfo := pool [(1, .class_ 2), (0, u "java/lang/constant/ConstantDesc"), (0, .class_ 4), (0, u "java/lang/Object")] 32

/-- java/lang/constant/ConstantDesc -/
def k7 : Class := { plain "java/lang/constant/ConstantDesc" (some 0) with
  accessFlags := 1537
  interfaces := #[]
  cf := some (fileOf pool7 1 #[] #[] 1537 3 #[] #[])
  fields := #[]
  methods := #[]
  instanceTypes := #[]
  staticTypes := #[]
  resolved := Array.replicate 37 none
  statics := none }

def pool8 : Array CpInfo := pool [(1, .methodref 2 3), (0, .class_ 4), (0, .nameAndType 5 6), (0, u "java/lang/Object"), (0, u "<init>"), (0, u "()V"), (2, .fieldref 10 11), (0, .class_ 12), (0, .nameAndType 13 14), (0, u "java/lang/String"), (0, u "value"), (0, u "[B"), (0, .fieldref 10 16), (0, .nameAndType 17 18), (0, u "coder"), (0, u "B"), (2, u "hash"), (0, u "I"), (2, u "hashIsZero"), (0, u "Z"), (0, .methodref 10 28), (0, .nameAndType 5 29), (0, u "([CIILjava/lang/Void;)V"), (8, .fieldref 10 39), (0, .nameAndType 40 26), (0, u "COMPACT_STRINGS"), (1, .class_ 44), (1, u "java/lang/StringUTF16"), (0, u "compress"), (1, .methodref 42 48), (0, .nameAndType 49 50), (0, u "coderFromArrayLen"), (0, u "([BI)B"), (56, .class_ 109), (1, u "java/lang/StringLatin1"), (32, u "()Z"), (34, .methodref 42 178), (0, .nameAndType 45 179), (0, u "([CII)[B"), (183, u "([BI)C"), (27, u "(II)V"), (35, u "(I)C"), (64, .methodref 10 493), (0, .nameAndType 494 142), (0, u "isLatin1"), (0, .methodref 107 496), (0, .nameAndType 497 363), (0, u "charAt"), (3, u "checkIndex"), (73, .class_ 576), (0, u "java/lang/CharSequence"), (22, u "CASE_INSENSITIVE_ORDER"), (0, u "Ljava/util/Comparator;"), (409, u "([C)V"), (42, .fieldref 1054 1055), (0, .class_ 1056), (0, .nameAndType 1057 1058), (0, u "jdk/internal/util/Preconditions"), (0, u "SIOOBE_FORMATTER"), (0, u "Ljava/util/function/BiFunction;"), (0, .methodref 1054 1060), (0, .nameAndType 501 1061), (0, u "(IILjava/util/function/BiFunction;)I"), (39, u "serialPersistentFields"), (0, u "[Ljava/io/ObjectStreamField;"), (0, .class_ 1104), (0, u "java/lang/String$CaseInsensitiveComparator"), (1, .class_ 1107), (0, u "java/io/Serializable"), (0, .class_ 1109), (0, u "java/lang/Comparable"), (0, .class_ 1111), (0, u "java/lang/constant/Constable"), (0, .class_ 1113), (0, u "java/lang/constant/ConstantDesc"), (2, u "serialVersionUID"), (0, u "J"), (3, u "REPL"), (0, u "C"), (2, u "LATIN1"), (1, u "UTF16")] 323

def k8m0 : Method := { name := "<init>", desc := "()V", sig := { parameters := [], returnType := none }, accessFlags := 1, code := none }
def k8c1 : Code := { maxStack := 5, maxLocals := 2, code := jdk_42_method_3_code, exceptionTable := #[], attributes := #[] }
def k8m1 : Method := { name := "<init>", desc := "([C)V", sig := { parameters := [(.array .char)], returnType := none }, accessFlags := 1, code := some k8c1 }
def k8c2 : Code := { maxStack := 2, maxLocals := 2, code := jdk_42_method_56_code, exceptionTable := #[], attributes := #[] }
def k8m2 : Method := { name := "charAt", desc := "(I)C", sig := { parameters := [.int], returnType := some .char }, accessFlags := 1, code := some k8c2 }
def k8c3 : Code := { maxStack := 4, maxLocals := 6, code := jdk_42_method_149_code, exceptionTable := #[], attributes := #[] }
def k8m3 : Method := { name := "<init>", desc := "([CIILjava/lang/Void;)V", sig := { parameters := [(.array .char), .int, .int, (.object "java/lang/Void")], returnType := none }, accessFlags := 2, code := some k8c3 }
def k8c4 : Code := { maxStack := 1, maxLocals := 1, code := jdk_42_method_154_code, exceptionTable := #[], attributes := #[] }
def k8m4 : Method := { name := "isLatin1", desc := "()Z", sig := { parameters := [], returnType := some .boolean }, accessFlags := 0, code := some k8c4 }
def k8c5 : Code := { maxStack := 3, maxLocals := 2, code := jdk_42_method_155_code, exceptionTable := #[], attributes := #[] }
def k8m5 : Method := { name := "checkIndex", desc := "(II)V", sig := { parameters := [.int, .int], returnType := none }, accessFlags := 8, code := some k8c5 }
/-- java/lang/String -/
def k8 : Class := { plain "java/lang/String" (some 0) with
  accessFlags := 49
  interfaces := #[3, 4, 5, 6, 7]
  cf := some (fileOf pool8 10 #[.nestMembers #[1103]] #[{ accessFlags := 1, nameIndex := 5, descriptorIndex := 6, attributes := #[] }, { accessFlags := 1, nameIndex := 5, descriptorIndex := 1010, attributes := #[] }, { accessFlags := 1, nameIndex := 497, descriptorIndex := 427, attributes := #[] }, { accessFlags := 2, nameIndex := 5, descriptorIndex := 29, attributes := #[] }, { accessFlags := 0, nameIndex := 494, descriptorIndex := 142, attributes := #[] }, { accessFlags := 8, nameIndex := 501, descriptorIndex := 391, attributes := #[] }] 49 2 #[1106, 1108, 575, 1110, 1112] #[{ accessFlags := 18, nameIndex := 13, descriptorIndex := 14, attributes := #[] }, { accessFlags := 18, nameIndex := 17, descriptorIndex := 18, attributes := #[] }, { accessFlags := 2, nameIndex := 21, descriptorIndex := 22, attributes := #[] }, { accessFlags := 2, nameIndex := 25, descriptorIndex := 26, attributes := #[] }, { accessFlags := 26, nameIndex := 1116, descriptorIndex := 1117, attributes := #[] }, { accessFlags := 24, nameIndex := 40, descriptorIndex := 26, attributes := #[] }, { accessFlags := 26, nameIndex := 1101, descriptorIndex := 1102, attributes := #[] }, { accessFlags := 26, nameIndex := 1121, descriptorIndex := 1122, attributes := #[] }, { accessFlags := 25, nameIndex := 599, descriptorIndex := 600, attributes := #[] }, { accessFlags := 24, nameIndex := 1125, descriptorIndex := 18, attributes := #[] }, { accessFlags := 24, nameIndex := 1127, descriptorIndex := 18, attributes := #[] }])
  fields := #[{ name := "value", type := (.array .byte), accessFlags := 18, slot := 0, constantValue := 0 }, { name := "coder", type := .byte, accessFlags := 18, slot := 1, constantValue := 0 }, { name := "hash", type := .int, accessFlags := 2, slot := 2, constantValue := 0 }, { name := "hashIsZero", type := .boolean, accessFlags := 2, slot := 3, constantValue := 0 }, { name := "serialVersionUID", type := .long, accessFlags := 26, slot := 0, constantValue := 0 }, { name := "COMPACT_STRINGS", type := .boolean, accessFlags := 24, slot := 1, constantValue := 0 }, { name := "serialPersistentFields", type := (.array (.object "java/io/ObjectStreamField")), accessFlags := 26, slot := 2, constantValue := 0 }, { name := "REPL", type := .char, accessFlags := 26, slot := 3, constantValue := 0 }, { name := "CASE_INSENSITIVE_ORDER", type := (.object "java/util/Comparator"), accessFlags := 25, slot := 4, constantValue := 0 }, { name := "LATIN1", type := .byte, accessFlags := 24, slot := 5, constantValue := 0 }, { name := "UTF16", type := .byte, accessFlags := 24, slot := 6, constantValue := 0 }]
  methods := #[k8m0, k8m1, k8m2, k8m3, k8m4, k8m5]
  instanceTypes := #[(.array .byte), .byte, .int, .boolean]
  staticTypes := #[.long, .boolean, (.array (.object "java/io/ObjectStreamField")), .char, (.object "java/util/Comparator"), .byte, .byte]
  resolved := Array.replicate 1451 none
  statics := some 0 }

def pool9 : Array CpInfo := pool [(6, .class_ 8), (1, u "java/lang/Object"), (0, u "<init>"), (0, u "()V"), (1, .class_ 14), (1, u "java/lang/StringUTF16"), (31, u "$assertionsDisabled"), (0, u "Z"), (13, u "HI_BYTE_SHIFT"), (0, u "I"), (2, u "LO_BYTE_SHIFT"), (49, .methodref 12 116), (0, .nameAndType 117 118), (0, u "compress"), (0, u "([CI[BII)I"), (3, u "([CII)[B"), (138, u "coderFromArrayLen"), (0, u "([BI)B"), (106, .class_ 371), (1, u "java/lang/StringUTF16$LinesSpliterator"), (58, u "MAX_LENGTH"), (196, .class_ 628), (0, u "java/lang/StringUTF16$CodePointsSpliterator"), (0, .class_ 630), (0, u "java/lang/StringUTF16$CharsSpliterator")] 4

def k9m0 : Method := { name := "<init>", desc := "()V", sig := { parameters := [], returnType := none }, accessFlags := 0, code := none }
def k9c1 : Code := { maxStack := 2, maxLocals := 2, code := jdk_52_method_15_code, exceptionTable := #[], attributes := #[] }
def k9m1 : Method := { name := "coderFromArrayLen", desc := "([BI)B", sig := { parameters := [(.array .byte), .int], returnType := some .byte }, accessFlags := 8, code := some k9c1 }
def k9c2 : Code := { maxStack := 5, maxLocals := 6, code := jdk_52_method_16_code, exceptionTable := #[], attributes := #[] }
def k9m2 : Method := { name := "compress", desc := "([CII)[B", sig := { parameters := [(.array .char), .int, .int], returnType := some (.array .byte) }, accessFlags := 9, code := some k9c2 }
def k9c3 : Code := { maxStack := 3, maxLocals := 7, code := jdk_52_method_21_code, exceptionTable := #[], attributes := #[] }
def k9m3 : Method := { name := "compress", desc := "([CI[BII)I", sig := { parameters := [(.array .char), .int, (.array .byte), .int, .int], returnType := some .int }, accessFlags := 9, code := some k9c3 }
/-- java/lang/StringUTF16 -/
def k9 : Class := { plain "java/lang/StringUTF16" (some 0) with
  accessFlags := 48
  interfaces := #[]
  cf := some (fileOf pool9 12 #[.nestMembers #[627, 629, 369]] #[{ accessFlags := 0, nameIndex := 9, descriptorIndex := 10, attributes := #[] }, { accessFlags := 8, nameIndex := 261, descriptorIndex := 262, attributes := #[] }, { accessFlags := 9, nameIndex := 117, descriptorIndex := 122, attributes := #[] }, { accessFlags := 9, nameIndex := 117, descriptorIndex := 118, attributes := #[] }] 48 6 #[] #[{ accessFlags := 26, nameIndex := 61, descriptorIndex := 62, attributes := #[] }, { accessFlags := 26, nameIndex := 65, descriptorIndex := 62, attributes := #[] }, { accessFlags := 24, nameIndex := 430, descriptorIndex := 62, attributes := #[] }, { accessFlags := 4120, nameIndex := 46, descriptorIndex := 47, attributes := #[] }])
  fields := #[{ name := "HI_BYTE_SHIFT", type := .int, accessFlags := 26, slot := 0, constantValue := 0 }, { name := "LO_BYTE_SHIFT", type := .int, accessFlags := 26, slot := 1, constantValue := 0 }, { name := "MAX_LENGTH", type := .int, accessFlags := 24, slot := 2, constantValue := 0 }, { name := "$assertionsDisabled", type := .boolean, accessFlags := 4120, slot := 3, constantValue := 0 }]
  methods := #[k9m0, k9m1, k9m2, k9m3]
  instanceTypes := #[]
  staticTypes := #[.int, .int, .int, .boolean]
  resolved := Array.replicate 635 none
  statics := none }

def pool10 : Array CpInfo := pool [(1, .class_ 2), (0, u "java/lang/String"), (1, .class_ 6), (1, u "java/lang/Object"), (0, u "<init>"), (0, u "()V"), (0, .methodref 1 10), (0, .nameAndType 11 12), (0, u "checkIndex"), (0, u "(II)V"), (1, .class_ 16), (1, u "java/lang/StringLatin1"), (36, u "([BI)C"), (67, u "$assertionsDisabled"), (0, u "Z"), (98, .class_ 223), (1, u "java/lang/StringLatin1$LinesSpliterator"), (28, u "charAt"), (137, .class_ 391), (0, u "java/lang/StringLatin1$CharsSpliterator")] 3

def k10m0 : Method := { name := "<init>", desc := "()V", sig := { parameters := [], returnType := none }, accessFlags := 0, code := none }
def k10c1 : Code := { maxStack := 2, maxLocals := 2, code := jdk_43_method_2_code, exceptionTable := #[], attributes := #[] }
def k10m1 : Method := { name := "charAt", desc := "([BI)C", sig := { parameters := [(.array .byte), .int], returnType := some .char }, accessFlags := 9, code := some k10c1 }
/-- java/lang/StringLatin1 -/
def k10 : Class := { plain "java/lang/StringLatin1" (some 0) with
  accessFlags := 48
  interfaces := #[]
  cf := some (fileOf pool10 14 #[.nestMembers #[390, 221]] #[{ accessFlags := 0, nameIndex := 7, descriptorIndex := 8, attributes := #[] }, { accessFlags := 9, nameIndex := 252, descriptorIndex := 53, attributes := #[] }] 48 4 #[] #[{ accessFlags := 4120, nameIndex := 121, descriptorIndex := 122, attributes := #[] }])
  fields := #[{ name := "$assertionsDisabled", type := .boolean, accessFlags := 4120, slot := 0, constantValue := 0 }]
  methods := #[k10m0, k10m1]
  instanceTypes := #[]
  staticTypes := #[.boolean]
  resolved := Array.replicate 395 none
  statics := none }

def pool11 : Array CpInfo := pool [(2, .class_ 4), (1, u "java/lang/Object"), (0, u "<init>"), (0, u "()V"), (17, .class_ 26), (1, u "jdk/internal/util/Preconditions"), (6, u "checkIndex"), (21, .class_ 56), (0, u "jdk/internal/util/Preconditions$4"), (57, .class_ 115), (0, u "jdk/internal/util/Preconditions$1"), (7, u "SIOOBE_FORMATTER"), (0, u "Ljava/util/function/BiFunction;"), (0, .class_ 126), (0, u "jdk/internal/util/Preconditions$2"), (3, u "AIOOBE_FORMATTER"), (0, .class_ 132), (0, u "jdk/internal/util/Preconditions$3"), (3, u "IOOBE_FORMATTER"), (41, u "(IILjava/util/function/BiFunction;)I")] 15

def k11m0 : Method := { name := "<init>", desc := "()V", sig := { parameters := [], returnType := none }, accessFlags := 1, code := none }
def k11c1 : Code := { maxStack := 3, maxLocals := 3, code := jdk_41_method_11_code, exceptionTable := #[], attributes := #[] }
def k11m1 : Method := { name := "checkIndex", desc := "(IILjava/util/function/BiFunction;)I", sig := { parameters := [.int, .int, (.object "java/util/function/BiFunction")], returnType := some .int }, accessFlags := 9, code := some k11c1 }
/-- jdk/internal/util/Preconditions -/
def k11 : Class := { plain "jdk/internal/util/Preconditions" (some 0) with
  accessFlags := 33
  interfaces := #[]
  cf := some (fileOf pool11 24 #[.nestMembers #[55, 131, 125, 114]] #[{ accessFlags := 1, nameIndex := 5, descriptorIndex := 6, attributes := #[] }, { accessFlags := 9, nameIndex := 33, descriptorIndex := 178, attributes := #[] }] 33 2 #[] #[{ accessFlags := 25, nameIndex := 123, descriptorIndex := 124, attributes := #[] }, { accessFlags := 25, nameIndex := 130, descriptorIndex := 124, attributes := #[] }, { accessFlags := 25, nameIndex := 136, descriptorIndex := 124, attributes := #[] }])
  fields := #[{ name := "SIOOBE_FORMATTER", type := (.object "java/util/function/BiFunction"), accessFlags := 25, slot := 0, constantValue := 0 }, { name := "AIOOBE_FORMATTER", type := (.object "java/util/function/BiFunction"), accessFlags := 25, slot := 1, constantValue := 0 }, { name := "IOOBE_FORMATTER", type := (.object "java/util/function/BiFunction"), accessFlags := 25, slot := 2, constantValue := 0 }]
  methods := #[k11m0, k11m1]
  instanceTypes := #[]
  staticTypes := #[(.object "java/util/function/BiFunction"), (.object "java/util/function/BiFunction"), (.object "java/util/function/BiFunction")]
  resolved := Array.replicate 194 none
  statics := some 1 }

def pool12 : Array CpInfo := pool [(2, .class_ 4), (1, u "java/lang/Object"), (0, u "<init>"), (0, u "()V"), (0, .interfaceMethodref 8 9), (0, .class_ 10), (0, .nameAndType 11 12), (0, u "java/lang/CharSequence"), (0, u "charAt"), (0, u "(I)C"), (0, .methodref 14 15), (0, .class_ 16), (0, .nameAndType 17 18), (0, u "com/example/poruka/poruka/fin/FinText"), (0, u "isDigit"), (0, u "(C)Z"), (16, u "MONTH_DAYS"), (0, u "[I"), (35, u "DATE_LENGTH"), (0, u "I"), (2, u "FIRST_YEAR"), (4, u "isDigits"), (0, u "(Ljava/lang/CharSequence;II)Z")] 14

def k12m0 : Method := { name := "<init>", desc := "()V", sig := { parameters := [], returnType := none }, accessFlags := 2, code := none }
def k12c1 : Code := { maxStack := 2, maxLocals := 1, code := prog_86_method_2_code, exceptionTable := #[], attributes := #[] }
def k12m1 : Method := { name := "isDigit", desc := "(C)Z", sig := { parameters := [.char], returnType := some .boolean }, accessFlags := 9, code := some k12c1 }
def k12c2 : Code := { maxStack := 2, maxLocals := 4, code := prog_86_method_4_code, exceptionTable := #[], attributes := #[] }
def k12m2 : Method := { name := "isDigits", desc := "(Ljava/lang/CharSequence;II)Z", sig := { parameters := [(.object "java/lang/CharSequence"), .int, .int], returnType := some .boolean }, accessFlags := 9, code := some k12c2 }
/-- com/example/poruka/poruka/fin/FinText -/
def k12 : Class := { plain "com/example/poruka/poruka/fin/FinText" (some 0) with
  accessFlags := 49
  interfaces := #[]
  cf := some (fileOf pool12 14 #[] #[{ accessFlags := 2, nameIndex := 5, descriptorIndex := 6, attributes := #[] }, { accessFlags := 9, nameIndex := 17, descriptorIndex := 18, attributes := #[] }, { accessFlags := 9, nameIndex := 81, descriptorIndex := 82, attributes := #[] }] 49 2 #[] #[{ accessFlags := 25, nameIndex := 72, descriptorIndex := 73, attributes := #[] }, { accessFlags := 25, nameIndex := 76, descriptorIndex := 73, attributes := #[] }, { accessFlags := 26, nameIndex := 35, descriptorIndex := 36, attributes := #[] }])
  fields := #[{ name := "DATE_LENGTH", type := .int, accessFlags := 25, slot := 0, constantValue := 0 }, { name := "FIRST_YEAR", type := .int, accessFlags := 25, slot := 1, constantValue := 0 }, { name := "MONTH_DAYS", type := (.array .int), accessFlags := 26, slot := 2, constantValue := 0 }]
  methods := #[k12m0, k12m1, k12m2]
  instanceTypes := #[]
  staticTypes := #[.int, .int, (.array .int)]
  resolved := Array.replicate 97 none
  statics := none }

def pool13 : Array CpInfo := pool [(9, u "<init>"), (6, .class_ 18), (1, u "java/lang/Object"), (0, u "()V"), (1, .class_ 23), (1, u "jdk/internal/util/ArraysSupport"), (0, u "LOG2_ARRAY_LONG_INDEX_SCALE"), (0, u "I"), (2, u "U"), (0, u "Ljdk/internal/misc/Unsafe;"), (8, u "BIG_ENDIAN"), (0, u "Z"), (8, u "LOG2_BYTE_BIT_SIZE"), (4, u "LOG2_ARRAY_INT_INDEX_SCALE"), (54, u "JLA"), (0, u "Ljdk/internal/access/JavaLangAccess;"), (11, u "LOG2_ARRAY_BOOLEAN_INDEX_SCALE"), (9, u "LOG2_ARRAY_BYTE_INDEX_SCALE"), (5, u "LOG2_ARRAY_CHAR_INDEX_SCALE"), (5, u "LOG2_ARRAY_SHORT_INDEX_SCALE"), (18, u "LOG2_ARRAY_FLOAT_INDEX_SCALE"), (24, u "LOG2_ARRAY_DOUBLE_INDEX_SCALE"), (89, u "T_BOOLEAN"), (2, u "T_CHAR"), (1, u "T_FLOAT"), (1, u "T_DOUBLE"), (1, u "T_BYTE"), (1, u "T_SHORT"), (1, u "T_INT"), (1, u "T_LONG"), (1, u "SOFT_MAX_ARRAY_LENGTH")] 83

def k13m0 : Method := { name := "<init>", desc := "()V", sig := { parameters := [], returnType := none }, accessFlags := 2, code := none }
/-- jdk/internal/util/ArraysSupport -/
def k13 : Class := { plain "jdk/internal/util/ArraysSupport" (some 0) with
  accessFlags := 33
  interfaces := #[]
  cf := some (fileOf pool13 21 #[] #[{ accessFlags := 2, nameIndex := 9, descriptorIndex := 19, attributes := #[] }] 33 16 #[] #[{ accessFlags := 24, nameIndex := 28, descriptorIndex := 29, attributes := #[] }, { accessFlags := 26, nameIndex := 38, descriptorIndex := 39, attributes := #[] }, { accessFlags := 25, nameIndex := 121, descriptorIndex := 25, attributes := #[] }, { accessFlags := 25, nameIndex := 131, descriptorIndex := 25, attributes := #[] }, { accessFlags := 25, nameIndex := 137, descriptorIndex := 25, attributes := #[] }, { accessFlags := 25, nameIndex := 143, descriptorIndex := 25, attributes := #[] }, { accessFlags := 25, nameIndex := 53, descriptorIndex := 25, attributes := #[] }, { accessFlags := 25, nameIndex := 24, descriptorIndex := 25, attributes := #[] }, { accessFlags := 25, nameIndex := 162, descriptorIndex := 25, attributes := #[] }, { accessFlags := 25, nameIndex := 187, descriptorIndex := 25, attributes := #[] }, { accessFlags := 26, nameIndex := 48, descriptorIndex := 25, attributes := #[] }, { accessFlags := 25, nameIndex := 277, descriptorIndex := 25, attributes := #[] }, { accessFlags := 25, nameIndex := 280, descriptorIndex := 25, attributes := #[] }, { accessFlags := 25, nameIndex := 282, descriptorIndex := 25, attributes := #[] }, { accessFlags := 25, nameIndex := 284, descriptorIndex := 25, attributes := #[] }, { accessFlags := 25, nameIndex := 286, descriptorIndex := 25, attributes := #[] }, { accessFlags := 25, nameIndex := 288, descriptorIndex := 25, attributes := #[] }, { accessFlags := 25, nameIndex := 290, descriptorIndex := 25, attributes := #[] }, { accessFlags := 25, nameIndex := 292, descriptorIndex := 25, attributes := #[] }, { accessFlags := 26, nameIndex := 108, descriptorIndex := 109, attributes := #[] }, { accessFlags := 25, nameIndex := 294, descriptorIndex := 25, attributes := #[] }])
  fields := #[{ name := "U", type := (.object "jdk/internal/misc/Unsafe"), accessFlags := 24, slot := 0, constantValue := 0 }, { name := "BIG_ENDIAN", type := .boolean, accessFlags := 26, slot := 1, constantValue := 0 }, { name := "LOG2_ARRAY_BOOLEAN_INDEX_SCALE", type := .int, accessFlags := 25, slot := 2, constantValue := 0 }, { name := "LOG2_ARRAY_BYTE_INDEX_SCALE", type := .int, accessFlags := 25, slot := 3, constantValue := 0 }, { name := "LOG2_ARRAY_CHAR_INDEX_SCALE", type := .int, accessFlags := 25, slot := 4, constantValue := 0 }, { name := "LOG2_ARRAY_SHORT_INDEX_SCALE", type := .int, accessFlags := 25, slot := 5, constantValue := 0 }, { name := "LOG2_ARRAY_INT_INDEX_SCALE", type := .int, accessFlags := 25, slot := 6, constantValue := 0 }, { name := "LOG2_ARRAY_LONG_INDEX_SCALE", type := .int, accessFlags := 25, slot := 7, constantValue := 0 }, { name := "LOG2_ARRAY_FLOAT_INDEX_SCALE", type := .int, accessFlags := 25, slot := 8, constantValue := 0 }, { name := "LOG2_ARRAY_DOUBLE_INDEX_SCALE", type := .int, accessFlags := 25, slot := 9, constantValue := 0 }, { name := "LOG2_BYTE_BIT_SIZE", type := .int, accessFlags := 26, slot := 10, constantValue := 0 }, { name := "T_BOOLEAN", type := .int, accessFlags := 25, slot := 11, constantValue := 0 }, { name := "T_CHAR", type := .int, accessFlags := 25, slot := 12, constantValue := 0 }, { name := "T_FLOAT", type := .int, accessFlags := 25, slot := 13, constantValue := 0 }, { name := "T_DOUBLE", type := .int, accessFlags := 25, slot := 14, constantValue := 0 }, { name := "T_BYTE", type := .int, accessFlags := 25, slot := 15, constantValue := 0 }, { name := "T_SHORT", type := .int, accessFlags := 25, slot := 16, constantValue := 0 }, { name := "T_INT", type := .int, accessFlags := 25, slot := 17, constantValue := 0 }, { name := "T_LONG", type := .int, accessFlags := 25, slot := 18, constantValue := 0 }, { name := "JLA", type := (.object "jdk/internal/access/JavaLangAccess"), accessFlags := 26, slot := 19, constantValue := 0 }, { name := "SOFT_MAX_ARRAY_LENGTH", type := .int, accessFlags := 25, slot := 20, constantValue := 0 }]
  methods := #[k13m0]
  instanceTypes := #[]
  staticTypes := #[(.object "jdk/internal/misc/Unsafe"), .boolean, .int, .int, .int, .int, .int, .int, .int, .int, .int, .int, .int, .int, .int, .int, .int, .int, .int, (.object "jdk/internal/access/JavaLangAccess"), .int]
  resolved := Array.replicate 378 none
  statics := none }

def pool14 : Array CpInfo := pool [(1, u "java/lang/Cloneable"), (0, .class_ 1), (0, u "java/lang/Object"), (0, .class_ 3)] 3

/-- java/lang/Cloneable -/
def k14 : Class := { plain "java/lang/Cloneable" (some 0) with
  accessFlags := 1537
  interfaces := #[]
  cf := some (fileOf pool14 2 #[] #[] 1537 4 #[] #[])
  fields := #[]
  methods := #[]
  instanceTypes := #[]
  staticTypes := #[]
  resolved := Array.replicate 8 none
  statics := none }

/-- the primitive byte -/
def k15 : Class := { plain "byte" none with kind := .primitive 'B', accessFlags := 0x411 }
/-- [B -/
def k16 : Class := { plain "[B" (some 0) with kind := .array 15 .byte, interfaces := #[14, 3], accessFlags := 1041 }

/-- the primitive char -/
def k17 : Class := { plain "char" none with kind := .primitive 'C', accessFlags := 0x411 }
/-- [C -/
def k18 : Class := { plain "[C" (some 0) with kind := .array 17 .char, interfaces := #[14, 3], accessFlags := 1041 }

/-- the primitive int -/
def k19 : Class := { plain "int" none with kind := .primitive 'I', accessFlags := 0x411 }
/-- [I -/
def k20 : Class := { plain "[I" (some 0) with kind := .array 19 .int, interfaces := #[14, 3], accessFlags := 1041 }

def heap : Heap := #[{ cls := 8, slots := #[.long 0, .int 1, .null, .int 0, .null, .int 0, .int 0], vm := .statics 8 },
  { cls := 11, slots := #[.null, .null, .null], vm := .statics 11 }]
def classes : Array Class := #[k0, k1, k2, k3, k4, k5, k6, k7, k8, k9, k10, k11, k12, k13, k14, k15, k16, k17, k18, k19, k20]
def interned : List (Array UInt16 × Addr) := []
def slotsUsed : Nat := 10
def theMethod : MethodId := ⟨1, 1⟩
def args0 : Array Value := #[.long 5, .int 3, .int 1]
def aboutOver (below : List Frame) : State where
  vm := { classes := classes, interned := interned.toArray }
  heap := heap
  slotsUsed := slotsUsed
  threads := #[{ frames := .invoking theMethod args0 :: below }]
def below0 : List Frame := [.native { method := ⟨0, 0⟩, args := #[] }]
def about1 : State := aboutOver below0
def p0 : Program := .bare "" "" ""
def e0 : Env := launch0.env 0 0 0
theorem w_frames : about1.frames = Frame.invoking theMethod args0 :: below0 := rfl
set_option maxRecDepth 65536 in
theorem w_args : argsFit about1.vm theMethod args0 = true := by decide +kernel
set_option maxRecDepth 65536 in
theorem w_heap : heapFits about1 = true := by decide +kernel
set_option maxRecDepth 65536 in
theorem w_runnable : about1.curStatus? = some .runnable := by decide +kernel
set_option maxRecDepth 65536 in
theorem w_alone : about1.alone = true := by decide +kernel
set_option maxRecDepth 65536 in
theorem w_named : about1.methodNamed? x = some theMethod := by decide +kernel
set_option maxRecDepth 65536 in
theorem w_hears : about1.hears theMethod below0 = true := by decide +kernel
set_option maxRecDepth 65536 in
theorem w_ripe : about1.ripe theMethod args0 below0 = true := by decide +kernel
theorem w_running : about1.status = .running := rfl
set_option maxRecDepth 65536 in
theorem w_room : about1.hasRoom e0.platform room_1 = true :=
  launch0.hasRoom_least _ room_1 (by decide +kernel) (by decide +kernel) (by decide +kernel) (by decide +kernel) (by decide +kernel) (by decide +kernel)
theorem allAtoms_all (ts : List Jvm.Cond) (a : Array Jvm.Value) (st : Jvm.State) : (allAtoms ts).before a st = ts.all (fun c => c.before a st) := by
  induction ts with
  | nil => rfl
  | cons c t ih =>
    show (Jvm.Cond.and c (allAtoms t)).before a st = _
    rw [Jvm.Cond.before_and, ih, List.all_cons]
def words1 : List Jvm.Cond := Jvm.Cond.code x code maxLocals ret :: tables_1
/-- a 'code' word, met by the world's own term for the bytes: nothing is compared byte by byte -/
theorem code_word {y : MethodName} {bytes : ByteArray} {mx : Nat} {rt : Option FieldType} {a : Array Value} {s : State} {m : MethodId} {meth : Method} {c : Code} (h1 : s.methodNamed? y = some m) (h2 : s.vm.method? m = some meth) (h3 : meth.code = some c) (h4 : c.code = bytes)
    (h5 : (c.maxLocals == mx && c.exceptionTable.isEmpty && decide (c.maxStack ≤ mostOperands) && decide (meth.sig.returnType = rt) && !meth.locks && decide (parseMethodDescriptor y.desc = some meth.sig)) = true) : (Jvm.Cond.code y bytes mx rt).before a s = true := by
  simp only [Bool.and_eq_true, beq_iff_eq, Bool.not_eq_true', decide_eq_true_eq] at h5
  obtain ⟨⟨⟨⟨⟨g1, g2⟩, g3⟩, g4⟩, g5⟩, g6⟩ := h5
  simp [Cond.before, Cond.holds, Cond.value, h1, h2, h3, h4, g1, g2, g3, g4, g5, g6]
def isCode : Jvm.Cond → Bool
  | .code _ _ _ _ => true
  | _ => false
theorem all_split {L : List Jvm.Cond} {P : Jvm.Cond → Bool} (h1 : L.all (fun c => isCode c || P c) = true) (h2 : ∀ c ∈ L.filter isCode, P c = true) : L.all P = true := by
  refine List.all_eq_true.mpr fun c hc => ?_
  have h := List.all_eq_true.mp h1 c hc
  rcases Bool.eq_false_or_eq_true (isCode c) with hi | hi
  · exact h2 c (List.mem_filter.mpr ⟨hc, hi⟩)
  · simpa [hi] using h
set_option maxRecDepth 65536 in
theorem w_c0 : (Jvm.Cond.code x code maxLocals ret).before args0 about1 = true := code_word (m := ⟨1, 1⟩) (meth := k1m1) (c := k1c1) (by decide +kernel) rfl rfl rfl (by decide +kernel)
set_option maxRecDepth 65536 in
theorem w_c1 : (Jvm.Cond.code ({ cls := "com/example/poruka/poruka/rules/Amounts", name := "getChars", desc := "(J[CI)I" } : Jvm.MethodName) prog_133_method_7_code (8 : Nat) (Option.some Jvm.ClassFile.FieldType.int)).before args0 about1 = true := code_word (m := ⟨2, 3⟩) (meth := k2m3) (c := k2c3) (by decide +kernel) rfl rfl rfl (by decide +kernel)
set_option maxRecDepth 65536 in
theorem w_c2 : (Jvm.Cond.code ({ cls := "java/lang/String", name := "<init>", desc := "([C)V" } : Jvm.MethodName) jdk_42_method_3_code (2 : Nat) (Option.none : Option Jvm.ClassFile.FieldType)).before args0 about1 = true := code_word (m := ⟨8, 1⟩) (meth := k8m1) (c := k8c1) (by decide +kernel) rfl rfl rfl (by decide +kernel)
set_option maxRecDepth 65536 in
theorem w_c3 : (Jvm.Cond.code ({ cls := "java/lang/String", name := "<init>", desc := "([CIILjava/lang/Void;)V" } : Jvm.MethodName) jdk_42_method_149_code (6 : Nat) (Option.none : Option Jvm.ClassFile.FieldType)).before args0 about1 = true := code_word (m := ⟨8, 3⟩) (meth := k8m3) (c := k8c3) (by decide +kernel) rfl rfl rfl (by decide +kernel)
set_option maxRecDepth 65536 in
theorem w_c4 : (Jvm.Cond.code ({ cls := "java/lang/Object", name := "<init>", desc := "()V" } : Jvm.MethodName) object_method_1_code (1 : Nat) (Option.none : Option Jvm.ClassFile.FieldType)).before args0 about1 = true := code_word (m := ⟨0, 0⟩) (meth := k0m0) (c := k0c0) (by decide +kernel) rfl rfl rfl (by decide +kernel)
set_option maxRecDepth 65536 in
theorem w_c5 : (Jvm.Cond.code ({ cls := "java/lang/StringUTF16", name := "compress", desc := "([CII)[B" } : Jvm.MethodName) jdk_52_method_16_code (6 : Nat) (Option.some (Jvm.ClassFile.FieldType.array Jvm.ClassFile.FieldType.byte))).before args0 about1 = true := code_word (m := ⟨9, 2⟩) (meth := k9m2) (c := k9c2) (by decide +kernel) rfl rfl rfl (by decide +kernel)
set_option maxRecDepth 65536 in
theorem w_c6 : (Jvm.Cond.code ({ cls := "java/lang/StringUTF16", name := "compress", desc := "([CI[BII)I" } : Jvm.MethodName) jdk_52_method_21_code (7 : Nat) (Option.some Jvm.ClassFile.FieldType.int)).before args0 about1 = true := code_word (m := ⟨9, 3⟩) (meth := k9m3) (c := k9c3) (by decide +kernel) rfl rfl rfl (by decide +kernel)
set_option maxRecDepth 65536 in
theorem w_c7 : (Jvm.Cond.code ({ cls := "java/lang/StringUTF16", name := "coderFromArrayLen", desc := "([BI)B" } : Jvm.MethodName) jdk_52_method_15_code (2 : Nat) (Option.some Jvm.ClassFile.FieldType.byte)).before args0 about1 = true := code_word (m := ⟨9, 1⟩) (meth := k9m1) (c := k9c1) (by decide +kernel) rfl rfl rfl (by decide +kernel)
set_option maxRecDepth 65536 in
theorem w_c8 : (Jvm.Cond.code ({ cls := "com/example/poruka/poruka/rules/Amounts", name := "comma", desc := "(Ljava/lang/CharSequence;II)I" } : Jvm.MethodName) prog_133_method_2_code (4 : Nat) (Option.some Jvm.ClassFile.FieldType.int)).before args0 about1 = true := code_word (m := ⟨2, 1⟩) (meth := k2m1) (c := k2c1) (by decide +kernel) rfl rfl rfl (by decide +kernel)
set_option maxRecDepth 65536 in
theorem w_c9 : (Jvm.Cond.code ({ cls := "java/lang/String", name := "charAt", desc := "(I)C" } : Jvm.MethodName) jdk_42_method_56_code (2 : Nat) (Option.some Jvm.ClassFile.FieldType.char)).before args0 about1 = true := code_word (m := ⟨8, 2⟩) (meth := k8m2) (c := k8c2) (by decide +kernel) rfl rfl rfl (by decide +kernel)
set_option maxRecDepth 65536 in
theorem w_c10 : (Jvm.Cond.code ({ cls := "java/lang/String", name := "isLatin1", desc := "()Z" } : Jvm.MethodName) jdk_42_method_154_code (1 : Nat) (Option.some Jvm.ClassFile.FieldType.boolean)).before args0 about1 = true := code_word (m := ⟨8, 4⟩) (meth := k8m4) (c := k8c4) (by decide +kernel) rfl rfl rfl (by decide +kernel)
set_option maxRecDepth 65536 in
theorem w_c11 : (Jvm.Cond.code ({ cls := "java/lang/StringLatin1", name := "charAt", desc := "([BI)C" } : Jvm.MethodName) jdk_43_method_2_code (2 : Nat) (Option.some Jvm.ClassFile.FieldType.char)).before args0 about1 = true := code_word (m := ⟨10, 1⟩) (meth := k10m1) (c := k10c1) (by decide +kernel) rfl rfl rfl (by decide +kernel)
set_option maxRecDepth 65536 in
theorem w_c12 : (Jvm.Cond.code ({ cls := "java/lang/String", name := "checkIndex", desc := "(II)V" } : Jvm.MethodName) jdk_42_method_155_code (2 : Nat) (Option.none : Option Jvm.ClassFile.FieldType)).before args0 about1 = true := code_word (m := ⟨8, 5⟩) (meth := k8m5) (c := k8c5) (by decide +kernel) rfl rfl rfl (by decide +kernel)
set_option maxRecDepth 65536 in
theorem w_c13 : (Jvm.Cond.code ({ cls := "jdk/internal/util/Preconditions", name := "checkIndex", desc := "(IILjava/util/function/BiFunction;)I" } : Jvm.MethodName) jdk_41_method_11_code (3 : Nat) (Option.some Jvm.ClassFile.FieldType.int)).before args0 about1 = true := code_word (m := ⟨11, 1⟩) (meth := k11m1) (c := k11c1) (by decide +kernel) rfl rfl rfl (by decide +kernel)
set_option maxRecDepth 65536 in
theorem w_c14 : (Jvm.Cond.code ({ cls := "com/example/poruka/poruka/fin/FinText", name := "isDigits", desc := "(Ljava/lang/CharSequence;II)Z" } : Jvm.MethodName) prog_86_method_4_code (4 : Nat) (Option.some Jvm.ClassFile.FieldType.boolean)).before args0 about1 = true := code_word (m := ⟨12, 2⟩) (meth := k12m2) (c := k12c2) (by decide +kernel) rfl rfl rfl (by decide +kernel)
set_option maxRecDepth 65536 in
theorem w_c15 : (Jvm.Cond.code ({ cls := "com/example/poruka/poruka/fin/FinText", name := "isDigit", desc := "(C)Z" } : Jvm.MethodName) prog_86_method_2_code (1 : Nat) (Option.some Jvm.ClassFile.FieldType.boolean)).before args0 about1 = true := code_word (m := ⟨12, 1⟩) (meth := k12m1) (c := k12c1) (by decide +kernel) rfl rfl rfl (by decide +kernel)
set_option maxRecDepth 65536 in
theorem w_c16 : (Jvm.Cond.code ({ cls := "com/example/poruka/poruka/rules/Amounts", name := "hundredths", desc := "(Ljava/lang/CharSequence;III)J" } : Jvm.MethodName) prog_133_method_6_code (7 : Nat) (Option.some Jvm.ClassFile.FieldType.long)).before args0 about1 = true := code_word (m := ⟨2, 2⟩) (meth := k2m2) (c := k2c2) (by decide +kernel) rfl rfl rfl (by decide +kernel)
def codes1 : List Jvm.Cond := [Jvm.Cond.code x code maxLocals ret, Jvm.Cond.code ({ cls := "com/example/poruka/poruka/rules/Amounts", name := "getChars", desc := "(J[CI)I" } : Jvm.MethodName) prog_133_method_7_code (8 : Nat) (Option.some Jvm.ClassFile.FieldType.int), Jvm.Cond.code ({ cls := "java/lang/String", name := "<init>", desc := "([C)V" } : Jvm.MethodName) jdk_42_method_3_code (2 : Nat) (Option.none : Option Jvm.ClassFile.FieldType), Jvm.Cond.code ({ cls := "java/lang/String", name := "<init>", desc := "([CIILjava/lang/Void;)V" } : Jvm.MethodName) jdk_42_method_149_code (6 : Nat) (Option.none : Option Jvm.ClassFile.FieldType), Jvm.Cond.code ({ cls := "java/lang/Object", name := "<init>", desc := "()V" } : Jvm.MethodName) object_method_1_code (1 : Nat) (Option.none : Option Jvm.ClassFile.FieldType), Jvm.Cond.code ({ cls := "java/lang/StringUTF16", name := "compress", desc := "([CII)[B" } : Jvm.MethodName) jdk_52_method_16_code (6 : Nat) (Option.some (Jvm.ClassFile.FieldType.array Jvm.ClassFile.FieldType.byte)), Jvm.Cond.code ({ cls := "java/lang/StringUTF16", name := "compress", desc := "([CI[BII)I" } : Jvm.MethodName) jdk_52_method_21_code (7 : Nat) (Option.some Jvm.ClassFile.FieldType.int), Jvm.Cond.code ({ cls := "java/lang/StringUTF16", name := "coderFromArrayLen", desc := "([BI)B" } : Jvm.MethodName) jdk_52_method_15_code (2 : Nat) (Option.some Jvm.ClassFile.FieldType.byte), Jvm.Cond.code ({ cls := "com/example/poruka/poruka/rules/Amounts", name := "comma", desc := "(Ljava/lang/CharSequence;II)I" } : Jvm.MethodName) prog_133_method_2_code (4 : Nat) (Option.some Jvm.ClassFile.FieldType.int), Jvm.Cond.code ({ cls := "java/lang/String", name := "charAt", desc := "(I)C" } : Jvm.MethodName) jdk_42_method_56_code (2 : Nat) (Option.some Jvm.ClassFile.FieldType.char), Jvm.Cond.code ({ cls := "java/lang/String", name := "isLatin1", desc := "()Z" } : Jvm.MethodName) jdk_42_method_154_code (1 : Nat) (Option.some Jvm.ClassFile.FieldType.boolean), Jvm.Cond.code ({ cls := "java/lang/StringLatin1", name := "charAt", desc := "([BI)C" } : Jvm.MethodName) jdk_43_method_2_code (2 : Nat) (Option.some Jvm.ClassFile.FieldType.char), Jvm.Cond.code ({ cls := "java/lang/String", name := "checkIndex", desc := "(II)V" } : Jvm.MethodName) jdk_42_method_155_code (2 : Nat) (Option.none : Option Jvm.ClassFile.FieldType), Jvm.Cond.code ({ cls := "jdk/internal/util/Preconditions", name := "checkIndex", desc := "(IILjava/util/function/BiFunction;)I" } : Jvm.MethodName) jdk_41_method_11_code (3 : Nat) (Option.some Jvm.ClassFile.FieldType.int), Jvm.Cond.code ({ cls := "com/example/poruka/poruka/fin/FinText", name := "isDigits", desc := "(Ljava/lang/CharSequence;II)Z" } : Jvm.MethodName) prog_86_method_4_code (4 : Nat) (Option.some Jvm.ClassFile.FieldType.boolean), Jvm.Cond.code ({ cls := "com/example/poruka/poruka/fin/FinText", name := "isDigit", desc := "(C)Z" } : Jvm.MethodName) prog_86_method_2_code (1 : Nat) (Option.some Jvm.ClassFile.FieldType.boolean), Jvm.Cond.code ({ cls := "com/example/poruka/poruka/rules/Amounts", name := "hundredths", desc := "(Ljava/lang/CharSequence;III)J" } : Jvm.MethodName) prog_133_method_6_code (7 : Nat) (Option.some Jvm.ClassFile.FieldType.long)]
set_option maxRecDepth 65536 in
theorem codes_eq : words1.filter isCode = codes1 := rfl
theorem w_codes : ∀ c ∈ words1.filter isCode, c.before args0 about1 = true := by
  rw [codes_eq]
  intro c hc
  simp only [codes1, List.mem_cons, List.not_mem_nil, or_false] at hc
  rcases hc with rfl | rfl | rfl | rfl | rfl | rfl | rfl | rfl | rfl | rfl | rfl | rfl | rfl | rfl | rfl | rfl | rfl
  · exact w_c0
  · exact w_c1
  · exact w_c2
  · exact w_c3
  · exact w_c4
  · exact w_c5
  · exact w_c6
  · exact w_c7
  · exact w_c8
  · exact w_c9
  · exact w_c10
  · exact w_c11
  · exact w_c12
  · exact w_c13
  · exact w_c14
  · exact w_c15
  · exact w_c16
set_option maxRecDepth 65536 in
theorem w_t1 : (words1.take 24).all (fun c => isCode c || c.before args0 about1) = true := by decide +kernel
set_option maxRecDepth 65536 in
theorem w_t2 : ((words1.drop 24).take 24).all (fun c => isCode c || c.before args0 about1) = true := by decide +kernel
set_option maxRecDepth 65536 in
theorem w_t3 : (((words1.drop 24).drop 24).take 24).all (fun c => isCode c || c.before args0 about1) = true := by decide +kernel
set_option maxRecDepth 65536 in
theorem w_t4 : (((words1.drop 24).drop 24).drop 24).all (fun c => isCode c || c.before args0 about1) = true := by decide +kernel
theorem w_tables : (allAtoms (Jvm.Cond.code x code maxLocals ret :: tables_1)).before args0 about1 = true := by
  rw [allAtoms_all]
  show words1.all (fun c => c.before args0 about1) = true
  refine all_split ?_ w_codes
  rw [← List.take_append_drop 24 words1, List.all_append, w_t1, ← List.take_append_drop 24 (words1.drop 24), List.all_append, w_t2, ← List.take_append_drop 24 ((words1.drop 24).drop 24), List.all_append, w_t3, w_t4]
  rfl
set_option maxRecDepth 65536 in
theorem w_rest : rest_1_c.before args0 about1 = true := by decide +kernel
set_option maxRecDepth 65536 in
theorem w_case : (Jvm.Cond.and given_1 narrow_1).before args0 about1 = true := by decide +kernel
theorem w_applies : (headSpec (Jvm.Cond.code x code maxLocals ret :: tables_1) room_1).applies x e0.platform about1 = true :=
  (Spec.applies_iff w_frames).mpr ⟨w_running, w_runnable, w_alone, w_named, w_hears, w_ripe, w_room, w_tables⟩
theorem atStart : AtStart classFile x code maxLocals ret World_1 tables_1 room_1 Calls_1 rest_1 Pre_1 launch0 p0 e0 about1 theMethod args0 below0 :=
  ⟨lists_1, trivial, launch0.admits_env _ _ _, launch0.least_env, fairChoices_fair.cas, fairChoices_fair.clock, w_frames, w_args, w_heap, w_applies, trivial, w_rest, w_case⟩
end start1
theorem witness_1 : WitnessClaimed_1 := ⟨start1.p0, start1.e0, start1.about1, start1.theMethod, start1.args0, start1.below0, start1.atStart⟩
end Jvm.Pilot.@@N@@
