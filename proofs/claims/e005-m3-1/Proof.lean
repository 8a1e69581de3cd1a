import JvmDerived
import JvmDerived.Pilot.@@N@@Statement
import JvmDerived.Pilot.@@N@@Code
set_option linter.unusedVariables false
set_option linter.unusedSimpArgs false
/- laws to paste: Road.backV, Road.eqW, Road.codOf (cut by pick.py; bodies as the Statement names them) -/
namespace Jvm.Pilot.@@N@@
namespace StrChars
open Jvm Sem ClassFile Op Lib Jvm.Stand Jvm.Free.XT Jvm.Free.ALB Jvm.Free.JM Jvm.Free
open Jvm.Lib.Cold (StaticIs)
/-- a char array whose places are chars -/
def Ch (a : Addr) (A : Cell) (U : State) : Prop := Arr .char a A U ∧ Typed .char A
theorem Ch.mv {a : Addr} {A : Cell} {U U' : State} (h : Ch a A U) (hal : U.vm.Alike U'.vm) (hh : U'.heap = U.heap) : Ch a A U' := ⟨h.1.mv hal hh, h.2⟩
theorem Ch.keep {a : Addr} {A : Cell} {U U' : State} (h : Ch a A U) (hal : U.vm.Alike U'.vm) (hk : U'.heap[a]? = some A) : Ch a A U' := ⟨h.1.keep hal hk, h.2⟩
/-- what place i of a char[]'s cell holds -/
def cv (A : Cell) (i : Nat) : Int32 := match A.slots[i]? with | some (.int x) => x | _ => 0
theorem Ch.get {a : Addr} {A : Cell} {U : State} (h : Ch a A U) {i : Nat} (hi : i < A.slots.size) : A.slots[i]? = some (.int (cv A i)) := by
  have e := Array.getElem?_eq_getElem hi
  have f := h.2 i _ e
  unfold cv; rw [e]
  generalize A.slots[i] = v at f
  cases v <;> simp [fits] at f ⊢
/-- the byte that i2b leaves of a char -/
def lo8 (x : Int32) : Int32 := x.toInt8.toInt32
theorem fits_lo8 (y : Int32) : fits .byte (.int (lo8 y)) = true := by
  have h1 := y.toInt8.le_toInt
  have h2 := y.toInt8.toInt_lt
  simp only [lo8, fits, Bool.and_eq_true, decide_eq_true_eq, Int32.le_iff_toInt_le, Int8.toInt_toInt32, show (-128 : Int32).toInt = -128 from by decide, show (127 : Int32).toInt = 127 from by decide]
  omega
/-- A' is A but that each place j of lo .. hi - 1 holds f j -/
def Laid (A A' : Cell) (lo hi : Nat) (f : Nat → Value) : Prop := A'.cls = A.cls ∧ A'.vm = A.vm ∧ A'.slots.size = A.slots.size ∧ ∀ i, A'.slots[i]? = if lo ≤ i ∧ i < hi then some (f i) else A.slots[i]?
theorem Laid.zero (A : Cell) (lo : Nat) (f : Nat → Value) : Laid A A lo (lo + 0) f := ⟨rfl, rfl, rfl, fun i => by rw [if_neg (by omega)]⟩
theorem Laid.step {A Ak : Cell} {lo k : Nat} {f : Nat → Value} {v : Value} (h : Laid A Ak lo k f) (hlo : lo ≤ k) (hk : k < Ak.slots.size) (hv : v = f k) : Laid A (Ak.setSlot k v) lo (k + 1) f := by
  refine ⟨h.1, h.2.1, by simpa [Cell.setSlot] using h.2.2.1, fun i => ?_⟩
  by_cases e : k = i
  · subst e; rw [Cell.slots_setSlot_self v hk, if_pos (by omega), hv]
  · rw [Cell.slots_setSlot_ne v e, h.2.2.2 i]
    by_cases q : lo ≤ i ∧ i < k
    · rw [if_pos q, if_pos (by omega)]
    · rw [if_neg q, if_neg (by omega)]
def U16 : String := "java/lang/StringUTF16"
namespace Cmp5
def yN : MethodName := ⟨"java/lang/StringUTF16", "compress", "([CI[BII)I"⟩
abbrev yB : ByteArray := jdk_52_method_21_code
theorem d0 : decode yB 0 = .ok (.iconst 0, 1) := by decide +kernel
theorem d1 : decode yB 1 = .ok (.istore 5, 2) := by decide +kernel
theorem d3 : decode yB 3 = .ok (.iload 5, 2) := by decide +kernel
theorem d5 : decode yB 5 = .ok (.iload 4, 2) := by decide +kernel
theorem d7 : decode yB 7 = .ok (.if_icmp (.ge) 37, 3) := by decide +kernel
theorem d10 : decode yB 10 = .ok (.aload_n 0, 1) := by decide +kernel
theorem d11 : decode yB 11 = .ok (.iload_n 1, 1) := by decide +kernel
theorem d12 : decode yB 12 = .ok (.caload, 1) := by decide +kernel
theorem d13 : decode yB 13 = .ok (.istore 6, 2) := by decide +kernel
theorem d15 : decode yB 15 = .ok (.iload 6, 2) := by decide +kernel
theorem d17 : decode yB 17 = .ok (.sipush 255, 3) := by decide +kernel
theorem d20 : decode yB 20 = .ok (.if_icmp (.le) 6, 3) := by decide +kernel
theorem d26 : decode yB 26 = .ok (.aload_n 2, 1) := by decide +kernel
theorem d27 : decode yB 27 = .ok (.iload_n 3, 1) := by decide +kernel
theorem d28 : decode yB 28 = .ok (.iload 6, 2) := by decide +kernel
theorem d30 : decode yB 30 = .ok (.i2b, 1) := by decide +kernel
theorem d31 : decode yB 31 = .ok (.bastore, 1) := by decide +kernel
theorem d32 : decode yB 32 = .ok (.iinc 1 1, 3) := by decide +kernel
theorem d35 : decode yB 35 = .ok (.iinc 3 1, 3) := by decide +kernel
theorem d38 : decode yB 38 = .ok (.iinc 5 1, 3) := by decide +kernel
theorem d41 : decode yB 41 = .ok (.goto (-38), 3) := by decide +kernel
theorem d44 : decode yB 44 = .ok (.iload 4, 2) := by decide +kernel
theorem d46 : decode yB 46 = .ok (.ireturn, 1) := by decide +kernel
def site : List Cond := []
def tab : Cond := tabOf yN yB 7 (some .int) site
def P (b : Addr) (A : Cell) (d : Addr) (B : Cell) (o q len : Nat) (args : Array Value) (s : State) : Prop := args = #[.ref b, .int (Int32.ofNat o), .ref d, .int (Int32.ofNat q), .int (Int32.ofNat len)] ∧ Ch b A s ∧ Arr .byte d B s ∧ b ≠ d ∧ o + len ≤ A.slots.size ∧ q + len ≤ B.slots.size ∧ ∀ i, i < len → ¬ 255 < cv A (o + i)
def E (b : Addr) (A : Cell) (d : Addr) (B : Cell) (o q len : Nat) (r : Option Value) (s u : State) : Prop := r = some (.int (Int32.ofNat len)) ∧ ∃ B', Put d B' s u ∧ Laid B B' q (q + len) (fun j => Value.int (lo8 (cv A (o + (j - q)))))
/-- no char of the range above 255: len; the places written hold each char's low byte -/
theorem law (l : Launch) (b : Addr) (A : Cell) (d : Addr) (B : Cell) (o q len : Nat) : Law l yN 5 5 0 0 yB 7 (some .int) site (P b A d B o q len) (E b A d B o q len) (copyLocs d q len) 0 0 := by
  refine Law.of_walk (plainFor_of_name (by decide +kernel)) (by decide +kernel) (by decide +kernel) (by decide) (fun _ _ h => by rw [h.1]; rfl) (fun _ U U' hal hh h => ⟨h.1, h.2.1.mv hal hh, h.2.2.1.mv hal hh, h.2.2.2⟩) (fun r U U' V V' h1 hal h2 h => ⟨h.1, h.2.elim fun B' q => ⟨B', q.1.mv h1 h2, q.2⟩⟩) ?_
  intro p e s m args below meth c s₁ X0 hexec hbytes hml hret hlk hnm hown hh0 W hP
  obtain ⟨rfl, hA, hB, hne, l1, l2, hp⟩ := hP
  have c1 : Steps p.tables e below (s₁.setTop (entryFrame m #[.ref b, .int (Int32.ofNat o), .ref d, .int (Int32.ofNat q), .int (Int32.ofNat len)] 7)) (s₁.setTop (mkF m 0 #[.val (.ref b), .val (.int (Int32.ofNat o)), .val (.ref d), .val (.int (Int32.ofNat q)), .val (.int (Int32.ofNat len)), .unset, .unset] [])) := entry rfl
  have hA0 := hA.1.mv X0.warmed.alike hh0
  have hB0 := hB.mv X0.warmed.alike hh0
  have a31 := hA.1.2.2.2
  have c2 : Steps p.tables e below (s₁.setTop (entryFrame m #[.ref b, .int (Int32.ofNat o), .ref d, .int (Int32.ofNat q), .int (Int32.ofNat len)] 7)) (s₁.setTop (mkF m 3 #[.val (.ref b), .val (.int (Int32.ofNat o)), .val (.ref d), .val (.int (Int32.ofNat q)), .val (.int (Int32.ofNat len)), .val (.int 0), .unset] [])) := c1.trans (by
    refine iconstV X0.here hexec rfl 0 (hb hbytes d0) (by decide) ?_
    refine XS.istore X0.here hexec rfl (hb hbytes d1) rfl rfl ?_
    exact Steps.refl _)
  have loop : ∀ (r i : Nat), i + r = len → ∀ (z : Slot), (z = .unset ∨ ∃ w, z = .val w ∧ w.category = 1) → ∀ (Tl : State) (Bk : Cell), Stand p l e { frames := 0, locals := 0, cells := 0, slots := 0 } s m #[.ref b, .int (Int32.ofNat o), .ref d, .int (Int32.ofNat q), .int (Int32.ofNat len)] below meth c Tl ([] ++ copyLocs d q i) 0 0 → Put d Bk s₁ Tl → Laid B Bk q (q + i) (fun j => Value.int (lo8 (cv A (o + (j - q))))) →
      Steps p.tables e below (s₁.setTop (entryFrame m #[.ref b, .int (Int32.ofNat o), .ref d, .int (Int32.ofNat q), .int (Int32.ofNat len)] 7)) (Tl.setTop (mkF m 3 #[.val (.ref b), .val (.int (Int32.ofNat (o + i))), .val (.ref d), .val (.int (Int32.ofNat (q + i))), .val (.int (Int32.ofNat len)), .val (.int (Int32.ofNat i)), z] [])) → ∃ (T' : State) (B' : Cell) (z' : Slot), Stand p l e { frames := 0, locals := 0, cells := 0, slots := 0 } s m #[.ref b, .int (Int32.ofNat o), .ref d, .int (Int32.ofNat q), .int (Int32.ofNat len)] below meth c T' ([] ++ copyLocs d q len) 0 0 ∧ Put d B' s₁ T' ∧ Laid B B' q (q + len) (fun j => Value.int (lo8 (cv A (o + (j - q))))) ∧
      Steps p.tables e below (s₁.setTop (entryFrame m #[.ref b, .int (Int32.ofNat o), .ref d, .int (Int32.ofNat q), .int (Int32.ofNat len)] 7)) (T'.setTop (mkF m 3 #[.val (.ref b), .val (.int (Int32.ofNat (o + len))), .val (.ref d), .val (.int (Int32.ofNat (q + len))), .val (.int (Int32.ofNat len)), .val (.int (Int32.ofNat len)), z'] [])) := by
    intro r
    induction r with
    | zero =>
      intro i hi z hz Tl Bk Xl pl fl cl
      have hil : i = len := by omega
      rw [hil] at Xl fl cl
      exact ⟨Tl, Bk, z, Xl, pl, fl, cl⟩
    | succ r ih =>
      intro i hi z hz Tl Bk Xl pl fl cl
      have all := X0.warmed.alike.symm.trans Xl.warmed.alike
      have hAl := hA0.keep all (pl.other hne hA0.1)
      have hBk := hB0.like all pl.1 fl.1 fl.2.1 fl.2.2.1
      have hlt : q + i < Bk.slots.size := by rw [fl.2.2.1]; omega
      have c3 : Steps p.tables e below (s₁.setTop (entryFrame m #[.ref b, .int (Int32.ofNat o), .ref d, .int (Int32.ofNat q), .int (Int32.ofNat len)] 7)) (Tl.setTop (mkF m 12 #[.val (.ref b), .val (.int (Int32.ofNat (o + i))), .val (.ref d), .val (.int (Int32.ofNat (q + i))), .val (.int (Int32.ofNat len)), .val (.int (Int32.ofNat i)), z] [.int (Int32.ofNat (o + i)), .ref b])) := cl.trans (by
        refine XS.iload Xl.here hexec rfl (hb hbytes d3) rfl ?_
        refine XS.iload Xl.here hexec rfl (hb hbytes d5) rfl ?_
        refine XS.icmpNo Xl.here hexec rfl (hb hbytes d7) rfl (ii_ge_f (lt32 (by omega) (by omega))) ?_
        refine XS.aloadN Xl.here hexec rfl (hb hbytes d10) rfl rfl ?_
        refine XS.iloadN Xl.here hexec rfl (hb hbytes d11) rfl ?_
        exact Steps.refl _)
      have c4 : Steps p.tables e below (s₁.setTop (entryFrame m #[.ref b, .int (Int32.ofNat o), .ref d, .int (Int32.ofNat q), .int (Int32.ofNat len)] 7)) (Tl.setTop (mkF m 13 #[.val (.ref b), .val (.int (Int32.ofNat (o + i))), .val (.ref d), .val (.int (Int32.ofNat (q + i))), .val (.int (Int32.ofNat len)), .val (.int (Int32.ofNat i)), z] [.int (cv A (o + i))])) := c3.trans (by
        refine Xl.aget hexec hAl rfl (hA.get (i := o + i) (by omega)) rfl rfl (hb hbytes d12) ?_
        exact Steps.refl _)
      have c5 : Steps p.tables e below (s₁.setTop (entryFrame m #[.ref b, .int (Int32.ofNat o), .ref d, .int (Int32.ofNat q), .int (Int32.ofNat len)] 7)) (Tl.setTop (mkF m 15 #[.val (.ref b), .val (.int (Int32.ofNat (o + i))), .val (.ref d), .val (.int (Int32.ofNat (q + i))), .val (.int (Int32.ofNat len)), .val (.int (Int32.ofNat i)), .val (.int (cv A (o + i)))] [])) := c4.trans (by
        refine XS.istoreS Xl.here hexec rfl (hb hbytes d13) rfl rfl hz ?_
        exact Steps.refl _)
      have c6 : Steps p.tables e below (s₁.setTop (entryFrame m #[.ref b, .int (Int32.ofNat o), .ref d, .int (Int32.ofNat q), .int (Int32.ofNat len)] 7)) (Tl.setTop (mkF m 31 #[.val (.ref b), .val (.int (Int32.ofNat (o + i))), .val (.ref d), .val (.int (Int32.ofNat (q + i))), .val (.int (Int32.ofNat len)), .val (.int (Int32.ofNat i)), .val (.int (cv A (o + i)))] [.int (lo8 (cv A (o + i))), .int (Int32.ofNat (q + i)), .ref d])) := c5.trans (by
        refine XS.iload Xl.here hexec rfl (hb hbytes d15) rfl ?_
        refine sipushV Xl.here hexec rfl 255 (hb hbytes d17) (by decide) ?_
        refine XS.icmpYes Xl.here hexec rfl (pc0 := 20) rfl (hb hbytes d20) rfl (ii_le_t (hp i (by omega))) (by decide) rfl ?_
        refine XS.aloadN Xl.here hexec rfl (hb hbytes d26) rfl rfl ?_
        refine XS.iloadN Xl.here hexec rfl (hb hbytes d27) rfl ?_
        refine XS.iload Xl.here hexec rfl (hb hbytes d28) rfl ?_
        refine i2b Xl.here hexec rfl (hb hbytes d30) rfl ?_
        exact Steps.refl _)
      obtain ⟨T7, X7, p7, st7⟩ := Xl.aput hexec hBk rfl hlt rfl (fits_lo8 (cv A (o + i))) (g := (mkF m 31 #[.val (.ref b), .val (.int (Int32.ofNat (o + i))), .val (.ref d), .val (.int (Int32.ofNat (q + i))), .val (.int (Int32.ofNat len)), .val (.int (Int32.ofNat i)), .val (.int (cv A (o + i)))] [.int (lo8 (cv A (o + i))), .int (Int32.ofNat (q + i)), .ref d])) rfl (rest := []) rfl (hb hbytes d31)
      have c8 : Steps p.tables e below (s₁.setTop (entryFrame m #[.ref b, .int (Int32.ofNat o), .ref d, .int (Int32.ofNat q), .int (Int32.ofNat len)] 7)) (T7.setTop (mkF m 32 #[.val (.ref b), .val (.int (Int32.ofNat (o + i))), .val (.ref d), .val (.int (Int32.ofNat (q + i))), .val (.int (Int32.ofNat len)), .val (.int (Int32.ofNat i)), .val (.int (cv A (o + i)))] [])) := c6.trans (st7 _ (Steps.refl _))
      have c9 : Steps p.tables e below (s₁.setTop (entryFrame m #[.ref b, .int (Int32.ofNat o), .ref d, .int (Int32.ofNat q), .int (Int32.ofNat len)] 7)) (T7.setTop (mkF m 3 #[.val (.ref b), .val (.int (Int32.ofNat (o + i) + 1)), .val (.ref d), .val (.int (Int32.ofNat (q + i) + 1)), .val (.int (Int32.ofNat len)), .val (.int (Int32.ofNat i + 1)), .val (.int (cv A (o + i)))] [])) := c8.trans (by
        refine iincV X7.here hexec rfl 1 (hb hbytes d32) (by decide) rfl rfl ?_
        refine iincV X7.here hexec rfl 1 (hb hbytes d35) (by decide) rfl rfl ?_
        refine iincV X7.here hexec rfl 1 (hb hbytes d38) (by decide) rfl rfl ?_
        refine XS.goto X7.here hexec rfl (pc0 := 41) rfl (hb hbytes d41) (by decide) rfl ?_
        exact Steps.refl _)
      have c10 : Steps p.tables e below (s₁.setTop (entryFrame m #[.ref b, .int (Int32.ofNat o), .ref d, .int (Int32.ofNat q), .int (Int32.ofNat len)] 7)) (T7.setTop (mkF m 3 #[.val (.ref b), .val (.int (Int32.ofNat (o + (i + 1)))), .val (.ref d), .val (.int (Int32.ofNat (q + (i + 1)))), .val (.int (Int32.ofNat len)), .val (.int (Int32.ofNat (i + 1))), .val (.int (cv A (o + i)))] [])) := by
        have := c9
        rw [succ32, succ32, succ32] at this
        exact this
      exact ih (i + 1) (by omega) _ (Or.inr ⟨_, rfl, rfl⟩) T7 _ (by rw [copyLocs_step, ← List.append_assoc]; exact X7) (pl.trans p7) (fl.step (by omega) hlt (by simp)) c10
  obtain ⟨T9, B9, z9, X9, p9, f9, g9⟩ := loop len 0 (by omega) .unset (Or.inl rfl) s₁ B (by simpa [copyLocs] using X0) ⟨hB0.1, fun _ _ => rfl, rfl⟩ (Laid.zero _ _ _) c2
  have c11 : Steps p.tables e below (s₁.setTop (entryFrame m #[.ref b, .int (Int32.ofNat o), .ref d, .int (Int32.ofNat q), .int (Int32.ofNat len)] 7)) (T9.setTop (mkF m 46 #[.val (.ref b), .val (.int (Int32.ofNat (o + len))), .val (.ref d), .val (.int (Int32.ofNat (q + len))), .val (.int (Int32.ofNat len)), .val (.int (Int32.ofNat len)), z9] [.int (Int32.ofNat len)])) := g9.trans (by
    refine XS.iload X9.here hexec rfl (hb hbytes d3) rfl ?_
    refine XS.iload X9.here hexec rfl (hb hbytes d5) rfl ?_
    refine XS.icmpYes X9.here hexec rfl (pc0 := 7) rfl (hb hbytes d7) rfl (ii_ge_t (nlt32 (by omega) (Nat.le_refl _))) (by decide) rfl ?_
    refine XS.iload X9.here hexec rfl (hb hbytes d44) rfl ?_
    exact Steps.refl _)
  exact ⟨T9, some (.int (Int32.ofNat len)), _, _, _, X9, by simp, rfl, rfl, (fun h => by cases h), ⟨rfl, B9, p9.from hh0, f9⟩, fun fs hl => c11.trans (X9.ireturnOut hexec hret rfl (Or.inl rfl) (hb hbytes d46) hl)⟩
end Cmp5
namespace Cmp3
def yN : MethodName := ⟨"java/lang/StringUTF16", "compress", "([CII)[B"⟩
abbrev yB : ByteArray := jdk_52_method_16_code
theorem d0 : decode yB 0 = .ok (.iload_n 2, 1) := by decide +kernel
theorem d1 : decode yB 1 = .ok (.newarray .byte, 2) := by decide +kernel
theorem d3 : decode yB 3 = .ok (.astore_n 3, 1) := by decide +kernel
theorem d4 : decode yB 4 = .ok (.aload_n 0, 1) := by decide +kernel
theorem d5 : decode yB 5 = .ok (.iload_n 1, 1) := by decide +kernel
theorem d6 : decode yB 6 = .ok (.aload_n 3, 1) := by decide +kernel
theorem d7 : decode yB 7 = .ok (.iconst 0, 1) := by decide +kernel
theorem d8 : decode yB 8 = .ok (.iload_n 2, 1) := by decide +kernel
theorem d9 : decode yB 9 = .ok (.invokestatic 115, 3) := by decide +kernel
theorem d12 : decode yB 12 = .ok (.istore 4, 2) := by decide +kernel
theorem d14 : decode yB 14 = .ok (.iload 4, 2) := by decide +kernel
theorem d16 : decode yB 16 = .ok (.iload_n 2, 1) := by decide +kernel
theorem d17 : decode yB 17 = .ok (.if_icmp (.eq) 40, 3) := by decide +kernel
theorem d57 : decode yB 57 = .ok (.aload_n 3, 1) := by decide +kernel
theorem d58 : decode yB 58 = .ok (.areturn, 1) := by decide +kernel
def site : List Cond := [.arrayClass .byte, Cmp5.tab] ++ staticW U16 115 Cmp5.yN
def tab : Cond := tabOf yN yB 6 (some (.array .byte)) site
def P (b : Addr) (A : Cell) (o len : Nat) (args : Array Value) (s : State) : Prop := args = #[.ref b, .int (Int32.ofNat o), .int (Int32.ofNat len)] ∧ Ch b A s ∧ o + len ≤ A.slots.size ∧ len ≤ 536870912 ∧ ∀ i, i < len → ¬ 255 < cv A (o + i)
def E (b : Addr) (A : Cell) (o len : Nat) (r : Option Value) (s u : State) : Prop := NewArr .byte "[B" len (fun j => .int (lo8 (cv A (o + j)))) r s u ∧ u.heap.size = s.heap.size + 1
/-- no char of the range above 255: a new byte[] of their low bytes -/
theorem law (l : Launch) (b : Addr) (A : Cell) (o len : Nat) : Law l yN 3 3 1 18 yB 6 (some (.array .byte)) site (P b A o len) (E b A o len) [] 1 len := by
  refine Law.of_walk (plainFor_of_name (by decide +kernel)) (by decide +kernel) (by decide +kernel) (by decide) (fun _ _ h => by rw [h.1]; rfl) (fun _ U U' hal hh h => ⟨h.1, h.2.1.mv hal hh, h.2.2⟩) (fun r U U' V V' h1 hal h2 h => ⟨NewArr.mv r U U' V V' h1 hal h2 h.1, by rw [h1, h2]; exact h.2⟩) ?_
  intro p e s m args below meth c s₁ X0 hexec hbytes hml hret hlk hnm hown hh0 W hP
  obtain ⟨rfl, hA, l1, l2, hp⟩ := hP
  have a31 := hA.1.2.2.2
  have c1 : Steps p.tables e below (s₁.setTop (entryFrame m #[.ref b, .int (Int32.ofNat o), .int (Int32.ofNat len)] 6)) (s₁.setTop (mkF m 0 #[.val (.ref b), .val (.int (Int32.ofNat o)), .val (.int (Int32.ofNat len)), .unset, .unset, .unset] [])) := entry rfl
  have c2 : Steps p.tables e below (s₁.setTop (entryFrame m #[.ref b, .int (Int32.ofNat o), .int (Int32.ofNat len)] 6)) (s₁.setTop (mkF m 1 #[.val (.ref b), .val (.int (Int32.ofNat o)), .val (.int (Int32.ofNat len)), .unset, .unset, .unset] [.int (Int32.ofNat len)])) := c1.trans (by
    refine XS.iloadN X0.here hexec rfl (hb hbytes d0) rfl ?_
    exact Steps.refl _)
  obtain ⟨T3, B3, X3, ba3, bs3, bv3, bh3, bf3, st3⟩ := X0.anew hexec (atype := .byte) (wk W (.arrayClass .byte)) rfl (by show len * 1 ≤ _; omega) (by omega) (g := (mkF m 1 #[.val (.ref b), .val (.int (Int32.ofNat o)), .val (.int (Int32.ofNat len)), .unset, .unset, .unset] [.int (Int32.ofNat len)])) rfl (hb hbytes d1) (rest := []) rfl (Nat.le_refl _) (by show 0 + len ≤ len; omega)
  rw [hh0] at ba3 st3
  have kp3 : XT.Kept s T3 := (XT.Kept.of_eq hh0).push bh3
  have hA3 := hA.keep X3.warmed.alike (kp3 _ _ hA.1.1)
  have hne : b ≠ s.heap.size := hA.1.ne
  have c4 : Steps p.tables e below (s₁.setTop (entryFrame m #[.ref b, .int (Int32.ofNat o), .int (Int32.ofNat len)] 6)) (T3.setTop (mkF m 3 #[.val (.ref b), .val (.int (Int32.ofNat o)), .val (.int (Int32.ofNat len)), .unset, .unset, .unset] [.ref s.heap.size])) := c2.trans (st3 _ (Steps.refl _))
  have c5 : Steps p.tables e below (s₁.setTop (entryFrame m #[.ref b, .int (Int32.ofNat o), .int (Int32.ofNat len)] 6)) (T3.setTop (mkF m 9 #[.val (.ref b), .val (.int (Int32.ofNat o)), .val (.int (Int32.ofNat len)), .val (.ref s.heap.size), .unset, .unset] [.int (Int32.ofNat len), .int 0, .ref s.heap.size, .int (Int32.ofNat o), .ref b])) := c4.trans (by
    refine XS.astoreN X3.here hexec rfl (hb hbytes d3) rfl rfl rfl ?_
    refine XS.aloadN X3.here hexec rfl (hb hbytes d4) rfl rfl ?_
    refine XS.iloadN X3.here hexec rfl (hb hbytes d5) rfl ?_
    refine XS.aloadN X3.here hexec rfl (hb hbytes d6) rfl rfl ?_
    refine iconstV X3.here hexec rfl 0 (hb hbytes d7) (by decide) ?_
    refine XS.iloadN X3.here hexec rfl (hb hbytes d8) rfl ?_
    exact Steps.refl _)
  obtain ⟨v6, T6, X6, E6, g6⟩ := X3.callS hexec (Cmp5.law l b A s.heap.size B3 o 0 len) hown (wks W (staticW U16 115 Cmp5.yN)) (wk W Cmp5.tab) (W := 0) (Nat.le_of_ble_eq_true rfl) (Nat.le_of_ble_eq_true rfl) (Nat.le_refl _) (by show 0 + len + 0 ≤ len; omega) (g := (mkF m 9 #[.val (.ref b), .val (.int (Int32.ofNat o)), .val (.int (Int32.ofNat len)), .val (.ref s.heap.size), .unset, .unset] [.int (Int32.ofNat len), .int (Int32.ofNat 0), .ref s.heap.size, .int (Int32.ofNat o), .ref b])) rfl (by rw [hml]; rfl) c5 (argsL := [.ref b, .int (Int32.ofNat o), .ref s.heap.size, .int (Int32.ofNat 0), .int (Int32.ofNat len)]) (rest := []) rfl rfl (by show 2 * 0 + 0 ≤ _; decide) (hb hbytes d9) (⟨rfl, hA3, ba3, hne, l1, by rw [bs3]; simp, hp⟩)
  obtain ⟨rfl, B6, p6, f6⟩ := E6
  have c7 : Steps p.tables e below (s₁.setTop (entryFrame m #[.ref b, .int (Int32.ofNat o), .int (Int32.ofNat len)] 6)) (T6.setTop (mkF m 12 #[.val (.ref b), .val (.int (Int32.ofNat o)), .val (.int (Int32.ofNat len)), .val (.ref s.heap.size), .unset, .unset] [.int (Int32.ofNat len)])) := g6
  have c8 : Steps p.tables e below (s₁.setTop (entryFrame m #[.ref b, .int (Int32.ofNat o), .int (Int32.ofNat len)] 6)) (T6.setTop (mkF m 58 #[.val (.ref b), .val (.int (Int32.ofNat o)), .val (.int (Int32.ofNat len)), .val (.ref s.heap.size), .val (.int (Int32.ofNat len)), .unset] [.ref s.heap.size])) := c7.trans (by
    refine XS.istore X6.here hexec rfl (hb hbytes d12) rfl rfl ?_
    refine XS.iload X6.here hexec rfl (hb hbytes d14) rfl ?_
    refine XS.iloadN X6.here hexec rfl (hb hbytes d16) rfl ?_
    refine XS.icmpYes X6.here hexec rfl (pc0 := 17) rfl (hb hbytes d17) rfl (ii_eq_t rfl) (by decide) rfl ?_
    refine XS.aloadN X6.here hexec rfl (hb hbytes d57) rfl rfl ?_
    exact Steps.refl _)
  have X8 := X6.wide (L' := []) (cells' := 1) (slots' := len) (fun x hx hlt => by
    simp only [List.nil_append, copyLocs, List.mem_map, List.mem_range] at hx
    obtain ⟨i, -, rfl⟩ := hx
    exact absurd hlt (Nat.lt_irrefl _)) (Nat.le_refl _) (by omega)
  exact ⟨T6, some (.ref s.heap.size), _, _, _, X8, rfl, rfl, rfl, (fun h => by cases h), ⟨⟨rfl, B6, ba3.like (X3.warmed.alike.symm.trans X6.warmed.alike) p6.1 f6.1 f6.2.1 f6.2.2.1, f6.2.1.trans bv3, by rw [X6.warmed.alike.findClass, f6.1]; exact bf3, by rw [f6.2.2.1, bs3]; simp, fun j hj => by rw [f6.2.2.2 j, if_pos (by omega)]; rfl, kp3.put p6 (Nat.le_refl _)⟩, by rw [p6.2.2, bh3, hh0]; simp⟩, fun fs hl => c8.trans (X8.areturnOut hexec rfl hret rfl (hb hbytes d58) hl)⟩
end Cmp3
namespace CodL
def yN : MethodName := ⟨"java/lang/StringUTF16", "coderFromArrayLen", "([BI)B"⟩
abbrev yB : ByteArray := jdk_52_method_15_code
theorem d0 : decode yB 0 = .ok (.iload_n 1, 1) := by decide +kernel
theorem d1 : decode yB 1 = .ok (.aload_n 0, 1) := by decide +kernel
theorem d2 : decode yB 2 = .ok (.arraylength, 1) := by decide +kernel
theorem d3 : decode yB 3 = .ok (.isub, 1) := by decide +kernel
theorem d4 : decode yB 4 = .ok (.bipush 31, 2) := by decide +kernel
theorem d6 : decode yB 6 = .ok (.iushr, 1) := by decide +kernel
theorem d7 : decode yB 7 = .ok (.i2b, 1) := by decide +kernel
theorem d8 : decode yB 8 = .ok (.ireturn, 1) := by decide +kernel
def site : List Cond := []
def tab : Cond := tabOf yN yB 2 (some .byte) site
def P (d : Addr) (B : Cell) (args : Array Value) (s : State) : Prop := args = #[.ref d, .int (Int32.ofNat B.slots.size)] ∧ Arr .byte d B s
def E (r : Option Value) (s u : State) : Prop := XT.PureE (some (.int 0)) r s u
/-- an array as long as the number of chars: LATIN1 -/
theorem law (l : Launch) (d : Addr) (B : Cell) : Law l yN 2 2 0 0 yB 2 (some .byte) site (P d B) E [] 0 0 := by
  refine Law.of_walk (plainFor_of_name (by decide +kernel)) (by decide +kernel) (by decide +kernel) (by decide) (fun _ _ h => by rw [h.1]; rfl) (fun _ U U' hal hh h => ⟨h.1, h.2.mv hal hh⟩) (fun r U U' V V' h1 hal h2 h => XT.PureE.mv r U U' V V' h1 hal h2 h) ?_
  intro p e s m args below meth c s₁ X0 hexec hbytes hml hret hlk hnm hown hh0 W hP
  obtain ⟨rfl, hB⟩ := hP
  have hB0 := hB.mv X0.warmed.alike hh0
  have c1 : Steps p.tables e below (s₁.setTop (entryFrame m #[.ref d, .int (Int32.ofNat B.slots.size)] 2)) (s₁.setTop (mkF m 0 #[.val (.ref d), .val (.int (Int32.ofNat B.slots.size))] [])) := entry rfl
  have c2 : Steps p.tables e below (s₁.setTop (entryFrame m #[.ref d, .int (Int32.ofNat B.slots.size)] 2)) (s₁.setTop (mkF m 2 #[.val (.ref d), .val (.int (Int32.ofNat B.slots.size))] [.ref d, .int (Int32.ofNat B.slots.size)])) := c1.trans (by
    refine XS.iloadN X0.here hexec rfl (hb hbytes d0) rfl ?_
    refine XS.aloadN X0.here hexec rfl (hb hbytes d1) rfl rfl ?_
    exact Steps.refl _)
  have c3 : Steps p.tables e below (s₁.setTop (entryFrame m #[.ref d, .int (Int32.ofNat B.slots.size)] 2)) (s₁.setTop (mkF m 8 #[.val (.ref d), .val (.int (Int32.ofNat B.slots.size))] [.int (lo8 (ushr (Int32.ofNat B.slots.size - Int32.ofNat B.slots.size) 31))])) := c2.trans (by
    refine X0.alen hexec hB0 rfl rfl (hb hbytes d2) ?_
    refine XS.isub X0.here hexec rfl (hb hbytes d3) rfl ?_
    refine bipushV X0.here hexec rfl 31 (hb hbytes d4) (by decide) ?_
    refine iushr X0.here hexec rfl (hb hbytes d6) rfl ?_
    refine i2b X0.here hexec rfl (hb hbytes d7) rfl ?_
    exact Steps.refl _)
  have e0 : lo8 (ushr (Int32.ofNat B.slots.size - Int32.ofNat B.slots.size) 31) = 0 := by rw [Int32.sub_self]; decide
  rw [e0] at c3
  exact ⟨s₁, some (.int 0), _, _, _, X0, rfl, rfl, rfl, (fun h => by cases h), ⟨rfl, hh0⟩, fun fs hl => c3.trans (X0.ireturnOut hexec hret rfl (Or.inr (Or.inr (Or.inl rfl))) (hb hbytes d8) hl)⟩
end CodL
/-- the String at a is Latin-1 over a new byte[] (the heap's one new cell): the low bytes of the len chars of A from o on; every cell but a is kept -/
def Got (a : Addr) (D : Cell) (fV fC : Field) (A : Cell) (o len : Nat) (r : Option Value) (s u : State) : Prop := r = none ∧ ∃ D' V : Cell, Blank "java/lang/String" a D' u ∧ Same D D' [fV.slot, fC.slot] ∧ D'.slots[fV.slot]? = some (.ref s.heap.size) ∧ D'.slots[fC.slot]? = some (.int 0) ∧ Arr .byte s.heap.size V u ∧ V.vm = .none ∧ u.vm.findClass "[B" = some V.cls ∧ V.slots.size = len ∧ (∀ j, j < len → V.slots[j]? = some (.int (lo8 (cv A (o + j))))) ∧ (∀ (y : Addr) (c : Cell), y ≠ a → s.heap[y]? = some c → u.heap[y]? = some c) ∧ u.heap.size = s.heap.size + 1
theorem Got.mv {a : Addr} {D A : Cell} {fV fC : Field} {o len : Nat} : ∀ r (U U' V V' : State), U'.heap = U.heap → V.vm.Alike V'.vm → V'.heap = V.heap → Got a D fV fC A o len r U V → Got a D fV fC A o len r U' V' :=
  fun r U U' V V' h1 hal h2 ⟨e0, D', X, a1, a2, a3, a4, a5, a6, a7, a8, a9, a10, a11⟩ => ⟨e0, D', X, a1.mv hal h2, a2, by rw [h1]; exact a3, a4, by rw [h1]; exact a5.mv hal h2, a6, by rw [hal.findClass]; exact a7, a8, a9, by rw [h1, h2]; exact a10, by rw [h1, h2]; exact a11⟩
namespace New4
def yN : MethodName := ⟨"java/lang/String", "<init>", "([CIILjava/lang/Void;)V"⟩
abbrev yB : ByteArray := jdk_42_method_149_code
theorem d0 : decode yB 0 = .ok (.aload_n 0, 1) := by decide +kernel
theorem d1 : decode yB 1 = .ok (.invokespecial 1, 3) := by decide +kernel
theorem d4 : decode yB 4 = .ok (.iload_n 3, 1) := by decide +kernel
theorem d5 : decode yB 5 = .ok (.ifCond (.ne) 22, 3) := by decide +kernel
theorem d27 : decode yB 27 = .ok (.getstatic 38, 3) := by decide +kernel
theorem d30 : decode yB 30 = .ok (.ifCond (.eq) 28, 3) := by decide +kernel
theorem d33 : decode yB 33 = .ok (.aload_n 1, 1) := by decide +kernel
theorem d34 : decode yB 34 = .ok (.iload_n 2, 1) := by decide +kernel
theorem d35 : decode yB 35 = .ok (.iload_n 3, 1) := by decide +kernel
theorem d36 : decode yB 36 = .ok (.invokestatic 177, 3) := by decide +kernel
theorem d39 : decode yB 39 = .ok (.astore 5, 2) := by decide +kernel
theorem d41 : decode yB 41 = .ok (.aload_n 0, 1) := by decide +kernel
theorem d42 : decode yB 42 = .ok (.aload 5, 2) := by decide +kernel
theorem d44 : decode yB 44 = .ok (.iload_n 3, 1) := by decide +kernel
theorem d45 : decode yB 45 = .ok (.invokestatic 47, 3) := by decide +kernel
theorem d48 : decode yB 48 = .ok (.putfield 15, 3) := by decide +kernel
theorem d51 : decode yB 51 = .ok (.aload_n 0, 1) := by decide +kernel
theorem d52 : decode yB 52 = .ok (.aload 5, 2) := by decide +kernel
theorem d54 : decode yB 54 = .ok (.putfield 9, 3) := by decide +kernel
theorem d57 : decode yB 57 = .ok (.return_, 1) := by decide +kernel
def site : List Cond := [.fieldLink "java/lang/String" 38 "java/lang/String" "COMPACT_STRINGS" "Z", Cmp3.tab, CodL.tab, .laysFinal "java/lang/String" "java/lang/String" "value" "[B", .fieldLink "java/lang/String" 9 "java/lang/String" "value" "[B", .laysFinal "java/lang/String" "java/lang/String" "coder" "B", .fieldLink "java/lang/String" 15 "java/lang/String" "coder" "B"] ++ objW "java/lang/String" 1 ++ staticW "java/lang/String" 177 Cmp3.yN ++ staticW "java/lang/String" 47 CodL.yN
def tab : Cond := tabOf yN yB 6 none site
def P (a : Addr) (D : Cell) (fV fC : Field) (b : Addr) (A : Cell) (z : Int32) (o len : Nat) (args : Array Value) (s : State) : Prop := args = #[.ref a, .ref b, .int (Int32.ofNat o), .int (Int32.ofNat len), .null] ∧ Blank "java/lang/String" a D s ∧ Found "java/lang/String" "value" "[B" fV s ∧ Found "java/lang/String" "coder" "B" fC s ∧ Ch b A s ∧ StaticIs s "java/lang/String" "COMPACT_STRINGS" "Z" (.int z) ∧ ¬ z = 0 ∧ 0 < len ∧ o + len ≤ A.slots.size ∧ len ≤ 536870912 ∧ ∀ i, i < len → ¬ 255 < cv A (o + i)
def E (a : Addr) (D : Cell) (fV fC : Field) (A : Cell) (o len : Nat) (r : Option Value) (s u : State) : Prop := Got a D fV fC A o len r s u
/-- len > 0, no char of the range above 255: a Latin-1 String of their low bytes -/
theorem law (l : Launch) (a : Addr) (D : Cell) (fV fC : Field) (b : Addr) (A : Cell) (z : Int32) (o len : Nat) : Law l yN 5 4 2 35 yB 6 none site (P a D fV fC b A z o len) (E a D fV fC A o len) [⟨a, fC.slot⟩, ⟨a, fV.slot⟩] 1 len := by
  refine Law.of_walk (plainFor_of_name (by decide +kernel)) (by decide +kernel) (by decide +kernel) (by decide) (fun _ _ h => by rw [h.1]; rfl) (fun _ U U' hal hh h => ⟨h.1, h.2.1.mv hal hh, h.2.2.1.al hal, h.2.2.2.1.al hal, h.2.2.2.2.1.mv hal hh, h.2.2.2.2.2.1.there hal hh, h.2.2.2.2.2.2⟩) (fun r U U' V V' h1 hal h2 h => Got.mv r U U' V V' h1 hal h2 h) ?_
  intro p e s m args below meth c s₁ X0 hexec hbytes hml hret hlk hnm hown hh0 W hP
  obtain ⟨rfl, hB, f1, f2, hA, s1, hz, l0, l1, l2, hp⟩ := hP
  have a31 := hA.1.2.2.2
  have c1 : Steps p.tables e below (s₁.setTop (entryFrame m #[.ref a, .ref b, .int (Int32.ofNat o), .int (Int32.ofNat len), .null] 6)) (s₁.setTop (mkF m 0 #[.val (.ref a), .val (.ref b), .val (.int (Int32.ofNat o)), .val (.int (Int32.ofNat len)), .val .null, .unset] [])) := entry rfl
  have c2 : Steps p.tables e below (s₁.setTop (entryFrame m #[.ref a, .ref b, .int (Int32.ofNat o), .int (Int32.ofNat len), .null] 6)) (s₁.setTop (mkF m 1 #[.val (.ref a), .val (.ref b), .val (.int (Int32.ofNat o)), .val (.int (Int32.ofNat len)), .val .null, .unset] [.ref a])) := c1.trans (by
    refine XS.aloadN X0.here hexec rfl (hb hbytes d0) rfl rfl ?_
    exact Steps.refl _)
  obtain ⟨T3, X3, q3, st3⟩ := X0.oinit hexec hown (wks W (objW "java/lang/String" 1)) (g := (mkF m 1 #[.val (.ref a), .val (.ref b), .val (.int (Int32.ofNat o)), .val (.int (Int32.ofNat len)), .val .null, .unset] [.ref a])) rfl (by rw [hml]; rfl) (rest := []) rfl (hb hbytes d1) (W := 0) (by show 2 * 0 + 0 ≤ _; decide) (Nat.le_of_ble_eq_true rfl) (Nat.le_of_ble_eq_true rfl)
  have hh3 := q3.trans hh0
  have c4 : Steps p.tables e below (s₁.setTop (entryFrame m #[.ref a, .ref b, .int (Int32.ofNat o), .int (Int32.ofNat len), .null] 6)) (T3.setTop (mkF m 27 #[.val (.ref a), .val (.ref b), .val (.int (Int32.ofNat o)), .val (.int (Int32.ofNat len)), .val .null, .unset] [])) := (c2.trans (st3 _ (Steps.refl _))).trans (by
    refine XS.iloadN X3.here hexec rfl (hb hbytes d4) rfl ?_
    refine XS.ifYes X3.here hexec rfl (pc0 := 5) rfl (hb hbytes d5) rfl (i0_ne_t (nz32 (by omega) l0)) (by decide) rfl ?_
    exact Steps.refl _)
  obtain ⟨T5, X5, q5, st5⟩ := X3.sget hexec hown (wk W (.fieldLink "java/lang/String" 38 "java/lang/String" "COMPACT_STRINGS" "Z")) s1 (fun _ _ h => by rw [hh3]; exact h) (g := (mkF m 27 #[.val (.ref a), .val (.ref b), .val (.int (Int32.ofNat o)), .val (.int (Int32.ofNat len)), .val .null, .unset] [])) rfl (hb hbytes d27)
  have hh5 := q5.trans hh3
  have c6 : Steps p.tables e below (s₁.setTop (entryFrame m #[.ref a, .ref b, .int (Int32.ofNat o), .int (Int32.ofNat len), .null] 6)) (T5.setTop (mkF m 30 #[.val (.ref a), .val (.ref b), .val (.int (Int32.ofNat o)), .val (.int (Int32.ofNat len)), .val .null, .unset] [.int z])) := c4.trans (st5 _ (Steps.refl _))
  have c7 : Steps p.tables e below (s₁.setTop (entryFrame m #[.ref a, .ref b, .int (Int32.ofNat o), .int (Int32.ofNat len), .null] 6)) (T5.setTop (mkF m 36 #[.val (.ref a), .val (.ref b), .val (.int (Int32.ofNat o)), .val (.int (Int32.ofNat len)), .val .null, .unset] [.int (Int32.ofNat len), .int (Int32.ofNat o), .ref b])) := c6.trans (by
    refine XS.ifNo X5.here hexec rfl (hb hbytes d30) rfl (i0_eq_f hz) ?_
    refine XS.aloadN X5.here hexec rfl (hb hbytes d33) rfl rfl ?_
    refine XS.iloadN X5.here hexec rfl (hb hbytes d34) rfl ?_
    refine XS.iloadN X5.here hexec rfl (hb hbytes d35) rfl ?_
    exact Steps.refl _)
  obtain ⟨v8, T8, X8, E8, g8⟩ := X5.callS hexec (Cmp3.law l b A o len) hown (wks W (staticW "java/lang/String" 177 Cmp3.yN)) (wk W Cmp3.tab) (W := 0) (Nat.le_of_ble_eq_true rfl) (Nat.le_of_ble_eq_true rfl) (Nat.le_refl _) (by show 0 + len ≤ len; omega) (g := (mkF m 36 #[.val (.ref a), .val (.ref b), .val (.int (Int32.ofNat o)), .val (.int (Int32.ofNat len)), .val .null, .unset] [.int (Int32.ofNat len), .int (Int32.ofNat o), .ref b])) rfl (by rw [hml]; rfl) c7 (argsL := [.ref b, .int (Int32.ofNat o), .int (Int32.ofNat len)]) (rest := []) rfl rfl (by show 2 * 0 + 0 ≤ _; decide) (hb hbytes d36) (⟨rfl, hA.mv X5.warmed.alike hh5, l1, l2, hp⟩)
  obtain ⟨e8, z8⟩ := E8
  obtain ⟨rfl, N, n1, n2, n3, n4, n5, n6⟩ := NewArr.mv _ T5 s _ _ hh5.symm (Vm.Alike.refl _) rfl e8
  rw [hh5] at z8
  have hB1 := hB.keep X8.warmed.alike (n6 _ _ hB.1)
  have hne : s.heap.size ≠ a := (Nat.ne_of_lt (Array.getElem?_eq_some_iff.mp hB.1).1).symm
  have c9 : Steps p.tables e below (s₁.setTop (entryFrame m #[.ref a, .ref b, .int (Int32.ofNat o), .int (Int32.ofNat len), .null] 6)) (T8.setTop (mkF m 39 #[.val (.ref a), .val (.ref b), .val (.int (Int32.ofNat o)), .val (.int (Int32.ofNat len)), .val .null, .unset] [.ref s.heap.size])) := g8
  have c10 : Steps p.tables e below (s₁.setTop (entryFrame m #[.ref a, .ref b, .int (Int32.ofNat o), .int (Int32.ofNat len), .null] 6)) (T8.setTop (mkF m 45 #[.val (.ref a), .val (.ref b), .val (.int (Int32.ofNat o)), .val (.int (Int32.ofNat len)), .val .null, .val (.ref s.heap.size)] [.int (Int32.ofNat N.slots.size), .ref s.heap.size, .ref a])) := by
    have hc : Steps p.tables e below (s₁.setTop (entryFrame m #[.ref a, .ref b, .int (Int32.ofNat o), .int (Int32.ofNat len), .null] 6)) (T8.setTop (mkF m 45 #[.val (.ref a), .val (.ref b), .val (.int (Int32.ofNat o)), .val (.int (Int32.ofNat len)), .val .null, .val (.ref s.heap.size)] [.int (Int32.ofNat len), .ref s.heap.size, .ref a])) := c9.trans (by
      refine XS.astore X8.here hexec rfl (hb hbytes d39) rfl rfl rfl ?_
      refine XS.aloadN X8.here hexec rfl (hb hbytes d41) rfl rfl ?_
      refine XS.aload X8.here hexec rfl (hb hbytes d42) rfl rfl ?_
      refine XS.iloadN X8.here hexec rfl (hb hbytes d44) rfl ?_
      exact Steps.refl _)
    rw [n4]; exact hc
  obtain ⟨v11, T11, X11, E11, g11⟩ := X8.callS hexec (CodL.law l s.heap.size N) hown (wks W (staticW "java/lang/String" 47 CodL.yN)) (wk W CodL.tab) (W := 1) (Nat.le_of_ble_eq_true rfl) (Nat.le_of_ble_eq_true rfl) (Nat.le_refl _) (by show 0 + len + 0 ≤ len; omega) (g := (mkF m 45 #[.val (.ref a), .val (.ref b), .val (.int (Int32.ofNat o)), .val (.int (Int32.ofNat len)), .val .null, .val (.ref s.heap.size)] [.int (Int32.ofNat N.slots.size), .ref s.heap.size, .ref a])) rfl (by rw [hml]; rfl) c10 (argsL := [.ref s.heap.size, .int (Int32.ofNat N.slots.size)]) (rest := [.ref a]) rfl rfl (by show 2 * 0 + (1 + 0) ≤ _; decide) (hb hbytes d45) (⟨rfl, n1⟩)
  obtain ⟨rfl, q11⟩ := E11
  have hB11 := hB1.mv (X8.warmed.alike.symm.trans X11.warmed.alike) q11
  have c12 : Steps p.tables e below (s₁.setTop (entryFrame m #[.ref a, .ref b, .int (Int32.ofNat o), .int (Int32.ofNat len), .null] 6)) (T11.setTop (mkF m 48 #[.val (.ref a), .val (.ref b), .val (.int (Int32.ofNat o)), .val (.int (Int32.ofNat len)), .val .null, .val (.ref s.heap.size)] [.int 0, .ref a])) := g11
  obtain ⟨T13, X13, p13, bl13, sl13, st13⟩ := X11.finit hexec hown (wk W (.fieldLink "java/lang/String" 15 "java/lang/String" "coder" "B")) (Or.inr ⟨_, (wk W (.laysFinal "java/lang/String" "java/lang/String" "coder" "B"))⟩) (Or.inl ⟨rfl, hnm⟩) f2 (Or.inl rfl) hB11 (t := .byte) (by decide +kernel) rfl (g := (mkF m 48 #[.val (.ref a), .val (.ref b), .val (.int (Int32.ofNat o)), .val (.int (Int32.ofNat len)), .val .null, .val (.ref s.heap.size)] [.int 0, .ref a])) rfl (rest := []) rfl (hb hbytes d48)
  have c14 : Steps p.tables e below (s₁.setTop (entryFrame m #[.ref a, .ref b, .int (Int32.ofNat o), .int (Int32.ofNat len), .null] 6)) (T13.setTop (mkF m 54 #[.val (.ref a), .val (.ref b), .val (.int (Int32.ofNat o)), .val (.int (Int32.ofNat len)), .val .null, .val (.ref s.heap.size)] [.ref s.heap.size, .ref a])) := (c12.trans (st13 _ (Steps.refl _))).trans (by
    refine XS.aloadN X13.here hexec rfl (hb hbytes d51) rfl rfl ?_
    refine XS.aload X13.here hexec rfl (hb hbytes d52) rfl rfl ?_
    exact Steps.refl _)
  obtain ⟨T15, X15, p15, bl15, sl15, st15⟩ := X13.finit hexec hown (wk W (.fieldLink "java/lang/String" 9 "java/lang/String" "value" "[B")) (Or.inr ⟨_, (wk W (.laysFinal "java/lang/String" "java/lang/String" "value" "[B"))⟩) (Or.inl ⟨rfl, hnm⟩) f1 (Or.inl rfl) bl13 (t := (.array .byte)) (by decide +kernel) rfl (g := (mkF m 54 #[.val (.ref a), .val (.ref b), .val (.int (Int32.ofNat o)), .val (.int (Int32.ofNat len)), .val .null, .val (.ref s.heap.size)] [.ref s.heap.size, .ref a])) rfl (rest := []) rfl (hb hbytes d54)
  have c16 : Steps p.tables e below (s₁.setTop (entryFrame m #[.ref a, .ref b, .int (Int32.ofNat o), .int (Int32.ofNat len), .null] 6)) (T15.setTop (mkF m 57 #[.val (.ref a), .val (.ref b), .val (.int (Int32.ofNat o)), .val (.int (Int32.ofNat len)), .val .null, .val (.ref s.heap.size)] [])) := c14.trans (st15 _ (Steps.refl _))
  have ap := apart (Or.inr ⟨_, (wk W (.laysFinal "java/lang/String" "java/lang/String" "value" "[B"))⟩) (Or.inr ⟨_, (wk W (.laysFinal "java/lang/String" "java/lang/String" "coder" "B"))⟩) f1 f2 (t₁ := .array .byte) (t₂ := .byte) (by decide +kernel) (by decide +kernel) (by decide)
  have al := X8.warmed.alike.symm.trans X15.warmed.alike
  have n7 : T11.heap[s.heap.size]? = some N := by rw [q11]; exact n1.1
  exact ⟨T15, none, _, _, _, X15, by simp, rfl, by omega, (fun _ => rfl), ⟨rfl, _, N, bl15, ((Same.refl D _).set _ (by simp)).set _ (by simp), sl15, (Cell.slots_setSlot_ne _ ap).trans sl13, n1.keep al (p15.other hne (p13.other hne n7)), n2, by rw [al.findClass]; exact n3, n4, n5, fun y c h1 h2 => p15.other h1 (p13.other h1 (by rw [q11]; exact n6 y c h2)), by rw [p15.2.2, p13.2.2, q11]; exact z8⟩, fun fs hl => c16.trans (X15.returnOut hexec hret (hb hbytes d57) hl)⟩
end New4
namespace New1
def yN : MethodName := ⟨"java/lang/String", "<init>", "([C)V"⟩
abbrev yB : ByteArray := jdk_42_method_3_code
theorem d0 : decode yB 0 = .ok (.aload_n 0, 1) := by decide +kernel
theorem d1 : decode yB 1 = .ok (.aload_n 1, 1) := by decide +kernel
theorem d2 : decode yB 2 = .ok (.iconst 0, 1) := by decide +kernel
theorem d3 : decode yB 3 = .ok (.aload_n 1, 1) := by decide +kernel
theorem d4 : decode yB 4 = .ok (.arraylength, 1) := by decide +kernel
theorem d5 : decode yB 5 = .ok (.aconst_null, 1) := by decide +kernel
theorem d6 : decode yB 6 = .ok (.invokespecial 27, 3) := by decide +kernel
theorem d9 : decode yB 9 = .ok (.return_, 1) := by decide +kernel
def site : List Cond := [New4.tab] ++ initW "java/lang/String" 27 New4.yN
def tab : Cond := tabOf yN yB 2 none site
def P (a : Addr) (D : Cell) (fV fC : Field) (b : Addr) (A : Cell) (z : Int32) (args : Array Value) (s : State) : Prop := args = #[.ref a, .ref b] ∧ Blank "java/lang/String" a D s ∧ Found "java/lang/String" "value" "[B" fV s ∧ Found "java/lang/String" "coder" "B" fC s ∧ Ch b A s ∧ StaticIs s "java/lang/String" "COMPACT_STRINGS" "Z" (.int z) ∧ ¬ z = 0 ∧ 0 < A.slots.size ∧ A.slots.size ≤ 536870912 ∧ ∀ i, i < A.slots.size → ¬ 255 < cv A i
def E (a : Addr) (D : Cell) (fV fC : Field) (A : Cell) (r : Option Value) (s u : State) : Prop := Got a D fV fC A 0 A.slots.size r s u
/-- new String(chars), not empty, no char above 255: a Latin-1 String of their low bytes -/
theorem law (l : Launch) (a : Addr) (D : Cell) (fV fC : Field) (b : Addr) (A : Cell) (z : Int32) : Law l yN 2 1 3 52 yB 2 none site (P a D fV fC b A z) (E a D fV fC A) [⟨a, fC.slot⟩, ⟨a, fV.slot⟩] 1 A.slots.size := by
  refine Law.of_walk (plainFor_of_name (by decide +kernel)) (by decide +kernel) (by decide +kernel) (by decide) (fun _ _ h => by rw [h.1]; rfl) (fun _ U U' hal hh h => ⟨h.1, h.2.1.mv hal hh, h.2.2.1.al hal, h.2.2.2.1.al hal, h.2.2.2.2.1.mv hal hh, h.2.2.2.2.2.1.there hal hh, h.2.2.2.2.2.2⟩) (fun r U U' V V' h1 hal h2 h => Got.mv r U U' V V' h1 hal h2 h) ?_
  intro p e s m args below meth c s₁ X0 hexec hbytes hml hret hlk hnm hown hh0 W hP
  obtain ⟨rfl, hB, f1, f2, hA, s1, hz, l0, l2, hp⟩ := hP
  have c1 : Steps p.tables e below (s₁.setTop (entryFrame m #[.ref a, .ref b] 2)) (s₁.setTop (mkF m 0 #[.val (.ref a), .val (.ref b)] [])) := entry rfl
  have c2 : Steps p.tables e below (s₁.setTop (entryFrame m #[.ref a, .ref b] 2)) (s₁.setTop (mkF m 6 #[.val (.ref a), .val (.ref b)] [.null, .int (Int32.ofNat A.slots.size), .int 0, .ref b, .ref a])) := c1.trans (by
    refine XS.aloadN X0.here hexec rfl (hb hbytes d0) rfl rfl ?_
    refine XS.aloadN X0.here hexec rfl (hb hbytes d1) rfl rfl ?_
    refine iconstV X0.here hexec rfl 0 (hb hbytes d2) (by decide) ?_
    refine XS.aloadN X0.here hexec rfl (hb hbytes d3) rfl rfl ?_
    refine X0.alen hexec (hA.1.mv X0.warmed.alike hh0) rfl rfl (hb hbytes d4) ?_
    refine XS.aconstNull X0.here hexec rfl (hb hbytes d5) ?_
    exact Steps.refl _)
  obtain ⟨v3, T3, X3, E3, g3⟩ := X0.callN hexec (New4.law l a D fV fC b A z 0 A.slots.size) rfl hown (wks W (initW "java/lang/String" 27 New4.yN)) (W New4.tab (by simp only [site, List.mem_cons, List.mem_append, true_or, or_true])) (W := 0) (Nat.le_of_ble_eq_true rfl) (Nat.le_of_ble_eq_true rfl) (Nat.le_refl _) (by show 0 + A.slots.size ≤ A.slots.size; omega) (g := (mkF m 6 #[.val (.ref a), .val (.ref b)] [.null, .int (Int32.ofNat A.slots.size), .int (Int32.ofNat 0), .ref b, .ref a])) rfl (by rw [hml]; rfl) c2 (argsL := [.ref b, .int (Int32.ofNat 0), .int (Int32.ofNat A.slots.size), .null]) (rest := []) rfl rfl (by show 2 * 0 + 0 ≤ _; decide) (hb hbytes d6) (⟨rfl, hB.mv X0.warmed.alike hh0, f1.al X0.warmed.alike, f2.al X0.warmed.alike, hA.mv X0.warmed.alike hh0, s1.there X0.warmed.alike hh0, hz, l0, by omega, l2, fun i hi => by rw [Nat.zero_add]; exact hp i hi⟩)
  have e0 := Got.mv _ s₁ s _ _ hh0.symm (Vm.Alike.refl _) rfl E3
  obtain rfl := e0.1
  have c4 : Steps p.tables e below (s₁.setTop (entryFrame m #[.ref a, .ref b] 2)) (T3.setTop (mkF m 9 #[.val (.ref a), .val (.ref b)] [])) := g3
  exact ⟨T3, none, _, _, _, X3, by simp, rfl, by omega, (fun _ => rfl), e0, fun fs hl => c4.trans (X3.returnOut hexec hret (hb hbytes d9) hl)⟩
theorem pays {l : Launch} {R : Room} {p : Program} {e : Env} {below : List Frame} {s : State} {sargs : Array Value} {len W : Nat} (a : Addr) (D : Cell) (fV fC : Field) (b : Addr) (A : Cell) (z : Int32) (htab : tab.before sargs s = true) (hfr : 4 ≤ R.frames) (hlo : W + 65 ≤ R.locals) :
    Back l R p e below s sargs yN len W (fun A₁ a₁ => A₁.cells + 1 ≤ R.cells ∧ A₁.slots + A.slots.size ≤ R.slots ∧ P a D fV fC b A z a₁ A₁.U) (fun A₁ _ v₁ B₁ => E a D fV fC A v₁ A₁.U B₁.U ∧ B₁.locs = A₁.locs ++ [⟨a, fC.slot⟩, ⟨a, fV.slot⟩] ∧ B₁.cells = A₁.cells + 1 ∧ B₁.slots = A₁.slots + A.slots.size) :=
  (law l a D fV fC b A z).pays htab hfr (by omega)
end New1
/-- the byte, read back as charAt reads it, is the char -/
theorem lo8_mask {x : Int32} (h0 : ¬ x < 0) (h1 : ¬ 255 < x) : lo8 x &&& 255 = x := by
  have t : ∀ k : Fin 256, lo8 (Int32.ofNat k.val) &&& 255 = Int32.ofNat k.val := by decide +kernel
  rw [Int32.lt_iff_toInt_lt] at h0 h1
  have e0 : (0 : Int32).toInt = 0 := rfl
  have e1 : (255 : Int32).toInt = 255 := rfl
  obtain ⟨k, hk⟩ : ∃ k : Nat, x.toInt = k := ⟨x.toInt.toNat, by omega⟩
  have hx : x = Int32.ofNat k := Int32.toInt_inj.mp (by rw [hk, Int32.toInt_ofNat_small (by omega)])
  rw [hx]
  exact t ⟨k, by omega⟩
end StrChars
namespace StrChars.Road
open Jvm Sem ClassFile Op Lib Jvm.Stand Jvm.Free Jvm.Free.XT
open Jvm.Lib.Cold (StaticIs)
abbrev ST : String := "java/lang/String"
/-- every table word that New1's law asks, flat -/
abbrev words : List Jvm.Cond := [.code New1.yN New1.yB 2 none, .initialized ST, .methodLink ST 27 New4.yN, .instanceMethod New4.yN,
  .code New4.yN New4.yB 6 none, .fieldLink ST 38 ST "COMPACT_STRINGS" "Z", .laysFinal ST ST "value" "[B", .fieldLink ST 9 ST "value" "[B", .laysFinal ST ST "coder" "B", .fieldLink ST 15 ST "coder" "B",
  .methodLink ST 1 Lib.objectInit, .instanceMethod Lib.objectInit, .code Lib.objectInit ⟨#[0xb1]⟩ 1 none, .methodLink ST 177 Cmp3.yN, .static Cmp3.yN, .methodLink ST 47 CodL.yN, .static CodL.yN,
  .code Cmp3.yN Cmp3.yB 6 (some (.array .byte)), .initialized U16, .arrayClass .byte, .methodLink U16 115 Cmp5.yN, .static Cmp5.yN, .code Cmp5.yN Cmp5.yB 7 (some .int), .code CodL.yN CodL.yB 2 (some .byte)]
theorem tab_of {a : Array Value} {s : State} (h : ∀ w ∈ words, w.before a s = true) : New1.tab.before a s = true := by
  have h5 : Cmp5.tab.before a s = true := unparts (wk h (.code Cmp5.yN Cmp5.yB 7 (some .int))) (wks h (.initialized Cmp5.yN.cls :: Cmp5.site))
  have hc : CodL.tab.before a s = true := unparts (wk h (.code CodL.yN CodL.yB 2 (some .byte))) (wks h (.initialized CodL.yN.cls :: CodL.site))
  have q5 : ∀ w ∈ Cmp5.tab :: words, w.before a s = true := fun w hw => (List.mem_cons.mp hw).elim (fun e => e ▸ h5) (h w)
  have h3 : Cmp3.tab.before a s = true := unparts (wk q5 (.code Cmp3.yN Cmp3.yB 6 (some (.array .byte)))) (wks q5 (.initialized Cmp3.yN.cls :: Cmp3.site))
  have q3 : ∀ w ∈ Cmp3.tab :: CodL.tab :: words, w.before a s = true := fun w hw => (List.mem_cons.mp hw).elim (fun e => e ▸ h3) fun hw => (List.mem_cons.mp hw).elim (fun e => e ▸ hc) (h w)
  have h4 : New4.tab.before a s = true := unparts (wk q3 (.code New4.yN New4.yB 6 none)) (wks q3 (.initialized New4.yN.cls :: New4.site))
  have q4 : ∀ w ∈ New4.tab :: words, w.before a s = true := fun w hw => (List.mem_cons.mp hw).elim (fun e => e ▸ h4) (h w)
  exact unparts (wk q4 (.code New1.yN New1.yB 2 none)) (wks q4 (.initialized New1.yN.cls :: New1.site))
/-- the words ride from the start Z to the walk's own state -/
theorem moved {Z s : State} {a0 args : Array Value} (hZ : Z.Warmed39 s.vm) (hw : ∀ d ∈ words, d.before a0 Z = true) : ∀ d ∈ words, d.before args s = true := fun d hd => by
  have q := hw d hd
  have t : ∀ d ∈ words, d = .arrayClass .byte ∨ (d.onTables && d.keepsFace) = true := by decide +kernel
  rcases t d hd with rfl | t
  · exact RoadKit.mvA hZ q
  · exact RoadKit.mv hZ q t
/-- WHAT COMES BACK, over the tables of the start Z: h the heap at the call, h' behind it -/
def Q (Z : State) (x : Addr) (A : Cell) (h : Heap) (v : Option Value) (h' : Heap) (L : List Loc) : Prop := v = none ∧ (∀ y ∈ L, y.base = x) ∧ RoadKit.Keep h h' [x] ∧ h'.size = h.size + 1 ∧ RoadKit.Exa Z h' x ST ∧ RoadKit.Fld Z h' x ST "value" "[B" (.ref h.size) ∧ RoadKit.Fld Z h' x ST "coder" "B" (.int 0) ∧
  (∃ V : Cell, RoadKit.Arr Z h' h.size V .byte ∧ V.vm = .none ∧ Z.vm.findClass "[B" = some V.cls ∧ V.slots.size = A.slots.size ∧ ∀ j, j < A.slots.size → V.slots[j]? = some (.int (lo8 (cv A j)))) ∧
  ∀ (O n d : String) (w : Value), RoadKit.Fld Z h x O n d w → RoadKit.slotOf Z O n d ≠ RoadKit.slotOf Z ST "value" "[B" → RoadKit.slotOf Z O n d ≠ RoadKit.slotOf Z ST "coder" "B" → RoadKit.Fld Z h' x O n d w
/-- **new String(chars) AT A CALL, IN THE ROAD'S FORM**: for specialBack behind newO: x the fresh String, b the char[] with the cell A -/
theorem back {p : Program} {l : Launch} {e : Env} {R : Room} {s : State} {args : Array Value} {below : List Frame} {len W : Nat} {Z : State} {a0 : Array Value} {h : Heap} (hZ : Z.Warmed39 s.vm) (hw : ∀ d ∈ words, d.before a0 Z = true) {kI : Nat} (wi : (Jvm.Cond.instantiable ST kI).before a0 Z = true)
    {x b : Addr} {A : Cell} {z : Int32} {v0 c0 : Value} (E : RoadKit.Exa Z h x ST) (V : RoadKit.Fld Z h x ST "value" "[B" v0) (C : RoadKit.Fld Z h x ST "coder" "B" c0) (K : RoadKit.Arr Z h b A .char) (hty : Typed .char A) (S : RoadKit.Sta Z h ST "COMPACT_STRINGS" "Z" (.int z)) (hz : ¬ z = 0)
    (l0 : 0 < A.slots.size) (l2 : A.slots.size ≤ 536870912) (hp : ∀ i, i < A.slots.size → ¬ 255 < cv A i) (hfr : 4 ≤ R.frames) (hlo : W + 65 ≤ R.locals) :
    Back l R p e below s args New1.yN len W (fun P a => a = #[.ref x, .ref b] ∧ P.U.heap = h ∧ P.cells + 1 ≤ R.cells ∧ P.slots + A.slots.size ≤ R.slots)
      (fun P _ v B => ∃ L, Q Z x A h v B.U.heap L ∧ B.locs = P.locs ++ L ∧ B.cells = P.cells + 1 ∧ B.slots = P.slots + A.slots.size) := by
  intro m meth c P g ig mk a X hg hsize hdg hW hn hp'
  obtain ⟨rfl, rfl, r1, r2⟩ := hp'
  have al : Z.vm.Alike P.U.vm := hZ.alike.trans X.warmed.alike
  obtain ⟨D, cfV, kV, iV, fV, hD, gV, stV, knV, obV, asV, slV⟩ := id V
  obtain ⟨D', cfC, kC, iC, fC, hD', gC, stC, -, -, asC, slC⟩ := id C
  cases hD.symm.trans hD'
  obtain ⟨D2, kD, e1, e2, e3, e4, e5⟩ := id E
  cases hD.symm.trans e1
  obtain ⟨c2, k2, i1, i2, i3, -⟩ := Cond.instantiable_spec wi
  cases e2.symm.trans i1
  cases e3.symm.trans i2
  obtain ⟨kU, u1, u2⟩ := al.2.2 _ _ e3
  have hB : Blank ST x D P.U := ⟨hD, ⟨knV, fun q hq => by rw [hq] at obV; cases obV⟩, by rw [al.findClass]; exact e2, kU, u1, by rw [u2]; exact i3, by rw [u2]; exact e5 i3⟩
  have F1 : Found ST "value" "[B" fV P.U := ⟨SBG.found_only al ⟨cfV, kV, iV, gV⟩, stV⟩
  have F2 : Found ST "coder" "B" fC P.U := ⟨SBG.found_only al ⟨cfC, kC, iC, gC⟩, stC⟩
  have hA : Ch b A P.U := ⟨⟨K.1, State.isArrayOf_alike al K.2.1, K.2.2, by omega⟩, hty⟩
  have hS : StaticIs P.U ST "COMPACT_STRINGS" "Z" (.int z) := by
    obtain ⟨cfS, iS, kS, fS, st, cS, t1, t2, t3, t4, t5, t6, t7⟩ := S
    exact StaticIs.there (s := { Z with heap := P.U.heap }) ⟨cfS, iS, kS, fS, st, cS, t1, t2, t3, t4, t5, (fun q => by rw [q] at t6; cases t6), t7⟩ al rfl
  obtain ⟨v, B, X', ⟨⟨hv, E', V', q1, q2, q3, q4, q5, q6, q7, q8, q9, q10, q11⟩, hl, hc, hs⟩, st⟩ := New1.pays x D fV fC b A z (tab_of (moved hZ hw)) hfr hlo m meth c P g ig mk _ X hg hsize hdg hW hn ⟨r1, r2, rfl, hB, F1, F2, hA, hS, hz, l0, l2, hp⟩
  have al' : Z.vm.Alike B.U.vm := hZ.alike.trans X'.warmed.alike
  have hsz : E'.slots.size = D.slots.size := by
    obtain ⟨-, -, -, kB, w1, w2, w3⟩ := q1
    obtain ⟨kB', y1, y2⟩ := al'.2.2 _ _ e3
    rw [q2.2.1] at w1
    cases w1.symm.trans y1
    rw [w3, e5 i3, y2]
  refine ⟨v, B, X', ⟨_, ⟨hv, ?_, ⟨by omega, fun y cy hy hn' => q10 y cy (by simpa using hn') hy, fun y cy hy => ?_⟩, q11, ⟨E', _, q1.1, by rw [q2.2.1]; exact e2, by rw [q2.2.1]; exact e3, by rw [q2.1]; exact obV, fun _ => by rw [hsz]; exact e5 i3⟩,
    ⟨E', cfV, kV, iV, fV, q1.1, gV, stV, by rw [q2.1]; exact knV, by rw [q2.1]; exact obV, by rw [q2.2.1]; exact asV, q3⟩, ⟨E', cfC, kC, iC, fC, q1.1, gC, stC, by rw [q2.1]; exact knV, by rw [q2.1]; exact obV, by rw [q2.2.1]; exact asC, q4⟩,
    ⟨V', ⟨q5.1, State.isArrayOf_alike al'.symm q5.2.1, q5.2.2.1⟩, q6, by rw [← al'.findClass]; exact q7, q8, fun j hj => by have := q9 j hj; rwa [Nat.zero_add] at this⟩, fun O n d w F n1 n2 => ?_⟩, hl, hc, hs⟩, st⟩
  · intro y hy
    simp only [List.mem_cons, List.not_mem_nil, or_false] at hy
    rcases hy with rfl | rfl <;> rfl
  · by_cases q : y = x
    · subst q
      cases hD.symm.trans hy
      exact ⟨E', q1.1, q2.2.1, q2.1, hsz⟩
    · exact ⟨cy, q10 y cy q hy, rfl, rfl, rfl⟩
  · obtain ⟨D3, cf, k, i, f, g1, g2, g3, g4, g5, g6, g7⟩ := F
    cases hD.symm.trans g1
    simp only [RoadKit.slotOf, g2, gV, gC, Option.map_some, Option.getD_some] at n1 n2
    exact ⟨E', cf, k, i, f, q1.1, g2, g3, by rw [q2.1]; exact g4, by rw [q2.1]; exact g5, by rw [q2.2.1]; exact g6, by rw [q2.2.2 f.slot (by simp [n1, n2])]; exact g7⟩
end StrChars.Road
namespace StrChars.Road
open Jvm Sem ClassFile Op Lib Jvm.Stand Jvm.Free Jvm.Free.XT
/-- WHAT COMES BACK, the byte[] as a list of values -/
def QA (Z : State) (x : Addr) (zn : Int32) (cs : List Int32) (h : Heap) (v : Option Value) (h' : Heap) (L : List Loc) : Prop := v = none ∧ (∀ y ∈ L, y.base = x) ∧ RoadKit.Keep h h' [x] ∧ h'.size = h.size + 1 ∧ RoadKit.Exa Z h' x ST ∧ RoadKit.Fld Z h' x ST "value" "[B" (.ref h.size) ∧ RoadKit.Fld Z h' x ST "coder" "B" (.int 0) ∧
  (∃ kb, Z.vm.findClass "[B" = some kb ∧ RoadKit.Arv Z h' h.size kb .byte zn (cs.map fun c => .int (lo8 c)) (.int 0)) ∧
  ∀ (O n d : String) (w : Value), RoadKit.Fld Z h x O n d w → RoadKit.slotOf Z O n d ≠ RoadKit.slotOf Z ST "value" "[B" → RoadKit.slotOf Z O n d ≠ RoadKit.slotOf Z ST "coder" "B" → RoadKit.Fld Z h' x O n d w
/-- **new String(chars) AT A CALL, THE ARRAYS AS LISTS**: the char[] at b holds cs, not empty, no char above 255 -/
theorem backArv {p : Program} {l : Launch} {e : Env} {R : Room} {s : State} {args : Array Value} {below : List Frame} {len W : Nat} {Z : State} {a0 : Array Value} {h : Heap} (hZ : Z.Warmed39 s.vm) (hw : ∀ d ∈ words, d.before a0 Z = true) {kI : Nat} (wi : (Jvm.Cond.instantiable ST kI).before a0 Z = true)
    {x b : Addr} {k : ClassId} {zn z : Int32} {cs : List Int32} {dv v0 c0 : Value} (E : RoadKit.Exa Z h x ST) (V : RoadKit.Fld Z h x ST "value" "[B" v0) (C : RoadKit.Fld Z h x ST "coder" "B" c0) (K : RoadKit.Arv Z h b k .char zn (cs.map Value.int) dv) (S : RoadKit.Sta Z h ST "COMPACT_STRINGS" "Z" (.int z)) (hz : ¬ z = 0)
    (hlen : zn.toNatClampNeg = cs.length) (h0 : 0 < cs.length) (hbig : cs.length ≤ 536870912) (hall : ∀ c ∈ cs, ¬ 255 < c) (hfr : 4 ≤ R.frames) (hlo : W + 65 ≤ R.locals) :
    Back l R p e below s args New1.yN len W (fun P a => a = #[.ref x, .ref b] ∧ P.U.heap = h ∧ P.cells + 1 ≤ R.cells ∧ P.slots + cs.length ≤ R.slots)
      (fun P _ v B => ∃ L, QA Z x zn cs h v B.U.heap L ∧ B.locs = P.locs ++ L ∧ B.cells = P.cells + 1 ∧ B.slots = P.slots + cs.length) := by
  obtain ⟨A, K1, K2, K3, K4, K5, K6⟩ := K
  have e : A.slots.size = cs.length := K3.trans hlen
  have hat : ∀ (i : Nat) (hi : i < cs.length), A.slots[i]? = some (.int cs[i]) := fun i hi => by rw [K5 i (by omega)]; simp [List.getD_eq_getElem?_getD, hi]
  have hcv : ∀ (i : Nat) (hi : i < cs.length), cv A i = cs[i] := fun i hi => by unfold cv; rw [hat i hi]
  have hty : Typed .char A := fun i v hv => by
    have hi : i < A.slots.size := (Array.getElem?_eq_some_iff.mp hv).1
    have q := K5 i hi
    rw [hv] at q
    rw [Option.some.inj q]
    exact K6 i hi
  refine Back.mono (back hZ hw wi E V C K1 hty S hz (by omega) (by omega) (fun i hi => by rw [hcv i (by omega)]; exact hall _ (List.getElem_mem _)) hfr hlo) (fun P a hp => ⟨hp.1, hp.2.1, hp.2.2.1, by rw [e]; exact hp.2.2.2⟩) (fun P a v B hp hq => ?_)
  obtain ⟨L, ⟨q1, q2, q3, q4, q5, q6, q7, ⟨V', v1, v2, v3, v4, v5⟩, q9⟩, hl, hc, hs⟩ := hq
  refine ⟨L, ⟨q1, q2, q3, q4, q5, q6, q7, ⟨V'.cls, v3, V', v1, rfl, by rw [v4, e, hlen], K4, fun i hi => ?_, fun i hi => ?_⟩, q9⟩, hl, hc, by rw [hs, e]⟩
  · have hi' : i < cs.length := by omega
    rw [v5 i (by omega), hcv i hi']; simp [List.getD_eq_getElem?_getD, hi']
  · have hi' : i < cs.length := by omega
    simp only [List.getD_eq_getElem?_getD, List.getElem?_map, List.getElem?_eq_getElem hi', Option.map_some, Option.getD_some]
    exact fits_lo8 _
end StrChars.Road
namespace StrChars.Road
open Jvm Sem ClassFile Op Lib Jvm.Stand Jvm.Free Jvm.Free.XT
/-- WHAT COMES BACK, in the writer's own shape -/
def QV (Z : State) (x : Addr) (N : Int32) (bs : List Int32) (h : Heap) (n0 : Nat) (v : Option Value) (h' : Heap) (L : List Loc) : Prop := v = none ∧ RoadKit.Fr n0 L ∧ RoadKit.Keep h h' [x] ∧ RoadKit.Exa Z h' x ST ∧ RoadKit.Fld Z h' x ST "coder" "B" (.int 0) ∧
  ∃ (t : Addr) (kb : ClassId), n0 ≤ t ∧ h.size ≤ t ∧ ¬ t = x ∧ RoadKit.Fld Z h' x ST "value" "[B" (.ref t) ∧ RoadKit.Arv Z h' t kb .byte N (bs.map Value.int) (.int 0)
/-- **new String(chars) AT A CALL, FOR THE WRITER**: a char[] of n known ints, each 0 to 255 -/
theorem backV {p : Program} {l : Launch} {e : Env} {R : Room} {s : State} {args : Array Value} {below : List Frame} {len W : Nat} {Z : State} {a0 : Array Value} {h : Heap} (hZ : Z.Warmed39 s.vm) (hw : ∀ d ∈ words, d.before a0 Z = true) {kI : Nat} (wi : (Jvm.Cond.instantiable ST kI).before a0 Z = true)
    {x b : Addr} {kC : ClassId} {cs bs : List Int32} {d v0 c0 : Value} {z N : Int32} {n n0 : Nat} (hx0 : n0 ≤ x) (hh0 : n0 ≤ h.size) (E : RoadKit.Exa Z h x ST) (V : RoadKit.Fld Z h x ST "value" "[B" v0) (C : RoadKit.Fld Z h x ST "coder" "B" c0) (K : RoadKit.Arv Z h b kC .char N (cs.map Value.int) d) (S : RoadKit.Sta Z h ST "COMPACT_STRINGS" "Z" (.int z)) (hz : ¬ z = 0)
    (hn : cs.length = n) (hN : N = Int32.ofNat n) (l0 : 0 < n) (l2 : n ≤ 4000) (hp : ∀ c ∈ cs, ¬ c < 0 ∧ ¬ (255 : Int32) < c) (hb : bs = cs.map (fun c => c.toInt8.toInt32)) (hfr : 4 ≤ R.frames) (hlo : W + 65 ≤ R.locals) :
    Back l R p e below s args (⟨"java/lang/String", "<init>", "([C)V"⟩ : MethodName) len W (fun P a => a = #[.ref x, .ref b] ∧ P.U.heap = h ∧ P.cells + 1 ≤ R.cells ∧ P.slots + n ≤ R.slots)
      (fun P _ v B => ∃ L, QV Z x N bs h n0 v B.U.heap L ∧ B.locs = P.locs ++ L ∧ B.cells = P.cells + 1 ∧ B.slots = P.slots + n) := by
  subst hn hN hb
  refine Back.mono (backArv hZ hw wi E V C K S hz (n32 (by omega)) l0 (by omega) (fun c hc => (hp c hc).2) hfr hlo) (fun P a hp => hp) (fun P a v B hp hq => ?_)
  obtain ⟨L, ⟨q1, q2, q3, q4, q5, q6, q7, ⟨kb, v1, v2⟩, q9⟩, hl, hc, hs⟩ := hq
  exact ⟨L, ⟨q1, fun y hy => by rw [q2 y hy]; exact hx0, q3, q5, q7, h.size, kb, hh0, Nat.le_refl _, Nat.ne_of_gt E.lt, q6, by rw [List.map_map]; exact v2⟩, hl, hc, hs⟩
end StrChars.Road
namespace StrChars
open Jvm Sem ClassFile Op Lib Jvm.Stand Jvm.Free.XT Jvm.Free.ALB Jvm.Free.JM Jvm.Free
open Jvm.Lib.Cold (StaticIs)
def hi8 (x : Int32) : Int32 := lo8 (x >>> ((8 : Int32) &&& 31))
/-- what StringUTF16.getChar makes of two bytes -/
def pairCh (u v : Int32) : Int32 := (((u &&& 255) <<< ((0 : Int32) &&& 31)) ||| ((v &&& 255) <<< ((8 : Int32) &&& 31))).toUInt32.toUInt16.toUInt32.toInt32
theorem lo8_and (x : Int32) : (lo8 x &&& 255).toBitVec.toNat = x.toBitVec.toNat % 256 := by
  have h : (lo8 x).toBitVec = (x.toBitVec.signExtend 8).signExtend 32 := by rw [lo8, Int8.toBitVec_toInt32, Int32.toBitVec_toInt8]
  rw [Int32.toBitVec_and, BitVec.toNat_and, h]
  have e : ((x.toBitVec.signExtend 8).signExtend 32).toNat % 256 = x.toBitVec.toNat % 256 := by
    rw [BitVec.toNat_signExtend]
    have hlt := x.toBitVec.isLt
    simp only [BitVec.toNat_setWidth, BitVec.toNat_signExtend]
    split <;> split <;> omega
  rw [← e]
  exact Nat.and_two_pow_sub_one_eq_mod _ 8
theorem pair_says {c : Int32} (h0 : ¬ c < 0) (h1 : ¬ 65535 < c) : pairCh (lo8 c) (hi8 c) = c := by
  rw [Int32.lt_iff_toInt_lt] at h0 h1
  have e0 : (0 : Int32).toInt = 0 := rfl
  have e1 : (65535 : Int32).toInt = 65535 := rfl
  have hc : c.toInt = c.toBitVec.toNat := by
    have := c.toBitVec.isLt
    have e : c.toInt = c.toBitVec.toInt := rfl
    rw [e] at h0 h1
    rw [e]
    rw [BitVec.toInt_eq_toNat_cond] at h0 h1 ⊢
    split at h0 <;> split <;> omega
  have hn : c.toBitVec.toNat < 65536 := by omega
  have a1 := lo8_and c
  have a2 : (hi8 c &&& 255).toBitVec.toNat = c.toBitVec.toNat / 256 := by
    rw [hi8, lo8_and]
    have e : ((8 : Int32) &&& 31) = 8 := by decide
    rw [e, Int32.toBitVec_shiftRight]
    have e2 : ((8 : Int32).toBitVec.smod 32) = 8#32 := by decide
    rw [e2, BitVec.sshiftRight_eq', BitVec.toNat_sshiftRight_of_msb_false (by rw [BitVec.msb_eq_false_iff_two_mul_lt]; omega)]
    show c.toBitVec.toNat >>> 8 % 256 = _
    rw [Nat.shiftRight_eq_div_pow]
    omega
  unfold pairCh
  apply Int32.toBitVec_inj.mp
  apply BitVec.eq_of_toNat_eq
  have f0 : ((0 : Int32) &&& 31) = 0 := by decide
  have f8 : ((8 : Int32) &&& 31) = 8 := by decide
  rw [f0, f8]
  have g : (((lo8 c &&& 255) <<< (0 : Int32)) ||| ((hi8 c &&& 255) <<< (8 : Int32))).toBitVec.toNat = c.toBitVec.toNat := by
    rw [Int32.toBitVec_or, Int32.toBitVec_shiftLeft, Int32.toBitVec_shiftLeft]
    have s0 : ((0 : Int32).toBitVec.smod 32) = 0#32 := by decide
    have s8 : ((8 : Int32).toBitVec.smod 32) = 8#32 := by decide
    rw [s0, s8, BitVec.toNat_or]
    simp only [BitVec.shiftLeft_eq', BitVec.toNat_shiftLeft, a1, a2]
    show (c.toBitVec.toNat % 256) <<< 0 % 2 ^ 32 ||| (c.toBitVec.toNat / 256) <<< 8 % 2 ^ 32 = _
    rw [Nat.shiftLeft_zero, Nat.mod_eq_of_lt (show c.toBitVec.toNat % 256 < 2 ^ 32 by omega), Nat.mod_eq_of_lt (show (c.toBitVec.toNat / 256) <<< 8 < 2 ^ 32 by rw [Nat.shiftLeft_eq]; omega), Nat.or_comm, ← Nat.shiftLeft_add_eq_or_of_lt (by omega), Nat.shiftLeft_eq]
    omega
  show BitVec.toNat (((((lo8 c &&& 255) <<< (0 : Int32)) ||| ((hi8 c &&& 255) <<< (8 : Int32))).toBitVec.setWidth 16).setWidth 32) = _
  rw [BitVec.toNat_setWidth, BitVec.toNat_setWidth, g]
  omega
end StrChars
namespace StrChars
open Jvm Sem ClassFile Op Lib Jvm.Stand Jvm.Free.XT Jvm.Free.ALB Jvm.Free.JM Jvm.Free
open Jvm.Lib.Cold (StaticIs)
/-- the array's cell V codes the n chars f 0 .. f (n - 1) by the coder cd, as the JDK does: coder 1 just where some char is above 255 -/
def Cod (cd : Int32) (n : Nat) (f : Nat → Int32) (V : Cell) : Prop := (cd = 0 ∧ V.slots.size = n ∧ ∀ j, j < n → V.slots[j]? = some (.int (lo8 (f j))) ∧ ¬ 255 < f j) ∨ (cd = 1 ∧ V.slots.size = 2 * n ∧ (∀ j, j < n → V.slots[2 * j]? = some (.int (lo8 (f j))) ∧ V.slots[2 * j + 1]? = some (.int (hi8 (f j)))) ∧ ∃ j, j < n ∧ 255 < f j)
/-- **x is a String of the n chars f 0 .. f (n - 1)**, Latin-1 or UTF-16; its array at t has the cell V -/
def Txt (x t : Addr) (V : Cell) (cd : Int32) (n : Nat) (f : Nat → Int32) (U : State) : Prop := Exact "java/lang/String" x U ∧ Has x "java/lang/String" "value" "[B" (.ref t) U ∧ Has x "java/lang/String" "coder" "B" (.int cd) U ∧ XT.Arr .byte t V U ∧ Cod cd n f V ∧ ∀ j, j < n → ¬ f j < 0 ∧ ¬ 65535 < f j
theorem Txt.mv {x t : Addr} {V : Cell} {cd : Int32} {n : Nat} {f : Nat → Int32} {U U' : State} (h : Txt x t V cd n f U) (hal : U.vm.Alike U'.vm) (hh : U'.heap = U.heap) : Txt x t V cd n f U' := ⟨h.1.mv hal hh, h.2.1.mv hal hh, h.2.2.1.mv hal hh, h.2.2.2.1.mv hal hh, h.2.2.2.2⟩
end StrChars
namespace StrChars.Road
open Jvm Sem ClassFile Op Lib Jvm.Stand Jvm.Free Jvm.Free.XT
open Jvm.Lib.Cold (StaticIs)
theorem consq {a : Array Value} {s : State} {c : Jvm.Cond} {L : List Jvm.Cond} (h0 : c.before a s = true) (h : ∀ w ∈ L, w.before a s = true) : ∀ w ∈ c :: L, w.before a s = true := fun w hw => (List.mem_cons.mp hw).elim (fun e => e ▸ h0) (h w)
/-- the bytes of the chars cs, low before high -/
def wideBytes : List Int32 → List Value
  | [] => []
  | c :: cs => .int (lo8 c) :: .int (hi8 c) :: wideBytes cs
theorem wide_lo (d : Value) : ∀ (cs : List Int32) (j : Nat), j < cs.length → (wideBytes cs).getD (2 * j) d = .int (lo8 (cs.getD j 0))
  | [], j, h => absurd h (Nat.not_lt_zero j)
  | c :: cs, 0, _ => rfl
  | c :: cs, j + 1, h => by
    have q := wide_lo d cs j (by simpa using h)
    rw [show 2 * (j + 1) = 2 * j + 1 + 1 from by omega]
    simpa [wideBytes] using q
theorem wide_hi (d : Value) : ∀ (cs : List Int32) (j : Nat), j < cs.length → (wideBytes cs).getD (2 * j + 1) d = .int (hi8 (cs.getD j 0))
  | [], j, h => absurd h (Nat.not_lt_zero j)
  | c :: cs, 0, _ => rfl
  | c :: cs, j + 1, h => by
    have q := wide_hi d cs j (by simpa using h)
    rw [show 2 * (j + 1) + 1 = 2 * j + 1 + 1 + 1 from by omega]
    simpa [wideBytes] using q
theorem low_at (d : Value) (cs : List Int32) (j : Nat) (h : j < cs.length) : (cs.map fun c => Value.int (lo8 c)).getD j d = .int (lo8 (cs.getD j 0)) := by
  simp [List.getD_eq_getElem?_getD, h]
/-- an array of N2 bytes vs codes the chars cs by the coder cd -/
def CodA (cs : List Int32) (cd N2 : Int32) (vs : List Value) : Prop := (cd = 0 ∧ N2 = Int32.ofNat cs.length ∧ vs = (cs.map fun c => Value.int (lo8 c)) ∧ ∀ c ∈ cs, ¬ 255 < c) ∨ (cd = 1 ∧ N2 = Int32.ofNat (2 * cs.length) ∧ vs = wideBytes cs ∧ ∃ c ∈ cs, 255 < c)
theorem CodA.cod {cs : List Int32} {cd N2 : Int32} {vs : List Value} {V : Cell} (h : CodA cs cd N2 vs) (hn : 2 * cs.length < 2 ^ 31) (hs : V.slots.size = N2.toNatClampNeg) (hv : RoadKit.Has V vs (.int 0)) : Cod cd cs.length (fun j => cs.getD j 0) V := by
  rcases h with ⟨rfl, rfl, rfl, h⟩ | ⟨rfl, rfl, rfl, c, hc, hw⟩
  · rw [n32 (by omega)] at hs
    exact Or.inl ⟨rfl, hs, fun j hj => ⟨by rw [hv j (by omega), low_at _ _ _ hj], by
      have e : cs.getD j 0 = cs[j] := by simp [List.getD_eq_getElem?_getD, hj]
      show ¬ 255 < cs.getD j 0
      rw [e]; exact h _ (List.getElem_mem _)⟩⟩
  · rw [n32 (by omega)] at hs
    obtain ⟨j, hj, rfl⟩ := List.getElem_of_mem hc
    exact Or.inr ⟨rfl, hs, fun j hj => ⟨by rw [hv _ (by omega), wide_lo _ _ _ hj], by rw [hv _ (by omega), wide_hi _ _ _ hj]⟩, j, hj, by
      have e : cs.getD j 0 = cs[j] := by simp [List.getD_eq_getElem?_getD, hj]
      show 255 < cs.getD j 0
      rw [e]; exact hw⟩
/-- an object of exactly java/lang/String, its two fields found: as the laws ask it -/
theorem strObj {Z U : State} {a0 : Array Value} {kI : Nat} (wi : (Jvm.Cond.instantiable ST kI).before a0 Z = true) (al : Z.vm.Alike U.vm) {x : Addr} {v0 c0 : Value} (E : RoadKit.Exa Z U.heap x ST) (V : RoadKit.Fld Z U.heap x ST "value" "[B" v0) (C : RoadKit.Fld Z U.heap x ST "coder" "B" c0) :
    ∃ (D : Cell) (fV fC : Field), Blank ST x D U ∧ Found ST "value" "[B" fV U ∧ Found ST "coder" "B" fC U ∧ D.slots[fV.slot]? = some v0 ∧ D.slots[fC.slot]? = some c0 ∧ RoadKit.slotOf Z ST "value" "[B" = fV.slot ∧ RoadKit.slotOf Z ST "coder" "B" = fC.slot := by
  obtain ⟨D, cfV, kV, iV, fV, hD, gV, stV, knV, obV, asV, slV⟩ := V
  obtain ⟨D', cfC, kC, iC, fC, hD', gC, stC, -, -, asC, slC⟩ := C
  cases hD.symm.trans hD'
  obtain ⟨D2, kD, e1, e2, e3, e4, e5⟩ := E
  cases hD.symm.trans e1
  obtain ⟨c2, k2, i1, i2, i3, -⟩ := Cond.instantiable_spec wi
  cases e2.symm.trans i1
  cases e3.symm.trans i2
  obtain ⟨kU, u1, u2⟩ := al.2.2 _ _ e3
  exact ⟨D, fV, fC, ⟨hD, ⟨knV, fun q hq => by rw [hq] at obV; cases obV⟩, by rw [al.findClass]; exact e2, kU, u1, by rw [u2]; exact i3, by rw [u2]; exact e5 i3⟩, ⟨SBG.found_only al ⟨cfV, kV, iV, gV⟩, stV⟩, ⟨SBG.found_only al ⟨cfC, kC, iC, gC⟩, stC⟩, slV, slC, by simp [RoadKit.slotOf, gV], by simp [RoadKit.slotOf, gC]⟩
theorem sta_is {Z U : State} (al : Z.vm.Alike U.vm) {C n d : String} {v : Value} (S : RoadKit.Sta Z U.heap C n d v) : StaticIs U C n d v := by
  obtain ⟨cfS, iS, kS, fS, st, cS, t1, t2, t3, t4, t5, t6, t7⟩ := S
  exact StaticIs.there (s := { Z with heap := U.heap }) ⟨cfS, iS, kS, fS, st, cS, t1, t2, t3, t4, t5, (fun q => by rw [q] at t6; cases t6), t7⟩ al rfl
end StrChars.Road
namespace StrChars
open Jvm Sem ClassFile Op Lib Jvm.Stand Jvm.Free.XT Jvm.Free.ALB Jvm.Free.JM Jvm.Free
open Jvm.Lib.Cold (StaticIs)
/-- what place i of a byte[]'s cell holds -/
def yv (A : Cell) (i : Nat) : Int32 := match A.slots[i]? with | some (.int x) => x | _ => 0
theorem yv_get {a : Addr} {A : Cell} {U : State} (h : XT.Arr .byte a A U) (ht : Typed .byte A) {i : Nat} (hi : i < A.slots.size) : A.slots[i]? = some (.int (yv A i)) := by
  have e := Array.getElem?_eq_getElem hi
  have f := ht i _ e
  unfold yv; rw [e]
  generalize A.slots[i] = v at f
  cases v <;> simp [fits] at f ⊢
/-- the two arrays are equal, place for place -/
def EqC (A B : Cell) : Prop := A.slots.size = B.slots.size ∧ ∀ i, i < A.slots.size → yv A i = yv B i
/-- a boolean that says whether p -/
def Says01 (q : Prop) (r : Option Value) (s u : State) : Prop := ∃ v : Int32, r = some (.int v) ∧ u.heap = s.heap ∧ ((v = 1 ∧ q) ∨ (v = 0 ∧ ¬ q))
theorem Says01.mv {q : Prop} : ∀ r (U U' V V' : State), U'.heap = U.heap → V.vm.Alike V'.vm → V'.heap = V.heap → Says01 q r U V → Says01 q r U' V' :=
  fun r U U' V V' h1 _ h2 ⟨v, a, b, c⟩ => ⟨v, a, by rw [h1, h2]; exact b, c⟩
namespace LEq
def yN : MethodName := ⟨"java/lang/StringLatin1", "equals", "([B[B)Z"⟩
abbrev yB : ByteArray := jdk_43_method_13_code
theorem d0 : decode yB 0 = .ok (.aload_n 0, 1) := by decide +kernel
theorem d1 : decode yB 1 = .ok (.arraylength, 1) := by decide +kernel
theorem d2 : decode yB 2 = .ok (.aload_n 1, 1) := by decide +kernel
theorem d3 : decode yB 3 = .ok (.arraylength, 1) := by decide +kernel
theorem d4 : decode yB 4 = .ok (.if_icmp (.ne) 30, 3) := by decide +kernel
theorem d7 : decode yB 7 = .ok (.iconst 0, 1) := by decide +kernel
theorem d8 : decode yB 8 = .ok (.istore_n 2, 1) := by decide +kernel
theorem d9 : decode yB 9 = .ok (.iload_n 2, 1) := by decide +kernel
theorem d10 : decode yB 10 = .ok (.aload_n 0, 1) := by decide +kernel
theorem d11 : decode yB 11 = .ok (.arraylength, 1) := by decide +kernel
theorem d12 : decode yB 12 = .ok (.if_icmp (.ge) 20, 3) := by decide +kernel
theorem d15 : decode yB 15 = .ok (.aload_n 0, 1) := by decide +kernel
theorem d16 : decode yB 16 = .ok (.iload_n 2, 1) := by decide +kernel
theorem d17 : decode yB 17 = .ok (.baload, 1) := by decide +kernel
theorem d18 : decode yB 18 = .ok (.aload_n 1, 1) := by decide +kernel
theorem d19 : decode yB 19 = .ok (.iload_n 2, 1) := by decide +kernel
theorem d20 : decode yB 20 = .ok (.baload, 1) := by decide +kernel
theorem d21 : decode yB 21 = .ok (.if_icmp (.eq) 5, 3) := by decide +kernel
theorem d24 : decode yB 24 = .ok (.iconst 0, 1) := by decide +kernel
theorem d25 : decode yB 25 = .ok (.ireturn, 1) := by decide +kernel
theorem d26 : decode yB 26 = .ok (.iinc 2 1, 3) := by decide +kernel
theorem d29 : decode yB 29 = .ok (.goto (-20), 3) := by decide +kernel
theorem d32 : decode yB 32 = .ok (.iconst 1, 1) := by decide +kernel
theorem d33 : decode yB 33 = .ok (.ireturn, 1) := by decide +kernel
theorem d34 : decode yB 34 = .ok (.iconst 0, 1) := by decide +kernel
theorem d35 : decode yB 35 = .ok (.ireturn, 1) := by decide +kernel
def site : List Cond := []
def tab : Cond := tabOf yN yB 3 (some .boolean) site
def P (a : Addr) (A : Cell) (b : Addr) (B : Cell) (args : Array Value) (s : State) : Prop := args = #[.ref a, .ref b] ∧ XT.Arr .byte a A s ∧ Typed .byte A ∧ XT.Arr .byte b B s ∧ Typed .byte B
/-- whether two byte[] are equal, place for place -/
theorem law (l : Launch) (a : Addr) (A : Cell) (b : Addr) (B : Cell) : Law l yN 2 2 0 0 yB 3 (some .boolean) site (P a A b B) (Says01 (EqC A B)) [] 0 0 := by
  refine Law.of_walk (plainFor_of_name (by decide +kernel)) (by decide +kernel) (by decide +kernel) (by decide) (fun _ _ h => by rw [h.1]; rfl) (fun _ U U' hal hh h => ⟨h.1, h.2.1.mv hal hh, h.2.2.1, h.2.2.2.1.mv hal hh, h.2.2.2.2⟩) (fun r U U' V V' h1 hal h2 h => Says01.mv r U U' V V' h1 hal h2 h) ?_
  intro p e s m args below meth c s₁ X0 hexec hbytes hml hret hlk hnm hown hh0 W hP
  obtain ⟨rfl, hA, tA, hB, tB⟩ := hP
  have a31 := hA.2.2.2
  have b31 := hB.2.2.2
  have hA0 := hA.mv X0.warmed.alike hh0
  have hB0 := hB.mv X0.warmed.alike hh0
  have c1 : Steps p.tables e below (s₁.setTop (entryFrame m #[.ref a, .ref b] 3)) (s₁.setTop (mkF m 0 #[.val (.ref a), .val (.ref b), .unset] [])) := entry rfl
  have c2 : Steps p.tables e below (s₁.setTop (entryFrame m #[.ref a, .ref b] 3)) (s₁.setTop (mkF m 4 #[.val (.ref a), .val (.ref b), .unset] [.int (Int32.ofNat B.slots.size), .int (Int32.ofNat A.slots.size)])) := c1.trans (by
    refine XS.aloadN X0.here hexec rfl (hb hbytes d0) rfl rfl ?_
    refine X0.alen hexec hA0 rfl rfl (hb hbytes d1) ?_
    refine XS.aloadN X0.here hexec rfl (hb hbytes d2) rfl rfl ?_
    refine X0.alen hexec hB0 rfl rfl (hb hbytes d3) ?_
    exact Steps.refl _)
  by_cases hs : A.slots.size = B.slots.size
  · have c3 : Steps p.tables e below (s₁.setTop (entryFrame m #[.ref a, .ref b] 3)) (s₁.setTop (mkF m 9 #[.val (.ref a), .val (.ref b), .val (.int 0)] [])) := c2.trans (by
      refine XS.icmpNo X0.here hexec rfl (hb hbytes d4) rfl (ii_ne_f (by rw [hs])) ?_
      refine iconstV X0.here hexec rfl 0 (hb hbytes d7) (by decide) ?_
      refine XS.istoreN X0.here hexec rfl (hb hbytes d8) rfl rfl ?_
      exact Steps.refl _)
    have loop : ∀ (r i : Nat), i + r = A.slots.size → (∀ j, j < i → yv A j = yv B j) → Steps p.tables e below (s₁.setTop (entryFrame m #[.ref a, .ref b] 3)) (s₁.setTop (mkF m 9 #[.val (.ref a), .val (.ref b), .val (.int (Int32.ofNat i))] [])) → ∃ (pc : Nat) (Ls : Array Slot) (v : Int32), (pc = 25 ∨ pc = 33) ∧ ((v = 1 ∧ EqC A B) ∨ (v = 0 ∧ ¬ EqC A B)) ∧ Steps p.tables e below (s₁.setTop (entryFrame m #[.ref a, .ref b] 3)) (s₁.setTop (mkF m pc Ls [.int v])) := by
      intro r
      induction r with
      | zero =>
        intro i hi he cl
        exact ⟨33, _, 1, Or.inr rfl, Or.inl ⟨rfl, hs, fun j hj => he j (by omega)⟩, cl.trans (by
          refine XS.iloadN X0.here hexec rfl (hb hbytes d9) rfl ?_
          refine XS.aloadN X0.here hexec rfl (hb hbytes d10) rfl rfl ?_
          refine X0.alen hexec hA0 rfl rfl (hb hbytes d11) ?_
          refine XS.icmpYes X0.here hexec rfl (pc0 := 12) rfl (hb hbytes d12) rfl (ii_ge_t (nlt32 (by omega) (by omega))) (by decide) rfl ?_
          refine iconstV X0.here hexec rfl 1 (hb hbytes d32) (by decide) ?_
          exact Steps.refl _)⟩
      | succ r ih =>
        intro i hi he cl
        have c4 : Steps p.tables e below (s₁.setTop (entryFrame m #[.ref a, .ref b] 3)) (s₁.setTop (mkF m 21 #[.val (.ref a), .val (.ref b), .val (.int (Int32.ofNat i))] [.int (yv B i), .int (yv A i)])) := cl.trans (by
          refine XS.iloadN X0.here hexec rfl (hb hbytes d9) rfl ?_
          refine XS.aloadN X0.here hexec rfl (hb hbytes d10) rfl rfl ?_
          refine X0.alen hexec hA0 rfl rfl (hb hbytes d11) ?_
          refine XS.icmpNo X0.here hexec rfl (hb hbytes d12) rfl (ii_ge_f (lt32 (by omega) (by omega))) ?_
          refine XS.aloadN X0.here hexec rfl (hb hbytes d15) rfl rfl ?_
          refine XS.iloadN X0.here hexec rfl (hb hbytes d16) rfl ?_
          refine X0.aget hexec hA0 rfl (yv_get hA tA (i := i) (by omega)) rfl rfl (hb hbytes d17) ?_
          refine XS.aloadN X0.here hexec rfl (hb hbytes d18) rfl rfl ?_
          refine XS.iloadN X0.here hexec rfl (hb hbytes d19) rfl ?_
          refine X0.aget hexec hB0 rfl (yv_get hB tB (i := i) (by omega)) rfl rfl (hb hbytes d20) ?_
          exact Steps.refl _)
        by_cases hv : yv A i = yv B i
        · have c5 : Steps p.tables e below (s₁.setTop (entryFrame m #[.ref a, .ref b] 3)) (s₁.setTop (mkF m 9 #[.val (.ref a), .val (.ref b), .val (.int (Int32.ofNat i + 1))] [])) := c4.trans (by
            refine XS.icmpYes X0.here hexec rfl (pc0 := 21) rfl (hb hbytes d21) rfl (ii_eq_t hv) (by decide) rfl ?_
            refine iincV X0.here hexec rfl 1 (hb hbytes d26) (by decide) rfl rfl ?_
            refine XS.goto X0.here hexec rfl (pc0 := 29) rfl (hb hbytes d29) (by decide) rfl ?_
            exact Steps.refl _)
          rw [succ32] at c5
          exact ih (i + 1) (by omega) (fun j hj => by
            by_cases e : j = i
            · rw [e]; exact hv
            · exact he j (by omega)) c5
        · exact ⟨25, _, 0, Or.inl rfl, Or.inr ⟨rfl, fun q => hv (q.2 i (by omega))⟩, c4.trans (by
            refine XS.icmpNo X0.here hexec rfl (hb hbytes d21) rfl (ii_eq_f hv) ?_
            refine iconstV X0.here hexec rfl 0 (hb hbytes d24) (by decide) ?_
            exact Steps.refl _)⟩
    obtain ⟨pc, Ls, v, hpc, hv, cz⟩ := loop A.slots.size 0 (by omega) (fun j hj => absurd hj (Nat.not_lt_zero j)) c3
    have nv : narrow .boolean (.int v) = .int v := by rcases hv with ⟨rfl, -⟩ | ⟨rfl, -⟩ <;> rfl
    rcases hpc with rfl | rfl
    · exact ⟨s₁, some (.int v), _, _, _, X0, rfl, rfl, rfl, (fun h => by cases h), ⟨v, rfl, hh0, hv⟩, fun fs hl => cz.trans (X0.ireturnOut hexec hret nv (Or.inr (Or.inl rfl)) (hb hbytes d25) hl)⟩
    · exact ⟨s₁, some (.int v), _, _, _, X0, rfl, rfl, rfl, (fun h => by cases h), ⟨v, rfl, hh0, hv⟩, fun fs hl => cz.trans (X0.ireturnOut hexec hret nv (Or.inr (Or.inl rfl)) (hb hbytes d33) hl)⟩
  · have c3 : Steps p.tables e below (s₁.setTop (entryFrame m #[.ref a, .ref b] 3)) (s₁.setTop (mkF m 35 #[.val (.ref a), .val (.ref b), .unset] [.int 0])) := c2.trans (by
      refine XS.icmpYes X0.here hexec rfl (pc0 := 4) rfl (hb hbytes d4) rfl (ii_ne_t (ne32 a31 b31 hs)) (by decide) rfl ?_
      refine iconstV X0.here hexec rfl 0 (hb hbytes d34) (by decide) ?_
      exact Steps.refl _)
    exact ⟨s₁, some (.int 0), _, _, _, X0, rfl, rfl, rfl, (fun h => by cases h), ⟨0, rfl, hh0, Or.inr ⟨rfl, fun q => hs q.1⟩⟩, fun fs hl => c3.trans (X0.ireturnOut hexec hret rfl (Or.inr (Or.inl rfl)) (hb hbytes d35) hl)⟩
end LEq
theorem Cod.ty {cd : Int32} {n : Nat} {f : Nat → Int32} {V : Cell} (h : Cod cd n f V) : Typed .byte V := fun i v hv => by
  have hi : i < V.slots.size := (Array.getElem?_eq_some_iff.mp hv).1
  rcases h with ⟨-, k1, k2⟩ | ⟨-, k1, k2, -⟩
  · rw [(k2 i (by omega)).1] at hv; cases hv; exact fits_lo8 _
  · rcases Nat.mod_two_eq_zero_or_one i with e | e
    · obtain ⟨j, rfl⟩ : ∃ j, i = 2 * j := ⟨i / 2, by omega⟩
      rw [(k2 j (by omega)).1] at hv; cases hv; exact fits_lo8 _
    · obtain ⟨j, rfl⟩ : ∃ j, i = 2 * j + 1 := ⟨i / 2, by omega⟩
      rw [(k2 j (by omega)).2] at hv; cases hv; exact fits_lo8 _
/-- the same text -/
def SameT (n : Nat) (f : Nat → Int32) (k : Nat) (g : Nat → Int32) : Prop := n = k ∧ ∀ j, j < n → f j = g j
theorem lo8_inj {x y : Int32} (h0 : ¬ x < 0) (h1 : ¬ 255 < x) (k0 : ¬ y < 0) (k1 : ¬ 255 < y) (h : lo8 x = lo8 y) : x = y := by
  rw [← lo8_mask h0 h1, ← lo8_mask k0 k1, h]
/-- arrays coded by one coder are equal just where the texts are -/
theorem Cod.eqv {cd : Int32} {n k : Nat} {f g : Nat → Int32} {V V' : Cell} (h : Cod cd n f V) (h' : Cod cd k g V') (hf : ∀ j, j < n → ¬ f j < 0 ∧ ¬ 65535 < f j) (hg : ∀ j, j < k → ¬ g j < 0 ∧ ¬ 65535 < g j) : EqC V V' ↔ SameT n f k g := by
  have yvv : ∀ {W : Cell} {i : Nat} {x : Int32}, W.slots[i]? = some (.int x) → yv W i = x := fun q => by unfold yv; rw [q]
  rcases h with ⟨rfl, k1, k2⟩ | ⟨rfl, k1, k2, -⟩
  · rcases h' with ⟨-, m1, m2⟩ | ⟨e, -⟩
    · constructor
      · rintro ⟨e1, e2⟩
        refine ⟨by omega, fun j hj => ?_⟩
        have q := e2 j (by omega)
        rw [yvv (k2 j hj).1, yvv (m2 j (by omega)).1] at q
        exact lo8_inj (hf j hj).1 (k2 j hj).2 (hg j (by omega)).1 (m2 j (by omega)).2 q
      · rintro ⟨rfl, e2⟩
        refine ⟨by omega, fun j hj => ?_⟩
        rw [yvv (k2 j (by omega)).1, yvv (m2 j (by omega)).1, e2 j (by omega)]
    · exact absurd e (by decide)
  · rcases h' with ⟨e, -⟩ | ⟨-, m1, m2, -⟩
    · exact absurd e (by decide)
    · constructor
      · rintro ⟨e1, e2⟩
        refine ⟨by omega, fun j hj => ?_⟩
        have q1 := e2 (2 * j) (by omega)
        have q2 := e2 (2 * j + 1) (by omega)
        rw [yvv (k2 j hj).1, yvv (m2 j (by omega)).1] at q1
        rw [yvv (k2 j hj).2, yvv (m2 j (by omega)).2] at q2
        rw [← pair_says (hf j hj).1 (hf j hj).2, ← pair_says (hg j (by omega)).1 (hg j (by omega)).2, q1, q2]
      · rintro ⟨rfl, e2⟩
        refine ⟨by omega, fun i hi => ?_⟩
        rcases Nat.mod_two_eq_zero_or_one i with e | e
        · obtain ⟨j, rfl⟩ : ∃ j, i = 2 * j := ⟨i / 2, by omega⟩
          rw [yvv (k2 j (by omega)).1, yvv (m2 j (by omega)).1, e2 j (by omega)]
        · obtain ⟨j, rfl⟩ : ∃ j, i = 2 * j + 1 := ⟨i / 2, by omega⟩
          rw [yvv (k2 j (by omega)).2, yvv (m2 j (by omega)).2, e2 j (by omega)]
/-- two codings differ: so do the texts -/
theorem Cod.dif {cd cd' : Int32} {n k : Nat} {f g : Nat → Int32} {V V' : Cell} (h : Cod cd n f V) (h' : Cod cd' k g V') (hne : ¬ cd = cd') : ¬ SameT n f k g := by
  rintro ⟨rfl, e⟩
  rcases h with ⟨rfl, -, k2⟩ | ⟨rfl, -, -, j, hj, hw⟩
  · rcases h' with ⟨rfl, -⟩ | ⟨-, -, -, j, hj, hw⟩
    · exact hne rfl
    · exact (k2 j hj).2 (by rw [e j hj]; exact hw)
  · rcases h' with ⟨-, -, m2⟩ | ⟨rfl, -⟩
    · exact (m2 j hj).2 (by rw [← e j hj]; exact hw)
    · exact hne rfl
/-- an object of exactly C is an instance of C -/
theorem cinst {p : Program} {l : Launch} {e : Env} {R : Room} {s : State} {m : MethodId} {args : Array Value} {below : List Frame} {meth : Method} {c : Code} {T : State} {locs : List Loc} {cells slots : Nat} (X : Stand p l e R s m args below meth c T locs cells slots) (hexec : p.tables.exec = Jvm.exec) {own C : String} {index : Nat} (hown : s.vm.findClass own = some m.cls) (hlink : (Cond.classLink own index C).before args s = true) {a : Addr} (hE : Exact C a T)
    {g : JFrame} (hg : g.method = m) {rest : List Value} (hstack : g.stack = .ref a :: rest) (hdg : decode c.code g.pc = .ok (.instanceof index, 3)) :
    ∃ T', Stand p l e R s m args below meth c T' locs cells slots ∧ T'.heap = T.heap ∧ ∀ target, Steps p.tables e below (T'.setTop { g with pc := g.pc + 3, stack := .int 1 :: rest }) target → Steps p.tables e below (T.setTop g) target := by
  obtain ⟨cB, h1, D, h2, h3, h4⟩ := hE
  have h1' : s.vm.findClass C = some cB := by rw [← X.warmed.alike.findClass]; exact h1
  obtain ⟨vm', X', st⟩ := X.instanceofYes hexec hown hlink h2 h4 h1' (by rw [h3]; exact Jvm.Free.SB.assignable_self _ _) hg hstack hdg
  exact ⟨_, X', rfl, st⟩
theorem cself {p : Program} {l : Launch} {e : Env} {R : Room} {s : State} {m : MethodId} {args : Array Value} {below : List Frame} {meth : Method} {c : Code} {T : State} {locs : List Loc} {cells slots : Nat} (X : Stand p l e R s m args below meth c T locs cells slots) (hexec : p.tables.exec = Jvm.exec) {own C : String} {index : Nat} (hown : s.vm.findClass own = some m.cls) (hlink : (Cond.classLink own index C).before args s = true) {a : Addr} (hE : Exact C a T)
    {g : JFrame} (hg : g.method = m) {rest : List Value} (hstack : g.stack = .ref a :: rest) (hdg : decode c.code g.pc = .ok (.checkcast index, 3)) :
    ∃ T', Stand p l e R s m args below meth c T' locs cells slots ∧ T'.heap = T.heap ∧ ∀ target, Steps p.tables e below (T'.setTop { g with pc := g.pc + 3, stack := .ref a :: rest }) target → Steps p.tables e below (T.setTop g) target := by
  obtain ⟨cB, h1, D, h2, h3, h4⟩ := hE
  have h1' : s.vm.findClass C = some cB := by rw [← X.warmed.alike.findClass]; exact h1
  obtain ⟨vm', X', st⟩ := X.checkcastYes hexec hown hlink h2 h4 h1' (by rw [h3]; exact Jvm.Free.SB.assignable_self _ _) hg hstack hdg
  exact ⟨_, X', rfl, fun t h => st t (by rw [← hstack] at h; exact h)⟩
namespace SEq
def yN : MethodName := ⟨"java/lang/String", "equals", "(Ljava/lang/Object;)Z"⟩
abbrev yB : ByteArray := jdk_42_method_66_code
theorem d0 : decode yB 0 = .ok (.aload_n 0, 1) := by decide +kernel
theorem d1 : decode yB 1 = .ok (.aload_n 1, 1) := by decide +kernel
theorem d2 : decode yB 2 = .ok (.if_acmp (.ne) 5, 3) := by decide +kernel
theorem d5 : decode yB 5 = .ok (.iconst 1, 1) := by decide +kernel
theorem d6 : decode yB 6 = .ok (.ireturn, 1) := by decide +kernel
theorem d7 : decode yB 7 = .ok (.aload_n 1, 1) := by decide +kernel
theorem d8 : decode yB 8 = .ok (.instanceof 10, 3) := by decide +kernel
theorem d11 : decode yB 11 = .ok (.ifCond (.eq) 43, 3) := by decide +kernel
theorem d14 : decode yB 14 = .ok (.aload_n 1, 1) := by decide +kernel
theorem d15 : decode yB 15 = .ok (.checkcast 10, 3) := by decide +kernel
theorem d18 : decode yB 18 = .ok (.astore_n 2, 1) := by decide +kernel
theorem d19 : decode yB 19 = .ok (.getstatic 38, 3) := by decide +kernel
theorem d22 : decode yB 22 = .ok (.ifCond (.eq) 14, 3) := by decide +kernel
theorem d25 : decode yB 25 = .ok (.aload_n 0, 1) := by decide +kernel
theorem d26 : decode yB 26 = .ok (.getfield 15, 3) := by decide +kernel
theorem d29 : decode yB 29 = .ok (.aload_n 2, 1) := by decide +kernel
theorem d30 : decode yB 30 = .ok (.getfield 15, 3) := by decide +kernel
theorem d33 : decode yB 33 = .ok (.if_icmp (.ne) 21, 3) := by decide +kernel
theorem d36 : decode yB 36 = .ok (.aload_n 0, 1) := by decide +kernel
theorem d37 : decode yB 37 = .ok (.getfield 9, 3) := by decide +kernel
theorem d40 : decode yB 40 = .ok (.aload_n 2, 1) := by decide +kernel
theorem d41 : decode yB 41 = .ok (.getfield 9, 3) := by decide +kernel
theorem d44 : decode yB 44 = .ok (.invokestatic 541, 3) := by decide +kernel
theorem d47 : decode yB 47 = .ok (.ifCond (.eq) 7, 3) := by decide +kernel
theorem d50 : decode yB 50 = .ok (.iconst 1, 1) := by decide +kernel
theorem d51 : decode yB 51 = .ok (.goto 4, 3) := by decide +kernel
theorem d54 : decode yB 54 = .ok (.iconst 0, 1) := by decide +kernel
theorem d55 : decode yB 55 = .ok (.ireturn, 1) := by decide +kernel
def site : List Cond := [.classLink "java/lang/String" 10 "java/lang/String", .fieldLink "java/lang/String" 38 "java/lang/String" "COMPACT_STRINGS" "Z", .fieldLink "java/lang/String" 15 "java/lang/String" "coder" "B", .fieldLink "java/lang/String" 9 "java/lang/String" "value" "[B", LEq.tab] ++ staticW "java/lang/String" 541 LEq.yN
def tab : Cond := tabOf yN yB 3 (some .boolean) site
def P (x t : Addr) (V : Cell) (cd : Int32) (n : Nat) (f : Nat → Int32) (y t' : Addr) (V' : Cell) (cd' : Int32) (k : Nat) (g : Nat → Int32) (z : Int32) (args : Array Value) (s : State) : Prop := args = #[.ref x, .ref y] ∧ Txt x t V cd n f s ∧ Txt y t' V' cd' k g s ∧ StaticIs s "java/lang/String" "COMPACT_STRINGS" "Z" (.int z) ∧ ¬ z = 0
/-- equals(Object) of two Strings: whether the texts are the same -/
theorem law (l : Launch) (x t : Addr) (V : Cell) (cd : Int32) (n : Nat) (f : Nat → Int32) (y t' : Addr) (V' : Cell) (cd' : Int32) (k : Nat) (g : Nat → Int32) (z : Int32) : Law l yN 2 1 1 14 yB 3 (some .boolean) site (P x t V cd n f y t' V' cd' k g z) (Says01 (SameT n f k g)) [] 0 0 := by
  refine Law.of_walk (plainFor_of_name (by decide +kernel)) (by decide +kernel) (by decide +kernel) (by decide) (fun _ _ h => by rw [h.1]; rfl) (fun _ U U' hal hh h => ⟨h.1, h.2.1.mv hal hh, h.2.2.1.mv hal hh, h.2.2.2.1.there hal hh, h.2.2.2.2⟩) (fun r U U' V V' h1 hal h2 h => Says01.mv r U U' V V' h1 hal h2 h) ?_
  intro p e s m args below meth c s₁ X0 hexec hbytes hml hret hlk hnm hown hh0 W hP
  obtain ⟨rfl, hx, hy, s1, hz⟩ := hP
  have c1 : Steps p.tables e below (s₁.setTop (entryFrame m #[.ref x, .ref y] 3)) (s₁.setTop (mkF m 2 #[.val (.ref x), .val (.ref y), .unset] [.ref y, .ref x])) := Steps.trans (entry rfl) (by
    show Steps p.tables e below (s₁.setTop (mkF m 0 #[.val (.ref x), .val (.ref y), .unset] [])) _
    refine XS.aloadN X0.here hexec rfl (hb hbytes d0) rfl rfl ?_
    refine XS.aloadN X0.here hexec rfl (hb hbytes d1) rfl rfl ?_
    exact Steps.refl _)
  by_cases hxy : x = y
  · have c2 : Steps p.tables e below (s₁.setTop (entryFrame m #[.ref x, .ref y] 3)) (s₁.setTop (mkF m 6 #[.val (.ref x), .val (.ref y), .unset] [.int 1])) := c1.trans (by
      refine acmpNo X0.here hexec rfl (hb hbytes d2) rfl rfl rfl (by simp [acmp, hxy]) ?_
      refine iconstV X0.here hexec rfl 1 (hb hbytes d5) (by decide) ?_
      exact Steps.refl _)
    subst hxy
    have ec : cd = cd' := by
      obtain ⟨D, fd, a1, a2, a3⟩ := hx.2.2.1
      obtain ⟨D', fd', b1, b2, b3⟩ := hy.2.2.1
      cases a1.symm.trans b1
      obtain ⟨q1, q2, q3, q4⟩ := a2.1
      obtain ⟨r1, r2, r3, r4⟩ := b2.1
      cases q4.symm.trans r4
      cases a3.symm.trans b3; rfl
    have et : t = t' := by
      obtain ⟨D, fd, a1, a2, a3⟩ := hx.2.1
      obtain ⟨D', fd', b1, b2, b3⟩ := hy.2.1
      cases a1.symm.trans b1
      obtain ⟨q1, q2, q3, q4⟩ := a2.1
      obtain ⟨r1, r2, r3, r4⟩ := b2.1
      cases q4.symm.trans r4
      cases a3.symm.trans b3; rfl
    subst ec et
    have ev : V = V' := by cases hx.2.2.2.1.1.symm.trans hy.2.2.2.1.1; rfl
    subst ev
    have hs : SameT n f k g := (Cod.eqv hx.2.2.2.2.1 hy.2.2.2.2.1 hx.2.2.2.2.2 hy.2.2.2.2.2).mp ⟨rfl, fun _ _ => rfl⟩
    exact ⟨s₁, some (.int 1), _, _, _, X0, rfl, rfl, rfl, (fun h => by cases h), ⟨1, rfl, hh0, Or.inl ⟨rfl, hs⟩⟩, fun fs hl => c2.trans (X0.ireturnOut hexec hret rfl (Or.inr (Or.inl rfl)) (hb hbytes d6) hl)⟩
  · have c2 : Steps p.tables e below (s₁.setTop (entryFrame m #[.ref x, .ref y] 3)) (s₁.setTop (mkF m 8 #[.val (.ref x), .val (.ref y), .unset] [.ref y])) := c1.trans (by
      refine acmpYes X0.here hexec rfl (pc0 := 2) rfl (hb hbytes d2) rfl rfl rfl (by simp [acmp, hxy]) (by decide) rfl ?_
      refine XS.aloadN X0.here hexec rfl (hb hbytes d7) rfl rfl ?_
      exact Steps.refl _)
    obtain ⟨T3, X3, q3, st3⟩ := cinst X0 hexec hown (wk W (.classLink "java/lang/String" 10 "java/lang/String")) (hy.mv X0.warmed.alike hh0).1 (g := (mkF m 8 #[.val (.ref x), .val (.ref y), .unset] [.ref y])) rfl (rest := []) rfl (hb hbytes d8)
    have hh3 := q3.trans hh0
    have c4 : Steps p.tables e below (s₁.setTop (entryFrame m #[.ref x, .ref y] 3)) (T3.setTop (mkF m 15 #[.val (.ref x), .val (.ref y), .unset] [.ref y])) := (c2.trans (st3 _ (Steps.refl _))).trans (by
      refine XS.ifNo X3.here hexec rfl (hb hbytes d11) rfl (i0_eq_f (by decide)) ?_
      refine XS.aloadN X3.here hexec rfl (hb hbytes d14) rfl rfl ?_
      exact Steps.refl _)
    obtain ⟨T5, X5, q5, st5⟩ := cself X3 hexec hown (wk W (.classLink "java/lang/String" 10 "java/lang/String")) (hy.mv X3.warmed.alike hh3).1 (g := (mkF m 15 #[.val (.ref x), .val (.ref y), .unset] [.ref y])) rfl (rest := []) rfl (hb hbytes d15)
    have hh5 := q5.trans hh3
    have c6 : Steps p.tables e below (s₁.setTop (entryFrame m #[.ref x, .ref y] 3)) (T5.setTop (mkF m 19 #[.val (.ref x), .val (.ref y), .val (.ref y)] [])) := (c4.trans (st5 _ (Steps.refl _))).trans (by
      refine XS.astoreN X5.here hexec rfl (hb hbytes d18) rfl rfl rfl ?_
      exact Steps.refl _)
    obtain ⟨T7, X7, q7, st7⟩ := X5.sget hexec hown (wk W (.fieldLink "java/lang/String" 38 "java/lang/String" "COMPACT_STRINGS" "Z")) s1 (fun _ _ h => by rw [hh5]; exact h) (g := (mkF m 19 #[.val (.ref x), .val (.ref y), .val (.ref y)] [])) rfl (hb hbytes d19)
    have hh7 := q7.trans hh5
    have c8 : Steps p.tables e below (s₁.setTop (entryFrame m #[.ref x, .ref y] 3)) (T7.setTop (mkF m 26 #[.val (.ref x), .val (.ref y), .val (.ref y)] [.ref x])) := (c6.trans (st7 _ (Steps.refl _))).trans (by
      refine XS.ifNo X7.here hexec rfl (hb hbytes d22) rfl (i0_eq_f hz) ?_
      refine XS.aloadN X7.here hexec rfl (hb hbytes d25) rfl rfl ?_
      exact Steps.refl _)
    obtain ⟨T9, X9, q9, st9⟩ := X7.hget hexec hown (wk W (.fieldLink "java/lang/String" 15 "java/lang/String" "coder" "B")) (hx.mv X7.warmed.alike hh7).2.2.1 (g := (mkF m 26 #[.val (.ref x), .val (.ref y), .val (.ref y)] [.ref x])) rfl (rest := []) rfl (hb hbytes d26)
    have hh9 := q9.trans hh7
    have c10 : Steps p.tables e below (s₁.setTop (entryFrame m #[.ref x, .ref y] 3)) (T9.setTop (mkF m 30 #[.val (.ref x), .val (.ref y), .val (.ref y)] [.ref y, .int cd])) := (c8.trans (st9 _ (Steps.refl _))).trans (by
      refine XS.aloadN X9.here hexec rfl (hb hbytes d29) rfl rfl ?_
      exact Steps.refl _)
    obtain ⟨T11, X11, q11, st11⟩ := X9.hget hexec hown (wk W (.fieldLink "java/lang/String" 15 "java/lang/String" "coder" "B")) (hy.mv X9.warmed.alike hh9).2.2.1 (g := (mkF m 30 #[.val (.ref x), .val (.ref y), .val (.ref y)] [.ref y, .int cd])) rfl (rest := [.int cd]) rfl (hb hbytes d30)
    have hh11 := q11.trans hh9
    have c12 : Steps p.tables e below (s₁.setTop (entryFrame m #[.ref x, .ref y] 3)) (T11.setTop (mkF m 33 #[.val (.ref x), .val (.ref y), .val (.ref y)] [.int cd', .int cd])) := c10.trans (st11 _ (Steps.refl _))
    by_cases hcd : cd = cd'
    · subst hcd
      have c13 : Steps p.tables e below (s₁.setTop (entryFrame m #[.ref x, .ref y] 3)) (T11.setTop (mkF m 37 #[.val (.ref x), .val (.ref y), .val (.ref y)] [.ref x])) := c12.trans (by
        refine XS.icmpNo X11.here hexec rfl (hb hbytes d33) rfl (ii_ne_f rfl) ?_
        refine XS.aloadN X11.here hexec rfl (hb hbytes d36) rfl rfl ?_
        exact Steps.refl _)
      obtain ⟨T14, X14, q14, st14⟩ := X11.hget hexec hown (wk W (.fieldLink "java/lang/String" 9 "java/lang/String" "value" "[B")) (hx.mv X11.warmed.alike hh11).2.1 (g := (mkF m 37 #[.val (.ref x), .val (.ref y), .val (.ref y)] [.ref x])) rfl (rest := []) rfl (hb hbytes d37)
      have hh14 := q14.trans hh11
      have c15 : Steps p.tables e below (s₁.setTop (entryFrame m #[.ref x, .ref y] 3)) (T14.setTop (mkF m 41 #[.val (.ref x), .val (.ref y), .val (.ref y)] [.ref y, .ref t])) := (c13.trans (st14 _ (Steps.refl _))).trans (by
        refine XS.aloadN X14.here hexec rfl (hb hbytes d40) rfl rfl ?_
        exact Steps.refl _)
      obtain ⟨T16, X16, q16, st16⟩ := X14.hget hexec hown (wk W (.fieldLink "java/lang/String" 9 "java/lang/String" "value" "[B")) (hy.mv X14.warmed.alike hh14).2.1 (g := (mkF m 41 #[.val (.ref x), .val (.ref y), .val (.ref y)] [.ref y, .ref t])) rfl (rest := [.ref t]) rfl (hb hbytes d41)
      have hh16 := q16.trans hh14
      have c17 : Steps p.tables e below (s₁.setTop (entryFrame m #[.ref x, .ref y] 3)) (T16.setTop (mkF m 44 #[.val (.ref x), .val (.ref y), .val (.ref y)] [.ref t', .ref t])) := c15.trans (st16 _ (Steps.refl _))
      obtain ⟨v18, T18, X18, E18, g18⟩ := X16.callS hexec (LEq.law l t V t' V') hown (wks W (staticW "java/lang/String" 541 LEq.yN)) (wk W LEq.tab) (W := 0) (Nat.le_of_ble_eq_true rfl) (Nat.le_of_ble_eq_true rfl) (Nat.le_refl _) (Nat.le_refl _) (g := (mkF m 44 #[.val (.ref x), .val (.ref y), .val (.ref y)] [.ref t', .ref t])) rfl (by rw [hml]; rfl) c17 (argsL := [.ref t, .ref t']) (rest := []) rfl rfl (by show 2 * 0 + 0 ≤ _; decide) (hb hbytes d44) (⟨rfl, hx.2.2.2.1.mv X16.warmed.alike hh16, hx.2.2.2.2.1.ty, hy.2.2.2.1.mv X16.warmed.alike hh16, hy.2.2.2.2.1.ty⟩)
      obtain ⟨v, rfl, q18, hv⟩ := E18
      have iff := Cod.eqv hx.2.2.2.2.1 hy.2.2.2.2.1 hx.2.2.2.2.2 hy.2.2.2.2.2
      rcases hv with ⟨rfl, he⟩ | ⟨rfl, he⟩
      · have c19 : Steps p.tables e below (s₁.setTop (entryFrame m #[.ref x, .ref y] 3)) (T18.setTop (mkF m 55 #[.val (.ref x), .val (.ref y), .val (.ref y)] [.int 1])) := Steps.trans g18 (by
          refine XS.ifNo X18.here hexec rfl (hb hbytes d47) rfl (i0_eq_f (by decide)) ?_
          refine iconstV X18.here hexec rfl 1 (hb hbytes d50) (by decide) ?_
          refine XS.goto X18.here hexec rfl (pc0 := 51) rfl (hb hbytes d51) (by decide) rfl ?_
          exact Steps.refl _)
        exact ⟨T18, some (.int 1), _, _, _, X18, rfl, rfl, rfl, (fun h => by cases h), ⟨1, rfl, q18.trans hh16, Or.inl ⟨rfl, iff.mp he⟩⟩, fun fs hl => c19.trans (X18.ireturnOut hexec hret rfl (Or.inr (Or.inl rfl)) (hb hbytes d55) hl)⟩
      · have c19 : Steps p.tables e below (s₁.setTop (entryFrame m #[.ref x, .ref y] 3)) (T18.setTop (mkF m 55 #[.val (.ref x), .val (.ref y), .val (.ref y)] [.int 0])) := Steps.trans g18 (by
          refine XS.ifYes X18.here hexec rfl (pc0 := 47) rfl (hb hbytes d47) rfl (i0_eq_t rfl) (by decide) rfl ?_
          refine iconstV X18.here hexec rfl 0 (hb hbytes d54) (by decide) ?_
          exact Steps.refl _)
        exact ⟨T18, some (.int 0), _, _, _, X18, rfl, rfl, rfl, (fun h => by cases h), ⟨0, rfl, q18.trans hh16, Or.inr ⟨rfl, fun q => he (iff.mpr q)⟩⟩, fun fs hl => c19.trans (X18.ireturnOut hexec hret rfl (Or.inr (Or.inl rfl)) (hb hbytes d55) hl)⟩
    · have c13 : Steps p.tables e below (s₁.setTop (entryFrame m #[.ref x, .ref y] 3)) (T11.setTop (mkF m 55 #[.val (.ref x), .val (.ref y), .val (.ref y)] [.int 0])) := c12.trans (by
        refine XS.icmpYes X11.here hexec rfl (pc0 := 33) rfl (hb hbytes d33) rfl (ii_ne_t hcd) (by decide) rfl ?_
        refine iconstV X11.here hexec rfl 0 (hb hbytes d54) (by decide) ?_
        exact Steps.refl _)
      exact ⟨T11, some (.int 0), _, _, _, X11, rfl, rfl, rfl, (fun h => by cases h), ⟨0, rfl, hh11, Or.inr ⟨rfl, Cod.dif hx.2.2.2.2.1 hy.2.2.2.2.1 hcd⟩⟩, fun fs hl => c13.trans (X11.ireturnOut hexec hret rfl (Or.inr (Or.inl rfl)) (hb hbytes d55) hl)⟩
theorem pays {l : Launch} {R : Room} {p : Program} {e : Env} {below : List Frame} {s : State} {sargs : Array Value} {len W : Nat} (x t : Addr) (V : Cell) (cd : Int32) (n : Nat) (f : Nat → Int32) (y t' : Addr) (V' : Cell) (cd' : Int32) (k : Nat) (g : Nat → Int32) (z : Int32) (htab : tab.before sargs s = true) (hfr : 2 ≤ R.frames) (hlo : W + 28 ≤ R.locals) :
    Back l R p e below s sargs yN len W (fun A₁ a₁ => A₁.cells + 0 ≤ R.cells ∧ A₁.slots + 0 ≤ R.slots ∧ P x t V cd n f y t' V' cd' k g z a₁ A₁.U) (fun A₁ _ v₁ B₁ => Says01 (SameT n f k g) v₁ A₁.U B₁.U ∧ B₁.locs = A₁.locs ++ [] ∧ B₁.cells = A₁.cells + 0 ∧ B₁.slots = A₁.slots + 0) :=
  (law l x t V cd n f y t' V' cd' k g z).pays htab hfr (by omega)
end SEq
end StrChars
namespace StrChars.Road
open Jvm Sem ClassFile Op Lib Jvm.Stand Jvm.Free Jvm.Free.XT
open Jvm.Lib.Cold (StaticIs)
/-- the words of String.equals(Object) -/
abbrev wordsEq : List Jvm.Cond := [.code SEq.yN SEq.yB 3 (some .boolean), .initialized ST, .classLink ST 10 ST, .fieldLink ST 38 ST "COMPACT_STRINGS" "Z", .fieldLink ST 15 ST "coder" "B", .fieldLink ST 9 ST "value" "[B", .methodLink ST 541 LEq.yN, .static LEq.yN, .code LEq.yN LEq.yB 3 (some .boolean), .initialized "java/lang/StringLatin1"]
theorem tabEq_of {a : Array Value} {s : State} (h : ∀ w ∈ wordsEq, w.before a s = true) : SEq.tab.before a s = true := by
  have hl : LEq.tab.before a s = true := unparts (wk h (.code LEq.yN LEq.yB 3 (some .boolean))) (wks h (.initialized LEq.yN.cls :: LEq.site))
  have q := consq hl h
  exact unparts (wk q (.code SEq.yN SEq.yB 3 (some .boolean))) (wks q (.initialized SEq.yN.cls :: SEq.site))
theorem movedEq {Z s : State} {a0 args : Array Value} (hZ : Z.Warmed39 s.vm) (hw : ∀ d ∈ wordsEq, d.before a0 Z = true) : ∀ d ∈ wordsEq, d.before args s = true := fun d hd => by
  have t : ∀ d ∈ wordsEq, (d.onTables && d.keepsFace) = true := by decide +kernel
  exact RoadKit.mv hZ (hw d hd) (t d hd)
/-- the road's facts of a String, as the laws ask it -/
theorem txt_of {Z U : State} {a0 : Array Value} {kI : Nat} (wi : (Jvm.Cond.instantiable ST kI).before a0 Z = true) (al : Z.vm.Alike U.vm) {x t : Addr} {kb : ClassId} {cs : List Int32} {cd N2 : Int32} {vs : List Value} (E : RoadKit.Exa Z U.heap x ST) (V : RoadKit.Fld Z U.heap x ST "value" "[B" (.ref t)) (C : RoadKit.Fld Z U.heap x ST "coder" "B" (.int cd)) (K : RoadKit.Arv Z U.heap t kb .byte N2 vs (.int 0)) (hc : CodA cs cd N2 vs) (hb : ∀ c ∈ cs, ¬ c < 0 ∧ ¬ (65535 : Int32) < c) (l2 : cs.length ≤ 4000) :
    ∃ A, Txt x t A cd cs.length (fun j => cs.getD j 0) U := by
  obtain ⟨A, K1, K2, K3, K4, K5, K6⟩ := K
  have hcod := hc.cod (by omega) K3 K5
  obtain ⟨D, fV, fC, hB, F1, F2, g1, g2, -, -⟩ := strObj wi al E V C
  exact ⟨A, ⟨_, hB.2.2.1, D, hB.1, rfl, by cases q : D.vm <;> first | rfl | exact absurd q (hB.2.1.2 _)⟩, Has.of hB F1 g1, Has.of hB F2 g2, ⟨K1.1, State.isArrayOf_alike al K1.2.1, K1.2.2, by rcases hcod with ⟨-, q, -⟩ | ⟨-, q, -⟩ <;> omega⟩, hcod, fun j hj => by
    have e : cs.getD j 0 = cs[j] := by simp [List.getD_eq_getElem?_getD, hj]
    show ¬ cs.getD j 0 < 0 ∧ ¬ 65535 < cs.getD j 0
    rw [e]; exact hb _ (List.getElem_mem _)⟩
theorem same_list (cs ds : List Int32) : SameT cs.length (fun j => cs.getD j 0) ds.length (fun j => ds.getD j 0) ↔ cs = ds := by
  constructor
  · rintro ⟨e, q⟩
    refine List.ext_getElem e fun j h1 h2 => ?_
    have := q j h1
    simpa [List.getD_eq_getElem?_getD, h1, h2] using this
  · rintro rfl
    exact ⟨rfl, fun _ _ => rfl⟩
/-- **equals(Object) OF TWO SUCH STRINGS**: 1 just where the chars are the same -/
theorem eqW {p : Program} {l : Launch} {e : Env} {R : Room} {s : State} {args : Array Value} {below : List Frame} {len W : Nat} {Z : State} {a0 : Array Value} {h : Heap} (hZ : Z.Warmed39 s.vm) (hw : ∀ d ∈ wordsEq, d.before a0 Z = true) {kI : Nat} (wi : (Jvm.Cond.instantiable ST kI).before a0 Z = true)
    {x t : Addr} {kb : ClassId} {cs : List Int32} {cd N2 : Int32} {vs : List Value} (E : RoadKit.Exa Z h x ST) (V : RoadKit.Fld Z h x ST "value" "[B" (.ref t)) (C : RoadKit.Fld Z h x ST "coder" "B" (.int cd)) (K : RoadKit.Arv Z h t kb .byte N2 vs (.int 0)) (hc : CodA cs cd N2 vs) (hb : ∀ c ∈ cs, ¬ c < 0 ∧ ¬ (65535 : Int32) < c) (l2 : cs.length ≤ 4000)
    {y t' : Addr} {kb' : ClassId} {ds : List Int32} {cd' N2' : Int32} {vs' : List Value} (E' : RoadKit.Exa Z h y ST) (V' : RoadKit.Fld Z h y ST "value" "[B" (.ref t')) (C' : RoadKit.Fld Z h y ST "coder" "B" (.int cd')) (K' : RoadKit.Arv Z h t' kb' .byte N2' vs' (.int 0)) (hc' : CodA ds cd' N2' vs') (hb' : ∀ c ∈ ds, ¬ c < 0 ∧ ¬ (65535 : Int32) < c) (l2' : ds.length ≤ 4000)
    {z : Int32} (S : RoadKit.Sta Z h ST "COMPACT_STRINGS" "Z" (.int z)) (hz : ¬ z = 0) (hfr : 2 ≤ R.frames) (hlo : W + 28 ≤ R.locals) :
    Back l R p e below s args (⟨"java/lang/String", "equals", "(Ljava/lang/Object;)Z"⟩ : MethodName) len W (fun P a => a = #[.ref x, .ref y] ∧ P.U.heap = h ∧ P.cells + 0 ≤ R.cells ∧ P.slots + 0 ≤ R.slots)
      (fun P _ v B => ∃ L, (((v = some (.int 1) ∧ cs = ds) ∨ (v = some (.int 0) ∧ ¬ cs = ds)) ∧ L = [] ∧ B.U.heap = h) ∧ B.locs = P.locs ++ L ∧ B.cells = P.cells + 0 ∧ B.slots = P.slots + 0) := by
  intro m meth c P g ig mk a X hg hsize hdg hW hn hp'
  obtain ⟨rfl, rfl, r1, r2⟩ := hp'
  have al : Z.vm.Alike P.U.vm := hZ.alike.trans X.warmed.alike
  obtain ⟨A, hx⟩ := txt_of wi al E V C K hc hb l2
  obtain ⟨A', hy⟩ := txt_of wi al E' V' C' K' hc' hb' l2'
  obtain ⟨v, B, X', ⟨⟨w, hv, hh, hq⟩, hl, hk, hs⟩, st⟩ := SEq.pays x t A cd cs.length (fun j => cs.getD j 0) y t' A' cd' ds.length (fun j => ds.getD j 0) z (tabEq_of (movedEq hZ hw)) hfr hlo m meth c P g ig mk _ X hg hsize hdg hW hn ⟨r1, r2, rfl, hx, hy, sta_is al S, hz⟩
  refine ⟨v, B, X', ⟨[], ⟨?_, rfl, hh⟩, hl, hk, hs⟩, st⟩
  rcases hq with ⟨rfl, q⟩ | ⟨rfl, q⟩
  · exact Or.inl ⟨hv, (same_list cs ds).mp q⟩
  · exact Or.inr ⟨hv, fun e => q ((same_list cs ds).mpr e)⟩
end StrChars.Road
namespace StrChars.Road
open Jvm Sem ClassFile Op Lib Jvm.Stand Jvm.Free Jvm.Free.XT
open Jvm.Lib.Cold (StaticIs)
/-- what backV says of its String, as the contracts of this text ask it: cs's low bytes, coder 0 -/
theorem codOf {cs : List Int32} {n : Nat} (hn : cs.length = n) (hb : ∀ c ∈ cs, ¬ 255 < c) : CodA cs 0 (Int32.ofNat n) ((cs.map lo8).map Value.int) := Or.inl ⟨rfl, by rw [hn], by simp [List.map_map, Function.comp_def], hb⟩
end StrChars.Road
end Jvm.Pilot.@@N@@
namespace Jvm.Pilot.@@N@@
open Jvm Jvm.ClassFile Sem Op Lib Jvm.Free Jvm.Stand Jvm.LawKit Jvm.RoadKit Bundle Jvm.Pilot.@@N@@.Jvm.D
section Own
variable {p : Program} {l : Launch} {e : Env} {R : Room} {s : State} {m : MethodId} {args : Array Value} {below : List Frame} {meth : Method} {c : Code} {T T' : State} {locs : List Loc} {cells slots : Nat}
/-- from the frame g over the state T the body comes to its end, as Q says -/
def own_E (p : Program) (e : Env) (below : List Frame) (s : State) (Q : Option Value → Heap → List Loc → Prop) (k n : Nat) (T : State) (g : JFrame) : Prop :=
  ∃ U o, Steps p.tables e below (T.setTop g) U ∧ U.status = .running ∧ Ended U below o ∧ ∃ v L, o = Outcome.returned v ∧ Q v U.heap L ∧ FrameEnd s o U L k n
variable {Q : Option Value → Heap → List Loc → Prop} {k n : Nat} {g g' : JFrame}
theorem own_via (st : ∀ t, Steps p.tables e below (T'.setTop g') t → Steps p.tables e below (T.setTop g) t) (h : own_E p e below s Q k n T' g') : own_E p e below s Q k n T g := by
  obtain ⟨U, o, h1, r⟩ := h
  exact ⟨U, o, st U h1, r⟩
theorem own_thru (st : Steps p.tables e below (T.setTop g) (T'.setTop g')) (h : own_E p e below s Q k n T' g') : own_E p e below s Q k n T g := own_via (fun _ k => st.trans k) h
theorem own_retN (X : Stand p l e R s m args below meth c T locs cells slots) (hx : p.tables.exec = Jvm.exec) (hlk : meth.locks = false) {pc : Nat} {Ls : Array Slot} {z : Int32} {t : FieldType} {rest : List Value} (hret : meth.sig.returnType = some t) (ht : t = .boolean ∨ t = .byte ∨ t = .char ∨ t = .short)
    (hd : decode c.code pc = .ok (.ireturn, 1)) (hk : cells ≤ k) (hn : slots ≤ n) (hQ : Q (some (.int (nar t z))) T.heap locs) : own_E p e below s Q k n T (mkF m pc Ls (.int z :: rest)) := by
  obtain ⟨fs, hr, hrun, hended, hW, hsame⟩ := X.leave (v := some (.int (nar t z))) (fun h => by rw [hret] at h; cases h) hlk
  exact ⟨_, _, retN X hx hret ht hd hr, hrun, hended, _, _, rfl, hQ, ⟨_, rfl⟩, hW, hsame.mono hk hn⟩
theorem own_ret (X : Stand p l e R s m args below meth c T locs cells slots) (hx : p.tables.exec = Jvm.exec) (hlk : meth.locks = false) {pc : Nat} {Ls : Array Slot} {w : Value} {t : FieldType} {i : Instr} {rest : List Value} (hret : meth.sig.returnType = some t) (hnr : narrow t w = w)
    (hi : (i = .ireturn ∧ (t = .int ∨ t = .boolean ∨ t = .byte ∨ t = .char ∨ t = .short) ∧ ∃ z, w = .int z) ∨ (i = .lreturn ∧ t = .long ∧ ∃ z, w = .long z) ∨ (i = .dreturn ∧ t = .double ∧ ∃ z, w = .double z) ∨ (i = .freturn ∧ t = .float ∧ ∃ z, w = .float z) ∨ (i = .areturn ∧ t.isReference = true ∧ w.isRef = true))
    (hd : decode c.code pc = .ok (i, 1)) (hk : cells ≤ k) (hn : slots ≤ n) (hQ : Q (some w) T.heap locs) : own_E p e below s Q k n T (mkF m pc Ls (w :: rest)) := by
  obtain ⟨fs, hr, hrun, hended, hW, hsame⟩ := X.leave (v := some w) (fun h => by rw [hret] at h; cases h) hlk
  exact ⟨_, _, retOut X hx hret hnr hi hd hr, hrun, hended, _, _, rfl, hQ, ⟨_, rfl⟩, hW, hsame.mono hk hn⟩
theorem own_retV (X : Stand p l e R s m args below meth c T locs cells slots) (hx : p.tables.exec = Jvm.exec) (hlk : meth.locks = false) {pc : Nat} {Ls : Array Slot} (hret : meth.sig.returnType = none)
    (hd : decode c.code pc = .ok (.return_, 1)) (hk : cells ≤ k) (hn : slots ≤ n) (hQ : Q none T.heap locs) : own_E p e below s Q k n T (mkF m pc Ls []) := by
  obtain ⟨fs, hr, hrun, hended, hW, hsame⟩ := X.leave (v := none) (fun _ => rfl) hlk
  exact ⟨_, _, X.returnOut hx hret hd hr, hrun, hended, _, _, rfl, hQ, ⟨_, rfl⟩, hW, hsame.mono hk hn⟩
end Own
def own_ushr (x y : Int32) : Int32 := (x.toUInt32 >>> (y &&& 31).toUInt32).toInt32
def own_ushrL (x : Int64) (y : Int32) : Int64 := (x.toUInt64 >>> (y &&& 0x3f).toInt64.toUInt64).toInt64
/-- a field of an old object, said by the case to hold an int -/
theorem own_fldI {Z : State} {args : Array Value} {t : Term} {C n d : String} {a : Addr} {k : Int32} (ev : t.eval args Z none [] Z = some (.ref a)) (h : (Cond.eq (.field t C n d) (.int k)).value args Z none Z [] = some true) : Fld Z Z.heap a C n d (.int k) := by
  obtain ⟨x, y, h1, h2, k1, k2⟩ := cmp_v (Or.inl h)
  obtain rfl : y = .int k := (Option.some.inj h2).symm
  obtain ⟨z, rfl⟩ : ∃ z, x = .int z := k2
  have e := gotT (Cond.eq_ints h1 h2) h
  subst e
  rw [fld_at ev] at h1
  exact Fld.start h1
/-- a field of an old object, said by the case to hold what another term names (a reference) -/
theorem own_fldR {Z : State} {args : Array Value} {t u : Term} {C n d : String} {a b : Addr} (ev : t.eval args Z none [] Z = some (.ref a)) (eu : u.eval args Z none [] Z = some (.ref b)) (h : (Cond.eq (.field t C n d) u).value args Z none Z [] = some true) : Fld Z Z.heap a C n d (.ref b) := by
  obtain ⟨x, y, h1, h2, k1, k2⟩ := cmp_v (Or.inl h)
  obtain rfl : y = .ref b := Option.some.inj (h2.symm.trans eu)
  have hx : x.isRef = true := k2.2
  have q := gotT (eq_R h1 h2 hx rfl) h
  subst q
  rw [fld_at ev] at h1
  exact Fld.start h1
section OwnArr
variable {p : Program} {l : Launch} {e : Env} {R : Room} {s : State} {m : MethodId} {args : Array Value} {below : List Frame} {meth : Method} {c : Code} {T T' : State} {locs : List Loc} {cells slots : Nat} {Z : State} {h h' : Heap} {a b : Addr} {ty : FieldType} {N : Nat} {f : Nat → Int32}
/-- an array of N ints of a small kind, whose i-th holds f i -/
def own_Ar (Z : State) (h : Heap) (a : Addr) (ty : FieldType) (N : Nat) (f : Nat → Int32) : Prop := ∃ cl : Cell, Arr Z h a cl ty ∧ cl.slots.size = N ∧ ∀ i, i < N → cl.slots[i]? = some (.int (f i))
theorem own_Ar.lt (F : own_Ar Z h a ty N f) : a < h.size := by obtain ⟨cl, A, -⟩ := F; exact A.lt
theorem own_Ar.ext (F : own_Ar Z h a ty N f) (E : Ext h h') : own_Ar Z h' a ty N f := by obtain ⟨cl, A, r⟩ := F; exact ⟨cl, A.ext E, r⟩
theorem own_Ar.other {sl : Nat} {v : Value} (F : own_Ar Z h a ty N f) (W : Wr h h' b sl v) (q : a ≠ b) : own_Ar Z h' a ty N f := by obtain ⟨cl, A, r⟩ := F; exact ⟨cl, A.other W q, r⟩
theorem own_Ar.keep {ws : List Addr} (F : own_Ar Z h a ty N f) (K : Keep h h' ws) (q : a ∉ ws) : own_Ar Z h' a ty N f := by obtain ⟨cl, A, r⟩ := F; exact ⟨cl, ⟨K.2.1 a cl A.1 q, A.2⟩, r⟩
theorem own_Ar.congr {g : Nat → Int32} (F : own_Ar Z h a ty N f) (q : ∀ i, i < N → f i = g i) : own_Ar Z h a ty N g := by obtain ⟨cl, A, S, H⟩ := F; exact ⟨cl, A, S, fun i hi => by rw [H i hi, q i hi]⟩
theorem own_Ar.new {k : ClassId} {z : Int32} (A : Arr Z h a (newA k ty z) ty) (hz : z.toNatClampNeg = N) (hd : defaultValue ty = .int 0) : own_Ar Z h a ty N (fun _ => 0) :=
  ⟨_, A, by rw [sz_new, hz], fun i hi => by simp [newA, hz, hi, hd]⟩
def own_upd (f : Nat → Int32) (j : Nat) (x : Int32) (i : Nat) : Int32 := if i = j then x else f i
theorem own_Ar.wr {cl : Cell} {jn : Nat} {x : Int32} (A : Arr Z h a cl ty) (S : cl.slots.size = N) (H : ∀ i, i < N → cl.slots[i]? = some (.int (f i))) (W : Wr h h' a jn (.int x)) (hj : jn < N) : own_Ar Z h' a ty N (own_upd f jn x) := by
  refine ⟨_, A.same W, by rw [sz_set]; exact S, fun i hi => ?_⟩
  by_cases q : i = jn
  · subst q; simp [Cell.setSlot, own_upd, S, hi]
  · have := H i hi
    simp only [Cell.setSlot, own_upd, if_neg q]
    rw [Array.getElem?_setIfInBounds_ne (Ne.symm q)]; exact this
theorem own_caload (X : Stand p l e R s m args below meth c T locs cells slots) (hx : p.tables.exec = Jvm.exec) (hZ : Z.Warmed39 s.vm) (eT : T.heap = h) (F : own_Ar Z h a .char N f) (hN : N < 2 ^ 31) {jn : Nat} (hj : jn < N) {j : Int32} (ej : j = Int32.ofNat jn)
    {g : JFrame} (hg : g.method = m) {rest : List Value} (hs : g.stack = .int j :: .ref a :: rest) (hd : decode c.code g.pc = .ok (.caload, 1)) :
    ∀ t, Steps p.tables e below (T.setTop { g with pc := g.pc + 1, stack := .int (f jn) :: rest }) t → Steps p.tables e below (T.setTop g) t := by
  obtain ⟨cl, A, S, H⟩ := F
  exact X.caload hx (by rw [eT]; exact A.1) (State.isArrayOf_alike hZ.alike A.2.1) A.2.2 (by rw [S]; exact within ej hj hN) (by rw [clamp_of ej (by omega)]; exact H _ hj) hg hs hd
theorem own_baloadZ (X : Stand p l e R s m args below meth c T locs cells slots) (hx : p.tables.exec = Jvm.exec) (hZ : Z.Warmed39 s.vm) (eT : T.heap = h) (F : own_Ar Z h a .boolean N f) (hN : N < 2 ^ 31) {jn : Nat} (hj : jn < N) {j : Int32} (ej : j = Int32.ofNat jn)
    {g : JFrame} (hg : g.method = m) {rest : List Value} (hs : g.stack = .int j :: .ref a :: rest) (hd : decode c.code g.pc = .ok (.baload, 1)) :
    ∀ t, Steps p.tables e below (T.setTop { g with pc := g.pc + 1, stack := .int (f jn) :: rest }) t → Steps p.tables e below (T.setTop g) t := by
  obtain ⟨cl, A, S, H⟩ := F
  exact X.baloadBooleans hx (by rw [eT]; exact A.1) (State.isArrayOf_alike hZ.alike A.2.1) A.2.2 (by rw [S]; exact within ej hj hN) (by rw [clamp_of ej (by omega)]; exact H _ hj) hg hs hd
theorem own_alen (X : Stand p l e R s m args below meth c T locs cells slots) (hx : p.tables.exec = Jvm.exec) (hZ : Z.Warmed39 s.vm) (eT : T.heap = h) (F : own_Ar Z h a ty N f)
    {g : JFrame} (hg : g.method = m) {rest : List Value} (hs : g.stack = .ref a :: rest) (hd : decode c.code g.pc = .ok (.arraylength, 1)) :
    ∀ t, Steps p.tables e below (T.setTop { g with pc := g.pc + 1, stack := .int (Int32.ofNat N) :: rest }) t → Steps p.tables e below (T.setTop g) t := by
  obtain ⟨cl, A, S, H⟩ := F
  subst S
  exact X.arraylength hx (by rw [eT]; exact A.1) (State.isArrayOf_alike hZ.alike A.2.1) hg hs hd
theorem own_castore (X : Stand p l e R s m args below meth c T locs cells slots) (hx : p.tables.exec = Jvm.exec) (hZ : Z.Warmed39 s.vm) (eT : T.heap = h) (F : own_Ar Z h a .char N f) (hN : N < 2 ^ 31) {jn : Nat} (hj : jn < N) {j x : Int32} (ej : j = Int32.ofNat jn)
    {g : JFrame} (hg : g.method = m) {rest : List Value} (hs : g.stack = .int x :: .int j :: .ref a :: rest) (hd : decode c.code g.pc = .ok (.castore, 1)) {n0 : Nat} (N0 : Fr n0 locs) (hge : n0 ≤ a) :
    ∃ T' h', Stand p l e R s m args below meth c T' (locs ++ [⟨a, jn⟩]) cells slots ∧ T'.heap = h' ∧ own_Ar Z h' a .char N (own_upd f jn (nar .char x)) ∧ Wr h h' a jn (.int (nar .char x)) ∧ Fr n0 (locs ++ [⟨a, jn⟩]) ∧ ∀ t, Steps p.tables e below (T'.setTop { g with pc := g.pc + 1, stack := rest }) t → Steps p.tables e below (T.setTop g) t := by
  obtain ⟨cl, A, S, H⟩ := F
  obtain ⟨T', h', X', e', W, st⟩ := stC X hx hZ eT A (by rw [S]; exact within ej hj hN) hg hs hd
  rw [clamp_of ej (by omega)] at X' W
  exact ⟨T', h', X', e', own_Ar.wr A S H W hj, W, Fr.snoc X' N0 hge, st⟩
end OwnArr
section OwnH
variable {p : Program} {l : Launch} {e : Env} {R : Room} {s : State} {vm : Vm} {m : MethodId} {args : Array Value} {below : List Frame} {meth : Method} {c : Code} {T T' : State} {locs : List Loc} {cells slots : Nat} {Z : State} {a0 : Array Value} {EL : List (String × Nat)} {h h' h0 : Heap}
/-- as own_E, for a body that may load String constants: the tables may have grown, and what is booked for EL's entries stands -/
def own_EH (p : Program) (e : Env) (below : List Frame) (s : State) (Z : State) (EL : List (String × Nat)) (Q : Option Value → Heap → List Loc → Prop) (k n : Nat) (T : State) (g : JFrame) : Prop :=
  ∃ U o, Steps p.tables e below (T.setTop g) U ∧ U.status = .running ∧ Ended U below o ∧ ∃ v L, o = Outcome.returned v ∧ Q v U.heap L ∧ CHr Z EL s.vm s.heap U.vm U.heap ∧ ReturnedEndW s o U L k n
variable {Q : Option Value → Heap → List Loc → Prop} {k n k0 : Nat} {g g' : JFrame}
theorem own_viaH (st : ∀ t, Steps p.tables e below (T'.setTop g') t → Steps p.tables e below (T.setTop g) t) (h : own_EH p e below s Z EL Q k n T' g') : own_EH p e below s Z EL Q k n T g := by
  obtain ⟨U, o, h1, r⟩ := h
  exact ⟨U, o, st U h1, r⟩
theorem own_thruH (st : Steps p.tables e below (T.setTop g) (T'.setTop g')) (h : own_EH p e below s Z EL Q k n T' g') : own_EH p e below s Z EL Q k n T g := own_viaH (fun _ k => st.trans k) h
theorem own_endC (X : Stand p l e R (s.setVm vm) m args below meth c T locs cells slots) (eT : T.heap = h) (hh : s.heap = h0) (hZ : Z.Warmed39 (s.setVm vm).vm) (hEL : EW Z a0 EL) (CR : CHr Z EL s.vm h0 vm h) : CHr Z EL s.vm s.heap T.vm T.heap := by
  rw [hh, eT]; exact CR.trans (CHv.at X hZ hEL CR.1)
theorem own_retNH (X : Stand p l e R (s.setVm vm) m args below meth c T locs cells slots) (hx : p.tables.exec = Jvm.exec) (hlk : meth.locks = false) (hS : s.Since vm k0) (hk : k0 ≤ h.size) (eT : T.heap = h) (hC : CHr Z EL s.vm s.heap T.vm T.heap) {pc : Nat} {Ls : Array Slot} {z : Int32} {t : FieldType} {rest : List Value} (hret : meth.sig.returnType = some t) (ht : t = .boolean ∨ t = .byte ∨ t = .char ∨ t = .short)
    (hd : decode c.code pc = .ok (.ireturn, 1)) (hck : cells ≤ k) (hn : slots ≤ n) (hQ : Q (some (.int (nar t z))) T.heap locs) : own_EH p e below s Z EL Q k n T (mkF m pc Ls (.int z :: rest)) := by
  obtain ⟨fs, hr, hrun, hended, h1, h2, h3, h4⟩ := X.leaveW hS (by rw [eT]; exact hk) (v := some (.int (nar t z))) (fun h => by rw [hret] at h; cases h) hlk
  exact ⟨_, _, retN X hx hret ht hd hr, hrun, hended, _, _, rfl, hQ, hC, h1, h2, h3, h4.mono hck hn⟩
theorem own_retH (X : Stand p l e R (s.setVm vm) m args below meth c T locs cells slots) (hx : p.tables.exec = Jvm.exec) (hlk : meth.locks = false) (hS : s.Since vm k0) (hk : k0 ≤ h.size) (eT : T.heap = h) (hC : CHr Z EL s.vm s.heap T.vm T.heap) {pc : Nat} {Ls : Array Slot} {w : Value} {t : FieldType} {i : Instr} {rest : List Value} (hret : meth.sig.returnType = some t) (hnr : narrow t w = w)
    (hi : (i = .ireturn ∧ (t = .int ∨ t = .boolean ∨ t = .byte ∨ t = .char ∨ t = .short) ∧ ∃ z, w = .int z) ∨ (i = .lreturn ∧ t = .long ∧ ∃ z, w = .long z) ∨ (i = .dreturn ∧ t = .double ∧ ∃ z, w = .double z) ∨ (i = .freturn ∧ t = .float ∧ ∃ z, w = .float z) ∨ (i = .areturn ∧ t.isReference = true ∧ w.isRef = true))
    (hd : decode c.code pc = .ok (i, 1)) (hck : cells ≤ k) (hn : slots ≤ n) (hQ : Q (some w) T.heap locs) : own_EH p e below s Z EL Q k n T (mkF m pc Ls (w :: rest)) := by
  obtain ⟨fs, hr, hrun, hended, h1, h2, h3, h4⟩ := X.leaveW hS (by rw [eT]; exact hk) (v := some w) (fun h => by rw [hret] at h; cases h) hlk
  exact ⟨_, _, retOut X hx hret hnr hi hd hr, hrun, hended, _, _, rfl, hQ, hC, h1, h2, h3, h4.mono hck hn⟩
theorem own_retVH (X : Stand p l e R (s.setVm vm) m args below meth c T locs cells slots) (hx : p.tables.exec = Jvm.exec) (hlk : meth.locks = false) (hS : s.Since vm k0) (hk : k0 ≤ h.size) (eT : T.heap = h) (hC : CHr Z EL s.vm s.heap T.vm T.heap) {pc : Nat} {Ls : Array Slot} (hret : meth.sig.returnType = none)
    (hd : decode c.code pc = .ok (.return_, 1)) (hck : cells ≤ k) (hn : slots ≤ n) (hQ : Q none T.heap locs) : own_EH p e below s Z EL Q k n T (mkF m pc Ls []) := by
  obtain ⟨fs, hr, hrun, hended, h1, h2, h3, h4⟩ := X.leaveW hS (by rw [eT]; exact hk) (v := none) (fun _ => rfl) hlk
  exact ⟨_, _, X.returnOut hx hret hd hr, hrun, hended, _, _, rfl, hQ, hC, h1, h2, h3, h4.mono hck hn⟩
/-- a booked String's 'value' is a reference, so an object whose 'value' is null is none -/
theorem own_safe0 {x : Addr} (hal : Z.vm.Alike vm) (E : Exa Z h x "java/lang/String") (F : Fld Z h x "java/lang/String" "value" "[B" .null) : Safe Z EL vm h x := fun B => by
  obtain ⟨pp, -, u, a, -, q, -, G, hy⟩ := B
  obtain ⟨cS, ⟨⟨s1, s2, s3, ⟨cv, kv, iv, s4, s4'⟩, -, s6, -, s8, -, s10, -⟩, -, -⟩, -, hB, -⟩ := G
  have hB : vm.findClass "[B" = some q.SA.cls := hB
  rcases hy with rfl | rfl
  · obtain ⟨kv', z4⟩ := ff_back (U := Wst Z vm h) hal s4
    exact Fld.ne F (⟨q.sC, cv, kv', iv, q.fSV, s1, z4, s6, s2, s3, by rw [← hal.assignable]; exact s4', s8⟩ : Fld Z h q.sa "java/lang/String" "value" "[B" (.ref q.sd)) (fun z => nomatch z) rfl
  · obtain ⟨cell, kc, e1, e2, e3, -, -⟩ := E
    have s10 : h[q.sd]? = some q.SA := s10
    cases s10.symm.trans e1
    rw [hal.findClass] at hB
    obtain ⟨k1, q1, q2⟩ := Vm.findClass_spec hB
    obtain ⟨k2, q3, q4⟩ := Vm.findClass_spec e2
    cases q1.symm.trans q3
    exact absurd (q2.symm.trans q4) (by decide)
/-- no superclass chain from C through O to the class K that can be instantiated -/
theorem own_notSub {C O K : String} {n : Nat} (w : (Cond.superclass C O).before a0 Z = true) (wo : (Cond.noSuperclass O).before a0 Z = true) (wk : (Cond.instantiable K n).before a0 Z = true) (h1 : C ≠ K) (h2 : O ≠ K) : ∃ c t, Z.vm.findClass C = some c ∧ Z.vm.findClass K = some t ∧ Z.vm.assignable c t = false := by
  obtain ⟨t, kt, g1, g2, g3, g4, -⟩ := Cond.instantiable_spec wk
  obtain ⟨co, ko, o1, o2, o3, -⟩ := Cond.noSuperclass_spec wo
  obtain ⟨c, f0⟩ := found_sup w
  obtain ⟨q, k, kq, f1, f2, f3, f4, f5, f6, f7⟩ := Cond.superclass_spec f0 w
  cases f1.symm.trans o1
  have ne1 := ids_ne f0 g1 h1
  have ne2 := ids_ne o1 g1 h2
  have g5 : kt.isInterface = false := by revert g4; cases kt.isInterface <;> simp
  have sub : ∀ fuel, Z.vm.isSubclassAux fuel c t = false := fun fuel => by
    cases fuel with
    | zero => rfl
    | succ f => cases f with
      | zero => simp [Vm.isSubclassAux, ne1, f2, f4]
      | succ f => simp [Vm.isSubclassAux, ne1, ne2, f2, f4, o2, o3]
  refine ⟨c, t, f0, g1, ?_⟩
  show Z.vm.assignableAux (255 + 1) c t = false
  simp [Vm.assignableAux, ne1, f2, g2, f5, g3, g5, Vm.isSubclass, sub]
/-- the cells of h0 stand: writes above them are not seen -/
theorem own_extW {a : Addr} {sl : Nat} {v : Value} (E : Ext h0 h) (W : Wr h h' a sl v) (q : h0.size ≤ a) : Ext h0 h' := ⟨by rw [W.size]; exact E.1, fun x cl r => (Keep.of_wr W).2.1 x cl (E.2 x cl r) (fun z => by
  have := (Array.getElem?_eq_some_iff.mp r).1
  cases List.mem_singleton.mp z; omega)⟩
theorem own_extK {ws : List Addr} (E : Ext h0 h) (K : Keep h h' ws) (q : ∀ x ∈ ws, h0.size ≤ x) : Ext h0 h' := ⟨Nat.le_trans E.1 K.1, fun x cl r => K.2.1 x cl (E.2 x cl r) (fun z => by
  have := (Array.getElem?_eq_some_iff.mp r).1
  have := q x z; omega)⟩
theorem own_ext0 : Ext h h := ⟨Nat.le_refl _, fun _ _ q => q⟩
theorem own_extT (E : Ext h0 h) (E' : Ext h h') : Ext h0 h' := ⟨Nat.le_trans E.1 E'.1, fun x cl r => E'.2 x cl (E.2 x cl r)⟩
end OwnH
def own_EL : List (String × Nat) := [("java/lang/String", 7)]
theorem own_txt_0 : (∀ c ∈ "".toList, c.toNat < 256) ∧ "".toList.map (fun c => Value.int (Jvm.Lit.byteI c.toNat.toUInt16)) = [] := by first | exact ⟨by simp, by simp⟩ | exact ⟨by decide +kernel, by decide +kernel⟩
theorem own_siz_0 : 4 * "".toList.length ≤ 0 := by first | decide +kernel | simp
theorem own_siz_f : 4 * "file".toList.length ≤ 16 := by first | decide +kernel | simp
theorem own_hEL {Z : State} {a0 : Array Value} (hw : ∀ d ∈ tables_1, d.before a0 Z = true) : EW Z a0 own_EL := EW.cons (hw _ (List.mem_of_getElem? (i := 21) rfl)) own_txt_0.1 EW.nil
theorem own_wS {Z : State} {a0 : Array Value} (hw : ∀ d ∈ tables_1, d.before a0 Z = true) : ∀ d ∈ Bundle.stringAtoms, d.before a0 Z = true := fun d hd => hw d ((by decide +kernel : ∀ d ∈ Bundle.stringAtoms, d ∈ tables_1) d hd)
theorem own_ws {Z : State} {a0 : Array Value} (hw : ∀ d ∈ tables_1, d.before a0 Z = true) : ∀ d ∈ StrChars.Road.words, d.before a0 Z = true := fun d hd => hw d ((by decide +kernel : ∀ d ∈ StrChars.Road.words, d ∈ tables_1) d hd)
theorem own_wq {Z : State} {a0 : Array Value} (hw : ∀ d ∈ tables_1, d.before a0 Z = true) : ∀ d ∈ StrChars.Road.wordsEq, d.before a0 Z = true := fun d hd => hw d ((by decide +kernel : ∀ d ∈ StrChars.Road.wordsEq, d ∈ tables_1) d hd)
/-- a String of the chars cs, coder 0 -/
def own_Tx (Z : State) (h : Heap) (x : Addr) (cs : List Int32) : Prop := ∃ (t : Addr) (kb : ClassId), Exa Z h x "java/lang/String" ∧ Fld Z h x "java/lang/String" "value" "[B" (.ref t) ∧ Fld Z h x "java/lang/String" "coder" "B" (.int 0) ∧ Arv Z h t kb .byte (Int32.ofNat cs.length) ((cs.map fun c => c.toInt8.toInt32).map Value.int) (.int 0)
theorem own_Tx.ext {Z : State} {h h' : Heap} {x : Addr} {cs : List Int32} (F : own_Tx Z h x cs) (E : Ext h h') : own_Tx Z h' x cs := by
  obtain ⟨t, kb, q1, q2, q3, q4⟩ := F
  exact ⟨t, kb, q1.ext E, q2.ext E, q3.ext E, q4.ext E⟩
theorem own_Tx.exa {Z : State} {h : Heap} {x : Addr} {cs : List Int32} (F : own_Tx Z h x cs) : Exa Z h x "java/lang/String" := by obtain ⟨t, kb, q, -⟩ := F; exact q
def own_C (x : Int32) : Prop := ¬ x < 0 ∧ ¬ (255 : Int32) < x
theorem own_narC {x : Int32} (h : own_C x) : nar .char x = x := by
  have q := c_i2c x
  have h1 := h.1; have h2 := h.2
  rw [Int32.lt_iff_toInt_lt] at h1 h2
  have e0 : (0 : Int32).toInt = 0 := by decide
  have e1 : (255 : Int32).toInt = 255 := by decide
  apply Int32.toInt_inj.mp
  show (x.toUInt32.toUInt16.toUInt32.toInt32).toInt = x.toInt
  omega
theorem own_and (x : Int32) : own_C (x &&& (255 : Int32)) := by
  have q := c_and x 255 (by decide)
  have e0 : (0 : Int32).toInt = 0 := by decide
  have e1 : (255 : Int32).toInt = 255 := by decide
  refine ⟨?_, ?_⟩ <;> rw [Int32.lt_iff_toInt_lt] <;> omega
theorem own_chr (x : Int32) : ∃ v, nar .char (x &&& (255 : Int32)) = v ∧ own_C v := ⟨_, own_narC (own_and x), own_and x⟩
def own_n (x : Int32) : Prop := x = 0 ∨ x = 1 ∨ x = 2
def own_ln (x : Int32) : Int32 := if x = 3 then 2 else x
theorem own_len (x : Int32) : ∃ v, own_ln (x &&& (3 : Int32)) = v ∧ own_n v := by
  refine ⟨_, rfl, ?_⟩
  have q := c_and x 3 (by decide)
  have e3 : (3 : Int32).toInt = 3 := by decide
  unfold own_ln own_n
  split
  · exact Or.inr (Or.inr rfl)
  · rename_i hne
    have h3 : (x &&& 3).toInt ≠ 3 := fun r => hne (Int32.toInt_inj.mp (by rw [e3]; exact r))
    have : (x &&& 3).toInt = 0 ∨ (x &&& 3).toInt = 1 ∨ (x &&& 3).toInt = 2 := by omega
    rcases this with r | r | r
    · exact Or.inl (Int32.toInt_inj.mp (by rw [r]; decide))
    · exact Or.inr (Or.inl (Int32.toInt_inj.mp (by rw [r]; decide)))
    · exact Or.inr (Or.inr (Int32.toInt_inj.mp (by rw [r]; decide)))
def own_cs (n x y : Int32) : List Int32 := if n = 0 then [] else if n = 1 then [x] else [x, y]
theorem own_cs_C {n x y : Int32} (hx : own_C x) (hy : own_C y) : ∀ c ∈ own_cs n x y, ¬ c < 0 ∧ ¬ (255 : Int32) < c := fun c hc => by
  unfold own_cs at hc
  split at hc
  · cases hc
  · split at hc
    · cases List.mem_singleton.mp hc; exact hx
    · rcases List.mem_cons.mp hc with rfl | hc
      · exact hx
      · cases List.mem_singleton.mp hc; exact hy
theorem own_cs_ll (n a b : Int32) : (own_cs n a b).length = if n = 0 then 0 else if n = 1 then 1 else 2 := by
  unfold own_cs
  split
  · rfl
  · split <;> rfl
theorem own_cs_len (n x y : Int32) : (own_cs n x y).length ≤ 4000 := by
  rw [own_cs_ll]
  split
  · decide
  · split <;> decide
theorem own_hi {cs : List Int32} (h : ∀ c ∈ cs, ¬ c < 0 ∧ ¬ (255 : Int32) < c) : ∀ c ∈ cs, ¬ c < 0 ∧ ¬ (65535 : Int32) < c := fun c hc => by
  have q := h c hc
  refine ⟨q.1, fun r => q.2 ?_⟩
  rw [Int32.lt_iff_toInt_lt] at r ⊢
  have e1 : (65535 : Int32).toInt = 65535 := by decide
  have e2 : (255 : Int32).toInt = 255 := by decide
  omega
theorem own_arv {Z : State} {h : Heap} {a : Addr} {n : Nat} {f : Nat → Int32} (F : own_Ar Z h a .char n f) (hn : n ≤ 2) (hf : ∀ i, i < n → own_C (f i)) : ∃ k, Arv Z h a k .char (Int32.ofNat n) (((List.range n).map f).map Value.int) (.int 0) := by
  obtain ⟨cl, A, S, H⟩ := F
  have e : ∀ i, i < n → (((List.range n).map f).map Value.int).getD i (.int 0) = .int (f i) := fun i hi => by simp [List.getD_eq_getElem?_getD, hi]
  have hs : (Int32.ofNat n).toNatClampNeg = n ∧ ¬ (Int32.ofNat n) < 0 := by
    have : n = 0 ∨ n = 1 ∨ n = 2 := by omega
    rcases this with rfl | rfl | rfl <;> decide
  refine ⟨cl.cls, cl, A, rfl, by rw [S]; exact hs.1.symm, hs.2, fun k hk => by rw [H k (by omega), e k (by omega)], fun i hi => ?_⟩
  rw [e i (by omega)]
  have q := hf i (by omega)
  simp only [fits, Bool.and_eq_true, decide_eq_true_eq]
  refine ⟨Int32.not_lt.mp q.1, ?_⟩
  have q2 := q.2
  rw [Int32.lt_iff_toInt_lt] at q2
  rw [Int32.le_iff_toInt_le]
  have e1 : (65535 : Int32).toInt = 65535 := by decide
  have e2 : (255 : Int32).toInt = 255 := by decide
  omega
theorem own_Ar.safe {Z : State} {EL : List (String × Nat)} {vm : Vm} {h : Heap} {a : Addr} {N : Nat} {f : Nat → Int32} (hal : Z.vm.Alike vm) (F : own_Ar Z h a .char N f) : Safe Z EL vm h a := by obtain ⟨cl, A, -⟩ := F; exact Safe.arr hal A (by decide)
def QI (r : Int32) (h0 : Heap) (n0 : Nat) (v : Option Value) (h : Heap) (L : List Loc) : Prop := v = some (.int r) ∧ Fr n0 L ∧ h = h0
def QR (r : Addr) (h0 : Heap) (n0 : Nat) (v : Option Value) (h : Heap) (L : List Loc) : Prop := v = some (.ref r) ∧ Fr n0 L ∧ h = h0
def QS (Z : State) (o : Addr) (cs : List Int32) (h0 : Heap) (n0 : Nat) (v : Option Value) (h : Heap) (L : List Loc) : Prop := v = none ∧ Fr n0 L ∧ Keep h0 h [o] ∧ own_Tx Z h o cs
def QM (Z : State) (cs : List Int32) (h0 : Heap) (n0 : Nat) (v : Option Value) (h : Heap) (L : List Loc) : Prop := ∃ o, v = some (.ref o) ∧ Fr n0 L ∧ Ext h0 h ∧ own_Tx Z h o cs
/-- a position -/
def own_Po (Z : State) (h : Heap) (o x : Addr) (l c : Int32) : Prop := Exa Z h o "com/example/exhaust/exhaust/frontend/source/SourcePosition" ∧ Fld Z h o "com/example/exhaust/exhaust/frontend/source/SourcePosition" "file" "Ljava/lang/String;" (.ref x) ∧ Fld Z h o "com/example/exhaust/exhaust/frontend/source/SourcePosition" "line" "I" (.int l) ∧ Fld Z h o "com/example/exhaust/exhaust/frontend/source/SourcePosition" "column" "I" (.int c)
theorem own_Po.ext {Z : State} {h h' : Heap} {o x : Addr} {l c : Int32} (F : own_Po Z h o x l c) (E : Ext h h') : own_Po Z h' o x l c := ⟨F.1.ext E, F.2.1.ext E, F.2.2.1.ext E, F.2.2.2.ext E⟩
def QP (Z : State) (o x : Addr) (l c : Int32) (h0 : Heap) (n0 : Nat) (v : Option Value) (h : Heap) (L : List Loc) : Prop := v = none ∧ Fr n0 L ∧ Keep h0 h [o] ∧ own_Po Z h o x l c
theorem d1_0 : decode jdk_42_method_149_code 0 = .ok (.aload_n 0, 1) := by decide +kernel
theorem d1_1 : decode jdk_42_method_149_code 1 = .ok (.invokespecial 1, 3) := by decide +kernel
theorem d1_4 : decode jdk_42_method_149_code 4 = .ok (.iload_n 3, 1) := by decide +kernel
theorem d1_5 : decode jdk_42_method_149_code 5 = .ok (.ifCond .ne 22, 3) := by decide +kernel
theorem d1_8 : decode jdk_42_method_149_code 8 = .ok (.aload_n 0, 1) := by decide +kernel
theorem d1_9 : decode jdk_42_method_149_code 9 = .ok (.ldc 7, 2) := by decide +kernel
theorem d1_11 : decode jdk_42_method_149_code 11 = .ok (.getfield 9, 3) := by decide +kernel
theorem d1_14 : decode jdk_42_method_149_code 14 = .ok (.putfield 9, 3) := by decide +kernel
theorem d1_17 : decode jdk_42_method_149_code 17 = .ok (.aload_n 0, 1) := by decide +kernel
theorem d1_18 : decode jdk_42_method_149_code 18 = .ok (.ldc 7, 2) := by decide +kernel
theorem d1_20 : decode jdk_42_method_149_code 20 = .ok (.getfield 15, 3) := by decide +kernel
theorem d1_23 : decode jdk_42_method_149_code 23 = .ok (.putfield 15, 3) := by decide +kernel
theorem d1_26 : decode jdk_42_method_149_code 26 = .ok (.return_, 1) := by decide +kernel
theorem d1_27 : decode jdk_42_method_149_code 27 = .ok (.getstatic 38, 3) := by decide +kernel
theorem d1_30 : decode jdk_42_method_149_code 30 = .ok (.ifCond .eq 28, 3) := by decide +kernel
theorem d1_33 : decode jdk_42_method_149_code 33 = .ok (.aload_n 1, 1) := by decide +kernel
theorem d1_34 : decode jdk_42_method_149_code 34 = .ok (.iload_n 2, 1) := by decide +kernel
theorem d1_35 : decode jdk_42_method_149_code 35 = .ok (.iload_n 3, 1) := by decide +kernel
theorem d1_36 : decode jdk_42_method_149_code 36 = .ok (.invokestatic 177, 3) := by decide +kernel
theorem d1_39 : decode jdk_42_method_149_code 39 = .ok (.astore 5, 2) := by decide +kernel
theorem d1_41 : decode jdk_42_method_149_code 41 = .ok (.aload_n 0, 1) := by decide +kernel
theorem d1_42 : decode jdk_42_method_149_code 42 = .ok (.aload 5, 2) := by decide +kernel
theorem d1_44 : decode jdk_42_method_149_code 44 = .ok (.iload_n 3, 1) := by decide +kernel
theorem d1_45 : decode jdk_42_method_149_code 45 = .ok (.invokestatic 47, 3) := by decide +kernel
theorem d1_48 : decode jdk_42_method_149_code 48 = .ok (.putfield 15, 3) := by decide +kernel
theorem d1_51 : decode jdk_42_method_149_code 51 = .ok (.aload_n 0, 1) := by decide +kernel
theorem d1_52 : decode jdk_42_method_149_code 52 = .ok (.aload 5, 2) := by decide +kernel
theorem d1_54 : decode jdk_42_method_149_code 54 = .ok (.putfield 9, 3) := by decide +kernel
theorem d1_57 : decode jdk_42_method_149_code 57 = .ok (.return_, 1) := by decide +kernel
theorem d1_58 : decode jdk_42_method_149_code 58 = .ok (.aload_n 0, 1) := by decide +kernel
theorem d1_59 : decode jdk_42_method_149_code 59 = .ok (.iconst 1, 1) := by decide +kernel
theorem d1_60 : decode jdk_42_method_149_code 60 = .ok (.putfield 15, 3) := by decide +kernel
theorem d1_63 : decode jdk_42_method_149_code 63 = .ok (.aload_n 0, 1) := by decide +kernel
theorem d1_64 : decode jdk_42_method_149_code 64 = .ok (.aload_n 1, 1) := by decide +kernel
theorem d1_65 : decode jdk_42_method_149_code 65 = .ok (.iload_n 2, 1) := by decide +kernel
theorem d1_66 : decode jdk_42_method_149_code 66 = .ok (.iload_n 3, 1) := by decide +kernel
theorem d1_67 : decode jdk_42_method_149_code 67 = .ok (.invokestatic 180, 3) := by decide +kernel
theorem d1_70 : decode jdk_42_method_149_code 70 = .ok (.putfield 9, 3) := by decide +kernel
theorem d1_73 : decode jdk_42_method_149_code 73 = .ok (.return_, 1) := by decide +kernel
theorem pn_1 : plainName "java/lang/String" = true := by first | (simp [plainName, overriddenIn]; done) | decide +kernel
theorem ef_1 (m : MethodId) (x0 : Addr) (x1 : Addr) (x2 : Int32) (x3 : Int32) : entryFrame m #[(.ref x0), (.ref x1), (.int x2), (.int x3), .null] 6 = mkF m 0 #[.val (.ref x0), .val (.ref x1), .val (.int x2), .val (.int x3), .val .null, .unset] [] := by first | (simp [entryFrame, mkF, argsToLocals, Value.category]; done) | rfl
theorem pd_1 : parseMethodDescriptor "([CIILjava/lang/Void;)V" = some ⟨[.array .char, .int, .int, .object "java/lang/Void"], none⟩ := by decide +kernel
set_option maxRecDepth 65536 in
set_option maxHeartbeats 40000000 in
theorem rm1 (l : Launch) (Z : State) (a0 : Array Value) (hw : ∀ d ∈ tables_1, d.before a0 Z = true) (ws : List Jvm.Cond) (o b : Addr) (h0 : Heap) (n0 : Nat) (Z0 : n0 ≤ h0.size) (go : n0 ≤ o) (E0 : Exa Z h0 o "java/lang/String") (Fv0 : Fld Z h0 o "java/lang/String" "value" "[B" .null) (Fc0 : Fld Z h0 o "java/lang/String" "coder" "B" (.int 0)) :
    MetFree l (⟨"java/lang/String", "<init>", "([CIILjava/lang/Void;)V"⟩ : MethodName) (head1 (Jvm.Cond.code (⟨"java/lang/String", "<init>", "([CIILjava/lang/Void;)V"⟩ : MethodName) jdk_42_method_149_code 6 none :: ws) ({ frames := 1, cells := 4, slots := 8, locals := 12 } : Room)) (fun a9 U9 => a9 = #[(.ref o), (.ref b), (.int (0 : Int32)), (.int (0 : Int32)), .null] ∧ Z.Warmed39 U9.vm ∧ U9.heap = h0 ∧ CHv Z own_EL U9.vm h0) (fun _ _ _ _ _ => True) (fun _ U9 o9 V9 => ∃ v9 L9, o9 = .returned v9 ∧ QS Z o [] h0 n0 v9 V9.heap L9 ∧ CHr Z own_EL U9.vm U9.heap V9.vm V9.heap ∧ ReturnedEndW U9 o9 V9 L9 ({ frames := 1, cells := 4, slots := 8, locals := 12 } : Room).cells ({ frames := 1, cells := 4, slots := 8, locals := 12 } : Room).slots) := by
  refine MetFree.of_bodySF (plainFor_of_name pn_1) hisR ?_
  intro p e s m args below meth c s₁ Bd hml0 hP hK
  obtain ⟨rfl, hZ0, hh, CV⟩ := hP
  have hZ : Z.Warmed39 (s.setVm s.vm).vm := hZ0
  have hx := Bd.exec
  have hby := Bd.bytes
  have hlk := Bd.notSynchronized
  have hml : c.maxLocals = 6 := hml0
  have hown : (s.setVm s.vm).vm.findClass "java/lang/String" = some m.cls := findClass_of_methodNamed Bd.named
  have hnm := (name_of_methodNamed Bd.named Bd.method).1
  have X0 : Stand p l e ({ frames := 1, cells := 4, slots := 8, locals := 12 } : Room) (s.setVm s.vm) m #[(.ref o), (.ref b), (.int (0 : Int32)), (.int (0 : Int32)), .null] below meth c s₁ [] 0 0 := Stand.of_body Bd
  have e0 : s₁.heap = h0 := by rw [← hh, Bd.state]; rfl
  have N0 := Fr.nil n0
  have hS := (State.WarmedH.refl s).since h0.size
  have hk := Nat.le_refl h0.size
  have CR : CHr Z own_EL s.vm h0 s.vm h0 := CHr.refl CV
  show own_EH p e below s Z own_EL (QS Z o [] h0 n0) _ _ s₁ (entryFrame m #[(.ref o), (.ref b), (.int (0 : Int32)), (.int (0 : Int32)), .null] 6)
  rw [ef_1]
  show own_EH _ _ _ _ _ _ _ _ _ s₁ (mkF m 0 #[.val (.ref o), .val (.ref b), .val (.int (0 : Int32)), .val (.int (0 : Int32)), .val .null, .unset] [])
  refine own_viaH (fun t => XS.aloadN X0.here hx rfl (hb hby d1_0) rfl rfl) ?_
  show own_EH _ _ _ _ _ _ _ _ _ s₁ (mkF m 1 #[.val (.ref o), .val (.ref b), .val (.int (0 : Int32)), .val (.int (0 : Int32)), .val .null, .unset] [(.ref o)])
  obtain ⟨T1, X1, e1, st1⟩ := initO X0 hx hZ hown (hw _ (List.mem_of_getElem? (i := 18) rfl)) (hw _ (List.mem_of_getElem? (i := 19) rfl)) (hw _ (List.mem_of_getElem? (i := 20) rfl)) e0 (g := (mkF m 1 #[.val (.ref o), .val (.ref b), .val (.int (0 : Int32)), .val (.int (0 : Int32)), .val .null, .unset] [(.ref o)])) rfl (by rw [hml]; rfl) rfl (hb hby d1_1) (by decide) (W := 0) (by show 2 * 0 + _ ≤ _; exact Nat.le_of_eq rfl) (by decide)
  refine own_viaH st1 ?_
  show own_EH _ _ _ _ _ _ _ _ _ T1 (mkF m 4 #[.val (.ref o), .val (.ref b), .val (.int (0 : Int32)), .val (.int (0 : Int32)), .val .null, .unset] [])
  refine own_viaH (fun t => XS.iloadN X1.here hx rfl (hb hby d1_4) rfl) ?_
  show own_EH _ _ _ _ _ _ _ _ _ T1 (mkF m 5 #[.val (.ref o), .val (.ref b), .val (.int (0 : Int32)), .val (.int (0 : Int32)), .val .null, .unset] [(.int (0 : Int32))])
  refine own_viaH (fun t => XS.ifNo X1.here hx rfl (hb hby d1_5) rfl ((if0 _ _).trans (teq (by decide : (0 : Int32) = (0 : Int32))).2)) ?_
  show own_EH _ _ _ _ _ _ _ _ _ T1 (mkF m 8 #[.val (.ref o), .val (.ref b), .val (.int (0 : Int32)), .val (.int (0 : Int32)), .val .null, .unset] [])
  refine own_viaH (fun t => XS.aloadN X1.here hx rfl (hb hby d1_8) rfl rfl) ?_
  show own_EH _ _ _ _ _ _ _ _ _ T1 (mkF m 9 #[.val (.ref o), .val (.ref b), .val (.int (0 : Int32)), .val (.int (0 : Int32)), .val .null, .unset] [(.ref o)])
  obtain ⟨a2, T2, h2, kk2, b2, kb2, X2, e2, E2, hS, hk, hZ, hown, Ex2, Fc2, Fv2, Av2, -, -, C2, -, ne2, st2⟩ := ldcCH (vs := []) (z := 0) X1 hx hZ hown (hw _ (List.mem_of_getElem? (i := 21) rfl)) (own_wS hw) e1 hS hk (own_hEL hw) (List.mem_of_getElem? (i := 0) rfl) CR.1 own_txt_0 (by decide) rfl (g := (mkF m 9 #[.val (.ref o), .val (.ref b), .val (.int (0 : Int32)), .val (.int (0 : Int32)), .val .null, .unset] [(.ref o)])) rfl (hb hby d1_9) (n := 0) own_siz_0 (by decide) (by decide) (by decide)
  have CR := CR.trans C2
  have Z2 : n0 ≤ h2.size := Nat.le_trans Z0 E2.1
  refine own_viaH st2 ?_
  show own_EH _ _ _ _ _ _ _ _ _ T2 (mkF m 11 #[.val (.ref o), .val (.ref b), .val (.int (0 : Int32)), .val (.int (0 : Int32)), .val .null, .unset] [(.ref a2), (.ref o)])
  have S1 : Safe Z own_EL _ h2 o := own_safe0 hZ.alike (E0.ext E2) (Fv0.ext E2)
  obtain ⟨T3, X3, e3, st3⟩ := getF X2 hx hZ hown (host := "") (Or.inl (hw _ (List.mem_of_getElem? (i := 27) rfl))) Via.refl e2 Fv2 (g := (mkF m 11 #[.val (.ref o), .val (.ref b), .val (.int (0 : Int32)), .val (.int (0 : Int32)), .val .null, .unset] [(.ref a2), (.ref o)])) rfl rfl (hb hby d1_11)
  refine own_viaH st3 ?_
  show own_EH _ _ _ _ _ _ _ _ _ T3 (mkF m 14 #[.val (.ref o), .val (.ref b), .val (.int (0 : Int32)), .val (.int (0 : Int32)), .val .null, .unset] [(.ref b2), (.ref o)])
  obtain ⟨T4, h4, X4, e4, W4, st4⟩ := putF X3 hx hZ hown (host := "") (Or.inl (hw _ (List.mem_of_getElem? (i := 27) rfl))) Via.refl e3 (Fv0.ext E2) (E0.ext E2) (Or.inr ⟨(hw _ (List.mem_of_getElem? (i := 23) rfl)), rfl, hnm⟩) (hw _ (List.mem_of_getElem? (i := 8) rfl)) (ty := .array .byte) (by decide) rfl rfl (g := (mkF m 14 #[.val (.ref o), .val (.ref b), .val (.int (0 : Int32)), .val (.int (0 : Int32)), .val .null, .unset] [(.ref b2), (.ref o)])) rfl rfl (hb hby d1_14)
  have N4 := Fr.snoc X4 N0 go
  refine own_viaH st4 ?_
  show own_EH _ _ _ _ _ _ _ _ _ T4 (mkF m 17 #[.val (.ref o), .val (.ref b), .val (.int (0 : Int32)), .val (.int (0 : Int32)), .val .null, .unset] [])
  have Z4 := Nat.le_trans Z2 (Nat.le_of_eq W4.size.symm)
  have hk := Nat.le_trans hk (Nat.le_of_eq W4.size.symm)
  have SW4 : Safe Z own_EL _ _ _ := S1
  have CR0 := CR.1
  have CR := CR.trans (CHr.wr W4 SW4 CR.1)
  have S2 := Safe.wr W4 S1 CR0 S1
  have Fv1 := (Fv0.ext E2).same W4
  have Fc1 := (Fc0.ext E2).other W4 (Or.inr (slot_ne (Or.inr (hw _ (List.mem_of_getElem? (i := 24) rfl))) (Or.inr (hw _ (List.mem_of_getElem? (i := 23) rfl))) (by decide) (t := .byte) (t' := (.array .byte)) (by decide) (by decide)))
  have E1 := (E0.ext E2).wr W4
  have A1 := Av2.other W4 (Ne.symm (ne2 o S1).2)
  have K1 : Keep h0 h4 [o] := ((Keep.refl h0 [o]).ext E2).wr W4 (Or.inl (List.mem_of_getElem? (i := 0) rfl))
  refine own_viaH (fun t => XS.aloadN X4.here hx rfl (hb hby d1_17) rfl rfl) ?_
  show own_EH _ _ _ _ _ _ _ _ _ T4 (mkF m 18 #[.val (.ref o), .val (.ref b), .val (.int (0 : Int32)), .val (.int (0 : Int32)), .val .null, .unset] [(.ref o)])
  obtain ⟨a5, T5, h5, kk5, b5, kb5, X5, e5, E5, hS, hk, hZ, hown, Ex5, Fc5, Fv5, Av5, -, -, C5, -, ne5, st5⟩ := ldcCH (vs := []) (z := 0) X4 hx hZ hown (hw _ (List.mem_of_getElem? (i := 21) rfl)) (own_wS hw) e4 hS hk (own_hEL hw) (List.mem_of_getElem? (i := 0) rfl) CR.1 own_txt_0 (by decide) rfl (g := (mkF m 18 #[.val (.ref o), .val (.ref b), .val (.int (0 : Int32)), .val (.int (0 : Int32)), .val .null, .unset] [(.ref o)])) rfl (hb hby d1_18) (n := 0) own_siz_0 (by decide) (by decide) (by decide)
  have CR := CR.trans C5
  have Z5 : n0 ≤ h5.size := Nat.le_trans Z4 E5.1
  refine own_viaH st5 ?_
  show own_EH _ _ _ _ _ _ _ _ _ T5 (mkF m 20 #[.val (.ref o), .val (.ref b), .val (.int (0 : Int32)), .val (.int (0 : Int32)), .val .null, .unset] [(.ref a5), (.ref o)])
  have S3 := C5.safe E1.lt S2
  obtain ⟨T6, X6, e6, st6⟩ := getF X5 hx hZ hown (host := "") (Or.inl (hw _ (List.mem_of_getElem? (i := 28) rfl))) Via.refl e5 Fc5 (g := (mkF m 20 #[.val (.ref o), .val (.ref b), .val (.int (0 : Int32)), .val (.int (0 : Int32)), .val .null, .unset] [(.ref a5), (.ref o)])) rfl rfl (hb hby d1_20)
  refine own_viaH st6 ?_
  show own_EH _ _ _ _ _ _ _ _ _ T6 (mkF m 23 #[.val (.ref o), .val (.ref b), .val (.int (0 : Int32)), .val (.int (0 : Int32)), .val .null, .unset] [(.int (0 : Int32)), (.ref o)])
  obtain ⟨T7, h7, X7, e7, W7, st7⟩ := putF X6 hx hZ hown (host := "") (Or.inl (hw _ (List.mem_of_getElem? (i := 28) rfl))) Via.refl e6 (Fc1.ext E5) (E1.ext E5) (Or.inr ⟨(hw _ (List.mem_of_getElem? (i := 24) rfl)), rfl, hnm⟩) (hw _ (List.mem_of_getElem? (i := 8) rfl)) (ty := .byte) (by decide) rfl rfl (g := (mkF m 23 #[.val (.ref o), .val (.ref b), .val (.int (0 : Int32)), .val (.int (0 : Int32)), .val .null, .unset] [(.int (0 : Int32)), (.ref o)])) rfl rfl (hb hby d1_23)
  have N7 := Fr.snoc X7 N4 go
  refine own_viaH st7 ?_
  show own_EH _ _ _ _ _ _ _ _ _ T7 (mkF m 26 #[.val (.ref o), .val (.ref b), .val (.int (0 : Int32)), .val (.int (0 : Int32)), .val .null, .unset] [])
  have Z7 := Nat.le_trans Z5 (Nat.le_of_eq W7.size.symm)
  have hk := Nat.le_trans hk (Nat.le_of_eq W7.size.symm)
  have SW7 : Safe Z own_EL _ _ _ := S3
  have CR0 := CR.1
  have CR := CR.trans (CHr.wr W7 SW7 CR.1)
  refine own_retVH X7 hx hlk hS hk e7 (own_endC X7 e7 hh hZ (own_hEL hw) CR) Bd.returns (hb hby d1_26) (by decide) (by decide) ?_
  rw [e7]
  exact ⟨rfl, N7, (K1.ext E5).wr W7 (Or.inl (List.mem_of_getElem? (i := 0) rfl)), b2, kb2, (E1.ext E5).wr W7, (Fv1.ext E5).other W7 (Or.inr (slot_ne (Or.inr (hw _ (List.mem_of_getElem? (i := 23) rfl))) (Or.inr (hw _ (List.mem_of_getElem? (i := 24) rfl))) (by decide) (t := (.array .byte)) (t' := .byte) (by decide) (by decide))), (Fc1.ext E5).same W7, (A1.ext E5).other W7 (Ne.symm (ne2 o S1).2)⟩
theorem d2_0 : decode jdk_42_method_3_code 0 = .ok (.aload_n 0, 1) := by decide +kernel
theorem d2_1 : decode jdk_42_method_3_code 1 = .ok (.aload_n 1, 1) := by decide +kernel
theorem d2_2 : decode jdk_42_method_3_code 2 = .ok (.iconst 0, 1) := by decide +kernel
theorem d2_3 : decode jdk_42_method_3_code 3 = .ok (.aload_n 1, 1) := by decide +kernel
theorem d2_4 : decode jdk_42_method_3_code 4 = .ok (.arraylength, 1) := by decide +kernel
theorem d2_5 : decode jdk_42_method_3_code 5 = .ok (.aconst_null, 1) := by decide +kernel
theorem d2_6 : decode jdk_42_method_3_code 6 = .ok (.invokespecial 27, 3) := by decide +kernel
theorem d2_9 : decode jdk_42_method_3_code 9 = .ok (.return_, 1) := by decide +kernel
theorem pn_2 : plainName "java/lang/String" = true := by first | (simp [plainName, overriddenIn]; done) | decide +kernel
theorem ef_2 (m : MethodId) (x0 : Addr) (x1 : Addr) : entryFrame m #[(.ref x0), (.ref x1)] 2 = mkF m 0 #[.val (.ref x0), .val (.ref x1)] [] := by first | (simp [entryFrame, mkF, argsToLocals, Value.category]; done) | rfl
theorem pd_2 : parseMethodDescriptor "([C)V" = some ⟨[.array .char], none⟩ := by decide +kernel
set_option maxRecDepth 65536 in
set_option maxHeartbeats 40000000 in
theorem rm2 (l : Launch) (Z : State) (a0 : Array Value) (hw : ∀ d ∈ tables_1, d.before a0 Z = true) (ws : List Jvm.Cond) (o b : Addr) (f : Nat → Int32) (h0 : Heap) (n0 : Nat) (Z0 : n0 ≤ h0.size) (go : n0 ≤ o) (E0 : Exa Z h0 o "java/lang/String") (Fv0 : Fld Z h0 o "java/lang/String" "value" "[B" .null) (Fc0 : Fld Z h0 o "java/lang/String" "coder" "B" (.int 0)) (V0 : own_Ar Z h0 b .char 0 f) :
    MetFree l (⟨"java/lang/String", "<init>", "([C)V"⟩ : MethodName) (head1 (Jvm.Cond.code (⟨"java/lang/String", "<init>", "([C)V"⟩ : MethodName) jdk_42_method_3_code 2 none :: ws) ({ frames := 2, cells := 4, slots := 8, locals := 29 } : Room)) (fun a9 U9 => a9 = #[(.ref o), (.ref b)] ∧ Z.Warmed39 U9.vm ∧ U9.heap = h0 ∧ CHv Z own_EL U9.vm h0) (fun _ _ _ _ _ => True) (fun _ U9 o9 V9 => ∃ v9 L9, o9 = .returned v9 ∧ QS Z o [] h0 n0 v9 V9.heap L9 ∧ CHr Z own_EL U9.vm U9.heap V9.vm V9.heap ∧ ReturnedEndW U9 o9 V9 L9 ({ frames := 2, cells := 4, slots := 8, locals := 29 } : Room).cells ({ frames := 2, cells := 4, slots := 8, locals := 29 } : Room).slots) := by
  refine MetFree.of_bodySF (plainFor_of_name pn_2) hisR ?_
  intro p e s m args below meth c s₁ Bd hml0 hP hK
  obtain ⟨rfl, hZ0, hh, CV⟩ := hP
  have hZ : Z.Warmed39 (s.setVm s.vm).vm := hZ0
  have hx := Bd.exec
  have hby := Bd.bytes
  have hlk := Bd.notSynchronized
  have hml : c.maxLocals = 2 := hml0
  have hown : (s.setVm s.vm).vm.findClass "java/lang/String" = some m.cls := findClass_of_methodNamed Bd.named
  have hnm := (name_of_methodNamed Bd.named Bd.method).1
  have X0 : Stand p l e ({ frames := 2, cells := 4, slots := 8, locals := 29 } : Room) (s.setVm s.vm) m #[(.ref o), (.ref b)] below meth c s₁ [] 0 0 := Stand.of_body Bd
  have e0 : s₁.heap = h0 := by rw [← hh, Bd.state]; rfl
  have N0 := Fr.nil n0
  have hS := (State.WarmedH.refl s).since h0.size
  have hk := Nat.le_refl h0.size
  have CR : CHr Z own_EL s.vm h0 s.vm h0 := CHr.refl CV
  show own_EH p e below s Z own_EL (QS Z o [] h0 n0) _ _ s₁ (entryFrame m #[(.ref o), (.ref b)] 2)
  rw [ef_2]
  show own_EH _ _ _ _ _ _ _ _ _ s₁ (mkF m 0 #[.val (.ref o), .val (.ref b)] [])
  refine own_viaH (fun t => XS.aloadN X0.here hx rfl (hb hby d2_0) rfl rfl) ?_
  show own_EH _ _ _ _ _ _ _ _ _ s₁ (mkF m 1 #[.val (.ref o), .val (.ref b)] [(.ref o)])
  refine own_viaH (fun t => XS.aloadN X0.here hx rfl (hb hby d2_1) rfl rfl) ?_
  show own_EH _ _ _ _ _ _ _ _ _ s₁ (mkF m 2 #[.val (.ref o), .val (.ref b)] [(.ref b), (.ref o)])
  refine own_viaH (fun t => XS.iconst X0.here hx rfl (hb hby d2_2)) ?_
  show own_EH _ _ _ _ _ _ _ _ _ s₁ (mkF m 3 #[.val (.ref o), .val (.ref b)] [(.int (0 : Int32)), (.ref b), (.ref o)])
  refine own_viaH (fun t => XS.aloadN X0.here hx rfl (hb hby d2_3) rfl rfl) ?_
  show own_EH _ _ _ _ _ _ _ _ _ s₁ (mkF m 4 #[.val (.ref o), .val (.ref b)] [(.ref b), (.int (0 : Int32)), (.ref b), (.ref o)])
  refine own_viaH (own_alen X0 hx hZ e0 V0 (g := (mkF m 4 #[.val (.ref o), .val (.ref b)] [(.ref b), (.int (0 : Int32)), (.ref b), (.ref o)])) rfl rfl (hb hby d2_4)) ?_
  show own_EH _ _ _ _ _ _ _ _ _ s₁ (mkF m 5 #[.val (.ref o), .val (.ref b)] [(.int (0 : Int32)), (.int (0 : Int32)), (.ref b), (.ref o)])
  refine own_viaH (fun t => XS.aconstNull X0.here hx rfl (hb hby d2_5)) ?_
  show own_EH _ _ _ _ _ _ _ _ _ s₁ (mkF m 6 #[.val (.ref o), .val (.ref b)] [.null, (.int (0 : Int32)), (.int (0 : Int32)), (.ref b), (.ref o)])
  obtain ⟨_, _, ⟨T8, L8, k8, n8⟩, -, X8, S8, G8, ⟨Lc8, hQ8, l8, y8, z8, C8⟩, st8⟩ := X0.specialBackS hx (y := (⟨"java/lang/String", "<init>", "([CIILjava/lang/Void;)V"⟩ : MethodName)) rfl hown (mvT hZ (hw _ (List.mem_of_getElem? (i := 14) rfl))) (mvT hZ (hw _ (List.mem_of_getElem? (i := 15) rfl))) (mvT hZ (hw _ (List.mem_of_getElem? (i := 17) rfl))) (by decide) (backOfSH (W := 0) (rm1 l Z a0 hw [] o b h0 n0 Z0 go E0 Fv0 Fc0) hZ (hw _ (List.mem_of_getElem? (i := 17) rfl)) (hw _ (List.mem_of_getElem? (i := 9) rfl)) (by decide) (by decide) (own_hEL hw) CR.1) (g := (mkF m 6 #[.val (.ref o), .val (.ref b)] [.null, (.int (0 : Int32)), (.int (0 : Int32)), (.ref b), (.ref o)])) rfl (by rw [hml]; rfl) (Steps.refl _) (a := o) (argsL := [(.ref b), (.int (0 : Int32)), (.int (0 : Int32)), .null]) (rest := []) (lenOf pd_1 rfl) rfl (by show 2 * 0 + _ ≤ _; exact Nat.le_of_eq rfl) (hb hby d2_6) (fun _ _ => ⟨rfl, e0, (by decide : 0 + 4 ≤ _), (by decide : 0 + 8 ≤ _)⟩)
  dsimp only [Pt.U, Pt.locs, Pt.cells, Pt.slots] at X8 S8 G8 l8 y8 z8 C8 st8 hQ8
  subst l8 y8 z8
  obtain ⟨X8, hS, hZ, hown⟩ := rebS hS (by rw [e0]; exact hk) X8 S8 G8 hZ hown
  have hk := Nat.le_refl T8.heap.size
  have CR := CR.trans C8
  have Z8 : n0 ≤ T8.heap.size := Nat.le_trans Z0 (by rw [e0] at G8; exact G8)
  obtain ⟨rfl, N8, K8, Tx8⟩ := hQ8
  refine own_thruH st8 ?_
  show own_EH _ _ _ _ _ _ _ _ _ T8 (mkF m 9 #[.val (.ref o), .val (.ref b)] [])
  exact own_retVH X8 hx hlk hS hk (rfl : T8.heap = T8.heap) (own_endC X8 (rfl : T8.heap = T8.heap) hh hZ (own_hEL hw) CR) Bd.returns (hb hby d2_9) (by decide) (by decide) ⟨rfl, Fr.app N0 N8, K8, Tx8⟩
theorem d3_0 : decode jdk_31_method_11_code 0 = .ok (.aload_n 0, 1) := by decide +kernel
theorem d3_1 : decode jdk_31_method_11_code 1 = .ok (.ifnonnull 12, 3) := by decide +kernel
theorem d3_4 : decode jdk_31_method_11_code 4 = .ok (.new 84, 3) := by decide +kernel
theorem d3_7 : decode jdk_31_method_11_code 7 = .ok (.dup, 1) := by decide +kernel
theorem d3_8 : decode jdk_31_method_11_code 8 = .ok (.aload_n 1, 1) := by decide +kernel
theorem d3_9 : decode jdk_31_method_11_code 9 = .ok (.invokespecial 87, 3) := by decide +kernel
theorem d3_12 : decode jdk_31_method_11_code 12 = .ok (.athrow, 1) := by decide +kernel
theorem d3_13 : decode jdk_31_method_11_code 13 = .ok (.aload_n 0, 1) := by decide +kernel
theorem d3_14 : decode jdk_31_method_11_code 14 = .ok (.areturn, 1) := by decide +kernel
theorem pn_3 : plainName "java/util/Objects" = true := by first | (simp [plainName, overriddenIn]; done) | decide +kernel
theorem ef_3 (m : MethodId) (x0 : Addr) (x1 : Addr) : entryFrame m #[(.ref x0), (.ref x1)] 2 = mkF m 0 #[.val (.ref x0), .val (.ref x1)] [] := by first | (simp [entryFrame, mkF, argsToLocals, Value.category]; done) | rfl
theorem pd_3 : parseMethodDescriptor "(Ljava/lang/Object;Ljava/lang/String;)Ljava/lang/Object;" = some ⟨[.object "java/lang/Object", .object "java/lang/String"], some (.object "java/lang/Object")⟩ := by decide +kernel
set_option maxRecDepth 65536 in
set_option maxHeartbeats 40000000 in
theorem rm3 (l : Launch) (Z : State) (a0 : Array Value) (hw : ∀ d ∈ tables_1, d.before a0 Z = true) (ws : List Jvm.Cond) (x y : Addr) (h0 : Heap) (n0 : Nat) (Z0 : n0 ≤ h0.size) :
    MetFree l (⟨"java/util/Objects", "requireNonNull", "(Ljava/lang/Object;Ljava/lang/String;)Ljava/lang/Object;"⟩ : MethodName) (head1 (Jvm.Cond.code (⟨"java/util/Objects", "requireNonNull", "(Ljava/lang/Object;Ljava/lang/String;)Ljava/lang/Object;"⟩ : MethodName) jdk_31_method_11_code 2 (some (.object "java/lang/Object")) :: ws) ({ frames := 0, cells := 0, slots := 0, locals := 0 } : Room)) (fun a9 U9 => a9 = #[(.ref x), (.ref y)] ∧ Z.Warmed39 U9.vm ∧ U9.heap = h0) (fun _ _ _ _ _ => True) (fun _ U9 o9 V9 => ∃ v9 L9, o9 = .returned v9 ∧ QR x h0 n0 v9 V9.heap L9 ∧ FrameEnd U9 o9 V9 L9 ({ frames := 0, cells := 0, slots := 0, locals := 0 } : Room).cells ({ frames := 0, cells := 0, slots := 0, locals := 0 } : Room).slots) := by
  refine MetFree.of_bodySF (plainFor_of_name pn_3) hisR ?_
  intro p e s m args below meth c s₁ Bd hml0 hP hK
  obtain ⟨rfl, hZ, hh⟩ := hP
  have hx := Bd.exec
  have hby := Bd.bytes
  have hlk := Bd.notSynchronized
  have hml : c.maxLocals = 2 := hml0
  have hown : s.vm.findClass "java/util/Objects" = some m.cls := findClass_of_methodNamed Bd.named
  have hnm := (name_of_methodNamed Bd.named Bd.method).1
  have X0 : Stand p l e ({ frames := 0, cells := 0, slots := 0, locals := 0 } : Room) s m #[(.ref x), (.ref y)] below meth c s₁ [] 0 0 := Stand.of_body Bd
  have e0 : s₁.heap = h0 := by rw [← hh, Bd.state]; rfl
  have N0 := Fr.nil n0
  show own_E p e below s (QR x h0 n0) _ _ s₁ (entryFrame m #[(.ref x), (.ref y)] 2)
  rw [ef_3]
  show own_E _ _ _ _ _ _ _ s₁ (mkF m 0 #[.val (.ref x), .val (.ref y)] [])
  refine own_via (fun t => XS.aloadN X0.here hx rfl (hb hby d3_0) rfl rfl) ?_
  show own_E _ _ _ _ _ _ _ s₁ (mkF m 1 #[.val (.ref x), .val (.ref y)] [(.ref x)])
  refine own_via (fun t => Jvm.Free.XT.nonnullYes X0.here hx rfl (pc0 := 1) (pc' := 13) rfl (hb hby d3_1) rfl rfl (fun q => nomatch q) (by decide) rfl) ?_
  show own_E _ _ _ _ _ _ _ s₁ (mkF m 13 #[.val (.ref x), .val (.ref y)] [])
  refine own_via (fun t => XS.aloadN X0.here hx rfl (hb hby d3_13) rfl rfl) ?_
  show own_E _ _ _ _ _ _ _ s₁ (mkF m 14 #[.val (.ref x), .val (.ref y)] [(.ref x)])
  exact own_ret X0 hx hlk Bd.returns rfl (Or.inr (Or.inr (Or.inr (Or.inr ⟨rfl, rfl, rfl⟩)))) (hb hby d3_14) (Nat.le_refl _) (Nat.le_refl _) ⟨rfl, N0, e0⟩
theorem d4_0 : decode method_2_code 0 = .ok (.iload_n 0, 1) := by decide +kernel
theorem d4_1 : decode method_2_code 1 = .ok (.iconst 3, 1) := by decide +kernel
theorem d4_2 : decode method_2_code 2 = .ok (.if_icmp .ne 5, 3) := by decide +kernel
theorem d4_5 : decode method_2_code 5 = .ok (.iconst 2, 1) := by decide +kernel
theorem d4_6 : decode method_2_code 6 = .ok (.ireturn, 1) := by decide +kernel
theorem d4_7 : decode method_2_code 7 = .ok (.iload_n 0, 1) := by decide +kernel
theorem d4_8 : decode method_2_code 8 = .ok (.ireturn, 1) := by decide +kernel
theorem pn_4 : plainName "com/example/exhaust/exhaust/frontend/source/SourcePositionEqualsPinLaw" = true := by first | (simp [plainName, overriddenIn]; done) | decide +kernel
theorem ef_4 (m : MethodId) (x0 : Int32) : entryFrame m #[(.int x0)] 1 = mkF m 0 #[.val (.int x0)] [] := by first | (simp [entryFrame, mkF, argsToLocals, Value.category]; done) | rfl
theorem pd_4 : parseMethodDescriptor "(I)I" = some ⟨[.int], some .int⟩ := by decide +kernel
set_option maxRecDepth 65536 in
set_option maxHeartbeats 40000000 in
theorem rm4 (l : Launch) (Z : State) (a0 : Array Value) (hw : ∀ d ∈ tables_1, d.before a0 Z = true) (ws : List Jvm.Cond) (x : Int32) (h0 : Heap) (n0 : Nat) (Z0 : n0 ≤ h0.size) :
    MetFree l (⟨"com/example/exhaust/exhaust/frontend/source/SourcePositionEqualsPinLaw", "len", "(I)I"⟩ : MethodName) (head1 (Jvm.Cond.code (⟨"com/example/exhaust/exhaust/frontend/source/SourcePositionEqualsPinLaw", "len", "(I)I"⟩ : MethodName) method_2_code 1 (some .int) :: ws) ({ frames := 0, cells := 0, slots := 0, locals := 0 } : Room)) (fun a9 U9 => a9 = #[(.int x)] ∧ Z.Warmed39 U9.vm ∧ U9.heap = h0) (fun _ _ _ _ _ => True) (fun _ U9 o9 V9 => ∃ v9 L9, o9 = .returned v9 ∧ QI (own_ln x) h0 n0 v9 V9.heap L9 ∧ FrameEnd U9 o9 V9 L9 ({ frames := 0, cells := 0, slots := 0, locals := 0 } : Room).cells ({ frames := 0, cells := 0, slots := 0, locals := 0 } : Room).slots) := by
  refine MetFree.of_bodySF (plainFor_of_name pn_4) hisR ?_
  intro p e s m args below meth c s₁ Bd hml0 hP hK
  obtain ⟨rfl, hZ, hh⟩ := hP
  have hx := Bd.exec
  have hby := Bd.bytes
  have hlk := Bd.notSynchronized
  have hml : c.maxLocals = 1 := hml0
  have hown : s.vm.findClass "com/example/exhaust/exhaust/frontend/source/SourcePositionEqualsPinLaw" = some m.cls := findClass_of_methodNamed Bd.named
  have hnm := (name_of_methodNamed Bd.named Bd.method).1
  have X0 : Stand p l e ({ frames := 0, cells := 0, slots := 0, locals := 0 } : Room) s m #[(.int x)] below meth c s₁ [] 0 0 := Stand.of_body Bd
  have e0 : s₁.heap = h0 := by rw [← hh, Bd.state]; rfl
  have N0 := Fr.nil n0
  show own_E p e below s (QI (own_ln x) h0 n0) _ _ s₁ (entryFrame m #[(.int x)] 1)
  rw [ef_4]
  show own_E _ _ _ _ _ _ _ s₁ (mkF m 0 #[.val (.int x)] [])
  refine own_via (fun t => XS.iloadN X0.here hx rfl (hb hby d4_0) rfl) ?_
  show own_E _ _ _ _ _ _ _ s₁ (mkF m 1 #[.val (.int x)] [(.int x)])
  refine own_via (fun t => XS.iconst X0.here hx rfl (hb hby d4_1)) ?_
  show own_E _ _ _ _ _ _ _ s₁ (mkF m 2 #[.val (.int x)] [(.int (3 : Int32)), (.int x)])
  by_cases c2_9 : x = (3 : Int32)
  · refine own_via (fun t => XS.icmpNo X0.here hx rfl (hb hby d4_2) rfl (teq c2_9).2) ?_
    show own_E _ _ _ _ _ _ _ s₁ (mkF m 5 #[.val (.int x)] [])
    refine own_via (fun t => XS.iconst X0.here hx rfl (hb hby d4_5)) ?_
    show own_E _ _ _ _ _ _ _ s₁ (mkF m 6 #[.val (.int x)] [(.int (2 : Int32))])
    exact own_ret X0 hx hlk Bd.returns rfl (Or.inl ⟨rfl, Or.inl rfl, _, rfl⟩) (hb hby d4_6) (Nat.le_refl _) (Nat.le_refl _) ⟨congrArg (fun z => some (Value.int z)) (show (2 : Int32) = own_ln x from (if_pos c2_9).symm), N0, e0⟩
  · refine own_via (fun t => XS.icmpYes X0.here hx rfl (pc0 := 2) (pc' := 7) rfl (hb hby d4_2) rfl (feq c2_9).2 (by decide) (by decide)) ?_
    show own_E _ _ _ _ _ _ _ s₁ (mkF m 7 #[.val (.int x)] [])
    refine own_via (fun t => XS.iloadN X0.here hx rfl (hb hby d4_7) rfl) ?_
    show own_E _ _ _ _ _ _ _ s₁ (mkF m 8 #[.val (.int x)] [(.int x)])
    exact own_ret X0 hx hlk Bd.returns rfl (Or.inl ⟨rfl, Or.inl rfl, _, rfl⟩) (hb hby d4_8) (Nat.le_refl _) (Nat.le_refl _) ⟨congrArg (fun z => some (Value.int z)) (show x = own_ln x from (if_neg c2_9).symm), N0, e0⟩
theorem d5_0 : decode method_3_code 0 = .ok (.iload_n 0, 1) := by decide +kernel
theorem d5_1 : decode method_3_code 1 = .ok (.ifCond .ne 14, 3) := by decide +kernel
theorem d5_4 : decode method_3_code 4 = .ok (.new 7, 3) := by decide +kernel
theorem d5_7 : decode method_3_code 7 = .ok (.dup, 1) := by decide +kernel
theorem d5_8 : decode method_3_code 8 = .ok (.iconst 0, 1) := by decide +kernel
theorem d5_9 : decode method_3_code 9 = .ok (.newarray .char, 2) := by decide +kernel
theorem d5_11 : decode method_3_code 11 = .ok (.invokespecial 9, 3) := by decide +kernel
theorem d5_14 : decode method_3_code 14 = .ok (.areturn, 1) := by decide +kernel
theorem d5_15 : decode method_3_code 15 = .ok (.iload_n 0, 1) := by decide +kernel
theorem d5_16 : decode method_3_code 16 = .ok (.iconst 1, 1) := by decide +kernel
theorem d5_17 : decode method_3_code 17 = .ok (.if_icmp .ne 18, 3) := by decide +kernel
theorem d5_20 : decode method_3_code 20 = .ok (.new 7, 3) := by decide +kernel
theorem d5_23 : decode method_3_code 23 = .ok (.dup, 1) := by decide +kernel
theorem d5_24 : decode method_3_code 24 = .ok (.iconst 1, 1) := by decide +kernel
theorem d5_25 : decode method_3_code 25 = .ok (.newarray .char, 2) := by decide +kernel
theorem d5_27 : decode method_3_code 27 = .ok (.dup, 1) := by decide +kernel
theorem d5_28 : decode method_3_code 28 = .ok (.iconst 0, 1) := by decide +kernel
theorem d5_29 : decode method_3_code 29 = .ok (.iload_n 1, 1) := by decide +kernel
theorem d5_30 : decode method_3_code 30 = .ok (.castore, 1) := by decide +kernel
theorem d5_31 : decode method_3_code 31 = .ok (.invokespecial 9, 3) := by decide +kernel
theorem d5_34 : decode method_3_code 34 = .ok (.areturn, 1) := by decide +kernel
theorem d5_35 : decode method_3_code 35 = .ok (.new 7, 3) := by decide +kernel
theorem d5_38 : decode method_3_code 38 = .ok (.dup, 1) := by decide +kernel
theorem d5_39 : decode method_3_code 39 = .ok (.iconst 2, 1) := by decide +kernel
theorem d5_40 : decode method_3_code 40 = .ok (.newarray .char, 2) := by decide +kernel
theorem d5_42 : decode method_3_code 42 = .ok (.dup, 1) := by decide +kernel
theorem d5_43 : decode method_3_code 43 = .ok (.iconst 0, 1) := by decide +kernel
theorem d5_44 : decode method_3_code 44 = .ok (.iload_n 1, 1) := by decide +kernel
theorem d5_45 : decode method_3_code 45 = .ok (.castore, 1) := by decide +kernel
theorem d5_46 : decode method_3_code 46 = .ok (.dup, 1) := by decide +kernel
theorem d5_47 : decode method_3_code 47 = .ok (.iconst 1, 1) := by decide +kernel
theorem d5_48 : decode method_3_code 48 = .ok (.iload_n 2, 1) := by decide +kernel
theorem d5_49 : decode method_3_code 49 = .ok (.castore, 1) := by decide +kernel
theorem d5_50 : decode method_3_code 50 = .ok (.invokespecial 9, 3) := by decide +kernel
theorem d5_53 : decode method_3_code 53 = .ok (.areturn, 1) := by decide +kernel
theorem pn_5 : plainName "com/example/exhaust/exhaust/frontend/source/SourcePositionEqualsPinLaw" = true := by first | (simp [plainName, overriddenIn]; done) | decide +kernel
theorem ef_5 (m : MethodId) (x0 : Int32) (x1 : Int32) (x2 : Int32) : entryFrame m #[(.int x0), (.int x1), (.int x2)] 3 = mkF m 0 #[.val (.int x0), .val (.int x1), .val (.int x2)] [] := by first | (simp [entryFrame, mkF, argsToLocals, Value.category]; done) | rfl
theorem pd_5 : parseMethodDescriptor "(ICC)Ljava/lang/String;" = some ⟨[.int, .char, .char], some (.object "java/lang/String")⟩ := by decide +kernel
set_option maxRecDepth 65536 in
set_option maxHeartbeats 40000000 in
theorem rm5 (l : Launch) (Z : State) (a0 : Array Value) (hw : ∀ d ∈ tables_1, d.before a0 Z = true) (ws : List Jvm.Cond) (k x y z : Int32) (hkn : own_n k) (hxC : own_C x) (hyC : own_C y) (hz : ¬ z = 0) (h0 : Heap) (n0 : Nat) (Z0 : n0 ≤ h0.size) (S0 : Sta Z h0 "java/lang/String" "COMPACT_STRINGS" "Z" (.int z)) :
    MetFree l (⟨"com/example/exhaust/exhaust/frontend/source/SourcePositionEqualsPinLaw", "mk", "(ICC)Ljava/lang/String;"⟩ : MethodName) (head1 (Jvm.Cond.code (⟨"com/example/exhaust/exhaust/frontend/source/SourcePositionEqualsPinLaw", "mk", "(ICC)Ljava/lang/String;"⟩ : MethodName) method_3_code 3 (some (.object "java/lang/String")) :: ws) ({ frames := 4, cells := 6, slots := 12, locals := 66 } : Room)) (fun a9 U9 => a9 = #[(.int k), (.int x), (.int y)] ∧ Z.Warmed39 U9.vm ∧ U9.heap = h0 ∧ CHv Z own_EL U9.vm h0) (fun _ _ _ _ _ => True) (fun _ U9 o9 V9 => ∃ v9 L9, o9 = .returned v9 ∧ QM Z (own_cs k x y) h0 n0 v9 V9.heap L9 ∧ CHr Z own_EL U9.vm U9.heap V9.vm V9.heap ∧ ReturnedEndW U9 o9 V9 L9 ({ frames := 4, cells := 6, slots := 12, locals := 66 } : Room).cells ({ frames := 4, cells := 6, slots := 12, locals := 66 } : Room).slots) := by
  refine MetFree.of_bodySF (plainFor_of_name pn_5) hisR ?_
  intro p e s m args below meth c s₁ Bd hml0 hP hK
  obtain ⟨rfl, hZ0, hh, CV⟩ := hP
  have hZ : Z.Warmed39 (s.setVm s.vm).vm := hZ0
  have hx := Bd.exec
  have hby := Bd.bytes
  have hlk := Bd.notSynchronized
  have hml : c.maxLocals = 3 := hml0
  have hown : (s.setVm s.vm).vm.findClass "com/example/exhaust/exhaust/frontend/source/SourcePositionEqualsPinLaw" = some m.cls := findClass_of_methodNamed Bd.named
  have hnm := (name_of_methodNamed Bd.named Bd.method).1
  have X0 : Stand p l e ({ frames := 4, cells := 6, slots := 12, locals := 66 } : Room) (s.setVm s.vm) m #[(.int k), (.int x), (.int y)] below meth c s₁ [] 0 0 := Stand.of_body Bd
  have e0 : s₁.heap = h0 := by rw [← hh, Bd.state]; rfl
  have N0 := Fr.nil n0
  have hS := (State.WarmedH.refl s).since h0.size
  have hk := Nat.le_refl h0.size
  have CR : CHr Z own_EL s.vm h0 s.vm h0 := CHr.refl CV
  show own_EH p e below s Z own_EL (QM Z (own_cs k x y) h0 n0) _ _ s₁ (entryFrame m #[(.int k), (.int x), (.int y)] 3)
  rw [ef_5]
  show own_EH _ _ _ _ _ _ _ _ _ s₁ (mkF m 0 #[.val (.int k), .val (.int x), .val (.int y)] [])
  refine own_viaH (fun t => XS.iloadN X0.here hx rfl (hb hby d5_0) rfl) ?_
  show own_EH _ _ _ _ _ _ _ _ _ s₁ (mkF m 1 #[.val (.int k), .val (.int x), .val (.int y)] [(.int k)])
  by_cases c1_10 : k = (0 : Int32)
  · refine own_viaH (fun t => XS.ifNo X0.here hx rfl (hb hby d5_1) rfl ((if0 _ _).trans (teq c1_10).2)) ?_
    show own_EH _ _ _ _ _ _ _ _ _ s₁ (mkF m 4 #[.val (.int k), .val (.int x), .val (.int y)] [])
    obtain ⟨T11, h11, X11, e11, E11, A11, D11, -, st11⟩ := newO X0 hx hZ hown (hw _ (List.mem_of_getElem? (i := 7) rfl)) (hw _ (List.mem_of_getElem? (i := 8) rfl)) (hw _ (List.mem_of_getElem? (i := 9) rfl)) e0 (g := (mkF m 4 #[.val (.int k), .val (.int x), .val (.int y)] [])) rfl (hb hby d5_4) (by decide) (by decide)
    obtain ⟨b11, g11⟩ : ∃ z, z = h0.size := ⟨_, rfl⟩
    rw [← g11] at A11 D11 st11
    have gz_b11 : n0 ≤ b11 := Nat.le_trans Z0 (Nat.le_of_eq g11.symm)
    have Z11 : n0 ≤ h11.size := Nat.le_trans Z0 E11.1
    refine own_viaH st11 ?_
    show own_EH _ _ _ _ _ _ _ _ _ T11 (mkF m 7 #[.val (.int k), .val (.int x), .val (.int y)] [(.ref b11)])
    have hk := Nat.le_trans hk E11.1
    have CR := CR.trans (CHr.ext E11 CR.1)
    have Dv11 : Fld Z h11 b11 "java/lang/String" "value" "[B" .null := D11 (Or.inr (hw _ (List.mem_of_getElem? (i := 23) rfl))) (ty := .array .byte) (by decide)
    have Dc11 : Fld Z h11 b11 "java/lang/String" "coder" "B" (.int 0) := D11 (Or.inr (hw _ (List.mem_of_getElem? (i := 24) rfl))) (ty := .byte) (by decide)
    refine own_viaH (fun t => XS.dup X11.here hx rfl (hb hby d5_7) rfl rfl) ?_
    show own_EH _ _ _ _ _ _ _ _ _ T11 (mkF m 8 #[.val (.int k), .val (.int x), .val (.int y)] [(.ref b11), (.ref b11)])
    refine own_viaH (fun t => XS.iconst X11.here hx rfl (hb hby d5_8)) ?_
    show own_EH _ _ _ _ _ _ _ _ _ T11 (mkF m 9 #[.val (.int k), .val (.int x), .val (.int y)] [(.int (0 : Int32)), (.ref b11), (.ref b11)])
    obtain ⟨T12, h12, k12, X12, e12, E12, A12, st12⟩ := newP X11 hx hZ (hw _ (List.mem_of_getElem? (i := 10) rfl)) e11 (g := (mkF m 9 #[.val (.int k), .val (.int x), .val (.int y)] [(.int (0 : Int32)), (.ref b11), (.ref b11)])) rfl (hb hby d5_9) rfl (by decide) (cap := 0) (by decide) (by decide) (by decide) (by decide)
    obtain ⟨b12, g12⟩ : ∃ z, z = h11.size := ⟨_, rfl⟩
    rw [← g12] at A12 st12
    have V12 : own_Ar Z h12 b12 .char 0 (fun _ => 0) := own_Ar.new A12 (by decide) rfl
    have gz_b12 : n0 ≤ b12 := Nat.le_trans Z11 (Nat.le_of_eq g12.symm)
    have Z12 : n0 ≤ h12.size := Nat.le_trans Z11 E12.1
    refine own_viaH st12 ?_
    show own_EH _ _ _ _ _ _ _ _ _ T12 (mkF m 11 #[.val (.int k), .val (.int x), .val (.int y)] [(.ref b12), (.ref b11), (.ref b11)])
    have hk := Nat.le_trans hk E12.1
    have CR := CR.trans (CHr.ext E12 CR.1)
    obtain ⟨_, _, ⟨T13, L13, k13, n13⟩, -, X13, S13, G13, ⟨Lc13, hQ13, l13, y13, z13, C13⟩, st13⟩ := X12.specialBackS hx (y := (⟨"java/lang/String", "<init>", "([C)V"⟩ : MethodName)) rfl hown (mvT hZ (hw _ (List.mem_of_getElem? (i := 11) rfl))) (mvT hZ (hw _ (List.mem_of_getElem? (i := 12) rfl))) (mvT hZ (hw _ (List.mem_of_getElem? (i := 13) rfl))) (by decide) (backOfSH (W := 1) (rm2 l Z a0 hw [] b11 b12 (fun _ => 0) h12 n0 Z12 gz_b11 (A11.ext E12) (Dv11.ext E12) (Dc11.ext E12) V12) hZ (hw _ (List.mem_of_getElem? (i := 13) rfl)) (hw _ (List.mem_of_getElem? (i := 9) rfl)) (by decide) (by decide) (own_hEL hw) CR.1) (g := (mkF m 11 #[.val (.int k), .val (.int x), .val (.int y)] [(.ref b12), (.ref b11), (.ref b11)])) rfl (by rw [hml]; rfl) (Steps.refl _) (a := b11) (argsL := [(.ref b12)]) (rest := [(.ref b11)]) (lenOf pd_2 rfl) rfl (by show 2 * 0 + _ ≤ _; exact Nat.le_of_eq rfl) (hb hby d5_11) (fun _ _ => ⟨rfl, e12, (by decide : 2 + 4 ≤ _), (by decide : 4 + 8 ≤ _)⟩)
    dsimp only [Pt.U, Pt.locs, Pt.cells, Pt.slots] at X13 S13 G13 l13 y13 z13 C13 st13 hQ13
    subst l13 y13 z13
    obtain ⟨X13, hS, hZ, hown⟩ := rebS hS (by rw [e12]; exact hk) X13 S13 G13 hZ hown
    have hk := Nat.le_refl T13.heap.size
    have CR := CR.trans C13
    have Z13 : n0 ≤ T13.heap.size := Nat.le_trans Z12 (by rw [e12] at G13; exact G13)
    obtain ⟨rfl, N13, K13, Tx13⟩ := hQ13
    refine own_thruH st13 ?_
    show own_EH _ _ _ _ _ _ _ _ _ T13 (mkF m 14 #[.val (.int k), .val (.int x), .val (.int y)] [(.ref b11)])
    have ecs : own_cs k x y = [] := if_pos c1_10
    rw [ecs]
    exact own_retH X13 hx hlk hS hk (rfl : T13.heap = T13.heap) (own_endC X13 (rfl : T13.heap = T13.heap) hh hZ (own_hEL hw) CR) Bd.returns rfl (Or.inr (Or.inr (Or.inr (Or.inr ⟨rfl, rfl, rfl⟩)))) (hb hby d5_14) (by decide) (by decide) ⟨b11, rfl, (Fr.app N0 N13), (own_extK (own_extT E11 E12) K13 (allS (Nat.le_of_eq g11.symm) all0)), Tx13⟩
  · refine own_viaH (fun t => XS.ifYes X0.here hx rfl (pc0 := 1) (pc' := 15) rfl (hb hby d5_1) rfl ((if0 _ _).trans (feq c1_10).2) (by decide) (by decide)) ?_
    show own_EH _ _ _ _ _ _ _ _ _ s₁ (mkF m 15 #[.val (.int k), .val (.int x), .val (.int y)] [])
    refine own_viaH (fun t => XS.iloadN X0.here hx rfl (hb hby d5_15) rfl) ?_
    show own_EH _ _ _ _ _ _ _ _ _ s₁ (mkF m 16 #[.val (.int k), .val (.int x), .val (.int y)] [(.int k)])
    refine own_viaH (fun t => XS.iconst X0.here hx rfl (hb hby d5_16)) ?_
    show own_EH _ _ _ _ _ _ _ _ _ s₁ (mkF m 17 #[.val (.int k), .val (.int x), .val (.int y)] [(.int (1 : Int32)), (.int k)])
    by_cases c17_14 : k = (1 : Int32)
    · refine own_viaH (fun t => XS.icmpNo X0.here hx rfl (hb hby d5_17) rfl (teq c17_14).2) ?_
      show own_EH _ _ _ _ _ _ _ _ _ s₁ (mkF m 20 #[.val (.int k), .val (.int x), .val (.int y)] [])
      obtain ⟨T15, h15, X15, e15, E15, A15, D15, -, st15⟩ := newO X0 hx hZ hown (hw _ (List.mem_of_getElem? (i := 7) rfl)) (hw _ (List.mem_of_getElem? (i := 8) rfl)) (hw _ (List.mem_of_getElem? (i := 9) rfl)) e0 (g := (mkF m 20 #[.val (.int k), .val (.int x), .val (.int y)] [])) rfl (hb hby d5_20) (by decide) (by decide)
      obtain ⟨b15, g15⟩ : ∃ z, z = h0.size := ⟨_, rfl⟩
      rw [← g15] at A15 D15 st15
      have gz_b15 : n0 ≤ b15 := Nat.le_trans Z0 (Nat.le_of_eq g15.symm)
      have Z15 : n0 ≤ h15.size := Nat.le_trans Z0 E15.1
      refine own_viaH st15 ?_
      show own_EH _ _ _ _ _ _ _ _ _ T15 (mkF m 23 #[.val (.int k), .val (.int x), .val (.int y)] [(.ref b15)])
      have hk := Nat.le_trans hk E15.1
      have CR := CR.trans (CHr.ext E15 CR.1)
      have Dv15 : Fld Z h15 b15 "java/lang/String" "value" "[B" .null := D15 (Or.inr (hw _ (List.mem_of_getElem? (i := 23) rfl))) (ty := .array .byte) (by decide)
      have Dc15 : Fld Z h15 b15 "java/lang/String" "coder" "B" (.int 0) := D15 (Or.inr (hw _ (List.mem_of_getElem? (i := 24) rfl))) (ty := .byte) (by decide)
      refine own_viaH (fun t => XS.dup X15.here hx rfl (hb hby d5_23) rfl rfl) ?_
      show own_EH _ _ _ _ _ _ _ _ _ T15 (mkF m 24 #[.val (.int k), .val (.int x), .val (.int y)] [(.ref b15), (.ref b15)])
      refine own_viaH (fun t => XS.iconst X15.here hx rfl (hb hby d5_24)) ?_
      show own_EH _ _ _ _ _ _ _ _ _ T15 (mkF m 25 #[.val (.int k), .val (.int x), .val (.int y)] [(.int (1 : Int32)), (.ref b15), (.ref b15)])
      obtain ⟨T16, h16, k16, X16, e16, E16, A16, st16⟩ := newP X15 hx hZ (hw _ (List.mem_of_getElem? (i := 10) rfl)) e15 (g := (mkF m 25 #[.val (.int k), .val (.int x), .val (.int y)] [(.int (1 : Int32)), (.ref b15), (.ref b15)])) rfl (hb hby d5_25) rfl (by decide) (cap := 1) (by decide) (by decide) (by decide) (by decide)
      obtain ⟨b16, g16⟩ : ∃ z, z = h15.size := ⟨_, rfl⟩
      rw [← g16] at A16 st16
      have V16 : own_Ar Z h16 b16 .char 1 (fun _ => 0) := own_Ar.new A16 (by decide) rfl
      have gz_b16 : n0 ≤ b16 := Nat.le_trans Z15 (Nat.le_of_eq g16.symm)
      have Z16 : n0 ≤ h16.size := Nat.le_trans Z15 E16.1
      refine own_viaH st16 ?_
      show own_EH _ _ _ _ _ _ _ _ _ T16 (mkF m 27 #[.val (.int k), .val (.int x), .val (.int y)] [(.ref b16), (.ref b15), (.ref b15)])
      have hk := Nat.le_trans hk E16.1
      have CR := CR.trans (CHr.ext E16 CR.1)
      have Ea : Ext h0 h16 := own_extT E15 E16
      have gb : h0.size ≤ b16 := Nat.le_trans E15.1 (Nat.le_of_eq g16.symm)
      have go : h0.size ≤ b15 := Nat.le_of_eq g15.symm
      have A_a := A15.ext E16
      have Dv_a := Dv15.ext E16
      have Dc_a := Dc15.ext E16
      have nob : b15 ≠ b16 := fun z => Nat.lt_irrefl _ (show h15.size < h15.size from by have := A15.lt; rw [z, g16] at this; exact this)
      refine own_viaH (fun t => XS.dup X16.here hx rfl (hb hby d5_27) rfl rfl) ?_
      show own_EH _ _ _ _ _ _ _ _ _ T16 (mkF m 28 #[.val (.int k), .val (.int x), .val (.int y)] [(.ref b16), (.ref b16), (.ref b15), (.ref b15)])
      refine own_viaH (fun t => XS.iconst X16.here hx rfl (hb hby d5_28)) ?_
      show own_EH _ _ _ _ _ _ _ _ _ T16 (mkF m 29 #[.val (.int k), .val (.int x), .val (.int y)] [(.int (0 : Int32)), (.ref b16), (.ref b16), (.ref b15), (.ref b15)])
      refine own_viaH (fun t => XS.iloadN X16.here hx rfl (hb hby d5_29) rfl) ?_
      show own_EH _ _ _ _ _ _ _ _ _ T16 (mkF m 30 #[.val (.int k), .val (.int x), .val (.int y)] [(.int x), (.int (0 : Int32)), (.ref b16), (.ref b16), (.ref b15), (.ref b15)])
      obtain ⟨T17, h17, X17, e17, F17, W17, N17, st17⟩ := own_castore (jn := 0) X16 hx hZ e16 V16 (by decide) (by decide) rfl (g := (mkF m 30 #[.val (.int k), .val (.int x), .val (.int y)] [(.int x), (.int (0 : Int32)), (.ref b16), (.ref b16), (.ref b15), (.ref b15)])) rfl rfl (hb hby d5_30) N0 gz_b16
      refine own_viaH st17 ?_
      have Z17 : n0 ≤ h17.size := by rw [W17.size]; exact Z16
      show own_EH _ _ _ _ _ _ _ _ _ T17 (mkF m 31 #[.val (.int k), .val (.int x), .val (.int y)] [(.ref b16), (.ref b15), (.ref b15)])
      have hk := Nat.le_trans hk (Nat.le_of_eq W17.size.symm)
      have SW17 : Safe Z own_EL _ _ _ := V16.safe hZ.alike
      have CR0 := CR.1
      have CR := CR.trans (CHr.wr W17 SW17 CR.1)
      have Ew17 := own_extW Ea W17 gb
      have A_17 := A_a.wr W17
      have Dv_17 := Dv_a.other W17 (Or.inl nob)
      have Dc_17 := Dc_a.other W17 (Or.inl nob)
      have Fe : own_Ar Z h17 b16 .char 1 (fun i => if i = 0 then x else y) := F17.congr (fun i hi => by
        have : i = 0 := by omega
        subst this; show nar .char x = x; exact own_narC hxC)
      obtain ⟨kC, AV⟩ := own_arv Fe (by decide) (fun i hi => by show own_C (if i = 0 then x else y); split; exact hxC; exact hyC)
      have AV : Arv Z h17 b16 kC .char (Int32.ofNat 1) ([x].map Value.int) (.int 0) := AV
      have SF := own_safe0 (EL := own_EL) hZ.alike A_17 Dv_17
      obtain ⟨_, _, ⟨T18, L18, k18, n18⟩, -, X18, ⟨Lc18, hQ18, l18, y18, z18⟩, st18⟩ := X17.specialBack hx (y := (⟨"java/lang/String", "<init>", "([C)V"⟩ : MethodName)) rfl hown (mvT hZ (hw _ (List.mem_of_getElem? (i := 11) rfl))) (mvT hZ (hw _ (List.mem_of_getElem? (i := 12) rfl))) (mvT hZ (hw _ (List.mem_of_getElem? (i := 13) rfl))) (by decide) (StrChars.Road.backV (W := 1) hZ (own_ws hw) (kI := 4) (hw _ (List.mem_of_getElem? (i := 8) rfl)) (cs := [x]) (bs := [x].map (fun c => c.toInt8.toInt32)) (n := 1) gz_b15 Z17 A_17 Dv_17 Dc_17 AV (S0.ext Ew17) hz rfl rfl (by decide) (by decide) (fun c hc => own_cs_C (n := 1) hxC hyC c hc) rfl (by decide) (by decide)) (g := (mkF m 31 #[.val (.int k), .val (.int x), .val (.int y)] [(.ref b16), (.ref b15), (.ref b15)])) rfl (by rw [hml]; rfl) (Steps.refl _) (a := b15) (argsL := [(.ref b16)]) (rest := [(.ref b15)]) (lenOf pd_2 rfl) rfl (by show 2 * 0 + _ ≤ _; exact Nat.le_of_eq rfl) (hb hby d5_31) (fun _ _ => ⟨rfl, e17, (by decide : 2 + 1 ≤ _), (by decide : 5 + 1 ≤ _)⟩)
      dsimp only [Pt.U, Pt.locs, Pt.cells, Pt.slots] at X18 l18 y18 z18 st18 hQ18
      subst l18 y18 z18
      obtain ⟨rfl, N18, K18, Ex18, Fc18, tt18, kb18, -, -, -, Fv18, Kb18⟩ := hQ18
      refine own_thruH st18 ?_
      show own_EH _ _ _ _ _ _ _ _ _ T18 (mkF m 34 #[.val (.int k), .val (.int x), .val (.int y)] [(.ref b15)])
      have hk := Nat.le_trans hk K18.1
      have CR := CR.trans (CHr.keep K18 (sfS SF sf0) CR.1)
      have ecs : own_cs k x y = [x] := by unfold own_cs; rw [if_neg c1_10, if_pos c17_14]
      rw [ecs]
      exact own_retH X18 hx hlk hS hk (rfl : T18.heap = T18.heap) (own_endC X18 (rfl : T18.heap = T18.heap) hh hZ (own_hEL hw) CR) Bd.returns rfl (Or.inr (Or.inr (Or.inr (Or.inr ⟨rfl, rfl, rfl⟩)))) (hb hby d5_34) (by decide) (by decide) ⟨b15, rfl, (Fr.app N17 N18), (own_extK Ew17 K18 (allS go all0)), ⟨tt18, kb18, Ex18, Fv18, Fc18, Kb18⟩⟩
    · refine own_viaH (fun t => XS.icmpYes X0.here hx rfl (pc0 := 17) (pc' := 35) rfl (hb hby d5_17) rfl (feq c17_14).2 (by decide) (by decide)) ?_
      show own_EH _ _ _ _ _ _ _ _ _ s₁ (mkF m 35 #[.val (.int k), .val (.int x), .val (.int y)] [])
      obtain ⟨T19, h19, X19, e19, E19, A19, D19, -, st19⟩ := newO X0 hx hZ hown (hw _ (List.mem_of_getElem? (i := 7) rfl)) (hw _ (List.mem_of_getElem? (i := 8) rfl)) (hw _ (List.mem_of_getElem? (i := 9) rfl)) e0 (g := (mkF m 35 #[.val (.int k), .val (.int x), .val (.int y)] [])) rfl (hb hby d5_35) (by decide) (by decide)
      obtain ⟨b19, g19⟩ : ∃ z, z = h0.size := ⟨_, rfl⟩
      rw [← g19] at A19 D19 st19
      have gz_b19 : n0 ≤ b19 := Nat.le_trans Z0 (Nat.le_of_eq g19.symm)
      have Z19 : n0 ≤ h19.size := Nat.le_trans Z0 E19.1
      refine own_viaH st19 ?_
      show own_EH _ _ _ _ _ _ _ _ _ T19 (mkF m 38 #[.val (.int k), .val (.int x), .val (.int y)] [(.ref b19)])
      have hk := Nat.le_trans hk E19.1
      have CR := CR.trans (CHr.ext E19 CR.1)
      have Dv19 : Fld Z h19 b19 "java/lang/String" "value" "[B" .null := D19 (Or.inr (hw _ (List.mem_of_getElem? (i := 23) rfl))) (ty := .array .byte) (by decide)
      have Dc19 : Fld Z h19 b19 "java/lang/String" "coder" "B" (.int 0) := D19 (Or.inr (hw _ (List.mem_of_getElem? (i := 24) rfl))) (ty := .byte) (by decide)
      refine own_viaH (fun t => XS.dup X19.here hx rfl (hb hby d5_38) rfl rfl) ?_
      show own_EH _ _ _ _ _ _ _ _ _ T19 (mkF m 39 #[.val (.int k), .val (.int x), .val (.int y)] [(.ref b19), (.ref b19)])
      refine own_viaH (fun t => XS.iconst X19.here hx rfl (hb hby d5_39)) ?_
      show own_EH _ _ _ _ _ _ _ _ _ T19 (mkF m 40 #[.val (.int k), .val (.int x), .val (.int y)] [(.int (2 : Int32)), (.ref b19), (.ref b19)])
      obtain ⟨T20, h20, k20, X20, e20, E20, A20, st20⟩ := newP X19 hx hZ (hw _ (List.mem_of_getElem? (i := 10) rfl)) e19 (g := (mkF m 40 #[.val (.int k), .val (.int x), .val (.int y)] [(.int (2 : Int32)), (.ref b19), (.ref b19)])) rfl (hb hby d5_40) rfl (by decide) (cap := 2) (by decide) (by decide) (by decide) (by decide)
      obtain ⟨b20, g20⟩ : ∃ z, z = h19.size := ⟨_, rfl⟩
      rw [← g20] at A20 st20
      have V20 : own_Ar Z h20 b20 .char 2 (fun _ => 0) := own_Ar.new A20 (by decide) rfl
      have gz_b20 : n0 ≤ b20 := Nat.le_trans Z19 (Nat.le_of_eq g20.symm)
      have Z20 : n0 ≤ h20.size := Nat.le_trans Z19 E20.1
      refine own_viaH st20 ?_
      show own_EH _ _ _ _ _ _ _ _ _ T20 (mkF m 42 #[.val (.int k), .val (.int x), .val (.int y)] [(.ref b20), (.ref b19), (.ref b19)])
      have hk := Nat.le_trans hk E20.1
      have CR := CR.trans (CHr.ext E20 CR.1)
      have Ea : Ext h0 h20 := own_extT E19 E20
      have gb : h0.size ≤ b20 := Nat.le_trans E19.1 (Nat.le_of_eq g20.symm)
      have go : h0.size ≤ b19 := Nat.le_of_eq g19.symm
      have A_a := A19.ext E20
      have Dv_a := Dv19.ext E20
      have Dc_a := Dc19.ext E20
      have nob : b19 ≠ b20 := fun z => Nat.lt_irrefl _ (show h19.size < h19.size from by have := A19.lt; rw [z, g20] at this; exact this)
      refine own_viaH (fun t => XS.dup X20.here hx rfl (hb hby d5_42) rfl rfl) ?_
      show own_EH _ _ _ _ _ _ _ _ _ T20 (mkF m 43 #[.val (.int k), .val (.int x), .val (.int y)] [(.ref b20), (.ref b20), (.ref b19), (.ref b19)])
      refine own_viaH (fun t => XS.iconst X20.here hx rfl (hb hby d5_43)) ?_
      show own_EH _ _ _ _ _ _ _ _ _ T20 (mkF m 44 #[.val (.int k), .val (.int x), .val (.int y)] [(.int (0 : Int32)), (.ref b20), (.ref b20), (.ref b19), (.ref b19)])
      refine own_viaH (fun t => XS.iloadN X20.here hx rfl (hb hby d5_44) rfl) ?_
      show own_EH _ _ _ _ _ _ _ _ _ T20 (mkF m 45 #[.val (.int k), .val (.int x), .val (.int y)] [(.int x), (.int (0 : Int32)), (.ref b20), (.ref b20), (.ref b19), (.ref b19)])
      obtain ⟨T21, h21, X21, e21, F21, W21, N21, st21⟩ := own_castore (jn := 0) X20 hx hZ e20 V20 (by decide) (by decide) rfl (g := (mkF m 45 #[.val (.int k), .val (.int x), .val (.int y)] [(.int x), (.int (0 : Int32)), (.ref b20), (.ref b20), (.ref b19), (.ref b19)])) rfl rfl (hb hby d5_45) N0 gz_b20
      refine own_viaH st21 ?_
      have Z21 : n0 ≤ h21.size := by rw [W21.size]; exact Z20
      show own_EH _ _ _ _ _ _ _ _ _ T21 (mkF m 46 #[.val (.int k), .val (.int x), .val (.int y)] [(.ref b20), (.ref b19), (.ref b19)])
      have hk := Nat.le_trans hk (Nat.le_of_eq W21.size.symm)
      have SW21 : Safe Z own_EL _ _ _ := V20.safe hZ.alike
      have CR0 := CR.1
      have CR := CR.trans (CHr.wr W21 SW21 CR.1)
      have Ew21 := own_extW Ea W21 gb
      have A_21 := A_a.wr W21
      have Dv_21 := Dv_a.other W21 (Or.inl nob)
      have Dc_21 := Dc_a.other W21 (Or.inl nob)
      refine own_viaH (fun t => XS.dup X21.here hx rfl (hb hby d5_46) rfl rfl) ?_
      show own_EH _ _ _ _ _ _ _ _ _ T21 (mkF m 47 #[.val (.int k), .val (.int x), .val (.int y)] [(.ref b20), (.ref b20), (.ref b19), (.ref b19)])
      refine own_viaH (fun t => XS.iconst X21.here hx rfl (hb hby d5_47)) ?_
      show own_EH _ _ _ _ _ _ _ _ _ T21 (mkF m 48 #[.val (.int k), .val (.int x), .val (.int y)] [(.int (1 : Int32)), (.ref b20), (.ref b20), (.ref b19), (.ref b19)])
      refine own_viaH (fun t => XS.iloadN X21.here hx rfl (hb hby d5_48) rfl) ?_
      show own_EH _ _ _ _ _ _ _ _ _ T21 (mkF m 49 #[.val (.int k), .val (.int x), .val (.int y)] [(.int y), (.int (1 : Int32)), (.ref b20), (.ref b20), (.ref b19), (.ref b19)])
      obtain ⟨T22, h22, X22, e22, F22, W22, N22, st22⟩ := own_castore (jn := 1) X21 hx hZ e21 F21 (by decide) (by decide) rfl (g := (mkF m 49 #[.val (.int k), .val (.int x), .val (.int y)] [(.int y), (.int (1 : Int32)), (.ref b20), (.ref b20), (.ref b19), (.ref b19)])) rfl rfl (hb hby d5_49) N21 gz_b20
      refine own_viaH st22 ?_
      have Z22 : n0 ≤ h22.size := by rw [W22.size]; exact Z21
      show own_EH _ _ _ _ _ _ _ _ _ T22 (mkF m 50 #[.val (.int k), .val (.int x), .val (.int y)] [(.ref b20), (.ref b19), (.ref b19)])
      have hk := Nat.le_trans hk (Nat.le_of_eq W22.size.symm)
      have SW22 : Safe Z own_EL _ _ _ := F21.safe hZ.alike
      have CR0 := CR.1
      have CR := CR.trans (CHr.wr W22 SW22 CR.1)
      have Ew22 := own_extW Ew21 W22 gb
      have A_22 := A_21.wr W22
      have Dv_22 := Dv_21.other W22 (Or.inl nob)
      have Dc_22 := Dc_21.other W22 (Or.inl nob)
      have Fe : own_Ar Z h22 b20 .char 2 (fun i => if i = 0 then x else y) := F22.congr (fun i hi => by
        have : i = 0 ∨ i = 1 := by omega
        rcases this with rfl | rfl
        · show nar .char x = x; exact own_narC hxC
        · show nar .char y = y; exact own_narC hyC)
      obtain ⟨kC, AV⟩ := own_arv Fe (by decide) (fun i hi => by show own_C (if i = 0 then x else y); split; exact hxC; exact hyC)
      have AV : Arv Z h22 b20 kC .char (Int32.ofNat 2) ([x, y].map Value.int) (.int 0) := AV
      have SF := own_safe0 (EL := own_EL) hZ.alike A_22 Dv_22
      obtain ⟨_, _, ⟨T23, L23, k23, n23⟩, -, X23, ⟨Lc23, hQ23, l23, y23, z23⟩, st23⟩ := X22.specialBack hx (y := (⟨"java/lang/String", "<init>", "([C)V"⟩ : MethodName)) rfl hown (mvT hZ (hw _ (List.mem_of_getElem? (i := 11) rfl))) (mvT hZ (hw _ (List.mem_of_getElem? (i := 12) rfl))) (mvT hZ (hw _ (List.mem_of_getElem? (i := 13) rfl))) (by decide) (StrChars.Road.backV (W := 1) hZ (own_ws hw) (kI := 4) (hw _ (List.mem_of_getElem? (i := 8) rfl)) (cs := [x, y]) (bs := [x, y].map (fun c => c.toInt8.toInt32)) (n := 2) gz_b19 Z22 A_22 Dv_22 Dc_22 AV (S0.ext Ew22) hz rfl rfl (by decide) (by decide) (fun c hc => own_cs_C (n := 2) hxC hyC c hc) rfl (by decide) (by decide)) (g := (mkF m 50 #[.val (.int k), .val (.int x), .val (.int y)] [(.ref b20), (.ref b19), (.ref b19)])) rfl (by rw [hml]; rfl) (Steps.refl _) (a := b19) (argsL := [(.ref b20)]) (rest := [(.ref b19)]) (lenOf pd_2 rfl) rfl (by show 2 * 0 + _ ≤ _; exact Nat.le_of_eq rfl) (hb hby d5_50) (fun _ _ => ⟨rfl, e22, (by decide : 2 + 1 ≤ _), (by decide : 6 + 2 ≤ _)⟩)
      dsimp only [Pt.U, Pt.locs, Pt.cells, Pt.slots] at X23 l23 y23 z23 st23 hQ23
      subst l23 y23 z23
      obtain ⟨rfl, N23, K23, Ex23, Fc23, tt23, kb23, -, -, -, Fv23, Kb23⟩ := hQ23
      refine own_thruH st23 ?_
      show own_EH _ _ _ _ _ _ _ _ _ T23 (mkF m 53 #[.val (.int k), .val (.int x), .val (.int y)] [(.ref b19)])
      have hk := Nat.le_trans hk K23.1
      have CR := CR.trans (CHr.keep K23 (sfS SF sf0) CR.1)
      have ecs : own_cs k x y = [x, y] := by unfold own_cs; rw [if_neg c1_10, if_neg c17_14]
      rw [ecs]
      exact own_retH X23 hx hlk hS hk (rfl : T23.heap = T23.heap) (own_endC X23 (rfl : T23.heap = T23.heap) hh hZ (own_hEL hw) CR) Bd.returns rfl (Or.inr (Or.inr (Or.inr (Or.inr ⟨rfl, rfl, rfl⟩)))) (hb hby d5_53) (by decide) (by decide) ⟨b19, rfl, (Fr.app N22 N23), (own_extK Ew22 K23 (allS go all0)), ⟨tt23, kb23, Ex23, Fv23, Fc23, Kb23⟩⟩
theorem d6_0 : decode prog_169_method_1_code 0 = .ok (.aload_n 0, 1) := by decide +kernel
theorem d6_1 : decode prog_169_method_1_code 1 = .ok (.invokespecial 1, 3) := by decide +kernel
theorem d6_4 : decode prog_169_method_1_code 4 = .ok (.aload_n 0, 1) := by decide +kernel
theorem d6_5 : decode prog_169_method_1_code 5 = .ok (.aload_n 1, 1) := by decide +kernel
theorem d6_6 : decode prog_169_method_1_code 6 = .ok (.ldc 7, 2) := by decide +kernel
theorem d6_8 : decode prog_169_method_1_code 8 = .ok (.invokestatic 9, 3) := by decide +kernel
theorem d6_11 : decode prog_169_method_1_code 11 = .ok (.checkcast 15, 3) := by decide +kernel
theorem d6_14 : decode prog_169_method_1_code 14 = .ok (.putfield 17, 3) := by decide +kernel
theorem d6_17 : decode prog_169_method_1_code 17 = .ok (.aload_n 0, 1) := by decide +kernel
theorem d6_18 : decode prog_169_method_1_code 18 = .ok (.iload_n 2, 1) := by decide +kernel
theorem d6_19 : decode prog_169_method_1_code 19 = .ok (.putfield 22, 3) := by decide +kernel
theorem d6_22 : decode prog_169_method_1_code 22 = .ok (.aload_n 0, 1) := by decide +kernel
theorem d6_23 : decode prog_169_method_1_code 23 = .ok (.iload_n 3, 1) := by decide +kernel
theorem d6_24 : decode prog_169_method_1_code 24 = .ok (.putfield 26, 3) := by decide +kernel
theorem d6_27 : decode prog_169_method_1_code 27 = .ok (.return_, 1) := by decide +kernel
theorem pn_6 : plainName "com/example/exhaust/exhaust/frontend/source/SourcePosition" = true := by first | (simp [plainName, overriddenIn]; done) | decide +kernel
theorem ef_6 (m : MethodId) (x0 : Addr) (x1 : Addr) (x2 : Int32) (x3 : Int32) : entryFrame m #[(.ref x0), (.ref x1), (.int x2), (.int x3)] 4 = mkF m 0 #[.val (.ref x0), .val (.ref x1), .val (.int x2), .val (.int x3)] [] := by first | (simp [entryFrame, mkF, argsToLocals, Value.category]; done) | rfl
theorem pd_6 : parseMethodDescriptor "(Ljava/lang/String;II)V" = some ⟨[.object "java/lang/String", .int, .int], none⟩ := by decide +kernel
set_option maxRecDepth 65536 in
set_option maxHeartbeats 40000000 in
theorem rm6 (l : Launch) (Z : State) (a0 : Array Value) (hw : ∀ d ∈ tables_1, d.before a0 Z = true) (ws : List Jvm.Cond) (o x : Addr) (li co : Int32) (h0 : Heap) (n0 : Nat) (Z0 : n0 ≤ h0.size) (go : n0 ≤ o) (EX : Exa Z h0 x "java/lang/String") (E0 : Exa Z h0 o "com/example/exhaust/exhaust/frontend/source/SourcePosition") (Ff : Fld Z h0 o "com/example/exhaust/exhaust/frontend/source/SourcePosition" "file" "Ljava/lang/String;" .null) (Fl : Fld Z h0 o "com/example/exhaust/exhaust/frontend/source/SourcePosition" "line" "I" (.int 0)) (Fc : Fld Z h0 o "com/example/exhaust/exhaust/frontend/source/SourcePosition" "column" "I" (.int 0)) :
    MetFree l (⟨"com/example/exhaust/exhaust/frontend/source/SourcePosition", "<init>", "(Ljava/lang/String;II)V"⟩ : MethodName) (head1 (Jvm.Cond.code (⟨"com/example/exhaust/exhaust/frontend/source/SourcePosition", "<init>", "(Ljava/lang/String;II)V"⟩ : MethodName) prog_169_method_1_code 4 none :: ws) ({ frames := 1, cells := 2, slots := 20, locals := 14 } : Room)) (fun a9 U9 => a9 = #[(.ref o), (.ref x), (.int li), (.int co)] ∧ Z.Warmed39 U9.vm ∧ U9.heap = h0 ∧ CHv Z own_EL U9.vm h0) (fun _ _ _ _ _ => True) (fun _ U9 o9 V9 => ∃ v9 L9, o9 = .returned v9 ∧ QP Z o x li co h0 n0 v9 V9.heap L9 ∧ CHr Z own_EL U9.vm U9.heap V9.vm V9.heap ∧ ReturnedEndW U9 o9 V9 L9 ({ frames := 1, cells := 2, slots := 20, locals := 14 } : Room).cells ({ frames := 1, cells := 2, slots := 20, locals := 14 } : Room).slots) := by
  refine MetFree.of_bodySF (plainFor_of_name pn_6) hisR ?_
  intro p e s m args below meth c s₁ Bd hml0 hP hK
  obtain ⟨rfl, hZ0, hh, CV⟩ := hP
  have hZ : Z.Warmed39 (s.setVm s.vm).vm := hZ0
  have hx := Bd.exec
  have hby := Bd.bytes
  have hlk := Bd.notSynchronized
  have hml : c.maxLocals = 4 := hml0
  have hown : (s.setVm s.vm).vm.findClass "com/example/exhaust/exhaust/frontend/source/SourcePosition" = some m.cls := findClass_of_methodNamed Bd.named
  have hnm := (name_of_methodNamed Bd.named Bd.method).1
  have X0 : Stand p l e ({ frames := 1, cells := 2, slots := 20, locals := 14 } : Room) (s.setVm s.vm) m #[(.ref o), (.ref x), (.int li), (.int co)] below meth c s₁ [] 0 0 := Stand.of_body Bd
  have e0 : s₁.heap = h0 := by rw [← hh, Bd.state]; rfl
  have N0 := Fr.nil n0
  have hS := (State.WarmedH.refl s).since h0.size
  have hk := Nat.le_refl h0.size
  have CR : CHr Z own_EL s.vm h0 s.vm h0 := CHr.refl CV
  show own_EH p e below s Z own_EL (QP Z o x li co h0 n0) _ _ s₁ (entryFrame m #[(.ref o), (.ref x), (.int li), (.int co)] 4)
  rw [ef_6]
  show own_EH _ _ _ _ _ _ _ _ _ s₁ (mkF m 0 #[.val (.ref o), .val (.ref x), .val (.int li), .val (.int co)] [])
  refine own_viaH (fun t => XS.aloadN X0.here hx rfl (hb hby d6_0) rfl rfl) ?_
  show own_EH _ _ _ _ _ _ _ _ _ s₁ (mkF m 1 #[.val (.ref o), .val (.ref x), .val (.int li), .val (.int co)] [(.ref o)])
  obtain ⟨T24, X24, e24, st24⟩ := initO X0 hx hZ hown (hw _ (List.mem_of_getElem? (i := 35) rfl)) (hw _ (List.mem_of_getElem? (i := 19) rfl)) (hw _ (List.mem_of_getElem? (i := 20) rfl)) e0 (g := (mkF m 1 #[.val (.ref o), .val (.ref x), .val (.int li), .val (.int co)] [(.ref o)])) rfl (by rw [hml]; rfl) rfl (hb hby d6_1) (by decide) (W := 0) (by show 2 * 0 + _ ≤ _; exact Nat.le_of_eq rfl) (by decide)
  refine own_viaH st24 ?_
  show own_EH _ _ _ _ _ _ _ _ _ T24 (mkF m 4 #[.val (.ref o), .val (.ref x), .val (.int li), .val (.int co)] [])
  refine own_viaH (fun t => XS.aloadN X24.here hx rfl (hb hby d6_4) rfl rfl) ?_
  show own_EH _ _ _ _ _ _ _ _ _ T24 (mkF m 5 #[.val (.ref o), .val (.ref x), .val (.int li), .val (.int co)] [(.ref o)])
  refine own_viaH (fun t => XS.aloadN X24.here hx rfl (hb hby d6_5) rfl rfl) ?_
  show own_EH _ _ _ _ _ _ _ _ _ T24 (mkF m 6 #[.val (.ref o), .val (.ref x), .val (.int li), .val (.int co)] [(.ref x), (.ref o)])
  obtain ⟨a25, T25, h25, kk25, X25, e25, E25, hS, hk, hZ, hown, C25, -, st25⟩ := ldcOH X24 hx hZ hown (hw _ (List.mem_of_getElem? (i := 36) rfl)) (own_wS hw) e24 hS hk (own_hEL hw) CR.1 (g := (mkF m 6 #[.val (.ref o), .val (.ref x), .val (.int li), .val (.int co)] [(.ref x), (.ref o)])) rfl (hb hby d6_6) (n := 16) (own_siz_f) (by decide) (by decide) (by decide)
  have CR := CR.trans C25
  have Z25 : n0 ≤ h25.size := Nat.le_trans Z0 E25.1
  refine own_viaH st25 ?_
  show own_EH _ _ _ _ _ _ _ _ _ T25 (mkF m 8 #[.val (.ref o), .val (.ref x), .val (.int li), .val (.int co)] [(.ref a25), (.ref x), (.ref o)])
  obtain ⟨_, _, ⟨T26, L26, k26, n26⟩, -, X26, ⟨Lc26, hQ26, l26, y26, z26⟩, st26⟩ := Jvm.LawKit.callS X25 hx (y := (⟨"java/util/Objects", "requireNonNull", "(Ljava/lang/Object;Ljava/lang/String;)Ljava/lang/Object;"⟩ : MethodName)) hown (mvT hZ (hw _ (List.mem_of_getElem? (i := 37) rfl))) (mvT hZ (hw _ (List.mem_of_getElem? (i := 38) rfl))) (mvT hZ (hw _ (List.mem_of_getElem? (i := 39) rfl))) (mvT hZ (hw _ (List.mem_of_getElem? (i := 40) rfl))) (by decide) (backOf (W := 1) (rm3 l Z a0 hw [] x a25 h25 n0 Z25) hZ (hw _ (List.mem_of_getElem? (i := 40) rfl)) (hw _ (List.mem_of_getElem? (i := 39) rfl)) (by decide) (by decide)) (g := (mkF m 8 #[.val (.ref o), .val (.ref x), .val (.int li), .val (.int co)] [(.ref a25), (.ref x), (.ref o)])) rfl (by rw [hml]; rfl) (argsL := [(.ref x), (.ref a25)]) (rest := [(.ref o)]) (lenOf pd_3 rfl) rfl (by show 2 * 0 + _ ≤ _; exact Nat.le_of_eq rfl) (hb hby d6_8) (fun _ _ => ⟨rfl, e25, (by decide : 2 + 0 ≤ _), (by decide : 20 + 0 ≤ _)⟩)
  dsimp only [Pt.U, Pt.locs, Pt.cells, Pt.slots] at X26 l26 y26 z26 st26 hQ26
  subst l26 y26 z26
  obtain ⟨rfl, N26, e26⟩ := hQ26
  refine own_viaH st26 ?_
  show own_EH _ _ _ _ _ _ _ _ _ T26 (mkF m 11 #[.val (.ref o), .val (.ref x), .val (.int li), .val (.int co)] [(.ref x), (.ref o)])
  have NA := Fr.app N0 N26
  obtain ⟨T27, X27, e27, st27⟩ := castY X26 hx hZ hown (hw _ (List.mem_of_getElem? (i := 41) rfl)) e26 (Ins.self (EX.ext E25)) (g := (mkF m 11 #[.val (.ref o), .val (.ref x), .val (.int li), .val (.int co)] [(.ref x), (.ref o)])) rfl rfl (hb hby d6_11)
  refine own_viaH st27 ?_
  show own_EH _ _ _ _ _ _ _ _ _ T27 (mkF m 14 #[.val (.ref o), .val (.ref x), .val (.int li), .val (.int co)] [(.ref x), (.ref o)])
  obtain ⟨T28, h28, X28, e28, W28, st28⟩ := putF X27 hx hZ hown (host := "") (Or.inl (hw _ (List.mem_of_getElem? (i := 42) rfl))) Via.refl e27 (Ff.ext E25) (E0.ext E25) (Or.inr ⟨(hw _ (List.mem_of_getElem? (i := 43) rfl)), rfl, hnm⟩) (hw _ (List.mem_of_getElem? (i := 30) rfl)) (ty := .object "java/lang/String") (by decide) rfl rfl (g := (mkF m 14 #[.val (.ref o), .val (.ref x), .val (.int li), .val (.int co)] [(.ref x), (.ref o)])) rfl rfl (hb hby d6_14)
  have N28 := Fr.snoc X28 NA go
  refine own_viaH st28 ?_
  show own_EH _ _ _ _ _ _ _ _ _ T28 (mkF m 17 #[.val (.ref o), .val (.ref x), .val (.int li), .val (.int co)] [])
  have Z28 := Nat.le_trans Z25 (Nat.le_of_eq W28.size.symm)
  have hk := Nat.le_trans hk (Nat.le_of_eq W28.size.symm)
  have SW28 : Safe Z own_EL _ _ _ := Safe.exa hZ.alike (E0.ext E25) (by decide) (by decide)
  have CR0 := CR.1
  have CR := CR.trans (CHr.wr W28 SW28 CR.1)
  have Ea := (E0.ext E25).wr W28
  have Ffa := (Ff.ext E25).same W28
  have Fla := (Fl.ext E25).other W28 (Or.inr (slot_ne (Or.inr (hw _ (List.mem_of_getElem? (i := 45) rfl))) (Or.inr (hw _ (List.mem_of_getElem? (i := 43) rfl))) (by decide) (t := .int) (t' := (.object "java/lang/String")) (by decide) (by decide)))
  have Fca := (Fc.ext E25).other W28 (Or.inr (slot_ne (Or.inr (hw _ (List.mem_of_getElem? (i := 47) rfl))) (Or.inr (hw _ (List.mem_of_getElem? (i := 43) rfl))) (by decide) (t := .int) (t' := (.object "java/lang/String")) (by decide) (by decide)))
  refine own_viaH (fun t => XS.aloadN X28.here hx rfl (hb hby d6_17) rfl rfl) ?_
  show own_EH _ _ _ _ _ _ _ _ _ T28 (mkF m 18 #[.val (.ref o), .val (.ref x), .val (.int li), .val (.int co)] [(.ref o)])
  refine own_viaH (fun t => XS.iloadN X28.here hx rfl (hb hby d6_18) rfl) ?_
  show own_EH _ _ _ _ _ _ _ _ _ T28 (mkF m 19 #[.val (.ref o), .val (.ref x), .val (.int li), .val (.int co)] [(.int li), (.ref o)])
  obtain ⟨T29, h29, X29, e29, W29, st29⟩ := putF X28 hx hZ hown (host := "") (Or.inl (hw _ (List.mem_of_getElem? (i := 44) rfl))) Via.refl e28 Fla Ea (Or.inr ⟨(hw _ (List.mem_of_getElem? (i := 45) rfl)), rfl, hnm⟩) (hw _ (List.mem_of_getElem? (i := 30) rfl)) (ty := .int) (by decide) rfl rfl (g := (mkF m 19 #[.val (.ref o), .val (.ref x), .val (.int li), .val (.int co)] [(.int li), (.ref o)])) rfl rfl (hb hby d6_19)
  have N29 := Fr.snoc X29 N28 go
  refine own_viaH st29 ?_
  show own_EH _ _ _ _ _ _ _ _ _ T29 (mkF m 22 #[.val (.ref o), .val (.ref x), .val (.int li), .val (.int co)] [])
  have Z29 := Nat.le_trans Z28 (Nat.le_of_eq W29.size.symm)
  have hk := Nat.le_trans hk (Nat.le_of_eq W29.size.symm)
  have SW29 : Safe Z own_EL _ _ _ := Safe.exa hZ.alike Ea (by decide) (by decide)
  have CR0 := CR.1
  have CR := CR.trans (CHr.wr W29 SW29 CR.1)
  have Eb := Ea.wr W29
  have Ffb := Ffa.other W29 (Or.inr (slot_ne (Or.inr (hw _ (List.mem_of_getElem? (i := 43) rfl))) (Or.inr (hw _ (List.mem_of_getElem? (i := 45) rfl))) (by decide) (t := (.object "java/lang/String")) (t' := .int) (by decide) (by decide)))
  have Flb := Fla.same W29
  have Fcb := Fca.other W29 (Or.inr (slot_ne (Or.inr (hw _ (List.mem_of_getElem? (i := 47) rfl))) (Or.inr (hw _ (List.mem_of_getElem? (i := 45) rfl))) (by decide) (t := .int) (t' := .int) (by decide) (by decide)))
  refine own_viaH (fun t => XS.aloadN X29.here hx rfl (hb hby d6_22) rfl rfl) ?_
  show own_EH _ _ _ _ _ _ _ _ _ T29 (mkF m 23 #[.val (.ref o), .val (.ref x), .val (.int li), .val (.int co)] [(.ref o)])
  refine own_viaH (fun t => XS.iloadN X29.here hx rfl (hb hby d6_23) rfl) ?_
  show own_EH _ _ _ _ _ _ _ _ _ T29 (mkF m 24 #[.val (.ref o), .val (.ref x), .val (.int li), .val (.int co)] [(.int co), (.ref o)])
  obtain ⟨T30, h30, X30, e30, W30, st30⟩ := putF X29 hx hZ hown (host := "") (Or.inl (hw _ (List.mem_of_getElem? (i := 46) rfl))) Via.refl e29 Fcb Eb (Or.inr ⟨(hw _ (List.mem_of_getElem? (i := 47) rfl)), rfl, hnm⟩) (hw _ (List.mem_of_getElem? (i := 30) rfl)) (ty := .int) (by decide) rfl rfl (g := (mkF m 24 #[.val (.ref o), .val (.ref x), .val (.int li), .val (.int co)] [(.int co), (.ref o)])) rfl rfl (hb hby d6_24)
  have N30 := Fr.snoc X30 N29 go
  refine own_viaH st30 ?_
  show own_EH _ _ _ _ _ _ _ _ _ T30 (mkF m 27 #[.val (.ref o), .val (.ref x), .val (.int li), .val (.int co)] [])
  have Z30 := Nat.le_trans Z29 (Nat.le_of_eq W30.size.symm)
  have hk := Nat.le_trans hk (Nat.le_of_eq W30.size.symm)
  have SW30 : Safe Z own_EL _ _ _ := Safe.exa hZ.alike Eb (by decide) (by decide)
  have CR0 := CR.1
  have CR := CR.trans (CHr.wr W30 SW30 CR.1)
  refine own_retVH X30 hx hlk hS hk e30 (own_endC X30 e30 hh hZ (own_hEL hw) CR) Bd.returns (hb hby d6_27) (by decide) (by decide) ?_
  rw [e30]
  exact ⟨rfl, N30, ((((Keep.refl h0 [o]).ext E25).wr W28 (Or.inl (List.mem_of_getElem? (i := 0) rfl))).wr W29 (Or.inl (List.mem_of_getElem? (i := 0) rfl))).wr W30 (Or.inl (List.mem_of_getElem? (i := 0) rfl)), Eb.wr W30, Ffb.other W30 (Or.inr (slot_ne (Or.inr (hw _ (List.mem_of_getElem? (i := 43) rfl))) (Or.inr (hw _ (List.mem_of_getElem? (i := 47) rfl))) (by decide) (t := (.object "java/lang/String")) (t' := .int) (by decide) (by decide))), Flb.other W30 (Or.inr (slot_ne (Or.inr (hw _ (List.mem_of_getElem? (i := 45) rfl))) (Or.inr (hw _ (List.mem_of_getElem? (i := 47) rfl))) (by decide) (t := .int) (t' := .int) (by decide) (by decide))), Fcb.same W30⟩
theorem d7_0 : decode method_4_code 0 = .ok (.iload_n 0, 1) := by decide +kernel
theorem d7_1 : decode method_4_code 1 = .ok (.iload_n 3, 1) := by decide +kernel
theorem d7_2 : decode method_4_code 2 = .ok (.if_icmp .eq 5, 3) := by decide +kernel
theorem d7_5 : decode method_4_code 5 = .ok (.iconst 0, 1) := by decide +kernel
theorem d7_6 : decode method_4_code 6 = .ok (.ireturn, 1) := by decide +kernel
theorem d7_7 : decode method_4_code 7 = .ok (.iload_n 0, 1) := by decide +kernel
theorem d7_8 : decode method_4_code 8 = .ok (.iconst 1, 1) := by decide +kernel
theorem d7_9 : decode method_4_code 9 = .ok (.if_icmp .lt 11, 3) := by decide +kernel
theorem d7_12 : decode method_4_code 12 = .ok (.iload_n 1, 1) := by decide +kernel
theorem d7_13 : decode method_4_code 13 = .ok (.iload 4, 2) := by decide +kernel
theorem d7_15 : decode method_4_code 15 = .ok (.if_icmp .eq 5, 3) := by decide +kernel
theorem d7_18 : decode method_4_code 18 = .ok (.iconst 0, 1) := by decide +kernel
theorem d7_19 : decode method_4_code 19 = .ok (.ireturn, 1) := by decide +kernel
theorem d7_20 : decode method_4_code 20 = .ok (.iload_n 0, 1) := by decide +kernel
theorem d7_21 : decode method_4_code 21 = .ok (.iconst 2, 1) := by decide +kernel
theorem d7_22 : decode method_4_code 22 = .ok (.if_icmp .lt 11, 3) := by decide +kernel
theorem d7_25 : decode method_4_code 25 = .ok (.iload_n 2, 1) := by decide +kernel
theorem d7_26 : decode method_4_code 26 = .ok (.iload 5, 2) := by decide +kernel
theorem d7_28 : decode method_4_code 28 = .ok (.if_icmp .eq 5, 3) := by decide +kernel
theorem d7_31 : decode method_4_code 31 = .ok (.iconst 0, 1) := by decide +kernel
theorem d7_32 : decode method_4_code 32 = .ok (.ireturn, 1) := by decide +kernel
theorem d7_33 : decode method_4_code 33 = .ok (.iconst 1, 1) := by decide +kernel
theorem d7_34 : decode method_4_code 34 = .ok (.ireturn, 1) := by decide +kernel
theorem pn_7 : plainName "com/example/exhaust/exhaust/frontend/source/SourcePositionEqualsPinLaw" = true := by first | (simp [plainName, overriddenIn]; done) | decide +kernel
theorem ef_7 (m : MethodId) (x0 : Int32) (x1 : Int32) (x2 : Int32) (x3 : Int32) (x4 : Int32) (x5 : Int32) : entryFrame m #[(.int x0), (.int x1), (.int x2), (.int x3), (.int x4), (.int x5)] 6 = mkF m 0 #[.val (.int x0), .val (.int x1), .val (.int x2), .val (.int x3), .val (.int x4), .val (.int x5)] [] := by first | (simp [entryFrame, mkF, argsToLocals, Value.category]; done) | rfl
theorem pd_7 : parseMethodDescriptor "(ICCICC)Z" = some ⟨[.int, .char, .char, .int, .char, .char], some .boolean⟩ := by decide +kernel
def own_same (na a0 a1 nb b0 b1 : Int32) : Int32 := if own_cs na a0 a1 = own_cs nb b0 b1 then 1 else 0
theorem own_cs_n {na a0 a1 nb b0 b1 : Int32} (ha : own_n na) (hb : own_n nb) (h : own_cs na a0 a1 = own_cs nb b0 b1) : na = nb := by
  rcases ha with rfl | rfl | rfl <;> rcases hb with rfl | rfl | rfl <;> first | rfl | (have q := congrArg List.length h; rw [own_cs_ll, own_cs_ll] at q; exact absurd q (by decide))
theorem own_hd {n x0 x1 y0 y1 : Int32} (h : own_cs n x0 x1 = own_cs n y0 y1) (h0 : ¬ n = 0) : x0 = y0 := by
  unfold own_cs at h
  rw [if_neg h0, if_neg h0] at h
  by_cases r : n = 1
  · rw [if_pos r, if_pos r] at h; exact (List.cons.inj h).1
  · rw [if_neg r, if_neg r] at h; exact (List.cons.inj h).1
theorem own_tl {n x0 x1 y0 y1 : Int32} (h : own_cs n x0 x1 = own_cs n y0 y1) (h0 : ¬ n = 0) (r : ¬ n = 1) : x1 = y1 := by
  unfold own_cs at h
  rw [if_neg h0, if_neg h0, if_neg r, if_neg r] at h
  exact (List.cons.inj (List.cons.inj h).2).1
theorem own_same_no {na a0 a1 nb b0 b1 : Int32} (h : ¬ own_cs na a0 a1 = own_cs nb b0 b1) : (0 : Int32) = own_same na a0 a1 nb b0 b1 := (if_neg h).symm
theorem own_same_yes {na a0 a1 nb b0 b1 : Int32} (h : own_cs na a0 a1 = own_cs nb b0 b1) : (1 : Int32) = own_same na a0 a1 nb b0 b1 := (if_pos h).symm
theorem own_same_b (na a0 a1 nb b0 b1 : Int32) : nar .boolean (own_same na a0 a1 nb b0 b1) = own_same na a0 a1 nb b0 b1 := by unfold own_same; split <;> rfl
theorem own_st0 {n : Int32} (h : own_n n) (q : n < 1) : n = 0 := by rcases h with rfl | rfl | rfl <;> first | rfl | (exact absurd q (by decide))
theorem own_st1 {n : Int32} (h : own_n n) (q : ¬ n < 1) : ¬ n = 0 := fun r => q (by rw [r]; decide)
theorem own_st2 {n : Int32} (h : own_n n) (q0 : ¬ n < 1) (q : n < 2) : n = 1 := by rcases h with rfl | rfl | rfl <;> first | rfl | (exact absurd q (by decide)) | (exact absurd (by decide) q0)
theorem own_st3 {n : Int32} (h : own_n n) (q : ¬ n < 2) : n = 2 := by rcases h with rfl | rfl | rfl <;> first | rfl | (exact absurd (by decide) q)
set_option maxRecDepth 65536 in
set_option maxHeartbeats 40000000 in
theorem rm7 (l : Launch) (Z : State) (a0 : Array Value) (hw : ∀ d ∈ tables_1, d.before a0 Z = true) (ws : List Jvm.Cond) (na x0 x1 nb y0 y1 : Int32) (hna : own_n na) (hnb : own_n nb) (h0 : Heap) (n0 : Nat) (Z0 : n0 ≤ h0.size) :
    MetFree l (⟨"com/example/exhaust/exhaust/frontend/source/SourcePositionEqualsPinLaw", "sameText", "(ICCICC)Z"⟩ : MethodName) (head1 (Jvm.Cond.code (⟨"com/example/exhaust/exhaust/frontend/source/SourcePositionEqualsPinLaw", "sameText", "(ICCICC)Z"⟩ : MethodName) method_4_code 6 (some .boolean) :: ws) ({ frames := 0, cells := 0, slots := 0, locals := 0 } : Room)) (fun a9 U9 => a9 = #[(.int na), (.int x0), (.int x1), (.int nb), (.int y0), (.int y1)] ∧ Z.Warmed39 U9.vm ∧ U9.heap = h0) (fun _ _ _ _ _ => True) (fun _ U9 o9 V9 => ∃ v9 L9, o9 = .returned v9 ∧ QI (own_same na x0 x1 nb y0 y1) h0 n0 v9 V9.heap L9 ∧ FrameEnd U9 o9 V9 L9 ({ frames := 0, cells := 0, slots := 0, locals := 0 } : Room).cells ({ frames := 0, cells := 0, slots := 0, locals := 0 } : Room).slots) := by
  refine MetFree.of_bodySF (plainFor_of_name pn_7) hisR ?_
  intro p e s m args below meth c s₁ Bd hml0 hP hK
  obtain ⟨rfl, hZ, hh⟩ := hP
  have hx := Bd.exec
  have hby := Bd.bytes
  have hlk := Bd.notSynchronized
  have hml : c.maxLocals = 6 := hml0
  have hown : s.vm.findClass "com/example/exhaust/exhaust/frontend/source/SourcePositionEqualsPinLaw" = some m.cls := findClass_of_methodNamed Bd.named
  have hnm := (name_of_methodNamed Bd.named Bd.method).1
  have X0 : Stand p l e ({ frames := 0, cells := 0, slots := 0, locals := 0 } : Room) s m #[(.int na), (.int x0), (.int x1), (.int nb), (.int y0), (.int y1)] below meth c s₁ [] 0 0 := Stand.of_body Bd
  have e0 : s₁.heap = h0 := by rw [← hh, Bd.state]; rfl
  have N0 := Fr.nil n0
  show own_E p e below s (QI (own_same na x0 x1 nb y0 y1) h0 n0) _ _ s₁ (entryFrame m #[(.int na), (.int x0), (.int x1), (.int nb), (.int y0), (.int y1)] 6)
  rw [ef_7]
  show own_E _ _ _ _ _ _ _ s₁ (mkF m 0 #[.val (.int na), .val (.int x0), .val (.int x1), .val (.int nb), .val (.int y0), .val (.int y1)] [])
  refine own_via (fun t => XS.iloadN X0.here hx rfl (hb hby d7_0) rfl) ?_
  show own_E _ _ _ _ _ _ _ s₁ (mkF m 1 #[.val (.int na), .val (.int x0), .val (.int x1), .val (.int nb), .val (.int y0), .val (.int y1)] [(.int na)])
  refine own_via (fun t => XS.iloadN X0.here hx rfl (hb hby d7_1) rfl) ?_
  show own_E _ _ _ _ _ _ _ s₁ (mkF m 2 #[.val (.int na), .val (.int x0), .val (.int x1), .val (.int nb), .val (.int y0), .val (.int y1)] [(.int nb), (.int na)])
  by_cases c2_31 : na = nb
  · refine own_via (fun t => XS.icmpYes X0.here hx rfl (pc0 := 2) (pc' := 7) rfl (hb hby d7_2) rfl (teq c2_31).1 (by decide) (by decide)) ?_
    show own_E _ _ _ _ _ _ _ s₁ (mkF m 7 #[.val (.int na), .val (.int x0), .val (.int x1), .val (.int nb), .val (.int y0), .val (.int y1)] [])
    refine own_via (fun t => XS.iloadN X0.here hx rfl (hb hby d7_7) rfl) ?_
    show own_E _ _ _ _ _ _ _ s₁ (mkF m 8 #[.val (.int na), .val (.int x0), .val (.int x1), .val (.int nb), .val (.int y0), .val (.int y1)] [(.int na)])
    refine own_via (fun t => XS.iconst X0.here hx rfl (hb hby d7_8)) ?_
    show own_E _ _ _ _ _ _ _ s₁ (mkF m 9 #[.val (.int na), .val (.int x0), .val (.int x1), .val (.int nb), .val (.int y0), .val (.int y1)] [(.int (1 : Int32)), (.int na)])
    by_cases c9_32 : na < (1 : Int32)
    · refine own_via (fun t => XS.icmpYes X0.here hx rfl (pc0 := 9) (pc' := 20) rfl (hb hby d7_9) rfl (tlt c9_32).1 (by decide) (by decide)) ?_
      show own_E _ _ _ _ _ _ _ s₁ (mkF m 20 #[.val (.int na), .val (.int x0), .val (.int x1), .val (.int nb), .val (.int y0), .val (.int y1)] [])
      refine own_via (fun t => XS.iloadN X0.here hx rfl (hb hby d7_20) rfl) ?_
      show own_E _ _ _ _ _ _ _ s₁ (mkF m 21 #[.val (.int na), .val (.int x0), .val (.int x1), .val (.int nb), .val (.int y0), .val (.int y1)] [(.int na)])
      refine own_via (fun t => XS.iconst X0.here hx rfl (hb hby d7_21)) ?_
      show own_E _ _ _ _ _ _ _ s₁ (mkF m 22 #[.val (.int na), .val (.int x0), .val (.int x1), .val (.int nb), .val (.int y0), .val (.int y1)] [(.int (2 : Int32)), (.int na)])
      refine own_via (fun t => XS.icmpYes X0.here hx rfl (pc0 := 22) (pc' := 33) rfl (hb hby d7_22) rfl (tlt (by rw [own_st0 hna c9_32]; decide)).1 (by decide) (by decide)) ?_
      show own_E _ _ _ _ _ _ _ s₁ (mkF m 33 #[.val (.int na), .val (.int x0), .val (.int x1), .val (.int nb), .val (.int y0), .val (.int y1)] [])
      refine own_via (fun t => XS.iconst X0.here hx rfl (hb hby d7_33)) ?_
      show own_E _ _ _ _ _ _ _ s₁ (mkF m 34 #[.val (.int na), .val (.int x0), .val (.int x1), .val (.int nb), .val (.int y0), .val (.int y1)] [(.int (1 : Int32))])
      exact own_retN X0 hx hlk Bd.returns (Or.inl rfl) (hb hby d7_34) (Nat.le_refl _) (Nat.le_refl _) ⟨congrArg (fun z => some (Value.int z)) (show (1 : Int32) = _ from own_same_yes (by rw [← c2_31, own_st0 hna c9_32]; rfl)), N0, e0⟩
    · refine own_via (fun t => XS.icmpNo X0.here hx rfl (hb hby d7_9) rfl (flt c9_32).1) ?_
      show own_E _ _ _ _ _ _ _ s₁ (mkF m 12 #[.val (.int na), .val (.int x0), .val (.int x1), .val (.int nb), .val (.int y0), .val (.int y1)] [])
      refine own_via (fun t => XS.iloadN X0.here hx rfl (hb hby d7_12) rfl) ?_
      show own_E _ _ _ _ _ _ _ s₁ (mkF m 13 #[.val (.int na), .val (.int x0), .val (.int x1), .val (.int nb), .val (.int y0), .val (.int y1)] [(.int x0)])
      refine own_via (fun t => XS.iload X0.here hx rfl (hb hby d7_13) rfl) ?_
      show own_E _ _ _ _ _ _ _ s₁ (mkF m 15 #[.val (.int na), .val (.int x0), .val (.int x1), .val (.int nb), .val (.int y0), .val (.int y1)] [(.int y0), (.int x0)])
      by_cases c15_33 : x0 = y0
      · refine own_via (fun t => XS.icmpYes X0.here hx rfl (pc0 := 15) (pc' := 20) rfl (hb hby d7_15) rfl (teq c15_33).1 (by decide) (by decide)) ?_
        show own_E _ _ _ _ _ _ _ s₁ (mkF m 20 #[.val (.int na), .val (.int x0), .val (.int x1), .val (.int nb), .val (.int y0), .val (.int y1)] [])
        refine own_via (fun t => XS.iloadN X0.here hx rfl (hb hby d7_20) rfl) ?_
        show own_E _ _ _ _ _ _ _ s₁ (mkF m 21 #[.val (.int na), .val (.int x0), .val (.int x1), .val (.int nb), .val (.int y0), .val (.int y1)] [(.int na)])
        refine own_via (fun t => XS.iconst X0.here hx rfl (hb hby d7_21)) ?_
        show own_E _ _ _ _ _ _ _ s₁ (mkF m 22 #[.val (.int na), .val (.int x0), .val (.int x1), .val (.int nb), .val (.int y0), .val (.int y1)] [(.int (2 : Int32)), (.int na)])
        by_cases c22_34 : na < (2 : Int32)
        · refine own_via (fun t => XS.icmpYes X0.here hx rfl (pc0 := 22) (pc' := 33) rfl (hb hby d7_22) rfl (tlt c22_34).1 (by decide) (by decide)) ?_
          show own_E _ _ _ _ _ _ _ s₁ (mkF m 33 #[.val (.int na), .val (.int x0), .val (.int x1), .val (.int nb), .val (.int y0), .val (.int y1)] [])
          refine own_via (fun t => XS.iconst X0.here hx rfl (hb hby d7_33)) ?_
          show own_E _ _ _ _ _ _ _ s₁ (mkF m 34 #[.val (.int na), .val (.int x0), .val (.int x1), .val (.int nb), .val (.int y0), .val (.int y1)] [(.int (1 : Int32))])
          exact own_retN X0 hx hlk Bd.returns (Or.inl rfl) (hb hby d7_34) (Nat.le_refl _) (Nat.le_refl _) ⟨congrArg (fun z => some (Value.int z)) (show (1 : Int32) = _ from own_same_yes (by rw [← c2_31, own_st2 hna c9_32 c22_34, c15_33]; rfl)), N0, e0⟩
        · refine own_via (fun t => XS.icmpNo X0.here hx rfl (hb hby d7_22) rfl (flt c22_34).1) ?_
          show own_E _ _ _ _ _ _ _ s₁ (mkF m 25 #[.val (.int na), .val (.int x0), .val (.int x1), .val (.int nb), .val (.int y0), .val (.int y1)] [])
          refine own_via (fun t => XS.iloadN X0.here hx rfl (hb hby d7_25) rfl) ?_
          show own_E _ _ _ _ _ _ _ s₁ (mkF m 26 #[.val (.int na), .val (.int x0), .val (.int x1), .val (.int nb), .val (.int y0), .val (.int y1)] [(.int x1)])
          refine own_via (fun t => XS.iload X0.here hx rfl (hb hby d7_26) rfl) ?_
          show own_E _ _ _ _ _ _ _ s₁ (mkF m 28 #[.val (.int na), .val (.int x0), .val (.int x1), .val (.int nb), .val (.int y0), .val (.int y1)] [(.int y1), (.int x1)])
          by_cases c28_35 : x1 = y1
          · refine own_via (fun t => XS.icmpYes X0.here hx rfl (pc0 := 28) (pc' := 33) rfl (hb hby d7_28) rfl (teq c28_35).1 (by decide) (by decide)) ?_
            show own_E _ _ _ _ _ _ _ s₁ (mkF m 33 #[.val (.int na), .val (.int x0), .val (.int x1), .val (.int nb), .val (.int y0), .val (.int y1)] [])
            refine own_via (fun t => XS.iconst X0.here hx rfl (hb hby d7_33)) ?_
            show own_E _ _ _ _ _ _ _ s₁ (mkF m 34 #[.val (.int na), .val (.int x0), .val (.int x1), .val (.int nb), .val (.int y0), .val (.int y1)] [(.int (1 : Int32))])
            exact own_retN X0 hx hlk Bd.returns (Or.inl rfl) (hb hby d7_34) (Nat.le_refl _) (Nat.le_refl _) ⟨congrArg (fun z => some (Value.int z)) (show (1 : Int32) = _ from own_same_yes (by rw [← c2_31, c15_33, c28_35])), N0, e0⟩
          · refine own_via (fun t => XS.icmpNo X0.here hx rfl (hb hby d7_28) rfl (feq c28_35).1) ?_
            show own_E _ _ _ _ _ _ _ s₁ (mkF m 31 #[.val (.int na), .val (.int x0), .val (.int x1), .val (.int nb), .val (.int y0), .val (.int y1)] [])
            refine own_via (fun t => XS.iconst X0.here hx rfl (hb hby d7_31)) ?_
            show own_E _ _ _ _ _ _ _ s₁ (mkF m 32 #[.val (.int na), .val (.int x0), .val (.int x1), .val (.int nb), .val (.int y0), .val (.int y1)] [(.int (0 : Int32))])
            exact own_retN X0 hx hlk Bd.returns (Or.inl rfl) (hb hby d7_32) (Nat.le_refl _) (Nat.le_refl _) ⟨congrArg (fun z => some (Value.int z)) (show (0 : Int32) = _ from own_same_no (fun q => c28_35 (own_tl (by rw [← c2_31] at q; exact q) (by rw [own_st3 hna c22_34]; decide) (by rw [own_st3 hna c22_34]; decide)))), N0, e0⟩
      · refine own_via (fun t => XS.icmpNo X0.here hx rfl (hb hby d7_15) rfl (feq c15_33).1) ?_
        show own_E _ _ _ _ _ _ _ s₁ (mkF m 18 #[.val (.int na), .val (.int x0), .val (.int x1), .val (.int nb), .val (.int y0), .val (.int y1)] [])
        refine own_via (fun t => XS.iconst X0.here hx rfl (hb hby d7_18)) ?_
        show own_E _ _ _ _ _ _ _ s₁ (mkF m 19 #[.val (.int na), .val (.int x0), .val (.int x1), .val (.int nb), .val (.int y0), .val (.int y1)] [(.int (0 : Int32))])
        exact own_retN X0 hx hlk Bd.returns (Or.inl rfl) (hb hby d7_19) (Nat.le_refl _) (Nat.le_refl _) ⟨congrArg (fun z => some (Value.int z)) (show (0 : Int32) = _ from own_same_no (fun q => c15_33 (own_hd (by rw [← c2_31] at q; exact q) (own_st1 hna c9_32)))), N0, e0⟩
  · refine own_via (fun t => XS.icmpNo X0.here hx rfl (hb hby d7_2) rfl (feq c2_31).1) ?_
    show own_E _ _ _ _ _ _ _ s₁ (mkF m 5 #[.val (.int na), .val (.int x0), .val (.int x1), .val (.int nb), .val (.int y0), .val (.int y1)] [])
    refine own_via (fun t => XS.iconst X0.here hx rfl (hb hby d7_5)) ?_
    show own_E _ _ _ _ _ _ _ s₁ (mkF m 6 #[.val (.int na), .val (.int x0), .val (.int x1), .val (.int nb), .val (.int y0), .val (.int y1)] [(.int (0 : Int32))])
    exact own_retN X0 hx hlk Bd.returns (Or.inl rfl) (hb hby d7_6) (Nat.le_refl _) (Nat.le_refl _) ⟨congrArg (fun z => some (Value.int z)) (show (0 : Int32) = _ from own_same_no (fun q => c2_31 (own_cs_n hna hnb q))), N0, e0⟩
theorem d8_0 : decode prog_169_method_6_code 0 = .ok (.aload_n 1, 1) := by decide +kernel
theorem d8_1 : decode prog_169_method_6_code 1 = .ok (.instanceof 18, 3) := by decide +kernel
theorem d8_4 : decode prog_169_method_6_code 4 = .ok (.ifCond .ne 5, 3) := by decide +kernel
theorem d8_7 : decode prog_169_method_6_code 7 = .ok (.iconst 0, 1) := by decide +kernel
theorem d8_8 : decode prog_169_method_6_code 8 = .ok (.ireturn, 1) := by decide +kernel
theorem d8_9 : decode prog_169_method_6_code 9 = .ok (.aload_n 1, 1) := by decide +kernel
theorem d8_10 : decode prog_169_method_6_code 10 = .ok (.checkcast 18, 3) := by decide +kernel
theorem d8_13 : decode prog_169_method_6_code 13 = .ok (.astore_n 2, 1) := by decide +kernel
theorem d8_14 : decode prog_169_method_6_code 14 = .ok (.aload_n 0, 1) := by decide +kernel
theorem d8_15 : decode prog_169_method_6_code 15 = .ok (.getfield 17, 3) := by decide +kernel
theorem d8_18 : decode prog_169_method_6_code 18 = .ok (.aload_n 2, 1) := by decide +kernel
theorem d8_19 : decode prog_169_method_6_code 19 = .ok (.getfield 17, 3) := by decide +kernel
theorem d8_22 : decode prog_169_method_6_code 22 = .ok (.invokevirtual 33, 3) := by decide +kernel
theorem d8_25 : decode prog_169_method_6_code 25 = .ok (.ifCond .eq 29, 3) := by decide +kernel
theorem d8_28 : decode prog_169_method_6_code 28 = .ok (.aload_n 0, 1) := by decide +kernel
theorem d8_29 : decode prog_169_method_6_code 29 = .ok (.getfield 22, 3) := by decide +kernel
theorem d8_32 : decode prog_169_method_6_code 32 = .ok (.aload_n 2, 1) := by decide +kernel
theorem d8_33 : decode prog_169_method_6_code 33 = .ok (.getfield 22, 3) := by decide +kernel
theorem d8_36 : decode prog_169_method_6_code 36 = .ok (.if_icmp .ne 18, 3) := by decide +kernel
theorem d8_39 : decode prog_169_method_6_code 39 = .ok (.aload_n 0, 1) := by decide +kernel
theorem d8_40 : decode prog_169_method_6_code 40 = .ok (.getfield 26, 3) := by decide +kernel
theorem d8_43 : decode prog_169_method_6_code 43 = .ok (.aload_n 2, 1) := by decide +kernel
theorem d8_44 : decode prog_169_method_6_code 44 = .ok (.getfield 26, 3) := by decide +kernel
theorem d8_47 : decode prog_169_method_6_code 47 = .ok (.if_icmp .ne 7, 3) := by decide +kernel
theorem d8_50 : decode prog_169_method_6_code 50 = .ok (.iconst 1, 1) := by decide +kernel
theorem d8_51 : decode prog_169_method_6_code 51 = .ok (.goto 4, 3) := by decide +kernel
theorem d8_54 : decode prog_169_method_6_code 54 = .ok (.iconst 0, 1) := by decide +kernel
theorem d8_55 : decode prog_169_method_6_code 55 = .ok (.ireturn, 1) := by decide +kernel
theorem pn_8 : plainName "com/example/exhaust/exhaust/frontend/source/SourcePosition" = true := by first | (simp [plainName, overriddenIn]; done) | decide +kernel
theorem ef_8 (m : MethodId) (x0 : Addr) (x1 : Addr) : entryFrame m #[(.ref x0), (.ref x1)] 3 = mkF m 0 #[.val (.ref x0), .val (.ref x1), .unset] [] := by first | (simp [entryFrame, mkF, argsToLocals, Value.category]; done) | rfl
theorem ef_8n (m : MethodId) (x0 : Addr) : entryFrame m #[(.ref x0), .null] 3 = mkF m 0 #[.val (.ref x0), .val .null, .unset] [] := by first | (simp [entryFrame, mkF, argsToLocals, Value.category]; done) | rfl
theorem ef_8s (m : MethodId) (x0 : Addr) (x1 : Addr) : entryFrame m #[(.ref x0), (.ref x1)] 3 = mkF m 0 #[.val (.ref x0), .val (.ref x1), .unset] [] := by first | (simp [entryFrame, mkF, argsToLocals, Value.category]; done) | rfl
theorem pn_8n : plainName "com/example/exhaust/exhaust/frontend/source/SourcePosition" = true := by first | (simp [plainName, overriddenIn]; done) | decide +kernel
theorem pn_8s : plainName "com/example/exhaust/exhaust/frontend/source/SourcePosition" = true := by first | (simp [plainName, overriddenIn]; done) | decide +kernel
theorem pd_8 : parseMethodDescriptor "(Ljava/lang/Object;)Z" = some ⟨[.object "java/lang/Object"], some .boolean⟩ := by decide +kernel
set_option maxRecDepth 65536 in
set_option maxHeartbeats 40000000 in
theorem rm8n (l : Launch) (Z : State) (a0 : Array Value) (hw : ∀ d ∈ tables_1, d.before a0 Z = true) (ws : List Jvm.Cond) (o : Addr) (h0 : Heap) (n0 : Nat) (Z0 : n0 ≤ h0.size) :
    MetFree l (⟨"com/example/exhaust/exhaust/frontend/source/SourcePosition", "equals", "(Ljava/lang/Object;)Z"⟩ : MethodName) (head1 (Jvm.Cond.code (⟨"com/example/exhaust/exhaust/frontend/source/SourcePosition", "equals", "(Ljava/lang/Object;)Z"⟩ : MethodName) prog_169_method_6_code 3 (some .boolean) :: ws) ({ frames := 2, cells := 0, slots := 0, locals := 28 } : Room)) (fun a9 U9 => a9 = #[(.ref o), .null] ∧ Z.Warmed39 U9.vm ∧ U9.heap = h0) (fun _ _ _ _ _ => True) (fun _ U9 o9 V9 => ∃ v9 L9, o9 = .returned v9 ∧ QI 0 h0 n0 v9 V9.heap L9 ∧ FrameEnd U9 o9 V9 L9 ({ frames := 2, cells := 0, slots := 0, locals := 28 } : Room).cells ({ frames := 2, cells := 0, slots := 0, locals := 28 } : Room).slots) := by
  refine MetFree.of_bodySF (plainFor_of_name pn_8n) hisR ?_
  intro p e s m args below meth c s₁ Bd hml0 hP hK
  obtain ⟨rfl, hZ, hh⟩ := hP
  have hx := Bd.exec
  have hby := Bd.bytes
  have hlk := Bd.notSynchronized
  have hml : c.maxLocals = 3 := hml0
  have hown : s.vm.findClass "com/example/exhaust/exhaust/frontend/source/SourcePosition" = some m.cls := findClass_of_methodNamed Bd.named
  have hnm := (name_of_methodNamed Bd.named Bd.method).1
  have X0 : Stand p l e ({ frames := 2, cells := 0, slots := 0, locals := 28 } : Room) s m #[(.ref o), .null] below meth c s₁ [] 0 0 := Stand.of_body Bd
  have e0 : s₁.heap = h0 := by rw [← hh, Bd.state]; rfl
  have N0 := Fr.nil n0
  show own_E p e below s (QI 0 h0 n0) _ _ s₁ (entryFrame m #[(.ref o), .null] 3)
  rw [ef_8n]
  show own_E _ _ _ _ _ _ _ s₁ (mkF m 0 #[.val (.ref o), .val .null, .unset] [])
  refine own_via (fun t => XS.aloadN X0.here hx rfl (hb hby d8_0) rfl rfl) ?_
  show own_E _ _ _ _ _ _ _ s₁ (mkF m 1 #[.val (.ref o), .val .null, .unset] [.null])
  refine own_via (Jvm.Stand.instanceofNull X0 hx (g := (mkF m 1 #[.val (.ref o), .val .null, .unset] [.null])) rfl (rest := []) rfl (hb hby d8_1)) ?_
  show own_E _ _ _ _ _ _ _ s₁ (mkF m 4 #[.val (.ref o), .val .null, .unset] [(.int (0 : Int32))])
  refine own_via (fun t => XS.ifNo X0.here hx rfl (hb hby d8_4) rfl ((if0 _ _).trans (teq (by decide : (0 : Int32) = (0 : Int32))).2)) ?_
  show own_E _ _ _ _ _ _ _ s₁ (mkF m 7 #[.val (.ref o), .val .null, .unset] [])
  refine own_via (fun t => XS.iconst X0.here hx rfl (hb hby d8_7)) ?_
  show own_E _ _ _ _ _ _ _ s₁ (mkF m 8 #[.val (.ref o), .val .null, .unset] [(.int (0 : Int32))])
  exact own_retN X0 hx hlk Bd.returns (Or.inl rfl) (hb hby d8_8) (by decide) (by decide) ⟨rfl, N0, e0⟩
set_option maxRecDepth 65536 in
set_option maxHeartbeats 40000000 in
theorem rm8s (l : Launch) (Z : State) (a0 : Array Value) (hw : ∀ d ∈ tables_1, d.before a0 Z = true) (ws : List Jvm.Cond) (o x : Addr) (h0 : Heap) (n0 : Nat) (Z0 : n0 ≤ h0.size) (EX : Exa Z h0 x "java/lang/String") :
    MetFree l (⟨"com/example/exhaust/exhaust/frontend/source/SourcePosition", "equals", "(Ljava/lang/Object;)Z"⟩ : MethodName) (head1 (Jvm.Cond.code (⟨"com/example/exhaust/exhaust/frontend/source/SourcePosition", "equals", "(Ljava/lang/Object;)Z"⟩ : MethodName) prog_169_method_6_code 3 (some .boolean) :: ws) ({ frames := 2, cells := 0, slots := 0, locals := 28 } : Room)) (fun a9 U9 => a9 = #[(.ref o), (.ref x)] ∧ Z.Warmed39 U9.vm ∧ U9.heap = h0) (fun _ _ _ _ _ => True) (fun _ U9 o9 V9 => ∃ v9 L9, o9 = .returned v9 ∧ QI 0 h0 n0 v9 V9.heap L9 ∧ FrameEnd U9 o9 V9 L9 ({ frames := 2, cells := 0, slots := 0, locals := 28 } : Room).cells ({ frames := 2, cells := 0, slots := 0, locals := 28 } : Room).slots) := by
  refine MetFree.of_bodySF (plainFor_of_name pn_8s) hisR ?_
  intro p e s m args below meth c s₁ Bd hml0 hP hK
  obtain ⟨rfl, hZ, hh⟩ := hP
  have hx := Bd.exec
  have hby := Bd.bytes
  have hlk := Bd.notSynchronized
  have hml : c.maxLocals = 3 := hml0
  have hown : s.vm.findClass "com/example/exhaust/exhaust/frontend/source/SourcePosition" = some m.cls := findClass_of_methodNamed Bd.named
  have hnm := (name_of_methodNamed Bd.named Bd.method).1
  have X0 : Stand p l e ({ frames := 2, cells := 0, slots := 0, locals := 28 } : Room) s m #[(.ref o), (.ref x)] below meth c s₁ [] 0 0 := Stand.of_body Bd
  have e0 : s₁.heap = h0 := by rw [← hh, Bd.state]; rfl
  have N0 := Fr.nil n0
  show own_E p e below s (QI 0 h0 n0) _ _ s₁ (entryFrame m #[(.ref o), (.ref x)] 3)
  rw [ef_8s]
  show own_E _ _ _ _ _ _ _ s₁ (mkF m 0 #[.val (.ref o), .val (.ref x), .unset] [])
  refine own_via (fun t => XS.aloadN X0.here hx rfl (hb hby d8_0) rfl rfl) ?_
  show own_E _ _ _ _ _ _ _ s₁ (mkF m 1 #[.val (.ref o), .val (.ref x), .unset] [(.ref x)])
  obtain ⟨T36, X36, e36, st36⟩ := instNo X0 hx hZ hown (hw _ (List.mem_of_getElem? (i := 56) rfl)) e0 EX (own_notSub (hw _ (List.mem_of_getElem? (i := 79) rfl)) (hw _ (List.mem_of_getElem? (i := 80) rfl)) (hw _ (List.mem_of_getElem? (i := 30) rfl)) (by decide) (by decide)) (g := (mkF m 1 #[.val (.ref o), .val (.ref x), .unset] [(.ref x)])) rfl rfl (hb hby d8_1)
  refine own_via st36 ?_
  show own_E _ _ _ _ _ _ _ T36 (mkF m 4 #[.val (.ref o), .val (.ref x), .unset] [(.int (0 : Int32))])
  refine own_via (fun t => XS.ifNo X36.here hx rfl (hb hby d8_4) rfl ((if0 _ _).trans (teq (by decide : (0 : Int32) = (0 : Int32))).2)) ?_
  show own_E _ _ _ _ _ _ _ T36 (mkF m 7 #[.val (.ref o), .val (.ref x), .unset] [])
  refine own_via (fun t => XS.iconst X36.here hx rfl (hb hby d8_7)) ?_
  show own_E _ _ _ _ _ _ _ T36 (mkF m 8 #[.val (.ref o), .val (.ref x), .unset] [(.int (0 : Int32))])
  exact own_retN X36 hx hlk Bd.returns (Or.inl rfl) (hb hby d8_8) (by decide) (by decide) ⟨rfl, N0, e36⟩
def own_eq (cs ds : List Int32) (l c l' c' : Int32) : Int32 := if cs = ds ∧ l = l' ∧ c = c' then 1 else 0
theorem own_eq_b (cs ds : List Int32) (l c l' c' : Int32) : nar .boolean (own_eq cs ds l c l' c') = own_eq cs ds l c l' c' := by unfold own_eq; split <;> rfl
set_option maxRecDepth 65536 in
set_option maxHeartbeats 40000000 in
theorem rm8 (l : Launch) (Z : State) (a0 : Array Value) (hw : ∀ d ∈ tables_1, d.before a0 Z = true) (ws : List Jvm.Cond) (o u x y : Addr) (l1 c1 l2 c2 z : Int32) (cs ds : List Int32) (hcs : ∀ c ∈ cs, ¬ c < 0 ∧ ¬ (255 : Int32) < c) (hds : ∀ c ∈ ds, ¬ c < 0 ∧ ¬ (255 : Int32) < c) (lcs : cs.length ≤ 4000) (lds : ds.length ≤ 4000) (hz : ¬ z = 0) (h0 : Heap) (n0 : Nat) (Z0 : n0 ≤ h0.size) (S0 : Sta Z h0 "java/lang/String" "COMPACT_STRINGS" "Z" (.int z)) (TX : own_Tx Z h0 x cs) (TY : own_Tx Z h0 y ds) (PO : own_Po Z h0 o x l1 c1) (PU : own_Po Z h0 u y l2 c2) :
    MetFree l (⟨"com/example/exhaust/exhaust/frontend/source/SourcePosition", "equals", "(Ljava/lang/Object;)Z"⟩ : MethodName) (head1 (Jvm.Cond.code (⟨"com/example/exhaust/exhaust/frontend/source/SourcePosition", "equals", "(Ljava/lang/Object;)Z"⟩ : MethodName) prog_169_method_6_code 3 (some .boolean) :: ws) ({ frames := 2, cells := 0, slots := 0, locals := 28 } : Room)) (fun a9 U9 => a9 = #[(.ref o), (.ref u)] ∧ Z.Warmed39 U9.vm ∧ U9.heap = h0) (fun _ _ _ _ _ => True) (fun _ U9 o9 V9 => ∃ v9 L9, o9 = .returned v9 ∧ QI (own_eq cs ds l1 c1 l2 c2) h0 n0 v9 V9.heap L9 ∧ FrameEnd U9 o9 V9 L9 ({ frames := 2, cells := 0, slots := 0, locals := 28 } : Room).cells ({ frames := 2, cells := 0, slots := 0, locals := 28 } : Room).slots) := by
  refine MetFree.of_bodySF (plainFor_of_name pn_8) hisR ?_
  intro p e s m args below meth c s₁ Bd hml0 hP hK
  obtain ⟨rfl, hZ, hh⟩ := hP
  have hx := Bd.exec
  have hby := Bd.bytes
  have hlk := Bd.notSynchronized
  have hml : c.maxLocals = 3 := hml0
  have hown : s.vm.findClass "com/example/exhaust/exhaust/frontend/source/SourcePosition" = some m.cls := findClass_of_methodNamed Bd.named
  have hnm := (name_of_methodNamed Bd.named Bd.method).1
  have X0 : Stand p l e ({ frames := 2, cells := 0, slots := 0, locals := 28 } : Room) s m #[(.ref o), (.ref u)] below meth c s₁ [] 0 0 := Stand.of_body Bd
  have e0 : s₁.heap = h0 := by rw [← hh, Bd.state]; rfl
  have N0 := Fr.nil n0
  show own_E p e below s (QI (own_eq cs ds l1 c1 l2 c2) h0 n0) _ _ s₁ (entryFrame m #[(.ref o), (.ref u)] 3)
  rw [ef_8]
  obtain ⟨tx, kx, x1, x2, x3, x4⟩ := TX
  obtain ⟨ty, ky, y1, y2, y3, y4⟩ := TY
  show own_E _ _ _ _ _ _ _ s₁ (mkF m 0 #[.val (.ref o), .val (.ref u), .unset] [])
  refine own_via (fun t => XS.aloadN X0.here hx rfl (hb hby d8_0) rfl rfl) ?_
  show own_E _ _ _ _ _ _ _ s₁ (mkF m 1 #[.val (.ref o), .val (.ref u), .unset] [(.ref u)])
  obtain ⟨T37, X37, e37, st37⟩ := instY X0 hx hZ hown (hw _ (List.mem_of_getElem? (i := 56) rfl)) e0 (Ins.self PU.1) (g := (mkF m 1 #[.val (.ref o), .val (.ref u), .unset] [(.ref u)])) rfl rfl (hb hby d8_1)
  refine own_via st37 ?_
  show own_E _ _ _ _ _ _ _ T37 (mkF m 4 #[.val (.ref o), .val (.ref u), .unset] [(.int (1 : Int32))])
  refine own_via (fun t => XS.ifYes X37.here hx rfl (pc0 := 4) (pc' := 9) rfl (hb hby d8_4) rfl ((if0 _ _).trans (feq (by decide : ¬ ((1 : Int32) = (0 : Int32)))).2) (by decide) (by decide)) ?_
  show own_E _ _ _ _ _ _ _ T37 (mkF m 9 #[.val (.ref o), .val (.ref u), .unset] [])
  refine own_via (fun t => XS.aloadN X37.here hx rfl (hb hby d8_9) rfl rfl) ?_
  show own_E _ _ _ _ _ _ _ T37 (mkF m 10 #[.val (.ref o), .val (.ref u), .unset] [(.ref u)])
  obtain ⟨T38, X38, e38, st38⟩ := castY X37 hx hZ hown (hw _ (List.mem_of_getElem? (i := 56) rfl)) e37 (Ins.self PU.1) (g := (mkF m 10 #[.val (.ref o), .val (.ref u), .unset] [(.ref u)])) rfl rfl (hb hby d8_10)
  refine own_via st38 ?_
  show own_E _ _ _ _ _ _ _ T38 (mkF m 13 #[.val (.ref o), .val (.ref u), .unset] [(.ref u)])
  refine own_via (fun t => XS.astoreN X38.here hx rfl (hb hby d8_13) rfl rfl (l' := #[.val (.ref o), .val (.ref u), .val (.ref u)]) rfl) ?_
  show own_E _ _ _ _ _ _ _ T38 (mkF m 14 #[.val (.ref o), .val (.ref u), .val (.ref u)] [])
  refine own_via (fun t => XS.aloadN X38.here hx rfl (hb hby d8_14) rfl rfl) ?_
  show own_E _ _ _ _ _ _ _ T38 (mkF m 15 #[.val (.ref o), .val (.ref u), .val (.ref u)] [(.ref o)])
  obtain ⟨T39, X39, e39, st39⟩ := getF X38 hx hZ hown (host := "") (Or.inl (hw _ (List.mem_of_getElem? (i := 42) rfl))) Via.refl e38 PO.2.1 (g := (mkF m 15 #[.val (.ref o), .val (.ref u), .val (.ref u)] [(.ref o)])) rfl rfl (hb hby d8_15)
  refine own_via st39 ?_
  show own_E _ _ _ _ _ _ _ T39 (mkF m 18 #[.val (.ref o), .val (.ref u), .val (.ref u)] [(.ref x)])
  refine own_via (fun t => XS.aloadN X39.here hx rfl (hb hby d8_18) rfl rfl) ?_
  show own_E _ _ _ _ _ _ _ T39 (mkF m 19 #[.val (.ref o), .val (.ref u), .val (.ref u)] [(.ref u), (.ref x)])
  obtain ⟨T40, X40, e40, st40⟩ := getF X39 hx hZ hown (host := "") (Or.inl (hw _ (List.mem_of_getElem? (i := 42) rfl))) Via.refl e39 PU.2.1 (g := (mkF m 19 #[.val (.ref o), .val (.ref u), .val (.ref u)] [(.ref u), (.ref x)])) rfl rfl (hb hby d8_19)
  refine own_via st40 ?_
  show own_E _ _ _ _ _ _ _ T40 (mkF m 22 #[.val (.ref o), .val (.ref u), .val (.ref u)] [(.ref y), (.ref x)])
  obtain ⟨cq, kq, qa, qb, qc⟩ := isOf hZ e40 x1
  obtain ⟨_, _, ⟨T41, L41, k41, n41⟩, -, X41, ⟨Lc41, hQ41, l41, y41, z41⟩, st41⟩ := X40.virtualBack hx (y := (⟨"java/lang/String", "equals", "(Ljava/lang/Object;)Z"⟩ : MethodName)) (z := (⟨"java/lang/String", "equals", "(Ljava/lang/Object;)Z"⟩ : MethodName)) hown (mvT hZ (hw _ (List.mem_of_getElem? (i := 58) rfl))) (mvT hZ (hw _ (List.mem_of_getElem? (i := 59) rfl))) (notFace_of_selects (args := #[]) (mvT hZ (hw _ (List.mem_of_getElem? (i := 61) rfl)))) (mvT hZ (hw _ (List.mem_of_getElem? (i := 61) rfl))) (mvT hZ (hw _ (List.mem_of_getElem? (i := 60) rfl))) (by decide) (StrChars.Road.eqW (W := 0) hZ (own_wq hw) (kI := 4) (hw _ (List.mem_of_getElem? (i := 8) rfl)) x1 x2 x3 x4 (StrChars.Road.codOf rfl (fun c hc => (hcs c hc).2)) (own_hi hcs) lcs y1 y2 y3 y4 (StrChars.Road.codOf rfl (fun c hc => (hds c hc).2)) (own_hi hds) lds S0 hz (by decide) (by decide)) qa qc (g := (mkF m 22 #[.val (.ref o), .val (.ref u), .val (.ref u)] [(.ref y), (.ref x)])) rfl (by rw [hml]; rfl) (Steps.refl _) (argsL := [.ref y]) (rest := []) (lenOf pd_8 rfl) rfl (by show 2 * 0 + _ ≤ _; exact Nat.le_of_eq rfl) (hb hby d8_22) (fun _ _ => ⟨rfl, e40, (by decide : 0 + 0 ≤ _), (by decide : 0 + 0 ≤ _)⟩)
  dsimp only [Pt.U, Pt.locs, Pt.cells, Pt.slots] at X41 l41 y41 z41 st41 hQ41
  subst l41 y41 z41
  obtain ⟨hv, rfl, e41⟩ := hQ41
  rcases hv with ⟨rfl, hv⟩ | ⟨rfl, hv⟩
  · refine own_thru st41 ?_
    show own_E _ _ _ _ _ _ _ T41 (mkF m 25 #[.val (.ref o), .val (.ref u), .val (.ref u)] [(.int (1 : Int32))])
    refine own_via (fun t => XS.ifNo X41.here hx rfl (hb hby d8_25) rfl ((if0 _ _).trans (feq (by decide : ¬ ((1 : Int32) = (0 : Int32)))).1)) ?_
    show own_E _ _ _ _ _ _ _ T41 (mkF m 28 #[.val (.ref o), .val (.ref u), .val (.ref u)] [])
    refine own_via (fun t => XS.aloadN X41.here hx rfl (hb hby d8_28) rfl rfl) ?_
    show own_E _ _ _ _ _ _ _ T41 (mkF m 29 #[.val (.ref o), .val (.ref u), .val (.ref u)] [(.ref o)])
    obtain ⟨T42, X42, e42, st42⟩ := getF X41 hx hZ hown (host := "") (Or.inl (hw _ (List.mem_of_getElem? (i := 44) rfl))) Via.refl e41 PO.2.2.1 (g := (mkF m 29 #[.val (.ref o), .val (.ref u), .val (.ref u)] [(.ref o)])) rfl rfl (hb hby d8_29)
    refine own_via st42 ?_
    show own_E _ _ _ _ _ _ _ T42 (mkF m 32 #[.val (.ref o), .val (.ref u), .val (.ref u)] [(.int l1)])
    refine own_via (fun t => XS.aloadN X42.here hx rfl (hb hby d8_32) rfl rfl) ?_
    show own_E _ _ _ _ _ _ _ T42 (mkF m 33 #[.val (.ref o), .val (.ref u), .val (.ref u)] [(.ref u), (.int l1)])
    obtain ⟨T43, X43, e43, st43⟩ := getF X42 hx hZ hown (host := "") (Or.inl (hw _ (List.mem_of_getElem? (i := 44) rfl))) Via.refl e42 PU.2.2.1 (g := (mkF m 33 #[.val (.ref o), .val (.ref u), .val (.ref u)] [(.ref u), (.int l1)])) rfl rfl (hb hby d8_33)
    refine own_via st43 ?_
    show own_E _ _ _ _ _ _ _ T43 (mkF m 36 #[.val (.ref o), .val (.ref u), .val (.ref u)] [(.int l2), (.int l1)])
    by_cases c36_44 : l1 = l2
    · refine own_via (fun t => XS.icmpNo X43.here hx rfl (hb hby d8_36) rfl (teq c36_44).2) ?_
      show own_E _ _ _ _ _ _ _ T43 (mkF m 39 #[.val (.ref o), .val (.ref u), .val (.ref u)] [])
      refine own_via (fun t => XS.aloadN X43.here hx rfl (hb hby d8_39) rfl rfl) ?_
      show own_E _ _ _ _ _ _ _ T43 (mkF m 40 #[.val (.ref o), .val (.ref u), .val (.ref u)] [(.ref o)])
      obtain ⟨T45, X45, e45, st45⟩ := getF X43 hx hZ hown (host := "") (Or.inl (hw _ (List.mem_of_getElem? (i := 46) rfl))) Via.refl e43 PO.2.2.2 (g := (mkF m 40 #[.val (.ref o), .val (.ref u), .val (.ref u)] [(.ref o)])) rfl rfl (hb hby d8_40)
      refine own_via st45 ?_
      show own_E _ _ _ _ _ _ _ T45 (mkF m 43 #[.val (.ref o), .val (.ref u), .val (.ref u)] [(.int c1)])
      refine own_via (fun t => XS.aloadN X45.here hx rfl (hb hby d8_43) rfl rfl) ?_
      show own_E _ _ _ _ _ _ _ T45 (mkF m 44 #[.val (.ref o), .val (.ref u), .val (.ref u)] [(.ref u), (.int c1)])
      obtain ⟨T46, X46, e46, st46⟩ := getF X45 hx hZ hown (host := "") (Or.inl (hw _ (List.mem_of_getElem? (i := 46) rfl))) Via.refl e45 PU.2.2.2 (g := (mkF m 44 #[.val (.ref o), .val (.ref u), .val (.ref u)] [(.ref u), (.int c1)])) rfl rfl (hb hby d8_44)
      refine own_via st46 ?_
      show own_E _ _ _ _ _ _ _ T46 (mkF m 47 #[.val (.ref o), .val (.ref u), .val (.ref u)] [(.int c2), (.int c1)])
      by_cases c47_47 : c1 = c2
      · refine own_via (fun t => XS.icmpNo X46.here hx rfl (hb hby d8_47) rfl (teq c47_47).2) ?_
        show own_E _ _ _ _ _ _ _ T46 (mkF m 50 #[.val (.ref o), .val (.ref u), .val (.ref u)] [])
        refine own_via (fun t => XS.iconst X46.here hx rfl (hb hby d8_50)) ?_
        show own_E _ _ _ _ _ _ _ T46 (mkF m 51 #[.val (.ref o), .val (.ref u), .val (.ref u)] [(.int (1 : Int32))])
        refine own_via (fun t => XS.goto X46.here hx rfl (pc0 := 51) (pc' := 55) rfl (hb hby d8_51) (by decide) (by decide)) ?_
        show own_E _ _ _ _ _ _ _ T46 (mkF m 55 #[.val (.ref o), .val (.ref u), .val (.ref u)] [(.int (1 : Int32))])
        exact own_retN X46 hx hlk Bd.returns (Or.inl rfl) (hb hby d8_55) (by decide) (by decide) ⟨congrArg (fun z => some (Value.int z)) (show (1 : Int32) = own_eq cs ds l1 c1 l2 c2 from (if_pos ⟨hv, c36_44, c47_47⟩).symm), (Fr.app N0 (Fr.nil n0)), e46⟩
      · refine own_via (fun t => XS.icmpYes X46.here hx rfl (pc0 := 47) (pc' := 54) rfl (hb hby d8_47) rfl (feq c47_47).2 (by decide) (by decide)) ?_
        show own_E _ _ _ _ _ _ _ T46 (mkF m 54 #[.val (.ref o), .val (.ref u), .val (.ref u)] [])
        refine own_via (fun t => XS.iconst X46.here hx rfl (hb hby d8_54)) ?_
        show own_E _ _ _ _ _ _ _ T46 (mkF m 55 #[.val (.ref o), .val (.ref u), .val (.ref u)] [(.int (0 : Int32))])
        exact own_retN X46 hx hlk Bd.returns (Or.inl rfl) (hb hby d8_55) (by decide) (by decide) ⟨congrArg (fun z => some (Value.int z)) (show (0 : Int32) = own_eq cs ds l1 c1 l2 c2 from (if_neg (fun q => c47_47 q.2.2)).symm), (Fr.app N0 (Fr.nil n0)), e46⟩
    · refine own_via (fun t => XS.icmpYes X43.here hx rfl (pc0 := 36) (pc' := 54) rfl (hb hby d8_36) rfl (feq c36_44).2 (by decide) (by decide)) ?_
      show own_E _ _ _ _ _ _ _ T43 (mkF m 54 #[.val (.ref o), .val (.ref u), .val (.ref u)] [])
      refine own_via (fun t => XS.iconst X43.here hx rfl (hb hby d8_54)) ?_
      show own_E _ _ _ _ _ _ _ T43 (mkF m 55 #[.val (.ref o), .val (.ref u), .val (.ref u)] [(.int (0 : Int32))])
      exact own_retN X43 hx hlk Bd.returns (Or.inl rfl) (hb hby d8_55) (by decide) (by decide) ⟨congrArg (fun z => some (Value.int z)) (show (0 : Int32) = own_eq cs ds l1 c1 l2 c2 from (if_neg (fun q => c36_44 q.2.1)).symm), (Fr.app N0 (Fr.nil n0)), e43⟩
  · refine own_thru st41 ?_
    show own_E _ _ _ _ _ _ _ T41 (mkF m 25 #[.val (.ref o), .val (.ref u), .val (.ref u)] [(.int (0 : Int32))])
    refine own_via (fun t => XS.ifYes X41.here hx rfl (pc0 := 25) (pc' := 54) rfl (hb hby d8_25) rfl ((if0 _ _).trans (teq (by decide : (0 : Int32) = (0 : Int32))).1) (by decide) (by decide)) ?_
    show own_E _ _ _ _ _ _ _ T41 (mkF m 54 #[.val (.ref o), .val (.ref u), .val (.ref u)] [])
    refine own_via (fun t => XS.iconst X41.here hx rfl (hb hby d8_54)) ?_
    show own_E _ _ _ _ _ _ _ T41 (mkF m 55 #[.val (.ref o), .val (.ref u), .val (.ref u)] [(.int (0 : Int32))])
    exact own_retN X41 hx hlk Bd.returns (Or.inl rfl) (hb hby d8_55) (by decide) (by decide) ⟨congrArg (fun z => some (Value.int z)) (show (0 : Int32) = own_eq cs ds l1 c1 l2 c2 from (if_neg (fun q => hv q.1)).symm), (Fr.app N0 (Fr.nil n0)), e41⟩
theorem pn_0 : plainName "com/example/exhaust/exhaust/frontend/source/SourcePositionEqualsPinLaw" = true := by first | (simp [plainName, overriddenIn]; done) | decide +kernel
theorem ef_0 (m : MethodId) (x0 : Int32) (x1 : Int32) (x2 : Int32) (x3 : Int32) (x4 : Int32) (x5 : Int32) : entryFrame m #[(.int x0), (.int x1), (.int x2), (.int x3), (.int x4), (.int x5)] maxLocals = mkF m 0 #[.val (.int x0), .val (.int x1), .val (.int x2), .val (.int x3), .val (.int x4), .val (.int x5), .unset, .unset, .unset, .unset, .unset, .unset, .unset, .unset, .unset, .unset, .unset, .unset, .unset, .unset, .unset] [] := by first | (simp [entryFrame, mkF, argsToLocals, Value.category, maxLocals]; done) | rfl
def Q0 (n0 : Nat) (v : Option Value) (h : Heap) (L : List Loc) : Prop := v = some (.int 1) ∧ Fr n0 L
set_option maxRecDepth 65536 in
set_option maxHeartbeats 40000000 in
theorem rm0 (l : Launch) (Z : State) (a0 : Array Value) (hw : ∀ d ∈ tables_1, d.before a0 Z = true) (ws : List Jvm.Cond) (p1 p2 p3 p4 p5 p6 z : Int32) (hz : ¬ z = 0) (h0 : Heap) (n0 : Nat) (Z0 : n0 ≤ h0.size) (hn0 : n0 = h0.size) (S0 : Sta Z h0 "java/lang/String" "COMPACT_STRINGS" "Z" (.int z)) :
    MetFree l x (head1 (Jvm.Cond.code x code maxLocals ret :: ws) room_1) (fun a9 U9 => a9 = #[(.int p1), (.int p2), (.int p3), (.int p4), (.int p5), (.int p6)] ∧ Z.Warmed39 U9.vm ∧ U9.heap = h0 ∧ CHv Z own_EL U9.vm h0) (fun _ _ _ _ _ => True) (fun _ U9 o9 V9 => ∃ v9 L9, o9 = .returned v9 ∧ Q0 n0 v9 V9.heap L9 ∧ CHr Z own_EL U9.vm U9.heap V9.vm V9.heap ∧ ReturnedEndW U9 o9 V9 L9 32 2176) := by
  refine MetFree.of_bodySF (plainFor_of_name pn_0) hisR ?_
  intro p e s m args below meth c s₁ Bd hml0 hP hK
  obtain ⟨rfl, hZ0, hh, CV⟩ := hP
  have hZ : Z.Warmed39 (s.setVm s.vm).vm := hZ0
  have hx := Bd.exec
  have hby := Bd.bytes
  have hlk := Bd.notSynchronized
  have hml : c.maxLocals = 21 := hml0
  have hown : (s.setVm s.vm).vm.findClass "com/example/exhaust/exhaust/frontend/source/SourcePositionEqualsPinLaw" = some m.cls := findClass_of_methodNamed Bd.named
  have hnm := (name_of_methodNamed Bd.named Bd.method).1
  have X0 : Stand p l e room_1 (s.setVm s.vm) m #[(.int p1), (.int p2), (.int p3), (.int p4), (.int p5), (.int p6)] below meth c s₁ [] 0 0 := Stand.of_body Bd
  have e0 : s₁.heap = h0 := by rw [← hh, Bd.state]; rfl
  have N0 := Fr.nil n0
  have hS := (State.WarmedH.refl s).since h0.size
  have hk := Nat.le_refl h0.size
  have CR : CHr Z own_EL s.vm h0 s.vm h0 := CHr.refl CV
  show own_EH p e below s Z own_EL (Q0 n0) _ _ s₁ (entryFrame m #[(.int p1), (.int p2), (.int p3), (.int p4), (.int p5), (.int p6)] maxLocals)
  rw [ef_0]
  have tail : ∀ (m1 u0 u1 cp m2 v0 v1 li2 co2 kd : Int32) (hm1 : own_n m1) (hm2 : own_n m2) (hu0 : own_C u0) (hu1 : own_C u1) (hv0 : own_C v0) (hv1 : own_C v1) (T : State) (locs : List Loc) (X : Stand p l e room_1 (s.setVm s.vm) m #[(.int p1), (.int p2), (.int p3), (.int p4), (.int p5), (.int p6)] below meth c T locs 0 0) (eT : T.heap = h0) (NT : Fr n0 locs), own_EH p e below s Z own_EL (Q0 n0) 32 2176 T (mkF m 148 #[.val (.int p1), .val (.int p2), .val (.int p3), .val (.int p4), .val (.int p5), .val (.int p6), .val (.int m1), .val (.int u0), .val (.int u1), .val (.int cp), .val (.int m2), .val (.int v0), .val (.int v1), .val (.int li2), .val (.int co2), .val (.int kd), .unset, .unset, .unset, .unset, .unset] []) := by
    intro m1 u0 u1 cp m2 v0 v1 li2 co2 kd hm1 hm2 hu0 hu1 hv0 hv1 T locs X eT NT
    show own_EH _ _ _ _ _ _ _ _ _ T (mkF m 148 #[.val (.int p1), .val (.int p2), .val (.int p3), .val (.int p4), .val (.int p5), .val (.int p6), .val (.int m1), .val (.int u0), .val (.int u1), .val (.int cp), .val (.int m2), .val (.int v0), .val (.int v1), .val (.int li2), .val (.int co2), .val (.int kd), .unset, .unset, .unset, .unset, .unset] [])
    refine own_viaH (fun t => XS.iload X.here hx rfl (hb hby at_148) rfl) ?_
    show own_EH _ _ _ _ _ _ _ _ _ T (mkF m 150 #[.val (.int p1), .val (.int p2), .val (.int p3), .val (.int p4), .val (.int p5), .val (.int p6), .val (.int m1), .val (.int u0), .val (.int u1), .val (.int cp), .val (.int m2), .val (.int v0), .val (.int v1), .val (.int li2), .val (.int co2), .val (.int kd), .unset, .unset, .unset, .unset, .unset] [(.int m1)])
    refine own_viaH (fun t => XS.iload X.here hx rfl (hb hby at_150) rfl) ?_
    show own_EH _ _ _ _ _ _ _ _ _ T (mkF m 152 #[.val (.int p1), .val (.int p2), .val (.int p3), .val (.int p4), .val (.int p5), .val (.int p6), .val (.int m1), .val (.int u0), .val (.int u1), .val (.int cp), .val (.int m2), .val (.int v0), .val (.int v1), .val (.int li2), .val (.int co2), .val (.int kd), .unset, .unset, .unset, .unset, .unset] [(.int u0), (.int m1)])
    refine own_viaH (fun t => XS.iload X.here hx rfl (hb hby at_152) rfl) ?_
    show own_EH _ _ _ _ _ _ _ _ _ T (mkF m 154 #[.val (.int p1), .val (.int p2), .val (.int p3), .val (.int p4), .val (.int p5), .val (.int p6), .val (.int m1), .val (.int u0), .val (.int u1), .val (.int cp), .val (.int m2), .val (.int v0), .val (.int v1), .val (.int li2), .val (.int co2), .val (.int kd), .unset, .unset, .unset, .unset, .unset] [(.int u1), (.int u0), (.int m1)])
    obtain ⟨_, _, ⟨T48, L48, k48, n48⟩, -, X48, S48, G48, ⟨Lc48, hQ48, l48, y48, z48, C48⟩, st48⟩ := callSS X hx (y := (⟨"com/example/exhaust/exhaust/frontend/source/SourcePositionEqualsPinLaw", "mk", "(ICC)Ljava/lang/String;"⟩ : MethodName)) hown (mvT hZ (hw _ (List.mem_of_getElem? (i := 4) rfl))) (mvT hZ (hw _ (List.mem_of_getElem? (i := 5) rfl))) (mvT hZ (hw _ (List.mem_of_getElem? (i := 2) rfl))) (mvT hZ (hw _ (List.mem_of_getElem? (i := 6) rfl))) (by decide) (backOfSH (W := 0) (rm5 l Z a0 hw [] m1 u0 u1 z hm1 hu0 hu1 hz h0 n0 Z0 S0) hZ (hw _ (List.mem_of_getElem? (i := 6) rfl)) (hw _ (List.mem_of_getElem? (i := 2) rfl)) (by decide) (by decide) (own_hEL hw) CR.1) (g := (mkF m 154 #[.val (.int p1), .val (.int p2), .val (.int p3), .val (.int p4), .val (.int p5), .val (.int p6), .val (.int m1), .val (.int u0), .val (.int u1), .val (.int cp), .val (.int m2), .val (.int v0), .val (.int v1), .val (.int li2), .val (.int co2), .val (.int kd), .unset, .unset, .unset, .unset, .unset] [(.int u1), (.int u0), (.int m1)])) rfl (by rw [hml]; rfl) (argsL := [(.int m1), (.int u0), (.int u1)]) (rest := []) (lenOf pd_5 rfl) rfl (by show 2 * 0 + _ ≤ _; exact Nat.le_of_eq rfl) (hb hby at_154) (fun _ _ => ⟨rfl, eT, (by decide : 0 + 6 ≤ _), (by decide : 0 + 12 ≤ _)⟩)
    dsimp only [Pt.U, Pt.locs, Pt.cells, Pt.slots] at X48 S48 G48 l48 y48 z48 C48 st48 hQ48
    subst l48 y48 z48
    obtain ⟨X48, hS, hZ, hown⟩ := rebS hS (by rw [eT]; exact hk) X48 S48 G48 hZ hown
    have hk := Nat.le_refl T48.heap.size
    have CR := CR.trans C48
    have Z48 : n0 ≤ T48.heap.size := Nat.le_trans Z0 (by rw [eT] at G48; exact G48)
    obtain ⟨x1, rfl, N48, Ex48, Tx1⟩ := hQ48
    refine own_thruH st48 ?_
    show own_EH _ _ _ _ _ _ _ _ _ T48 (mkF m 157 #[.val (.int p1), .val (.int p2), .val (.int p3), .val (.int p4), .val (.int p5), .val (.int p6), .val (.int m1), .val (.int u0), .val (.int u1), .val (.int cp), .val (.int m2), .val (.int v0), .val (.int v1), .val (.int li2), .val (.int co2), .val (.int kd), .unset, .unset, .unset, .unset, .unset] [(.ref x1)])
    have NA48 := Fr.app NT N48
    refine own_viaH (fun t => XS.astore X48.here hx rfl (hb hby at_157) rfl rfl (l' := #[.val (.int p1), .val (.int p2), .val (.int p3), .val (.int p4), .val (.int p5), .val (.int p6), .val (.int m1), .val (.int u0), .val (.int u1), .val (.int cp), .val (.int m2), .val (.int v0), .val (.int v1), .val (.int li2), .val (.int co2), .val (.int kd), .val (.ref x1), .unset, .unset, .unset, .unset]) rfl) ?_
    show own_EH _ _ _ _ _ _ _ _ _ T48 (mkF m 159 #[.val (.int p1), .val (.int p2), .val (.int p3), .val (.int p4), .val (.int p5), .val (.int p6), .val (.int m1), .val (.int u0), .val (.int u1), .val (.int cp), .val (.int m2), .val (.int v0), .val (.int v1), .val (.int li2), .val (.int co2), .val (.int kd), .val (.ref x1), .unset, .unset, .unset, .unset] [])
    refine own_viaH (fun t => XS.iload X48.here hx rfl (hb hby at_159) rfl) ?_
    show own_EH _ _ _ _ _ _ _ _ _ T48 (mkF m 161 #[.val (.int p1), .val (.int p2), .val (.int p3), .val (.int p4), .val (.int p5), .val (.int p6), .val (.int m1), .val (.int u0), .val (.int u1), .val (.int cp), .val (.int m2), .val (.int v0), .val (.int v1), .val (.int li2), .val (.int co2), .val (.int kd), .val (.ref x1), .unset, .unset, .unset, .unset] [(.int m2)])
    refine own_viaH (fun t => XS.iload X48.here hx rfl (hb hby at_161) rfl) ?_
    show own_EH _ _ _ _ _ _ _ _ _ T48 (mkF m 163 #[.val (.int p1), .val (.int p2), .val (.int p3), .val (.int p4), .val (.int p5), .val (.int p6), .val (.int m1), .val (.int u0), .val (.int u1), .val (.int cp), .val (.int m2), .val (.int v0), .val (.int v1), .val (.int li2), .val (.int co2), .val (.int kd), .val (.ref x1), .unset, .unset, .unset, .unset] [(.int v0), (.int m2)])
    refine own_viaH (fun t => XS.iload X48.here hx rfl (hb hby at_163) rfl) ?_
    show own_EH _ _ _ _ _ _ _ _ _ T48 (mkF m 165 #[.val (.int p1), .val (.int p2), .val (.int p3), .val (.int p4), .val (.int p5), .val (.int p6), .val (.int m1), .val (.int u0), .val (.int u1), .val (.int cp), .val (.int m2), .val (.int v0), .val (.int v1), .val (.int li2), .val (.int co2), .val (.int kd), .val (.ref x1), .unset, .unset, .unset, .unset] [(.int v1), (.int v0), (.int m2)])
    obtain ⟨_, _, ⟨T49, L49, k49, n49⟩, -, X49, S49, G49, ⟨Lc49, hQ49, l49, y49, z49, C49⟩, st49⟩ := callSS X48 hx (y := (⟨"com/example/exhaust/exhaust/frontend/source/SourcePositionEqualsPinLaw", "mk", "(ICC)Ljava/lang/String;"⟩ : MethodName)) hown (mvT hZ (hw _ (List.mem_of_getElem? (i := 4) rfl))) (mvT hZ (hw _ (List.mem_of_getElem? (i := 5) rfl))) (mvT hZ (hw _ (List.mem_of_getElem? (i := 2) rfl))) (mvT hZ (hw _ (List.mem_of_getElem? (i := 6) rfl))) (by decide) (backOfSH (W := 0) (rm5 l Z a0 hw [] m2 v0 v1 z hm2 hv0 hv1 hz T48.heap n0 Z48 (S0.ext Ex48)) hZ (hw _ (List.mem_of_getElem? (i := 6) rfl)) (hw _ (List.mem_of_getElem? (i := 2) rfl)) (by decide) (by decide) (own_hEL hw) CR.1) (g := (mkF m 165 #[.val (.int p1), .val (.int p2), .val (.int p3), .val (.int p4), .val (.int p5), .val (.int p6), .val (.int m1), .val (.int u0), .val (.int u1), .val (.int cp), .val (.int m2), .val (.int v0), .val (.int v1), .val (.int li2), .val (.int co2), .val (.int kd), .val (.ref x1), .unset, .unset, .unset, .unset] [(.int v1), (.int v0), (.int m2)])) rfl (by rw [hml]; rfl) (argsL := [(.int m2), (.int v0), (.int v1)]) (rest := []) (lenOf pd_5 rfl) rfl (by show 2 * 0 + _ ≤ _; exact Nat.le_of_eq rfl) (hb hby at_165) (fun _ _ => ⟨rfl, (rfl : T48.heap = T48.heap), (by decide : 6 + 6 ≤ _), (by decide : 12 + 12 ≤ _)⟩)
    dsimp only [Pt.U, Pt.locs, Pt.cells, Pt.slots] at X49 S49 G49 l49 y49 z49 C49 st49 hQ49
    subst l49 y49 z49
    obtain ⟨X49, hS, hZ, hown⟩ := rebS hS (by rw [(rfl : T48.heap = T48.heap)]; exact hk) X49 S49 G49 hZ hown
    have hk := Nat.le_refl T49.heap.size
    have CR := CR.trans C49
    have Z49 : n0 ≤ T49.heap.size := Nat.le_trans Z48 (by rw [(rfl : T48.heap = T48.heap)] at G49; exact G49)
    obtain ⟨x2, rfl, N49, Ex49, Tx2⟩ := hQ49
    refine own_thruH st49 ?_
    show own_EH _ _ _ _ _ _ _ _ _ T49 (mkF m 168 #[.val (.int p1), .val (.int p2), .val (.int p3), .val (.int p4), .val (.int p5), .val (.int p6), .val (.int m1), .val (.int u0), .val (.int u1), .val (.int cp), .val (.int m2), .val (.int v0), .val (.int v1), .val (.int li2), .val (.int co2), .val (.int kd), .val (.ref x1), .unset, .unset, .unset, .unset] [(.ref x2)])
    have NA49 := Fr.app NA48 N49
    have EB : Ext h0 T49.heap := own_extT Ex48 Ex49
    have Tx1b := Tx1.ext Ex49
    refine own_viaH (fun t => XS.astore X49.here hx rfl (hb hby at_168) rfl rfl (l' := #[.val (.int p1), .val (.int p2), .val (.int p3), .val (.int p4), .val (.int p5), .val (.int p6), .val (.int m1), .val (.int u0), .val (.int u1), .val (.int cp), .val (.int m2), .val (.int v0), .val (.int v1), .val (.int li2), .val (.int co2), .val (.int kd), .val (.ref x1), .val (.ref x2), .unset, .unset, .unset]) rfl) ?_
    show own_EH _ _ _ _ _ _ _ _ _ T49 (mkF m 170 #[.val (.int p1), .val (.int p2), .val (.int p3), .val (.int p4), .val (.int p5), .val (.int p6), .val (.int m1), .val (.int u0), .val (.int u1), .val (.int cp), .val (.int m2), .val (.int v0), .val (.int v1), .val (.int li2), .val (.int co2), .val (.int kd), .val (.ref x1), .val (.ref x2), .unset, .unset, .unset] [])
    obtain ⟨T50, h50, X50, e50, E50, A50, D50, -, st50⟩ := newO X49 hx hZ hown (hw _ (List.mem_of_getElem? (i := 29) rfl)) (hw _ (List.mem_of_getElem? (i := 30) rfl)) (hw _ (List.mem_of_getElem? (i := 31) rfl)) (rfl : T49.heap = T49.heap) (g := (mkF m 170 #[.val (.int p1), .val (.int p2), .val (.int p3), .val (.int p4), .val (.int p5), .val (.int p6), .val (.int m1), .val (.int u0), .val (.int u1), .val (.int cp), .val (.int m2), .val (.int v0), .val (.int v1), .val (.int li2), .val (.int co2), .val (.int kd), .val (.ref x1), .val (.ref x2), .unset, .unset, .unset] [])) rfl (hb hby at_170) (by decide) (by decide)
    obtain ⟨pp, g50⟩ : ∃ z, z = T49.heap.size := ⟨_, rfl⟩
    rw [← g50] at A50 D50 st50
    have gz_pp : n0 ≤ pp := Nat.le_trans Z49 (Nat.le_of_eq g50.symm)
    have Z50 : n0 ≤ h50.size := Nat.le_trans Z49 E50.1
    refine own_viaH st50 ?_
    show own_EH _ _ _ _ _ _ _ _ _ T50 (mkF m 173 #[.val (.int p1), .val (.int p2), .val (.int p3), .val (.int p4), .val (.int p5), .val (.int p6), .val (.int m1), .val (.int u0), .val (.int u1), .val (.int cp), .val (.int m2), .val (.int v0), .val (.int v1), .val (.int li2), .val (.int co2), .val (.int kd), .val (.ref x1), .val (.ref x2), .unset, .unset, .unset] [(.ref pp)])
    have hk := Nat.le_trans hk E50.1
    have CR := CR.trans (CHr.ext E50 CR.1)
    have Dfile_50 : Fld Z h50 pp "com/example/exhaust/exhaust/frontend/source/SourcePosition" "file" "Ljava/lang/String;" .null := D50 (Or.inr (hw _ (List.mem_of_getElem? (i := 43) rfl))) (ty := .object "java/lang/String") (by decide)
    have Dline_50 : Fld Z h50 pp "com/example/exhaust/exhaust/frontend/source/SourcePosition" "line" "I" (.int 0) := D50 (Or.inr (hw _ (List.mem_of_getElem? (i := 45) rfl))) (ty := .int) (by decide)
    have Dcolumn_50 : Fld Z h50 pp "com/example/exhaust/exhaust/frontend/source/SourcePosition" "column" "I" (.int 0) := D50 (Or.inr (hw _ (List.mem_of_getElem? (i := 47) rfl))) (ty := .int) (by decide)
    refine own_viaH (fun t => XS.dup X50.here hx rfl (hb hby at_173) rfl rfl) ?_
    show own_EH _ _ _ _ _ _ _ _ _ T50 (mkF m 174 #[.val (.int p1), .val (.int p2), .val (.int p3), .val (.int p4), .val (.int p5), .val (.int p6), .val (.int m1), .val (.int u0), .val (.int u1), .val (.int cp), .val (.int m2), .val (.int v0), .val (.int v1), .val (.int li2), .val (.int co2), .val (.int kd), .val (.ref x1), .val (.ref x2), .unset, .unset, .unset] [(.ref pp), (.ref pp)])
    refine own_viaH (fun t => XS.aload X50.here hx rfl (hb hby at_174) rfl rfl) ?_
    show own_EH _ _ _ _ _ _ _ _ _ T50 (mkF m 176 #[.val (.int p1), .val (.int p2), .val (.int p3), .val (.int p4), .val (.int p5), .val (.int p6), .val (.int m1), .val (.int u0), .val (.int u1), .val (.int cp), .val (.int m2), .val (.int v0), .val (.int v1), .val (.int li2), .val (.int co2), .val (.int kd), .val (.ref x1), .val (.ref x2), .unset, .unset, .unset] [(.ref x1), (.ref pp), (.ref pp)])
    refine own_viaH (fun t => XS.iloadN X50.here hx rfl (hb hby at_176) rfl) ?_
    show own_EH _ _ _ _ _ _ _ _ _ T50 (mkF m 177 #[.val (.int p1), .val (.int p2), .val (.int p3), .val (.int p4), .val (.int p5), .val (.int p6), .val (.int m1), .val (.int u0), .val (.int u1), .val (.int cp), .val (.int m2), .val (.int v0), .val (.int v1), .val (.int li2), .val (.int co2), .val (.int kd), .val (.ref x1), .val (.ref x2), .unset, .unset, .unset] [(.int p3), (.ref x1), (.ref pp), (.ref pp)])
    refine own_viaH (fun t => XS.iload X50.here hx rfl (hb hby at_177) rfl) ?_
    show own_EH _ _ _ _ _ _ _ _ _ T50 (mkF m 179 #[.val (.int p1), .val (.int p2), .val (.int p3), .val (.int p4), .val (.int p5), .val (.int p6), .val (.int m1), .val (.int u0), .val (.int u1), .val (.int cp), .val (.int m2), .val (.int v0), .val (.int v1), .val (.int li2), .val (.int co2), .val (.int kd), .val (.ref x1), .val (.ref x2), .unset, .unset, .unset] [(.int p5), (.int p3), (.ref x1), (.ref pp), (.ref pp)])
    obtain ⟨_, _, ⟨T51, L51, k51, n51⟩, -, X51, S51, G51, ⟨Lc51, hQ51, l51, y51, z51, C51⟩, st51⟩ := X50.specialBackS hx (y := (⟨"com/example/exhaust/exhaust/frontend/source/SourcePosition", "<init>", "(Ljava/lang/String;II)V"⟩ : MethodName)) rfl hown (mvT hZ (hw _ (List.mem_of_getElem? (i := 32) rfl))) (mvT hZ (hw _ (List.mem_of_getElem? (i := 33) rfl))) (mvT hZ (hw _ (List.mem_of_getElem? (i := 34) rfl))) (by decide) (backOfSH (W := 1) (rm6 l Z a0 hw [] pp x1 p3 p5 h50 n0 Z50 gz_pp (Tx1b.exa.ext E50) A50 Dfile_50 Dline_50 Dcolumn_50) hZ (hw _ (List.mem_of_getElem? (i := 34) rfl)) (hw _ (List.mem_of_getElem? (i := 31) rfl)) (by decide) (by decide) (own_hEL hw) CR.1) (g := (mkF m 179 #[.val (.int p1), .val (.int p2), .val (.int p3), .val (.int p4), .val (.int p5), .val (.int p6), .val (.int m1), .val (.int u0), .val (.int u1), .val (.int cp), .val (.int m2), .val (.int v0), .val (.int v1), .val (.int li2), .val (.int co2), .val (.int kd), .val (.ref x1), .val (.ref x2), .unset, .unset, .unset] [(.int p5), (.int p3), (.ref x1), (.ref pp), (.ref pp)])) rfl (by rw [hml]; rfl) (Steps.refl _) (a := pp) (argsL := [(.ref x1), (.int p3), (.int p5)]) (rest := [(.ref pp)]) (lenOf pd_6 rfl) rfl (by show 2 * 0 + _ ≤ _; exact Nat.le_of_eq rfl) (hb hby at_179) (fun _ _ => ⟨rfl, e50, (by decide : 13 + 2 ≤ _), (by decide : 27 + 20 ≤ _)⟩)
    dsimp only [Pt.U, Pt.locs, Pt.cells, Pt.slots] at X51 S51 G51 l51 y51 z51 C51 st51 hQ51
    subst l51 y51 z51
    obtain ⟨X51, hS, hZ, hown⟩ := rebS hS (by rw [e50]; exact hk) X51 S51 G51 hZ hown
    have hk := Nat.le_refl T51.heap.size
    have CR := CR.trans C51
    have Z51 : n0 ≤ T51.heap.size := Nat.le_trans Z50 (by rw [e50] at G51; exact G51)
    obtain ⟨rfl, N51, K51, Po_pp⟩ := hQ51
    refine own_thruH st51 ?_
    show own_EH _ _ _ _ _ _ _ _ _ T51 (mkF m 182 #[.val (.int p1), .val (.int p2), .val (.int p3), .val (.int p4), .val (.int p5), .val (.int p6), .val (.int m1), .val (.int u0), .val (.int u1), .val (.int cp), .val (.int m2), .val (.int v0), .val (.int v1), .val (.int li2), .val (.int co2), .val (.int kd), .val (.ref x1), .val (.ref x2), .unset, .unset, .unset] [(.ref pp)])
    have NA51 := Fr.app NA49 N51
    have Ep_pp : Ext T49.heap T51.heap := own_extK E50 K51 (allS (Nat.le_of_eq g50.symm) all0)
    have EC : Ext h0 T51.heap := own_extT EB Ep_pp
    have Tx1c := Tx1b.ext Ep_pp
    have Tx2c := Tx2.ext Ep_pp
    refine own_viaH (fun t => XS.astore X51.here hx rfl (hb hby at_182) rfl rfl (l' := #[.val (.int p1), .val (.int p2), .val (.int p3), .val (.int p4), .val (.int p5), .val (.int p6), .val (.int m1), .val (.int u0), .val (.int u1), .val (.int cp), .val (.int m2), .val (.int v0), .val (.int v1), .val (.int li2), .val (.int co2), .val (.int kd), .val (.ref x1), .val (.ref x2), .val (.ref pp), .unset, .unset]) rfl) ?_
    show own_EH _ _ _ _ _ _ _ _ _ T51 (mkF m 184 #[.val (.int p1), .val (.int p2), .val (.int p3), .val (.int p4), .val (.int p5), .val (.int p6), .val (.int m1), .val (.int u0), .val (.int u1), .val (.int cp), .val (.int m2), .val (.int v0), .val (.int v1), .val (.int li2), .val (.int co2), .val (.int kd), .val (.ref x1), .val (.ref x2), .val (.ref pp), .unset, .unset] [])
    refine own_viaH (fun t => XS.iload X51.here hx rfl (hb hby at_184) rfl) ?_
    show own_EH _ _ _ _ _ _ _ _ _ T51 (mkF m 186 #[.val (.int p1), .val (.int p2), .val (.int p3), .val (.int p4), .val (.int p5), .val (.int p6), .val (.int m1), .val (.int u0), .val (.int u1), .val (.int cp), .val (.int m2), .val (.int v0), .val (.int v1), .val (.int li2), .val (.int co2), .val (.int kd), .val (.ref x1), .val (.ref x2), .val (.ref pp), .unset, .unset] [(.int kd)])
    refine own_viaH (fun t => XS.iconst X51.here hx rfl (hb hby at_186)) ?_
    show own_EH _ _ _ _ _ _ _ _ _ T51 (mkF m 187 #[.val (.int p1), .val (.int p2), .val (.int p3), .val (.int p4), .val (.int p5), .val (.int p6), .val (.int m1), .val (.int u0), .val (.int u1), .val (.int cp), .val (.int m2), .val (.int v0), .val (.int v1), .val (.int li2), .val (.int co2), .val (.int kd), .val (.ref x1), .val (.ref x2), .val (.ref pp), .unset, .unset] [(.int (1 : Int32)), (.int kd)])
    by_cases c187_52 : kd = (1 : Int32)
    · refine own_viaH (fun t => XS.icmpNo X51.here hx rfl (hb hby at_187) rfl (teq c187_52).2) ?_
      show own_EH _ _ _ _ _ _ _ _ _ T51 (mkF m 190 #[.val (.int p1), .val (.int p2), .val (.int p3), .val (.int p4), .val (.int p5), .val (.int p6), .val (.int m1), .val (.int u0), .val (.int u1), .val (.int cp), .val (.int m2), .val (.int v0), .val (.int v1), .val (.int li2), .val (.int co2), .val (.int kd), .val (.ref x1), .val (.ref x2), .val (.ref pp), .unset, .unset] [])
      refine own_viaH (fun t => XS.aconstNull X51.here hx rfl (hb hby at_190)) ?_
      show own_EH _ _ _ _ _ _ _ _ _ T51 (mkF m 191 #[.val (.int p1), .val (.int p2), .val (.int p3), .val (.int p4), .val (.int p5), .val (.int p6), .val (.int m1), .val (.int u0), .val (.int u1), .val (.int cp), .val (.int m2), .val (.int v0), .val (.int v1), .val (.int li2), .val (.int co2), .val (.int kd), .val (.ref x1), .val (.ref x2), .val (.ref pp), .unset, .unset] [.null])
      refine own_viaH (fun t => XS.astore X51.here hx rfl (hb hby at_191) rfl rfl (l' := #[.val (.int p1), .val (.int p2), .val (.int p3), .val (.int p4), .val (.int p5), .val (.int p6), .val (.int m1), .val (.int u0), .val (.int u1), .val (.int cp), .val (.int m2), .val (.int v0), .val (.int v1), .val (.int li2), .val (.int co2), .val (.int kd), .val (.ref x1), .val (.ref x2), .val (.ref pp), .val .null, .unset]) rfl) ?_
      show own_EH _ _ _ _ _ _ _ _ _ T51 (mkF m 193 #[.val (.int p1), .val (.int p2), .val (.int p3), .val (.int p4), .val (.int p5), .val (.int p6), .val (.int m1), .val (.int u0), .val (.int u1), .val (.int cp), .val (.int m2), .val (.int v0), .val (.int v1), .val (.int li2), .val (.int co2), .val (.int kd), .val (.ref x1), .val (.ref x2), .val (.ref pp), .val .null, .unset] [])
      refine own_viaH (fun t => XS.iconst X51.here hx rfl (hb hby at_193)) ?_
      show own_EH _ _ _ _ _ _ _ _ _ T51 (mkF m 194 #[.val (.int p1), .val (.int p2), .val (.int p3), .val (.int p4), .val (.int p5), .val (.int p6), .val (.int m1), .val (.int u0), .val (.int u1), .val (.int cp), .val (.int m2), .val (.int v0), .val (.int v1), .val (.int li2), .val (.int co2), .val (.int kd), .val (.ref x1), .val (.ref x2), .val (.ref pp), .val .null, .unset] [(.int (0 : Int32))])
      refine own_viaH (fun t => XS.istore X51.here hx rfl (hb hby at_194) rfl (l' := #[.val (.int p1), .val (.int p2), .val (.int p3), .val (.int p4), .val (.int p5), .val (.int p6), .val (.int m1), .val (.int u0), .val (.int u1), .val (.int cp), .val (.int m2), .val (.int v0), .val (.int v1), .val (.int li2), .val (.int co2), .val (.int kd), .val (.ref x1), .val (.ref x2), .val (.ref pp), .val .null, .val (.int (0 : Int32))]) rfl) ?_
      show own_EH _ _ _ _ _ _ _ _ _ T51 (mkF m 196 #[.val (.int p1), .val (.int p2), .val (.int p3), .val (.int p4), .val (.int p5), .val (.int p6), .val (.int m1), .val (.int u0), .val (.int u1), .val (.int cp), .val (.int m2), .val (.int v0), .val (.int v1), .val (.int li2), .val (.int co2), .val (.int kd), .val (.ref x1), .val (.ref x2), .val (.ref pp), .val .null, .val (.int (0 : Int32))] [])
      refine own_viaH (fun t => XS.goto X51.here hx rfl (pc0 := 196) (pc' := 284) rfl (hb hby at_196) (by decide) (by decide)) ?_
      show own_EH _ _ _ _ _ _ _ _ _ T51 (mkF m 284 #[.val (.int p1), .val (.int p2), .val (.int p3), .val (.int p4), .val (.int p5), .val (.int p6), .val (.int m1), .val (.int u0), .val (.int u1), .val (.int cp), .val (.int m2), .val (.int v0), .val (.int v1), .val (.int li2), .val (.int co2), .val (.int kd), .val (.ref x1), .val (.ref x2), .val (.ref pp), .val .null, .val (.int (0 : Int32))] [])
      refine own_viaH (fun t => XS.aload X51.here hx rfl (hb hby at_284) rfl rfl) ?_
      show own_EH _ _ _ _ _ _ _ _ _ T51 (mkF m 286 #[.val (.int p1), .val (.int p2), .val (.int p3), .val (.int p4), .val (.int p5), .val (.int p6), .val (.int m1), .val (.int u0), .val (.int u1), .val (.int cp), .val (.int m2), .val (.int v0), .val (.int v1), .val (.int li2), .val (.int co2), .val (.int kd), .val (.ref x1), .val (.ref x2), .val (.ref pp), .val .null, .val (.int (0 : Int32))] [(.ref pp)])
      refine own_viaH (fun t => XS.aload X51.here hx rfl (hb hby at_286) rfl rfl) ?_
      show own_EH _ _ _ _ _ _ _ _ _ T51 (mkF m 288 #[.val (.int p1), .val (.int p2), .val (.int p3), .val (.int p4), .val (.int p5), .val (.int p6), .val (.int m1), .val (.int u0), .val (.int u1), .val (.int cp), .val (.int m2), .val (.int v0), .val (.int v1), .val (.int li2), .val (.int co2), .val (.int kd), .val (.ref x1), .val (.ref x2), .val (.ref pp), .val .null, .val (.int (0 : Int32))] [.null, (.ref pp)])
      obtain ⟨cq53, kq53, q53a, q53b, q53c⟩ := isOf hZ (rfl : T51.heap = T51.heap) Po_pp.1
      obtain ⟨_, _, ⟨T53, L53, k53, n53⟩, -, X53, ⟨Lc53, hQ53, l53, y53, z53⟩, st53⟩ := X51.virtualBack hx (y := (⟨"com/example/exhaust/exhaust/frontend/source/SourcePosition", "equals", "(Ljava/lang/Object;)Z"⟩ : MethodName)) (z := (⟨"com/example/exhaust/exhaust/frontend/source/SourcePosition", "equals", "(Ljava/lang/Object;)Z"⟩ : MethodName)) hown (mvT hZ (hw _ (List.mem_of_getElem? (i := 51) rfl))) (mvT hZ (hw _ (List.mem_of_getElem? (i := 52) rfl))) (notFace_of_selects (args := #[]) (mvT hZ (hw _ (List.mem_of_getElem? (i := 54) rfl)))) (mvT hZ (hw _ (List.mem_of_getElem? (i := 54) rfl))) (mvT hZ (hw _ (List.mem_of_getElem? (i := 53) rfl))) (by decide) (backOf (W := 0) (rm8n l Z a0 hw [] pp T51.heap n0 Z51) hZ (hw _ (List.mem_of_getElem? (i := 55) rfl)) (hw _ (List.mem_of_getElem? (i := 31) rfl)) (by decide) (by decide)) q53a q53c (g := (mkF m 288 #[.val (.int p1), .val (.int p2), .val (.int p3), .val (.int p4), .val (.int p5), .val (.int p6), .val (.int m1), .val (.int u0), .val (.int u1), .val (.int cp), .val (.int m2), .val (.int v0), .val (.int v1), .val (.int li2), .val (.int co2), .val (.int kd), .val (.ref x1), .val (.ref x2), .val (.ref pp), .val .null, .val (.int (0 : Int32))] [.null, (.ref pp)])) rfl (by rw [hml]; rfl) (Steps.refl _) (argsL := [.null]) (rest := []) (lenOf pd_8 rfl) rfl (by show 2 * 0 + _ ≤ _; exact Nat.le_of_eq rfl) (hb hby at_288) (fun _ _ => ⟨rfl, (rfl : T51.heap = T51.heap), (by decide : 15 + 0 ≤ _), (by decide : 47 + 0 ≤ _)⟩)
      dsimp only [Pt.U, Pt.locs, Pt.cells, Pt.slots] at X53 l53 y53 z53 st53 hQ53
      subst l53 y53 z53
      obtain ⟨rfl, N53, e53⟩ := hQ53
      refine own_thruH st53 ?_
      show own_EH _ _ _ _ _ _ _ _ _ T53 (mkF m 291 #[.val (.int p1), .val (.int p2), .val (.int p3), .val (.int p4), .val (.int p5), .val (.int p6), .val (.int m1), .val (.int u0), .val (.int u1), .val (.int cp), .val (.int m2), .val (.int v0), .val (.int v1), .val (.int li2), .val (.int co2), .val (.int kd), .val (.ref x1), .val (.ref x2), .val (.ref pp), .val .null, .val (.int (0 : Int32))] [(.int (0 : Int32))])
      have NQ53 := Fr.app NA51 N53
      refine own_viaH (fun t => XS.iload X53.here hx rfl (hb hby at_291) rfl) ?_
      show own_EH _ _ _ _ _ _ _ _ _ T53 (mkF m 293 #[.val (.int p1), .val (.int p2), .val (.int p3), .val (.int p4), .val (.int p5), .val (.int p6), .val (.int m1), .val (.int u0), .val (.int u1), .val (.int cp), .val (.int m2), .val (.int v0), .val (.int v1), .val (.int li2), .val (.int co2), .val (.int kd), .val (.ref x1), .val (.ref x2), .val (.ref pp), .val .null, .val (.int (0 : Int32))] [(.int (0 : Int32)), (.int (0 : Int32))])
      refine own_viaH (fun t => XS.icmpNo X53.here hx rfl (hb hby at_293) rfl (teq (by decide : (0 : Int32) = (0 : Int32))).2) ?_
      show own_EH _ _ _ _ _ _ _ _ _ T53 (mkF m 296 #[.val (.int p1), .val (.int p2), .val (.int p3), .val (.int p4), .val (.int p5), .val (.int p6), .val (.int m1), .val (.int u0), .val (.int u1), .val (.int cp), .val (.int m2), .val (.int v0), .val (.int v1), .val (.int li2), .val (.int co2), .val (.int kd), .val (.ref x1), .val (.ref x2), .val (.ref pp), .val .null, .val (.int (0 : Int32))] [])
      refine own_viaH (fun t => XS.iconst X53.here hx rfl (hb hby at_296)) ?_
      show own_EH _ _ _ _ _ _ _ _ _ T53 (mkF m 297 #[.val (.int p1), .val (.int p2), .val (.int p3), .val (.int p4), .val (.int p5), .val (.int p6), .val (.int m1), .val (.int u0), .val (.int u1), .val (.int cp), .val (.int m2), .val (.int v0), .val (.int v1), .val (.int li2), .val (.int co2), .val (.int kd), .val (.ref x1), .val (.ref x2), .val (.ref pp), .val .null, .val (.int (0 : Int32))] [(.int (1 : Int32))])
      refine own_viaH (fun t => XS.goto X53.here hx rfl (pc0 := 297) (pc' := 301) rfl (hb hby at_297) (by decide) (by decide)) ?_
      show own_EH _ _ _ _ _ _ _ _ _ T53 (mkF m 301 #[.val (.int p1), .val (.int p2), .val (.int p3), .val (.int p4), .val (.int p5), .val (.int p6), .val (.int m1), .val (.int u0), .val (.int u1), .val (.int cp), .val (.int m2), .val (.int v0), .val (.int v1), .val (.int li2), .val (.int co2), .val (.int kd), .val (.ref x1), .val (.ref x2), .val (.ref pp), .val .null, .val (.int (0 : Int32))] [(.int (1 : Int32))])
      exact own_retNH X53 hx hlk hS hk e53 (own_endC X53 e53 hh hZ (own_hEL hw) CR) Bd.returns (Or.inl rfl) (hb hby at_301) (by decide) (by decide) ⟨rfl, NQ53⟩
    · refine own_viaH (fun t => XS.icmpYes X51.here hx rfl (pc0 := 187) (pc' := 199) rfl (hb hby at_187) rfl (feq c187_52).2 (by decide) (by decide)) ?_
      show own_EH _ _ _ _ _ _ _ _ _ T51 (mkF m 199 #[.val (.int p1), .val (.int p2), .val (.int p3), .val (.int p4), .val (.int p5), .val (.int p6), .val (.int m1), .val (.int u0), .val (.int u1), .val (.int cp), .val (.int m2), .val (.int v0), .val (.int v1), .val (.int li2), .val (.int co2), .val (.int kd), .val (.ref x1), .val (.ref x2), .val (.ref pp), .unset, .unset] [])
      refine own_viaH (fun t => XS.iload X51.here hx rfl (hb hby at_199) rfl) ?_
      show own_EH _ _ _ _ _ _ _ _ _ T51 (mkF m 201 #[.val (.int p1), .val (.int p2), .val (.int p3), .val (.int p4), .val (.int p5), .val (.int p6), .val (.int m1), .val (.int u0), .val (.int u1), .val (.int cp), .val (.int m2), .val (.int v0), .val (.int v1), .val (.int li2), .val (.int co2), .val (.int kd), .val (.ref x1), .val (.ref x2), .val (.ref pp), .unset, .unset] [(.int kd)])
      refine own_viaH (fun t => XS.iconst X51.here hx rfl (hb hby at_201)) ?_
      show own_EH _ _ _ _ _ _ _ _ _ T51 (mkF m 202 #[.val (.int p1), .val (.int p2), .val (.int p3), .val (.int p4), .val (.int p5), .val (.int p6), .val (.int m1), .val (.int u0), .val (.int u1), .val (.int cp), .val (.int m2), .val (.int v0), .val (.int v1), .val (.int li2), .val (.int co2), .val (.int kd), .val (.ref x1), .val (.ref x2), .val (.ref pp), .unset, .unset] [(.int (2 : Int32)), (.int kd)])
      by_cases c202_54 : kd = (2 : Int32)
      · refine own_viaH (fun t => XS.icmpNo X51.here hx rfl (hb hby at_202) rfl (teq c202_54).2) ?_
        show own_EH _ _ _ _ _ _ _ _ _ T51 (mkF m 205 #[.val (.int p1), .val (.int p2), .val (.int p3), .val (.int p4), .val (.int p5), .val (.int p6), .val (.int m1), .val (.int u0), .val (.int u1), .val (.int cp), .val (.int m2), .val (.int v0), .val (.int v1), .val (.int li2), .val (.int co2), .val (.int kd), .val (.ref x1), .val (.ref x2), .val (.ref pp), .unset, .unset] [])
        refine own_viaH (fun t => XS.aload X51.here hx rfl (hb hby at_205) rfl rfl) ?_
        show own_EH _ _ _ _ _ _ _ _ _ T51 (mkF m 207 #[.val (.int p1), .val (.int p2), .val (.int p3), .val (.int p4), .val (.int p5), .val (.int p6), .val (.int m1), .val (.int u0), .val (.int u1), .val (.int cp), .val (.int m2), .val (.int v0), .val (.int v1), .val (.int li2), .val (.int co2), .val (.int kd), .val (.ref x1), .val (.ref x2), .val (.ref pp), .unset, .unset] [(.ref x1)])
        refine own_viaH (fun t => XS.astore X51.here hx rfl (hb hby at_207) rfl rfl (l' := #[.val (.int p1), .val (.int p2), .val (.int p3), .val (.int p4), .val (.int p5), .val (.int p6), .val (.int m1), .val (.int u0), .val (.int u1), .val (.int cp), .val (.int m2), .val (.int v0), .val (.int v1), .val (.int li2), .val (.int co2), .val (.int kd), .val (.ref x1), .val (.ref x2), .val (.ref pp), .val (.ref x1), .unset]) rfl) ?_
        show own_EH _ _ _ _ _ _ _ _ _ T51 (mkF m 209 #[.val (.int p1), .val (.int p2), .val (.int p3), .val (.int p4), .val (.int p5), .val (.int p6), .val (.int m1), .val (.int u0), .val (.int u1), .val (.int cp), .val (.int m2), .val (.int v0), .val (.int v1), .val (.int li2), .val (.int co2), .val (.int kd), .val (.ref x1), .val (.ref x2), .val (.ref pp), .val (.ref x1), .unset] [])
        refine own_viaH (fun t => XS.iconst X51.here hx rfl (hb hby at_209)) ?_
        show own_EH _ _ _ _ _ _ _ _ _ T51 (mkF m 210 #[.val (.int p1), .val (.int p2), .val (.int p3), .val (.int p4), .val (.int p5), .val (.int p6), .val (.int m1), .val (.int u0), .val (.int u1), .val (.int cp), .val (.int m2), .val (.int v0), .val (.int v1), .val (.int li2), .val (.int co2), .val (.int kd), .val (.ref x1), .val (.ref x2), .val (.ref pp), .val (.ref x1), .unset] [(.int (0 : Int32))])
        refine own_viaH (fun t => XS.istore X51.here hx rfl (hb hby at_210) rfl (l' := #[.val (.int p1), .val (.int p2), .val (.int p3), .val (.int p4), .val (.int p5), .val (.int p6), .val (.int m1), .val (.int u0), .val (.int u1), .val (.int cp), .val (.int m2), .val (.int v0), .val (.int v1), .val (.int li2), .val (.int co2), .val (.int kd), .val (.ref x1), .val (.ref x2), .val (.ref pp), .val (.ref x1), .val (.int (0 : Int32))]) rfl) ?_
        show own_EH _ _ _ _ _ _ _ _ _ T51 (mkF m 212 #[.val (.int p1), .val (.int p2), .val (.int p3), .val (.int p4), .val (.int p5), .val (.int p6), .val (.int m1), .val (.int u0), .val (.int u1), .val (.int cp), .val (.int m2), .val (.int v0), .val (.int v1), .val (.int li2), .val (.int co2), .val (.int kd), .val (.ref x1), .val (.ref x2), .val (.ref pp), .val (.ref x1), .val (.int (0 : Int32))] [])
        refine own_viaH (fun t => XS.goto X51.here hx rfl (pc0 := 212) (pc' := 284) rfl (hb hby at_212) (by decide) (by decide)) ?_
        show own_EH _ _ _ _ _ _ _ _ _ T51 (mkF m 284 #[.val (.int p1), .val (.int p2), .val (.int p3), .val (.int p4), .val (.int p5), .val (.int p6), .val (.int m1), .val (.int u0), .val (.int u1), .val (.int cp), .val (.int m2), .val (.int v0), .val (.int v1), .val (.int li2), .val (.int co2), .val (.int kd), .val (.ref x1), .val (.ref x2), .val (.ref pp), .val (.ref x1), .val (.int (0 : Int32))] [])
        refine own_viaH (fun t => XS.aload X51.here hx rfl (hb hby at_284) rfl rfl) ?_
        show own_EH _ _ _ _ _ _ _ _ _ T51 (mkF m 286 #[.val (.int p1), .val (.int p2), .val (.int p3), .val (.int p4), .val (.int p5), .val (.int p6), .val (.int m1), .val (.int u0), .val (.int u1), .val (.int cp), .val (.int m2), .val (.int v0), .val (.int v1), .val (.int li2), .val (.int co2), .val (.int kd), .val (.ref x1), .val (.ref x2), .val (.ref pp), .val (.ref x1), .val (.int (0 : Int32))] [(.ref pp)])
        refine own_viaH (fun t => XS.aload X51.here hx rfl (hb hby at_286) rfl rfl) ?_
        show own_EH _ _ _ _ _ _ _ _ _ T51 (mkF m 288 #[.val (.int p1), .val (.int p2), .val (.int p3), .val (.int p4), .val (.int p5), .val (.int p6), .val (.int m1), .val (.int u0), .val (.int u1), .val (.int cp), .val (.int m2), .val (.int v0), .val (.int v1), .val (.int li2), .val (.int co2), .val (.int kd), .val (.ref x1), .val (.ref x2), .val (.ref pp), .val (.ref x1), .val (.int (0 : Int32))] [(.ref x1), (.ref pp)])
        obtain ⟨cq55, kq55, q55a, q55b, q55c⟩ := isOf hZ (rfl : T51.heap = T51.heap) Po_pp.1
        obtain ⟨_, _, ⟨T55, L55, k55, n55⟩, -, X55, ⟨Lc55, hQ55, l55, y55, z55⟩, st55⟩ := X51.virtualBack hx (y := (⟨"com/example/exhaust/exhaust/frontend/source/SourcePosition", "equals", "(Ljava/lang/Object;)Z"⟩ : MethodName)) (z := (⟨"com/example/exhaust/exhaust/frontend/source/SourcePosition", "equals", "(Ljava/lang/Object;)Z"⟩ : MethodName)) hown (mvT hZ (hw _ (List.mem_of_getElem? (i := 51) rfl))) (mvT hZ (hw _ (List.mem_of_getElem? (i := 52) rfl))) (notFace_of_selects (args := #[]) (mvT hZ (hw _ (List.mem_of_getElem? (i := 54) rfl)))) (mvT hZ (hw _ (List.mem_of_getElem? (i := 54) rfl))) (mvT hZ (hw _ (List.mem_of_getElem? (i := 53) rfl))) (by decide) (backOf (W := 0) (rm8s l Z a0 hw [] pp x1 T51.heap n0 Z51 Tx1c.exa) hZ (hw _ (List.mem_of_getElem? (i := 55) rfl)) (hw _ (List.mem_of_getElem? (i := 31) rfl)) (by decide) (by decide)) q55a q55c (g := (mkF m 288 #[.val (.int p1), .val (.int p2), .val (.int p3), .val (.int p4), .val (.int p5), .val (.int p6), .val (.int m1), .val (.int u0), .val (.int u1), .val (.int cp), .val (.int m2), .val (.int v0), .val (.int v1), .val (.int li2), .val (.int co2), .val (.int kd), .val (.ref x1), .val (.ref x2), .val (.ref pp), .val (.ref x1), .val (.int (0 : Int32))] [(.ref x1), (.ref pp)])) rfl (by rw [hml]; rfl) (Steps.refl _) (argsL := [(.ref x1)]) (rest := []) (lenOf pd_8 rfl) rfl (by show 2 * 0 + _ ≤ _; exact Nat.le_of_eq rfl) (hb hby at_288) (fun _ _ => ⟨rfl, (rfl : T51.heap = T51.heap), (by decide : 15 + 0 ≤ _), (by decide : 47 + 0 ≤ _)⟩)
        dsimp only [Pt.U, Pt.locs, Pt.cells, Pt.slots] at X55 l55 y55 z55 st55 hQ55
        subst l55 y55 z55
        obtain ⟨rfl, N55, e55⟩ := hQ55
        refine own_thruH st55 ?_
        show own_EH _ _ _ _ _ _ _ _ _ T55 (mkF m 291 #[.val (.int p1), .val (.int p2), .val (.int p3), .val (.int p4), .val (.int p5), .val (.int p6), .val (.int m1), .val (.int u0), .val (.int u1), .val (.int cp), .val (.int m2), .val (.int v0), .val (.int v1), .val (.int li2), .val (.int co2), .val (.int kd), .val (.ref x1), .val (.ref x2), .val (.ref pp), .val (.ref x1), .val (.int (0 : Int32))] [(.int (0 : Int32))])
        have NQ55 := Fr.app NA51 N55
        refine own_viaH (fun t => XS.iload X55.here hx rfl (hb hby at_291) rfl) ?_
        show own_EH _ _ _ _ _ _ _ _ _ T55 (mkF m 293 #[.val (.int p1), .val (.int p2), .val (.int p3), .val (.int p4), .val (.int p5), .val (.int p6), .val (.int m1), .val (.int u0), .val (.int u1), .val (.int cp), .val (.int m2), .val (.int v0), .val (.int v1), .val (.int li2), .val (.int co2), .val (.int kd), .val (.ref x1), .val (.ref x2), .val (.ref pp), .val (.ref x1), .val (.int (0 : Int32))] [(.int (0 : Int32)), (.int (0 : Int32))])
        refine own_viaH (fun t => XS.icmpNo X55.here hx rfl (hb hby at_293) rfl (teq (by decide : (0 : Int32) = (0 : Int32))).2) ?_
        show own_EH _ _ _ _ _ _ _ _ _ T55 (mkF m 296 #[.val (.int p1), .val (.int p2), .val (.int p3), .val (.int p4), .val (.int p5), .val (.int p6), .val (.int m1), .val (.int u0), .val (.int u1), .val (.int cp), .val (.int m2), .val (.int v0), .val (.int v1), .val (.int li2), .val (.int co2), .val (.int kd), .val (.ref x1), .val (.ref x2), .val (.ref pp), .val (.ref x1), .val (.int (0 : Int32))] [])
        refine own_viaH (fun t => XS.iconst X55.here hx rfl (hb hby at_296)) ?_
        show own_EH _ _ _ _ _ _ _ _ _ T55 (mkF m 297 #[.val (.int p1), .val (.int p2), .val (.int p3), .val (.int p4), .val (.int p5), .val (.int p6), .val (.int m1), .val (.int u0), .val (.int u1), .val (.int cp), .val (.int m2), .val (.int v0), .val (.int v1), .val (.int li2), .val (.int co2), .val (.int kd), .val (.ref x1), .val (.ref x2), .val (.ref pp), .val (.ref x1), .val (.int (0 : Int32))] [(.int (1 : Int32))])
        refine own_viaH (fun t => XS.goto X55.here hx rfl (pc0 := 297) (pc' := 301) rfl (hb hby at_297) (by decide) (by decide)) ?_
        show own_EH _ _ _ _ _ _ _ _ _ T55 (mkF m 301 #[.val (.int p1), .val (.int p2), .val (.int p3), .val (.int p4), .val (.int p5), .val (.int p6), .val (.int m1), .val (.int u0), .val (.int u1), .val (.int cp), .val (.int m2), .val (.int v0), .val (.int v1), .val (.int li2), .val (.int co2), .val (.int kd), .val (.ref x1), .val (.ref x2), .val (.ref pp), .val (.ref x1), .val (.int (0 : Int32))] [(.int (1 : Int32))])
        exact own_retNH X55 hx hlk hS hk e55 (own_endC X55 e55 hh hZ (own_hEL hw) CR) Bd.returns (Or.inl rfl) (hb hby at_301) (by decide) (by decide) ⟨rfl, NQ55⟩
      · refine own_viaH (fun t => XS.icmpYes X51.here hx rfl (pc0 := 202) (pc' := 215) rfl (hb hby at_202) rfl (feq c202_54).2 (by decide) (by decide)) ?_
        show own_EH _ _ _ _ _ _ _ _ _ T51 (mkF m 215 #[.val (.int p1), .val (.int p2), .val (.int p3), .val (.int p4), .val (.int p5), .val (.int p6), .val (.int m1), .val (.int u0), .val (.int u1), .val (.int cp), .val (.int m2), .val (.int v0), .val (.int v1), .val (.int li2), .val (.int co2), .val (.int kd), .val (.ref x1), .val (.ref x2), .val (.ref pp), .unset, .unset] [])
        refine own_viaH (fun t => XS.iload X51.here hx rfl (hb hby at_215) rfl) ?_
        show own_EH _ _ _ _ _ _ _ _ _ T51 (mkF m 217 #[.val (.int p1), .val (.int p2), .val (.int p3), .val (.int p4), .val (.int p5), .val (.int p6), .val (.int m1), .val (.int u0), .val (.int u1), .val (.int cp), .val (.int m2), .val (.int v0), .val (.int v1), .val (.int li2), .val (.int co2), .val (.int kd), .val (.ref x1), .val (.ref x2), .val (.ref pp), .unset, .unset] [(.int kd)])
        refine own_viaH (fun t => XS.iconst X51.here hx rfl (hb hby at_217)) ?_
        show own_EH _ _ _ _ _ _ _ _ _ T51 (mkF m 218 #[.val (.int p1), .val (.int p2), .val (.int p3), .val (.int p4), .val (.int p5), .val (.int p6), .val (.int m1), .val (.int u0), .val (.int u1), .val (.int cp), .val (.int m2), .val (.int v0), .val (.int v1), .val (.int li2), .val (.int co2), .val (.int kd), .val (.ref x1), .val (.ref x2), .val (.ref pp), .unset, .unset] [(.int (3 : Int32)), (.int kd)])
        by_cases c218_56 : kd = (3 : Int32)
        · refine own_viaH (fun t => XS.icmpNo X51.here hx rfl (hb hby at_218) rfl (teq c218_56).2) ?_
          show own_EH _ _ _ _ _ _ _ _ _ T51 (mkF m 221 #[.val (.int p1), .val (.int p2), .val (.int p3), .val (.int p4), .val (.int p5), .val (.int p6), .val (.int m1), .val (.int u0), .val (.int u1), .val (.int cp), .val (.int m2), .val (.int v0), .val (.int v1), .val (.int li2), .val (.int co2), .val (.int kd), .val (.ref x1), .val (.ref x2), .val (.ref pp), .unset, .unset] [])
          refine own_viaH (fun t => XS.aload X51.here hx rfl (hb hby at_221) rfl rfl) ?_
          show own_EH _ _ _ _ _ _ _ _ _ T51 (mkF m 223 #[.val (.int p1), .val (.int p2), .val (.int p3), .val (.int p4), .val (.int p5), .val (.int p6), .val (.int m1), .val (.int u0), .val (.int u1), .val (.int cp), .val (.int m2), .val (.int v0), .val (.int v1), .val (.int li2), .val (.int co2), .val (.int kd), .val (.ref x1), .val (.ref x2), .val (.ref pp), .unset, .unset] [(.ref pp)])
          refine own_viaH (fun t => XS.astore X51.here hx rfl (hb hby at_223) rfl rfl (l' := #[.val (.int p1), .val (.int p2), .val (.int p3), .val (.int p4), .val (.int p5), .val (.int p6), .val (.int m1), .val (.int u0), .val (.int u1), .val (.int cp), .val (.int m2), .val (.int v0), .val (.int v1), .val (.int li2), .val (.int co2), .val (.int kd), .val (.ref x1), .val (.ref x2), .val (.ref pp), .val (.ref pp), .unset]) rfl) ?_
          show own_EH _ _ _ _ _ _ _ _ _ T51 (mkF m 225 #[.val (.int p1), .val (.int p2), .val (.int p3), .val (.int p4), .val (.int p5), .val (.int p6), .val (.int m1), .val (.int u0), .val (.int u1), .val (.int cp), .val (.int m2), .val (.int v0), .val (.int v1), .val (.int li2), .val (.int co2), .val (.int kd), .val (.ref x1), .val (.ref x2), .val (.ref pp), .val (.ref pp), .unset] [])
          refine own_viaH (fun t => XS.iconst X51.here hx rfl (hb hby at_225)) ?_
          show own_EH _ _ _ _ _ _ _ _ _ T51 (mkF m 226 #[.val (.int p1), .val (.int p2), .val (.int p3), .val (.int p4), .val (.int p5), .val (.int p6), .val (.int m1), .val (.int u0), .val (.int u1), .val (.int cp), .val (.int m2), .val (.int v0), .val (.int v1), .val (.int li2), .val (.int co2), .val (.int kd), .val (.ref x1), .val (.ref x2), .val (.ref pp), .val (.ref pp), .unset] [(.int (1 : Int32))])
          refine own_viaH (fun t => XS.istore X51.here hx rfl (hb hby at_226) rfl (l' := #[.val (.int p1), .val (.int p2), .val (.int p3), .val (.int p4), .val (.int p5), .val (.int p6), .val (.int m1), .val (.int u0), .val (.int u1), .val (.int cp), .val (.int m2), .val (.int v0), .val (.int v1), .val (.int li2), .val (.int co2), .val (.int kd), .val (.ref x1), .val (.ref x2), .val (.ref pp), .val (.ref pp), .val (.int (1 : Int32))]) rfl) ?_
          show own_EH _ _ _ _ _ _ _ _ _ T51 (mkF m 228 #[.val (.int p1), .val (.int p2), .val (.int p3), .val (.int p4), .val (.int p5), .val (.int p6), .val (.int m1), .val (.int u0), .val (.int u1), .val (.int cp), .val (.int m2), .val (.int v0), .val (.int v1), .val (.int li2), .val (.int co2), .val (.int kd), .val (.ref x1), .val (.ref x2), .val (.ref pp), .val (.ref pp), .val (.int (1 : Int32))] [])
          refine own_viaH (fun t => XS.goto X51.here hx rfl (pc0 := 228) (pc' := 284) rfl (hb hby at_228) (by decide) (by decide)) ?_
          show own_EH _ _ _ _ _ _ _ _ _ T51 (mkF m 284 #[.val (.int p1), .val (.int p2), .val (.int p3), .val (.int p4), .val (.int p5), .val (.int p6), .val (.int m1), .val (.int u0), .val (.int u1), .val (.int cp), .val (.int m2), .val (.int v0), .val (.int v1), .val (.int li2), .val (.int co2), .val (.int kd), .val (.ref x1), .val (.ref x2), .val (.ref pp), .val (.ref pp), .val (.int (1 : Int32))] [])
          refine own_viaH (fun t => XS.aload X51.here hx rfl (hb hby at_284) rfl rfl) ?_
          show own_EH _ _ _ _ _ _ _ _ _ T51 (mkF m 286 #[.val (.int p1), .val (.int p2), .val (.int p3), .val (.int p4), .val (.int p5), .val (.int p6), .val (.int m1), .val (.int u0), .val (.int u1), .val (.int cp), .val (.int m2), .val (.int v0), .val (.int v1), .val (.int li2), .val (.int co2), .val (.int kd), .val (.ref x1), .val (.ref x2), .val (.ref pp), .val (.ref pp), .val (.int (1 : Int32))] [(.ref pp)])
          refine own_viaH (fun t => XS.aload X51.here hx rfl (hb hby at_286) rfl rfl) ?_
          show own_EH _ _ _ _ _ _ _ _ _ T51 (mkF m 288 #[.val (.int p1), .val (.int p2), .val (.int p3), .val (.int p4), .val (.int p5), .val (.int p6), .val (.int m1), .val (.int u0), .val (.int u1), .val (.int cp), .val (.int m2), .val (.int v0), .val (.int v1), .val (.int li2), .val (.int co2), .val (.int kd), .val (.ref x1), .val (.ref x2), .val (.ref pp), .val (.ref pp), .val (.int (1 : Int32))] [(.ref pp), (.ref pp)])
          obtain ⟨cq57, kq57, q57a, q57b, q57c⟩ := isOf hZ (rfl : T51.heap = T51.heap) Po_pp.1
          obtain ⟨_, _, ⟨T57, L57, k57, n57⟩, -, X57, ⟨Lc57, hQ57, l57, y57, z57⟩, st57⟩ := X51.virtualBack hx (y := (⟨"com/example/exhaust/exhaust/frontend/source/SourcePosition", "equals", "(Ljava/lang/Object;)Z"⟩ : MethodName)) (z := (⟨"com/example/exhaust/exhaust/frontend/source/SourcePosition", "equals", "(Ljava/lang/Object;)Z"⟩ : MethodName)) hown (mvT hZ (hw _ (List.mem_of_getElem? (i := 51) rfl))) (mvT hZ (hw _ (List.mem_of_getElem? (i := 52) rfl))) (notFace_of_selects (args := #[]) (mvT hZ (hw _ (List.mem_of_getElem? (i := 54) rfl)))) (mvT hZ (hw _ (List.mem_of_getElem? (i := 54) rfl))) (mvT hZ (hw _ (List.mem_of_getElem? (i := 53) rfl))) (by decide) (backOf (W := 0) (rm8 l Z a0 hw [] pp pp x1 x1 p3 p5 p3 p5 z (own_cs m1 u0 u1) (own_cs m1 u0 u1) (own_cs_C hu0 hu1) (own_cs_C hu0 hu1) (own_cs_len _ _ _) (own_cs_len _ _ _) hz T51.heap n0 Z51 (S0.ext EC) Tx1c Tx1c Po_pp Po_pp) hZ (hw _ (List.mem_of_getElem? (i := 55) rfl)) (hw _ (List.mem_of_getElem? (i := 31) rfl)) (by decide) (by decide)) q57a q57c (g := (mkF m 288 #[.val (.int p1), .val (.int p2), .val (.int p3), .val (.int p4), .val (.int p5), .val (.int p6), .val (.int m1), .val (.int u0), .val (.int u1), .val (.int cp), .val (.int m2), .val (.int v0), .val (.int v1), .val (.int li2), .val (.int co2), .val (.int kd), .val (.ref x1), .val (.ref x2), .val (.ref pp), .val (.ref pp), .val (.int (1 : Int32))] [(.ref pp), (.ref pp)])) rfl (by rw [hml]; rfl) (Steps.refl _) (argsL := [(.ref pp)]) (rest := []) (lenOf pd_8 rfl) rfl (by show 2 * 0 + _ ≤ _; exact Nat.le_of_eq rfl) (hb hby at_288) (fun _ _ => ⟨rfl, (rfl : T51.heap = T51.heap), (by decide : 15 + 0 ≤ _), (by decide : 47 + 0 ≤ _)⟩)
          dsimp only [Pt.U, Pt.locs, Pt.cells, Pt.slots] at X57 l57 y57 z57 st57 hQ57
          subst l57 y57 z57
          obtain ⟨rfl, N57, e57⟩ := hQ57
          refine own_thruH st57 ?_
          show own_EH _ _ _ _ _ _ _ _ _ T57 (mkF m 291 #[.val (.int p1), .val (.int p2), .val (.int p3), .val (.int p4), .val (.int p5), .val (.int p6), .val (.int m1), .val (.int u0), .val (.int u1), .val (.int cp), .val (.int m2), .val (.int v0), .val (.int v1), .val (.int li2), .val (.int co2), .val (.int kd), .val (.ref x1), .val (.ref x2), .val (.ref pp), .val (.ref pp), .val (.int (1 : Int32))] [(.int (own_eq (own_cs m1 u0 u1) (own_cs m1 u0 u1) p3 p5 p3 p5))])
          have NQ57 := Fr.app NA51 N57
          rw [show own_eq (own_cs m1 u0 u1) (own_cs m1 u0 u1) p3 p5 p3 p5 = 1 from if_pos ⟨rfl, rfl, rfl⟩]
          show own_EH _ _ _ _ _ _ _ _ _ T57 (mkF m 291 #[.val (.int p1), .val (.int p2), .val (.int p3), .val (.int p4), .val (.int p5), .val (.int p6), .val (.int m1), .val (.int u0), .val (.int u1), .val (.int cp), .val (.int m2), .val (.int v0), .val (.int v1), .val (.int li2), .val (.int co2), .val (.int kd), .val (.ref x1), .val (.ref x2), .val (.ref pp), .val (.ref pp), .val (.int (1 : Int32))] [(.int (1 : Int32))])
          refine own_viaH (fun t => XS.iload X57.here hx rfl (hb hby at_291) rfl) ?_
          show own_EH _ _ _ _ _ _ _ _ _ T57 (mkF m 293 #[.val (.int p1), .val (.int p2), .val (.int p3), .val (.int p4), .val (.int p5), .val (.int p6), .val (.int m1), .val (.int u0), .val (.int u1), .val (.int cp), .val (.int m2), .val (.int v0), .val (.int v1), .val (.int li2), .val (.int co2), .val (.int kd), .val (.ref x1), .val (.ref x2), .val (.ref pp), .val (.ref pp), .val (.int (1 : Int32))] [(.int (1 : Int32)), (.int (1 : Int32))])
          refine own_viaH (fun t => XS.icmpNo X57.here hx rfl (hb hby at_293) rfl (teq (by decide : (1 : Int32) = (1 : Int32))).2) ?_
          show own_EH _ _ _ _ _ _ _ _ _ T57 (mkF m 296 #[.val (.int p1), .val (.int p2), .val (.int p3), .val (.int p4), .val (.int p5), .val (.int p6), .val (.int m1), .val (.int u0), .val (.int u1), .val (.int cp), .val (.int m2), .val (.int v0), .val (.int v1), .val (.int li2), .val (.int co2), .val (.int kd), .val (.ref x1), .val (.ref x2), .val (.ref pp), .val (.ref pp), .val (.int (1 : Int32))] [])
          refine own_viaH (fun t => XS.iconst X57.here hx rfl (hb hby at_296)) ?_
          show own_EH _ _ _ _ _ _ _ _ _ T57 (mkF m 297 #[.val (.int p1), .val (.int p2), .val (.int p3), .val (.int p4), .val (.int p5), .val (.int p6), .val (.int m1), .val (.int u0), .val (.int u1), .val (.int cp), .val (.int m2), .val (.int v0), .val (.int v1), .val (.int li2), .val (.int co2), .val (.int kd), .val (.ref x1), .val (.ref x2), .val (.ref pp), .val (.ref pp), .val (.int (1 : Int32))] [(.int (1 : Int32))])
          refine own_viaH (fun t => XS.goto X57.here hx rfl (pc0 := 297) (pc' := 301) rfl (hb hby at_297) (by decide) (by decide)) ?_
          show own_EH _ _ _ _ _ _ _ _ _ T57 (mkF m 301 #[.val (.int p1), .val (.int p2), .val (.int p3), .val (.int p4), .val (.int p5), .val (.int p6), .val (.int m1), .val (.int u0), .val (.int u1), .val (.int cp), .val (.int m2), .val (.int v0), .val (.int v1), .val (.int li2), .val (.int co2), .val (.int kd), .val (.ref x1), .val (.ref x2), .val (.ref pp), .val (.ref pp), .val (.int (1 : Int32))] [(.int (1 : Int32))])
          exact own_retNH X57 hx hlk hS hk e57 (own_endC X57 e57 hh hZ (own_hEL hw) CR) Bd.returns (Or.inl rfl) (hb hby at_301) (by decide) (by decide) ⟨rfl, NQ57⟩
        · refine own_viaH (fun t => XS.icmpYes X51.here hx rfl (pc0 := 218) (pc' := 231) rfl (hb hby at_218) rfl (feq c218_56).2 (by decide) (by decide)) ?_
          show own_EH _ _ _ _ _ _ _ _ _ T51 (mkF m 231 #[.val (.int p1), .val (.int p2), .val (.int p3), .val (.int p4), .val (.int p5), .val (.int p6), .val (.int m1), .val (.int u0), .val (.int u1), .val (.int cp), .val (.int m2), .val (.int v0), .val (.int v1), .val (.int li2), .val (.int co2), .val (.int kd), .val (.ref x1), .val (.ref x2), .val (.ref pp), .unset, .unset] [])
          obtain ⟨T58, h58, X58, e58, E58, A58, D58, -, st58⟩ := newO X51 hx hZ hown (hw _ (List.mem_of_getElem? (i := 29) rfl)) (hw _ (List.mem_of_getElem? (i := 30) rfl)) (hw _ (List.mem_of_getElem? (i := 31) rfl)) (rfl : T51.heap = T51.heap) (g := (mkF m 231 #[.val (.int p1), .val (.int p2), .val (.int p3), .val (.int p4), .val (.int p5), .val (.int p6), .val (.int m1), .val (.int u0), .val (.int u1), .val (.int cp), .val (.int m2), .val (.int v0), .val (.int v1), .val (.int li2), .val (.int co2), .val (.int kd), .val (.ref x1), .val (.ref x2), .val (.ref pp), .unset, .unset] [])) rfl (hb hby at_231) (by decide) (by decide)
          obtain ⟨qq, g58⟩ : ∃ z, z = T51.heap.size := ⟨_, rfl⟩
          rw [← g58] at A58 D58 st58
          have gz_qq : n0 ≤ qq := Nat.le_trans Z51 (Nat.le_of_eq g58.symm)
          have Z58 : n0 ≤ h58.size := Nat.le_trans Z51 E58.1
          refine own_viaH st58 ?_
          show own_EH _ _ _ _ _ _ _ _ _ T58 (mkF m 234 #[.val (.int p1), .val (.int p2), .val (.int p3), .val (.int p4), .val (.int p5), .val (.int p6), .val (.int m1), .val (.int u0), .val (.int u1), .val (.int cp), .val (.int m2), .val (.int v0), .val (.int v1), .val (.int li2), .val (.int co2), .val (.int kd), .val (.ref x1), .val (.ref x2), .val (.ref pp), .unset, .unset] [(.ref qq)])
          have hk := Nat.le_trans hk E58.1
          have CR := CR.trans (CHr.ext E58 CR.1)
          have Dfile_58 : Fld Z h58 qq "com/example/exhaust/exhaust/frontend/source/SourcePosition" "file" "Ljava/lang/String;" .null := D58 (Or.inr (hw _ (List.mem_of_getElem? (i := 43) rfl))) (ty := .object "java/lang/String") (by decide)
          have Dline_58 : Fld Z h58 qq "com/example/exhaust/exhaust/frontend/source/SourcePosition" "line" "I" (.int 0) := D58 (Or.inr (hw _ (List.mem_of_getElem? (i := 45) rfl))) (ty := .int) (by decide)
          have Dcolumn_58 : Fld Z h58 qq "com/example/exhaust/exhaust/frontend/source/SourcePosition" "column" "I" (.int 0) := D58 (Or.inr (hw _ (List.mem_of_getElem? (i := 47) rfl))) (ty := .int) (by decide)
          refine own_viaH (fun t => XS.dup X58.here hx rfl (hb hby at_234) rfl rfl) ?_
          show own_EH _ _ _ _ _ _ _ _ _ T58 (mkF m 235 #[.val (.int p1), .val (.int p2), .val (.int p3), .val (.int p4), .val (.int p5), .val (.int p6), .val (.int m1), .val (.int u0), .val (.int u1), .val (.int cp), .val (.int m2), .val (.int v0), .val (.int v1), .val (.int li2), .val (.int co2), .val (.int kd), .val (.ref x1), .val (.ref x2), .val (.ref pp), .unset, .unset] [(.ref qq), (.ref qq)])
          refine own_viaH (fun t => XS.aload X58.here hx rfl (hb hby at_235) rfl rfl) ?_
          show own_EH _ _ _ _ _ _ _ _ _ T58 (mkF m 237 #[.val (.int p1), .val (.int p2), .val (.int p3), .val (.int p4), .val (.int p5), .val (.int p6), .val (.int m1), .val (.int u0), .val (.int u1), .val (.int cp), .val (.int m2), .val (.int v0), .val (.int v1), .val (.int li2), .val (.int co2), .val (.int kd), .val (.ref x1), .val (.ref x2), .val (.ref pp), .unset, .unset] [(.ref x2), (.ref qq), (.ref qq)])
          refine own_viaH (fun t => XS.iload X58.here hx rfl (hb hby at_237) rfl) ?_
          show own_EH _ _ _ _ _ _ _ _ _ T58 (mkF m 239 #[.val (.int p1), .val (.int p2), .val (.int p3), .val (.int p4), .val (.int p5), .val (.int p6), .val (.int m1), .val (.int u0), .val (.int u1), .val (.int cp), .val (.int m2), .val (.int v0), .val (.int v1), .val (.int li2), .val (.int co2), .val (.int kd), .val (.ref x1), .val (.ref x2), .val (.ref pp), .unset, .unset] [(.int li2), (.ref x2), (.ref qq), (.ref qq)])
          refine own_viaH (fun t => XS.iload X58.here hx rfl (hb hby at_239) rfl) ?_
          show own_EH _ _ _ _ _ _ _ _ _ T58 (mkF m 241 #[.val (.int p1), .val (.int p2), .val (.int p3), .val (.int p4), .val (.int p5), .val (.int p6), .val (.int m1), .val (.int u0), .val (.int u1), .val (.int cp), .val (.int m2), .val (.int v0), .val (.int v1), .val (.int li2), .val (.int co2), .val (.int kd), .val (.ref x1), .val (.ref x2), .val (.ref pp), .unset, .unset] [(.int co2), (.int li2), (.ref x2), (.ref qq), (.ref qq)])
          obtain ⟨_, _, ⟨T59, L59, k59, n59⟩, -, X59, S59, G59, ⟨Lc59, hQ59, l59, y59, z59, C59⟩, st59⟩ := X58.specialBackS hx (y := (⟨"com/example/exhaust/exhaust/frontend/source/SourcePosition", "<init>", "(Ljava/lang/String;II)V"⟩ : MethodName)) rfl hown (mvT hZ (hw _ (List.mem_of_getElem? (i := 32) rfl))) (mvT hZ (hw _ (List.mem_of_getElem? (i := 33) rfl))) (mvT hZ (hw _ (List.mem_of_getElem? (i := 34) rfl))) (by decide) (backOfSH (W := 1) (rm6 l Z a0 hw [] qq x2 li2 co2 h58 n0 Z58 gz_qq (Tx2c.exa.ext E58) A58 Dfile_58 Dline_58 Dcolumn_58) hZ (hw _ (List.mem_of_getElem? (i := 34) rfl)) (hw _ (List.mem_of_getElem? (i := 31) rfl)) (by decide) (by decide) (own_hEL hw) CR.1) (g := (mkF m 241 #[.val (.int p1), .val (.int p2), .val (.int p3), .val (.int p4), .val (.int p5), .val (.int p6), .val (.int m1), .val (.int u0), .val (.int u1), .val (.int cp), .val (.int m2), .val (.int v0), .val (.int v1), .val (.int li2), .val (.int co2), .val (.int kd), .val (.ref x1), .val (.ref x2), .val (.ref pp), .unset, .unset] [(.int co2), (.int li2), (.ref x2), (.ref qq), (.ref qq)])) rfl (by rw [hml]; rfl) (Steps.refl _) (a := qq) (argsL := [(.ref x2), (.int li2), (.int co2)]) (rest := [(.ref qq)]) (lenOf pd_6 rfl) rfl (by show 2 * 0 + _ ≤ _; exact Nat.le_of_eq rfl) (hb hby at_241) (fun _ _ => ⟨rfl, e58, (by decide : 16 + 2 ≤ _), (by decide : 50 + 20 ≤ _)⟩)
          dsimp only [Pt.U, Pt.locs, Pt.cells, Pt.slots] at X59 S59 G59 l59 y59 z59 C59 st59 hQ59
          subst l59 y59 z59
          obtain ⟨X59, hS, hZ, hown⟩ := rebS hS (by rw [e58]; exact hk) X59 S59 G59 hZ hown
          have hk := Nat.le_refl T59.heap.size
          have CR := CR.trans C59
          have Z59 : n0 ≤ T59.heap.size := Nat.le_trans Z58 (by rw [e58] at G59; exact G59)
          obtain ⟨rfl, N59, K59, Po_qq⟩ := hQ59
          refine own_thruH st59 ?_
          show own_EH _ _ _ _ _ _ _ _ _ T59 (mkF m 244 #[.val (.int p1), .val (.int p2), .val (.int p3), .val (.int p4), .val (.int p5), .val (.int p6), .val (.int m1), .val (.int u0), .val (.int u1), .val (.int cp), .val (.int m2), .val (.int v0), .val (.int v1), .val (.int li2), .val (.int co2), .val (.int kd), .val (.ref x1), .val (.ref x2), .val (.ref pp), .unset, .unset] [(.ref qq)])
          have NA59 := Fr.app NA51 N59
          have Ep_qq : Ext T51.heap T59.heap := own_extK E58 K59 (allS (Nat.le_of_eq g58.symm) all0)
          have ED : Ext h0 T59.heap := own_extT EC Ep_qq
          have Tx1d := Tx1c.ext Ep_qq
          have Tx2d := Tx2c.ext Ep_qq
          have Po_ppd := Po_pp.ext Ep_qq
          refine own_viaH (fun t => XS.astore X59.here hx rfl (hb hby at_244) rfl rfl (l' := #[.val (.int p1), .val (.int p2), .val (.int p3), .val (.int p4), .val (.int p5), .val (.int p6), .val (.int m1), .val (.int u0), .val (.int u1), .val (.int cp), .val (.int m2), .val (.int v0), .val (.int v1), .val (.int li2), .val (.int co2), .val (.int kd), .val (.ref x1), .val (.ref x2), .val (.ref pp), .val (.ref qq), .unset]) rfl) ?_
          show own_EH _ _ _ _ _ _ _ _ _ T59 (mkF m 246 #[.val (.int p1), .val (.int p2), .val (.int p3), .val (.int p4), .val (.int p5), .val (.int p6), .val (.int m1), .val (.int u0), .val (.int u1), .val (.int cp), .val (.int m2), .val (.int v0), .val (.int v1), .val (.int li2), .val (.int co2), .val (.int kd), .val (.ref x1), .val (.ref x2), .val (.ref pp), .val (.ref qq), .unset] [])
          refine own_viaH (fun t => XS.iload X59.here hx rfl (hb hby at_246) rfl) ?_
          show own_EH _ _ _ _ _ _ _ _ _ T59 (mkF m 248 #[.val (.int p1), .val (.int p2), .val (.int p3), .val (.int p4), .val (.int p5), .val (.int p6), .val (.int m1), .val (.int u0), .val (.int u1), .val (.int cp), .val (.int m2), .val (.int v0), .val (.int v1), .val (.int li2), .val (.int co2), .val (.int kd), .val (.ref x1), .val (.ref x2), .val (.ref pp), .val (.ref qq), .unset] [(.int m1)])
          refine own_viaH (fun t => XS.iload X59.here hx rfl (hb hby at_248) rfl) ?_
          show own_EH _ _ _ _ _ _ _ _ _ T59 (mkF m 250 #[.val (.int p1), .val (.int p2), .val (.int p3), .val (.int p4), .val (.int p5), .val (.int p6), .val (.int m1), .val (.int u0), .val (.int u1), .val (.int cp), .val (.int m2), .val (.int v0), .val (.int v1), .val (.int li2), .val (.int co2), .val (.int kd), .val (.ref x1), .val (.ref x2), .val (.ref pp), .val (.ref qq), .unset] [(.int u0), (.int m1)])
          refine own_viaH (fun t => XS.iload X59.here hx rfl (hb hby at_250) rfl) ?_
          show own_EH _ _ _ _ _ _ _ _ _ T59 (mkF m 252 #[.val (.int p1), .val (.int p2), .val (.int p3), .val (.int p4), .val (.int p5), .val (.int p6), .val (.int m1), .val (.int u0), .val (.int u1), .val (.int cp), .val (.int m2), .val (.int v0), .val (.int v1), .val (.int li2), .val (.int co2), .val (.int kd), .val (.ref x1), .val (.ref x2), .val (.ref pp), .val (.ref qq), .unset] [(.int u1), (.int u0), (.int m1)])
          refine own_viaH (fun t => XS.iload X59.here hx rfl (hb hby at_252) rfl) ?_
          show own_EH _ _ _ _ _ _ _ _ _ T59 (mkF m 254 #[.val (.int p1), .val (.int p2), .val (.int p3), .val (.int p4), .val (.int p5), .val (.int p6), .val (.int m1), .val (.int u0), .val (.int u1), .val (.int cp), .val (.int m2), .val (.int v0), .val (.int v1), .val (.int li2), .val (.int co2), .val (.int kd), .val (.ref x1), .val (.ref x2), .val (.ref pp), .val (.ref qq), .unset] [(.int m2), (.int u1), (.int u0), (.int m1)])
          refine own_viaH (fun t => XS.iload X59.here hx rfl (hb hby at_254) rfl) ?_
          show own_EH _ _ _ _ _ _ _ _ _ T59 (mkF m 256 #[.val (.int p1), .val (.int p2), .val (.int p3), .val (.int p4), .val (.int p5), .val (.int p6), .val (.int m1), .val (.int u0), .val (.int u1), .val (.int cp), .val (.int m2), .val (.int v0), .val (.int v1), .val (.int li2), .val (.int co2), .val (.int kd), .val (.ref x1), .val (.ref x2), .val (.ref pp), .val (.ref qq), .unset] [(.int v0), (.int m2), (.int u1), (.int u0), (.int m1)])
          refine own_viaH (fun t => XS.iload X59.here hx rfl (hb hby at_256) rfl) ?_
          show own_EH _ _ _ _ _ _ _ _ _ T59 (mkF m 258 #[.val (.int p1), .val (.int p2), .val (.int p3), .val (.int p4), .val (.int p5), .val (.int p6), .val (.int m1), .val (.int u0), .val (.int u1), .val (.int cp), .val (.int m2), .val (.int v0), .val (.int v1), .val (.int li2), .val (.int co2), .val (.int kd), .val (.ref x1), .val (.ref x2), .val (.ref pp), .val (.ref qq), .unset] [(.int v1), (.int v0), (.int m2), (.int u1), (.int u0), (.int m1)])
          obtain ⟨_, _, ⟨T60, L60, k60, n60⟩, -, X60, ⟨Lc60, hQ60, l60, y60, z60⟩, st60⟩ := Jvm.LawKit.callS X59 hx (y := (⟨"com/example/exhaust/exhaust/frontend/source/SourcePositionEqualsPinLaw", "sameText", "(ICCICC)Z"⟩ : MethodName)) hown (mvT hZ (hw _ (List.mem_of_getElem? (i := 48) rfl))) (mvT hZ (hw _ (List.mem_of_getElem? (i := 49) rfl))) (mvT hZ (hw _ (List.mem_of_getElem? (i := 2) rfl))) (mvT hZ (hw _ (List.mem_of_getElem? (i := 50) rfl))) (by decide) (backOf (W := 0) (rm7 l Z a0 hw [] m1 u0 u1 m2 v0 v1 hm1 hm2 T59.heap n0 Z59) hZ (hw _ (List.mem_of_getElem? (i := 50) rfl)) (hw _ (List.mem_of_getElem? (i := 2) rfl)) (by decide) (by decide)) (g := (mkF m 258 #[.val (.int p1), .val (.int p2), .val (.int p3), .val (.int p4), .val (.int p5), .val (.int p6), .val (.int m1), .val (.int u0), .val (.int u1), .val (.int cp), .val (.int m2), .val (.int v0), .val (.int v1), .val (.int li2), .val (.int co2), .val (.int kd), .val (.ref x1), .val (.ref x2), .val (.ref pp), .val (.ref qq), .unset] [(.int v1), (.int v0), (.int m2), (.int u1), (.int u0), (.int m1)])) rfl (by rw [hml]; rfl) (argsL := [(.int m1), (.int u0), (.int u1), (.int m2), (.int v0), (.int v1)]) (rest := []) (lenOf pd_7 rfl) rfl (by show 2 * 0 + _ ≤ _; exact Nat.le_of_eq rfl) (hb hby at_258) (fun _ _ => ⟨rfl, (rfl : T59.heap = T59.heap), (by decide : 18 + 0 ≤ _), (by decide : 70 + 0 ≤ _)⟩)
          dsimp only [Pt.U, Pt.locs, Pt.cells, Pt.slots] at X60 l60 y60 z60 st60 hQ60
          subst l60 y60 z60
          obtain ⟨rfl, N60, e60⟩ := hQ60
          refine own_viaH st60 ?_
          show own_EH _ _ _ _ _ _ _ _ _ T60 (mkF m 261 #[.val (.int p1), .val (.int p2), .val (.int p3), .val (.int p4), .val (.int p5), .val (.int p6), .val (.int m1), .val (.int u0), .val (.int u1), .val (.int cp), .val (.int m2), .val (.int v0), .val (.int v1), .val (.int li2), .val (.int co2), .val (.int kd), .val (.ref x1), .val (.ref x2), .val (.ref pp), .val (.ref qq), .unset] [(.int (own_same m1 u0 u1 m2 v0 v1))])
          have NS60 := Fr.app NA59 N60
          by_cases c261_61 : (own_same m1 u0 u1 m2 v0 v1) = (0 : Int32)
          · refine own_viaH (fun t => XS.ifYes X60.here hx rfl (pc0 := 261) (pc' := 281) rfl (hb hby at_261) rfl ((if0 _ _).trans (teq c261_61).1) (by decide) (by decide)) ?_
            show own_EH _ _ _ _ _ _ _ _ _ T60 (mkF m 281 #[.val (.int p1), .val (.int p2), .val (.int p3), .val (.int p4), .val (.int p5), .val (.int p6), .val (.int m1), .val (.int u0), .val (.int u1), .val (.int cp), .val (.int m2), .val (.int v0), .val (.int v1), .val (.int li2), .val (.int co2), .val (.int kd), .val (.ref x1), .val (.ref x2), .val (.ref pp), .val (.ref qq), .unset] [])
            refine own_viaH (fun t => XS.iconst X60.here hx rfl (hb hby at_281)) ?_
            show own_EH _ _ _ _ _ _ _ _ _ T60 (mkF m 282 #[.val (.int p1), .val (.int p2), .val (.int p3), .val (.int p4), .val (.int p5), .val (.int p6), .val (.int m1), .val (.int u0), .val (.int u1), .val (.int cp), .val (.int m2), .val (.int v0), .val (.int v1), .val (.int li2), .val (.int co2), .val (.int kd), .val (.ref x1), .val (.ref x2), .val (.ref pp), .val (.ref qq), .unset] [(.int (0 : Int32))])
            refine own_viaH (fun t => XS.istore X60.here hx rfl (hb hby at_282) rfl (l' := #[.val (.int p1), .val (.int p2), .val (.int p3), .val (.int p4), .val (.int p5), .val (.int p6), .val (.int m1), .val (.int u0), .val (.int u1), .val (.int cp), .val (.int m2), .val (.int v0), .val (.int v1), .val (.int li2), .val (.int co2), .val (.int kd), .val (.ref x1), .val (.ref x2), .val (.ref pp), .val (.ref qq), .val (.int (0 : Int32))]) rfl) ?_
            show own_EH _ _ _ _ _ _ _ _ _ T60 (mkF m 284 #[.val (.int p1), .val (.int p2), .val (.int p3), .val (.int p4), .val (.int p5), .val (.int p6), .val (.int m1), .val (.int u0), .val (.int u1), .val (.int cp), .val (.int m2), .val (.int v0), .val (.int v1), .val (.int li2), .val (.int co2), .val (.int kd), .val (.ref x1), .val (.ref x2), .val (.ref pp), .val (.ref qq), .val (.int (0 : Int32))] [])
            refine own_viaH (fun t => XS.aload X60.here hx rfl (hb hby at_284) rfl rfl) ?_
            show own_EH _ _ _ _ _ _ _ _ _ T60 (mkF m 286 #[.val (.int p1), .val (.int p2), .val (.int p3), .val (.int p4), .val (.int p5), .val (.int p6), .val (.int m1), .val (.int u0), .val (.int u1), .val (.int cp), .val (.int m2), .val (.int v0), .val (.int v1), .val (.int li2), .val (.int co2), .val (.int kd), .val (.ref x1), .val (.ref x2), .val (.ref pp), .val (.ref qq), .val (.int (0 : Int32))] [(.ref pp)])
            refine own_viaH (fun t => XS.aload X60.here hx rfl (hb hby at_286) rfl rfl) ?_
            show own_EH _ _ _ _ _ _ _ _ _ T60 (mkF m 288 #[.val (.int p1), .val (.int p2), .val (.int p3), .val (.int p4), .val (.int p5), .val (.int p6), .val (.int m1), .val (.int u0), .val (.int u1), .val (.int cp), .val (.int m2), .val (.int v0), .val (.int v1), .val (.int li2), .val (.int co2), .val (.int kd), .val (.ref x1), .val (.ref x2), .val (.ref pp), .val (.ref qq), .val (.int (0 : Int32))] [(.ref qq), (.ref pp)])
            obtain ⟨cq62, kq62, q62a, q62b, q62c⟩ := isOf hZ e60 Po_ppd.1
            obtain ⟨_, _, ⟨T62, L62, k62, n62⟩, -, X62, ⟨Lc62, hQ62, l62, y62, z62⟩, st62⟩ := X60.virtualBack hx (y := (⟨"com/example/exhaust/exhaust/frontend/source/SourcePosition", "equals", "(Ljava/lang/Object;)Z"⟩ : MethodName)) (z := (⟨"com/example/exhaust/exhaust/frontend/source/SourcePosition", "equals", "(Ljava/lang/Object;)Z"⟩ : MethodName)) hown (mvT hZ (hw _ (List.mem_of_getElem? (i := 51) rfl))) (mvT hZ (hw _ (List.mem_of_getElem? (i := 52) rfl))) (notFace_of_selects (args := #[]) (mvT hZ (hw _ (List.mem_of_getElem? (i := 54) rfl)))) (mvT hZ (hw _ (List.mem_of_getElem? (i := 54) rfl))) (mvT hZ (hw _ (List.mem_of_getElem? (i := 53) rfl))) (by decide) (backOf (W := 0) (rm8 l Z a0 hw [] pp qq x1 x2 p3 p5 li2 co2 z (own_cs m1 u0 u1) (own_cs m2 v0 v1) (own_cs_C hu0 hu1) (own_cs_C hv0 hv1) (own_cs_len _ _ _) (own_cs_len _ _ _) hz T59.heap n0 Z59 (S0.ext ED) Tx1d Tx2d Po_ppd Po_qq) hZ (hw _ (List.mem_of_getElem? (i := 55) rfl)) (hw _ (List.mem_of_getElem? (i := 31) rfl)) (by decide) (by decide)) q62a q62c (g := (mkF m 288 #[.val (.int p1), .val (.int p2), .val (.int p3), .val (.int p4), .val (.int p5), .val (.int p6), .val (.int m1), .val (.int u0), .val (.int u1), .val (.int cp), .val (.int m2), .val (.int v0), .val (.int v1), .val (.int li2), .val (.int co2), .val (.int kd), .val (.ref x1), .val (.ref x2), .val (.ref pp), .val (.ref qq), .val (.int (0 : Int32))] [(.ref qq), (.ref pp)])) rfl (by rw [hml]; rfl) (Steps.refl _) (argsL := [(.ref qq)]) (rest := []) (lenOf pd_8 rfl) rfl (by show 2 * 0 + _ ≤ _; exact Nat.le_of_eq rfl) (hb hby at_288) (fun _ _ => ⟨rfl, e60, (by decide : 18 + 0 ≤ _), (by decide : 70 + 0 ≤ _)⟩)
            dsimp only [Pt.U, Pt.locs, Pt.cells, Pt.slots] at X62 l62 y62 z62 st62 hQ62
            subst l62 y62 z62
            obtain ⟨rfl, N62, e62⟩ := hQ62
            refine own_thruH st62 ?_
            show own_EH _ _ _ _ _ _ _ _ _ T62 (mkF m 291 #[.val (.int p1), .val (.int p2), .val (.int p3), .val (.int p4), .val (.int p5), .val (.int p6), .val (.int m1), .val (.int u0), .val (.int u1), .val (.int cp), .val (.int m2), .val (.int v0), .val (.int v1), .val (.int li2), .val (.int co2), .val (.int kd), .val (.ref x1), .val (.ref x2), .val (.ref pp), .val (.ref qq), .val (.int (0 : Int32))] [(.int (own_eq (own_cs m1 u0 u1) (own_cs m2 v0 v1) p3 p5 li2 co2))])
            have NQ62 := Fr.app NS60 N62
            rw [show own_eq (own_cs m1 u0 u1) (own_cs m2 v0 v1) p3 p5 li2 co2 = 0 from if_neg (fun q => by have := c261_61; rw [← own_same_yes q.1] at this; exact absurd this (by decide))]
            show own_EH _ _ _ _ _ _ _ _ _ T62 (mkF m 291 #[.val (.int p1), .val (.int p2), .val (.int p3), .val (.int p4), .val (.int p5), .val (.int p6), .val (.int m1), .val (.int u0), .val (.int u1), .val (.int cp), .val (.int m2), .val (.int v0), .val (.int v1), .val (.int li2), .val (.int co2), .val (.int kd), .val (.ref x1), .val (.ref x2), .val (.ref pp), .val (.ref qq), .val (.int (0 : Int32))] [(.int (0 : Int32))])
            refine own_viaH (fun t => XS.iload X62.here hx rfl (hb hby at_291) rfl) ?_
            show own_EH _ _ _ _ _ _ _ _ _ T62 (mkF m 293 #[.val (.int p1), .val (.int p2), .val (.int p3), .val (.int p4), .val (.int p5), .val (.int p6), .val (.int m1), .val (.int u0), .val (.int u1), .val (.int cp), .val (.int m2), .val (.int v0), .val (.int v1), .val (.int li2), .val (.int co2), .val (.int kd), .val (.ref x1), .val (.ref x2), .val (.ref pp), .val (.ref qq), .val (.int (0 : Int32))] [(.int (0 : Int32)), (.int (0 : Int32))])
            refine own_viaH (fun t => XS.icmpNo X62.here hx rfl (hb hby at_293) rfl (teq (by decide : (0 : Int32) = (0 : Int32))).2) ?_
            show own_EH _ _ _ _ _ _ _ _ _ T62 (mkF m 296 #[.val (.int p1), .val (.int p2), .val (.int p3), .val (.int p4), .val (.int p5), .val (.int p6), .val (.int m1), .val (.int u0), .val (.int u1), .val (.int cp), .val (.int m2), .val (.int v0), .val (.int v1), .val (.int li2), .val (.int co2), .val (.int kd), .val (.ref x1), .val (.ref x2), .val (.ref pp), .val (.ref qq), .val (.int (0 : Int32))] [])
            refine own_viaH (fun t => XS.iconst X62.here hx rfl (hb hby at_296)) ?_
            show own_EH _ _ _ _ _ _ _ _ _ T62 (mkF m 297 #[.val (.int p1), .val (.int p2), .val (.int p3), .val (.int p4), .val (.int p5), .val (.int p6), .val (.int m1), .val (.int u0), .val (.int u1), .val (.int cp), .val (.int m2), .val (.int v0), .val (.int v1), .val (.int li2), .val (.int co2), .val (.int kd), .val (.ref x1), .val (.ref x2), .val (.ref pp), .val (.ref qq), .val (.int (0 : Int32))] [(.int (1 : Int32))])
            refine own_viaH (fun t => XS.goto X62.here hx rfl (pc0 := 297) (pc' := 301) rfl (hb hby at_297) (by decide) (by decide)) ?_
            show own_EH _ _ _ _ _ _ _ _ _ T62 (mkF m 301 #[.val (.int p1), .val (.int p2), .val (.int p3), .val (.int p4), .val (.int p5), .val (.int p6), .val (.int m1), .val (.int u0), .val (.int u1), .val (.int cp), .val (.int m2), .val (.int v0), .val (.int v1), .val (.int li2), .val (.int co2), .val (.int kd), .val (.ref x1), .val (.ref x2), .val (.ref pp), .val (.ref qq), .val (.int (0 : Int32))] [(.int (1 : Int32))])
            exact own_retNH X62 hx hlk hS hk e62 (own_endC X62 e62 hh hZ (own_hEL hw) CR) Bd.returns (Or.inl rfl) (hb hby at_301) (by decide) (by decide) ⟨rfl, NQ62⟩
          · refine own_viaH (fun t => XS.ifNo X60.here hx rfl (hb hby at_261) rfl ((if0 _ _).trans (feq c261_61).1)) ?_
            show own_EH _ _ _ _ _ _ _ _ _ T60 (mkF m 264 #[.val (.int p1), .val (.int p2), .val (.int p3), .val (.int p4), .val (.int p5), .val (.int p6), .val (.int m1), .val (.int u0), .val (.int u1), .val (.int cp), .val (.int m2), .val (.int v0), .val (.int v1), .val (.int li2), .val (.int co2), .val (.int kd), .val (.ref x1), .val (.ref x2), .val (.ref pp), .val (.ref qq), .unset] [])
            have hsm : own_cs m1 u0 u1 = own_cs m2 v0 v1 := Classical.byContradiction (fun q => c261_61 (own_same_no q).symm)
            refine own_viaH (fun t => XS.iloadN X60.here hx rfl (hb hby at_264) rfl) ?_
            show own_EH _ _ _ _ _ _ _ _ _ T60 (mkF m 265 #[.val (.int p1), .val (.int p2), .val (.int p3), .val (.int p4), .val (.int p5), .val (.int p6), .val (.int m1), .val (.int u0), .val (.int u1), .val (.int cp), .val (.int m2), .val (.int v0), .val (.int v1), .val (.int li2), .val (.int co2), .val (.int kd), .val (.ref x1), .val (.ref x2), .val (.ref pp), .val (.ref qq), .unset] [(.int p3)])
            refine own_viaH (fun t => XS.iload X60.here hx rfl (hb hby at_265) rfl) ?_
            show own_EH _ _ _ _ _ _ _ _ _ T60 (mkF m 267 #[.val (.int p1), .val (.int p2), .val (.int p3), .val (.int p4), .val (.int p5), .val (.int p6), .val (.int m1), .val (.int u0), .val (.int u1), .val (.int cp), .val (.int m2), .val (.int v0), .val (.int v1), .val (.int li2), .val (.int co2), .val (.int kd), .val (.ref x1), .val (.ref x2), .val (.ref pp), .val (.ref qq), .unset] [(.int li2), (.int p3)])
            by_cases c267_63 : p3 = li2
            · refine own_viaH (fun t => XS.icmpNo X60.here hx rfl (hb hby at_267) rfl (teq c267_63).2) ?_
              show own_EH _ _ _ _ _ _ _ _ _ T60 (mkF m 270 #[.val (.int p1), .val (.int p2), .val (.int p3), .val (.int p4), .val (.int p5), .val (.int p6), .val (.int m1), .val (.int u0), .val (.int u1), .val (.int cp), .val (.int m2), .val (.int v0), .val (.int v1), .val (.int li2), .val (.int co2), .val (.int kd), .val (.ref x1), .val (.ref x2), .val (.ref pp), .val (.ref qq), .unset] [])
              refine own_viaH (fun t => XS.iload X60.here hx rfl (hb hby at_270) rfl) ?_
              show own_EH _ _ _ _ _ _ _ _ _ T60 (mkF m 272 #[.val (.int p1), .val (.int p2), .val (.int p3), .val (.int p4), .val (.int p5), .val (.int p6), .val (.int m1), .val (.int u0), .val (.int u1), .val (.int cp), .val (.int m2), .val (.int v0), .val (.int v1), .val (.int li2), .val (.int co2), .val (.int kd), .val (.ref x1), .val (.ref x2), .val (.ref pp), .val (.ref qq), .unset] [(.int p5)])
              refine own_viaH (fun t => XS.iload X60.here hx rfl (hb hby at_272) rfl) ?_
              show own_EH _ _ _ _ _ _ _ _ _ T60 (mkF m 274 #[.val (.int p1), .val (.int p2), .val (.int p3), .val (.int p4), .val (.int p5), .val (.int p6), .val (.int m1), .val (.int u0), .val (.int u1), .val (.int cp), .val (.int m2), .val (.int v0), .val (.int v1), .val (.int li2), .val (.int co2), .val (.int kd), .val (.ref x1), .val (.ref x2), .val (.ref pp), .val (.ref qq), .unset] [(.int co2), (.int p5)])
              by_cases c274_64 : p5 = co2
              · refine own_viaH (fun t => XS.icmpNo X60.here hx rfl (hb hby at_274) rfl (teq c274_64).2) ?_
                show own_EH _ _ _ _ _ _ _ _ _ T60 (mkF m 277 #[.val (.int p1), .val (.int p2), .val (.int p3), .val (.int p4), .val (.int p5), .val (.int p6), .val (.int m1), .val (.int u0), .val (.int u1), .val (.int cp), .val (.int m2), .val (.int v0), .val (.int v1), .val (.int li2), .val (.int co2), .val (.int kd), .val (.ref x1), .val (.ref x2), .val (.ref pp), .val (.ref qq), .unset] [])
                refine own_viaH (fun t => XS.iconst X60.here hx rfl (hb hby at_277)) ?_
                show own_EH _ _ _ _ _ _ _ _ _ T60 (mkF m 278 #[.val (.int p1), .val (.int p2), .val (.int p3), .val (.int p4), .val (.int p5), .val (.int p6), .val (.int m1), .val (.int u0), .val (.int u1), .val (.int cp), .val (.int m2), .val (.int v0), .val (.int v1), .val (.int li2), .val (.int co2), .val (.int kd), .val (.ref x1), .val (.ref x2), .val (.ref pp), .val (.ref qq), .unset] [(.int (1 : Int32))])
                refine own_viaH (fun t => XS.goto X60.here hx rfl (pc0 := 278) (pc' := 282) rfl (hb hby at_278) (by decide) (by decide)) ?_
                show own_EH _ _ _ _ _ _ _ _ _ T60 (mkF m 282 #[.val (.int p1), .val (.int p2), .val (.int p3), .val (.int p4), .val (.int p5), .val (.int p6), .val (.int m1), .val (.int u0), .val (.int u1), .val (.int cp), .val (.int m2), .val (.int v0), .val (.int v1), .val (.int li2), .val (.int co2), .val (.int kd), .val (.ref x1), .val (.ref x2), .val (.ref pp), .val (.ref qq), .unset] [(.int (1 : Int32))])
                refine own_viaH (fun t => XS.istore X60.here hx rfl (hb hby at_282) rfl (l' := #[.val (.int p1), .val (.int p2), .val (.int p3), .val (.int p4), .val (.int p5), .val (.int p6), .val (.int m1), .val (.int u0), .val (.int u1), .val (.int cp), .val (.int m2), .val (.int v0), .val (.int v1), .val (.int li2), .val (.int co2), .val (.int kd), .val (.ref x1), .val (.ref x2), .val (.ref pp), .val (.ref qq), .val (.int (1 : Int32))]) rfl) ?_
                show own_EH _ _ _ _ _ _ _ _ _ T60 (mkF m 284 #[.val (.int p1), .val (.int p2), .val (.int p3), .val (.int p4), .val (.int p5), .val (.int p6), .val (.int m1), .val (.int u0), .val (.int u1), .val (.int cp), .val (.int m2), .val (.int v0), .val (.int v1), .val (.int li2), .val (.int co2), .val (.int kd), .val (.ref x1), .val (.ref x2), .val (.ref pp), .val (.ref qq), .val (.int (1 : Int32))] [])
                refine own_viaH (fun t => XS.aload X60.here hx rfl (hb hby at_284) rfl rfl) ?_
                show own_EH _ _ _ _ _ _ _ _ _ T60 (mkF m 286 #[.val (.int p1), .val (.int p2), .val (.int p3), .val (.int p4), .val (.int p5), .val (.int p6), .val (.int m1), .val (.int u0), .val (.int u1), .val (.int cp), .val (.int m2), .val (.int v0), .val (.int v1), .val (.int li2), .val (.int co2), .val (.int kd), .val (.ref x1), .val (.ref x2), .val (.ref pp), .val (.ref qq), .val (.int (1 : Int32))] [(.ref pp)])
                refine own_viaH (fun t => XS.aload X60.here hx rfl (hb hby at_286) rfl rfl) ?_
                show own_EH _ _ _ _ _ _ _ _ _ T60 (mkF m 288 #[.val (.int p1), .val (.int p2), .val (.int p3), .val (.int p4), .val (.int p5), .val (.int p6), .val (.int m1), .val (.int u0), .val (.int u1), .val (.int cp), .val (.int m2), .val (.int v0), .val (.int v1), .val (.int li2), .val (.int co2), .val (.int kd), .val (.ref x1), .val (.ref x2), .val (.ref pp), .val (.ref qq), .val (.int (1 : Int32))] [(.ref qq), (.ref pp)])
                obtain ⟨cq65, kq65, q65a, q65b, q65c⟩ := isOf hZ e60 Po_ppd.1
                obtain ⟨_, _, ⟨T65, L65, k65, n65⟩, -, X65, ⟨Lc65, hQ65, l65, y65, z65⟩, st65⟩ := X60.virtualBack hx (y := (⟨"com/example/exhaust/exhaust/frontend/source/SourcePosition", "equals", "(Ljava/lang/Object;)Z"⟩ : MethodName)) (z := (⟨"com/example/exhaust/exhaust/frontend/source/SourcePosition", "equals", "(Ljava/lang/Object;)Z"⟩ : MethodName)) hown (mvT hZ (hw _ (List.mem_of_getElem? (i := 51) rfl))) (mvT hZ (hw _ (List.mem_of_getElem? (i := 52) rfl))) (notFace_of_selects (args := #[]) (mvT hZ (hw _ (List.mem_of_getElem? (i := 54) rfl)))) (mvT hZ (hw _ (List.mem_of_getElem? (i := 54) rfl))) (mvT hZ (hw _ (List.mem_of_getElem? (i := 53) rfl))) (by decide) (backOf (W := 0) (rm8 l Z a0 hw [] pp qq x1 x2 p3 p5 li2 co2 z (own_cs m1 u0 u1) (own_cs m2 v0 v1) (own_cs_C hu0 hu1) (own_cs_C hv0 hv1) (own_cs_len _ _ _) (own_cs_len _ _ _) hz T59.heap n0 Z59 (S0.ext ED) Tx1d Tx2d Po_ppd Po_qq) hZ (hw _ (List.mem_of_getElem? (i := 55) rfl)) (hw _ (List.mem_of_getElem? (i := 31) rfl)) (by decide) (by decide)) q65a q65c (g := (mkF m 288 #[.val (.int p1), .val (.int p2), .val (.int p3), .val (.int p4), .val (.int p5), .val (.int p6), .val (.int m1), .val (.int u0), .val (.int u1), .val (.int cp), .val (.int m2), .val (.int v0), .val (.int v1), .val (.int li2), .val (.int co2), .val (.int kd), .val (.ref x1), .val (.ref x2), .val (.ref pp), .val (.ref qq), .val (.int (1 : Int32))] [(.ref qq), (.ref pp)])) rfl (by rw [hml]; rfl) (Steps.refl _) (argsL := [(.ref qq)]) (rest := []) (lenOf pd_8 rfl) rfl (by show 2 * 0 + _ ≤ _; exact Nat.le_of_eq rfl) (hb hby at_288) (fun _ _ => ⟨rfl, e60, (by decide : 18 + 0 ≤ _), (by decide : 70 + 0 ≤ _)⟩)
                dsimp only [Pt.U, Pt.locs, Pt.cells, Pt.slots] at X65 l65 y65 z65 st65 hQ65
                subst l65 y65 z65
                obtain ⟨rfl, N65, e65⟩ := hQ65
                refine own_thruH st65 ?_
                show own_EH _ _ _ _ _ _ _ _ _ T65 (mkF m 291 #[.val (.int p1), .val (.int p2), .val (.int p3), .val (.int p4), .val (.int p5), .val (.int p6), .val (.int m1), .val (.int u0), .val (.int u1), .val (.int cp), .val (.int m2), .val (.int v0), .val (.int v1), .val (.int li2), .val (.int co2), .val (.int kd), .val (.ref x1), .val (.ref x2), .val (.ref pp), .val (.ref qq), .val (.int (1 : Int32))] [(.int (own_eq (own_cs m1 u0 u1) (own_cs m2 v0 v1) p3 p5 li2 co2))])
                have NQ65 := Fr.app NS60 N65
                rw [show own_eq (own_cs m1 u0 u1) (own_cs m2 v0 v1) p3 p5 li2 co2 = 1 from if_pos ⟨hsm, c267_63, c274_64⟩]
                show own_EH _ _ _ _ _ _ _ _ _ T65 (mkF m 291 #[.val (.int p1), .val (.int p2), .val (.int p3), .val (.int p4), .val (.int p5), .val (.int p6), .val (.int m1), .val (.int u0), .val (.int u1), .val (.int cp), .val (.int m2), .val (.int v0), .val (.int v1), .val (.int li2), .val (.int co2), .val (.int kd), .val (.ref x1), .val (.ref x2), .val (.ref pp), .val (.ref qq), .val (.int (1 : Int32))] [(.int (1 : Int32))])
                refine own_viaH (fun t => XS.iload X65.here hx rfl (hb hby at_291) rfl) ?_
                show own_EH _ _ _ _ _ _ _ _ _ T65 (mkF m 293 #[.val (.int p1), .val (.int p2), .val (.int p3), .val (.int p4), .val (.int p5), .val (.int p6), .val (.int m1), .val (.int u0), .val (.int u1), .val (.int cp), .val (.int m2), .val (.int v0), .val (.int v1), .val (.int li2), .val (.int co2), .val (.int kd), .val (.ref x1), .val (.ref x2), .val (.ref pp), .val (.ref qq), .val (.int (1 : Int32))] [(.int (1 : Int32)), (.int (1 : Int32))])
                refine own_viaH (fun t => XS.icmpNo X65.here hx rfl (hb hby at_293) rfl (teq (by decide : (1 : Int32) = (1 : Int32))).2) ?_
                show own_EH _ _ _ _ _ _ _ _ _ T65 (mkF m 296 #[.val (.int p1), .val (.int p2), .val (.int p3), .val (.int p4), .val (.int p5), .val (.int p6), .val (.int m1), .val (.int u0), .val (.int u1), .val (.int cp), .val (.int m2), .val (.int v0), .val (.int v1), .val (.int li2), .val (.int co2), .val (.int kd), .val (.ref x1), .val (.ref x2), .val (.ref pp), .val (.ref qq), .val (.int (1 : Int32))] [])
                refine own_viaH (fun t => XS.iconst X65.here hx rfl (hb hby at_296)) ?_
                show own_EH _ _ _ _ _ _ _ _ _ T65 (mkF m 297 #[.val (.int p1), .val (.int p2), .val (.int p3), .val (.int p4), .val (.int p5), .val (.int p6), .val (.int m1), .val (.int u0), .val (.int u1), .val (.int cp), .val (.int m2), .val (.int v0), .val (.int v1), .val (.int li2), .val (.int co2), .val (.int kd), .val (.ref x1), .val (.ref x2), .val (.ref pp), .val (.ref qq), .val (.int (1 : Int32))] [(.int (1 : Int32))])
                refine own_viaH (fun t => XS.goto X65.here hx rfl (pc0 := 297) (pc' := 301) rfl (hb hby at_297) (by decide) (by decide)) ?_
                show own_EH _ _ _ _ _ _ _ _ _ T65 (mkF m 301 #[.val (.int p1), .val (.int p2), .val (.int p3), .val (.int p4), .val (.int p5), .val (.int p6), .val (.int m1), .val (.int u0), .val (.int u1), .val (.int cp), .val (.int m2), .val (.int v0), .val (.int v1), .val (.int li2), .val (.int co2), .val (.int kd), .val (.ref x1), .val (.ref x2), .val (.ref pp), .val (.ref qq), .val (.int (1 : Int32))] [(.int (1 : Int32))])
                exact own_retNH X65 hx hlk hS hk e65 (own_endC X65 e65 hh hZ (own_hEL hw) CR) Bd.returns (Or.inl rfl) (hb hby at_301) (by decide) (by decide) ⟨rfl, NQ65⟩
              · refine own_viaH (fun t => XS.icmpYes X60.here hx rfl (pc0 := 274) (pc' := 281) rfl (hb hby at_274) rfl (feq c274_64).2 (by decide) (by decide)) ?_
                show own_EH _ _ _ _ _ _ _ _ _ T60 (mkF m 281 #[.val (.int p1), .val (.int p2), .val (.int p3), .val (.int p4), .val (.int p5), .val (.int p6), .val (.int m1), .val (.int u0), .val (.int u1), .val (.int cp), .val (.int m2), .val (.int v0), .val (.int v1), .val (.int li2), .val (.int co2), .val (.int kd), .val (.ref x1), .val (.ref x2), .val (.ref pp), .val (.ref qq), .unset] [])
                refine own_viaH (fun t => XS.iconst X60.here hx rfl (hb hby at_281)) ?_
                show own_EH _ _ _ _ _ _ _ _ _ T60 (mkF m 282 #[.val (.int p1), .val (.int p2), .val (.int p3), .val (.int p4), .val (.int p5), .val (.int p6), .val (.int m1), .val (.int u0), .val (.int u1), .val (.int cp), .val (.int m2), .val (.int v0), .val (.int v1), .val (.int li2), .val (.int co2), .val (.int kd), .val (.ref x1), .val (.ref x2), .val (.ref pp), .val (.ref qq), .unset] [(.int (0 : Int32))])
                refine own_viaH (fun t => XS.istore X60.here hx rfl (hb hby at_282) rfl (l' := #[.val (.int p1), .val (.int p2), .val (.int p3), .val (.int p4), .val (.int p5), .val (.int p6), .val (.int m1), .val (.int u0), .val (.int u1), .val (.int cp), .val (.int m2), .val (.int v0), .val (.int v1), .val (.int li2), .val (.int co2), .val (.int kd), .val (.ref x1), .val (.ref x2), .val (.ref pp), .val (.ref qq), .val (.int (0 : Int32))]) rfl) ?_
                show own_EH _ _ _ _ _ _ _ _ _ T60 (mkF m 284 #[.val (.int p1), .val (.int p2), .val (.int p3), .val (.int p4), .val (.int p5), .val (.int p6), .val (.int m1), .val (.int u0), .val (.int u1), .val (.int cp), .val (.int m2), .val (.int v0), .val (.int v1), .val (.int li2), .val (.int co2), .val (.int kd), .val (.ref x1), .val (.ref x2), .val (.ref pp), .val (.ref qq), .val (.int (0 : Int32))] [])
                refine own_viaH (fun t => XS.aload X60.here hx rfl (hb hby at_284) rfl rfl) ?_
                show own_EH _ _ _ _ _ _ _ _ _ T60 (mkF m 286 #[.val (.int p1), .val (.int p2), .val (.int p3), .val (.int p4), .val (.int p5), .val (.int p6), .val (.int m1), .val (.int u0), .val (.int u1), .val (.int cp), .val (.int m2), .val (.int v0), .val (.int v1), .val (.int li2), .val (.int co2), .val (.int kd), .val (.ref x1), .val (.ref x2), .val (.ref pp), .val (.ref qq), .val (.int (0 : Int32))] [(.ref pp)])
                refine own_viaH (fun t => XS.aload X60.here hx rfl (hb hby at_286) rfl rfl) ?_
                show own_EH _ _ _ _ _ _ _ _ _ T60 (mkF m 288 #[.val (.int p1), .val (.int p2), .val (.int p3), .val (.int p4), .val (.int p5), .val (.int p6), .val (.int m1), .val (.int u0), .val (.int u1), .val (.int cp), .val (.int m2), .val (.int v0), .val (.int v1), .val (.int li2), .val (.int co2), .val (.int kd), .val (.ref x1), .val (.ref x2), .val (.ref pp), .val (.ref qq), .val (.int (0 : Int32))] [(.ref qq), (.ref pp)])
                obtain ⟨cq66, kq66, q66a, q66b, q66c⟩ := isOf hZ e60 Po_ppd.1
                obtain ⟨_, _, ⟨T66, L66, k66, n66⟩, -, X66, ⟨Lc66, hQ66, l66, y66, z66⟩, st66⟩ := X60.virtualBack hx (y := (⟨"com/example/exhaust/exhaust/frontend/source/SourcePosition", "equals", "(Ljava/lang/Object;)Z"⟩ : MethodName)) (z := (⟨"com/example/exhaust/exhaust/frontend/source/SourcePosition", "equals", "(Ljava/lang/Object;)Z"⟩ : MethodName)) hown (mvT hZ (hw _ (List.mem_of_getElem? (i := 51) rfl))) (mvT hZ (hw _ (List.mem_of_getElem? (i := 52) rfl))) (notFace_of_selects (args := #[]) (mvT hZ (hw _ (List.mem_of_getElem? (i := 54) rfl)))) (mvT hZ (hw _ (List.mem_of_getElem? (i := 54) rfl))) (mvT hZ (hw _ (List.mem_of_getElem? (i := 53) rfl))) (by decide) (backOf (W := 0) (rm8 l Z a0 hw [] pp qq x1 x2 p3 p5 li2 co2 z (own_cs m1 u0 u1) (own_cs m2 v0 v1) (own_cs_C hu0 hu1) (own_cs_C hv0 hv1) (own_cs_len _ _ _) (own_cs_len _ _ _) hz T59.heap n0 Z59 (S0.ext ED) Tx1d Tx2d Po_ppd Po_qq) hZ (hw _ (List.mem_of_getElem? (i := 55) rfl)) (hw _ (List.mem_of_getElem? (i := 31) rfl)) (by decide) (by decide)) q66a q66c (g := (mkF m 288 #[.val (.int p1), .val (.int p2), .val (.int p3), .val (.int p4), .val (.int p5), .val (.int p6), .val (.int m1), .val (.int u0), .val (.int u1), .val (.int cp), .val (.int m2), .val (.int v0), .val (.int v1), .val (.int li2), .val (.int co2), .val (.int kd), .val (.ref x1), .val (.ref x2), .val (.ref pp), .val (.ref qq), .val (.int (0 : Int32))] [(.ref qq), (.ref pp)])) rfl (by rw [hml]; rfl) (Steps.refl _) (argsL := [(.ref qq)]) (rest := []) (lenOf pd_8 rfl) rfl (by show 2 * 0 + _ ≤ _; exact Nat.le_of_eq rfl) (hb hby at_288) (fun _ _ => ⟨rfl, e60, (by decide : 18 + 0 ≤ _), (by decide : 70 + 0 ≤ _)⟩)
                dsimp only [Pt.U, Pt.locs, Pt.cells, Pt.slots] at X66 l66 y66 z66 st66 hQ66
                subst l66 y66 z66
                obtain ⟨rfl, N66, e66⟩ := hQ66
                refine own_thruH st66 ?_
                show own_EH _ _ _ _ _ _ _ _ _ T66 (mkF m 291 #[.val (.int p1), .val (.int p2), .val (.int p3), .val (.int p4), .val (.int p5), .val (.int p6), .val (.int m1), .val (.int u0), .val (.int u1), .val (.int cp), .val (.int m2), .val (.int v0), .val (.int v1), .val (.int li2), .val (.int co2), .val (.int kd), .val (.ref x1), .val (.ref x2), .val (.ref pp), .val (.ref qq), .val (.int (0 : Int32))] [(.int (own_eq (own_cs m1 u0 u1) (own_cs m2 v0 v1) p3 p5 li2 co2))])
                have NQ66 := Fr.app NS60 N66
                rw [show own_eq (own_cs m1 u0 u1) (own_cs m2 v0 v1) p3 p5 li2 co2 = 0 from if_neg (fun q => c274_64 q.2.2)]
                show own_EH _ _ _ _ _ _ _ _ _ T66 (mkF m 291 #[.val (.int p1), .val (.int p2), .val (.int p3), .val (.int p4), .val (.int p5), .val (.int p6), .val (.int m1), .val (.int u0), .val (.int u1), .val (.int cp), .val (.int m2), .val (.int v0), .val (.int v1), .val (.int li2), .val (.int co2), .val (.int kd), .val (.ref x1), .val (.ref x2), .val (.ref pp), .val (.ref qq), .val (.int (0 : Int32))] [(.int (0 : Int32))])
                refine own_viaH (fun t => XS.iload X66.here hx rfl (hb hby at_291) rfl) ?_
                show own_EH _ _ _ _ _ _ _ _ _ T66 (mkF m 293 #[.val (.int p1), .val (.int p2), .val (.int p3), .val (.int p4), .val (.int p5), .val (.int p6), .val (.int m1), .val (.int u0), .val (.int u1), .val (.int cp), .val (.int m2), .val (.int v0), .val (.int v1), .val (.int li2), .val (.int co2), .val (.int kd), .val (.ref x1), .val (.ref x2), .val (.ref pp), .val (.ref qq), .val (.int (0 : Int32))] [(.int (0 : Int32)), (.int (0 : Int32))])
                refine own_viaH (fun t => XS.icmpNo X66.here hx rfl (hb hby at_293) rfl (teq (by decide : (0 : Int32) = (0 : Int32))).2) ?_
                show own_EH _ _ _ _ _ _ _ _ _ T66 (mkF m 296 #[.val (.int p1), .val (.int p2), .val (.int p3), .val (.int p4), .val (.int p5), .val (.int p6), .val (.int m1), .val (.int u0), .val (.int u1), .val (.int cp), .val (.int m2), .val (.int v0), .val (.int v1), .val (.int li2), .val (.int co2), .val (.int kd), .val (.ref x1), .val (.ref x2), .val (.ref pp), .val (.ref qq), .val (.int (0 : Int32))] [])
                refine own_viaH (fun t => XS.iconst X66.here hx rfl (hb hby at_296)) ?_
                show own_EH _ _ _ _ _ _ _ _ _ T66 (mkF m 297 #[.val (.int p1), .val (.int p2), .val (.int p3), .val (.int p4), .val (.int p5), .val (.int p6), .val (.int m1), .val (.int u0), .val (.int u1), .val (.int cp), .val (.int m2), .val (.int v0), .val (.int v1), .val (.int li2), .val (.int co2), .val (.int kd), .val (.ref x1), .val (.ref x2), .val (.ref pp), .val (.ref qq), .val (.int (0 : Int32))] [(.int (1 : Int32))])
                refine own_viaH (fun t => XS.goto X66.here hx rfl (pc0 := 297) (pc' := 301) rfl (hb hby at_297) (by decide) (by decide)) ?_
                show own_EH _ _ _ _ _ _ _ _ _ T66 (mkF m 301 #[.val (.int p1), .val (.int p2), .val (.int p3), .val (.int p4), .val (.int p5), .val (.int p6), .val (.int m1), .val (.int u0), .val (.int u1), .val (.int cp), .val (.int m2), .val (.int v0), .val (.int v1), .val (.int li2), .val (.int co2), .val (.int kd), .val (.ref x1), .val (.ref x2), .val (.ref pp), .val (.ref qq), .val (.int (0 : Int32))] [(.int (1 : Int32))])
                exact own_retNH X66 hx hlk hS hk e66 (own_endC X66 e66 hh hZ (own_hEL hw) CR) Bd.returns (Or.inl rfl) (hb hby at_301) (by decide) (by decide) ⟨rfl, NQ66⟩
            · refine own_viaH (fun t => XS.icmpYes X60.here hx rfl (pc0 := 267) (pc' := 281) rfl (hb hby at_267) rfl (feq c267_63).2 (by decide) (by decide)) ?_
              show own_EH _ _ _ _ _ _ _ _ _ T60 (mkF m 281 #[.val (.int p1), .val (.int p2), .val (.int p3), .val (.int p4), .val (.int p5), .val (.int p6), .val (.int m1), .val (.int u0), .val (.int u1), .val (.int cp), .val (.int m2), .val (.int v0), .val (.int v1), .val (.int li2), .val (.int co2), .val (.int kd), .val (.ref x1), .val (.ref x2), .val (.ref pp), .val (.ref qq), .unset] [])
              refine own_viaH (fun t => XS.iconst X60.here hx rfl (hb hby at_281)) ?_
              show own_EH _ _ _ _ _ _ _ _ _ T60 (mkF m 282 #[.val (.int p1), .val (.int p2), .val (.int p3), .val (.int p4), .val (.int p5), .val (.int p6), .val (.int m1), .val (.int u0), .val (.int u1), .val (.int cp), .val (.int m2), .val (.int v0), .val (.int v1), .val (.int li2), .val (.int co2), .val (.int kd), .val (.ref x1), .val (.ref x2), .val (.ref pp), .val (.ref qq), .unset] [(.int (0 : Int32))])
              refine own_viaH (fun t => XS.istore X60.here hx rfl (hb hby at_282) rfl (l' := #[.val (.int p1), .val (.int p2), .val (.int p3), .val (.int p4), .val (.int p5), .val (.int p6), .val (.int m1), .val (.int u0), .val (.int u1), .val (.int cp), .val (.int m2), .val (.int v0), .val (.int v1), .val (.int li2), .val (.int co2), .val (.int kd), .val (.ref x1), .val (.ref x2), .val (.ref pp), .val (.ref qq), .val (.int (0 : Int32))]) rfl) ?_
              show own_EH _ _ _ _ _ _ _ _ _ T60 (mkF m 284 #[.val (.int p1), .val (.int p2), .val (.int p3), .val (.int p4), .val (.int p5), .val (.int p6), .val (.int m1), .val (.int u0), .val (.int u1), .val (.int cp), .val (.int m2), .val (.int v0), .val (.int v1), .val (.int li2), .val (.int co2), .val (.int kd), .val (.ref x1), .val (.ref x2), .val (.ref pp), .val (.ref qq), .val (.int (0 : Int32))] [])
              refine own_viaH (fun t => XS.aload X60.here hx rfl (hb hby at_284) rfl rfl) ?_
              show own_EH _ _ _ _ _ _ _ _ _ T60 (mkF m 286 #[.val (.int p1), .val (.int p2), .val (.int p3), .val (.int p4), .val (.int p5), .val (.int p6), .val (.int m1), .val (.int u0), .val (.int u1), .val (.int cp), .val (.int m2), .val (.int v0), .val (.int v1), .val (.int li2), .val (.int co2), .val (.int kd), .val (.ref x1), .val (.ref x2), .val (.ref pp), .val (.ref qq), .val (.int (0 : Int32))] [(.ref pp)])
              refine own_viaH (fun t => XS.aload X60.here hx rfl (hb hby at_286) rfl rfl) ?_
              show own_EH _ _ _ _ _ _ _ _ _ T60 (mkF m 288 #[.val (.int p1), .val (.int p2), .val (.int p3), .val (.int p4), .val (.int p5), .val (.int p6), .val (.int m1), .val (.int u0), .val (.int u1), .val (.int cp), .val (.int m2), .val (.int v0), .val (.int v1), .val (.int li2), .val (.int co2), .val (.int kd), .val (.ref x1), .val (.ref x2), .val (.ref pp), .val (.ref qq), .val (.int (0 : Int32))] [(.ref qq), (.ref pp)])
              obtain ⟨cq67, kq67, q67a, q67b, q67c⟩ := isOf hZ e60 Po_ppd.1
              obtain ⟨_, _, ⟨T67, L67, k67, n67⟩, -, X67, ⟨Lc67, hQ67, l67, y67, z67⟩, st67⟩ := X60.virtualBack hx (y := (⟨"com/example/exhaust/exhaust/frontend/source/SourcePosition", "equals", "(Ljava/lang/Object;)Z"⟩ : MethodName)) (z := (⟨"com/example/exhaust/exhaust/frontend/source/SourcePosition", "equals", "(Ljava/lang/Object;)Z"⟩ : MethodName)) hown (mvT hZ (hw _ (List.mem_of_getElem? (i := 51) rfl))) (mvT hZ (hw _ (List.mem_of_getElem? (i := 52) rfl))) (notFace_of_selects (args := #[]) (mvT hZ (hw _ (List.mem_of_getElem? (i := 54) rfl)))) (mvT hZ (hw _ (List.mem_of_getElem? (i := 54) rfl))) (mvT hZ (hw _ (List.mem_of_getElem? (i := 53) rfl))) (by decide) (backOf (W := 0) (rm8 l Z a0 hw [] pp qq x1 x2 p3 p5 li2 co2 z (own_cs m1 u0 u1) (own_cs m2 v0 v1) (own_cs_C hu0 hu1) (own_cs_C hv0 hv1) (own_cs_len _ _ _) (own_cs_len _ _ _) hz T59.heap n0 Z59 (S0.ext ED) Tx1d Tx2d Po_ppd Po_qq) hZ (hw _ (List.mem_of_getElem? (i := 55) rfl)) (hw _ (List.mem_of_getElem? (i := 31) rfl)) (by decide) (by decide)) q67a q67c (g := (mkF m 288 #[.val (.int p1), .val (.int p2), .val (.int p3), .val (.int p4), .val (.int p5), .val (.int p6), .val (.int m1), .val (.int u0), .val (.int u1), .val (.int cp), .val (.int m2), .val (.int v0), .val (.int v1), .val (.int li2), .val (.int co2), .val (.int kd), .val (.ref x1), .val (.ref x2), .val (.ref pp), .val (.ref qq), .val (.int (0 : Int32))] [(.ref qq), (.ref pp)])) rfl (by rw [hml]; rfl) (Steps.refl _) (argsL := [(.ref qq)]) (rest := []) (lenOf pd_8 rfl) rfl (by show 2 * 0 + _ ≤ _; exact Nat.le_of_eq rfl) (hb hby at_288) (fun _ _ => ⟨rfl, e60, (by decide : 18 + 0 ≤ _), (by decide : 70 + 0 ≤ _)⟩)
              dsimp only [Pt.U, Pt.locs, Pt.cells, Pt.slots] at X67 l67 y67 z67 st67 hQ67
              subst l67 y67 z67
              obtain ⟨rfl, N67, e67⟩ := hQ67
              refine own_thruH st67 ?_
              show own_EH _ _ _ _ _ _ _ _ _ T67 (mkF m 291 #[.val (.int p1), .val (.int p2), .val (.int p3), .val (.int p4), .val (.int p5), .val (.int p6), .val (.int m1), .val (.int u0), .val (.int u1), .val (.int cp), .val (.int m2), .val (.int v0), .val (.int v1), .val (.int li2), .val (.int co2), .val (.int kd), .val (.ref x1), .val (.ref x2), .val (.ref pp), .val (.ref qq), .val (.int (0 : Int32))] [(.int (own_eq (own_cs m1 u0 u1) (own_cs m2 v0 v1) p3 p5 li2 co2))])
              have NQ67 := Fr.app NS60 N67
              rw [show own_eq (own_cs m1 u0 u1) (own_cs m2 v0 v1) p3 p5 li2 co2 = 0 from if_neg (fun q => c267_63 q.2.1)]
              show own_EH _ _ _ _ _ _ _ _ _ T67 (mkF m 291 #[.val (.int p1), .val (.int p2), .val (.int p3), .val (.int p4), .val (.int p5), .val (.int p6), .val (.int m1), .val (.int u0), .val (.int u1), .val (.int cp), .val (.int m2), .val (.int v0), .val (.int v1), .val (.int li2), .val (.int co2), .val (.int kd), .val (.ref x1), .val (.ref x2), .val (.ref pp), .val (.ref qq), .val (.int (0 : Int32))] [(.int (0 : Int32))])
              refine own_viaH (fun t => XS.iload X67.here hx rfl (hb hby at_291) rfl) ?_
              show own_EH _ _ _ _ _ _ _ _ _ T67 (mkF m 293 #[.val (.int p1), .val (.int p2), .val (.int p3), .val (.int p4), .val (.int p5), .val (.int p6), .val (.int m1), .val (.int u0), .val (.int u1), .val (.int cp), .val (.int m2), .val (.int v0), .val (.int v1), .val (.int li2), .val (.int co2), .val (.int kd), .val (.ref x1), .val (.ref x2), .val (.ref pp), .val (.ref qq), .val (.int (0 : Int32))] [(.int (0 : Int32)), (.int (0 : Int32))])
              refine own_viaH (fun t => XS.icmpNo X67.here hx rfl (hb hby at_293) rfl (teq (by decide : (0 : Int32) = (0 : Int32))).2) ?_
              show own_EH _ _ _ _ _ _ _ _ _ T67 (mkF m 296 #[.val (.int p1), .val (.int p2), .val (.int p3), .val (.int p4), .val (.int p5), .val (.int p6), .val (.int m1), .val (.int u0), .val (.int u1), .val (.int cp), .val (.int m2), .val (.int v0), .val (.int v1), .val (.int li2), .val (.int co2), .val (.int kd), .val (.ref x1), .val (.ref x2), .val (.ref pp), .val (.ref qq), .val (.int (0 : Int32))] [])
              refine own_viaH (fun t => XS.iconst X67.here hx rfl (hb hby at_296)) ?_
              show own_EH _ _ _ _ _ _ _ _ _ T67 (mkF m 297 #[.val (.int p1), .val (.int p2), .val (.int p3), .val (.int p4), .val (.int p5), .val (.int p6), .val (.int m1), .val (.int u0), .val (.int u1), .val (.int cp), .val (.int m2), .val (.int v0), .val (.int v1), .val (.int li2), .val (.int co2), .val (.int kd), .val (.ref x1), .val (.ref x2), .val (.ref pp), .val (.ref qq), .val (.int (0 : Int32))] [(.int (1 : Int32))])
              refine own_viaH (fun t => XS.goto X67.here hx rfl (pc0 := 297) (pc' := 301) rfl (hb hby at_297) (by decide) (by decide)) ?_
              show own_EH _ _ _ _ _ _ _ _ _ T67 (mkF m 301 #[.val (.int p1), .val (.int p2), .val (.int p3), .val (.int p4), .val (.int p5), .val (.int p6), .val (.int m1), .val (.int u0), .val (.int u1), .val (.int cp), .val (.int m2), .val (.int v0), .val (.int v1), .val (.int li2), .val (.int co2), .val (.int kd), .val (.ref x1), .val (.ref x2), .val (.ref pp), .val (.ref qq), .val (.int (0 : Int32))] [(.int (1 : Int32))])
              exact own_retNH X67 hx hlk hS hk e67 (own_endC X67 e67 hh hZ (own_hEL hw) CR) Bd.returns (Or.inl rfl) (hb hby at_301) (by decide) (by decide) ⟨rfl, NQ67⟩
  show own_EH _ _ _ _ _ _ _ _ _ s₁ (mkF m 0 #[.val (.int p1), .val (.int p2), .val (.int p3), .val (.int p4), .val (.int p5), .val (.int p6), .unset, .unset, .unset, .unset, .unset, .unset, .unset, .unset, .unset, .unset, .unset, .unset, .unset, .unset, .unset] [])
  refine own_viaH (fun t => XS.iloadN X0.here hx rfl (hb hby at_0) rfl) ?_
  show own_EH _ _ _ _ _ _ _ _ _ s₁ (mkF m 1 #[.val (.int p1), .val (.int p2), .val (.int p3), .val (.int p4), .val (.int p5), .val (.int p6), .unset, .unset, .unset, .unset, .unset, .unset, .unset, .unset, .unset, .unset, .unset, .unset, .unset, .unset, .unset] [(.int p1)])
  refine own_viaH (fun t => XS.bipush X0.here hx rfl (hb hby at_1)) ?_
  show own_EH _ _ _ _ _ _ _ _ _ s₁ (mkF m 3 #[.val (.int p1), .val (.int p2), .val (.int p3), .val (.int p4), .val (.int p5), .val (.int p6), .unset, .unset, .unset, .unset, .unset, .unset, .unset, .unset, .unset, .unset, .unset, .unset, .unset, .unset, .unset] [(.int (16 : Int32)), (.int p1)])
  refine own_viaH (fun t => XS.iushr X0.here hx rfl (hb hby at_3) rfl) ?_
  show own_EH _ _ _ _ _ _ _ _ _ s₁ (mkF m 4 #[.val (.int p1), .val (.int p2), .val (.int p3), .val (.int p4), .val (.int p5), .val (.int p6), .unset, .unset, .unset, .unset, .unset, .unset, .unset, .unset, .unset, .unset, .unset, .unset, .unset, .unset, .unset] [(.int (own_ushr p1 (16 : Int32)))])
  refine own_viaH (fun t => XS.iconst X0.here hx rfl (hb hby at_4)) ?_
  show own_EH _ _ _ _ _ _ _ _ _ s₁ (mkF m 5 #[.val (.int p1), .val (.int p2), .val (.int p3), .val (.int p4), .val (.int p5), .val (.int p6), .unset, .unset, .unset, .unset, .unset, .unset, .unset, .unset, .unset, .unset, .unset, .unset, .unset, .unset, .unset] [(.int (3 : Int32)), (.int (own_ushr p1 (16 : Int32)))])
  refine own_viaH (fun t => XS.iand X0.here hx rfl (hb hby at_5) rfl) ?_
  show own_EH _ _ _ _ _ _ _ _ _ s₁ (mkF m 6 #[.val (.int p1), .val (.int p2), .val (.int p3), .val (.int p4), .val (.int p5), .val (.int p6), .unset, .unset, .unset, .unset, .unset, .unset, .unset, .unset, .unset, .unset, .unset, .unset, .unset, .unset, .unset] [(.int ((own_ushr p1 (16 : Int32)) &&& (3 : Int32)))])
  obtain ⟨_, _, ⟨T68, L68, k68, n68⟩, -, X68, ⟨Lc68, hQ68, l68, y68, z68⟩, st68⟩ := Jvm.LawKit.callS X0 hx (y := (⟨"com/example/exhaust/exhaust/frontend/source/SourcePositionEqualsPinLaw", "len", "(I)I"⟩ : MethodName)) hown (mvT hZ (hw _ (List.mem_of_getElem? (i := 0) rfl))) (mvT hZ (hw _ (List.mem_of_getElem? (i := 1) rfl))) (mvT hZ (hw _ (List.mem_of_getElem? (i := 2) rfl))) (mvT hZ (hw _ (List.mem_of_getElem? (i := 3) rfl))) (by decide) (backOf (W := 0) (rm4 l Z a0 hw [] ((own_ushr p1 (16 : Int32)) &&& (3 : Int32)) h0 n0 Z0) hZ (hw _ (List.mem_of_getElem? (i := 3) rfl)) (hw _ (List.mem_of_getElem? (i := 2) rfl)) (by decide) (by decide)) (g := (mkF m 6 #[.val (.int p1), .val (.int p2), .val (.int p3), .val (.int p4), .val (.int p5), .val (.int p6), .unset, .unset, .unset, .unset, .unset, .unset, .unset, .unset, .unset, .unset, .unset, .unset, .unset, .unset, .unset] [(.int ((own_ushr p1 (16 : Int32)) &&& (3 : Int32)))])) rfl (by rw [hml]; rfl) (argsL := [(.int ((own_ushr p1 (16 : Int32)) &&& (3 : Int32)))]) (rest := []) (lenOf pd_4 rfl) rfl (by show 2 * 0 + _ ≤ _; exact Nat.le_of_eq rfl) (hb hby at_6) (fun _ _ => ⟨rfl, e0, (by decide : 0 + 0 ≤ _), (by decide : 0 + 0 ≤ _)⟩)
  dsimp only [Pt.U, Pt.locs, Pt.cells, Pt.slots] at X68 l68 y68 z68 st68 hQ68
  subst l68 y68 z68
  obtain ⟨rfl, N68, e68⟩ := hQ68
  refine own_viaH st68 ?_
  show own_EH _ _ _ _ _ _ _ _ _ T68 (mkF m 9 #[.val (.int p1), .val (.int p2), .val (.int p3), .val (.int p4), .val (.int p5), .val (.int p6), .unset, .unset, .unset, .unset, .unset, .unset, .unset, .unset, .unset, .unset, .unset, .unset, .unset, .unset, .unset] [(.int (own_ln ((own_ushr p1 (16 : Int32)) &&& (3 : Int32))))])
  have NL68 := Fr.app N0 N68
  obtain ⟨m1, e_m1, h_m1⟩ := own_len (own_ushr p1 (16 : Int32))
  rw [e_m1]
  show own_EH _ _ _ _ _ _ _ _ _ T68 (mkF m 9 #[.val (.int p1), .val (.int p2), .val (.int p3), .val (.int p4), .val (.int p5), .val (.int p6), .unset, .unset, .unset, .unset, .unset, .unset, .unset, .unset, .unset, .unset, .unset, .unset, .unset, .unset, .unset] [(.int m1)])
  refine own_viaH (fun t => XS.istore X68.here hx rfl (hb hby at_9) rfl (l' := #[.val (.int p1), .val (.int p2), .val (.int p3), .val (.int p4), .val (.int p5), .val (.int p6), .val (.int m1), .unset, .unset, .unset, .unset, .unset, .unset, .unset, .unset, .unset, .unset, .unset, .unset, .unset, .unset]) rfl) ?_
  show own_EH _ _ _ _ _ _ _ _ _ T68 (mkF m 11 #[.val (.int p1), .val (.int p2), .val (.int p3), .val (.int p4), .val (.int p5), .val (.int p6), .val (.int m1), .unset, .unset, .unset, .unset, .unset, .unset, .unset, .unset, .unset, .unset, .unset, .unset, .unset, .unset] [])
  refine own_viaH (fun t => XS.iloadN X68.here hx rfl (hb hby at_11) rfl) ?_
  show own_EH _ _ _ _ _ _ _ _ _ T68 (mkF m 12 #[.val (.int p1), .val (.int p2), .val (.int p3), .val (.int p4), .val (.int p5), .val (.int p6), .val (.int m1), .unset, .unset, .unset, .unset, .unset, .unset, .unset, .unset, .unset, .unset, .unset, .unset, .unset, .unset] [(.int p1)])
  refine own_viaH (fun t => XS.sipush X68.here hx rfl (hb hby at_12)) ?_
  show own_EH _ _ _ _ _ _ _ _ _ T68 (mkF m 15 #[.val (.int p1), .val (.int p2), .val (.int p3), .val (.int p4), .val (.int p5), .val (.int p6), .val (.int m1), .unset, .unset, .unset, .unset, .unset, .unset, .unset, .unset, .unset, .unset, .unset, .unset, .unset, .unset] [(.int (255 : Int32)), (.int p1)])
  refine own_viaH (fun t => XS.iand X68.here hx rfl (hb hby at_15) rfl) ?_
  show own_EH _ _ _ _ _ _ _ _ _ T68 (mkF m 16 #[.val (.int p1), .val (.int p2), .val (.int p3), .val (.int p4), .val (.int p5), .val (.int p6), .val (.int m1), .unset, .unset, .unset, .unset, .unset, .unset, .unset, .unset, .unset, .unset, .unset, .unset, .unset, .unset] [(.int (p1 &&& (255 : Int32)))])
  refine own_viaH (fun t => XS.i2c X68.here hx rfl (hb hby at_16) rfl) ?_
  show own_EH _ _ _ _ _ _ _ _ _ T68 (mkF m 17 #[.val (.int p1), .val (.int p2), .val (.int p3), .val (.int p4), .val (.int p5), .val (.int p6), .val (.int m1), .unset, .unset, .unset, .unset, .unset, .unset, .unset, .unset, .unset, .unset, .unset, .unset, .unset, .unset] [(.int (nar .char (p1 &&& (255 : Int32))))])
  obtain ⟨u0, e_u0, h_u0⟩ := own_chr p1
  rw [e_u0]
  show own_EH _ _ _ _ _ _ _ _ _ T68 (mkF m 17 #[.val (.int p1), .val (.int p2), .val (.int p3), .val (.int p4), .val (.int p5), .val (.int p6), .val (.int m1), .unset, .unset, .unset, .unset, .unset, .unset, .unset, .unset, .unset, .unset, .unset, .unset, .unset, .unset] [(.int u0)])
  refine own_viaH (fun t => XS.istore X68.here hx rfl (hb hby at_17) rfl (l' := #[.val (.int p1), .val (.int p2), .val (.int p3), .val (.int p4), .val (.int p5), .val (.int p6), .val (.int m1), .val (.int u0), .unset, .unset, .unset, .unset, .unset, .unset, .unset, .unset, .unset, .unset, .unset, .unset, .unset]) rfl) ?_
  show own_EH _ _ _ _ _ _ _ _ _ T68 (mkF m 19 #[.val (.int p1), .val (.int p2), .val (.int p3), .val (.int p4), .val (.int p5), .val (.int p6), .val (.int m1), .val (.int u0), .unset, .unset, .unset, .unset, .unset, .unset, .unset, .unset, .unset, .unset, .unset, .unset, .unset] [])
  refine own_viaH (fun t => XS.iloadN X68.here hx rfl (hb hby at_19) rfl) ?_
  show own_EH _ _ _ _ _ _ _ _ _ T68 (mkF m 20 #[.val (.int p1), .val (.int p2), .val (.int p3), .val (.int p4), .val (.int p5), .val (.int p6), .val (.int m1), .val (.int u0), .unset, .unset, .unset, .unset, .unset, .unset, .unset, .unset, .unset, .unset, .unset, .unset, .unset] [(.int p1)])
  refine own_viaH (fun t => XS.bipush X68.here hx rfl (hb hby at_20)) ?_
  show own_EH _ _ _ _ _ _ _ _ _ T68 (mkF m 22 #[.val (.int p1), .val (.int p2), .val (.int p3), .val (.int p4), .val (.int p5), .val (.int p6), .val (.int m1), .val (.int u0), .unset, .unset, .unset, .unset, .unset, .unset, .unset, .unset, .unset, .unset, .unset, .unset, .unset] [(.int (8 : Int32)), (.int p1)])
  refine own_viaH (fun t => XS.iushr X68.here hx rfl (hb hby at_22) rfl) ?_
  show own_EH _ _ _ _ _ _ _ _ _ T68 (mkF m 23 #[.val (.int p1), .val (.int p2), .val (.int p3), .val (.int p4), .val (.int p5), .val (.int p6), .val (.int m1), .val (.int u0), .unset, .unset, .unset, .unset, .unset, .unset, .unset, .unset, .unset, .unset, .unset, .unset, .unset] [(.int (own_ushr p1 (8 : Int32)))])
  refine own_viaH (fun t => XS.sipush X68.here hx rfl (hb hby at_23)) ?_
  show own_EH _ _ _ _ _ _ _ _ _ T68 (mkF m 26 #[.val (.int p1), .val (.int p2), .val (.int p3), .val (.int p4), .val (.int p5), .val (.int p6), .val (.int m1), .val (.int u0), .unset, .unset, .unset, .unset, .unset, .unset, .unset, .unset, .unset, .unset, .unset, .unset, .unset] [(.int (255 : Int32)), (.int (own_ushr p1 (8 : Int32)))])
  refine own_viaH (fun t => XS.iand X68.here hx rfl (hb hby at_26) rfl) ?_
  show own_EH _ _ _ _ _ _ _ _ _ T68 (mkF m 27 #[.val (.int p1), .val (.int p2), .val (.int p3), .val (.int p4), .val (.int p5), .val (.int p6), .val (.int m1), .val (.int u0), .unset, .unset, .unset, .unset, .unset, .unset, .unset, .unset, .unset, .unset, .unset, .unset, .unset] [(.int ((own_ushr p1 (8 : Int32)) &&& (255 : Int32)))])
  refine own_viaH (fun t => XS.i2c X68.here hx rfl (hb hby at_27) rfl) ?_
  show own_EH _ _ _ _ _ _ _ _ _ T68 (mkF m 28 #[.val (.int p1), .val (.int p2), .val (.int p3), .val (.int p4), .val (.int p5), .val (.int p6), .val (.int m1), .val (.int u0), .unset, .unset, .unset, .unset, .unset, .unset, .unset, .unset, .unset, .unset, .unset, .unset, .unset] [(.int (nar .char ((own_ushr p1 (8 : Int32)) &&& (255 : Int32))))])
  obtain ⟨u1, e_u1, h_u1⟩ := own_chr (own_ushr p1 (8 : Int32))
  rw [e_u1]
  show own_EH _ _ _ _ _ _ _ _ _ T68 (mkF m 28 #[.val (.int p1), .val (.int p2), .val (.int p3), .val (.int p4), .val (.int p5), .val (.int p6), .val (.int m1), .val (.int u0), .unset, .unset, .unset, .unset, .unset, .unset, .unset, .unset, .unset, .unset, .unset, .unset, .unset] [(.int u1)])
  refine own_viaH (fun t => XS.istore X68.here hx rfl (hb hby at_28) rfl (l' := #[.val (.int p1), .val (.int p2), .val (.int p3), .val (.int p4), .val (.int p5), .val (.int p6), .val (.int m1), .val (.int u0), .val (.int u1), .unset, .unset, .unset, .unset, .unset, .unset, .unset, .unset, .unset, .unset, .unset, .unset]) rfl) ?_
  show own_EH _ _ _ _ _ _ _ _ _ T68 (mkF m 30 #[.val (.int p1), .val (.int p2), .val (.int p3), .val (.int p4), .val (.int p5), .val (.int p6), .val (.int m1), .val (.int u0), .val (.int u1), .unset, .unset, .unset, .unset, .unset, .unset, .unset, .unset, .unset, .unset, .unset, .unset] [])
  refine own_viaH (fun t => XS.iloadN X68.here hx rfl (hb hby at_30) rfl) ?_
  show own_EH _ _ _ _ _ _ _ _ _ T68 (mkF m 31 #[.val (.int p1), .val (.int p2), .val (.int p3), .val (.int p4), .val (.int p5), .val (.int p6), .val (.int m1), .val (.int u0), .val (.int u1), .unset, .unset, .unset, .unset, .unset, .unset, .unset, .unset, .unset, .unset, .unset, .unset] [(.int p2)])
  refine own_viaH (fun t => XS.bipush X68.here hx rfl (hb hby at_31)) ?_
  show own_EH _ _ _ _ _ _ _ _ _ T68 (mkF m 33 #[.val (.int p1), .val (.int p2), .val (.int p3), .val (.int p4), .val (.int p5), .val (.int p6), .val (.int m1), .val (.int u0), .val (.int u1), .unset, .unset, .unset, .unset, .unset, .unset, .unset, .unset, .unset, .unset, .unset, .unset] [(.int (18 : Int32)), (.int p2)])
  refine own_viaH (fun t => XS.iushr X68.here hx rfl (hb hby at_33) rfl) ?_
  show own_EH _ _ _ _ _ _ _ _ _ T68 (mkF m 34 #[.val (.int p1), .val (.int p2), .val (.int p3), .val (.int p4), .val (.int p5), .val (.int p6), .val (.int m1), .val (.int u0), .val (.int u1), .unset, .unset, .unset, .unset, .unset, .unset, .unset, .unset, .unset, .unset, .unset, .unset] [(.int (own_ushr p2 (18 : Int32)))])
  refine own_viaH (fun t => XS.iconst X68.here hx rfl (hb hby at_34)) ?_
  show own_EH _ _ _ _ _ _ _ _ _ T68 (mkF m 35 #[.val (.int p1), .val (.int p2), .val (.int p3), .val (.int p4), .val (.int p5), .val (.int p6), .val (.int m1), .val (.int u0), .val (.int u1), .unset, .unset, .unset, .unset, .unset, .unset, .unset, .unset, .unset, .unset, .unset, .unset] [(.int (1 : Int32)), (.int (own_ushr p2 (18 : Int32)))])
  refine own_viaH (fun t => XS.iand X68.here hx rfl (hb hby at_35) rfl) ?_
  show own_EH _ _ _ _ _ _ _ _ _ T68 (mkF m 36 #[.val (.int p1), .val (.int p2), .val (.int p3), .val (.int p4), .val (.int p5), .val (.int p6), .val (.int m1), .val (.int u0), .val (.int u1), .unset, .unset, .unset, .unset, .unset, .unset, .unset, .unset, .unset, .unset, .unset, .unset] [(.int ((own_ushr p2 (18 : Int32)) &&& (1 : Int32)))])
  by_cases c36_69 : ((own_ushr p2 (18 : Int32)) &&& (1 : Int32)) = (0 : Int32)
  · refine own_viaH (fun t => XS.ifYes X68.here hx rfl (pc0 := 36) (pc' := 43) rfl (hb hby at_36) rfl ((if0 _ _).trans (teq c36_69).1) (by decide) (by decide)) ?_
    show own_EH _ _ _ _ _ _ _ _ _ T68 (mkF m 43 #[.val (.int p1), .val (.int p2), .val (.int p3), .val (.int p4), .val (.int p5), .val (.int p6), .val (.int m1), .val (.int u0), .val (.int u1), .unset, .unset, .unset, .unset, .unset, .unset, .unset, .unset, .unset, .unset, .unset, .unset] [])
    refine own_viaH (fun t => XS.iconst X68.here hx rfl (hb hby at_43)) ?_
    show own_EH _ _ _ _ _ _ _ _ _ T68 (mkF m 44 #[.val (.int p1), .val (.int p2), .val (.int p3), .val (.int p4), .val (.int p5), .val (.int p6), .val (.int m1), .val (.int u0), .val (.int u1), .unset, .unset, .unset, .unset, .unset, .unset, .unset, .unset, .unset, .unset, .unset, .unset] [(.int (0 : Int32))])
    refine own_viaH (fun t => XS.istore X68.here hx rfl (hb hby at_44) rfl (l' := #[.val (.int p1), .val (.int p2), .val (.int p3), .val (.int p4), .val (.int p5), .val (.int p6), .val (.int m1), .val (.int u0), .val (.int u1), .val (.int (0 : Int32)), .unset, .unset, .unset, .unset, .unset, .unset, .unset, .unset, .unset, .unset, .unset]) rfl) ?_
    show own_EH _ _ _ _ _ _ _ _ _ T68 (mkF m 46 #[.val (.int p1), .val (.int p2), .val (.int p3), .val (.int p4), .val (.int p5), .val (.int p6), .val (.int m1), .val (.int u0), .val (.int u1), .val (.int (0 : Int32)), .unset, .unset, .unset, .unset, .unset, .unset, .unset, .unset, .unset, .unset, .unset] [])
    refine own_viaH (fun t => XS.iload X68.here hx rfl (hb hby at_46) rfl) ?_
    show own_EH _ _ _ _ _ _ _ _ _ T68 (mkF m 48 #[.val (.int p1), .val (.int p2), .val (.int p3), .val (.int p4), .val (.int p5), .val (.int p6), .val (.int m1), .val (.int u0), .val (.int u1), .val (.int (0 : Int32)), .unset, .unset, .unset, .unset, .unset, .unset, .unset, .unset, .unset, .unset, .unset] [(.int (0 : Int32))])
    refine own_viaH (fun t => XS.ifYes X68.here hx rfl (pc0 := 48) (pc' := 56) rfl (hb hby at_48) rfl ((if0 _ _).trans (teq (by decide : (0 : Int32) = (0 : Int32))).1) (by decide) (by decide)) ?_
    show own_EH _ _ _ _ _ _ _ _ _ T68 (mkF m 56 #[.val (.int p1), .val (.int p2), .val (.int p3), .val (.int p4), .val (.int p5), .val (.int p6), .val (.int m1), .val (.int u0), .val (.int u1), .val (.int (0 : Int32)), .unset, .unset, .unset, .unset, .unset, .unset, .unset, .unset, .unset, .unset, .unset] [])
    refine own_viaH (fun t => XS.iloadN X68.here hx rfl (hb hby at_56) rfl) ?_
    show own_EH _ _ _ _ _ _ _ _ _ T68 (mkF m 57 #[.val (.int p1), .val (.int p2), .val (.int p3), .val (.int p4), .val (.int p5), .val (.int p6), .val (.int m1), .val (.int u0), .val (.int u1), .val (.int (0 : Int32)), .unset, .unset, .unset, .unset, .unset, .unset, .unset, .unset, .unset, .unset, .unset] [(.int p2)])
    refine own_viaH (fun t => XS.bipush X68.here hx rfl (hb hby at_57)) ?_
    show own_EH _ _ _ _ _ _ _ _ _ T68 (mkF m 59 #[.val (.int p1), .val (.int p2), .val (.int p3), .val (.int p4), .val (.int p5), .val (.int p6), .val (.int m1), .val (.int u0), .val (.int u1), .val (.int (0 : Int32)), .unset, .unset, .unset, .unset, .unset, .unset, .unset, .unset, .unset, .unset, .unset] [(.int (16 : Int32)), (.int p2)])
    refine own_viaH (fun t => XS.iushr X68.here hx rfl (hb hby at_59) rfl) ?_
    show own_EH _ _ _ _ _ _ _ _ _ T68 (mkF m 60 #[.val (.int p1), .val (.int p2), .val (.int p3), .val (.int p4), .val (.int p5), .val (.int p6), .val (.int m1), .val (.int u0), .val (.int u1), .val (.int (0 : Int32)), .unset, .unset, .unset, .unset, .unset, .unset, .unset, .unset, .unset, .unset, .unset] [(.int (own_ushr p2 (16 : Int32)))])
    refine own_viaH (fun t => XS.iconst X68.here hx rfl (hb hby at_60)) ?_
    show own_EH _ _ _ _ _ _ _ _ _ T68 (mkF m 61 #[.val (.int p1), .val (.int p2), .val (.int p3), .val (.int p4), .val (.int p5), .val (.int p6), .val (.int m1), .val (.int u0), .val (.int u1), .val (.int (0 : Int32)), .unset, .unset, .unset, .unset, .unset, .unset, .unset, .unset, .unset, .unset, .unset] [(.int (3 : Int32)), (.int (own_ushr p2 (16 : Int32)))])
    refine own_viaH (fun t => XS.iand X68.here hx rfl (hb hby at_61) rfl) ?_
    show own_EH _ _ _ _ _ _ _ _ _ T68 (mkF m 62 #[.val (.int p1), .val (.int p2), .val (.int p3), .val (.int p4), .val (.int p5), .val (.int p6), .val (.int m1), .val (.int u0), .val (.int u1), .val (.int (0 : Int32)), .unset, .unset, .unset, .unset, .unset, .unset, .unset, .unset, .unset, .unset, .unset] [(.int ((own_ushr p2 (16 : Int32)) &&& (3 : Int32)))])
    obtain ⟨_, _, ⟨T70, L70, k70, n70⟩, -, X70, ⟨Lc70, hQ70, l70, y70, z70⟩, st70⟩ := Jvm.LawKit.callS X68 hx (y := (⟨"com/example/exhaust/exhaust/frontend/source/SourcePositionEqualsPinLaw", "len", "(I)I"⟩ : MethodName)) hown (mvT hZ (hw _ (List.mem_of_getElem? (i := 0) rfl))) (mvT hZ (hw _ (List.mem_of_getElem? (i := 1) rfl))) (mvT hZ (hw _ (List.mem_of_getElem? (i := 2) rfl))) (mvT hZ (hw _ (List.mem_of_getElem? (i := 3) rfl))) (by decide) (backOf (W := 0) (rm4 l Z a0 hw [] ((own_ushr p2 (16 : Int32)) &&& (3 : Int32)) h0 n0 Z0) hZ (hw _ (List.mem_of_getElem? (i := 3) rfl)) (hw _ (List.mem_of_getElem? (i := 2) rfl)) (by decide) (by decide)) (g := (mkF m 62 #[.val (.int p1), .val (.int p2), .val (.int p3), .val (.int p4), .val (.int p5), .val (.int p6), .val (.int m1), .val (.int u0), .val (.int u1), .val (.int (0 : Int32)), .unset, .unset, .unset, .unset, .unset, .unset, .unset, .unset, .unset, .unset, .unset] [(.int ((own_ushr p2 (16 : Int32)) &&& (3 : Int32)))])) rfl (by rw [hml]; rfl) (argsL := [(.int ((own_ushr p2 (16 : Int32)) &&& (3 : Int32)))]) (rest := []) (lenOf pd_4 rfl) rfl (by show 2 * 0 + _ ≤ _; exact Nat.le_of_eq rfl) (hb hby at_62) (fun _ _ => ⟨rfl, e68, (by decide : 0 + 0 ≤ _), (by decide : 0 + 0 ≤ _)⟩)
    dsimp only [Pt.U, Pt.locs, Pt.cells, Pt.slots] at X70 l70 y70 z70 st70 hQ70
    subst l70 y70 z70
    obtain ⟨rfl, N70, e70⟩ := hQ70
    refine own_viaH st70 ?_
    show own_EH _ _ _ _ _ _ _ _ _ T70 (mkF m 65 #[.val (.int p1), .val (.int p2), .val (.int p3), .val (.int p4), .val (.int p5), .val (.int p6), .val (.int m1), .val (.int u0), .val (.int u1), .val (.int (0 : Int32)), .unset, .unset, .unset, .unset, .unset, .unset, .unset, .unset, .unset, .unset, .unset] [(.int (own_ln ((own_ushr p2 (16 : Int32)) &&& (3 : Int32))))])
    have NL70 := Fr.app NL68 N70
    obtain ⟨m2, e_m2, h_m2⟩ := own_len (own_ushr p2 (16 : Int32))
    rw [e_m2]
    show own_EH _ _ _ _ _ _ _ _ _ T70 (mkF m 65 #[.val (.int p1), .val (.int p2), .val (.int p3), .val (.int p4), .val (.int p5), .val (.int p6), .val (.int m1), .val (.int u0), .val (.int u1), .val (.int (0 : Int32)), .unset, .unset, .unset, .unset, .unset, .unset, .unset, .unset, .unset, .unset, .unset] [(.int m2)])
    refine own_viaH (fun t => XS.istore X70.here hx rfl (hb hby at_65) rfl (l' := #[.val (.int p1), .val (.int p2), .val (.int p3), .val (.int p4), .val (.int p5), .val (.int p6), .val (.int m1), .val (.int u0), .val (.int u1), .val (.int (0 : Int32)), .val (.int m2), .unset, .unset, .unset, .unset, .unset, .unset, .unset, .unset, .unset, .unset]) rfl) ?_
    show own_EH _ _ _ _ _ _ _ _ _ T70 (mkF m 67 #[.val (.int p1), .val (.int p2), .val (.int p3), .val (.int p4), .val (.int p5), .val (.int p6), .val (.int m1), .val (.int u0), .val (.int u1), .val (.int (0 : Int32)), .val (.int m2), .unset, .unset, .unset, .unset, .unset, .unset, .unset, .unset, .unset, .unset] [])
    refine own_viaH (fun t => XS.iload X70.here hx rfl (hb hby at_67) rfl) ?_
    show own_EH _ _ _ _ _ _ _ _ _ T70 (mkF m 69 #[.val (.int p1), .val (.int p2), .val (.int p3), .val (.int p4), .val (.int p5), .val (.int p6), .val (.int m1), .val (.int u0), .val (.int u1), .val (.int (0 : Int32)), .val (.int m2), .unset, .unset, .unset, .unset, .unset, .unset, .unset, .unset, .unset, .unset] [(.int (0 : Int32))])
    refine own_viaH (fun t => XS.ifYes X70.here hx rfl (pc0 := 69) (pc' := 77) rfl (hb hby at_69) rfl ((if0 _ _).trans (teq (by decide : (0 : Int32) = (0 : Int32))).1) (by decide) (by decide)) ?_
    show own_EH _ _ _ _ _ _ _ _ _ T70 (mkF m 77 #[.val (.int p1), .val (.int p2), .val (.int p3), .val (.int p4), .val (.int p5), .val (.int p6), .val (.int m1), .val (.int u0), .val (.int u1), .val (.int (0 : Int32)), .val (.int m2), .unset, .unset, .unset, .unset, .unset, .unset, .unset, .unset, .unset, .unset] [])
    refine own_viaH (fun t => XS.iloadN X70.here hx rfl (hb hby at_77) rfl) ?_
    show own_EH _ _ _ _ _ _ _ _ _ T70 (mkF m 78 #[.val (.int p1), .val (.int p2), .val (.int p3), .val (.int p4), .val (.int p5), .val (.int p6), .val (.int m1), .val (.int u0), .val (.int u1), .val (.int (0 : Int32)), .val (.int m2), .unset, .unset, .unset, .unset, .unset, .unset, .unset, .unset, .unset, .unset] [(.int p2)])
    refine own_viaH (fun t => XS.sipush X70.here hx rfl (hb hby at_78)) ?_
    show own_EH _ _ _ _ _ _ _ _ _ T70 (mkF m 81 #[.val (.int p1), .val (.int p2), .val (.int p3), .val (.int p4), .val (.int p5), .val (.int p6), .val (.int m1), .val (.int u0), .val (.int u1), .val (.int (0 : Int32)), .val (.int m2), .unset, .unset, .unset, .unset, .unset, .unset, .unset, .unset, .unset, .unset] [(.int (255 : Int32)), (.int p2)])
    refine own_viaH (fun t => XS.iand X70.here hx rfl (hb hby at_81) rfl) ?_
    show own_EH _ _ _ _ _ _ _ _ _ T70 (mkF m 82 #[.val (.int p1), .val (.int p2), .val (.int p3), .val (.int p4), .val (.int p5), .val (.int p6), .val (.int m1), .val (.int u0), .val (.int u1), .val (.int (0 : Int32)), .val (.int m2), .unset, .unset, .unset, .unset, .unset, .unset, .unset, .unset, .unset, .unset] [(.int (p2 &&& (255 : Int32)))])
    refine own_viaH (fun t => XS.i2c X70.here hx rfl (hb hby at_82) rfl) ?_
    show own_EH _ _ _ _ _ _ _ _ _ T70 (mkF m 83 #[.val (.int p1), .val (.int p2), .val (.int p3), .val (.int p4), .val (.int p5), .val (.int p6), .val (.int m1), .val (.int u0), .val (.int u1), .val (.int (0 : Int32)), .val (.int m2), .unset, .unset, .unset, .unset, .unset, .unset, .unset, .unset, .unset, .unset] [(.int (nar .char (p2 &&& (255 : Int32))))])
    obtain ⟨v0, e_v0, h_v0⟩ := own_chr p2
    rw [e_v0]
    show own_EH _ _ _ _ _ _ _ _ _ T70 (mkF m 83 #[.val (.int p1), .val (.int p2), .val (.int p3), .val (.int p4), .val (.int p5), .val (.int p6), .val (.int m1), .val (.int u0), .val (.int u1), .val (.int (0 : Int32)), .val (.int m2), .unset, .unset, .unset, .unset, .unset, .unset, .unset, .unset, .unset, .unset] [(.int v0)])
    refine own_viaH (fun t => XS.istore X70.here hx rfl (hb hby at_83) rfl (l' := #[.val (.int p1), .val (.int p2), .val (.int p3), .val (.int p4), .val (.int p5), .val (.int p6), .val (.int m1), .val (.int u0), .val (.int u1), .val (.int (0 : Int32)), .val (.int m2), .val (.int v0), .unset, .unset, .unset, .unset, .unset, .unset, .unset, .unset, .unset]) rfl) ?_
    show own_EH _ _ _ _ _ _ _ _ _ T70 (mkF m 85 #[.val (.int p1), .val (.int p2), .val (.int p3), .val (.int p4), .val (.int p5), .val (.int p6), .val (.int m1), .val (.int u0), .val (.int u1), .val (.int (0 : Int32)), .val (.int m2), .val (.int v0), .unset, .unset, .unset, .unset, .unset, .unset, .unset, .unset, .unset] [])
    refine own_viaH (fun t => XS.iload X70.here hx rfl (hb hby at_85) rfl) ?_
    show own_EH _ _ _ _ _ _ _ _ _ T70 (mkF m 87 #[.val (.int p1), .val (.int p2), .val (.int p3), .val (.int p4), .val (.int p5), .val (.int p6), .val (.int m1), .val (.int u0), .val (.int u1), .val (.int (0 : Int32)), .val (.int m2), .val (.int v0), .unset, .unset, .unset, .unset, .unset, .unset, .unset, .unset, .unset] [(.int (0 : Int32))])
    refine own_viaH (fun t => XS.ifYes X70.here hx rfl (pc0 := 87) (pc' := 95) rfl (hb hby at_87) rfl ((if0 _ _).trans (teq (by decide : (0 : Int32) = (0 : Int32))).1) (by decide) (by decide)) ?_
    show own_EH _ _ _ _ _ _ _ _ _ T70 (mkF m 95 #[.val (.int p1), .val (.int p2), .val (.int p3), .val (.int p4), .val (.int p5), .val (.int p6), .val (.int m1), .val (.int u0), .val (.int u1), .val (.int (0 : Int32)), .val (.int m2), .val (.int v0), .unset, .unset, .unset, .unset, .unset, .unset, .unset, .unset, .unset] [])
    refine own_viaH (fun t => XS.iloadN X70.here hx rfl (hb hby at_95) rfl) ?_
    show own_EH _ _ _ _ _ _ _ _ _ T70 (mkF m 96 #[.val (.int p1), .val (.int p2), .val (.int p3), .val (.int p4), .val (.int p5), .val (.int p6), .val (.int m1), .val (.int u0), .val (.int u1), .val (.int (0 : Int32)), .val (.int m2), .val (.int v0), .unset, .unset, .unset, .unset, .unset, .unset, .unset, .unset, .unset] [(.int p2)])
    refine own_viaH (fun t => XS.bipush X70.here hx rfl (hb hby at_96)) ?_
    show own_EH _ _ _ _ _ _ _ _ _ T70 (mkF m 98 #[.val (.int p1), .val (.int p2), .val (.int p3), .val (.int p4), .val (.int p5), .val (.int p6), .val (.int m1), .val (.int u0), .val (.int u1), .val (.int (0 : Int32)), .val (.int m2), .val (.int v0), .unset, .unset, .unset, .unset, .unset, .unset, .unset, .unset, .unset] [(.int (8 : Int32)), (.int p2)])
    refine own_viaH (fun t => XS.iushr X70.here hx rfl (hb hby at_98) rfl) ?_
    show own_EH _ _ _ _ _ _ _ _ _ T70 (mkF m 99 #[.val (.int p1), .val (.int p2), .val (.int p3), .val (.int p4), .val (.int p5), .val (.int p6), .val (.int m1), .val (.int u0), .val (.int u1), .val (.int (0 : Int32)), .val (.int m2), .val (.int v0), .unset, .unset, .unset, .unset, .unset, .unset, .unset, .unset, .unset] [(.int (own_ushr p2 (8 : Int32)))])
    refine own_viaH (fun t => XS.sipush X70.here hx rfl (hb hby at_99)) ?_
    show own_EH _ _ _ _ _ _ _ _ _ T70 (mkF m 102 #[.val (.int p1), .val (.int p2), .val (.int p3), .val (.int p4), .val (.int p5), .val (.int p6), .val (.int m1), .val (.int u0), .val (.int u1), .val (.int (0 : Int32)), .val (.int m2), .val (.int v0), .unset, .unset, .unset, .unset, .unset, .unset, .unset, .unset, .unset] [(.int (255 : Int32)), (.int (own_ushr p2 (8 : Int32)))])
    refine own_viaH (fun t => XS.iand X70.here hx rfl (hb hby at_102) rfl) ?_
    show own_EH _ _ _ _ _ _ _ _ _ T70 (mkF m 103 #[.val (.int p1), .val (.int p2), .val (.int p3), .val (.int p4), .val (.int p5), .val (.int p6), .val (.int m1), .val (.int u0), .val (.int u1), .val (.int (0 : Int32)), .val (.int m2), .val (.int v0), .unset, .unset, .unset, .unset, .unset, .unset, .unset, .unset, .unset] [(.int ((own_ushr p2 (8 : Int32)) &&& (255 : Int32)))])
    refine own_viaH (fun t => XS.i2c X70.here hx rfl (hb hby at_103) rfl) ?_
    show own_EH _ _ _ _ _ _ _ _ _ T70 (mkF m 104 #[.val (.int p1), .val (.int p2), .val (.int p3), .val (.int p4), .val (.int p5), .val (.int p6), .val (.int m1), .val (.int u0), .val (.int u1), .val (.int (0 : Int32)), .val (.int m2), .val (.int v0), .unset, .unset, .unset, .unset, .unset, .unset, .unset, .unset, .unset] [(.int (nar .char ((own_ushr p2 (8 : Int32)) &&& (255 : Int32))))])
    obtain ⟨v1, e_v1, h_v1⟩ := own_chr (own_ushr p2 (8 : Int32))
    rw [e_v1]
    show own_EH _ _ _ _ _ _ _ _ _ T70 (mkF m 104 #[.val (.int p1), .val (.int p2), .val (.int p3), .val (.int p4), .val (.int p5), .val (.int p6), .val (.int m1), .val (.int u0), .val (.int u1), .val (.int (0 : Int32)), .val (.int m2), .val (.int v0), .unset, .unset, .unset, .unset, .unset, .unset, .unset, .unset, .unset] [(.int v1)])
    refine own_viaH (fun t => XS.istore X70.here hx rfl (hb hby at_104) rfl (l' := #[.val (.int p1), .val (.int p2), .val (.int p3), .val (.int p4), .val (.int p5), .val (.int p6), .val (.int m1), .val (.int u0), .val (.int u1), .val (.int (0 : Int32)), .val (.int m2), .val (.int v0), .val (.int v1), .unset, .unset, .unset, .unset, .unset, .unset, .unset, .unset]) rfl) ?_
    show own_EH _ _ _ _ _ _ _ _ _ T70 (mkF m 106 #[.val (.int p1), .val (.int p2), .val (.int p3), .val (.int p4), .val (.int p5), .val (.int p6), .val (.int m1), .val (.int u0), .val (.int u1), .val (.int (0 : Int32)), .val (.int m2), .val (.int v0), .val (.int v1), .unset, .unset, .unset, .unset, .unset, .unset, .unset, .unset] [])
    refine own_viaH (fun t => XS.iloadN X70.here hx rfl (hb hby at_106) rfl) ?_
    show own_EH _ _ _ _ _ _ _ _ _ T70 (mkF m 107 #[.val (.int p1), .val (.int p2), .val (.int p3), .val (.int p4), .val (.int p5), .val (.int p6), .val (.int m1), .val (.int u0), .val (.int u1), .val (.int (0 : Int32)), .val (.int m2), .val (.int v0), .val (.int v1), .unset, .unset, .unset, .unset, .unset, .unset, .unset, .unset] [(.int p2)])
    refine own_viaH (fun t => XS.bipush X70.here hx rfl (hb hby at_107)) ?_
    show own_EH _ _ _ _ _ _ _ _ _ T70 (mkF m 109 #[.val (.int p1), .val (.int p2), .val (.int p3), .val (.int p4), .val (.int p5), .val (.int p6), .val (.int m1), .val (.int u0), .val (.int u1), .val (.int (0 : Int32)), .val (.int m2), .val (.int v0), .val (.int v1), .unset, .unset, .unset, .unset, .unset, .unset, .unset, .unset] [(.int (19 : Int32)), (.int p2)])
    refine own_viaH (fun t => XS.iushr X70.here hx rfl (hb hby at_109) rfl) ?_
    show own_EH _ _ _ _ _ _ _ _ _ T70 (mkF m 110 #[.val (.int p1), .val (.int p2), .val (.int p3), .val (.int p4), .val (.int p5), .val (.int p6), .val (.int m1), .val (.int u0), .val (.int u1), .val (.int (0 : Int32)), .val (.int m2), .val (.int v0), .val (.int v1), .unset, .unset, .unset, .unset, .unset, .unset, .unset, .unset] [(.int (own_ushr p2 (19 : Int32)))])
    refine own_viaH (fun t => XS.iconst X70.here hx rfl (hb hby at_110)) ?_
    show own_EH _ _ _ _ _ _ _ _ _ T70 (mkF m 111 #[.val (.int p1), .val (.int p2), .val (.int p3), .val (.int p4), .val (.int p5), .val (.int p6), .val (.int m1), .val (.int u0), .val (.int u1), .val (.int (0 : Int32)), .val (.int m2), .val (.int v0), .val (.int v1), .unset, .unset, .unset, .unset, .unset, .unset, .unset, .unset] [(.int (1 : Int32)), (.int (own_ushr p2 (19 : Int32)))])
    refine own_viaH (fun t => XS.iand X70.here hx rfl (hb hby at_111) rfl) ?_
    show own_EH _ _ _ _ _ _ _ _ _ T70 (mkF m 112 #[.val (.int p1), .val (.int p2), .val (.int p3), .val (.int p4), .val (.int p5), .val (.int p6), .val (.int m1), .val (.int u0), .val (.int u1), .val (.int (0 : Int32)), .val (.int m2), .val (.int v0), .val (.int v1), .unset, .unset, .unset, .unset, .unset, .unset, .unset, .unset] [(.int ((own_ushr p2 (19 : Int32)) &&& (1 : Int32)))])
    by_cases c112_71 : ((own_ushr p2 (19 : Int32)) &&& (1 : Int32)) = (0 : Int32)
    · refine own_viaH (fun t => XS.ifYes X70.here hx rfl (pc0 := 112) (pc' := 119) rfl (hb hby at_112) rfl ((if0 _ _).trans (teq c112_71).1) (by decide) (by decide)) ?_
      show own_EH _ _ _ _ _ _ _ _ _ T70 (mkF m 119 #[.val (.int p1), .val (.int p2), .val (.int p3), .val (.int p4), .val (.int p5), .val (.int p6), .val (.int m1), .val (.int u0), .val (.int u1), .val (.int (0 : Int32)), .val (.int m2), .val (.int v0), .val (.int v1), .unset, .unset, .unset, .unset, .unset, .unset, .unset, .unset] [])
      refine own_viaH (fun t => XS.iloadN X70.here hx rfl (hb hby at_119) rfl) ?_
      show own_EH _ _ _ _ _ _ _ _ _ T70 (mkF m 120 #[.val (.int p1), .val (.int p2), .val (.int p3), .val (.int p4), .val (.int p5), .val (.int p6), .val (.int m1), .val (.int u0), .val (.int u1), .val (.int (0 : Int32)), .val (.int m2), .val (.int v0), .val (.int v1), .unset, .unset, .unset, .unset, .unset, .unset, .unset, .unset] [(.int p4)])
      refine own_viaH (fun t => XS.istore X70.here hx rfl (hb hby at_120) rfl (l' := #[.val (.int p1), .val (.int p2), .val (.int p3), .val (.int p4), .val (.int p5), .val (.int p6), .val (.int m1), .val (.int u0), .val (.int u1), .val (.int (0 : Int32)), .val (.int m2), .val (.int v0), .val (.int v1), .val (.int p4), .unset, .unset, .unset, .unset, .unset, .unset, .unset]) rfl) ?_
      show own_EH _ _ _ _ _ _ _ _ _ T70 (mkF m 122 #[.val (.int p1), .val (.int p2), .val (.int p3), .val (.int p4), .val (.int p5), .val (.int p6), .val (.int m1), .val (.int u0), .val (.int u1), .val (.int (0 : Int32)), .val (.int m2), .val (.int v0), .val (.int v1), .val (.int p4), .unset, .unset, .unset, .unset, .unset, .unset, .unset] [])
      refine own_viaH (fun t => XS.iloadN X70.here hx rfl (hb hby at_122) rfl) ?_
      show own_EH _ _ _ _ _ _ _ _ _ T70 (mkF m 123 #[.val (.int p1), .val (.int p2), .val (.int p3), .val (.int p4), .val (.int p5), .val (.int p6), .val (.int m1), .val (.int u0), .val (.int u1), .val (.int (0 : Int32)), .val (.int m2), .val (.int v0), .val (.int v1), .val (.int p4), .unset, .unset, .unset, .unset, .unset, .unset, .unset] [(.int p2)])
      refine own_viaH (fun t => XS.bipush X70.here hx rfl (hb hby at_123)) ?_
      show own_EH _ _ _ _ _ _ _ _ _ T70 (mkF m 125 #[.val (.int p1), .val (.int p2), .val (.int p3), .val (.int p4), .val (.int p5), .val (.int p6), .val (.int m1), .val (.int u0), .val (.int u1), .val (.int (0 : Int32)), .val (.int m2), .val (.int v0), .val (.int v1), .val (.int p4), .unset, .unset, .unset, .unset, .unset, .unset, .unset] [(.int (20 : Int32)), (.int p2)])
      refine own_viaH (fun t => XS.iushr X70.here hx rfl (hb hby at_125) rfl) ?_
      show own_EH _ _ _ _ _ _ _ _ _ T70 (mkF m 126 #[.val (.int p1), .val (.int p2), .val (.int p3), .val (.int p4), .val (.int p5), .val (.int p6), .val (.int m1), .val (.int u0), .val (.int u1), .val (.int (0 : Int32)), .val (.int m2), .val (.int v0), .val (.int v1), .val (.int p4), .unset, .unset, .unset, .unset, .unset, .unset, .unset] [(.int (own_ushr p2 (20 : Int32)))])
      refine own_viaH (fun t => XS.iconst X70.here hx rfl (hb hby at_126)) ?_
      show own_EH _ _ _ _ _ _ _ _ _ T70 (mkF m 127 #[.val (.int p1), .val (.int p2), .val (.int p3), .val (.int p4), .val (.int p5), .val (.int p6), .val (.int m1), .val (.int u0), .val (.int u1), .val (.int (0 : Int32)), .val (.int m2), .val (.int v0), .val (.int v1), .val (.int p4), .unset, .unset, .unset, .unset, .unset, .unset, .unset] [(.int (1 : Int32)), (.int (own_ushr p2 (20 : Int32)))])
      refine own_viaH (fun t => XS.iand X70.here hx rfl (hb hby at_127) rfl) ?_
      show own_EH _ _ _ _ _ _ _ _ _ T70 (mkF m 128 #[.val (.int p1), .val (.int p2), .val (.int p3), .val (.int p4), .val (.int p5), .val (.int p6), .val (.int m1), .val (.int u0), .val (.int u1), .val (.int (0 : Int32)), .val (.int m2), .val (.int v0), .val (.int v1), .val (.int p4), .unset, .unset, .unset, .unset, .unset, .unset, .unset] [(.int ((own_ushr p2 (20 : Int32)) &&& (1 : Int32)))])
      by_cases c128_72 : ((own_ushr p2 (20 : Int32)) &&& (1 : Int32)) = (0 : Int32)
      · refine own_viaH (fun t => XS.ifYes X70.here hx rfl (pc0 := 128) (pc' := 136) rfl (hb hby at_128) rfl ((if0 _ _).trans (teq c128_72).1) (by decide) (by decide)) ?_
        show own_EH _ _ _ _ _ _ _ _ _ T70 (mkF m 136 #[.val (.int p1), .val (.int p2), .val (.int p3), .val (.int p4), .val (.int p5), .val (.int p6), .val (.int m1), .val (.int u0), .val (.int u1), .val (.int (0 : Int32)), .val (.int m2), .val (.int v0), .val (.int v1), .val (.int p4), .unset, .unset, .unset, .unset, .unset, .unset, .unset] [])
        refine own_viaH (fun t => XS.iload X70.here hx rfl (hb hby at_136) rfl) ?_
        show own_EH _ _ _ _ _ _ _ _ _ T70 (mkF m 138 #[.val (.int p1), .val (.int p2), .val (.int p3), .val (.int p4), .val (.int p5), .val (.int p6), .val (.int m1), .val (.int u0), .val (.int u1), .val (.int (0 : Int32)), .val (.int m2), .val (.int v0), .val (.int v1), .val (.int p4), .unset, .unset, .unset, .unset, .unset, .unset, .unset] [(.int p6)])
        refine own_viaH (fun t => XS.istore X70.here hx rfl (hb hby at_138) rfl (l' := #[.val (.int p1), .val (.int p2), .val (.int p3), .val (.int p4), .val (.int p5), .val (.int p6), .val (.int m1), .val (.int u0), .val (.int u1), .val (.int (0 : Int32)), .val (.int m2), .val (.int v0), .val (.int v1), .val (.int p4), .val (.int p6), .unset, .unset, .unset, .unset, .unset, .unset]) rfl) ?_
        show own_EH _ _ _ _ _ _ _ _ _ T70 (mkF m 140 #[.val (.int p1), .val (.int p2), .val (.int p3), .val (.int p4), .val (.int p5), .val (.int p6), .val (.int m1), .val (.int u0), .val (.int u1), .val (.int (0 : Int32)), .val (.int m2), .val (.int v0), .val (.int v1), .val (.int p4), .val (.int p6), .unset, .unset, .unset, .unset, .unset, .unset] [])
        refine own_viaH (fun t => XS.iloadN X70.here hx rfl (hb hby at_140) rfl) ?_
        show own_EH _ _ _ _ _ _ _ _ _ T70 (mkF m 141 #[.val (.int p1), .val (.int p2), .val (.int p3), .val (.int p4), .val (.int p5), .val (.int p6), .val (.int m1), .val (.int u0), .val (.int u1), .val (.int (0 : Int32)), .val (.int m2), .val (.int v0), .val (.int v1), .val (.int p4), .val (.int p6), .unset, .unset, .unset, .unset, .unset, .unset] [(.int p2)])
        refine own_viaH (fun t => XS.bipush X70.here hx rfl (hb hby at_141)) ?_
        show own_EH _ _ _ _ _ _ _ _ _ T70 (mkF m 143 #[.val (.int p1), .val (.int p2), .val (.int p3), .val (.int p4), .val (.int p5), .val (.int p6), .val (.int m1), .val (.int u0), .val (.int u1), .val (.int (0 : Int32)), .val (.int m2), .val (.int v0), .val (.int v1), .val (.int p4), .val (.int p6), .unset, .unset, .unset, .unset, .unset, .unset] [(.int (21 : Int32)), (.int p2)])
        refine own_viaH (fun t => XS.iushr X70.here hx rfl (hb hby at_143) rfl) ?_
        show own_EH _ _ _ _ _ _ _ _ _ T70 (mkF m 144 #[.val (.int p1), .val (.int p2), .val (.int p3), .val (.int p4), .val (.int p5), .val (.int p6), .val (.int m1), .val (.int u0), .val (.int u1), .val (.int (0 : Int32)), .val (.int m2), .val (.int v0), .val (.int v1), .val (.int p4), .val (.int p6), .unset, .unset, .unset, .unset, .unset, .unset] [(.int (own_ushr p2 (21 : Int32)))])
        refine own_viaH (fun t => XS.iconst X70.here hx rfl (hb hby at_144)) ?_
        show own_EH _ _ _ _ _ _ _ _ _ T70 (mkF m 145 #[.val (.int p1), .val (.int p2), .val (.int p3), .val (.int p4), .val (.int p5), .val (.int p6), .val (.int m1), .val (.int u0), .val (.int u1), .val (.int (0 : Int32)), .val (.int m2), .val (.int v0), .val (.int v1), .val (.int p4), .val (.int p6), .unset, .unset, .unset, .unset, .unset, .unset] [(.int (3 : Int32)), (.int (own_ushr p2 (21 : Int32)))])
        refine own_viaH (fun t => XS.iand X70.here hx rfl (hb hby at_145) rfl) ?_
        show own_EH _ _ _ _ _ _ _ _ _ T70 (mkF m 146 #[.val (.int p1), .val (.int p2), .val (.int p3), .val (.int p4), .val (.int p5), .val (.int p6), .val (.int m1), .val (.int u0), .val (.int u1), .val (.int (0 : Int32)), .val (.int m2), .val (.int v0), .val (.int v1), .val (.int p4), .val (.int p6), .unset, .unset, .unset, .unset, .unset, .unset] [(.int ((own_ushr p2 (21 : Int32)) &&& (3 : Int32)))])
        refine own_viaH (fun t => XS.istore X70.here hx rfl (hb hby at_146) rfl (l' := #[.val (.int p1), .val (.int p2), .val (.int p3), .val (.int p4), .val (.int p5), .val (.int p6), .val (.int m1), .val (.int u0), .val (.int u1), .val (.int (0 : Int32)), .val (.int m2), .val (.int v0), .val (.int v1), .val (.int p4), .val (.int p6), .val (.int ((own_ushr p2 (21 : Int32)) &&& (3 : Int32))), .unset, .unset, .unset, .unset, .unset]) rfl) ?_
        show own_EH _ _ _ _ _ _ _ _ _ T70 (mkF m 148 #[.val (.int p1), .val (.int p2), .val (.int p3), .val (.int p4), .val (.int p5), .val (.int p6), .val (.int m1), .val (.int u0), .val (.int u1), .val (.int (0 : Int32)), .val (.int m2), .val (.int v0), .val (.int v1), .val (.int p4), .val (.int p6), .val (.int ((own_ushr p2 (21 : Int32)) &&& (3 : Int32))), .unset, .unset, .unset, .unset, .unset] [])
        exact tail m1 u0 u1 (0 : Int32) m2 v0 v1 p4 p6 ((own_ushr p2 (21 : Int32)) &&& (3 : Int32)) h_m1 h_m2 h_u0 h_u1 h_v0 h_v1 T70 _ X70 e70 NL70
      · refine own_viaH (fun t => XS.ifNo X70.here hx rfl (hb hby at_128) rfl ((if0 _ _).trans (feq c128_72).1)) ?_
        show own_EH _ _ _ _ _ _ _ _ _ T70 (mkF m 131 #[.val (.int p1), .val (.int p2), .val (.int p3), .val (.int p4), .val (.int p5), .val (.int p6), .val (.int m1), .val (.int u0), .val (.int u1), .val (.int (0 : Int32)), .val (.int m2), .val (.int v0), .val (.int v1), .val (.int p4), .unset, .unset, .unset, .unset, .unset, .unset, .unset] [])
        refine own_viaH (fun t => XS.iload X70.here hx rfl (hb hby at_131) rfl) ?_
        show own_EH _ _ _ _ _ _ _ _ _ T70 (mkF m 133 #[.val (.int p1), .val (.int p2), .val (.int p3), .val (.int p4), .val (.int p5), .val (.int p6), .val (.int m1), .val (.int u0), .val (.int u1), .val (.int (0 : Int32)), .val (.int m2), .val (.int v0), .val (.int v1), .val (.int p4), .unset, .unset, .unset, .unset, .unset, .unset, .unset] [(.int p5)])
        refine own_viaH (fun t => XS.goto X70.here hx rfl (pc0 := 133) (pc' := 138) rfl (hb hby at_133) (by decide) (by decide)) ?_
        show own_EH _ _ _ _ _ _ _ _ _ T70 (mkF m 138 #[.val (.int p1), .val (.int p2), .val (.int p3), .val (.int p4), .val (.int p5), .val (.int p6), .val (.int m1), .val (.int u0), .val (.int u1), .val (.int (0 : Int32)), .val (.int m2), .val (.int v0), .val (.int v1), .val (.int p4), .unset, .unset, .unset, .unset, .unset, .unset, .unset] [(.int p5)])
        refine own_viaH (fun t => XS.istore X70.here hx rfl (hb hby at_138) rfl (l' := #[.val (.int p1), .val (.int p2), .val (.int p3), .val (.int p4), .val (.int p5), .val (.int p6), .val (.int m1), .val (.int u0), .val (.int u1), .val (.int (0 : Int32)), .val (.int m2), .val (.int v0), .val (.int v1), .val (.int p4), .val (.int p5), .unset, .unset, .unset, .unset, .unset, .unset]) rfl) ?_
        show own_EH _ _ _ _ _ _ _ _ _ T70 (mkF m 140 #[.val (.int p1), .val (.int p2), .val (.int p3), .val (.int p4), .val (.int p5), .val (.int p6), .val (.int m1), .val (.int u0), .val (.int u1), .val (.int (0 : Int32)), .val (.int m2), .val (.int v0), .val (.int v1), .val (.int p4), .val (.int p5), .unset, .unset, .unset, .unset, .unset, .unset] [])
        refine own_viaH (fun t => XS.iloadN X70.here hx rfl (hb hby at_140) rfl) ?_
        show own_EH _ _ _ _ _ _ _ _ _ T70 (mkF m 141 #[.val (.int p1), .val (.int p2), .val (.int p3), .val (.int p4), .val (.int p5), .val (.int p6), .val (.int m1), .val (.int u0), .val (.int u1), .val (.int (0 : Int32)), .val (.int m2), .val (.int v0), .val (.int v1), .val (.int p4), .val (.int p5), .unset, .unset, .unset, .unset, .unset, .unset] [(.int p2)])
        refine own_viaH (fun t => XS.bipush X70.here hx rfl (hb hby at_141)) ?_
        show own_EH _ _ _ _ _ _ _ _ _ T70 (mkF m 143 #[.val (.int p1), .val (.int p2), .val (.int p3), .val (.int p4), .val (.int p5), .val (.int p6), .val (.int m1), .val (.int u0), .val (.int u1), .val (.int (0 : Int32)), .val (.int m2), .val (.int v0), .val (.int v1), .val (.int p4), .val (.int p5), .unset, .unset, .unset, .unset, .unset, .unset] [(.int (21 : Int32)), (.int p2)])
        refine own_viaH (fun t => XS.iushr X70.here hx rfl (hb hby at_143) rfl) ?_
        show own_EH _ _ _ _ _ _ _ _ _ T70 (mkF m 144 #[.val (.int p1), .val (.int p2), .val (.int p3), .val (.int p4), .val (.int p5), .val (.int p6), .val (.int m1), .val (.int u0), .val (.int u1), .val (.int (0 : Int32)), .val (.int m2), .val (.int v0), .val (.int v1), .val (.int p4), .val (.int p5), .unset, .unset, .unset, .unset, .unset, .unset] [(.int (own_ushr p2 (21 : Int32)))])
        refine own_viaH (fun t => XS.iconst X70.here hx rfl (hb hby at_144)) ?_
        show own_EH _ _ _ _ _ _ _ _ _ T70 (mkF m 145 #[.val (.int p1), .val (.int p2), .val (.int p3), .val (.int p4), .val (.int p5), .val (.int p6), .val (.int m1), .val (.int u0), .val (.int u1), .val (.int (0 : Int32)), .val (.int m2), .val (.int v0), .val (.int v1), .val (.int p4), .val (.int p5), .unset, .unset, .unset, .unset, .unset, .unset] [(.int (3 : Int32)), (.int (own_ushr p2 (21 : Int32)))])
        refine own_viaH (fun t => XS.iand X70.here hx rfl (hb hby at_145) rfl) ?_
        show own_EH _ _ _ _ _ _ _ _ _ T70 (mkF m 146 #[.val (.int p1), .val (.int p2), .val (.int p3), .val (.int p4), .val (.int p5), .val (.int p6), .val (.int m1), .val (.int u0), .val (.int u1), .val (.int (0 : Int32)), .val (.int m2), .val (.int v0), .val (.int v1), .val (.int p4), .val (.int p5), .unset, .unset, .unset, .unset, .unset, .unset] [(.int ((own_ushr p2 (21 : Int32)) &&& (3 : Int32)))])
        refine own_viaH (fun t => XS.istore X70.here hx rfl (hb hby at_146) rfl (l' := #[.val (.int p1), .val (.int p2), .val (.int p3), .val (.int p4), .val (.int p5), .val (.int p6), .val (.int m1), .val (.int u0), .val (.int u1), .val (.int (0 : Int32)), .val (.int m2), .val (.int v0), .val (.int v1), .val (.int p4), .val (.int p5), .val (.int ((own_ushr p2 (21 : Int32)) &&& (3 : Int32))), .unset, .unset, .unset, .unset, .unset]) rfl) ?_
        show own_EH _ _ _ _ _ _ _ _ _ T70 (mkF m 148 #[.val (.int p1), .val (.int p2), .val (.int p3), .val (.int p4), .val (.int p5), .val (.int p6), .val (.int m1), .val (.int u0), .val (.int u1), .val (.int (0 : Int32)), .val (.int m2), .val (.int v0), .val (.int v1), .val (.int p4), .val (.int p5), .val (.int ((own_ushr p2 (21 : Int32)) &&& (3 : Int32))), .unset, .unset, .unset, .unset, .unset] [])
        exact tail m1 u0 u1 (0 : Int32) m2 v0 v1 p4 p5 ((own_ushr p2 (21 : Int32)) &&& (3 : Int32)) h_m1 h_m2 h_u0 h_u1 h_v0 h_v1 T70 _ X70 e70 NL70
    · refine own_viaH (fun t => XS.ifNo X70.here hx rfl (hb hby at_112) rfl ((if0 _ _).trans (feq c112_71).1)) ?_
      show own_EH _ _ _ _ _ _ _ _ _ T70 (mkF m 115 #[.val (.int p1), .val (.int p2), .val (.int p3), .val (.int p4), .val (.int p5), .val (.int p6), .val (.int m1), .val (.int u0), .val (.int u1), .val (.int (0 : Int32)), .val (.int m2), .val (.int v0), .val (.int v1), .unset, .unset, .unset, .unset, .unset, .unset, .unset, .unset] [])
      refine own_viaH (fun t => XS.iloadN X70.here hx rfl (hb hby at_115) rfl) ?_
      show own_EH _ _ _ _ _ _ _ _ _ T70 (mkF m 116 #[.val (.int p1), .val (.int p2), .val (.int p3), .val (.int p4), .val (.int p5), .val (.int p6), .val (.int m1), .val (.int u0), .val (.int u1), .val (.int (0 : Int32)), .val (.int m2), .val (.int v0), .val (.int v1), .unset, .unset, .unset, .unset, .unset, .unset, .unset, .unset] [(.int p3)])
      refine own_viaH (fun t => XS.goto X70.here hx rfl (pc0 := 116) (pc' := 120) rfl (hb hby at_116) (by decide) (by decide)) ?_
      show own_EH _ _ _ _ _ _ _ _ _ T70 (mkF m 120 #[.val (.int p1), .val (.int p2), .val (.int p3), .val (.int p4), .val (.int p5), .val (.int p6), .val (.int m1), .val (.int u0), .val (.int u1), .val (.int (0 : Int32)), .val (.int m2), .val (.int v0), .val (.int v1), .unset, .unset, .unset, .unset, .unset, .unset, .unset, .unset] [(.int p3)])
      refine own_viaH (fun t => XS.istore X70.here hx rfl (hb hby at_120) rfl (l' := #[.val (.int p1), .val (.int p2), .val (.int p3), .val (.int p4), .val (.int p5), .val (.int p6), .val (.int m1), .val (.int u0), .val (.int u1), .val (.int (0 : Int32)), .val (.int m2), .val (.int v0), .val (.int v1), .val (.int p3), .unset, .unset, .unset, .unset, .unset, .unset, .unset]) rfl) ?_
      show own_EH _ _ _ _ _ _ _ _ _ T70 (mkF m 122 #[.val (.int p1), .val (.int p2), .val (.int p3), .val (.int p4), .val (.int p5), .val (.int p6), .val (.int m1), .val (.int u0), .val (.int u1), .val (.int (0 : Int32)), .val (.int m2), .val (.int v0), .val (.int v1), .val (.int p3), .unset, .unset, .unset, .unset, .unset, .unset, .unset] [])
      refine own_viaH (fun t => XS.iloadN X70.here hx rfl (hb hby at_122) rfl) ?_
      show own_EH _ _ _ _ _ _ _ _ _ T70 (mkF m 123 #[.val (.int p1), .val (.int p2), .val (.int p3), .val (.int p4), .val (.int p5), .val (.int p6), .val (.int m1), .val (.int u0), .val (.int u1), .val (.int (0 : Int32)), .val (.int m2), .val (.int v0), .val (.int v1), .val (.int p3), .unset, .unset, .unset, .unset, .unset, .unset, .unset] [(.int p2)])
      refine own_viaH (fun t => XS.bipush X70.here hx rfl (hb hby at_123)) ?_
      show own_EH _ _ _ _ _ _ _ _ _ T70 (mkF m 125 #[.val (.int p1), .val (.int p2), .val (.int p3), .val (.int p4), .val (.int p5), .val (.int p6), .val (.int m1), .val (.int u0), .val (.int u1), .val (.int (0 : Int32)), .val (.int m2), .val (.int v0), .val (.int v1), .val (.int p3), .unset, .unset, .unset, .unset, .unset, .unset, .unset] [(.int (20 : Int32)), (.int p2)])
      refine own_viaH (fun t => XS.iushr X70.here hx rfl (hb hby at_125) rfl) ?_
      show own_EH _ _ _ _ _ _ _ _ _ T70 (mkF m 126 #[.val (.int p1), .val (.int p2), .val (.int p3), .val (.int p4), .val (.int p5), .val (.int p6), .val (.int m1), .val (.int u0), .val (.int u1), .val (.int (0 : Int32)), .val (.int m2), .val (.int v0), .val (.int v1), .val (.int p3), .unset, .unset, .unset, .unset, .unset, .unset, .unset] [(.int (own_ushr p2 (20 : Int32)))])
      refine own_viaH (fun t => XS.iconst X70.here hx rfl (hb hby at_126)) ?_
      show own_EH _ _ _ _ _ _ _ _ _ T70 (mkF m 127 #[.val (.int p1), .val (.int p2), .val (.int p3), .val (.int p4), .val (.int p5), .val (.int p6), .val (.int m1), .val (.int u0), .val (.int u1), .val (.int (0 : Int32)), .val (.int m2), .val (.int v0), .val (.int v1), .val (.int p3), .unset, .unset, .unset, .unset, .unset, .unset, .unset] [(.int (1 : Int32)), (.int (own_ushr p2 (20 : Int32)))])
      refine own_viaH (fun t => XS.iand X70.here hx rfl (hb hby at_127) rfl) ?_
      show own_EH _ _ _ _ _ _ _ _ _ T70 (mkF m 128 #[.val (.int p1), .val (.int p2), .val (.int p3), .val (.int p4), .val (.int p5), .val (.int p6), .val (.int m1), .val (.int u0), .val (.int u1), .val (.int (0 : Int32)), .val (.int m2), .val (.int v0), .val (.int v1), .val (.int p3), .unset, .unset, .unset, .unset, .unset, .unset, .unset] [(.int ((own_ushr p2 (20 : Int32)) &&& (1 : Int32)))])
      by_cases c128_73 : ((own_ushr p2 (20 : Int32)) &&& (1 : Int32)) = (0 : Int32)
      · refine own_viaH (fun t => XS.ifYes X70.here hx rfl (pc0 := 128) (pc' := 136) rfl (hb hby at_128) rfl ((if0 _ _).trans (teq c128_73).1) (by decide) (by decide)) ?_
        show own_EH _ _ _ _ _ _ _ _ _ T70 (mkF m 136 #[.val (.int p1), .val (.int p2), .val (.int p3), .val (.int p4), .val (.int p5), .val (.int p6), .val (.int m1), .val (.int u0), .val (.int u1), .val (.int (0 : Int32)), .val (.int m2), .val (.int v0), .val (.int v1), .val (.int p3), .unset, .unset, .unset, .unset, .unset, .unset, .unset] [])
        refine own_viaH (fun t => XS.iload X70.here hx rfl (hb hby at_136) rfl) ?_
        show own_EH _ _ _ _ _ _ _ _ _ T70 (mkF m 138 #[.val (.int p1), .val (.int p2), .val (.int p3), .val (.int p4), .val (.int p5), .val (.int p6), .val (.int m1), .val (.int u0), .val (.int u1), .val (.int (0 : Int32)), .val (.int m2), .val (.int v0), .val (.int v1), .val (.int p3), .unset, .unset, .unset, .unset, .unset, .unset, .unset] [(.int p6)])
        refine own_viaH (fun t => XS.istore X70.here hx rfl (hb hby at_138) rfl (l' := #[.val (.int p1), .val (.int p2), .val (.int p3), .val (.int p4), .val (.int p5), .val (.int p6), .val (.int m1), .val (.int u0), .val (.int u1), .val (.int (0 : Int32)), .val (.int m2), .val (.int v0), .val (.int v1), .val (.int p3), .val (.int p6), .unset, .unset, .unset, .unset, .unset, .unset]) rfl) ?_
        show own_EH _ _ _ _ _ _ _ _ _ T70 (mkF m 140 #[.val (.int p1), .val (.int p2), .val (.int p3), .val (.int p4), .val (.int p5), .val (.int p6), .val (.int m1), .val (.int u0), .val (.int u1), .val (.int (0 : Int32)), .val (.int m2), .val (.int v0), .val (.int v1), .val (.int p3), .val (.int p6), .unset, .unset, .unset, .unset, .unset, .unset] [])
        refine own_viaH (fun t => XS.iloadN X70.here hx rfl (hb hby at_140) rfl) ?_
        show own_EH _ _ _ _ _ _ _ _ _ T70 (mkF m 141 #[.val (.int p1), .val (.int p2), .val (.int p3), .val (.int p4), .val (.int p5), .val (.int p6), .val (.int m1), .val (.int u0), .val (.int u1), .val (.int (0 : Int32)), .val (.int m2), .val (.int v0), .val (.int v1), .val (.int p3), .val (.int p6), .unset, .unset, .unset, .unset, .unset, .unset] [(.int p2)])
        refine own_viaH (fun t => XS.bipush X70.here hx rfl (hb hby at_141)) ?_
        show own_EH _ _ _ _ _ _ _ _ _ T70 (mkF m 143 #[.val (.int p1), .val (.int p2), .val (.int p3), .val (.int p4), .val (.int p5), .val (.int p6), .val (.int m1), .val (.int u0), .val (.int u1), .val (.int (0 : Int32)), .val (.int m2), .val (.int v0), .val (.int v1), .val (.int p3), .val (.int p6), .unset, .unset, .unset, .unset, .unset, .unset] [(.int (21 : Int32)), (.int p2)])
        refine own_viaH (fun t => XS.iushr X70.here hx rfl (hb hby at_143) rfl) ?_
        show own_EH _ _ _ _ _ _ _ _ _ T70 (mkF m 144 #[.val (.int p1), .val (.int p2), .val (.int p3), .val (.int p4), .val (.int p5), .val (.int p6), .val (.int m1), .val (.int u0), .val (.int u1), .val (.int (0 : Int32)), .val (.int m2), .val (.int v0), .val (.int v1), .val (.int p3), .val (.int p6), .unset, .unset, .unset, .unset, .unset, .unset] [(.int (own_ushr p2 (21 : Int32)))])
        refine own_viaH (fun t => XS.iconst X70.here hx rfl (hb hby at_144)) ?_
        show own_EH _ _ _ _ _ _ _ _ _ T70 (mkF m 145 #[.val (.int p1), .val (.int p2), .val (.int p3), .val (.int p4), .val (.int p5), .val (.int p6), .val (.int m1), .val (.int u0), .val (.int u1), .val (.int (0 : Int32)), .val (.int m2), .val (.int v0), .val (.int v1), .val (.int p3), .val (.int p6), .unset, .unset, .unset, .unset, .unset, .unset] [(.int (3 : Int32)), (.int (own_ushr p2 (21 : Int32)))])
        refine own_viaH (fun t => XS.iand X70.here hx rfl (hb hby at_145) rfl) ?_
        show own_EH _ _ _ _ _ _ _ _ _ T70 (mkF m 146 #[.val (.int p1), .val (.int p2), .val (.int p3), .val (.int p4), .val (.int p5), .val (.int p6), .val (.int m1), .val (.int u0), .val (.int u1), .val (.int (0 : Int32)), .val (.int m2), .val (.int v0), .val (.int v1), .val (.int p3), .val (.int p6), .unset, .unset, .unset, .unset, .unset, .unset] [(.int ((own_ushr p2 (21 : Int32)) &&& (3 : Int32)))])
        refine own_viaH (fun t => XS.istore X70.here hx rfl (hb hby at_146) rfl (l' := #[.val (.int p1), .val (.int p2), .val (.int p3), .val (.int p4), .val (.int p5), .val (.int p6), .val (.int m1), .val (.int u0), .val (.int u1), .val (.int (0 : Int32)), .val (.int m2), .val (.int v0), .val (.int v1), .val (.int p3), .val (.int p6), .val (.int ((own_ushr p2 (21 : Int32)) &&& (3 : Int32))), .unset, .unset, .unset, .unset, .unset]) rfl) ?_
        show own_EH _ _ _ _ _ _ _ _ _ T70 (mkF m 148 #[.val (.int p1), .val (.int p2), .val (.int p3), .val (.int p4), .val (.int p5), .val (.int p6), .val (.int m1), .val (.int u0), .val (.int u1), .val (.int (0 : Int32)), .val (.int m2), .val (.int v0), .val (.int v1), .val (.int p3), .val (.int p6), .val (.int ((own_ushr p2 (21 : Int32)) &&& (3 : Int32))), .unset, .unset, .unset, .unset, .unset] [])
        exact tail m1 u0 u1 (0 : Int32) m2 v0 v1 p3 p6 ((own_ushr p2 (21 : Int32)) &&& (3 : Int32)) h_m1 h_m2 h_u0 h_u1 h_v0 h_v1 T70 _ X70 e70 NL70
      · refine own_viaH (fun t => XS.ifNo X70.here hx rfl (hb hby at_128) rfl ((if0 _ _).trans (feq c128_73).1)) ?_
        show own_EH _ _ _ _ _ _ _ _ _ T70 (mkF m 131 #[.val (.int p1), .val (.int p2), .val (.int p3), .val (.int p4), .val (.int p5), .val (.int p6), .val (.int m1), .val (.int u0), .val (.int u1), .val (.int (0 : Int32)), .val (.int m2), .val (.int v0), .val (.int v1), .val (.int p3), .unset, .unset, .unset, .unset, .unset, .unset, .unset] [])
        refine own_viaH (fun t => XS.iload X70.here hx rfl (hb hby at_131) rfl) ?_
        show own_EH _ _ _ _ _ _ _ _ _ T70 (mkF m 133 #[.val (.int p1), .val (.int p2), .val (.int p3), .val (.int p4), .val (.int p5), .val (.int p6), .val (.int m1), .val (.int u0), .val (.int u1), .val (.int (0 : Int32)), .val (.int m2), .val (.int v0), .val (.int v1), .val (.int p3), .unset, .unset, .unset, .unset, .unset, .unset, .unset] [(.int p5)])
        refine own_viaH (fun t => XS.goto X70.here hx rfl (pc0 := 133) (pc' := 138) rfl (hb hby at_133) (by decide) (by decide)) ?_
        show own_EH _ _ _ _ _ _ _ _ _ T70 (mkF m 138 #[.val (.int p1), .val (.int p2), .val (.int p3), .val (.int p4), .val (.int p5), .val (.int p6), .val (.int m1), .val (.int u0), .val (.int u1), .val (.int (0 : Int32)), .val (.int m2), .val (.int v0), .val (.int v1), .val (.int p3), .unset, .unset, .unset, .unset, .unset, .unset, .unset] [(.int p5)])
        refine own_viaH (fun t => XS.istore X70.here hx rfl (hb hby at_138) rfl (l' := #[.val (.int p1), .val (.int p2), .val (.int p3), .val (.int p4), .val (.int p5), .val (.int p6), .val (.int m1), .val (.int u0), .val (.int u1), .val (.int (0 : Int32)), .val (.int m2), .val (.int v0), .val (.int v1), .val (.int p3), .val (.int p5), .unset, .unset, .unset, .unset, .unset, .unset]) rfl) ?_
        show own_EH _ _ _ _ _ _ _ _ _ T70 (mkF m 140 #[.val (.int p1), .val (.int p2), .val (.int p3), .val (.int p4), .val (.int p5), .val (.int p6), .val (.int m1), .val (.int u0), .val (.int u1), .val (.int (0 : Int32)), .val (.int m2), .val (.int v0), .val (.int v1), .val (.int p3), .val (.int p5), .unset, .unset, .unset, .unset, .unset, .unset] [])
        refine own_viaH (fun t => XS.iloadN X70.here hx rfl (hb hby at_140) rfl) ?_
        show own_EH _ _ _ _ _ _ _ _ _ T70 (mkF m 141 #[.val (.int p1), .val (.int p2), .val (.int p3), .val (.int p4), .val (.int p5), .val (.int p6), .val (.int m1), .val (.int u0), .val (.int u1), .val (.int (0 : Int32)), .val (.int m2), .val (.int v0), .val (.int v1), .val (.int p3), .val (.int p5), .unset, .unset, .unset, .unset, .unset, .unset] [(.int p2)])
        refine own_viaH (fun t => XS.bipush X70.here hx rfl (hb hby at_141)) ?_
        show own_EH _ _ _ _ _ _ _ _ _ T70 (mkF m 143 #[.val (.int p1), .val (.int p2), .val (.int p3), .val (.int p4), .val (.int p5), .val (.int p6), .val (.int m1), .val (.int u0), .val (.int u1), .val (.int (0 : Int32)), .val (.int m2), .val (.int v0), .val (.int v1), .val (.int p3), .val (.int p5), .unset, .unset, .unset, .unset, .unset, .unset] [(.int (21 : Int32)), (.int p2)])
        refine own_viaH (fun t => XS.iushr X70.here hx rfl (hb hby at_143) rfl) ?_
        show own_EH _ _ _ _ _ _ _ _ _ T70 (mkF m 144 #[.val (.int p1), .val (.int p2), .val (.int p3), .val (.int p4), .val (.int p5), .val (.int p6), .val (.int m1), .val (.int u0), .val (.int u1), .val (.int (0 : Int32)), .val (.int m2), .val (.int v0), .val (.int v1), .val (.int p3), .val (.int p5), .unset, .unset, .unset, .unset, .unset, .unset] [(.int (own_ushr p2 (21 : Int32)))])
        refine own_viaH (fun t => XS.iconst X70.here hx rfl (hb hby at_144)) ?_
        show own_EH _ _ _ _ _ _ _ _ _ T70 (mkF m 145 #[.val (.int p1), .val (.int p2), .val (.int p3), .val (.int p4), .val (.int p5), .val (.int p6), .val (.int m1), .val (.int u0), .val (.int u1), .val (.int (0 : Int32)), .val (.int m2), .val (.int v0), .val (.int v1), .val (.int p3), .val (.int p5), .unset, .unset, .unset, .unset, .unset, .unset] [(.int (3 : Int32)), (.int (own_ushr p2 (21 : Int32)))])
        refine own_viaH (fun t => XS.iand X70.here hx rfl (hb hby at_145) rfl) ?_
        show own_EH _ _ _ _ _ _ _ _ _ T70 (mkF m 146 #[.val (.int p1), .val (.int p2), .val (.int p3), .val (.int p4), .val (.int p5), .val (.int p6), .val (.int m1), .val (.int u0), .val (.int u1), .val (.int (0 : Int32)), .val (.int m2), .val (.int v0), .val (.int v1), .val (.int p3), .val (.int p5), .unset, .unset, .unset, .unset, .unset, .unset] [(.int ((own_ushr p2 (21 : Int32)) &&& (3 : Int32)))])
        refine own_viaH (fun t => XS.istore X70.here hx rfl (hb hby at_146) rfl (l' := #[.val (.int p1), .val (.int p2), .val (.int p3), .val (.int p4), .val (.int p5), .val (.int p6), .val (.int m1), .val (.int u0), .val (.int u1), .val (.int (0 : Int32)), .val (.int m2), .val (.int v0), .val (.int v1), .val (.int p3), .val (.int p5), .val (.int ((own_ushr p2 (21 : Int32)) &&& (3 : Int32))), .unset, .unset, .unset, .unset, .unset]) rfl) ?_
        show own_EH _ _ _ _ _ _ _ _ _ T70 (mkF m 148 #[.val (.int p1), .val (.int p2), .val (.int p3), .val (.int p4), .val (.int p5), .val (.int p6), .val (.int m1), .val (.int u0), .val (.int u1), .val (.int (0 : Int32)), .val (.int m2), .val (.int v0), .val (.int v1), .val (.int p3), .val (.int p5), .val (.int ((own_ushr p2 (21 : Int32)) &&& (3 : Int32))), .unset, .unset, .unset, .unset, .unset] [])
        exact tail m1 u0 u1 (0 : Int32) m2 v0 v1 p3 p5 ((own_ushr p2 (21 : Int32)) &&& (3 : Int32)) h_m1 h_m2 h_u0 h_u1 h_v0 h_v1 T70 _ X70 e70 NL70
  · refine own_viaH (fun t => XS.ifNo X68.here hx rfl (hb hby at_36) rfl ((if0 _ _).trans (feq c36_69).1)) ?_
    show own_EH _ _ _ _ _ _ _ _ _ T68 (mkF m 39 #[.val (.int p1), .val (.int p2), .val (.int p3), .val (.int p4), .val (.int p5), .val (.int p6), .val (.int m1), .val (.int u0), .val (.int u1), .unset, .unset, .unset, .unset, .unset, .unset, .unset, .unset, .unset, .unset, .unset, .unset] [])
    refine own_viaH (fun t => XS.iconst X68.here hx rfl (hb hby at_39)) ?_
    show own_EH _ _ _ _ _ _ _ _ _ T68 (mkF m 40 #[.val (.int p1), .val (.int p2), .val (.int p3), .val (.int p4), .val (.int p5), .val (.int p6), .val (.int m1), .val (.int u0), .val (.int u1), .unset, .unset, .unset, .unset, .unset, .unset, .unset, .unset, .unset, .unset, .unset, .unset] [(.int (1 : Int32))])
    refine own_viaH (fun t => XS.goto X68.here hx rfl (pc0 := 40) (pc' := 44) rfl (hb hby at_40) (by decide) (by decide)) ?_
    show own_EH _ _ _ _ _ _ _ _ _ T68 (mkF m 44 #[.val (.int p1), .val (.int p2), .val (.int p3), .val (.int p4), .val (.int p5), .val (.int p6), .val (.int m1), .val (.int u0), .val (.int u1), .unset, .unset, .unset, .unset, .unset, .unset, .unset, .unset, .unset, .unset, .unset, .unset] [(.int (1 : Int32))])
    refine own_viaH (fun t => XS.istore X68.here hx rfl (hb hby at_44) rfl (l' := #[.val (.int p1), .val (.int p2), .val (.int p3), .val (.int p4), .val (.int p5), .val (.int p6), .val (.int m1), .val (.int u0), .val (.int u1), .val (.int (1 : Int32)), .unset, .unset, .unset, .unset, .unset, .unset, .unset, .unset, .unset, .unset, .unset]) rfl) ?_
    show own_EH _ _ _ _ _ _ _ _ _ T68 (mkF m 46 #[.val (.int p1), .val (.int p2), .val (.int p3), .val (.int p4), .val (.int p5), .val (.int p6), .val (.int m1), .val (.int u0), .val (.int u1), .val (.int (1 : Int32)), .unset, .unset, .unset, .unset, .unset, .unset, .unset, .unset, .unset, .unset, .unset] [])
    refine own_viaH (fun t => XS.iload X68.here hx rfl (hb hby at_46) rfl) ?_
    show own_EH _ _ _ _ _ _ _ _ _ T68 (mkF m 48 #[.val (.int p1), .val (.int p2), .val (.int p3), .val (.int p4), .val (.int p5), .val (.int p6), .val (.int m1), .val (.int u0), .val (.int u1), .val (.int (1 : Int32)), .unset, .unset, .unset, .unset, .unset, .unset, .unset, .unset, .unset, .unset, .unset] [(.int (1 : Int32))])
    refine own_viaH (fun t => XS.ifNo X68.here hx rfl (hb hby at_48) rfl ((if0 _ _).trans (feq (by decide : ¬ ((1 : Int32) = (0 : Int32)))).1)) ?_
    show own_EH _ _ _ _ _ _ _ _ _ T68 (mkF m 51 #[.val (.int p1), .val (.int p2), .val (.int p3), .val (.int p4), .val (.int p5), .val (.int p6), .val (.int m1), .val (.int u0), .val (.int u1), .val (.int (1 : Int32)), .unset, .unset, .unset, .unset, .unset, .unset, .unset, .unset, .unset, .unset, .unset] [])
    refine own_viaH (fun t => XS.iload X68.here hx rfl (hb hby at_51) rfl) ?_
    show own_EH _ _ _ _ _ _ _ _ _ T68 (mkF m 53 #[.val (.int p1), .val (.int p2), .val (.int p3), .val (.int p4), .val (.int p5), .val (.int p6), .val (.int m1), .val (.int u0), .val (.int u1), .val (.int (1 : Int32)), .unset, .unset, .unset, .unset, .unset, .unset, .unset, .unset, .unset, .unset, .unset] [(.int m1)])
    refine own_viaH (fun t => XS.goto X68.here hx rfl (pc0 := 53) (pc' := 65) rfl (hb hby at_53) (by decide) (by decide)) ?_
    show own_EH _ _ _ _ _ _ _ _ _ T68 (mkF m 65 #[.val (.int p1), .val (.int p2), .val (.int p3), .val (.int p4), .val (.int p5), .val (.int p6), .val (.int m1), .val (.int u0), .val (.int u1), .val (.int (1 : Int32)), .unset, .unset, .unset, .unset, .unset, .unset, .unset, .unset, .unset, .unset, .unset] [(.int m1)])
    refine own_viaH (fun t => XS.istore X68.here hx rfl (hb hby at_65) rfl (l' := #[.val (.int p1), .val (.int p2), .val (.int p3), .val (.int p4), .val (.int p5), .val (.int p6), .val (.int m1), .val (.int u0), .val (.int u1), .val (.int (1 : Int32)), .val (.int m1), .unset, .unset, .unset, .unset, .unset, .unset, .unset, .unset, .unset, .unset]) rfl) ?_
    show own_EH _ _ _ _ _ _ _ _ _ T68 (mkF m 67 #[.val (.int p1), .val (.int p2), .val (.int p3), .val (.int p4), .val (.int p5), .val (.int p6), .val (.int m1), .val (.int u0), .val (.int u1), .val (.int (1 : Int32)), .val (.int m1), .unset, .unset, .unset, .unset, .unset, .unset, .unset, .unset, .unset, .unset] [])
    refine own_viaH (fun t => XS.iload X68.here hx rfl (hb hby at_67) rfl) ?_
    show own_EH _ _ _ _ _ _ _ _ _ T68 (mkF m 69 #[.val (.int p1), .val (.int p2), .val (.int p3), .val (.int p4), .val (.int p5), .val (.int p6), .val (.int m1), .val (.int u0), .val (.int u1), .val (.int (1 : Int32)), .val (.int m1), .unset, .unset, .unset, .unset, .unset, .unset, .unset, .unset, .unset, .unset] [(.int (1 : Int32))])
    refine own_viaH (fun t => XS.ifNo X68.here hx rfl (hb hby at_69) rfl ((if0 _ _).trans (feq (by decide : ¬ ((1 : Int32) = (0 : Int32)))).1)) ?_
    show own_EH _ _ _ _ _ _ _ _ _ T68 (mkF m 72 #[.val (.int p1), .val (.int p2), .val (.int p3), .val (.int p4), .val (.int p5), .val (.int p6), .val (.int m1), .val (.int u0), .val (.int u1), .val (.int (1 : Int32)), .val (.int m1), .unset, .unset, .unset, .unset, .unset, .unset, .unset, .unset, .unset, .unset] [])
    refine own_viaH (fun t => XS.iload X68.here hx rfl (hb hby at_72) rfl) ?_
    show own_EH _ _ _ _ _ _ _ _ _ T68 (mkF m 74 #[.val (.int p1), .val (.int p2), .val (.int p3), .val (.int p4), .val (.int p5), .val (.int p6), .val (.int m1), .val (.int u0), .val (.int u1), .val (.int (1 : Int32)), .val (.int m1), .unset, .unset, .unset, .unset, .unset, .unset, .unset, .unset, .unset, .unset] [(.int u0)])
    refine own_viaH (fun t => XS.goto X68.here hx rfl (pc0 := 74) (pc' := 83) rfl (hb hby at_74) (by decide) (by decide)) ?_
    show own_EH _ _ _ _ _ _ _ _ _ T68 (mkF m 83 #[.val (.int p1), .val (.int p2), .val (.int p3), .val (.int p4), .val (.int p5), .val (.int p6), .val (.int m1), .val (.int u0), .val (.int u1), .val (.int (1 : Int32)), .val (.int m1), .unset, .unset, .unset, .unset, .unset, .unset, .unset, .unset, .unset, .unset] [(.int u0)])
    refine own_viaH (fun t => XS.istore X68.here hx rfl (hb hby at_83) rfl (l' := #[.val (.int p1), .val (.int p2), .val (.int p3), .val (.int p4), .val (.int p5), .val (.int p6), .val (.int m1), .val (.int u0), .val (.int u1), .val (.int (1 : Int32)), .val (.int m1), .val (.int u0), .unset, .unset, .unset, .unset, .unset, .unset, .unset, .unset, .unset]) rfl) ?_
    show own_EH _ _ _ _ _ _ _ _ _ T68 (mkF m 85 #[.val (.int p1), .val (.int p2), .val (.int p3), .val (.int p4), .val (.int p5), .val (.int p6), .val (.int m1), .val (.int u0), .val (.int u1), .val (.int (1 : Int32)), .val (.int m1), .val (.int u0), .unset, .unset, .unset, .unset, .unset, .unset, .unset, .unset, .unset] [])
    refine own_viaH (fun t => XS.iload X68.here hx rfl (hb hby at_85) rfl) ?_
    show own_EH _ _ _ _ _ _ _ _ _ T68 (mkF m 87 #[.val (.int p1), .val (.int p2), .val (.int p3), .val (.int p4), .val (.int p5), .val (.int p6), .val (.int m1), .val (.int u0), .val (.int u1), .val (.int (1 : Int32)), .val (.int m1), .val (.int u0), .unset, .unset, .unset, .unset, .unset, .unset, .unset, .unset, .unset] [(.int (1 : Int32))])
    refine own_viaH (fun t => XS.ifNo X68.here hx rfl (hb hby at_87) rfl ((if0 _ _).trans (feq (by decide : ¬ ((1 : Int32) = (0 : Int32)))).1)) ?_
    show own_EH _ _ _ _ _ _ _ _ _ T68 (mkF m 90 #[.val (.int p1), .val (.int p2), .val (.int p3), .val (.int p4), .val (.int p5), .val (.int p6), .val (.int m1), .val (.int u0), .val (.int u1), .val (.int (1 : Int32)), .val (.int m1), .val (.int u0), .unset, .unset, .unset, .unset, .unset, .unset, .unset, .unset, .unset] [])
    refine own_viaH (fun t => XS.iload X68.here hx rfl (hb hby at_90) rfl) ?_
    show own_EH _ _ _ _ _ _ _ _ _ T68 (mkF m 92 #[.val (.int p1), .val (.int p2), .val (.int p3), .val (.int p4), .val (.int p5), .val (.int p6), .val (.int m1), .val (.int u0), .val (.int u1), .val (.int (1 : Int32)), .val (.int m1), .val (.int u0), .unset, .unset, .unset, .unset, .unset, .unset, .unset, .unset, .unset] [(.int u1)])
    refine own_viaH (fun t => XS.goto X68.here hx rfl (pc0 := 92) (pc' := 104) rfl (hb hby at_92) (by decide) (by decide)) ?_
    show own_EH _ _ _ _ _ _ _ _ _ T68 (mkF m 104 #[.val (.int p1), .val (.int p2), .val (.int p3), .val (.int p4), .val (.int p5), .val (.int p6), .val (.int m1), .val (.int u0), .val (.int u1), .val (.int (1 : Int32)), .val (.int m1), .val (.int u0), .unset, .unset, .unset, .unset, .unset, .unset, .unset, .unset, .unset] [(.int u1)])
    refine own_viaH (fun t => XS.istore X68.here hx rfl (hb hby at_104) rfl (l' := #[.val (.int p1), .val (.int p2), .val (.int p3), .val (.int p4), .val (.int p5), .val (.int p6), .val (.int m1), .val (.int u0), .val (.int u1), .val (.int (1 : Int32)), .val (.int m1), .val (.int u0), .val (.int u1), .unset, .unset, .unset, .unset, .unset, .unset, .unset, .unset]) rfl) ?_
    show own_EH _ _ _ _ _ _ _ _ _ T68 (mkF m 106 #[.val (.int p1), .val (.int p2), .val (.int p3), .val (.int p4), .val (.int p5), .val (.int p6), .val (.int m1), .val (.int u0), .val (.int u1), .val (.int (1 : Int32)), .val (.int m1), .val (.int u0), .val (.int u1), .unset, .unset, .unset, .unset, .unset, .unset, .unset, .unset] [])
    refine own_viaH (fun t => XS.iloadN X68.here hx rfl (hb hby at_106) rfl) ?_
    show own_EH _ _ _ _ _ _ _ _ _ T68 (mkF m 107 #[.val (.int p1), .val (.int p2), .val (.int p3), .val (.int p4), .val (.int p5), .val (.int p6), .val (.int m1), .val (.int u0), .val (.int u1), .val (.int (1 : Int32)), .val (.int m1), .val (.int u0), .val (.int u1), .unset, .unset, .unset, .unset, .unset, .unset, .unset, .unset] [(.int p2)])
    refine own_viaH (fun t => XS.bipush X68.here hx rfl (hb hby at_107)) ?_
    show own_EH _ _ _ _ _ _ _ _ _ T68 (mkF m 109 #[.val (.int p1), .val (.int p2), .val (.int p3), .val (.int p4), .val (.int p5), .val (.int p6), .val (.int m1), .val (.int u0), .val (.int u1), .val (.int (1 : Int32)), .val (.int m1), .val (.int u0), .val (.int u1), .unset, .unset, .unset, .unset, .unset, .unset, .unset, .unset] [(.int (19 : Int32)), (.int p2)])
    refine own_viaH (fun t => XS.iushr X68.here hx rfl (hb hby at_109) rfl) ?_
    show own_EH _ _ _ _ _ _ _ _ _ T68 (mkF m 110 #[.val (.int p1), .val (.int p2), .val (.int p3), .val (.int p4), .val (.int p5), .val (.int p6), .val (.int m1), .val (.int u0), .val (.int u1), .val (.int (1 : Int32)), .val (.int m1), .val (.int u0), .val (.int u1), .unset, .unset, .unset, .unset, .unset, .unset, .unset, .unset] [(.int (own_ushr p2 (19 : Int32)))])
    refine own_viaH (fun t => XS.iconst X68.here hx rfl (hb hby at_110)) ?_
    show own_EH _ _ _ _ _ _ _ _ _ T68 (mkF m 111 #[.val (.int p1), .val (.int p2), .val (.int p3), .val (.int p4), .val (.int p5), .val (.int p6), .val (.int m1), .val (.int u0), .val (.int u1), .val (.int (1 : Int32)), .val (.int m1), .val (.int u0), .val (.int u1), .unset, .unset, .unset, .unset, .unset, .unset, .unset, .unset] [(.int (1 : Int32)), (.int (own_ushr p2 (19 : Int32)))])
    refine own_viaH (fun t => XS.iand X68.here hx rfl (hb hby at_111) rfl) ?_
    show own_EH _ _ _ _ _ _ _ _ _ T68 (mkF m 112 #[.val (.int p1), .val (.int p2), .val (.int p3), .val (.int p4), .val (.int p5), .val (.int p6), .val (.int m1), .val (.int u0), .val (.int u1), .val (.int (1 : Int32)), .val (.int m1), .val (.int u0), .val (.int u1), .unset, .unset, .unset, .unset, .unset, .unset, .unset, .unset] [(.int ((own_ushr p2 (19 : Int32)) &&& (1 : Int32)))])
    by_cases c112_74 : ((own_ushr p2 (19 : Int32)) &&& (1 : Int32)) = (0 : Int32)
    · refine own_viaH (fun t => XS.ifYes X68.here hx rfl (pc0 := 112) (pc' := 119) rfl (hb hby at_112) rfl ((if0 _ _).trans (teq c112_74).1) (by decide) (by decide)) ?_
      show own_EH _ _ _ _ _ _ _ _ _ T68 (mkF m 119 #[.val (.int p1), .val (.int p2), .val (.int p3), .val (.int p4), .val (.int p5), .val (.int p6), .val (.int m1), .val (.int u0), .val (.int u1), .val (.int (1 : Int32)), .val (.int m1), .val (.int u0), .val (.int u1), .unset, .unset, .unset, .unset, .unset, .unset, .unset, .unset] [])
      refine own_viaH (fun t => XS.iloadN X68.here hx rfl (hb hby at_119) rfl) ?_
      show own_EH _ _ _ _ _ _ _ _ _ T68 (mkF m 120 #[.val (.int p1), .val (.int p2), .val (.int p3), .val (.int p4), .val (.int p5), .val (.int p6), .val (.int m1), .val (.int u0), .val (.int u1), .val (.int (1 : Int32)), .val (.int m1), .val (.int u0), .val (.int u1), .unset, .unset, .unset, .unset, .unset, .unset, .unset, .unset] [(.int p4)])
      refine own_viaH (fun t => XS.istore X68.here hx rfl (hb hby at_120) rfl (l' := #[.val (.int p1), .val (.int p2), .val (.int p3), .val (.int p4), .val (.int p5), .val (.int p6), .val (.int m1), .val (.int u0), .val (.int u1), .val (.int (1 : Int32)), .val (.int m1), .val (.int u0), .val (.int u1), .val (.int p4), .unset, .unset, .unset, .unset, .unset, .unset, .unset]) rfl) ?_
      show own_EH _ _ _ _ _ _ _ _ _ T68 (mkF m 122 #[.val (.int p1), .val (.int p2), .val (.int p3), .val (.int p4), .val (.int p5), .val (.int p6), .val (.int m1), .val (.int u0), .val (.int u1), .val (.int (1 : Int32)), .val (.int m1), .val (.int u0), .val (.int u1), .val (.int p4), .unset, .unset, .unset, .unset, .unset, .unset, .unset] [])
      refine own_viaH (fun t => XS.iloadN X68.here hx rfl (hb hby at_122) rfl) ?_
      show own_EH _ _ _ _ _ _ _ _ _ T68 (mkF m 123 #[.val (.int p1), .val (.int p2), .val (.int p3), .val (.int p4), .val (.int p5), .val (.int p6), .val (.int m1), .val (.int u0), .val (.int u1), .val (.int (1 : Int32)), .val (.int m1), .val (.int u0), .val (.int u1), .val (.int p4), .unset, .unset, .unset, .unset, .unset, .unset, .unset] [(.int p2)])
      refine own_viaH (fun t => XS.bipush X68.here hx rfl (hb hby at_123)) ?_
      show own_EH _ _ _ _ _ _ _ _ _ T68 (mkF m 125 #[.val (.int p1), .val (.int p2), .val (.int p3), .val (.int p4), .val (.int p5), .val (.int p6), .val (.int m1), .val (.int u0), .val (.int u1), .val (.int (1 : Int32)), .val (.int m1), .val (.int u0), .val (.int u1), .val (.int p4), .unset, .unset, .unset, .unset, .unset, .unset, .unset] [(.int (20 : Int32)), (.int p2)])
      refine own_viaH (fun t => XS.iushr X68.here hx rfl (hb hby at_125) rfl) ?_
      show own_EH _ _ _ _ _ _ _ _ _ T68 (mkF m 126 #[.val (.int p1), .val (.int p2), .val (.int p3), .val (.int p4), .val (.int p5), .val (.int p6), .val (.int m1), .val (.int u0), .val (.int u1), .val (.int (1 : Int32)), .val (.int m1), .val (.int u0), .val (.int u1), .val (.int p4), .unset, .unset, .unset, .unset, .unset, .unset, .unset] [(.int (own_ushr p2 (20 : Int32)))])
      refine own_viaH (fun t => XS.iconst X68.here hx rfl (hb hby at_126)) ?_
      show own_EH _ _ _ _ _ _ _ _ _ T68 (mkF m 127 #[.val (.int p1), .val (.int p2), .val (.int p3), .val (.int p4), .val (.int p5), .val (.int p6), .val (.int m1), .val (.int u0), .val (.int u1), .val (.int (1 : Int32)), .val (.int m1), .val (.int u0), .val (.int u1), .val (.int p4), .unset, .unset, .unset, .unset, .unset, .unset, .unset] [(.int (1 : Int32)), (.int (own_ushr p2 (20 : Int32)))])
      refine own_viaH (fun t => XS.iand X68.here hx rfl (hb hby at_127) rfl) ?_
      show own_EH _ _ _ _ _ _ _ _ _ T68 (mkF m 128 #[.val (.int p1), .val (.int p2), .val (.int p3), .val (.int p4), .val (.int p5), .val (.int p6), .val (.int m1), .val (.int u0), .val (.int u1), .val (.int (1 : Int32)), .val (.int m1), .val (.int u0), .val (.int u1), .val (.int p4), .unset, .unset, .unset, .unset, .unset, .unset, .unset] [(.int ((own_ushr p2 (20 : Int32)) &&& (1 : Int32)))])
      by_cases c128_75 : ((own_ushr p2 (20 : Int32)) &&& (1 : Int32)) = (0 : Int32)
      · refine own_viaH (fun t => XS.ifYes X68.here hx rfl (pc0 := 128) (pc' := 136) rfl (hb hby at_128) rfl ((if0 _ _).trans (teq c128_75).1) (by decide) (by decide)) ?_
        show own_EH _ _ _ _ _ _ _ _ _ T68 (mkF m 136 #[.val (.int p1), .val (.int p2), .val (.int p3), .val (.int p4), .val (.int p5), .val (.int p6), .val (.int m1), .val (.int u0), .val (.int u1), .val (.int (1 : Int32)), .val (.int m1), .val (.int u0), .val (.int u1), .val (.int p4), .unset, .unset, .unset, .unset, .unset, .unset, .unset] [])
        refine own_viaH (fun t => XS.iload X68.here hx rfl (hb hby at_136) rfl) ?_
        show own_EH _ _ _ _ _ _ _ _ _ T68 (mkF m 138 #[.val (.int p1), .val (.int p2), .val (.int p3), .val (.int p4), .val (.int p5), .val (.int p6), .val (.int m1), .val (.int u0), .val (.int u1), .val (.int (1 : Int32)), .val (.int m1), .val (.int u0), .val (.int u1), .val (.int p4), .unset, .unset, .unset, .unset, .unset, .unset, .unset] [(.int p6)])
        refine own_viaH (fun t => XS.istore X68.here hx rfl (hb hby at_138) rfl (l' := #[.val (.int p1), .val (.int p2), .val (.int p3), .val (.int p4), .val (.int p5), .val (.int p6), .val (.int m1), .val (.int u0), .val (.int u1), .val (.int (1 : Int32)), .val (.int m1), .val (.int u0), .val (.int u1), .val (.int p4), .val (.int p6), .unset, .unset, .unset, .unset, .unset, .unset]) rfl) ?_
        show own_EH _ _ _ _ _ _ _ _ _ T68 (mkF m 140 #[.val (.int p1), .val (.int p2), .val (.int p3), .val (.int p4), .val (.int p5), .val (.int p6), .val (.int m1), .val (.int u0), .val (.int u1), .val (.int (1 : Int32)), .val (.int m1), .val (.int u0), .val (.int u1), .val (.int p4), .val (.int p6), .unset, .unset, .unset, .unset, .unset, .unset] [])
        refine own_viaH (fun t => XS.iloadN X68.here hx rfl (hb hby at_140) rfl) ?_
        show own_EH _ _ _ _ _ _ _ _ _ T68 (mkF m 141 #[.val (.int p1), .val (.int p2), .val (.int p3), .val (.int p4), .val (.int p5), .val (.int p6), .val (.int m1), .val (.int u0), .val (.int u1), .val (.int (1 : Int32)), .val (.int m1), .val (.int u0), .val (.int u1), .val (.int p4), .val (.int p6), .unset, .unset, .unset, .unset, .unset, .unset] [(.int p2)])
        refine own_viaH (fun t => XS.bipush X68.here hx rfl (hb hby at_141)) ?_
        show own_EH _ _ _ _ _ _ _ _ _ T68 (mkF m 143 #[.val (.int p1), .val (.int p2), .val (.int p3), .val (.int p4), .val (.int p5), .val (.int p6), .val (.int m1), .val (.int u0), .val (.int u1), .val (.int (1 : Int32)), .val (.int m1), .val (.int u0), .val (.int u1), .val (.int p4), .val (.int p6), .unset, .unset, .unset, .unset, .unset, .unset] [(.int (21 : Int32)), (.int p2)])
        refine own_viaH (fun t => XS.iushr X68.here hx rfl (hb hby at_143) rfl) ?_
        show own_EH _ _ _ _ _ _ _ _ _ T68 (mkF m 144 #[.val (.int p1), .val (.int p2), .val (.int p3), .val (.int p4), .val (.int p5), .val (.int p6), .val (.int m1), .val (.int u0), .val (.int u1), .val (.int (1 : Int32)), .val (.int m1), .val (.int u0), .val (.int u1), .val (.int p4), .val (.int p6), .unset, .unset, .unset, .unset, .unset, .unset] [(.int (own_ushr p2 (21 : Int32)))])
        refine own_viaH (fun t => XS.iconst X68.here hx rfl (hb hby at_144)) ?_
        show own_EH _ _ _ _ _ _ _ _ _ T68 (mkF m 145 #[.val (.int p1), .val (.int p2), .val (.int p3), .val (.int p4), .val (.int p5), .val (.int p6), .val (.int m1), .val (.int u0), .val (.int u1), .val (.int (1 : Int32)), .val (.int m1), .val (.int u0), .val (.int u1), .val (.int p4), .val (.int p6), .unset, .unset, .unset, .unset, .unset, .unset] [(.int (3 : Int32)), (.int (own_ushr p2 (21 : Int32)))])
        refine own_viaH (fun t => XS.iand X68.here hx rfl (hb hby at_145) rfl) ?_
        show own_EH _ _ _ _ _ _ _ _ _ T68 (mkF m 146 #[.val (.int p1), .val (.int p2), .val (.int p3), .val (.int p4), .val (.int p5), .val (.int p6), .val (.int m1), .val (.int u0), .val (.int u1), .val (.int (1 : Int32)), .val (.int m1), .val (.int u0), .val (.int u1), .val (.int p4), .val (.int p6), .unset, .unset, .unset, .unset, .unset, .unset] [(.int ((own_ushr p2 (21 : Int32)) &&& (3 : Int32)))])
        refine own_viaH (fun t => XS.istore X68.here hx rfl (hb hby at_146) rfl (l' := #[.val (.int p1), .val (.int p2), .val (.int p3), .val (.int p4), .val (.int p5), .val (.int p6), .val (.int m1), .val (.int u0), .val (.int u1), .val (.int (1 : Int32)), .val (.int m1), .val (.int u0), .val (.int u1), .val (.int p4), .val (.int p6), .val (.int ((own_ushr p2 (21 : Int32)) &&& (3 : Int32))), .unset, .unset, .unset, .unset, .unset]) rfl) ?_
        show own_EH _ _ _ _ _ _ _ _ _ T68 (mkF m 148 #[.val (.int p1), .val (.int p2), .val (.int p3), .val (.int p4), .val (.int p5), .val (.int p6), .val (.int m1), .val (.int u0), .val (.int u1), .val (.int (1 : Int32)), .val (.int m1), .val (.int u0), .val (.int u1), .val (.int p4), .val (.int p6), .val (.int ((own_ushr p2 (21 : Int32)) &&& (3 : Int32))), .unset, .unset, .unset, .unset, .unset] [])
        exact tail m1 u0 u1 (1 : Int32) m1 u0 u1 p4 p6 ((own_ushr p2 (21 : Int32)) &&& (3 : Int32)) h_m1 h_m1 h_u0 h_u1 h_u0 h_u1 T68 _ X68 e68 NL68
      · refine own_viaH (fun t => XS.ifNo X68.here hx rfl (hb hby at_128) rfl ((if0 _ _).trans (feq c128_75).1)) ?_
        show own_EH _ _ _ _ _ _ _ _ _ T68 (mkF m 131 #[.val (.int p1), .val (.int p2), .val (.int p3), .val (.int p4), .val (.int p5), .val (.int p6), .val (.int m1), .val (.int u0), .val (.int u1), .val (.int (1 : Int32)), .val (.int m1), .val (.int u0), .val (.int u1), .val (.int p4), .unset, .unset, .unset, .unset, .unset, .unset, .unset] [])
        refine own_viaH (fun t => XS.iload X68.here hx rfl (hb hby at_131) rfl) ?_
        show own_EH _ _ _ _ _ _ _ _ _ T68 (mkF m 133 #[.val (.int p1), .val (.int p2), .val (.int p3), .val (.int p4), .val (.int p5), .val (.int p6), .val (.int m1), .val (.int u0), .val (.int u1), .val (.int (1 : Int32)), .val (.int m1), .val (.int u0), .val (.int u1), .val (.int p4), .unset, .unset, .unset, .unset, .unset, .unset, .unset] [(.int p5)])
        refine own_viaH (fun t => XS.goto X68.here hx rfl (pc0 := 133) (pc' := 138) rfl (hb hby at_133) (by decide) (by decide)) ?_
        show own_EH _ _ _ _ _ _ _ _ _ T68 (mkF m 138 #[.val (.int p1), .val (.int p2), .val (.int p3), .val (.int p4), .val (.int p5), .val (.int p6), .val (.int m1), .val (.int u0), .val (.int u1), .val (.int (1 : Int32)), .val (.int m1), .val (.int u0), .val (.int u1), .val (.int p4), .unset, .unset, .unset, .unset, .unset, .unset, .unset] [(.int p5)])
        refine own_viaH (fun t => XS.istore X68.here hx rfl (hb hby at_138) rfl (l' := #[.val (.int p1), .val (.int p2), .val (.int p3), .val (.int p4), .val (.int p5), .val (.int p6), .val (.int m1), .val (.int u0), .val (.int u1), .val (.int (1 : Int32)), .val (.int m1), .val (.int u0), .val (.int u1), .val (.int p4), .val (.int p5), .unset, .unset, .unset, .unset, .unset, .unset]) rfl) ?_
        show own_EH _ _ _ _ _ _ _ _ _ T68 (mkF m 140 #[.val (.int p1), .val (.int p2), .val (.int p3), .val (.int p4), .val (.int p5), .val (.int p6), .val (.int m1), .val (.int u0), .val (.int u1), .val (.int (1 : Int32)), .val (.int m1), .val (.int u0), .val (.int u1), .val (.int p4), .val (.int p5), .unset, .unset, .unset, .unset, .unset, .unset] [])
        refine own_viaH (fun t => XS.iloadN X68.here hx rfl (hb hby at_140) rfl) ?_
        show own_EH _ _ _ _ _ _ _ _ _ T68 (mkF m 141 #[.val (.int p1), .val (.int p2), .val (.int p3), .val (.int p4), .val (.int p5), .val (.int p6), .val (.int m1), .val (.int u0), .val (.int u1), .val (.int (1 : Int32)), .val (.int m1), .val (.int u0), .val (.int u1), .val (.int p4), .val (.int p5), .unset, .unset, .unset, .unset, .unset, .unset] [(.int p2)])
        refine own_viaH (fun t => XS.bipush X68.here hx rfl (hb hby at_141)) ?_
        show own_EH _ _ _ _ _ _ _ _ _ T68 (mkF m 143 #[.val (.int p1), .val (.int p2), .val (.int p3), .val (.int p4), .val (.int p5), .val (.int p6), .val (.int m1), .val (.int u0), .val (.int u1), .val (.int (1 : Int32)), .val (.int m1), .val (.int u0), .val (.int u1), .val (.int p4), .val (.int p5), .unset, .unset, .unset, .unset, .unset, .unset] [(.int (21 : Int32)), (.int p2)])
        refine own_viaH (fun t => XS.iushr X68.here hx rfl (hb hby at_143) rfl) ?_
        show own_EH _ _ _ _ _ _ _ _ _ T68 (mkF m 144 #[.val (.int p1), .val (.int p2), .val (.int p3), .val (.int p4), .val (.int p5), .val (.int p6), .val (.int m1), .val (.int u0), .val (.int u1), .val (.int (1 : Int32)), .val (.int m1), .val (.int u0), .val (.int u1), .val (.int p4), .val (.int p5), .unset, .unset, .unset, .unset, .unset, .unset] [(.int (own_ushr p2 (21 : Int32)))])
        refine own_viaH (fun t => XS.iconst X68.here hx rfl (hb hby at_144)) ?_
        show own_EH _ _ _ _ _ _ _ _ _ T68 (mkF m 145 #[.val (.int p1), .val (.int p2), .val (.int p3), .val (.int p4), .val (.int p5), .val (.int p6), .val (.int m1), .val (.int u0), .val (.int u1), .val (.int (1 : Int32)), .val (.int m1), .val (.int u0), .val (.int u1), .val (.int p4), .val (.int p5), .unset, .unset, .unset, .unset, .unset, .unset] [(.int (3 : Int32)), (.int (own_ushr p2 (21 : Int32)))])
        refine own_viaH (fun t => XS.iand X68.here hx rfl (hb hby at_145) rfl) ?_
        show own_EH _ _ _ _ _ _ _ _ _ T68 (mkF m 146 #[.val (.int p1), .val (.int p2), .val (.int p3), .val (.int p4), .val (.int p5), .val (.int p6), .val (.int m1), .val (.int u0), .val (.int u1), .val (.int (1 : Int32)), .val (.int m1), .val (.int u0), .val (.int u1), .val (.int p4), .val (.int p5), .unset, .unset, .unset, .unset, .unset, .unset] [(.int ((own_ushr p2 (21 : Int32)) &&& (3 : Int32)))])
        refine own_viaH (fun t => XS.istore X68.here hx rfl (hb hby at_146) rfl (l' := #[.val (.int p1), .val (.int p2), .val (.int p3), .val (.int p4), .val (.int p5), .val (.int p6), .val (.int m1), .val (.int u0), .val (.int u1), .val (.int (1 : Int32)), .val (.int m1), .val (.int u0), .val (.int u1), .val (.int p4), .val (.int p5), .val (.int ((own_ushr p2 (21 : Int32)) &&& (3 : Int32))), .unset, .unset, .unset, .unset, .unset]) rfl) ?_
        show own_EH _ _ _ _ _ _ _ _ _ T68 (mkF m 148 #[.val (.int p1), .val (.int p2), .val (.int p3), .val (.int p4), .val (.int p5), .val (.int p6), .val (.int m1), .val (.int u0), .val (.int u1), .val (.int (1 : Int32)), .val (.int m1), .val (.int u0), .val (.int u1), .val (.int p4), .val (.int p5), .val (.int ((own_ushr p2 (21 : Int32)) &&& (3 : Int32))), .unset, .unset, .unset, .unset, .unset] [])
        exact tail m1 u0 u1 (1 : Int32) m1 u0 u1 p4 p5 ((own_ushr p2 (21 : Int32)) &&& (3 : Int32)) h_m1 h_m1 h_u0 h_u1 h_u0 h_u1 T68 _ X68 e68 NL68
    · refine own_viaH (fun t => XS.ifNo X68.here hx rfl (hb hby at_112) rfl ((if0 _ _).trans (feq c112_74).1)) ?_
      show own_EH _ _ _ _ _ _ _ _ _ T68 (mkF m 115 #[.val (.int p1), .val (.int p2), .val (.int p3), .val (.int p4), .val (.int p5), .val (.int p6), .val (.int m1), .val (.int u0), .val (.int u1), .val (.int (1 : Int32)), .val (.int m1), .val (.int u0), .val (.int u1), .unset, .unset, .unset, .unset, .unset, .unset, .unset, .unset] [])
      refine own_viaH (fun t => XS.iloadN X68.here hx rfl (hb hby at_115) rfl) ?_
      show own_EH _ _ _ _ _ _ _ _ _ T68 (mkF m 116 #[.val (.int p1), .val (.int p2), .val (.int p3), .val (.int p4), .val (.int p5), .val (.int p6), .val (.int m1), .val (.int u0), .val (.int u1), .val (.int (1 : Int32)), .val (.int m1), .val (.int u0), .val (.int u1), .unset, .unset, .unset, .unset, .unset, .unset, .unset, .unset] [(.int p3)])
      refine own_viaH (fun t => XS.goto X68.here hx rfl (pc0 := 116) (pc' := 120) rfl (hb hby at_116) (by decide) (by decide)) ?_
      show own_EH _ _ _ _ _ _ _ _ _ T68 (mkF m 120 #[.val (.int p1), .val (.int p2), .val (.int p3), .val (.int p4), .val (.int p5), .val (.int p6), .val (.int m1), .val (.int u0), .val (.int u1), .val (.int (1 : Int32)), .val (.int m1), .val (.int u0), .val (.int u1), .unset, .unset, .unset, .unset, .unset, .unset, .unset, .unset] [(.int p3)])
      refine own_viaH (fun t => XS.istore X68.here hx rfl (hb hby at_120) rfl (l' := #[.val (.int p1), .val (.int p2), .val (.int p3), .val (.int p4), .val (.int p5), .val (.int p6), .val (.int m1), .val (.int u0), .val (.int u1), .val (.int (1 : Int32)), .val (.int m1), .val (.int u0), .val (.int u1), .val (.int p3), .unset, .unset, .unset, .unset, .unset, .unset, .unset]) rfl) ?_
      show own_EH _ _ _ _ _ _ _ _ _ T68 (mkF m 122 #[.val (.int p1), .val (.int p2), .val (.int p3), .val (.int p4), .val (.int p5), .val (.int p6), .val (.int m1), .val (.int u0), .val (.int u1), .val (.int (1 : Int32)), .val (.int m1), .val (.int u0), .val (.int u1), .val (.int p3), .unset, .unset, .unset, .unset, .unset, .unset, .unset] [])
      refine own_viaH (fun t => XS.iloadN X68.here hx rfl (hb hby at_122) rfl) ?_
      show own_EH _ _ _ _ _ _ _ _ _ T68 (mkF m 123 #[.val (.int p1), .val (.int p2), .val (.int p3), .val (.int p4), .val (.int p5), .val (.int p6), .val (.int m1), .val (.int u0), .val (.int u1), .val (.int (1 : Int32)), .val (.int m1), .val (.int u0), .val (.int u1), .val (.int p3), .unset, .unset, .unset, .unset, .unset, .unset, .unset] [(.int p2)])
      refine own_viaH (fun t => XS.bipush X68.here hx rfl (hb hby at_123)) ?_
      show own_EH _ _ _ _ _ _ _ _ _ T68 (mkF m 125 #[.val (.int p1), .val (.int p2), .val (.int p3), .val (.int p4), .val (.int p5), .val (.int p6), .val (.int m1), .val (.int u0), .val (.int u1), .val (.int (1 : Int32)), .val (.int m1), .val (.int u0), .val (.int u1), .val (.int p3), .unset, .unset, .unset, .unset, .unset, .unset, .unset] [(.int (20 : Int32)), (.int p2)])
      refine own_viaH (fun t => XS.iushr X68.here hx rfl (hb hby at_125) rfl) ?_
      show own_EH _ _ _ _ _ _ _ _ _ T68 (mkF m 126 #[.val (.int p1), .val (.int p2), .val (.int p3), .val (.int p4), .val (.int p5), .val (.int p6), .val (.int m1), .val (.int u0), .val (.int u1), .val (.int (1 : Int32)), .val (.int m1), .val (.int u0), .val (.int u1), .val (.int p3), .unset, .unset, .unset, .unset, .unset, .unset, .unset] [(.int (own_ushr p2 (20 : Int32)))])
      refine own_viaH (fun t => XS.iconst X68.here hx rfl (hb hby at_126)) ?_
      show own_EH _ _ _ _ _ _ _ _ _ T68 (mkF m 127 #[.val (.int p1), .val (.int p2), .val (.int p3), .val (.int p4), .val (.int p5), .val (.int p6), .val (.int m1), .val (.int u0), .val (.int u1), .val (.int (1 : Int32)), .val (.int m1), .val (.int u0), .val (.int u1), .val (.int p3), .unset, .unset, .unset, .unset, .unset, .unset, .unset] [(.int (1 : Int32)), (.int (own_ushr p2 (20 : Int32)))])
      refine own_viaH (fun t => XS.iand X68.here hx rfl (hb hby at_127) rfl) ?_
      show own_EH _ _ _ _ _ _ _ _ _ T68 (mkF m 128 #[.val (.int p1), .val (.int p2), .val (.int p3), .val (.int p4), .val (.int p5), .val (.int p6), .val (.int m1), .val (.int u0), .val (.int u1), .val (.int (1 : Int32)), .val (.int m1), .val (.int u0), .val (.int u1), .val (.int p3), .unset, .unset, .unset, .unset, .unset, .unset, .unset] [(.int ((own_ushr p2 (20 : Int32)) &&& (1 : Int32)))])
      by_cases c128_76 : ((own_ushr p2 (20 : Int32)) &&& (1 : Int32)) = (0 : Int32)
      · refine own_viaH (fun t => XS.ifYes X68.here hx rfl (pc0 := 128) (pc' := 136) rfl (hb hby at_128) rfl ((if0 _ _).trans (teq c128_76).1) (by decide) (by decide)) ?_
        show own_EH _ _ _ _ _ _ _ _ _ T68 (mkF m 136 #[.val (.int p1), .val (.int p2), .val (.int p3), .val (.int p4), .val (.int p5), .val (.int p6), .val (.int m1), .val (.int u0), .val (.int u1), .val (.int (1 : Int32)), .val (.int m1), .val (.int u0), .val (.int u1), .val (.int p3), .unset, .unset, .unset, .unset, .unset, .unset, .unset] [])
        refine own_viaH (fun t => XS.iload X68.here hx rfl (hb hby at_136) rfl) ?_
        show own_EH _ _ _ _ _ _ _ _ _ T68 (mkF m 138 #[.val (.int p1), .val (.int p2), .val (.int p3), .val (.int p4), .val (.int p5), .val (.int p6), .val (.int m1), .val (.int u0), .val (.int u1), .val (.int (1 : Int32)), .val (.int m1), .val (.int u0), .val (.int u1), .val (.int p3), .unset, .unset, .unset, .unset, .unset, .unset, .unset] [(.int p6)])
        refine own_viaH (fun t => XS.istore X68.here hx rfl (hb hby at_138) rfl (l' := #[.val (.int p1), .val (.int p2), .val (.int p3), .val (.int p4), .val (.int p5), .val (.int p6), .val (.int m1), .val (.int u0), .val (.int u1), .val (.int (1 : Int32)), .val (.int m1), .val (.int u0), .val (.int u1), .val (.int p3), .val (.int p6), .unset, .unset, .unset, .unset, .unset, .unset]) rfl) ?_
        show own_EH _ _ _ _ _ _ _ _ _ T68 (mkF m 140 #[.val (.int p1), .val (.int p2), .val (.int p3), .val (.int p4), .val (.int p5), .val (.int p6), .val (.int m1), .val (.int u0), .val (.int u1), .val (.int (1 : Int32)), .val (.int m1), .val (.int u0), .val (.int u1), .val (.int p3), .val (.int p6), .unset, .unset, .unset, .unset, .unset, .unset] [])
        refine own_viaH (fun t => XS.iloadN X68.here hx rfl (hb hby at_140) rfl) ?_
        show own_EH _ _ _ _ _ _ _ _ _ T68 (mkF m 141 #[.val (.int p1), .val (.int p2), .val (.int p3), .val (.int p4), .val (.int p5), .val (.int p6), .val (.int m1), .val (.int u0), .val (.int u1), .val (.int (1 : Int32)), .val (.int m1), .val (.int u0), .val (.int u1), .val (.int p3), .val (.int p6), .unset, .unset, .unset, .unset, .unset, .unset] [(.int p2)])
        refine own_viaH (fun t => XS.bipush X68.here hx rfl (hb hby at_141)) ?_
        show own_EH _ _ _ _ _ _ _ _ _ T68 (mkF m 143 #[.val (.int p1), .val (.int p2), .val (.int p3), .val (.int p4), .val (.int p5), .val (.int p6), .val (.int m1), .val (.int u0), .val (.int u1), .val (.int (1 : Int32)), .val (.int m1), .val (.int u0), .val (.int u1), .val (.int p3), .val (.int p6), .unset, .unset, .unset, .unset, .unset, .unset] [(.int (21 : Int32)), (.int p2)])
        refine own_viaH (fun t => XS.iushr X68.here hx rfl (hb hby at_143) rfl) ?_
        show own_EH _ _ _ _ _ _ _ _ _ T68 (mkF m 144 #[.val (.int p1), .val (.int p2), .val (.int p3), .val (.int p4), .val (.int p5), .val (.int p6), .val (.int m1), .val (.int u0), .val (.int u1), .val (.int (1 : Int32)), .val (.int m1), .val (.int u0), .val (.int u1), .val (.int p3), .val (.int p6), .unset, .unset, .unset, .unset, .unset, .unset] [(.int (own_ushr p2 (21 : Int32)))])
        refine own_viaH (fun t => XS.iconst X68.here hx rfl (hb hby at_144)) ?_
        show own_EH _ _ _ _ _ _ _ _ _ T68 (mkF m 145 #[.val (.int p1), .val (.int p2), .val (.int p3), .val (.int p4), .val (.int p5), .val (.int p6), .val (.int m1), .val (.int u0), .val (.int u1), .val (.int (1 : Int32)), .val (.int m1), .val (.int u0), .val (.int u1), .val (.int p3), .val (.int p6), .unset, .unset, .unset, .unset, .unset, .unset] [(.int (3 : Int32)), (.int (own_ushr p2 (21 : Int32)))])
        refine own_viaH (fun t => XS.iand X68.here hx rfl (hb hby at_145) rfl) ?_
        show own_EH _ _ _ _ _ _ _ _ _ T68 (mkF m 146 #[.val (.int p1), .val (.int p2), .val (.int p3), .val (.int p4), .val (.int p5), .val (.int p6), .val (.int m1), .val (.int u0), .val (.int u1), .val (.int (1 : Int32)), .val (.int m1), .val (.int u0), .val (.int u1), .val (.int p3), .val (.int p6), .unset, .unset, .unset, .unset, .unset, .unset] [(.int ((own_ushr p2 (21 : Int32)) &&& (3 : Int32)))])
        refine own_viaH (fun t => XS.istore X68.here hx rfl (hb hby at_146) rfl (l' := #[.val (.int p1), .val (.int p2), .val (.int p3), .val (.int p4), .val (.int p5), .val (.int p6), .val (.int m1), .val (.int u0), .val (.int u1), .val (.int (1 : Int32)), .val (.int m1), .val (.int u0), .val (.int u1), .val (.int p3), .val (.int p6), .val (.int ((own_ushr p2 (21 : Int32)) &&& (3 : Int32))), .unset, .unset, .unset, .unset, .unset]) rfl) ?_
        show own_EH _ _ _ _ _ _ _ _ _ T68 (mkF m 148 #[.val (.int p1), .val (.int p2), .val (.int p3), .val (.int p4), .val (.int p5), .val (.int p6), .val (.int m1), .val (.int u0), .val (.int u1), .val (.int (1 : Int32)), .val (.int m1), .val (.int u0), .val (.int u1), .val (.int p3), .val (.int p6), .val (.int ((own_ushr p2 (21 : Int32)) &&& (3 : Int32))), .unset, .unset, .unset, .unset, .unset] [])
        exact tail m1 u0 u1 (1 : Int32) m1 u0 u1 p3 p6 ((own_ushr p2 (21 : Int32)) &&& (3 : Int32)) h_m1 h_m1 h_u0 h_u1 h_u0 h_u1 T68 _ X68 e68 NL68
      · refine own_viaH (fun t => XS.ifNo X68.here hx rfl (hb hby at_128) rfl ((if0 _ _).trans (feq c128_76).1)) ?_
        show own_EH _ _ _ _ _ _ _ _ _ T68 (mkF m 131 #[.val (.int p1), .val (.int p2), .val (.int p3), .val (.int p4), .val (.int p5), .val (.int p6), .val (.int m1), .val (.int u0), .val (.int u1), .val (.int (1 : Int32)), .val (.int m1), .val (.int u0), .val (.int u1), .val (.int p3), .unset, .unset, .unset, .unset, .unset, .unset, .unset] [])
        refine own_viaH (fun t => XS.iload X68.here hx rfl (hb hby at_131) rfl) ?_
        show own_EH _ _ _ _ _ _ _ _ _ T68 (mkF m 133 #[.val (.int p1), .val (.int p2), .val (.int p3), .val (.int p4), .val (.int p5), .val (.int p6), .val (.int m1), .val (.int u0), .val (.int u1), .val (.int (1 : Int32)), .val (.int m1), .val (.int u0), .val (.int u1), .val (.int p3), .unset, .unset, .unset, .unset, .unset, .unset, .unset] [(.int p5)])
        refine own_viaH (fun t => XS.goto X68.here hx rfl (pc0 := 133) (pc' := 138) rfl (hb hby at_133) (by decide) (by decide)) ?_
        show own_EH _ _ _ _ _ _ _ _ _ T68 (mkF m 138 #[.val (.int p1), .val (.int p2), .val (.int p3), .val (.int p4), .val (.int p5), .val (.int p6), .val (.int m1), .val (.int u0), .val (.int u1), .val (.int (1 : Int32)), .val (.int m1), .val (.int u0), .val (.int u1), .val (.int p3), .unset, .unset, .unset, .unset, .unset, .unset, .unset] [(.int p5)])
        refine own_viaH (fun t => XS.istore X68.here hx rfl (hb hby at_138) rfl (l' := #[.val (.int p1), .val (.int p2), .val (.int p3), .val (.int p4), .val (.int p5), .val (.int p6), .val (.int m1), .val (.int u0), .val (.int u1), .val (.int (1 : Int32)), .val (.int m1), .val (.int u0), .val (.int u1), .val (.int p3), .val (.int p5), .unset, .unset, .unset, .unset, .unset, .unset]) rfl) ?_
        show own_EH _ _ _ _ _ _ _ _ _ T68 (mkF m 140 #[.val (.int p1), .val (.int p2), .val (.int p3), .val (.int p4), .val (.int p5), .val (.int p6), .val (.int m1), .val (.int u0), .val (.int u1), .val (.int (1 : Int32)), .val (.int m1), .val (.int u0), .val (.int u1), .val (.int p3), .val (.int p5), .unset, .unset, .unset, .unset, .unset, .unset] [])
        refine own_viaH (fun t => XS.iloadN X68.here hx rfl (hb hby at_140) rfl) ?_
        show own_EH _ _ _ _ _ _ _ _ _ T68 (mkF m 141 #[.val (.int p1), .val (.int p2), .val (.int p3), .val (.int p4), .val (.int p5), .val (.int p6), .val (.int m1), .val (.int u0), .val (.int u1), .val (.int (1 : Int32)), .val (.int m1), .val (.int u0), .val (.int u1), .val (.int p3), .val (.int p5), .unset, .unset, .unset, .unset, .unset, .unset] [(.int p2)])
        refine own_viaH (fun t => XS.bipush X68.here hx rfl (hb hby at_141)) ?_
        show own_EH _ _ _ _ _ _ _ _ _ T68 (mkF m 143 #[.val (.int p1), .val (.int p2), .val (.int p3), .val (.int p4), .val (.int p5), .val (.int p6), .val (.int m1), .val (.int u0), .val (.int u1), .val (.int (1 : Int32)), .val (.int m1), .val (.int u0), .val (.int u1), .val (.int p3), .val (.int p5), .unset, .unset, .unset, .unset, .unset, .unset] [(.int (21 : Int32)), (.int p2)])
        refine own_viaH (fun t => XS.iushr X68.here hx rfl (hb hby at_143) rfl) ?_
        show own_EH _ _ _ _ _ _ _ _ _ T68 (mkF m 144 #[.val (.int p1), .val (.int p2), .val (.int p3), .val (.int p4), .val (.int p5), .val (.int p6), .val (.int m1), .val (.int u0), .val (.int u1), .val (.int (1 : Int32)), .val (.int m1), .val (.int u0), .val (.int u1), .val (.int p3), .val (.int p5), .unset, .unset, .unset, .unset, .unset, .unset] [(.int (own_ushr p2 (21 : Int32)))])
        refine own_viaH (fun t => XS.iconst X68.here hx rfl (hb hby at_144)) ?_
        show own_EH _ _ _ _ _ _ _ _ _ T68 (mkF m 145 #[.val (.int p1), .val (.int p2), .val (.int p3), .val (.int p4), .val (.int p5), .val (.int p6), .val (.int m1), .val (.int u0), .val (.int u1), .val (.int (1 : Int32)), .val (.int m1), .val (.int u0), .val (.int u1), .val (.int p3), .val (.int p5), .unset, .unset, .unset, .unset, .unset, .unset] [(.int (3 : Int32)), (.int (own_ushr p2 (21 : Int32)))])
        refine own_viaH (fun t => XS.iand X68.here hx rfl (hb hby at_145) rfl) ?_
        show own_EH _ _ _ _ _ _ _ _ _ T68 (mkF m 146 #[.val (.int p1), .val (.int p2), .val (.int p3), .val (.int p4), .val (.int p5), .val (.int p6), .val (.int m1), .val (.int u0), .val (.int u1), .val (.int (1 : Int32)), .val (.int m1), .val (.int u0), .val (.int u1), .val (.int p3), .val (.int p5), .unset, .unset, .unset, .unset, .unset, .unset] [(.int ((own_ushr p2 (21 : Int32)) &&& (3 : Int32)))])
        refine own_viaH (fun t => XS.istore X68.here hx rfl (hb hby at_146) rfl (l' := #[.val (.int p1), .val (.int p2), .val (.int p3), .val (.int p4), .val (.int p5), .val (.int p6), .val (.int m1), .val (.int u0), .val (.int u1), .val (.int (1 : Int32)), .val (.int m1), .val (.int u0), .val (.int u1), .val (.int p3), .val (.int p5), .val (.int ((own_ushr p2 (21 : Int32)) &&& (3 : Int32))), .unset, .unset, .unset, .unset, .unset]) rfl) ?_
        show own_EH _ _ _ _ _ _ _ _ _ T68 (mkF m 148 #[.val (.int p1), .val (.int p2), .val (.int p3), .val (.int p4), .val (.int p5), .val (.int p6), .val (.int m1), .val (.int u0), .val (.int u1), .val (.int (1 : Int32)), .val (.int m1), .val (.int u0), .val (.int u1), .val (.int p3), .val (.int p5), .val (.int ((own_ushr p2 (21 : Int32)) &&& (3 : Int32))), .unset, .unset, .unset, .unset, .unset] [])
        exact tail m1 u0 u1 (1 : Int32) m1 u0 u1 p3 p5 ((own_ushr p2 (21 : Int32)) &&& (3 : Int32)) h_m1 h_m1 h_u0 h_u1 h_u0 h_u1 T68 _ X68 e68 NL68
set_option maxRecDepth 65536 in
set_option maxHeartbeats 40000000 in
theorem comes_1 {Post : Tables → Env → Array Value → State → Outcome → State → Prop} (hpost : ∀ tb e args s v u, (limb_1_1.after args s (.returned v) u = true ∧ limb_1_2.after args s (.returned v) u = true ∧ True) → ReturnedEndW s (.returned v) u (Jvm.fieldLocs frame_1_writes args s ++ Jvm.arrayLocs frame_1_arrays args s ++ Jvm.staticLocs frame_1_statics s) 32 2176 → Post tb e args s (.returned v) u) :
    ArmFor flags0 classFile x code maxLocals ret World_1 tables_1 room_1 Calls_1 rest_1 Pre_1 Post := by
  intro l hfl _ _ p e ha hc hk s m args below hf hA hF happ hP
  obtain ⟨hcalls, hrest, hpre⟩ := hP
  obtain ⟨-, -, -, hnamed, -, -, -, hat⟩ := (Spec.applies_iff hf).mp happ
  obtain ⟨hg, hn⟩ := and_e (Cond.before_iff.mp (show (Jvm.Cond.and given_1 narrow_1).before args s = true from hpre))
  obtain ⟨hcount, hg0⟩ := and_e hg
  obtain ⟨hi0, hg1⟩ := and_e hg0
  obtain ⟨hi1, hg2⟩ := and_e hg1
  obtain ⟨hi2, hg3⟩ := and_e hg2
  obtain ⟨hi3, hg4⟩ := and_e hg3
  obtain ⟨hi4, hg5⟩ := and_e hg4
  have hi5 := hg5
  obtain ⟨w0, w1, w2, w3, w4, w5, rfl⟩ : ∃ w0 w1 w2 w3 w4 w5 : Value, args = #[w0, w1, w2, w3, w4, w5] := by
    have hs : args.size = 6 := by simpa [Cond.value, given_1] using hcount
    obtain ⟨L⟩ := args
    match L, hs with
    | [w0, w1, w2, w3, w4, w5], _ => exact ⟨w0, w1, w2, w3, w4, w5, rfl⟩
  have hw := fun d (hd : d ∈ tables_1) => atoms_spec (ws := Jvm.Cond.code x code maxLocals ret :: tables_1) hat d (List.mem_cons_of_mem _ hd)
  obtain ⟨hsets, hown0⟩ := atoms_of _ (rest_1_c_eq ▸ (show rest_1_c.before _ s = true from hrest))
  have hfit : Fit s := fun {y c} hc i hi => by
    obtain ⟨ha, rfl⟩ := Array.getElem?_eq_some_iff.mp hc
    have q := List.all_eq_true.mp ((Array.all_eq_true_iff_forall_mem.mp hF) _ (Array.getElem_mem ha)) i (List.mem_range.mpr hi)
    simpa [Array.getElem?_eq_getElem hi] using q
  obtain ⟨i0, ei0⟩ := is_v hi0
  obtain rfl : w0 = (.int i0) := Option.some.inj ei0
  obtain ⟨i1, ei1⟩ := is_v hi1
  obtain rfl : w1 = (.int i1) := Option.some.inj ei1
  obtain ⟨i2, ei2⟩ := is_v hi2
  obtain rfl : w2 = (.int i2) := Option.some.inj ei2
  obtain ⟨i3, ei3⟩ := is_v hi3
  obtain rfl : w3 = (.int i3) := Option.some.inj ei3
  obtain ⟨i4, ei4⟩ := is_v hi4
  obtain rfl : w4 = (.int i4) := Option.some.inj ei4
  obtain ⟨i5, ei5⟩ := is_v hi5
  obtain rfl : w5 = (.int i5) := Option.some.inj ei5
  have n5 := not_v (Cond.before_iff.mp (hsets _ (List.mem_of_getElem? (i := 2) rfl)))
  obtain ⟨z, ez⟩ := is_v (Cond.before_iff.mp (hsets _ (List.mem_of_getElem? (i := 1) rfl)))
  have S1 := Sta.start ez (Or.inl (hsets _ (List.mem_of_getElem? (i := 0) rfl)))
  have hz : ¬ (z = (0 : Int32)) := gotF (Cond.eq_ints ez (Term.int_eval (0))) n5
  have CV : CHv s own_EL s.vm s.heap := CHv.start (own_hEL hw) (fun q hq => by cases List.mem_singleton.mp hq; exact hcalls.1 ("java/lang/String", 7) (List.mem_of_getElem? (i := 1) rfl)) (hsets _ (List.mem_of_getElem? (i := 2) rfl)) (hw _ (List.mem_of_getElem? (i := 22) rfl)) (hw _ (List.mem_of_getElem? (i := 8) rfl))
  obtain ⟨n, o, h1, h2, h3, _, L, rfl, ⟨rfl, N⟩, -, hq⟩ := rm0 l s _ hw tables_1 i0 i1 i2 i3 i4 i5 z hz s.heap s.heap.size (Nat.le_refl _) rfl S1 p e ha hc hk s m _ below hf ((Spec.applies_iff_loose hf).mp happ).1 ⟨rfl, State.Warmed39.refl s, rfl, CV⟩ trivial
  refine ⟨n, _, h1, h2, h3, hpost _ _ _ _ _ _ ⟨Cond.after_iff.mpr rfl, Cond.after_iff.mpr (eq_i res_at (Term.int_eval (1)) rfl), trivial⟩ ⟨hq.1, hq.2.1, hq.2.2.1, (hq.2.2.2.sift fun y hy => Or.inr (N y hy)).mono (by decide) (by decide)⟩⟩
theorem main_1_1 : Claimed_1_1 := comes_1 fun _ _ _ _ _ _ h hF => ⟨h.1, hF⟩
theorem main_1_2 : Claimed_1_2 := comes_1 fun _ _ _ _ _ _ h hF => ⟨h.2.1, hF⟩
end Jvm.Pilot.@@N@@
namespace Jvm.Pilot.@@N@@
open Jvm Jvm.ClassFile Sem Op Lib Jvm.Free Jvm.Stand Jvm.Pilot.@@N@@.Jvm.D
/-! MADE BY PROGRAM (witnessworld.py) out of the Statement's table words and the real class files: 21 classes; the members and pool entries that the words name. The judged class is class 1, her method 4. -/
namespace start1
open Jvm.ClassFile
def u (s : String) : CpInfo := .utf8 (stringToUtf16 s)
/-- a pool by its gaps: so many unusable entries, then the entry; so many at the end -/
def gap : Nat → List CpInfo → List CpInfo
  | 0, r => r
  | n + 1, r => .unusable :: gap n r
def poolList (es : List (Nat × CpInfo)) (last : Nat) : List CpInfo := es.foldr (fun e r => gap e.1 (e.2 :: r)) (gap last [])
def pool (es : List (Nat × CpInfo)) (last : Nat) : Array CpInfo := ⟨poolList es last⟩
def fileOf (pool : Array CpInfo) (this : Nat) (attrs : Array Attribute := #[]) (ms : Array MethodInfo := #[]) (fl : Nat := 33) (sup : Nat := 0) (ifs : Array Nat := #[]) (fds : Array FieldInfo := #[]) : ClassFile where
  minorVersion := 0
  majorVersion := 65
  constantPool := pool
  accessFlags := fl
  thisClass := this
  superClass := sup
  interfaces := ifs
  fields := fds
  methods := ms
  attributes := attrs
def plain (name : String) (sup : Option ClassId) : Class where
  name := name
  kind := .ordinary
  loader := none
  accessFlags := 33
  super := sup
  interfaces := #[]
  cf := none
  fields := #[]
  methods := #[]
  instanceTypes := #[]
  staticTypes := #[]
  resolved := #[]
  callSites := []
  init := .initialized
  statics := none
  mirror := none

def pool0 : Array CpInfo := pool [(5, u "<init>"), (0, u "()V"), (1, .class_ 10), (1, u "java/lang/Object")] 113

def k0c0 : Code := { maxStack := 0, maxLocals := 1, code := object_method_1_code, exceptionTable := #[], attributes := #[] }
def k0m0 : Method := { name := "<init>", desc := "()V", sig := { parameters := [], returnType := none }, accessFlags := 1, code := some k0c0 }
/-- java/lang/Object -/
def k0 : Class := { plain "java/lang/Object" none with
  accessFlags := 33
  interfaces := #[]
  cf := some (fileOf pool0 8 #[] #[{ accessFlags := 1, nameIndex := 5, descriptorIndex := 6, attributes := #[] }] 33 0 #[] #[])
  fields := #[]
  methods := #[k0m0]
  instanceTypes := #[]
  staticTypes := #[]
  resolved := Array.replicate 124 none
  statics := none }

def pool1 : Array CpInfo := pool [(2, .class_ 4), (1, u "java/lang/Object"), (0, u "<init>"), (0, u "()V"), (0, .class_ 8), (0, u "java/lang/String"), (0, .methodref 7 10), (0, .nameAndType 5 11), (0, u "([C)V"), (0, .methodref 13 14), (0, .class_ 15), (0, .nameAndType 16 17), (0, u "com/example/exhaust/exhaust/frontend/source/SourcePositionEqualsPinLaw"), (0, u "len"), (0, u "(I)I"), (0, .methodref 13 19), (0, .nameAndType 20 21), (0, u "mk"), (0, u "(ICC)Ljava/lang/String;"), (0, .class_ 23), (0, u "com/example/exhaust/exhaust/frontend/source/SourcePosition"), (0, .methodref 22 25), (0, .nameAndType 5 26), (0, u "(Ljava/lang/String;II)V"), (0, .methodref 13 28), (0, .nameAndType 29 30), (0, u "sameText"), (0, u "(ICCICC)Z"), (0, .methodref 22 32), (0, .nameAndType 33 34), (0, u "equals"), (0, u "(Ljava/lang/Object;)Z"), (3, u "law"), (0, u "(IIIIII)Z")] 2

def k1m0 : Method := { name := "<init>", desc := "()V", sig := { parameters := [], returnType := none }, accessFlags := 1, code := none }
def k1c1 : Code := { maxStack := 2, maxLocals := 1, code := method_2_code, exceptionTable := #[], attributes := #[] }
def k1m1 : Method := { name := "len", desc := "(I)I", sig := { parameters := [.int], returnType := some .int }, accessFlags := 10, code := some k1c1 }
def k1c2 : Code := { maxStack := 6, maxLocals := 3, code := method_3_code, exceptionTable := #[], attributes := #[] }
def k1m2 : Method := { name := "mk", desc := "(ICC)Ljava/lang/String;", sig := { parameters := [.int, .char, .char], returnType := some (.object "java/lang/String") }, accessFlags := 10, code := some k1c2 }
def k1c3 : Code := { maxStack := 2, maxLocals := 6, code := method_4_code, exceptionTable := #[], attributes := #[] }
def k1m3 : Method := { name := "sameText", desc := "(ICCICC)Z", sig := { parameters := [.int, .char, .char, .int, .char, .char], returnType := some .boolean }, accessFlags := 10, code := some k1c3 }
def k1c4 : Code := { maxStack := 6, maxLocals := 21, code := code, exceptionTable := #[], attributes := #[] }
def k1m4 : Method := { name := "law", desc := "(IIIIII)Z", sig := { parameters := [.int, .int, .int, .int, .int, .int], returnType := some .boolean }, accessFlags := 9, code := some k1c4 }
/-- com/example/exhaust/exhaust/frontend/source/SourcePositionEqualsPinLaw -/
def k1 : Class := { plain "com/example/exhaust/exhaust/frontend/source/SourcePositionEqualsPinLaw" (some 0) with
  accessFlags := 49
  interfaces := #[]
  cf := some (fileOf pool1 13 #[] #[{ accessFlags := 1, nameIndex := 5, descriptorIndex := 6, attributes := #[] }, { accessFlags := 10, nameIndex := 16, descriptorIndex := 17, attributes := #[] }, { accessFlags := 10, nameIndex := 20, descriptorIndex := 21, attributes := #[] }, { accessFlags := 10, nameIndex := 29, descriptorIndex := 30, attributes := #[] }, { accessFlags := 9, nameIndex := 38, descriptorIndex := 39, attributes := #[] }] 49 2 #[] #[])
  fields := #[]
  methods := #[k1m0, k1m1, k1m2, k1m3, k1m4]
  instanceTypes := #[]
  staticTypes := #[]
  resolved := Array.replicate 42 none
  statics := none }

def pool2 : Array CpInfo := pool [(1, .class_ 2), (0, u "java/io/Serializable"), (0, .class_ 4), (0, u "java/lang/Object")] 2

/-- java/io/Serializable -/
def k2 : Class := { plain "java/io/Serializable" (some 0) with
  accessFlags := 1537
  interfaces := #[]
  cf := some (fileOf pool2 1 #[] #[] 1537 3 #[] #[])
  fields := #[]
  methods := #[]
  instanceTypes := #[]
  staticTypes := #[]
  resolved := Array.replicate 7 none
  statics := none }

def pool3 : Array CpInfo := pool [(1, .class_ 2), (0, u "java/lang/Comparable"), (0, .class_ 4), (0, u "java/lang/Object")] 7

/-- java/lang/Comparable -/
def k3 : Class := { plain "java/lang/Comparable" (some 0) with
  accessFlags := 1537
  interfaces := #[]
  cf := some (fileOf pool3 1 #[] #[] 1537 3 #[] #[])
  fields := #[]
  methods := #[]
  instanceTypes := #[]
  staticTypes := #[]
  resolved := Array.replicate 12 none
  statics := none }

def pool4 : Array CpInfo := pool [(2, .class_ 4), (1, u "java/lang/CharSequence"), (42, .class_ 48), (0, u "java/lang/CharSequence$1CodePointIterator"), (10, .class_ 60), (0, u "java/lang/CharSequence$1CharIterator"), (5, .class_ 67), (0, u "java/lang/Object")] 63

/-- java/lang/CharSequence -/
def k4 : Class := { plain "java/lang/CharSequence" (some 0) with
  accessFlags := 1537
  interfaces := #[]
  cf := some (fileOf pool4 2 #[.nestMembers #[47, 59]] #[] 1537 66 #[] #[])
  fields := #[]
  methods := #[]
  instanceTypes := #[]
  staticTypes := #[]
  resolved := Array.replicate 131 none
  statics := none }

def pool5 : Array CpInfo := pool [(1, .class_ 2), (0, u "java/lang/constant/Constable"), (0, .class_ 4), (0, u "java/lang/Object")] 6

/-- java/lang/constant/Constable -/
def k5 : Class := { plain "java/lang/constant/Constable" (some 0) with
  accessFlags := 1537
  interfaces := #[]
  cf := some (fileOf pool5 1 #[] #[] 1537 3 #[] #[])
  fields := #[]
  methods := #[]
  instanceTypes := #[]
  staticTypes := #[]
  resolved := Array.replicate 11 none
  statics := none }

def pool6 : Array CpInfo := pool [(1, .class_ 2), (0, u "java/lang/constant/ConstantDesc"), (0, .class_ 4), (0, u "java/lang/Object")] 32

/-- java/lang/constant/ConstantDesc -/
def k6 : Class := { plain "java/lang/constant/ConstantDesc" (some 0) with
  accessFlags := 1537
  interfaces := #[]
  cf := some (fileOf pool6 1 #[] #[] 1537 3 #[] #[])
  fields := #[]
  methods := #[]
  instanceTypes := #[]
  staticTypes := #[]
  resolved := Array.replicate 37 none
  statics := none }

def pool7 : Array CpInfo := pool [(1, .methodref 2 3), (0, .class_ 4), (0, .nameAndType 5 6), (0, u "java/lang/Object"), (0, u "<init>"), (0, u "()V"), (0, .string 8), (0, u ""), (0, .fieldref 10 11), (0, .class_ 12), (0, .nameAndType 13 14), (0, u "java/lang/String"), (0, u "value"), (0, u "[B"), (0, .fieldref 10 16), (0, .nameAndType 17 18), (0, u "coder"), (0, u "B"), (2, u "hash"), (0, u "I"), (2, u "hashIsZero"), (0, u "Z"), (0, .methodref 10 28), (0, .nameAndType 5 29), (0, u "([CIILjava/lang/Void;)V"), (8, .fieldref 10 39), (0, .nameAndType 40 26), (0, u "COMPACT_STRINGS"), (1, .class_ 44), (1, u "java/lang/StringUTF16"), (0, u "compress"), (1, .methodref 42 48), (0, .nameAndType 49 50), (0, u "coderFromArrayLen"), (0, u "([BI)B"), (56, .class_ 109), (1, u "java/lang/StringLatin1"), (67, .methodref 42 178), (0, .nameAndType 45 179), (0, u "([CII)[B"), (361, .methodref 107 542), (0, .nameAndType 543 544), (0, u "equals"), (0, u "([B[B)Z"), (28, u "(Ljava/lang/Object;)Z"), (1, .class_ 576), (0, u "java/lang/CharSequence"), (22, u "CASE_INSENSITIVE_ORDER"), (0, u "Ljava/util/Comparator;"), (409, u "([C)V"), (90, u "serialPersistentFields"), (0, u "[Ljava/io/ObjectStreamField;"), (0, .class_ 1104), (0, u "java/lang/String$CaseInsensitiveComparator"), (1, .class_ 1107), (0, u "java/io/Serializable"), (0, .class_ 1109), (0, u "java/lang/Comparable"), (0, .class_ 1111), (0, u "java/lang/constant/Constable"), (0, .class_ 1113), (0, u "java/lang/constant/ConstantDesc"), (2, u "serialVersionUID"), (0, u "J"), (3, u "REPL"), (0, u "C"), (2, u "LATIN1"), (1, u "UTF16")] 323

def k7m0 : Method := { name := "<init>", desc := "()V", sig := { parameters := [], returnType := none }, accessFlags := 1, code := none }
def k7c1 : Code := { maxStack := 5, maxLocals := 2, code := jdk_42_method_3_code, exceptionTable := #[], attributes := #[] }
def k7m1 : Method := { name := "<init>", desc := "([C)V", sig := { parameters := [(.array .char)], returnType := none }, accessFlags := 1, code := some k7c1 }
def k7c2 : Code := { maxStack := 2, maxLocals := 3, code := jdk_42_method_66_code, exceptionTable := #[], attributes := #[] }
def k7m2 : Method := { name := "equals", desc := "(Ljava/lang/Object;)Z", sig := { parameters := [(.object "java/lang/Object")], returnType := some .boolean }, accessFlags := 1, code := some k7c2 }
def k7c3 : Code := { maxStack := 4, maxLocals := 6, code := jdk_42_method_149_code, exceptionTable := #[], attributes := #[] }
def k7m3 : Method := { name := "<init>", desc := "([CIILjava/lang/Void;)V", sig := { parameters := [(.array .char), .int, .int, (.object "java/lang/Void")], returnType := none }, accessFlags := 2, code := some k7c3 }
/-- java/lang/String -/
def k7 : Class := { plain "java/lang/String" (some 0) with
  accessFlags := 49
  interfaces := #[2, 3, 4, 5, 6]
  cf := some (fileOf pool7 10 #[.nestMembers #[1103]] #[{ accessFlags := 1, nameIndex := 5, descriptorIndex := 6, attributes := #[] }, { accessFlags := 1, nameIndex := 5, descriptorIndex := 1010, attributes := #[] }, { accessFlags := 1, nameIndex := 543, descriptorIndex := 573, attributes := #[] }, { accessFlags := 2, nameIndex := 5, descriptorIndex := 29, attributes := #[] }] 49 2 #[1106, 1108, 575, 1110, 1112] #[{ accessFlags := 18, nameIndex := 13, descriptorIndex := 14, attributes := #[] }, { accessFlags := 18, nameIndex := 17, descriptorIndex := 18, attributes := #[] }, { accessFlags := 2, nameIndex := 21, descriptorIndex := 22, attributes := #[] }, { accessFlags := 2, nameIndex := 25, descriptorIndex := 26, attributes := #[] }, { accessFlags := 26, nameIndex := 1116, descriptorIndex := 1117, attributes := #[] }, { accessFlags := 24, nameIndex := 40, descriptorIndex := 26, attributes := #[] }, { accessFlags := 26, nameIndex := 1101, descriptorIndex := 1102, attributes := #[] }, { accessFlags := 26, nameIndex := 1121, descriptorIndex := 1122, attributes := #[] }, { accessFlags := 25, nameIndex := 599, descriptorIndex := 600, attributes := #[] }, { accessFlags := 24, nameIndex := 1125, descriptorIndex := 18, attributes := #[] }, { accessFlags := 24, nameIndex := 1127, descriptorIndex := 18, attributes := #[] }])
  fields := #[{ name := "value", type := (.array .byte), accessFlags := 18, slot := 0, constantValue := 0 }, { name := "coder", type := .byte, accessFlags := 18, slot := 1, constantValue := 0 }, { name := "hash", type := .int, accessFlags := 2, slot := 2, constantValue := 0 }, { name := "hashIsZero", type := .boolean, accessFlags := 2, slot := 3, constantValue := 0 }, { name := "serialVersionUID", type := .long, accessFlags := 26, slot := 0, constantValue := 0 }, { name := "COMPACT_STRINGS", type := .boolean, accessFlags := 24, slot := 1, constantValue := 0 }, { name := "serialPersistentFields", type := (.array (.object "java/io/ObjectStreamField")), accessFlags := 26, slot := 2, constantValue := 0 }, { name := "REPL", type := .char, accessFlags := 26, slot := 3, constantValue := 0 }, { name := "CASE_INSENSITIVE_ORDER", type := (.object "java/util/Comparator"), accessFlags := 25, slot := 4, constantValue := 0 }, { name := "LATIN1", type := .byte, accessFlags := 24, slot := 5, constantValue := 0 }, { name := "UTF16", type := .byte, accessFlags := 24, slot := 6, constantValue := 0 }]
  methods := #[k7m0, k7m1, k7m2, k7m3]
  instanceTypes := #[(.array .byte), .byte, .int, .boolean]
  staticTypes := #[.long, .boolean, (.array (.object "java/io/ObjectStreamField")), .char, (.object "java/util/Comparator"), .byte, .byte]
  resolved := Array.replicate 1451 none
  statics := some 0 }

def pool8 : Array CpInfo := pool [(1, .methodref 2 3), (0, .class_ 4), (0, .nameAndType 5 6), (0, u "java/lang/Object"), (0, u "<init>"), (0, u "()V"), (0, .string 8), (0, u "file"), (0, .methodref 10 11), (0, .class_ 12), (0, .nameAndType 13 14), (0, u "java/util/Objects"), (0, u "requireNonNull"), (0, u "(Ljava/lang/Object;Ljava/lang/String;)Ljava/lang/Object;"), (0, .class_ 16), (0, u "java/lang/String"), (0, .fieldref 18 19), (0, .class_ 20), (0, .nameAndType 8 21), (0, u "com/example/exhaust/exhaust/frontend/source/SourcePosition"), (0, u "Ljava/lang/String;"), (0, .fieldref 18 23), (0, .nameAndType 24 25), (0, u "line"), (0, u "I"), (0, .fieldref 18 27), (0, .nameAndType 28 25), (0, u "column"), (4, .methodref 15 34), (0, .nameAndType 35 36), (0, u "equals"), (0, u "(Ljava/lang/Object;)Z"), (13, u "(Ljava/lang/String;II)V")] 27

def k8c0 : Code := { maxStack := 3, maxLocals := 4, code := prog_169_method_1_code, exceptionTable := #[], attributes := #[] }
def k8m0 : Method := { name := "<init>", desc := "(Ljava/lang/String;II)V", sig := { parameters := [(.object "java/lang/String"), .int, .int], returnType := none }, accessFlags := 1, code := some k8c0 }
def k8c1 : Code := { maxStack := 2, maxLocals := 3, code := prog_169_method_6_code, exceptionTable := #[], attributes := #[] }
def k8m1 : Method := { name := "equals", desc := "(Ljava/lang/Object;)Z", sig := { parameters := [(.object "java/lang/Object")], returnType := some .boolean }, accessFlags := 1, code := some k8c1 }
/-- com/example/exhaust/exhaust/frontend/source/SourcePosition -/
def k8 : Class := { plain "com/example/exhaust/exhaust/frontend/source/SourcePosition" (some 0) with
  accessFlags := 33
  interfaces := #[]
  cf := some (fileOf pool8 18 #[] #[{ accessFlags := 1, nameIndex := 5, descriptorIndex := 50, attributes := #[] }, { accessFlags := 1, nameIndex := 35, descriptorIndex := 36, attributes := #[] }] 33 2 #[] #[{ accessFlags := 18, nameIndex := 8, descriptorIndex := 21, attributes := #[] }, { accessFlags := 18, nameIndex := 24, descriptorIndex := 25, attributes := #[] }, { accessFlags := 18, nameIndex := 28, descriptorIndex := 25, attributes := #[] }])
  fields := #[{ name := "file", type := (.object "java/lang/String"), accessFlags := 18, slot := 0, constantValue := 0 }, { name := "line", type := .int, accessFlags := 18, slot := 1, constantValue := 0 }, { name := "column", type := .int, accessFlags := 18, slot := 2, constantValue := 0 }]
  methods := #[k8m0, k8m1]
  instanceTypes := #[(.object "java/lang/String"), .int, .int]
  staticTypes := #[]
  resolved := Array.replicate 78 none
  statics := none }

def pool9 : Array CpInfo := pool [(2, .class_ 4), (1, u "java/lang/Object"), (0, u "<init>"), (0, u "()V"), (35, .class_ 44), (1, u "java/util/Objects"), (0, u "requireNonNull"), (48, u "(Ljava/lang/Object;Ljava/lang/String;)Ljava/lang/Object;")] 89

def k9m0 : Method := { name := "<init>", desc := "()V", sig := { parameters := [], returnType := none }, accessFlags := 2, code := none }
def k9c1 : Code := { maxStack := 3, maxLocals := 2, code := jdk_31_method_11_code, exceptionTable := #[], attributes := #[] }
def k9m1 : Method := { name := "requireNonNull", desc := "(Ljava/lang/Object;Ljava/lang/String;)Ljava/lang/Object;", sig := { parameters := [(.object "java/lang/Object"), (.object "java/lang/String")], returnType := some (.object "java/lang/Object") }, accessFlags := 9, code := some k9c1 }
/-- java/util/Objects -/
def k9 : Class := { plain "java/util/Objects" (some 0) with
  accessFlags := 49
  interfaces := #[]
  cf := some (fileOf pool9 42 #[] #[{ accessFlags := 2, nameIndex := 5, descriptorIndex := 6, attributes := #[] }, { accessFlags := 9, nameIndex := 45, descriptorIndex := 94, attributes := #[] }] 49 2 #[] #[])
  fields := #[]
  methods := #[k9m0, k9m1]
  instanceTypes := #[]
  staticTypes := #[]
  resolved := Array.replicate 184 none
  statics := none }

def pool10 : Array CpInfo := pool [(4, .class_ 6), (1, u "java/lang/Object"), (0, u "<init>"), (0, u "()V"), (5, .class_ 16), (1, u "java/lang/StringLatin1"), (104, u "$assertionsDisabled"), (0, u "Z"), (98, .class_ 223), (1, u "java/lang/StringLatin1$LinesSpliterator"), (57, u "equals"), (0, u "([B[B)Z"), (107, .class_ 391), (0, u "java/lang/StringLatin1$CharsSpliterator")] 3

def k10m0 : Method := { name := "<init>", desc := "()V", sig := { parameters := [], returnType := none }, accessFlags := 0, code := none }
def k10c1 : Code := { maxStack := 3, maxLocals := 3, code := jdk_43_method_13_code, exceptionTable := #[], attributes := #[] }
def k10m1 : Method := { name := "equals", desc := "([B[B)Z", sig := { parameters := [(.array .byte), (.array .byte)], returnType := some .boolean }, accessFlags := 9, code := some k10c1 }
/-- java/lang/StringLatin1 -/
def k10 : Class := { plain "java/lang/StringLatin1" (some 0) with
  accessFlags := 48
  interfaces := #[]
  cf := some (fileOf pool10 14 #[.nestMembers #[390, 221]] #[{ accessFlags := 0, nameIndex := 7, descriptorIndex := 8, attributes := #[] }, { accessFlags := 9, nameIndex := 281, descriptorIndex := 282, attributes := #[] }] 48 4 #[] #[{ accessFlags := 4120, nameIndex := 121, descriptorIndex := 122, attributes := #[] }])
  fields := #[{ name := "$assertionsDisabled", type := .boolean, accessFlags := 4120, slot := 0, constantValue := 0 }]
  methods := #[k10m0, k10m1]
  instanceTypes := #[]
  staticTypes := #[.boolean]
  resolved := Array.replicate 395 none
  statics := none }

def pool11 : Array CpInfo := pool [(6, .class_ 8), (1, u "java/lang/Object"), (0, u "<init>"), (0, u "()V"), (1, .class_ 14), (1, u "java/lang/StringUTF16"), (31, u "$assertionsDisabled"), (0, u "Z"), (13, u "HI_BYTE_SHIFT"), (0, u "I"), (2, u "LO_BYTE_SHIFT"), (49, .methodref 12 116), (0, .nameAndType 117 118), (0, u "compress"), (0, u "([CI[BII)I"), (3, u "([CII)[B"), (138, u "coderFromArrayLen"), (0, u "([BI)B"), (106, .class_ 371), (1, u "java/lang/StringUTF16$LinesSpliterator"), (58, u "MAX_LENGTH"), (196, .class_ 628), (0, u "java/lang/StringUTF16$CodePointsSpliterator"), (0, .class_ 630), (0, u "java/lang/StringUTF16$CharsSpliterator")] 4

def k11m0 : Method := { name := "<init>", desc := "()V", sig := { parameters := [], returnType := none }, accessFlags := 0, code := none }
def k11c1 : Code := { maxStack := 2, maxLocals := 2, code := jdk_52_method_15_code, exceptionTable := #[], attributes := #[] }
def k11m1 : Method := { name := "coderFromArrayLen", desc := "([BI)B", sig := { parameters := [(.array .byte), .int], returnType := some .byte }, accessFlags := 8, code := some k11c1 }
def k11c2 : Code := { maxStack := 5, maxLocals := 6, code := jdk_52_method_16_code, exceptionTable := #[], attributes := #[] }
def k11m2 : Method := { name := "compress", desc := "([CII)[B", sig := { parameters := [(.array .char), .int, .int], returnType := some (.array .byte) }, accessFlags := 9, code := some k11c2 }
def k11c3 : Code := { maxStack := 3, maxLocals := 7, code := jdk_52_method_21_code, exceptionTable := #[], attributes := #[] }
def k11m3 : Method := { name := "compress", desc := "([CI[BII)I", sig := { parameters := [(.array .char), .int, (.array .byte), .int, .int], returnType := some .int }, accessFlags := 9, code := some k11c3 }
/-- java/lang/StringUTF16 -/
def k11 : Class := { plain "java/lang/StringUTF16" (some 0) with
  accessFlags := 48
  interfaces := #[]
  cf := some (fileOf pool11 12 #[.nestMembers #[627, 629, 369]] #[{ accessFlags := 0, nameIndex := 9, descriptorIndex := 10, attributes := #[] }, { accessFlags := 8, nameIndex := 261, descriptorIndex := 262, attributes := #[] }, { accessFlags := 9, nameIndex := 117, descriptorIndex := 122, attributes := #[] }, { accessFlags := 9, nameIndex := 117, descriptorIndex := 118, attributes := #[] }] 48 6 #[] #[{ accessFlags := 26, nameIndex := 61, descriptorIndex := 62, attributes := #[] }, { accessFlags := 26, nameIndex := 65, descriptorIndex := 62, attributes := #[] }, { accessFlags := 24, nameIndex := 430, descriptorIndex := 62, attributes := #[] }, { accessFlags := 4120, nameIndex := 46, descriptorIndex := 47, attributes := #[] }])
  fields := #[{ name := "HI_BYTE_SHIFT", type := .int, accessFlags := 26, slot := 0, constantValue := 0 }, { name := "LO_BYTE_SHIFT", type := .int, accessFlags := 26, slot := 1, constantValue := 0 }, { name := "MAX_LENGTH", type := .int, accessFlags := 24, slot := 2, constantValue := 0 }, { name := "$assertionsDisabled", type := .boolean, accessFlags := 4120, slot := 3, constantValue := 0 }]
  methods := #[k11m0, k11m1, k11m2, k11m3]
  instanceTypes := #[]
  staticTypes := #[.int, .int, .int, .boolean]
  resolved := Array.replicate 635 none
  statics := none }

def pool12 : Array CpInfo := pool [(2, .class_ 4), (1, u "java/lang/Object"), (0, u "<init>"), (0, u "()V"), (17, .class_ 26), (1, u "jdk/internal/util/Preconditions"), (28, .class_ 56), (0, u "jdk/internal/util/Preconditions$4"), (57, .class_ 115), (0, u "jdk/internal/util/Preconditions$1"), (7, u "SIOOBE_FORMATTER"), (0, u "Ljava/util/function/BiFunction;"), (0, .class_ 126), (0, u "jdk/internal/util/Preconditions$2"), (3, u "AIOOBE_FORMATTER"), (0, .class_ 132), (0, u "jdk/internal/util/Preconditions$3"), (3, u "IOOBE_FORMATTER")] 57

def k12m0 : Method := { name := "<init>", desc := "()V", sig := { parameters := [], returnType := none }, accessFlags := 1, code := none }
/-- jdk/internal/util/Preconditions -/
def k12 : Class := { plain "jdk/internal/util/Preconditions" (some 0) with
  accessFlags := 33
  interfaces := #[]
  cf := some (fileOf pool12 24 #[.nestMembers #[55, 131, 125, 114]] #[{ accessFlags := 1, nameIndex := 5, descriptorIndex := 6, attributes := #[] }] 33 2 #[] #[{ accessFlags := 25, nameIndex := 123, descriptorIndex := 124, attributes := #[] }, { accessFlags := 25, nameIndex := 130, descriptorIndex := 124, attributes := #[] }, { accessFlags := 25, nameIndex := 136, descriptorIndex := 124, attributes := #[] }])
  fields := #[{ name := "SIOOBE_FORMATTER", type := (.object "java/util/function/BiFunction"), accessFlags := 25, slot := 0, constantValue := 0 }, { name := "AIOOBE_FORMATTER", type := (.object "java/util/function/BiFunction"), accessFlags := 25, slot := 1, constantValue := 0 }, { name := "IOOBE_FORMATTER", type := (.object "java/util/function/BiFunction"), accessFlags := 25, slot := 2, constantValue := 0 }]
  methods := #[k12m0]
  instanceTypes := #[]
  staticTypes := #[(.object "java/util/function/BiFunction"), (.object "java/util/function/BiFunction"), (.object "java/util/function/BiFunction")]
  resolved := Array.replicate 194 none
  statics := some 1 }

def pool13 : Array CpInfo := pool [(9, u "<init>"), (6, .class_ 18), (1, u "java/lang/Object"), (0, u "()V"), (1, .class_ 23), (1, u "jdk/internal/util/ArraysSupport"), (0, u "LOG2_ARRAY_LONG_INDEX_SCALE"), (0, u "I"), (2, u "U"), (0, u "Ljdk/internal/misc/Unsafe;"), (8, u "BIG_ENDIAN"), (0, u "Z"), (8, u "LOG2_BYTE_BIT_SIZE"), (4, u "LOG2_ARRAY_INT_INDEX_SCALE"), (54, u "JLA"), (0, u "Ljdk/internal/access/JavaLangAccess;"), (11, u "LOG2_ARRAY_BOOLEAN_INDEX_SCALE"), (9, u "LOG2_ARRAY_BYTE_INDEX_SCALE"), (5, u "LOG2_ARRAY_CHAR_INDEX_SCALE"), (5, u "LOG2_ARRAY_SHORT_INDEX_SCALE"), (18, u "LOG2_ARRAY_FLOAT_INDEX_SCALE"), (24, u "LOG2_ARRAY_DOUBLE_INDEX_SCALE"), (89, u "T_BOOLEAN"), (2, u "T_CHAR"), (1, u "T_FLOAT"), (1, u "T_DOUBLE"), (1, u "T_BYTE"), (1, u "T_SHORT"), (1, u "T_INT"), (1, u "T_LONG"), (1, u "SOFT_MAX_ARRAY_LENGTH")] 83

def k13m0 : Method := { name := "<init>", desc := "()V", sig := { parameters := [], returnType := none }, accessFlags := 2, code := none }
/-- jdk/internal/util/ArraysSupport -/
def k13 : Class := { plain "jdk/internal/util/ArraysSupport" (some 0) with
  accessFlags := 33
  interfaces := #[]
  cf := some (fileOf pool13 21 #[] #[{ accessFlags := 2, nameIndex := 9, descriptorIndex := 19, attributes := #[] }] 33 16 #[] #[{ accessFlags := 24, nameIndex := 28, descriptorIndex := 29, attributes := #[] }, { accessFlags := 26, nameIndex := 38, descriptorIndex := 39, attributes := #[] }, { accessFlags := 25, nameIndex := 121, descriptorIndex := 25, attributes := #[] }, { accessFlags := 25, nameIndex := 131, descriptorIndex := 25, attributes := #[] }, { accessFlags := 25, nameIndex := 137, descriptorIndex := 25, attributes := #[] }, { accessFlags := 25, nameIndex := 143, descriptorIndex := 25, attributes := #[] }, { accessFlags := 25, nameIndex := 53, descriptorIndex := 25, attributes := #[] }, { accessFlags := 25, nameIndex := 24, descriptorIndex := 25, attributes := #[] }, { accessFlags := 25, nameIndex := 162, descriptorIndex := 25, attributes := #[] }, { accessFlags := 25, nameIndex := 187, descriptorIndex := 25, attributes := #[] }, { accessFlags := 26, nameIndex := 48, descriptorIndex := 25, attributes := #[] }, { accessFlags := 25, nameIndex := 277, descriptorIndex := 25, attributes := #[] }, { accessFlags := 25, nameIndex := 280, descriptorIndex := 25, attributes := #[] }, { accessFlags := 25, nameIndex := 282, descriptorIndex := 25, attributes := #[] }, { accessFlags := 25, nameIndex := 284, descriptorIndex := 25, attributes := #[] }, { accessFlags := 25, nameIndex := 286, descriptorIndex := 25, attributes := #[] }, { accessFlags := 25, nameIndex := 288, descriptorIndex := 25, attributes := #[] }, { accessFlags := 25, nameIndex := 290, descriptorIndex := 25, attributes := #[] }, { accessFlags := 25, nameIndex := 292, descriptorIndex := 25, attributes := #[] }, { accessFlags := 26, nameIndex := 108, descriptorIndex := 109, attributes := #[] }, { accessFlags := 25, nameIndex := 294, descriptorIndex := 25, attributes := #[] }])
  fields := #[{ name := "U", type := (.object "jdk/internal/misc/Unsafe"), accessFlags := 24, slot := 0, constantValue := 0 }, { name := "BIG_ENDIAN", type := .boolean, accessFlags := 26, slot := 1, constantValue := 0 }, { name := "LOG2_ARRAY_BOOLEAN_INDEX_SCALE", type := .int, accessFlags := 25, slot := 2, constantValue := 0 }, { name := "LOG2_ARRAY_BYTE_INDEX_SCALE", type := .int, accessFlags := 25, slot := 3, constantValue := 0 }, { name := "LOG2_ARRAY_CHAR_INDEX_SCALE", type := .int, accessFlags := 25, slot := 4, constantValue := 0 }, { name := "LOG2_ARRAY_SHORT_INDEX_SCALE", type := .int, accessFlags := 25, slot := 5, constantValue := 0 }, { name := "LOG2_ARRAY_INT_INDEX_SCALE", type := .int, accessFlags := 25, slot := 6, constantValue := 0 }, { name := "LOG2_ARRAY_LONG_INDEX_SCALE", type := .int, accessFlags := 25, slot := 7, constantValue := 0 }, { name := "LOG2_ARRAY_FLOAT_INDEX_SCALE", type := .int, accessFlags := 25, slot := 8, constantValue := 0 }, { name := "LOG2_ARRAY_DOUBLE_INDEX_SCALE", type := .int, accessFlags := 25, slot := 9, constantValue := 0 }, { name := "LOG2_BYTE_BIT_SIZE", type := .int, accessFlags := 26, slot := 10, constantValue := 0 }, { name := "T_BOOLEAN", type := .int, accessFlags := 25, slot := 11, constantValue := 0 }, { name := "T_CHAR", type := .int, accessFlags := 25, slot := 12, constantValue := 0 }, { name := "T_FLOAT", type := .int, accessFlags := 25, slot := 13, constantValue := 0 }, { name := "T_DOUBLE", type := .int, accessFlags := 25, slot := 14, constantValue := 0 }, { name := "T_BYTE", type := .int, accessFlags := 25, slot := 15, constantValue := 0 }, { name := "T_SHORT", type := .int, accessFlags := 25, slot := 16, constantValue := 0 }, { name := "T_INT", type := .int, accessFlags := 25, slot := 17, constantValue := 0 }, { name := "T_LONG", type := .int, accessFlags := 25, slot := 18, constantValue := 0 }, { name := "JLA", type := (.object "jdk/internal/access/JavaLangAccess"), accessFlags := 26, slot := 19, constantValue := 0 }, { name := "SOFT_MAX_ARRAY_LENGTH", type := .int, accessFlags := 25, slot := 20, constantValue := 0 }]
  methods := #[k13m0]
  instanceTypes := #[]
  staticTypes := #[(.object "jdk/internal/misc/Unsafe"), .boolean, .int, .int, .int, .int, .int, .int, .int, .int, .int, .int, .int, .int, .int, .int, .int, .int, .int, (.object "jdk/internal/access/JavaLangAccess"), .int]
  resolved := Array.replicate 378 none
  statics := none }

def pool14 : Array CpInfo := pool [(1, u "java/lang/Cloneable"), (0, .class_ 1), (0, u "java/lang/Object"), (0, .class_ 3)] 3

/-- java/lang/Cloneable -/
def k14 : Class := { plain "java/lang/Cloneable" (some 0) with
  accessFlags := 1537
  interfaces := #[]
  cf := some (fileOf pool14 2 #[] #[] 1537 4 #[] #[])
  fields := #[]
  methods := #[]
  instanceTypes := #[]
  staticTypes := #[]
  resolved := Array.replicate 8 none
  statics := none }

/-- the primitive byte -/
def k15 : Class := { plain "byte" none with kind := .primitive 'B', accessFlags := 0x411 }
/-- [B -/
def k16 : Class := { plain "[B" (some 0) with kind := .array 15 .byte, interfaces := #[14, 2], accessFlags := 1041 }

/-- the primitive char -/
def k17 : Class := { plain "char" none with kind := .primitive 'C', accessFlags := 0x411 }
/-- [C -/
def k18 : Class := { plain "[C" (some 0) with kind := .array 17 .char, interfaces := #[14, 2], accessFlags := 1041 }

/-- the primitive int -/
def k19 : Class := { plain "int" none with kind := .primitive 'I', accessFlags := 0x411 }
/-- [I -/
def k20 : Class := { plain "[I" (some 0) with kind := .array 19 .int, interfaces := #[14, 2], accessFlags := 1041 }

def heap : Heap := #[{ cls := 7, slots := #[.long 0, .int 1, .null, .int 0, .null, .int 0, .int 0], vm := .statics 7 },
  { cls := 12, slots := #[.null, .null, .null], vm := .statics 12 }]
def classes : Array Class := #[k0, k1, k2, k3, k4, k5, k6, k7, k8, k9, k10, k11, k12, k13, k14, k15, k16, k17, k18, k19, k20]
def interned : List (Array UInt16 × Addr) := []
def slotsUsed : Nat := 10
def theMethod : MethodId := ⟨1, 4⟩
def args0 : Array Value := #[.int 5, .int 3, .int 1, .int 7, .int 2, .int 9]
def aboutOver (below : List Frame) : State where
  vm := { classes := classes, interned := interned.toArray }
  heap := heap
  slotsUsed := slotsUsed
  threads := #[{ frames := .invoking theMethod args0 :: below }]
def below0 : List Frame := [.native { method := ⟨0, 0⟩, args := #[] }]
def about1 : State := aboutOver below0
def p0 : Program := .bare "" "" ""
def e0 : Env := launch0.env 0 0 0
theorem w_frames : about1.frames = Frame.invoking theMethod args0 :: below0 := rfl
set_option maxRecDepth 65536 in
theorem w_args : argsFit about1.vm theMethod args0 = true := by decide +kernel
set_option maxRecDepth 65536 in
theorem w_heap : heapFits about1 = true := by decide +kernel
set_option maxRecDepth 65536 in
theorem w_runnable : about1.curStatus? = some .runnable := by decide +kernel
set_option maxRecDepth 65536 in
theorem w_alone : about1.alone = true := by decide +kernel
set_option maxRecDepth 65536 in
theorem w_named : about1.methodNamed? x = some theMethod := by decide +kernel
set_option maxRecDepth 65536 in
theorem w_hears : about1.hears theMethod below0 = true := by decide +kernel
set_option maxRecDepth 65536 in
theorem w_ripe : about1.ripe theMethod args0 below0 = true := by decide +kernel
theorem w_running : about1.status = .running := rfl
set_option maxRecDepth 65536 in
theorem w_room : about1.hasRoom e0.platform room_1 = true :=
  launch0.hasRoom_least _ room_1 (by decide +kernel) (by decide +kernel) (by decide +kernel) (by decide +kernel) (by decide +kernel) (by decide +kernel)
theorem allAtoms_all (ts : List Jvm.Cond) (a : Array Jvm.Value) (st : Jvm.State) : (allAtoms ts).before a st = ts.all (fun c => c.before a st) := by
  induction ts with
  | nil => rfl
  | cons c t ih =>
    show (Jvm.Cond.and c (allAtoms t)).before a st = _
    rw [Jvm.Cond.before_and, ih, List.all_cons]
def words1 : List Jvm.Cond := Jvm.Cond.code x code maxLocals ret :: tables_1
/-- a 'code' word, met by the world's own term for the bytes: nothing is compared byte by byte -/
theorem code_word {y : MethodName} {bytes : ByteArray} {mx : Nat} {rt : Option FieldType} {a : Array Value} {s : State} {m : MethodId} {meth : Method} {c : Code} (h1 : s.methodNamed? y = some m) (h2 : s.vm.method? m = some meth) (h3 : meth.code = some c) (h4 : c.code = bytes)
    (h5 : (c.maxLocals == mx && c.exceptionTable.isEmpty && decide (c.maxStack ≤ mostOperands) && decide (meth.sig.returnType = rt) && !meth.locks && decide (parseMethodDescriptor y.desc = some meth.sig)) = true) : (Jvm.Cond.code y bytes mx rt).before a s = true := by
  simp only [Bool.and_eq_true, beq_iff_eq, Bool.not_eq_true', decide_eq_true_eq] at h5
  obtain ⟨⟨⟨⟨⟨g1, g2⟩, g3⟩, g4⟩, g5⟩, g6⟩ := h5
  simp [Cond.before, Cond.holds, Cond.value, h1, h2, h3, h4, g1, g2, g3, g4, g5, g6]
def isCode : Jvm.Cond → Bool
  | .code _ _ _ _ => true
  | _ => false
theorem all_split {L : List Jvm.Cond} {P : Jvm.Cond → Bool} (h1 : L.all (fun c => isCode c || P c) = true) (h2 : ∀ c ∈ L.filter isCode, P c = true) : L.all P = true := by
  refine List.all_eq_true.mpr fun c hc => ?_
  have h := List.all_eq_true.mp h1 c hc
  rcases Bool.eq_false_or_eq_true (isCode c) with hi | hi
  · exact h2 c (List.mem_filter.mpr ⟨hc, hi⟩)
  · simpa [hi] using h
set_option maxRecDepth 65536 in
theorem w_c0 : (Jvm.Cond.code x code maxLocals ret).before args0 about1 = true := code_word (m := ⟨1, 4⟩) (meth := k1m4) (c := k1c4) (by decide +kernel) rfl rfl rfl (by decide +kernel)
set_option maxRecDepth 65536 in
theorem w_c1 : (Jvm.Cond.code ({ cls := "com/example/exhaust/exhaust/frontend/source/SourcePositionEqualsPinLaw", name := "len", desc := "(I)I" } : Jvm.MethodName) method_2_code (1 : Nat) (Option.some Jvm.ClassFile.FieldType.int)).before args0 about1 = true := code_word (m := ⟨1, 1⟩) (meth := k1m1) (c := k1c1) (by decide +kernel) rfl rfl rfl (by decide +kernel)
set_option maxRecDepth 65536 in
theorem w_c2 : (Jvm.Cond.code ({ cls := "com/example/exhaust/exhaust/frontend/source/SourcePositionEqualsPinLaw", name := "mk", desc := "(ICC)Ljava/lang/String;" } : Jvm.MethodName) method_3_code (3 : Nat) (Option.some (Jvm.ClassFile.FieldType.object "java/lang/String"))).before args0 about1 = true := code_word (m := ⟨1, 2⟩) (meth := k1m2) (c := k1c2) (by decide +kernel) rfl rfl rfl (by decide +kernel)
set_option maxRecDepth 65536 in
theorem w_c3 : (Jvm.Cond.code ({ cls := "java/lang/String", name := "<init>", desc := "([C)V" } : Jvm.MethodName) jdk_42_method_3_code (2 : Nat) (Option.none : Option Jvm.ClassFile.FieldType)).before args0 about1 = true := code_word (m := ⟨7, 1⟩) (meth := k7m1) (c := k7c1) (by decide +kernel) rfl rfl rfl (by decide +kernel)
set_option maxRecDepth 65536 in
theorem w_c4 : (Jvm.Cond.code ({ cls := "java/lang/String", name := "<init>", desc := "([CIILjava/lang/Void;)V" } : Jvm.MethodName) jdk_42_method_149_code (6 : Nat) (Option.none : Option Jvm.ClassFile.FieldType)).before args0 about1 = true := code_word (m := ⟨7, 3⟩) (meth := k7m3) (c := k7c3) (by decide +kernel) rfl rfl rfl (by decide +kernel)
set_option maxRecDepth 65536 in
theorem w_c5 : (Jvm.Cond.code ({ cls := "java/lang/Object", name := "<init>", desc := "()V" } : Jvm.MethodName) object_method_1_code (1 : Nat) (Option.none : Option Jvm.ClassFile.FieldType)).before args0 about1 = true := code_word (m := ⟨0, 0⟩) (meth := k0m0) (c := k0c0) (by decide +kernel) rfl rfl rfl (by decide +kernel)
set_option maxRecDepth 65536 in
theorem w_c6 : (Jvm.Cond.code ({ cls := "com/example/exhaust/exhaust/frontend/source/SourcePosition", name := "<init>", desc := "(Ljava/lang/String;II)V" } : Jvm.MethodName) prog_169_method_1_code (4 : Nat) (Option.none : Option Jvm.ClassFile.FieldType)).before args0 about1 = true := code_word (m := ⟨8, 0⟩) (meth := k8m0) (c := k8c0) (by decide +kernel) rfl rfl rfl (by decide +kernel)
set_option maxRecDepth 65536 in
theorem w_c7 : (Jvm.Cond.code ({ cls := "java/util/Objects", name := "requireNonNull", desc := "(Ljava/lang/Object;Ljava/lang/String;)Ljava/lang/Object;" } : Jvm.MethodName) jdk_31_method_11_code (2 : Nat) (Option.some (Jvm.ClassFile.FieldType.object "java/lang/Object"))).before args0 about1 = true := code_word (m := ⟨9, 1⟩) (meth := k9m1) (c := k9c1) (by decide +kernel) rfl rfl rfl (by decide +kernel)
set_option maxRecDepth 65536 in
theorem w_c8 : (Jvm.Cond.code ({ cls := "com/example/exhaust/exhaust/frontend/source/SourcePositionEqualsPinLaw", name := "sameText", desc := "(ICCICC)Z" } : Jvm.MethodName) method_4_code (6 : Nat) (Option.some Jvm.ClassFile.FieldType.boolean)).before args0 about1 = true := code_word (m := ⟨1, 3⟩) (meth := k1m3) (c := k1c3) (by decide +kernel) rfl rfl rfl (by decide +kernel)
set_option maxRecDepth 65536 in
theorem w_c9 : (Jvm.Cond.code ({ cls := "com/example/exhaust/exhaust/frontend/source/SourcePosition", name := "equals", desc := "(Ljava/lang/Object;)Z" } : Jvm.MethodName) prog_169_method_6_code (3 : Nat) (Option.some Jvm.ClassFile.FieldType.boolean)).before args0 about1 = true := code_word (m := ⟨8, 1⟩) (meth := k8m1) (c := k8c1) (by decide +kernel) rfl rfl rfl (by decide +kernel)
set_option maxRecDepth 65536 in
theorem w_c10 : (Jvm.Cond.code ({ cls := "java/lang/String", name := "equals", desc := "(Ljava/lang/Object;)Z" } : Jvm.MethodName) jdk_42_method_66_code (3 : Nat) (Option.some Jvm.ClassFile.FieldType.boolean)).before args0 about1 = true := code_word (m := ⟨7, 2⟩) (meth := k7m2) (c := k7c2) (by decide +kernel) rfl rfl rfl (by decide +kernel)
set_option maxRecDepth 65536 in
theorem w_c11 : (Jvm.Cond.code ({ cls := "java/lang/StringLatin1", name := "equals", desc := "([B[B)Z" } : Jvm.MethodName) jdk_43_method_13_code (3 : Nat) (Option.some Jvm.ClassFile.FieldType.boolean)).before args0 about1 = true := code_word (m := ⟨10, 1⟩) (meth := k10m1) (c := k10c1) (by decide +kernel) rfl rfl rfl (by decide +kernel)
set_option maxRecDepth 65536 in
theorem w_c12 : (Jvm.Cond.code ({ cls := "java/lang/StringUTF16", name := "compress", desc := "([CII)[B" } : Jvm.MethodName) jdk_52_method_16_code (6 : Nat) (Option.some (Jvm.ClassFile.FieldType.array Jvm.ClassFile.FieldType.byte))).before args0 about1 = true := code_word (m := ⟨11, 2⟩) (meth := k11m2) (c := k11c2) (by decide +kernel) rfl rfl rfl (by decide +kernel)
set_option maxRecDepth 65536 in
theorem w_c13 : (Jvm.Cond.code ({ cls := "java/lang/StringUTF16", name := "compress", desc := "([CI[BII)I" } : Jvm.MethodName) jdk_52_method_21_code (7 : Nat) (Option.some Jvm.ClassFile.FieldType.int)).before args0 about1 = true := code_word (m := ⟨11, 3⟩) (meth := k11m3) (c := k11c3) (by decide +kernel) rfl rfl rfl (by decide +kernel)
set_option maxRecDepth 65536 in
theorem w_c14 : (Jvm.Cond.code ({ cls := "java/lang/StringUTF16", name := "coderFromArrayLen", desc := "([BI)B" } : Jvm.MethodName) jdk_52_method_15_code (2 : Nat) (Option.some Jvm.ClassFile.FieldType.byte)).before args0 about1 = true := code_word (m := ⟨11, 1⟩) (meth := k11m1) (c := k11c1) (by decide +kernel) rfl rfl rfl (by decide +kernel)
def codes1 : List Jvm.Cond := [Jvm.Cond.code x code maxLocals ret, Jvm.Cond.code ({ cls := "com/example/exhaust/exhaust/frontend/source/SourcePositionEqualsPinLaw", name := "len", desc := "(I)I" } : Jvm.MethodName) method_2_code (1 : Nat) (Option.some Jvm.ClassFile.FieldType.int), Jvm.Cond.code ({ cls := "com/example/exhaust/exhaust/frontend/source/SourcePositionEqualsPinLaw", name := "mk", desc := "(ICC)Ljava/lang/String;" } : Jvm.MethodName) method_3_code (3 : Nat) (Option.some (Jvm.ClassFile.FieldType.object "java/lang/String")), Jvm.Cond.code ({ cls := "java/lang/String", name := "<init>", desc := "([C)V" } : Jvm.MethodName) jdk_42_method_3_code (2 : Nat) (Option.none : Option Jvm.ClassFile.FieldType), Jvm.Cond.code ({ cls := "java/lang/String", name := "<init>", desc := "([CIILjava/lang/Void;)V" } : Jvm.MethodName) jdk_42_method_149_code (6 : Nat) (Option.none : Option Jvm.ClassFile.FieldType), Jvm.Cond.code ({ cls := "java/lang/Object", name := "<init>", desc := "()V" } : Jvm.MethodName) object_method_1_code (1 : Nat) (Option.none : Option Jvm.ClassFile.FieldType), Jvm.Cond.code ({ cls := "com/example/exhaust/exhaust/frontend/source/SourcePosition", name := "<init>", desc := "(Ljava/lang/String;II)V" } : Jvm.MethodName) prog_169_method_1_code (4 : Nat) (Option.none : Option Jvm.ClassFile.FieldType), Jvm.Cond.code ({ cls := "java/util/Objects", name := "requireNonNull", desc := "(Ljava/lang/Object;Ljava/lang/String;)Ljava/lang/Object;" } : Jvm.MethodName) jdk_31_method_11_code (2 : Nat) (Option.some (Jvm.ClassFile.FieldType.object "java/lang/Object")), Jvm.Cond.code ({ cls := "com/example/exhaust/exhaust/frontend/source/SourcePositionEqualsPinLaw", name := "sameText", desc := "(ICCICC)Z" } : Jvm.MethodName) method_4_code (6 : Nat) (Option.some Jvm.ClassFile.FieldType.boolean), Jvm.Cond.code ({ cls := "com/example/exhaust/exhaust/frontend/source/SourcePosition", name := "equals", desc := "(Ljava/lang/Object;)Z" } : Jvm.MethodName) prog_169_method_6_code (3 : Nat) (Option.some Jvm.ClassFile.FieldType.boolean), Jvm.Cond.code ({ cls := "java/lang/String", name := "equals", desc := "(Ljava/lang/Object;)Z" } : Jvm.MethodName) jdk_42_method_66_code (3 : Nat) (Option.some Jvm.ClassFile.FieldType.boolean), Jvm.Cond.code ({ cls := "java/lang/StringLatin1", name := "equals", desc := "([B[B)Z" } : Jvm.MethodName) jdk_43_method_13_code (3 : Nat) (Option.some Jvm.ClassFile.FieldType.boolean), Jvm.Cond.code ({ cls := "java/lang/StringUTF16", name := "compress", desc := "([CII)[B" } : Jvm.MethodName) jdk_52_method_16_code (6 : Nat) (Option.some (Jvm.ClassFile.FieldType.array Jvm.ClassFile.FieldType.byte)), Jvm.Cond.code ({ cls := "java/lang/StringUTF16", name := "compress", desc := "([CI[BII)I" } : Jvm.MethodName) jdk_52_method_21_code (7 : Nat) (Option.some Jvm.ClassFile.FieldType.int), Jvm.Cond.code ({ cls := "java/lang/StringUTF16", name := "coderFromArrayLen", desc := "([BI)B" } : Jvm.MethodName) jdk_52_method_15_code (2 : Nat) (Option.some Jvm.ClassFile.FieldType.byte)]
set_option maxRecDepth 65536 in
theorem codes_eq : words1.filter isCode = codes1 := rfl
theorem w_codes : ∀ c ∈ words1.filter isCode, c.before args0 about1 = true := by
  rw [codes_eq]
  intro c hc
  simp only [codes1, List.mem_cons, List.not_mem_nil, or_false] at hc
  rcases hc with rfl | rfl | rfl | rfl | rfl | rfl | rfl | rfl | rfl | rfl | rfl | rfl | rfl | rfl | rfl
  · exact w_c0
  · exact w_c1
  · exact w_c2
  · exact w_c3
  · exact w_c4
  · exact w_c5
  · exact w_c6
  · exact w_c7
  · exact w_c8
  · exact w_c9
  · exact w_c10
  · exact w_c11
  · exact w_c12
  · exact w_c13
  · exact w_c14
set_option maxRecDepth 65536 in
theorem w_t1 : (words1.take 24).all (fun c => isCode c || c.before args0 about1) = true := by decide +kernel
set_option maxRecDepth 65536 in
theorem w_t2 : ((words1.drop 24).take 24).all (fun c => isCode c || c.before args0 about1) = true := by decide +kernel
set_option maxRecDepth 65536 in
theorem w_t3 : (((words1.drop 24).drop 24).take 24).all (fun c => isCode c || c.before args0 about1) = true := by decide +kernel
set_option maxRecDepth 65536 in
theorem w_t4 : (((words1.drop 24).drop 24).drop 24).all (fun c => isCode c || c.before args0 about1) = true := by decide +kernel
theorem w_tables : (allAtoms (Jvm.Cond.code x code maxLocals ret :: tables_1)).before args0 about1 = true := by
  rw [allAtoms_all]
  show words1.all (fun c => c.before args0 about1) = true
  refine all_split ?_ w_codes
  rw [← List.take_append_drop 24 words1, List.all_append, w_t1, ← List.take_append_drop 24 (words1.drop 24), List.all_append, w_t2, ← List.take_append_drop 24 ((words1.drop 24).drop 24), List.all_append, w_t3, w_t4]
  rfl
set_option maxRecDepth 65536 in
theorem w_rest : rest_1_c.before args0 about1 = true := by decide +kernel
set_option maxRecDepth 65536 in
theorem w_case : (Jvm.Cond.and given_1 narrow_1).before args0 about1 = true := by decide +kernel
set_option maxRecDepth 65536 in
theorem w_consts : constsHeld consts_1 about1 := Jvm.Lit.constsHeldB_iff.mp (by decide +kernel)
theorem w_applies : (headSpec (Jvm.Cond.code x code maxLocals ret :: tables_1) room_1).applies x e0.platform about1 = true :=
  (Spec.applies_iff w_frames).mpr ⟨w_running, w_runnable, w_alone, w_named, w_hears, w_ripe, w_room, w_tables⟩
theorem atStart : AtStart classFile x code maxLocals ret World_1 tables_1 room_1 Calls_1 rest_1 Pre_1 launch0 p0 e0 about1 theMethod args0 below0 :=
  ⟨lists_1, trivial, launch0.admits_env _ _ _, launch0.least_env, fairChoices_fair.cas, fairChoices_fair.clock, w_frames, w_args, w_heap, w_applies, ⟨w_consts, trivial⟩, w_rest, w_case⟩
end start1
theorem witness_1 : WitnessClaimed_1 := ⟨start1.p0, start1.e0, start1.about1, start1.theMethod, start1.args0, start1.below0, start1.atStart⟩
end Jvm.Pilot.@@N@@
